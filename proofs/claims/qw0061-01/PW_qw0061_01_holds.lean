import PyProof.Rows.All
import Wide.All
import OpenK.AllK
import Wide.FinOn
import PyProof.Rows.RaiseClass
import KE.KSuperObj
import PyProof.EqKinds
import PyProof.EnumStmt
import PyProof.EnumMake
import KE.KSortTup
import Lean
import PySem.Challenge.RW_qw0061_01
set_option Elab.async false
set_option genInjectivity false
set_option genSizeOf false
set_option maxRecDepth 100000
set_option maxHeartbeats 0
set_option linter.unusedVariables false
set_option pp.deepTerms false
set_option pp.deepTerms.threshold 6
open PySem PySem.W PyProof.Rows
namespace Mine
noncomputable def Ad8(i:Nat):Stmt:=(PySem.Challenge.rw_qw0061_01.row.prog.main.body[i]?).getD (.Pass default)
noncomputable def vw:Program:={PySem.Challenge.rw_qw0061_01.row.prog with main:={PySem.Challenge.rw_qw0061_01.row.prog.main with body:=[Ad8 0,Ad8 2,Ad8 4,Ad8 6,Ad8 7,Ad8 9,Ad8 11,Ad8 13,Ad8 14,Ad8 15,Ad8 16,Ad8 18,Ad8 19,Ad8 20,Ad8 21,Ad8 22,Ad8 23,Ad8 24,Ad8 26,Ad8 27,Ad8 30,Ad8 31,Ad8 32,Ad8 33,Ad8 34,Ad8 35,Ad8 36,Ad8 37,Ad8 38,Ad8 39,Ad8 40,Ad8 41,Ad8 42,Ad8 43,Ad8 44,Ad8 45,Ad8 46,Ad8 47]}}
theorem ADJ:OpenLaw.wellSaid PySem.Challenge.rw_qw0061_01=true:=by kernel_rfl
noncomputable def vwX(s:Shared):Bool:=xlAt vw [] s && recOk (RowW.records PySem.Challenge.rw_qw0061_01.row.toRowW) s
theorem AFJ(s:Shared)(e:vwX s=true):XL vw [] (s.heap.nsMap mainGlobals) s.heap:=xl_of s (Bool.and_eq_true_iff.mp e).1
theorem vwR(s:Shared)(e:vwX s=true):RecFacts (RowW.records PySem.Challenge.rw_qw0061_01.row.toRowW) s.heap:=recFacts_of (Bool.and_eq_true_iff.mp e).2
theorem vwB:PySem.Challenge.rw_qw0061_01.row.prog.bare:=⟨rfl,rfl,rfl,rfl,rfl,by decide +kernel⟩
local macro_rules | `(tactic| k_head) => `(tactic| x_head)
local macro_rules | `(tactic| o_law) => `(tactic| refine holds_law ADJ fun said => ?_)
theorem AAJ(H:Hook){d:DefRec}{kwd:List (Str×Expr)}(said:PySem.Challenge.rw_qw0061_01.row.wellSaid=true)(hdef:defOf vw PySem.Challenge.rw_qw0061_01.row.name=some (d,kwd))(hp:PySem.Challenge.rw_qw0061_01.row.prog.theDef PySem.Challenge.rw_qw0061_01.row.name=some (d.params,d.body,d.scope))(hk:kwWritten? d.params.kwonlyargs d.params.kw_defaults=some kwd)
  (hl:LeftO PySem.Challenge.rw_qw0061_01.row.prog vw [Str.ofString "_initial_missing",Str.ofString "reduce"] vwX H.obs H.val 3684) (hw:PySem.Challenge.rw_qw0061_01.row.toRowW.promised) (hc:WalkO vw [Str.ofString "_initial_missing",Str.ofString "reduce"] (XL vw []) H.says PySem.Challenge.rw_qw0061_01.row.toRowW d kwd fun f vs=>PySem.call f vs):PySem.Challenge.rw_qw0061_01.row.Holds:=
 holds_open hl H.of H.keeps AFJ XL.keeps hdef hp hk vwR (by rfl) said (by decide +kernel) vwB hw hc
set_option hygiene false
local macro_rules | `(tactic| o_head $H) => `(tactic| (refine AAJ $H (by assumption) (by rfl) (by rfl) (by rfl) ?hl ?hw ?hc; case hl => (intro w; kernel_rfl)))
set_option hygiene true
open_top hd for PySem.Challenge.rw_qw0061_01
end Mine
namespace Mine
open PySem
universe u u1 u2 u3 u4 u5 u6 u7 u8 u9 u10
theorem Aah{α:Type u}{r:α}{P:Prop}(h:none=some r):P:=by cases h
theorem sj{α:Type u}{a b:α}(h:some a=some b):a=b:=Option.some.inj h
theorem Abg{c:Prop}[Decidable c]{α:Type u}{x:Option α}{r:α}(h:(if c then x else none)=some r):c∧x=some r:=by
 by_cases hc:c
 ·rw[if_pos hc] at h;exact⟨hc,h⟩
 ·rw[if_neg hc] at h;exact Aah h
theorem Aaz {P0 P1:Prop}{G:Prop}(h:P0∧P1)(k:P0→P1→G):G:=k  h.1 h.2
theorem Ahs {P0 P1 P2:Prop}{G:Prop}(h:P0∧P1∧P2)(k:P0→P1→P2→G):G:=k  h.1 h.2.1 h.2.2
theorem AoR {P0 P1 P2 P3:Prop}{G:Prop}(h:P0∧P1∧P2∧P3)(k:P0→P1→P2→P3→G):G:=k  h.1 h.2.1 h.2.2.1 h.2.2.2
theorem AAK {P0 P1 P2 P3 P4:Prop}{G:Prop}(h:P0∧P1∧P2∧P3∧P4)(k:P0→P1→P2→P3→P4→G):G:=k  h.1 h.2.1 h.2.2.1 h.2.2.2.1 h.2.2.2.2
theorem AFK {P0 P1 P2 P3 P4 P5:Prop}{G:Prop}(h:P0∧P1∧P2∧P3∧P4∧P5)(k:P0→P1→P2→P3→P4→P5→G):G:=k  h.1 h.2.1 h.2.2.1 h.2.2.2.1 h.2.2.2.2.1 h.2.2.2.2.2
theorem AE8 {P0 P1 P2 P3 P4 P5 P6 P7:Prop}{G:Prop}(h:P0∧P1∧P2∧P3∧P4∧P5∧P6∧P7)(k:P0→P1→P2→P3→P4→P5→P6→P7→G):G:=k  h.1 h.2.1 h.2.2.1 h.2.2.2.1 h.2.2.2.2.1 h.2.2.2.2.2.1 h.2.2.2.2.2.2.1 h.2.2.2.2.2.2.2
theorem AE9 {P0 P1 P2 P3 P4 P5 P6 P7 P8:Prop}{G:Prop}(h:P0∧P1∧P2∧P3∧P4∧P5∧P6∧P7∧P8)(k:P0→P1→P2→P3→P4→P5→P6→P7→P8→G):G:=k  h.1 h.2.1 h.2.2.1 h.2.2.2.1 h.2.2.2.2.1 h.2.2.2.2.2.1 h.2.2.2.2.2.2.1 h.2.2.2.2.2.2.2.1 h.2.2.2.2.2.2.2.2
theorem ADK {P0 P1 P2 P3 P4 P5 P6 P7 P8 P9:Prop}{G:Prop}(h:P0∧P1∧P2∧P3∧P4∧P5∧P6∧P7∧P8∧P9)(k:P0→P1→P2→P3→P4→P5→P6→P7→P8→P9→G):G:=k  h.1 h.2.1 h.2.2.1 h.2.2.2.1 h.2.2.2.2.1 h.2.2.2.2.2.1 h.2.2.2.2.2.2.1 h.2.2.2.2.2.2.2.1 h.2.2.2.2.2.2.2.2.1 h.2.2.2.2.2.2.2.2.2
theorem AAL {P0 P1 P2 P3 P4 P5 P6 P7 P8 P9 P10:Prop}{G:Prop}(h:P0∧P1∧P2∧P3∧P4∧P5∧P6∧P7∧P8∧P9∧P10)(k:P0→P1→P2→P3→P4→P5→P6→P7→P8→P9→P10→G):G:=k  h.1 h.2.1 h.2.2.1 h.2.2.2.1 h.2.2.2.2.1 h.2.2.2.2.2.1 h.2.2.2.2.2.2.1 h.2.2.2.2.2.2.2.1 h.2.2.2.2.2.2.2.2.1 h.2.2.2.2.2.2.2.2.2.1 h.2.2.2.2.2.2.2.2.2.2
theorem ADL {P0 P1 P2 P3 P4 P5 P6 P7 P8 P9 P10 P11 P12 P13 P14:Prop}{G:Prop}(h:P0∧P1∧P2∧P3∧P4∧P5∧P6∧P7∧P8∧P9∧P10∧P11∧P12∧P13∧P14)(k:P0→P1→P2→P3→P4→P5→P6→P7→P8→P9→P10→P11→P12→P13→P14→G):G:=k  h.1 h.2.1 h.2.2.1 h.2.2.2.1 h.2.2.2.2.1 h.2.2.2.2.2.1 h.2.2.2.2.2.2.1 h.2.2.2.2.2.2.2.1 h.2.2.2.2.2.2.2.2.1 h.2.2.2.2.2.2.2.2.2.1 h.2.2.2.2.2.2.2.2.2.2.1 h.2.2.2.2.2.2.2.2.2.2.2.1 h.2.2.2.2.2.2.2.2.2.2.2.2.1 h.2.2.2.2.2.2.2.2.2.2.2.2.2.1 h.2.2.2.2.2.2.2.2.2.2.2.2.2.2
theorem ADM {P0 P1 P2 P3 P4 P5 P6 P7 P8 P9 P10 P11 P12 P13 P14 P15 P16 P17:Prop}{G:Prop}(h:P0∧P1∧P2∧P3∧P4∧P5∧P6∧P7∧P8∧P9∧P10∧P11∧P12∧P13∧P14∧P15∧P16∧P17)(k:P0→P1→P2→P3→P4→P5→P6→P7→P8→P9→P10→P11→P12→P13→P14→P15→P16→P17→G):G:=k  h.1 h.2.1 h.2.2.1 h.2.2.2.1 h.2.2.2.2.1 h.2.2.2.2.2.1 h.2.2.2.2.2.2.1 h.2.2.2.2.2.2.2.1 h.2.2.2.2.2.2.2.2.1 h.2.2.2.2.2.2.2.2.2.1 h.2.2.2.2.2.2.2.2.2.2.1 h.2.2.2.2.2.2.2.2.2.2.2.1 h.2.2.2.2.2.2.2.2.2.2.2.2.1 h.2.2.2.2.2.2.2.2.2.2.2.2.2.1 h.2.2.2.2.2.2.2.2.2.2.2.2.2.2.1 h.2.2.2.2.2.2.2.2.2.2.2.2.2.2.2.1 h.2.2.2.2.2.2.2.2.2.2.2.2.2.2.2.2.1 h.2.2.2.2.2.2.2.2.2.2.2.2.2.2.2.2.2
theorem ADN {P0 P1 P2 P3 P4 P5 P6 P7 P8 P9 P10 P11 P12 P13 P14 P15 P16 P17 P18:Prop}{G:Prop}(h:P0∧P1∧P2∧P3∧P4∧P5∧P6∧P7∧P8∧P9∧P10∧P11∧P12∧P13∧P14∧P15∧P16∧P17∧P18)(k:P0→P1→P2→P3→P4→P5→P6→P7→P8→P9→P10→P11→P12→P13→P14→P15→P16→P17→P18→G):G:=k  h.1 h.2.1 h.2.2.1 h.2.2.2.1 h.2.2.2.2.1 h.2.2.2.2.2.1 h.2.2.2.2.2.2.1 h.2.2.2.2.2.2.2.1 h.2.2.2.2.2.2.2.2.1 h.2.2.2.2.2.2.2.2.2.1 h.2.2.2.2.2.2.2.2.2.2.1 h.2.2.2.2.2.2.2.2.2.2.2.1 h.2.2.2.2.2.2.2.2.2.2.2.2.1 h.2.2.2.2.2.2.2.2.2.2.2.2.2.1 h.2.2.2.2.2.2.2.2.2.2.2.2.2.2.1 h.2.2.2.2.2.2.2.2.2.2.2.2.2.2.2.1 h.2.2.2.2.2.2.2.2.2.2.2.2.2.2.2.2.1 h.2.2.2.2.2.2.2.2.2.2.2.2.2.2.2.2.2.1 h.2.2.2.2.2.2.2.2.2.2.2.2.2.2.2.2.2.2
theorem Abm{α:Sort u1}{P0:α→Prop}{G:Prop}(h:∃ x1,P0 x1)(k:∀ x1,P0 x1→G):G:=h.elim fun x1 h=>k x1 h
theorem Aab{α:Sort u1}{P0 P1:α→Prop}{G:Prop}(h:∃ x1,P0 x1∧P1 x1)(k:∀ x1,P0 x1→P1 x1→G):G:=h.elim fun x1 h=>k x1 h.1 h.2
theorem Adc{α:Sort u1}{P0 P1 P2:α→Prop}{G:Prop}(h:∃ x1,P0 x1∧P1 x1∧P2 x1)(k:∀ x1,P0 x1→P1 x1→P2 x1→G):G:=h.elim fun x1 h=>k x1 h.1 h.2.1 h.2.2
theorem Aht{α:Sort u1}{P0 P1 P2 P3:α→Prop}{G:Prop}(h:∃ x1,P0 x1∧P1 x1∧P2 x1∧P3 x1)(k:∀ x1,P0 x1→P1 x1→P2 x1→P3 x1→G):G:=h.elim fun x1 h=>k x1 h.1 h.2.1 h.2.2.1 h.2.2.2
theorem AFL{α:Sort u1}{P0 P1 P2 P3 P4:α→Prop}{G:Prop}(h:∃ x1,P0 x1∧P1 x1∧P2 x1∧P3 x1∧P4 x1)(k:∀ x1,P0 x1→P1 x1→P2 x1→P3 x1→P4 x1→G):G:=h.elim fun x1 h=>k x1 h.1 h.2.1 h.2.2.1 h.2.2.2.1 h.2.2.2.2
theorem AnV{α:Sort u1}{P0 P1 P2 P3 P4 P5:α→Prop}{G:Prop}(h:∃ x1,P0 x1∧P1 x1∧P2 x1∧P3 x1∧P4 x1∧P5 x1)(k:∀ x1,P0 x1→P1 x1→P2 x1→P3 x1→P4 x1→P5 x1→G):G:=h.elim fun x1 h=>k x1 h.1 h.2.1 h.2.2.1 h.2.2.2.1 h.2.2.2.2.1 h.2.2.2.2.2
theorem Aw3{α:Sort u1}{β:Sort u2}{P0:α→β→Prop}{G:Prop}(h:∃ x1 x2,P0 x1 x2)(k:∀ x1 x2,P0 x1 x2→G):G:=h.elim fun x1 h=>h.elim fun x2 h=>k x1 x2 h
theorem Ad9{α:Sort u1}{β:Sort u2}{P0 P1:α→β→Prop}{G:Prop}(h:∃ x1 x2,P0 x1 x2∧P1 x1 x2)(k:∀ x1 x2,P0 x1 x2→P1 x1 x2→G):G:=h.elim fun x1 h=>h.elim fun x2 h=>k x1 x2 h.1 h.2
theorem Adf{α:Sort u1}{β:Sort u2}{P0 P1 P2:α→β→Prop}{G:Prop}(h:∃ x1 x2,P0 x1 x2∧P1 x1 x2∧P2 x1 x2)(k:∀ x1 x2,P0 x1 x2→P1 x1 x2→P2 x1 x2→G):G:=h.elim fun x1 h=>h.elim fun x2 h=>k x1 x2 h.1 h.2.1 h.2.2
theorem Akr{α:Sort u1}{β:Sort u2}{P0 P1 P2 P3:α→β→Prop}{G:Prop}(h:∃ x1 x2,P0 x1 x2∧P1 x1 x2∧P2 x1 x2∧P3 x1 x2)(k:∀ x1 x2,P0 x1 x2→P1 x1 x2→P2 x1 x2→P3 x1 x2→G):G:=h.elim fun x1 h=>h.elim fun x2 h=>k x1 x2 h.1 h.2.1 h.2.2.1 h.2.2.2
theorem AAD{α:Sort u1}{β:Sort u2}{P0 P1 P2 P3 P4:α→β→Prop}{G:Prop}(h:∃ x1 x2,P0 x1 x2∧P1 x1 x2∧P2 x1 x2∧P3 x1 x2∧P4 x1 x2)(k:∀ x1 x2,P0 x1 x2→P1 x1 x2→P2 x1 x2→P3 x1 x2→P4 x1 x2→G):G:=h.elim fun x1 h=>h.elim fun x2 h=>k x1 x2 h.1 h.2.1 h.2.2.1 h.2.2.2.1 h.2.2.2.2
theorem AFa{α:Sort u1}{β:Sort u2}{P0 P1 P2 P3 P4 P5:α→β→Prop}{G:Prop}(h:∃ x1 x2,P0 x1 x2∧P1 x1 x2∧P2 x1 x2∧P3 x1 x2∧P4 x1 x2∧P5 x1 x2)(k:∀ x1 x2,P0 x1 x2→P1 x1 x2→P2 x1 x2→P3 x1 x2→P4 x1 x2→P5 x1 x2→G):G:=h.elim fun x1 h=>h.elim fun x2 h=>k x1 x2 h.1 h.2.1 h.2.2.1 h.2.2.2.1 h.2.2.2.2.1 h.2.2.2.2.2
theorem ADx{α:Sort u1}{β:Sort u2}{γ:Sort u3}{P0 P1:α→β→γ→Prop}{G:Prop}(h:∃ x1 x2 x3,P0 x1 x2 x3∧P1 x1 x2 x3)(k:∀ x1 x2 x3,P0 x1 x2 x3→P1 x1 x2 x3→G):G:=h.elim fun x1 h=>h.elim fun x2 h=>h.elim fun x3 h=>k x1 x2 x3 h.1 h.2
theorem AxT{α:Sort u1}{β:Sort u2}{γ:Sort u3}{P0 P1 P2:α→β→γ→Prop}{G:Prop}(h:∃ x1 x2 x3,P0 x1 x2 x3∧P1 x1 x2 x3∧P2 x1 x2 x3)(k:∀ x1 x2 x3,P0 x1 x2 x3→P1 x1 x2 x3→P2 x1 x2 x3→G):G:=h.elim fun x1 h=>h.elim fun x2 h=>h.elim fun x3 h=>k x1 x2 x3 h.1 h.2.1 h.2.2
theorem AAM{α:Sort u1}{β:Sort u2}{γ:Sort u3}{P0 P1 P2 P3:α→β→γ→Prop}{G:Prop}(h:∃ x1 x2 x3,P0 x1 x2 x3∧P1 x1 x2 x3∧P2 x1 x2 x3∧P3 x1 x2 x3)(k:∀ x1 x2 x3,P0 x1 x2 x3→P1 x1 x2 x3→P2 x1 x2 x3→P3 x1 x2 x3→G):G:=h.elim fun x1 h=>h.elim fun x2 h=>h.elim fun x3 h=>k x1 x2 x3 h.1 h.2.1 h.2.2.1 h.2.2.2
theorem AFM{α:Sort u1}{β:Sort u2}{γ:Sort u3}{P0 P1 P2 P3 P4:α→β→γ→Prop}{G:Prop}(h:∃ x1 x2 x3,P0 x1 x2 x3∧P1 x1 x2 x3∧P2 x1 x2 x3∧P3 x1 x2 x3∧P4 x1 x2 x3)(k:∀ x1 x2 x3,P0 x1 x2 x3→P1 x1 x2 x3→P2 x1 x2 x3→P3 x1 x2 x3→P4 x1 x2 x3→G):G:=h.elim fun x1 h=>h.elim fun x2 h=>h.elim fun x3 h=>k x1 x2 x3 h.1 h.2.1 h.2.2.1 h.2.2.2.1 h.2.2.2.2
theorem Aua{α:Sort u1}{β:Sort u2}{γ:Sort u3}{δ:Sort u4}{P0:α→β→γ→δ→Prop}{G:Prop}(h:∃ x1 x2 x3 x4,P0 x1 x2 x3 x4)(k:∀ x1 x2 x3 x4,P0 x1 x2 x3 x4→G):G:=h.elim fun x1 h=>h.elim fun x2 h=>h.elim fun x3 h=>h.elim fun x4 h=>k x1 x2 x3 x4 h
theorem ADO{α:Sort u1}{β:Sort u2}{γ:Sort u3}{δ:Sort u4}{P0 P1 P2:α→β→γ→δ→Prop}{G:Prop}(h:∃ x1 x2 x3 x4,P0 x1 x2 x3 x4∧P1 x1 x2 x3 x4∧P2 x1 x2 x3 x4)(k:∀ x1 x2 x3 x4,P0 x1 x2 x3 x4→P1 x1 x2 x3 x4→P2 x1 x2 x3 x4→G):G:=h.elim fun x1 h=>h.elim fun x2 h=>h.elim fun x3 h=>h.elim fun x4 h=>k x1 x2 x3 x4 h.1 h.2.1 h.2.2
theorem Aw4{α:Sort u1}{β:Sort u2}{γ:Sort u3}{δ:Sort u4}{P0 P1 P2 P3:α→β→γ→δ→Prop}{G:Prop}(h:∃ x1 x2 x3 x4,P0 x1 x2 x3 x4∧P1 x1 x2 x3 x4∧P2 x1 x2 x3 x4∧P3 x1 x2 x3 x4)(k:∀ x1 x2 x3 x4,P0 x1 x2 x3 x4→P1 x1 x2 x3 x4→P2 x1 x2 x3 x4→P3 x1 x2 x3 x4→G):G:=h.elim fun x1 h=>h.elim fun x2 h=>h.elim fun x3 h=>h.elim fun x4 h=>k x1 x2 x3 x4 h.1 h.2.1 h.2.2.1 h.2.2.2
theorem ADP{α:Sort u1}{β:Sort u2}{γ:Sort u3}{δ:Sort u4}{ε:Sort u5}{P0 P1 P2:α→β→γ→δ→ε→Prop}{G:Prop}(h:∃ x1 x2 x3 x4 x5,P0 x1 x2 x3 x4 x5∧P1 x1 x2 x3 x4 x5∧P2 x1 x2 x3 x4 x5)(k:∀ x1 x2 x3 x4 x5,P0 x1 x2 x3 x4 x5→P1 x1 x2 x3 x4 x5→P2 x1 x2 x3 x4 x5→G):G:=h.elim fun x1 h=>h.elim fun x2 h=>h.elim fun x3 h=>h.elim fun x4 h=>h.elim fun x5 h=>k x1 x2 x3 x4 x5 h.1 h.2.1 h.2.2
theorem AFb{α:Sort u1}{β:Sort u2}{γ:Sort u3}{δ:Sort u4}{ε:Sort u5}{ζ:Sort u6}{P0:α→β→γ→δ→ε→ζ→Prop}{G:Prop}(h:∃ x1 x2 x3 x4 x5 x6,P0 x1 x2 x3 x4 x5 x6)(k:∀ x1 x2 x3 x4 x5 x6,P0 x1 x2 x3 x4 x5 x6→G):G:=h.elim fun x1 h=>h.elim fun x2 h=>h.elim fun x3 h=>h.elim fun x4 h=>h.elim fun x5 h=>h.elim fun x6 h=>k x1 x2 x3 x4 x5 x6 h
theorem AFc{α:Sort u1}{β:Sort u2}{γ:Sort u3}{δ:Sort u4}{ε:Sort u5}{ζ:Sort u6}{P0 P1 P2 P3 P4 P5:α→β→γ→δ→ε→ζ→Prop}{G:Prop}(h:∃ x1 x2 x3 x4 x5 x6,P0 x1 x2 x3 x4 x5 x6∧P1 x1 x2 x3 x4 x5 x6∧P2 x1 x2 x3 x4 x5 x6∧P3 x1 x2 x3 x4 x5 x6∧P4 x1 x2 x3 x4 x5 x6∧P5 x1 x2 x3 x4 x5 x6)(k:∀ x1 x2 x3 x4 x5 x6,P0 x1 x2 x3 x4 x5 x6→P1 x1 x2 x3 x4 x5 x6→P2 x1 x2 x3 x4 x5 x6→P3 x1 x2 x3 x4 x5 x6→P4 x1 x2 x3 x4 x5 x6→P5 x1 x2 x3 x4 x5 x6→G):G:=h.elim fun x1 h=>h.elim fun x2 h=>h.elim fun x3 h=>h.elim fun x4 h=>h.elim fun x5 h=>h.elim fun x6 h=>k x1 x2 x3 x4 x5 x6 h.1 h.2.1 h.2.2.1 h.2.2.2.1 h.2.2.2.2.1 h.2.2.2.2.2
set_option genInjectivity false in
structure EP where
 tag:Nat
 a:Expr
 b:Expr
 l:List Expr
 o:List (Option Expr)
 g:List Comprehension
 s:Scope
 r:Arguments
 k:List Keyword
 x:Str
 n:Nat
 p:Pos
noncomputable def Ahu:Scope:=⟨.module,[],false,false,[]⟩
noncomputable def Ahv:Arguments:=⟨[],[],none,[],[],none,[]⟩
noncomputable def ep0(t:Nat)(a b:Expr)(l:List Expr)(p:Pos):EP:=⟨t,a,b,l,[],[],Ahu,Ahv,[],"",0,p⟩
noncomputable def epX(t:Nat)(e:Expr)(x:Str)(n:Nat)(p:Pos):EP:=⟨t,e,e,[],[],[],Ahu,Ahv,[],x,n,p⟩
noncomputable def epC(t:Nat)(a:Expr)(l:List Expr)(o:List (Option Expr))(g:List Comprehension)(s:Scope)(r:Arguments)(k:List Keyword)(p:Pos):EP:=⟨t,a,a,l,o,g,s,r,k,"",0,p⟩
noncomputable def ep(e:Expr):EP:=match e with
 |.BinOp l _ r p=>ep0 2 l r [] p
 |.UnaryOp _ a p=>ep0 3 a a [] p
 |.Lambda r b s p=>epC 4 b [] [] [] s r [] p
 |.Dict o l p=>epC 5 e l o [] Ahu Ahv [] p
 |.Set l _ p=>ep0 6 e e l p
 |.ListComp a g s p=>epC 7 a [] [] g s Ahv [] p
 |.SetComp a g s p=>epC 8 a [] [] g s Ahv [] p
 |.DictComp a _ g s p=>epC 9 a [] [] g s Ahv [] p
 |.Compare l _ rs p=>ep0 10 l l rs p
 |.Call f l k p=>epC 11 f l [] [] Ahu Ahv k p
 |.Attribute a x p=>epX 13 a x 0 p
 |.Subscript a b p=>ep0 14 a b [] p
 |.Starred a p=>ep0 15 a a [] p
 |.Name x p=>epX 16 e x 0 p
 |.List l p=>ep0 17 e e l p
 |.Tuple l n p=>⟨18,e,e,l,[],[],Ahu,Ahv,[],"",n,p⟩
 |.Slice _ _ _ p=>ep0 19 e e [] p
 |.IfExp t c o p=>ep0 20 t c [o] p
 |e=>ep0 0 e e [] ⟨0,0,0,0⟩
noncomputable def Agz(e:Expr):Nat:=(ep e).tag
set_option genInjectivity false in
structure SP where
 a:Expr
 b:Expr
 t:List Stmt
 h:List ExceptHandler
 s:Scope
 r:Arguments
noncomputable def cn0:Expr:=.Constant .none 0 ⟨0,0,0,0⟩
noncomputable def sp0(a b:Expr)(t:List Stmt):SP:=⟨a,b,t,[],Ahu,Ahv⟩
noncomputable def spx:Option Expr→SP
 |some e=>sp0 e cn0 []
 |none=>sp0 cn0 cn0 []
noncomputable def sp:Stmt→SP
 |.FunctionDef _ r b _ _ _ s _ _ _=>⟨cn0,cn0,b,[],s,r⟩
 |.ClassDef _ l _ b _ _ s _ _ _ _=>⟨l.getD 0 cn0,cn0,b,[],s,Ahv⟩
 |.Return v _=>spx v
 |.Assign ts v _=>sp0 v (ts.getD 0 cn0) []
 |.For t i b _ _=>sp0 i t b
 |.While t b _ _=>sp0 t cn0 b
 |.If t b _ _=>sp0 t cn0 b
 |.Raise e _ _=>spx e
 |.Try b h _ _ _=>⟨cn0,cn0,b,h,Ahu,Ahv⟩
 |.Expr e _=>sp0 e cn0 []
 |_=>sp0 cn0 cn0 []
noncomputable def Abt(e:Expr):Bool:=!Nat.beq (Agz e) 15
noncomputable def Abu(e:Expr):Bool:=!Nat.beq (Agz e) 6
noncomputable def AeO(e:Expr):Bool:=!Nat.beq (Agz e) 19
noncomputable def Aks(e:Expr):Bool:=!(Nat.beq (Agz e) 11 && (Nat.beq (Agz (ep e).a) 16 && ((ep e).l.isEmpty && (ep e).k.isEmpty)))
noncomputable def ADQ(e:Expr):Bool:=Nat.beq (Agz e) 7
noncomputable def AgA(e:Expr):Bool:=Nat.beq (Agz e) 7 || (Nat.beq (Agz e) 8 || Nat.beq (Agz e) 9)
noncomputable def AxU(e:Expr):Bool:=Nat.beq (Agz e) 17 || Nat.beq (Agz e) 18
noncomputable def Adu(e:Expr):Bool:=Nat.beq (Agz e) 16
noncomputable def Ahw(e:Expr):Bool:=Nat.beq (Agz e) 11 || (Nat.beq (Agz e) 4 || (Nat.beq (Agz e) 5 || (Nat.beq (Agz e) 9 || Nat.beq (Agz e) 8)))
noncomputable def Aac(s:Stmt):List Stmt:=(sp s).t
noncomputable def Aad(s:Stmt):Scope:=(sp s).s
noncomputable def Aq7(s:Stmt):Arguments:=(sp s).r
noncomputable def AaG(s:Stmt):Expr:=(sp s).b
noncomputable def Aat(s:Stmt):Expr:=(sp s).a
noncomputable def AlA(e:Expr):Expr:=(ep e).l.getD 0 e
noncomputable def AdF(e:Expr):List Expr:=(ep e).l
noncomputable def Acw(e:Expr):Pos:=(ep (ep e).a).p
noncomputable abbrev exprOf:=Aat
noncomputable abbrev thenOf:=Aac
noncomputable abbrev loopOf:=Aac
noncomputable abbrev tryOf:=Aac
noncomputable abbrev iterOf:=Aat
noncomputable abbrev testOf:=Aat
noncomputable abbrev tgtOf:=AaG
noncomputable def AoS(e:Expr):Expr:=(ep e).a
noncomputable def Aub(e:Expr):Expr:=(ep e).b
noncomputable abbrev binL:=AoS
noncomputable abbrev binR:=Aub
noncomputable abbrev attrOf:=AoS
noncomputable abbrev attrO:=AoS
noncomputable abbrev lcElt:=AoS
noncomputable abbrev lamBody:=AoS
noncomputable abbrev leftOf:=AoS
noncomputable def Acs(e:Expr):Scope:=(ep e).s
noncomputable abbrev lcScope:=Acs
noncomputable abbrev tupEs:=AdF
noncomputable abbrev cmpR:=AlA
noncomputable def AAN(e:Expr):List Comprehension:=(ep e).g
noncomputable def AbI(e:Expr):Arguments:=(ep e).r
noncomputable def ADR(e:Expr):List Keyword:=(ep e).k
theorem AgB{e:Expr}(h:Adu e=true):e=.Name (ep e).x (ep e).p:=by
 revert h;induction e using Expr.casesOn<;>first|exact fun _=>rfl|exact Bool.noConfusion
noncomputable def Aq8(e:Expr):Bool:=Nat.beq (Agz e) 18
theorem AxV{e:Expr}(h:Aq8 e=true):e=.Tuple (ep e).l (ep e).n (ep e).p:=by
 revert h;induction e using Expr.casesOn<;>first|exact fun _=>rfl|exact Bool.noConfusion
theorem Aag{α β:Type}{x:Option α}{f:α→Option β}{r:β}(h:x.bind f=some r):∃ a,x=some a∧f a=some r:=by
 cases x with
 |none=>exact Aah h
 |some a=>exact⟨a,rfl,h⟩
theorem Aan{α β:Type}{x:Option α}{f:α→Option β}{a:α}{r:β}(h1:x=some a)(h2:f a=some r):x.bind f=some r:=by subst h1;exact h2
theorem ift{c:Prop}[Decidable c]{α:Type}{x:Option α}{r:α}(h1:c)(h2:x=some r):(if c then x else none)=some r:=by rw[if_pos h1];exact h2
theorem ADy{α:Type}{l:List α}{d:α}(h:l.length=1):l=[l.getD 0 d]:=by
 induction l using List.casesOn with
 |nil=>exact Nat.noConfusion h
 |cons x l=>induction l using List.casesOn with
  |nil=>rfl
  |cons _ _=>exact Nat.noConfusion (Nat.succ.inj h)
theorem Auc{α:Type}{l:List α}{d:α}(h:l.length=2):l=[l.getD 0 d,l.getD 1 d]:=by
 induction l using List.casesOn with
 |nil=>exact Nat.noConfusion h
 |cons x l=>exact congrArg (x :: ·) (ADy (d:=d) (Nat.succ.inj h))
theorem AFN{α:Type}{l:List α}{d:α}(h:l.length=3):l=[l.getD 0 d,l.getD 1 d,l.getD 2 d]:=by
 induction l using List.casesOn with
 |nil=>exact Nat.noConfusion h
 |cons x l=>exact congrArg (x :: ·) (Auc (d:=d) (Nat.succ.inj h))
theorem Ahx{α:Type}{a a' b b':α}(h1:a=a')(h2:b=b'):[a,b]=[a',b']:=by subst h1;subst h2;rfl
end Mine
namespace Mine
open PySem PySem.W PyProof.Rows
inductive D where
 |none
 |bool (b:Bool)
 |int (i:Int)
 |str (s:Str)
 |tup (l:List D)
 |list (l:List D)
 |dict (hf:Str→Int) (ks:List Str) (vs:List D)
 |rng (lo hi:Int)
 |val (v:Value)
 deriving Inhabited
noncomputable abbrev Gh:=Addr→Option Obj
noncomputable def Gh.le(g g':Gh):Prop:=∀ a o,g a=some o→g' a=some o
theorem Gh.le_refl(g:Gh):g.le g:=fun _ _ h=>h
theorem Gh.le.trans{g g' g'':Gh}(h:g.le g')(h':g'.le g''):g.le g'':=fun a o e=>h' a o (h a o e)
inductive Abx(hf:Str→Int):List Str→List Value→List DictEntry→Prop
 |nil:Abx hf [] [] []
 |cons {k:Str} {t:Tok} {e:DictEntry} {ks:List Str} {vs:List Value} {es:List DictEntry}:e.key=.str k t→e.hash=hf k→Abx hf ks vs es→Abx hf (k :: ks) (e.val :: vs) (e :: es)
mutual
inductive Den(g:Gh):Value→D→Prop
 |none:Den g .none .none
 |bool {b:Bool}:Den g (.bool b) (.bool b)
 |int {i:Int} {t:Tok}:Den g (.int i t) (.int i)
 |str {s:Str} {t:Tok}:Den g (.str s t) (.str s)
 |tup {a:Addr} {vs:Array Value} {n:Nat} {ds:List D}:g a=some {cls:=.type "tuple",data:=.seq vs n}→Aar g vs.toList ds→Den g (.ref a) (.tup ds)
 |list {a:Addr} {vs:Array Value} {n:Nat} {ds:List D}:g a=some {cls:=.type "list",data:=.seq vs n}→Aar g vs.toList ds→Den g (.ref a) (.list ds)
 |dict {a:Addr} {es:Array DictEntry} {n:Nat} {hf:Str→Int} {ks:List Str} {vs:List Value} {ds:List D}:g a=some {cls:=.type "dict",data:=.dict es n} →
   Abx hf ks vs es.toList→Aar g vs ds→Den g (.ref a) (.dict hf ks ds)
 |rng {a:Addr} {lo hi:Int} {t1 t2 t3:Tok}:g a=some {cls:=.type "range",data:=.fields #[.int lo t1,.int hi t2,.int 1 t3]}→Den g (.ref a) (.rng lo hi)
 |val {v:Value}:Den g v (.val v)
inductive Aar(g:Gh):List Value→List D→Prop
 |nil:Aar g [] []
 |cons {v:Value} {d:D} {vs:List Value} {ds:List D}:Den g v d→Aar g vs ds→Aar g (v :: vs) (d :: ds)
end
theorem Den.both{g:Gh}{P:Value→D→Prop}{Q:List Value→List D→Prop}(h1:P .none .none)(h2:∀ {b},P (.bool b) (.bool b))(h3:∀ {i t},P (.int i t) (.int i))(h4:∀ {s t},P (.str s t) (.str s))
  (h5:∀ {a vs n ds},g a=some {cls:=.type "tuple",data:=.seq vs n}→Q vs.toList ds→P (.ref a) (.tup ds)) (h6:∀ {a vs n ds},g a=some {cls:=.type "list",data:=.seq vs n}→Q vs.toList ds→P (.ref a) (.list ds))
  (h7:∀ {a es n hf ks vs ds},g a=some {cls:=.type "dict",data:=.dict es n}→Abx hf ks vs es.toList→Q vs ds→P (.ref a) (.dict hf ks ds))
  (h8:∀ {a lo hi t1 t2 t3},g a=some {cls:=.type "range",data:=.fields #[.int lo t1,.int hi t2,.int 1 t3]}→P (.ref a) (.rng lo hi)) (h9:∀ {v},P v (.val v))
  (q1:Q [] []) (q2:∀ {v d vs ds},P v d→Q vs ds→Q (v :: vs) (d :: ds)):(∀ {v d},Den g v d→P v d)∧(∀ {vs ds},Aar g vs ds→Q vs ds):=
 ⟨fun h=>Den.rec (motive_1:=fun v d _=>P v d) (motive_2:=fun vs ds _=>Q vs ds) h1 h2 h3 h4 (fun e _ q=>h5 e q) (fun e _ q=>h6 e q) (fun e e' _ q=>h7 e e' q) (fun e=>h8 e) h9 q1 (fun _ _ p q=>q2 p q) h,
   fun h=>Aar.rec (motive_1:=fun v d _=>P v d) (motive_2:=fun vs ds _=>Q vs ds) h1 h2 h3 h4 (fun e _ q=>h5 e q) (fun e _ q=>h6 e q) (fun e e' _ q=>h7 e e' q) (fun e=>h8 e) h9 q1 (fun _ _ p q=>q2 p q) h⟩
theorem Den.monos{g g':Gh}(hle:g.le g'):(∀ {v d},Den g v d→Den g' v d)∧(∀ {vs ds},Aar g vs ds→Aar g' vs ds):=
 Den.both (P:=Den g') (Q:=Aar g') .none .bool .int .str (fun e h=>.tup (hle _ _ e) h) (fun e h=>.list (hle _ _ e) h) (fun e e' h=>.dict (hle _ _ e) e' h) (fun e=>.rng (hle _ _ e)) .val .nil .cons
theorem Den.mono{g g':Gh}(hle:g.le g'){v:Value}{d:D}(h:Den g v d):Den g' v d:=(Den.monos hle).1 h
theorem Aar.mono{g g':Gh}(hle:g.le g'){vs:List Value}{ds:List D}(h:Aar g vs ds):Aar g' vs ds:=(Den.monos hle).2 h
theorem Aar.ind{g:Gh}{motive:(vs:List Value)→(ds:List D)→Aar g vs ds→Prop}(nil:motive [] [] .nil)(cons:∀ {v d vs ds} (h1:Den g v d) (h2:Aar g vs ds),motive vs ds h2→motive (v :: vs) (d :: ds) (.cons h1 h2)){vs:List Value}{ds:List D}(h:Aar g vs ds):motive vs ds h:=
 Aar.rec (motive_1:=fun _ _ _=>True) (motive_2:=motive) trivial trivial trivial trivial (fun _ _ _=>trivial) (fun _ _ _=>trivial) (fun _ _ _ _=>trivial) (fun _=>trivial) trivial nil (fun h1 h2 _ q=>cons h1 h2 q) h
noncomputable def AFd(g:Gh)(P:Value→Prop):D→Prop
 |.none=>P .none
 |.bool b=>P (.bool b)
 |.int i=>∀ t,P (.int i t)
 |.str x=>∀ t,P (.str x t)
 |.tup ds=>∀ a vs n,g a=some {cls:=.type "tuple",data:=.seq vs n}→Aar g vs.toList ds→P (.ref a)
 |.list ds=>∀ a vs n,g a=some {cls:=.type "list",data:=.seq vs n}→Aar g vs.toList ds→P (.ref a)
 |.dict hf ks ds=>∀ a es n vs,g a=some {cls:=.type "dict",data:=.dict es n}→Abx hf ks vs es.toList→Aar g vs ds→P (.ref a)
 |.rng lo hi=>∀ a t1 t2 t3,g a=some {cls:=.type "range",data:=.fields #[.int lo t1,.int hi t2,.int 1 t3]}→P (.ref a)
 |.val w=>P w
theorem Den.byD{g:Gh}{P:Value→Prop}{v:Value}{d:D}(h:Den g v d):AFd g P d→P v:=
 Den.casesOn (motive_1:=fun v d _=>AFd g P d→P v) h id id (fun k=>k _) (fun k=>k _) (fun h1 h2 k=>k _ _ _ h1 h2) (fun h1 h2 k=>k _ _ _ h1 h2) (fun h1 h2 h3 k=>k _ _ _ _ h1 h2 h3) (fun h1 k=>k _ _ _ _ h1) id
theorem Den.noneE{g:Gh}{motive:(v:Value)→Den g v .none→Prop}(none:motive .none .none){v:Value}(h:Den g v .none):motive v h:=h.byD (P:=fun v=>∀ h:Den g v .none,motive v h) (fun _=>none) h
theorem Den.boolE{g:Gh}{b:Bool}{motive:(v:Value)→Den g v (.bool b)→Prop}(bool:motive (.bool b) .bool){v:Value}(h:Den g v (.bool b)):motive v h:=h.byD (P:=fun v=>∀ h:Den g v (.bool b),motive v h) (fun _=>bool) h
theorem Den.intE{g:Gh}{i:Int}{motive:(v:Value)→Den g v (.int i)→Prop}(int:∀ {t},motive (.int i t) .int){v:Value}(h:Den g v (.int i)):motive v h:=h.byD (P:=fun v=>∀ h:Den g v (.int i),motive v h) (fun _ _=>int) h
theorem Den.strE{g:Gh}{x:Str}{motive:(v:Value)→Den g v (.str x)→Prop}(str:∀ {t},motive (.str x t) .str){v:Value}(h:Den g v (.str x)):motive v h:=h.byD (P:=fun v=>∀ h:Den g v (.str x),motive v h) (fun _ _=>str) h
theorem Den.valE{g:Gh}{w:Value}{motive:(v:Value)→Den g v (.val w)→Prop}(val:motive w .val){v:Value}(h:Den g v (.val w)):motive v h:=h.byD (P:=fun v=>∀ h:Den g v (.val w),motive v h) (fun _=>val) h
theorem Den.tupE{g:Gh}{ds:List D}{motive:(v:Value)→Den g v (.tup ds)→Prop}(tup:∀ {a vs n} (h1:g a=some {cls:=.type "tuple",data:=.seq vs n}) (h2:Aar g vs.toList ds),motive (.ref a) (.tup h1 h2)){v:Value}(h:Den g v (.tup ds)):motive v h:=h.byD (P:=fun v=>∀ h:Den g v (.tup ds),motive v h) (fun _ _ _ h1 h2 _=>tup h1 h2) h
theorem Den.listE{g:Gh}{ds:List D}{motive:(v:Value)→Den g v (.list ds)→Prop}(list:∀ {a vs n} (h1:g a=some {cls:=.type "list",data:=.seq vs n}) (h2:Aar g vs.toList ds),motive (.ref a) (.list h1 h2)){v:Value}(h:Den g v (.list ds)):motive v h:=h.byD (P:=fun v=>∀ h:Den g v (.list ds),motive v h) (fun _ _ _ h1 h2 _=>list h1 h2) h
theorem Den.dictE{g:Gh}{hf:Str→Int}{ks:List Str}{ds:List D}{motive:(v:Value)→Den g v (.dict hf ks ds)→Prop}(dict:∀ {a es n vs} (h1:g a=some {cls:=.type "dict",data:=.dict es n}) (h2:Abx hf ks vs es.toList) (h3:Aar g vs ds),motive (.ref a) (.dict h1 h2 h3)){v:Value}(h:Den g v (.dict hf ks ds)):motive v h:=h.byD (P:=fun v=>∀ h:Den g v (.dict hf ks ds),motive v h) (fun _ _ _ _ h1 h2 h3 _=>dict h1 h2 h3) h
noncomputable def AAO(g:Gh)(P:List Value→Prop):List D→Prop
 |[]=>P []
 |d :: ds=>∀ v vs,Den g v d→Aar g vs ds→P (v :: vs)
theorem Aar.byL{g:Gh}{P:List Value→Prop}{vs:List Value}{ds:List D}(h:Aar g vs ds):AAO g P ds→P vs:=
 Aar.casesOn (motive_2:=fun vs ds _=>AAO g P ds→P vs) h id (fun h1 h2 k=>k _ _ h1 h2)
theorem Aar.consE{g:Gh}{d:D}{ds:List D}{motive:(vs:List Value)→Aar g vs (d :: ds)→Prop}(cons:∀ {v vs} (h1:Den g v d) (h2:Aar g vs ds),motive (v :: vs) (.cons h1 h2)){vs:List Value}(h:Aar g vs (d :: ds)):motive vs h:=h.byL (P:=fun vs=>∀ h:Aar g vs (d :: ds),motive vs h) (fun _ _ h1 h2 _=>cons h1 h2) h
theorem Aar.nilE{g:Gh}{motive:(vs:List Value)→Aar g vs []→Prop}(nil:motive [] .nil){vs:List Value}(h:Aar g vs []):motive vs h:=h.byL (P:=fun vs=>∀ h:Aar g vs [],motive vs h) (fun _=>nil) h
theorem Aar.length{g:Gh}{vs:List Value}{ds:List D}(h:Aar g vs ds):vs.length=ds.length:=by
 induction h using Aar.ind with
 |nil=>rfl
 |cons _ _ ih=>exact congrArg (·+1) ih
theorem Aar.append{g:Gh}{vs vs':List Value}{ds ds':List D}(h:Aar g vs ds)(h':Aar g vs' ds'):Aar g (vs++vs') (ds++ds'):=by
 induction h using Aar.ind with
 |nil=>exact h'
 |cons h1 _ ih=>exact .cons h1 ih
theorem Aar.get{g:Gh}{vs:List Value}{ds:List D}(h:Aar g vs ds){i:Nat}{d:D}(e:ds[i]?=some d):∃ v,vs[i]?=some v∧Den g v d:=by
 induction h using Aar.ind generalizing i with
 |nil=>exact Aah e
 |cons h1 _ ih=>
  induction i using Nat.casesAuxOn with
  |zero=>exact sj e ▸ ⟨_,rfl,h1⟩
  |succ i=>exact ih e
theorem Aar.reverse{g:Gh}{vs:List Value}{ds:List D}(h:Aar g vs ds):Aar g vs.reverse ds.reverse:=by
 induction h using Aar.ind with
 |nil=>exact .nil
 |cons h1 _ ih=>rw[List.reverse_cons,List.reverse_cons];exact ih.append (.cons h1 .nil)
noncomputable def AcK(o:Obj):Prop:=(∃ vs,o.data=.fields vs)∧(o.cls=.none∨o.cls=.type "code")
noncomputable def Abp(o:Obj):Prop:=¬ (o.cls=.none∧∃ vs,o.data=.fields vs)
structure Ext(h h':Heap):Prop where
 keep:∀ a o,h.get? a=some o→Abp o→h'.get? a=some o
 live:∀ a o,h.get? a=some o→∃ o',h'.get? a=some o'
theorem Ext.refl(h:Heap):Ext h h:=⟨fun _ _ e _=>e,fun _ o e=>⟨o,e⟩⟩
theorem Ext.trans{h h' h'':Heap}(x:Ext h h')(y:Ext h' h''):Ext h h'':=⟨fun a o e n=>y.keep a o (x.keep a o e n) n,fun a o e=>let ⟨o',e'⟩:=x.live a o e;y.live a o' e'⟩
theorem Ext.of{h h':Heap}(k:∀ a o,h.get? a=some o→h'.get? a=some o):Ext h h':=⟨fun a o e _=>k a o e,fun a o e=>⟨o,k a o e⟩⟩
theorem Ext.push(h:Heap)(o:Obj):Ext h (h.push o):=.of fun _ _ e=>Heap.get?_push_of_some _ e
theorem Ext.dead{h h':Heap}{a:Addr}(x:Ext h h')(e:h'.get? a=none):h.get? a=none:=by
 cases q:h.get? a with
 |none=>rfl
 |some o=>refine Abm (x.live a o q) fun o' e'=>?_;rw[e] at e';exact Aah e'
theorem Ext.butE{h₀ h h':Heap}{b:Addr}(x:Ext h₀ h)(hb:h₀.get? b=none)(s:Heap.ExtBut b h h'):Ext h₀ h':=by
 have ne:∀ a o,h₀.get? a=some o→a≠b:=by intro a o e q1;subst q1;rw[hb] at e;exact Aah e
 exact⟨fun a o e n=>s a o (ne a o e) (x.keep a o e n),fun a o e=>let ⟨o',e'⟩:=x.live a o e;⟨o',s a o' (ne a o e) e'⟩⟩
theorem Aal{o:Obj}{n:String}(h:o.cls=.type n):Abp o:=fun e=>by rw[h] at e;cases e.1
theorem AcN{o:Obj}(h:∀ vs,o.data≠.fields vs):Abp o:=fun ⟨_,vs,e⟩=>h vs e
theorem Aer{o:Obj}(h:∀ vs,o.data≠.fields vs):¬ AcK o:=fun ⟨⟨vs,e⟩,_⟩=>h vs e
theorem AaH{o:Obj}{n:String}(h:o.cls=.type n)(hn:n≠"code"):¬ AcK o:=fun ⟨_,e⟩=>by rw[h] at e;rcases e with e|e<;>(first|(injection e;done)|cases e);exact hn rfl
structure Bs where
 prog:Program
 w:World
 G:Heap
 mg:Str→Option Value
 mb:Str→Option Value
 os:OsState
 tb:Heap→Prop
structure Bs.Ok(B:Bs):Prop where
 g:B.G.Ns mainGlobals B.mg
 b:B.G.Ns builtinsNs B.mb
 lim:B.G.NoLimit
 tb:∀ h h',B.tb h→(∀ a o,h.get? a=some o→AcK o→h'.get? a=some o)→B.tb h'
structure Inv(B:Bs)(s:Shared)(g:Gh):Prop where
 base:∀ a o,B.G.get? a=some o→g a=some o
 real:∀ a o,g a=some o→s.heap.get? a=some o
 nt:∀ a o,g a=some o→Abp o∨B.G.get? a=some o
 tb:B.tb s.heap
 gens:s.gens=#[]
 os:s.os=B.os
structure AOk(n:Nat)(A:Around):Prop where
 handled:A.handled=none
 depth:A.depth+8*n≤990
 units:A.units+100*n≤9800
theorem emn(b:Int){n:Int}(h:0<n):b % n=((b % n).toNat:Int):=(Int.toNat_of_nonneg (Int.emod_nonneg b (Int.ne_of_gt h))).symm
theorem eml(b:Int){n:Nat}(h:0<(n:Int)):(b % (n:Int)).toNat<n:=(Int.toNat_lt (Int.emod_nonneg b (Int.ne_of_gt h))).mpr (Int.emod_lt_of_pos b h)
theorem AFe{z:Int}{n:Nat}(h1:-(n:Int)≤z)(h2:z≤n):z.natAbs≤n:=
 (Int.le_total 0 z).elim (fun h=>Int.ofNat_le.mp (Int.natAbs_of_nonneg h ▸ h2)) fun h=>Int.ofNat_le.mp (Int.ofNat_natAbs_of_nonpos h ▸ Int.neg_le_of_neg_le h1)
theorem AAP{z:Int}{n:Nat}(h:z.natAbs≤n):-(n:Int)≤z∧z≤n:=⟨Int.neg_le_of_neg_le (Int.le_trans (Int.natAbs_neg z ▸ Int.le_natAbs) (Int.ofNat_le.mpr h)),Int.le_trans Int.le_natAbs (Int.ofNat_le.mpr h)⟩
theorem szl{n N:Nat}(h:n<64)(hN:64≤N):n≤N:=Nat.le_trans (Nat.le_of_lt h) hN
theorem nle{a a' c n N:Nat}(h:a+c*(n+1)≤N)(ha:a'≤a+c):a'+c*n≤N:=
 Nat.le_trans (Nat.add_le_add_right ha _) (Nat.le_trans (Nat.le_of_eq ((Nat.add_assoc a c _).trans (congrArg (a+·) (Nat.add_comm c _)))) h)
theorem AOk.to{n k:Nat}{A A':Around}(h:AOk (n+1) A)(hh:A'.handled=none)(hd:A'.depth≤A.depth+8)(hu:A'.units=A.units+k)(hk:k≤100):AOk n A':=⟨hh,nle h.depth hd,nle h.units (hu ▸ Nat.add_le_add_left hk _)⟩
noncomputable abbrev Bs.M(B:Bs):Model:=model B.prog B.w
structure Aae(B:Bs)(s:Shared)(g:Gh)(s':Shared)(g':Gh):Prop where
 le:g.le g'
 inv:Inv B s' g'
 ext:Ext s.heap s'.heap
 new:∀ a o,g' a=some o→g a=some o∨s.heap.get? a=none
section
variable{B:Bs}{s s' s'':Shared}{g g' g'':Gh}
theorem Aae.refl(I:Inv B s g):Aae B s g s g:=⟨g.le_refl,I,Ext.refl _,fun _ _ e=>.inl e⟩
theorem Aae.trans(x:Aae B s g s' g')(y:Aae B s' g' s'' g''):Aae B s g s'' g'':=
 ⟨x.le.trans y.le,y.inv,x.ext.trans y.ext,fun a o e=>(y.new a o e).elim (x.new a o) fun h=>.inr (x.ext.dead h)⟩
end
noncomputable def Aaq{α:Type}(B:Bs)(A:Around)(s:Shared)(g:Gh)(t:Sem α)(P:Gh→α→Prop):Prop:=
 wpAny B.M A t (fun a s'=>∃ g',Aae B s g s' g'∧P g' a) (fun _ _=>False) s
section
variable{α β:Type}{B:Bs}{A:Around}{s:Shared}{g:Gh}
theorem Aaq.mono{t:Sem α}{P P':Gh→α→Prop}(h:Aaq B A s g t P)(hp:∀ g' a,P g' a→P' g' a):Aaq B A s g t P':=
 wpAny_mono h (fun a _ ⟨g',h1,h4⟩=>⟨g',h1,hp g' a h4⟩) fun _ _ h=>h
theorem Aaq.pure{a:α}{P:Gh→α→Prop}(I:Inv B s g)(h:P g a):Aaq B A s g (Pure.pure a) P:=wpAny_pure ⟨g,Aae.refl I,h⟩
theorem Aaq.from{s':Shared}{g':Gh}{t:Sem α}{P:Gh→α→Prop}(x:Aae B s g s' g')(h:Aaq B A s' g' t P) :
  wpAny B.M A t (fun a s''=>∃ g'',Aae B s g s'' g''∧P g'' a) (fun _ _=>False) s':=
 wpAny_mono h (fun _ _ ⟨g'',h1,h4⟩=>⟨g'',x.trans h1,h4⟩) fun _ _ h=>h
theorem Aaq.use{t:Sem α}{P:Gh→α→Prop}{Q:α→Shared→Prop}{E:Value→Shared→Prop}(h:Aaq B A s g t P)
  (k:∀ a s' g',Aae B s g s' g'→P g' a→Q a s'):wpAny B.M A t Q E s:=
 wpAny_mono h (fun a s' ⟨g',h1,h4⟩=>k a s' g' h1 h4) fun _ _ h=>h.elim
theorem Aaq.useI{i:Int}{t:Sem Value}{Q:Value→Shared→Prop}{E:Value→Shared→Prop}(h:Aaq B A s g t fun g' v=>Den g' v (.int i))(k:∀ tk s' g',Aae B s g s' g'→Q (.int i tk) s'):wpAny B.M A t Q E s:=
 h.use fun v s' g' x hv=>by induction hv using Den.intE;exact k _ s' g' x
theorem Aaq.useV{w:Value}{t:Sem Value}{Q:Value→Shared→Prop}{E:Value→Shared→Prop}(h:Aaq B A s g t fun g' v=>Den g' v (.val w))(k:∀ s' g',Aae B s g s' g'→Q w s'):wpAny B.M A t Q E s:=
 h.use fun v s' g' x hv=>by induction hv using Den.valE;exact k s' g' x
theorem Aaq.bind{t:Sem α}{k:α→Sem β}{P:Gh→α→Prop}{P':Gh→β→Prop}(h:Aaq B A s g t P)
  (hk:∀ a s' g',Aae B s g s' g'→P g' a→Aaq B A s' g' (k a) P'):Aaq B A s g (t >>= k) P':=
 wpAny_bind (h.use fun a s' g' h1 h4=>(hk a s' g' h1 h4).from h1)
end
noncomputable def Gh.put(g:Gh)(a:Addr)(o:Obj):Gh:=fun b=>if b=a then some o else g b
theorem Gh.put_self(g:Gh)(a:Addr)(o:Obj):g.put a o a=some o:=if_pos rfl
theorem Gh.put_other{g:Gh}{a b:Addr}{o:Obj}(h:b≠a):g.put a o b=g b:=if_neg h
theorem Gh.le_put{g:Gh}{a:Addr}(o:Obj)(h:g a=none):g.le (g.put a o):=fun b o' e=>by
 unfold Gh.put
 by_cases hb:b=a
 ·subst hb;rw[h] at e;exact Aah e
 ·rw[if_neg hb];exact e
theorem Inv.fresh{B:Bs}{s:Shared}{g:Gh}(I:Inv B s g):g s.heap.objs.size=none:=by
 cases h:g s.heap.objs.size with
 |none=>rfl
 |some o=>exact absurd (Heap.lt_size (I.real _ _ h)) (Nat.lt_irrefl _)
theorem AaM(h:Heap):h.get? h.objs.size=none:=by
 cases e:h.get? h.objs.size with
 |none=>rfl
 |some o=>exact absurd (Heap.lt_size e) (Nat.lt_irrefl _)
theorem Inv.keeps{B:Bs}{s s':Shared}{g:Gh}(O:B.Ok)(I:Inv B s g)(k:∀ a o,s.heap.get? a=some o→s'.heap.get? a=some o)(hg:s'.gens=s.gens)(ho:s'.os=s.os):Inv B s' g:=
 ⟨I.base,fun a o e=>k a o (I.real a o e),I.nt,O.tb _ _ I.tb fun a o e _=>k a o e,hg.trans I.gens,ho.trans I.os⟩
theorem Inv.tok{B:Bs}{s:Shared}{g:Gh}(I:Inv B s g)(t:Nat):Inv B {s with toks:=t} g:=⟨I.base,I.real,I.nt,I.tb,I.gens,I.os⟩
theorem Aae.tok{B:Bs}{s:Shared}{g:Gh}(I:Inv B s g)(t:Nat):Aae B s g {s with toks:=t} g:=⟨g.le_refl,I.tok t,Ext.refl _,fun _ _ e=>.inl e⟩
theorem Aae.open{B:Bs}{s:Shared}{g:Gh}{o:Obj}(O:B.Ok)(I:Inv B s g):Aae B s g {s with heap:=s.heap.push o} g:=
 ⟨g.le_refl,I.keeps O (fun _ _ e=>Heap.get?_push_of_some _ e) rfl rfl,Ext.push _ _,fun _ _ e=>.inl e⟩
theorem Aae.alloc{B:Bs}{s:Shared}{g:Gh}{o:Obj}(O:B.Ok)(I:Inv B s g)(hf:o.isFreed=false)(hn:Abp o):Aae B s g {s with heap:=s.heap.push o} (g.put s.heap.objs.size o):=by
 refine⟨Gh.le_put o I.fresh,⟨fun a o' e=>Gh.le_put o I.fresh a o' (I.base a o' e),fun a o' e=>?_,fun a o' e=>?_,O.tb _ _ I.tb fun a o' e _=>Heap.get?_push_of_some _ e,I.gens,I.os⟩,Ext.push _ _,fun a o' e=>?_⟩
 ·unfold Gh.put at e
  by_cases h:a=s.heap.objs.size
  ·subst h;rw[if_pos rfl] at e;cases e;exact Heap.get?_push_size _ hf
  ·rw[if_neg h] at e;exact Heap.get?_push_of_some _ (I.real a o' e)
 ·unfold Gh.put at e
  by_cases h:a=s.heap.objs.size
  ·subst h;rw[if_pos rfl] at e;cases e;exact .inl hn
  ·rw[if_neg h] at e;exact I.nt a o' e
 ·unfold Gh.put at e
  by_cases h:a=s.heap.objs.size
  ·exact .inr (h ▸ AaM _)
  ·rw[if_neg h] at e;exact .inl e
theorem Aae.shut{B:Bs}{s s':Shared}{g g':Gh}{a:Addr}{o:Obj}(x:Aae B s g s' g')(ha:s.heap.get? a=none)(ho:s'.heap.get? a=some o)(hg:g' a=none)(hn:Abp o):Aae B s g s' (g'.put a o):=by
 refine⟨x.le.trans (Gh.le_put o hg),⟨fun b o' e=>Gh.le_put o hg b o' (x.inv.base b o' e),fun b o' e=>?_,fun b o' e=>?_,x.inv.tb,x.inv.gens,x.inv.os⟩,x.ext,fun b o' e=>?_⟩
 ·unfold Gh.put at e
  by_cases h:b=a
  ·subst h;rw[if_pos rfl] at e;cases e;exact ho
  ·rw[if_neg h] at e;exact x.inv.real b o' e
 ·unfold Gh.put at e
  by_cases h:b=a
  ·subst h;rw[if_pos rfl] at e;cases e;exact .inl hn
  ·rw[if_neg h] at e;exact x.inv.nt b o' e
 ·unfold Gh.put at e
  by_cases h:b=a
  ·subst h;exact .inr ha
  ·rw[if_neg h] at e;exact x.new b o' e
theorem Inv.but{B:Bs}{s s':Shared}{g:Gh}{b:Addr}{ob:Obj}(O:B.Ok)(I:Inv B s g)(hb:g b=none)(hob:s.heap.get? b=some ob)(hn:¬ AcK ob)
  (k:∀ a o,a≠b→s.heap.get? a=some o→s'.heap.get? a=some o) (hg:s'.gens=s.gens) (ho:s'.os=s.os):Inv B s' g:=by
 refine⟨I.base,fun a o e=>k a o ?_ (I.real a o e),I.nt,O.tb _ _ I.tb fun a o e h=>k a o ?_ e,hg.trans I.gens,ho.trans I.os⟩
 ·intro q2;subst q2;rw[hb] at e;exact Aah e
 ·intro q3;subst q3;rw[hob] at e;cases e;exact hn h
theorem Aae.turnE{B:Bs}{s s' s'':Shared}{g g':Gh}{b:Addr}{ob:Obj}(O:B.Ok)(x:Aae B s g s' g')(hnew:s.heap.get? b=none)(hb:g' b=none)(hob:s'.heap.get? b=some ob)(hn:¬ AcK ob)
  (k:Heap.ExtBut b s'.heap s''.heap) (hg:s''.gens=s'.gens) (ho:s''.os=s'.os):Aae B s g s'' g':=
 ⟨x.le,x.inv.but O hb hob hn k hg ho,x.ext.butE hnew k,x.new⟩
theorem Aae.turn{B:Bs}{s s' s'':Shared}{g g':Gh}{b:Addr}{ob:Obj}(O:B.Ok)(x:Aae B s g s' g')(hnew:s.heap.get? b=none)(hb:g' b=none)(hob:s'.heap.get? b=some ob)(hn:¬ AcK ob)
  (k:Heap.SameBut b s'.heap s''.heap) (hg:s''.gens=s'.gens) (ho:s''.os=s'.os):Aae B s g s'' g':=x.turnE O hnew hb hob hn k.extBut hg ho
theorem AgC{h:Heap}{c:Addr}{v:Option Value}(x:h.IsCell c v):∃ o,h.get? c=some o∧Abp o∧¬ AcK o∧o.data=.cell v:=by refine Aab x fun o ho hd=>?_;exact⟨o,ho,AcN fun vs e=>(by rw[hd] at e;injection e),Aer fun vs e=>(by rw[hd] at e;injection e),hd⟩
theorem AcO{h h':Heap}{c:Addr}{v:Option Value}(x:h.IsCell c v)(e:Ext h h'):h'.IsCell c v:=by refine Aht (AgC x) fun o ho hn _ hd=>?_;exact⟨o,e.keep c o ho hn,hd⟩
theorem AgD{h:Heap}{a:Addr}{m:Str→Option Value}(x:h.Ns a m):∃ o,h.get? a=some o∧Abp o∧¬ AcK o∧∃ es n,o.data=.dict es n:=by refine AxT x fun o es ep ho hd _=>?_;exact⟨o,ho,AcN fun vs e=>(by rw[hd] at e;injection e),Aer fun vs e=>(by rw[hd] at e;injection e),es,ep,hd⟩
theorem AjZ{h:Heap}{a:Addr}{m:Str→Option Value}(x:h.Ns a m){P:Prop}(k:∀ o,h.get? a=some o→Abp o→¬ AcK o→∀ es n,o.data=.dict es n→P):P:=by
 obtain⟨o,h1,h2,h3,es,n,h4⟩:=AgD x
 exact k o h1 h2 h3 es n h4
theorem AAQ{h h':Heap}{a:Addr}{m:Str→Option Value}(x:h.Ns a m)(e:Ext h h'):h'.Ns a m:=by refine AxT x fun o es ep ho hd r=>?_;exact⟨o,es,ep,e.keep a o ho (AcN fun vs e=>(by rw[hd] at e;injection e)),hd,r⟩
theorem AfV{h:Heap}{a c:Addr}{m:Str→Option Value}{v:Option Value}(x:h.Ns a m)(y:h.IsCell c v):a≠c:=by intro q1;subst q1;refine AjZ x fun o ho _ _ es n hd=>?_;refine Aab y fun o' ho' hd'=>?_;rw[ho] at ho';cases ho';rw[hd] at hd';injection hd'
structure Fm(B:Bs)(s₀:Shared)(g₀:Gh)(own:List Str)(env:Env)(ρ:List (Str×D))(s:Shared)(g:Gh):Prop where
 st:Aae B s₀ g₀ s g
 kind:env.scope.kind=.function
 glob:env.globals=mainGlobals
 blt:env.builtins=builtinsNs
 vars:∃ m,s.heap.Ns env.locals m∧∀ x d,ρ.lookup x=some d→env.kindOf x=some .local→∃ v,m x=some v∧Den g v d
 cells:∀ x,(env.kindOf x=some .cell∨env.kindOf x=some .free)→∃ c v,env.cells.lookup x=some c∧s.heap.IsCell c v∧∀ d,ρ.lookup x=some d→∃ v',v=some v'∧Den g v' d
 kinds:∀ x d,ρ.lookup x=some d→env.kindOf x=some .local∨env.kindOf x=some .cell∨env.kindOf x=some .free
 loc:s₀.heap.get? env.locals=none∧g env.locals=none
 own:∀ x∈own,∃ c v,env.cells.lookup x=some c∧s.heap.IsCell c v∧s₀.heap.get? c=none∧g c=none∧∀ y c',env.cells.lookup y=some c'→y≠x→c'≠c
noncomputable def AbA(x:Str):Bool:=!(x == ("__debug__":Str)) && !(x == ("__classdict__":Str))
theorem AnW{x:Str}(h:AbA x=true):(x == ("__debug__":Str))=false:=by unfold AbA at h;simp only[Bool.and_eq_true,Bool.not_eq_true'] at h;exact h.1
theorem Aud{x:Str}(h:AbA x=true):(x == ("__classdict__":Str))=false:=by unfold AbA at h;simp only[Bool.and_eq_true,Bool.not_eq_true'] at h;exact h.2
section
variable{B:Bs}{A:Around}{s₀ s s':Shared}{g₀ g g':Gh}{own:List Str}{env:Env}{ρ:List (Str×D)}
theorem Aae.shutNone{a:Addr}{o:Obj}(x:Aae B s g s' g')(ha:s.heap.get? a=some o)(h:g a=none):g' a=none:=by
 cases e:g' a with
 |none=>rfl
 |some o=>
  rcases x.new a o e with h'|h'
  ·rw[h] at h';exact Aah h'
  ·rw[ha] at h';injection h'
theorem Fm.step(F:Fm B s₀ g₀ own env ρ s g)(x:Aae B s g s' g'):Fm B s₀ g₀ own env ρ s' g':=by
 refine Aab F.vars fun m hm hv=>?_;refine⟨F.st.trans x,F.kind,F.glob,F.blt,⟨m,AAQ hm x.ext,fun y d e k=>?_⟩,fun y hy=>?_,F.kinds,⟨F.loc.1,(let ⟨_,ho,_⟩:=AgD hm;x.shutNone ho F.loc.2)⟩,fun y hy=>?_⟩
 ·refine Aab (hv y d e k) fun v e1 e2=>?_;exact⟨v,e1,e2.mono x.le⟩
 ·refine Adf (F.cells y hy) fun c v e1 e2 e3=>?_;refine⟨c,v,e1,AcO e2 x.ext,fun d hd=>?_⟩;refine Aab (e3 d hd) fun v' e4 e5=>?_;exact⟨v',e4,e5.mono x.le⟩
 ·refine AAD (F.own y hy) fun c v e1 e2 e3 e4 e5=>?_;exact⟨c,v,e1,AcO e2 x.ext,e3,(let ⟨_,ho,_⟩:=e2;x.shutNone ho e4),e5⟩
theorem Fm.inv(F:Fm B s₀ g₀ own env ρ s g):Inv B s g:=F.st.inv
theorem Fm.loadName(F:Fm B s₀ g₀ own env ρ s g){x:Str}{d:D}(hx:ρ.lookup x=some d)(hok:AbA x=true):Aaq B A s g (loadName env x) fun g' v=>Den g' v d:=by
 rcases F.kinds x d hx with hk|hk|hk
 ·refine Aab F.vars fun m hm hv=>?_;refine Aab (hv x d hx hk) fun v e1 e2=>?_;exact wpAny_loadName_local F.kind hk hm e1 ⟨g,Aae.refl F.inv,e2⟩
 ·refine Adf (F.cells x (.inl hk)) fun c v e1 e2 e3=>?_;refine Aab (e3 d hx) fun v' q2 e5=>?_;subst q2;exact wpAny_loadName_cell F.kind hk e1 e2 ⟨g,Aae.refl F.inv,e5⟩
 ·refine Adf (F.cells x (.inr hk)) fun c v e1 e2 e3=>?_;refine Aab (e3 d hx) fun v' q3 e5=>?_;subst q3;exact wpAny_loadName_free F.kind hk e1 e2 ⟨g,Aae.refl F.inv,e5⟩ (Aud hok)
theorem Fm.name(F:Fm B s₀ g₀ own env ρ s g){x:Str}{d:D}{pos:Pos}(hx:ρ.lookup x=some d)(hok:AbA x=true):Aaq B A s g (eval (.Name x pos) env) fun g' v=>Den g' v d:=
 wpAny_Name (F.loadName hx hok) (AnW hok)
noncomputable def Bs.look(B:Bs)(x:Str):Option Value:=(B.mg x).or (B.mb x)
theorem Inv.ns{a:Addr}{m:Str→Option Value}(I:Inv B s g)(h:B.G.Ns a m):s.heap.Ns a m:=by refine ADx h fun o es ep ho r=>?_;exact⟨o,es,ep,I.real _ _ (I.base _ _ ho),r⟩
theorem Fm.gname(O:B.Ok)(F:Fm B s₀ g₀ own env ρ s g){x:Str}{v:Value}{pos:Pos}(hk:env.kindOf x=some .globalImplicit)(hv:B.look x=some v)(hok:AbA x=true) :
  Aaq B A s g (eval (.Name x pos) env) fun _ v'=>v'=v:=by
 refine wpAny_Name ?_ (AnW hok);rw[loadName_read F.kind hk];unfold loadGlobal;rw[F.glob,F.blt];refine wpAny_bind (wpAny_nsGet (F.inv.ns O.g) ?_);unfold Bs.look at hv
 cases e:B.mg x with
 |some v'=>
  rw[e] at hv
  cases hv
  exact wpAny_pure ⟨g,Aae.refl F.inv,rfl⟩
 |none=>
  rw[e] at hv;refine wpAny_bind (wpAny_nsGet (F.inv.ns O.b) ?_);have hv:B.mb x=some v:=hv;rw[hv];exact wpAny_pure ⟨g,Aae.refl F.inv,rfl⟩
noncomputable def Loc(env:Env)(own:List Str)(a:Addr):Prop:=a=env.locals∨∃ x∈own,env.cells.lookup x=some a
theorem Aaf{x y:Str}{d:D}:((x,d) :: ρ).lookup y=if y=x then some d else ρ.lookup y:=by
 rw[List.lookup_cons]
 by_cases h:y=x
 ·subst h;simp
 ·have:(y == x)=false:=beq_eq_false_iff_ne.mpr h;simp [h,this]
theorem Fm.store(O:B.Ok)(F:Fm B s₀ g₀ own env ρ s g){x:Str}{v:Value}{d:D}{Q:Unit→Shared→Prop}{E:Value→Shared→Prop}(hx:env.kindOf x=some .local∨(env.kindOf x=some .cell∧x∈own))(hd:Den g v d)
  (h:∀ s',Fm B s₀ g₀ own env ((x,d) :: ρ) s' g→(∀ a o,¬ Loc env own a→s.heap.get? a=some o→s'.heap.get? a=some o)→Q () s'):wpAny B.M A (storeName env x v) Q E s:=by
 refine Aab F.vars fun m hm hv=>?_
 rcases hx with hk|⟨hk,ho⟩
 ·refine wpAny_storeName_local hk hm (fun h' hn hs=>h _ ?_ (fun a o hl e=>(hs.2 a fun e'=>hl (.inl e')).trans e)) (by rw[F.kind];rfl);refine Aht (AgD hm) fun oL hL _ hnt _=>?_;refine⟨F.st.turn O F.loc.1 F.loc.2 hL hnt hs rfl rfl,F.kind,F.glob,F.blt,⟨_,hn,fun y e ey ky=>?_⟩,fun y hy=>?_,fun y e ey=>?_,F.loc,fun y hy=>?_⟩
  ·rw[Aaf] at ey
   by_cases hyx:y=x
   ·rw[if_pos hyx] at ey ⊢;cases ey;exact⟨v,rfl,hd⟩
   ·rw[if_neg hyx] at ey ⊢;exact hv y e ey ky
  ·refine Adf (F.cells y hy) fun c u e1 e2 e3=>?_;refine⟨c,u,e1,e2.sameBut hs (AfV hm e2).symm,fun e ey=>?_⟩;rw[Aaf] at ey
   by_cases hyx:y=x
   ·subst hyx;rw[hk] at hy;rcases hy with hy|hy<;>cases hy
   ·rw[if_neg hyx] at ey;exact e3 e ey
  ·rw[Aaf] at ey
   by_cases hyx:y=x
   ·subst hyx;exact .inl hk
   ·rw[if_neg hyx] at ey;exact F.kinds y e ey
  ·refine Adf (F.own y hy) fun c u e1 e2 r=>?_;exact⟨c,u,e1,e2.sameBut hs (AfV hm e2).symm,r⟩
 ·refine AAD (F.own x ho) fun c u e1 e2 e3 e4 e5=>?_;refine wpAny_storeName_cell F.kind hk e1 e2 fun h' hc hs=>h _ ?_ (fun a o hl e=>(hs.2 a fun e'=>hl (.inr ⟨x,ho,e' ▸ e1⟩)).trans e);refine Aht (AgC e2) fun oC hC _ hnt _=>?_;refine⟨F.st.turn O e3 e4 hC hnt hs rfl rfl,F.kind,F.glob,F.blt,⟨m,hm.sameBut hs (AfV hm e2),fun y e ey ky=>?_⟩,fun y hy=>?_,fun y e ey=>?_,F.loc,fun y hy=>?_⟩
  ·rw[Aaf] at ey
   by_cases hyx:y=x
   ·subst hyx;rw[hk] at ky;cases ky
   ·rw[if_neg hyx] at ey;exact hv y e ey ky
  ·by_cases hyx:y=x
   ·subst hyx;refine⟨c,some v,e1,hc,fun e ey=>?_⟩;rw[Aaf,if_pos rfl] at ey
    cases ey;exact⟨v,rfl,hd⟩
   ·refine Adf (F.cells y hy) fun c' u' f1 f2 f3=>?_;refine⟨c',u',f1,f2.sameBut hs (e5 y c' f1 hyx),fun e ey=>?_⟩;rw[Aaf,if_neg hyx] at ey;exact f3 e ey
  ·rw[Aaf] at ey
   by_cases hyx:y=x
   ·subst hyx;exact .inr (.inl hk)
   ·rw[if_neg hyx] at ey;exact F.kinds y e ey
  ·by_cases hyx:y=x
   ·subst hyx;exact⟨c,some v,e1,hc,e3,e4,e5⟩
   ·refine Adf (F.own y hy) fun c' u' f1 f2 r=>?_;exact⟨c',u',f1,f2.sameBut hs (e5 y c' f1 hyx),r⟩
theorem Fm.notLoc(F:Fm B s₀ g₀ own env ρ s g){a:Addr}{o:Obj}(ho:s.heap.get? a=some o)(h1:∀ v,o.data≠.cell v)(h2:∀ es n,o.data≠.dict es n):¬ Loc env own a:=by
 rintro(rfl|⟨x,hx,e⟩)
 ·refine Aab F.vars fun m hm _=>?_;refine AjZ hm fun o' ho' _ _ es n hd=>?_;rw[ho] at ho';cases ho';exact h2 _ _ hd
 ·refine Adf (F.own x hx) fun c v e1 q4 _=>?_;refine Aab q4 fun o' ho' hd=>?_;rw[e] at e1;cases e1;rw[ho] at ho';cases ho';exact h1 _ hd
end
theorem Abo:∀ (names:List (Str×NameKind)) (n:Nat) (acc:List (Str×Addr)),cellsFrom n names acc=cellsFrom n names []++acc
 |[],n,acc=>rfl
 |(x,k) :: r,n,acc=>by
  unfold cellsFrom
  split
  ·rw[Abo r (n+1) ((x,n) :: acc),Abo r (n+1) [(x,n)],List.append_assoc];rfl
  ·exact Abo r n acc
theorem Adv{α:Type}:∀ {l:List (Str×α)} {x:Str} {c:α},(x,c)∈l→(l.lookup x).isSome=true
 |(k,v) :: r,x,c,h=>by
  rw[List.lookup_cons]
  cases hb:x == k with
  |true=>rfl
  |false=>
   rcases List.mem_cons.mp h with e|h
   ·cases e;simp at hb
   ·exact Adv h
theorem AdG:∀ (names:List (Str×NameKind)) (n:Nat) {x:Str},(x,NameKind.cell)∈names→∃ c,(x,c)∈cellsFrom n names []
 |(y,k) :: r,n,x,h=>by
  unfold cellsFrom
  split
  ·rw[Abo]
   rcases List.mem_cons.mp h with e|h
   ·cases e;exact⟨n,List.mem_append_right _ (.head _)⟩
   ·refine Abm (AdG r (n+1) h) fun c hc=>?_;exact⟨c,List.mem_append_left _ hc⟩
  ·rename_i hk
   rcases List.mem_cons.mp h with e|h
   ·cases e;simp at hk
   ·exact AdG r n h
theorem Ado:∀ (names:List (Str×NameKind)) (n:Nat) {x:Str} {c:Addr},(x,c)∈cellsFrom n names []→(x,NameKind.cell)∈names
 |[],n,x,c,h=>by simp [cellsFrom] at h
 |(y,k) :: r,n,x,c,h=>by
  unfold cellsFrom at h
  split at h
  ·rename_i hk;rw[Abo] at h
   rcases List.mem_append.mp h with h|h
   ·exact List.mem_cons_of_mem _ (Ado r (n+1) h)
   ·simp only[List.mem_singleton] at h;cases h;have:k=.cell:=by simpa using hk
    subst this;exact .head _
  ·exact List.mem_cons_of_mem _ (Ado r n h)
theorem Adp{α:Type}:∀ (l l':List (Str×α)) (x:Str),(l++l').lookup x=(l.lookup x).or (l'.lookup x)
 |[],l',x=>by simp
 |(k,v) :: r,l',x=>by
  rw[List.cons_append,List.lookup_cons,List.lookup_cons]
  cases x == k with
  |true=>rfl
  |false=>exact Adp r l' x
noncomputable def Aak(names:List (Str×NameKind)):List Str:=(names.filter (·.2 == .cell)).map (·.1)
theorem Afr{names:List (Str×NameKind)}{x:Str}:x∈Aak names ↔ (x,NameKind.cell)∈names:=by
 unfold Aak;simp only[List.mem_map,List.mem_filter,beq_iff_eq]
 constructor
 ·intro q1;refine Aab q1 fun z1 z2 z3=>?_;obtain⟨y,k⟩:=z1;obtain⟨h1,h2⟩:=z2;subst z3;dsimp only at h2;subst h2;exact h1
 ·intro h;exact⟨(x,.cell),⟨h,rfl⟩,rfl⟩
section
variable{B:Bs}{A:Around}{s:Shared}{g:Gh}
theorem Aq9(O:B.Ok)(I:Inv B s g){names:List (Str×NameKind)}{cl:List (Str×Addr)}{env:Env}{ρ:List (Str×D)}{cls:Value}
  (hL:env.locals=s.heap.objs.size) (hc:env.cells=cellsFrom (s.heap.objs.size+1) names cl) (hk:env.scope.kind=.function) (hg:env.globals=mainGlobals) (hb:env.builtins=builtinsNs)
  (hcells:∀ x,(env.kindOf x=some .cell∨env.kindOf x=some .free)→(x,NameKind.cell)∈names∨∃ c v,cl.lookup x=some c∧s.heap.IsCell c v)
  (hold:∀ x c,cl.lookup x=some c→c<s.heap.objs.size)
  (hρ:∀ x d,ρ.lookup x=some d→(x,NameKind.cell) ∉ names∧(env.kindOf x=some .cell∨env.kindOf x=some .free)∧∃ c v,cl.lookup x=some c∧s.heap.IsCell c (some v)∧Den g v d) :
  Fm B s g (Aak names) env ρ {s with heap:=pushCells (s.heap.push {cls,data:=.dict #[]}) names} g:=by
 have keep:∀ a o,s.heap.get? a=some o→(pushCells (s.heap.push {cls,data:=.dict #[]}) names).get? a=some o:=fun a o e=>pushCells_keeps _ _ _ _ (Heap.get?_push_of_some _ e);have ok:=cellsFrom_ok names (s.heap.push {cls,data:=.dict #[]}) (s.heap.objs.size+1) [] ⟨fun _ _ hm=>(nomatch hm),List.Pairwise.nil⟩ (by rw[Heap.size_push];exact Nat.le_refl _);rw[Heap.size_push] at ok;have hc':env.cells=cellsFrom (s.heap.objs.size+1) names []++cl:=by rw[hc,Abo]
 have newl:∀ x,(x,NameKind.cell)∈names→∃ c,(cellsFrom (s.heap.objs.size+1) names []).lookup x=some c∧env.cells.lookup x=some c:=fun x hx=>by
  refine Abm (AdG names (s.heap.objs.size+1) hx) fun c hm=>?_;refine Abm (Option.isSome_iff_exists.mp (Adv hm)) fun c' e=>?_;exact⟨c',e,by rw[hc',Adp,e];rfl⟩
 have oldl:∀ x,(x,NameKind.cell) ∉ names→env.cells.lookup x=cl.lookup x:=fun x hx=>by
  rw[hc',Adp]
  cases e:(cellsFrom (s.heap.objs.size+1) names []).lookup x with
  |none=>rfl
  |some c=>exact absurd (Ado _ _ (PySem.mem_of_lookup e)) hx
 refine⟨⟨g.le_refl,I.keeps O keep rfl rfl,.of keep,fun _ _ e=>.inl e⟩,hk,hg,hb,⟨fun _=>none,?_,fun x d e k=>?_⟩,fun x hx=>?_,fun x d e=>?_,⟨?_,?_⟩,fun x hx=>?_⟩
 ·rw[hL];exact(Heap.Ns.new s.heap cls).keeps (pushCells_keeps _ _)
 ·refine Ahs (hρ x d e) fun _ h _=>?_;rw[k] at h;rcases h with h|h<;>cases h
 ·by_cases hn:(x,NameKind.cell)∈names
  ·refine Aab (newl x hn) fun c e1 e2=>?_;refine⟨c,none,e2,(ok.empty x c (PySem.mem_of_lookup e1)).1,fun d hd=>?_⟩;exact absurd hn (hρ x d hd).1
  ·rcases hcells x hx with h|⟨c,v,e1,e2⟩
   ·exact absurd h hn
   ·refine⟨c,v,by rw[oldl x hn];exact e1,e2.keeps keep,fun d hd=>?_⟩
    obtain⟨_,_,c',v',f1,f2,f3⟩:=hρ x d hd
    rw[e1] at f1;cases f1;refine Aab e2 fun o ho hd=>?_;refine Aab f2 fun o' ho' hd'=>?_;rw[ho] at ho';cases ho';rw[hd] at hd';cases hd';exact⟨v',rfl,f3⟩
 ·refine Ahs (hρ x d e) fun _ h _=>?_;exact .inr h
 ·rw[hL];exact AaM _
 ·rw[hL];exact I.fresh
 ·have hn:=Afr.mp hx;refine Aab (newl x hn) fun c e1 e2=>?_;have em:=ok.empty x c (PySem.mem_of_lookup e1);refine⟨c,none,e2,em.1,?_,?_,fun y c' hy hyx=>?_⟩
  ·cases e:s.heap.get? c with
   |none=>rfl
   |some o=>exact absurd (Heap.lt_size e) (Nat.not_lt.mpr (Nat.le_of_succ_le em.2))
  ·cases e:g c with
   |none=>rfl
   |some o=>exact absurd (Heap.lt_size (I.real c o e)) (Nat.not_lt.mpr (Nat.le_of_succ_le em.2))
  ·by_cases hny:(y,NameKind.cell)∈names
   ·refine Aab (newl y hny) fun c'' f1 f2=>?_;rw[hy] at f2;cases f2;intro q2;subst q2;exact hyx (name_of_addr ok.apart (PySem.mem_of_lookup f1) (PySem.mem_of_lookup e1))
   ·rw[oldl y hny] at hy;intro q3;subst q3;exact absurd (hold y c' hy) (Nat.not_lt.mpr (Nat.le_of_succ_le em.2))
theorem Fm.binds{s₀:Shared}{g₀:Gh}{own:List Str}{env:Env}(O:B.Ok)(f:Str×Value→PUnit→Sem (ForInStep PUnit))(hf:∀ n v u,f (n,v) u=(do storeName env n v;pure (.yield ⟨⟩))) :
  ∀ (xs:List Str) (vs:List Value) (ds:List D) (ρ:List (Str×D)) (s:Shared) (Q:PUnit→Shared→Prop),Fm B s₀ g₀ own env ρ s g→Aar g vs ds→xs.length=ds.length →
   (∀ x∈xs,env.kindOf x=some .local∨(env.kindOf x=some .cell∧x∈own)) →
   (∀ s',Fm B s₀ g₀ own env ((xs.zip ds).reverse++ρ) s' g→Q ⟨⟩ s')→wpAny B.M A (forIn (xs.zip vs) ⟨⟩ f) Q (fun _ _=>False) s
 |[],_,_,ρ,s,Q,F,_,_,_,h=>by rw[List.zip_nil_left,List.forIn_nil];exact wpAny_pure (h s (by simpa using F))
 |x :: xs,_,_,ρ,s,Q,F,.nil,hl,_,_=>by simp at hl
 |x :: xs,_,_,ρ,s,Q,F,.cons (d:=d) hd hr,hl,hk,h=>by
  rw[List.zip_cons_cons,List.forIn_cons,hf];refine wpAny_bind (wpAny_bind (F.store O (hk x (.head _)) hd fun s' F' _=>wpAny_pure ?_));refine Fm.binds O f hf xs _ _ _ s' Q F' hr (by simpa using hl) (fun y hy=>hk y (.tail _ hy)) fun s'' F''=>h s'' ?_;simpa using F''
theorem Ara(O:B.Ok)(I:Inv B s g){scope:Scope}{qual:Str}{func:Option Addr}{code:Value}{xs:List Str}{vs:List Value}{ds:List D}{Q:Env→Shared→Prop}
  (hk:scope.kind=.function) (hfree:∀ x,scope.names.lookup x≠some .free) (hx:∀ x∈xs,scope.names.lookup x=some .local∨scope.names.lookup x=some .cell) (hl:xs.length=ds.length) (hv:Aar g vs ds)
  (h:∀ env s',env.scope=scope→env.code=code→env.qual=qual→Fm B s g (Aak scope.names) env (xs.zip ds).reverse s' g→Q env s') :
  wpAny B.M A (newFunctionEnv scope mainGlobals [] (xs.zip vs) qual func code none builtinsNs) Q (fun _ _=>False) s:=by
 simp only[newFunctionEnv,Option.isSome_none,Bool.false_eq_true,if_false];refine wpAny_bind (wpAny_alloc ?_);refine wpAny_bind (wpAny_layCells _ (fun name kind cells=>by cases hkc:kind == NameKind.cell<;>simp) _ _ _ _ ?_);rw[show({s with heap:=s.heap.push {cls:=.type "frame",data:=.dict #[]}}:Shared).heap.objs.size=s.heap.objs.size+1 from Heap.size_push ..];have kf:∀ x,scope.names.lookup x=some .cell→(x,NameKind.cell)∈scope.names:=fun x e=>PySem.mem_of_lookup e;have F:=Aq9 (names:=scope.names) (cl:=[]) (ρ:=[]) (cls:=.type "frame") (env:=newEnv scope s.heap.objs.size mainGlobals (cellsFrom (s.heap.objs.size+1) scope.names []) qual func code none builtinsNs) O I rfl rfl hk rfl rfl
  (fun x e=>e.elim (fun e=>.inl (kf x e)) fun e=>absurd e (hfree x)) (fun _ _ e=>by exact Aah e) (fun _ _ e=>by exact Aah e)
 refine wpAny_bind ?_;refine Fm.binds O _ (fun _ _ _=>rfl) xs vs ds [] _ _ F hv hl (fun x hxx=>?_) fun s' F'=>wpAny_pure (h _ s' rfl rfl rfl (by rw[List.append_nil] at F';exact F'))
 rcases hx x hxx with e|e
 ·exact .inl e
 ·exact .inr ⟨e,Afr.mpr (kf x e)⟩
end
noncomputable def Acf{α:Type}(d:D)(f:Int→Option α):Option α:=match d with
 |.int i=>f i
 |_=>none
noncomputable def AdH{α:Type}(d:D)(f:Str→Option α):Option α:=match d with
 |.str i=>f i
 |_=>none
noncomputable def Acx{α:Type}(d:D)(f:List D→Option α):Option α:=match d with
 |.list i=>f i
 |_=>none
theorem Aap{α:Type}{d:D}{f:Int→Option α}{r:α}(h:Acf d f=some r):∃ i,d=.int i∧f i=some r:=by induction d using D.casesOn<;>first|exact Aah h|exact⟨_,rfl,h⟩
theorem AaN{α:Type}{d:D}{f:Str→Option α}{r:α}(h:AdH d f=some r):∃ i,d=.str i∧f i=some r:=by induction d using D.casesOn<;>first|exact Aah h|exact⟨_,rfl,h⟩
theorem AaT{α:Type}{d:D}{f:List D→Option α}{r:α}(h:Acx d f=some r):∃ i,d=.list i∧f i=some r:=by induction d using D.casesOn<;>first|exact Aah h|exact⟨_,rfl,h⟩
noncomputable def AFf(op:Operator)(a b:Int):Option D:=match op with
 |.Add=>some (.int (a+b))
 |.Sub=>some (.int (a - b))
 |.Mult=>if a.natAbs<2 ^ 64∧b.natAbs<2 ^ 64 then some (.int (a*b)) else none
 |.FloorDiv=>if b≠0∧b.natAbs<1073741824 then some (.int (a.fdiv b)) else none
 |.Mod=>if b≠0 then some (.int (a.fmod b)) else none
 |.Pow=>if 0≤b∧b≤100∧a.natAbs<2 ^ 64 then some (.int (a ^ b.toNat)) else none
 |.LShift=>if 0≤b∧b≤1000000∧a.natAbs<2 ^ 64 then some (.int (a*2 ^ b.toNat)) else none
 |.RShift=>if 0≤b then some (.int (a.fdiv (2 ^ b.toNat))) else none
 |.BitAnd=>some (.int (Builtin.bitAnd a b))
 |.BitOr=>some (.int (Builtin.bitOr a b))
 |.BitXor=>some (.int (Builtin.bitXor a b))
 |_=>none
noncomputable def AFO(op:Operator)(a:Str)(d:D):Option D:=match op with
 |.Add=>AdH d fun b=>if a.cps.size+b.cps.size≤1000000 then some (.str (a++b)) else none
 |.Mult=>Acf d fun n=>if a.cps.size≤1000∧-1000000≤n∧n≤1000 then some (.str (Txt.mul a n)) else none
 |_=>none
noncomputable def ADS(op:Operator)(a:List D)(d:D):Option D:=match op with
 |.Add=>Acx d fun b=>if a.length+b.length≤1000000 then some (.list (a++b)) else none
 |.Mult=>Acf d fun n=>if a.length*n.toNat≤1000000∧n≤1000000∧-1000000≤n then some (.list (List.replicate n.toNat a).flatten) else none
 |_=>none
noncomputable def AmM(op:Operator)(x y:D):Option D:=match x with
 |.int a=>Acf y fun b=>AFf op a b
 |.str a=>AFO op a y
 |.list a=>ADS op a y
 |_=>none
theorem AaO{n:Nat}(h:n≤1000000):n≤sizeLine:=Nat.le_trans h (by decide)
theorem Aue{x:Str}{n:Int}(h1:x.cps.size≤1000)(h2:-1000000≤n)(h3:n≤1000):MulOk x n:=by
 have hx:x.length≤1000:=h1;refine⟨by simp only[Bool.or_eq_false_iff,decide_eq_false_iff_not];omega,fun h _=>?_,fun _ _=>?_⟩
 ·have h4:(1000:Int)≤(2 ^ 63 - 1) / n:=by rw[Int.le_ediv_iff_mul_le (by omega)];omega
  omega
 ·have:x.length*n.toNat≤1000*1000:=Nat.mul_le_mul hx (by omega);show decide (_ > sizeLine)=false;have:=AaO this;simp only[decide_eq_false_iff_not];omega
section
variable{B:Bs}{A:Around}{s:Shared}{g:Gh}
theorem Inv.get{a:Addr}{o:Obj}(I:Inv B s g)(h:g a=some o):s.heap.get? a=some o:=I.real a o h
theorem Ac0(O:B.Ok)(I:Inv B s g){vs:Array Value}{ds:List D}(h:Aar g vs.toList ds) :
  ∃ g',Aae B s g {s with heap:=s.heap.push {cls:=.type "list",data:=.seq vs}} g'∧Den g' (.ref s.heap.objs.size) (.list ds):=
 ⟨_,Aae.alloc O I rfl (Aal rfl),.list (Gh.put_self ..) (h.mono (Gh.le_put _ I.fresh))⟩
theorem Adg(O:B.Ok)(I:Inv B s g){vs:Array Value}{ds:List D}(h:Aar g vs.toList ds) :
  ∃ g',Aae B s g {s with heap:=s.heap.push {cls:=.type "tuple",data:=.seq vs}} g'∧Den g' (.ref s.heap.objs.size) (.tup ds):=
 ⟨_,Aae.alloc O I rfl (Aal rfl),.tup (Gh.put_self ..) (h.mono (Gh.le_put _ I.fresh))⟩
theorem AlB{A:Around}{E:Value→Shared→Prop}{Q:Value→Shared→Prop}{prog:Program}{w:World}{l b:Addr}{vs ws:Array Value}(hl:s.heap.IsList l vs)(hb:s.heap.IsList b ws)
  (h:Q (.ref s.heap.objs.size) {s with heap:=s.heap.push {cls:=.type "list",data:=.seq (vs++ws)}}) (hsz:vs.size+ws.size≤sizeLine) :
  wpAny (model prog w) A (binaryOp .Add (.ref l) (.ref b)) Q E s:=by
 obtain⟨⟨cls,dd,data,sl⟩,ho,hc,n,hd⟩:=id hl
 obtain⟨⟨cls2,dd2,data2,sl2⟩,ho2,hc2,n2,hd2⟩:=id hb
 simp only at hc hd hc2 hd2;subst hc hd hc2 hd2;exact concat_meets ⟨_,ho,rfl⟩ ⟨_,ho2,rfl⟩ noFill_list_add seq_list_add PySem.F.slot_list_add PySem.F.entry_list_add (PySem.F.args_list_add_2 _ _) (list_addW l b vs ws n n2 dd dd2 sl sl2 hsz) ⟨ho,ho2,h⟩
theorem Aes{A:Around}{E:Value→Shared→Prop}{Q:Value→Shared→Prop}{prog:Program}{w:World}{l:Addr}{items:Array Value}{k:Nat}{x:Int}{u:Tok}
  (hl:s.heap.get? l=some {cls:=.type "list",dict:=none,data:=.seq items k,slots:=#[]})
  (hlo:-(2 ^ 63:Int)≤x) (hhi:x<2 ^ 63) (hsz:items.size*x.toNat≤2 ^ 24)
  (h:Q (.ref s.heap.objs.size) {s with heap:=s.heap.push {cls:=.type "list",data:=.seq (List.foldl (fun x1 x2=>x1++x2) #[] (List.replicate (if items.isEmpty=true then 0 else x.toNat) items))}}) :
  wpAny (model prog w) A (binaryOp .Mult (.ref l) (.int x u)) Q E s:=
 wpAny_binaryOp_repeat_ref (T:="list") (U:="int") (by decide) ⟨_,hl,rfl⟩ (fun s'=>typeIs_int s' x u) noFill_list_mul F.fills_int_mul F.slot_int_rmul repeat_list F.slot_int_index.lookup
  (call_meets F.slot_int_rmul (typeIs_int s x u) F.entry_int_rmul (F.args_int_rmul_2 _ _) (int___rmul___int_list x u l items k)
   ⟨hl,rfl,⟨_,hl,rfl⟩,call_meets F.slot_list_mul ⟨_,hl,rfl⟩ F.entry_list_mul (F.args_list_mul_2 _ _)
    (AutoListH.list___mul___list_int_3 l items k x u (by simp [Builtin.List.listFitsIndex];omega) (by omega) (by simp [Builtin.List.listTooLong,sizeLine];omega))
    ⟨hl,h⟩⟩)
theorem Ab7(items:Array Value):∀ (l:List (Array Value)) (acc:Array Value),(l.foldl (fun x1 x2=>x1++x2) acc).toList=acc.toList++(l.map Array.toList).flatten
 |[],acc=>by simp
 |x :: r,acc=>by rw[List.foldl_cons,Ab7 items r];simp
theorem Aar.flattenRep{g:Gh}{vs:List Value}{ds:List D}(h:Aar g vs ds):∀ n,Aar g (List.replicate n vs).flatten (List.replicate n ds).flatten
 |0=>.nil
 |n+1=>by simp only[List.replicate_succ,List.flatten_cons];exact h.append (h.flattenRep n)
theorem Aet{α:Type}(n:Nat):(List.replicate n ([]:List α)).flatten=[]:=by induction n with
 |zero=>rfl
 |succ n ih=>simp [List.replicate_succ]
theorem AnX{a:Int}(h:a.natAbs<2 ^ 64):Builtin.Int.intBits a≤64:=intBits_le_64 (Int.neg_lt_of_neg_lt (Int.lt_of_le_of_lt (Int.natAbs_neg a ▸ Int.le_natAbs) (Int.ofNat_lt.mpr h))) (Int.lt_of_le_of_lt Int.le_natAbs (Int.ofNat_lt.mpr h))
theorem Arb(I:Inv B s g){op:Operator}{a b:Int}{t u:Tok}{r:D}(h:AFf op a b=some r) :
  Aaq B A s g (binaryOp op (.int a t) (.int b u)) fun g' v=>Den g' v r:=by
 cases op with
 |Add=>cases h;exact add_int ⟨g,Aae.tok I _,Den.int⟩
 |Sub=>cases h;exact sub_int ⟨g,Aae.tok I _,Den.int⟩
 |Mult=>refine Aaz (Abg h) fun hsz h=>?_;cases h;exact mul_int ⟨g,Aae.tok I _,Den.int⟩ (IntMulOk.of_left (AnX hsz.1))
 |FloorDiv=>refine Aaz (Abg h) fun hsz h=>?_;cases h;exact floordiv_int hsz.1 ⟨g,Aae.tok I _,Den.int⟩ (.inl (PyProof.noPylong_small hsz.2))
 |Mod=>refine Aaz (Abg h) fun hsz h=>?_;cases h;exact mod_int hsz ⟨g,Aae.tok I _,Den.int⟩
 |Pow=>
  refine Aaz (Abg h) fun hsz h=>?_;cases h;refine pow_int hsz.1 ?_ ⟨g,Aae.tok I _,Den.int⟩;have h1:((Builtin.Int.intBits a:Nat):Int)≤64:=Int.ofNat_le.mpr (AnX hsz.2.2);have h2:((Builtin.Int.intBits a:Nat):Int)*b≤64*b:=Int.mul_le_mul_of_nonneg_right h1 hsz.1
  omega
 |LShift=>refine Aaz (Abg h) fun hsz h=>?_;cases h;exact lshift_int_small hsz.1 hsz.2.1 hsz.2.2 ⟨g,Aae.tok I _,Den.int⟩
 |RShift=>refine Aaz (Abg h) fun hsz h=>?_;cases h;exact rshift_int hsz ⟨g,Aae.tok I _,Den.int⟩
 |BitAnd=>cases h;exact and_int ⟨g,Aae.tok I _,Den.int⟩
 |BitOr=>cases h;exact or_int ⟨g,Aae.tok I _,Den.int⟩
 |BitXor=>cases h;exact xor_int ⟨g,Aae.tok I _,Den.int⟩
 |Div=>exact Aah h
 |MatMult=>exact Aah h
theorem Arc(O:B.Ok)(I:Inv B s g){op:Operator}{va vb:Value}{a b r:D}(ha:Den g va a)(hb:Den g vb b)(h:AmM op a b=some r) :
  Aaq B A s g (binaryOp op va vb) fun g' v=>Den g' v r:=by
 induction a using D.casesOn with
 |int a=>
  (refine Aab (Aap h) fun b q1 h=>?_;subst q1)
  induction ha using Den.intE;induction hb using Den.intE;exact Arb I h
 |str a=>
  induction ha using Den.strE
  cases op with
  |Add=>
   (refine Aab (AaN h) fun b q2 h=>?_;subst q2)
   refine Aaz (Abg h) fun hsz h=>?_
   cases h;induction hb using Den.strE;exact add_str (fun t' tk=>⟨g,Aae.tok I _,Den.str⟩) (AaO hsz)
  |Mult=>
   (refine Aab (Aap h) fun b q3 h=>?_;subst q3)
   refine Aaz (Abg h) fun hsz h=>?_
   cases h;induction hb using Den.intE;exact SB.mul (Aue hsz.1 hsz.2.1 hsz.2.2) fun t' k=>⟨g,Aae.tok I _,Den.str⟩
  |_=>exact Aah h
 |list a=>
  induction ha using Den.listE with|list h1 h2=>?_
  cases op with
  |Add=>
   (refine Aab (AaT h) fun b q4 h=>?_;subst q4)
   refine Aaz (Abg h) fun hsz h=>?_
   cases h
   induction hb using Den.listE with|list h3 h4=>?_
   refine AlB ⟨_,I.get h1,rfl,_,rfl⟩ ⟨_,I.get h3,rfl,_,rfl⟩ (Ac0 O I (by rw[Array.toList_append];exact h2.append h4)) (AaO ?_);have e1:=h2.length;have e2:=h4.length;simp only[Array.length_toList] at e1 e2;omega
  |Mult=>
   (refine Aab (Aap h) fun b q5 h=>?_;subst q5)
   refine Aaz (Abg h) fun hsz h=>?_
   cases h;induction hb using Den.intE
   have e1:=h2.length;simp only[Array.length_toList] at e1;refine Aes (I.get h1) (by omega) (by omega) (by rw[e1];exact Nat.le_trans hsz.1 (by decide)) (Ac0 O I ?_);rw[Ab7 #[]];simp only[Array.toList_empty,List.nil_append,List.map_replicate]
   split
   ·rename_i hem;have:‹Array Value›.toList=[]:=by simpa using hem
    rw[this] at h2
    cases h2
    rw[Aet];exact .nil
   ·exact h2.flattenRep _
  |_=>exact Aah h
 |_=>exact Aah h
end
mutual
noncomputable def pyD:D→Option PyData
 |.none=>some .none
 |.bool b=>some (.bool b)
 |.int i=>some (.int i)
 |.str x=>some (.str x)
 |.tup l=>(Auf l).bind fun l=>some (.tuple l)
 |.list l=>(Auf l).bind fun l=>some (.list l)
 |.dict _ _ _=>none
 |.rng _ _=>none
 |.val _=>none
noncomputable def Auf:List D→Option (List PyData)
 |[]=>some []
 |d :: r=>(pyD d).bind fun p=>(Auf r).bind fun ps=>some (p :: ps)
end
noncomputable def Ard:D→Option Int
 |.int i=>some i
 |_=>none
theorem Adq{d:D}{i:Int}(h:Ard d=some i):d=.int i:=by
 revert h;induction d using D.casesOn<;>first|exact fun h=>congrArg D.int (sj h)|exact Aah
section
variable{B:Bs}{A:Around}{s:Shared}{g:Gh}
theorem AoT(I:Inv B s g):(∀ {v d},Den g v d→∀ p,pyD d=some p→∃ as,Reads s.heap v p as)∧(∀ {vs ds},Aar g vs ds→∀ ps,Auf ds=some ps→∃ as,ReadsAll s.heap vs ps as):=by
 refine Den.both (P:=fun v d=>∀ p,pyD d=some p→∃ as,Reads s.heap v p as) (Q:=fun vs ds=>∀ ps,Auf ds=some ps→∃ as,ReadsAll s.heap vs ps as) ?_ ?_ ?_ ?_ ?_ ?_ (fun _ _ _ _ h=>Aah h) (fun _ _ h=>Aah h) (fun _ h=>Aah h) ?_ ?_
 ·exact fun _ h=>sj h ▸ ⟨_,.none⟩
 ·exact fun _ h=>sj h ▸ ⟨_,.bool _⟩
 ·exact fun _ h=>sj h ▸ ⟨_,.int _ _⟩
 ·exact fun _ h=>sj h ▸ ⟨_,.str _ _⟩
 ·intro a vs n ds e q p h;refine Aab (Aag h) fun ps e1 h=>?_;rw[← sj h];exact(q ps e1).elim fun as q=>⟨_,.tuple (I.get e) rfl rfl q⟩
 ·intro a vs n ds e q p h;refine Aab (Aag h) fun ps e1 h=>?_;rw[← sj h];exact(q ps e1).elim fun as q=>⟨_,.list (I.get e) rfl rfl q⟩
 ·exact fun _ h=>sj h ▸ ⟨_,.nil⟩
 ·intro v d vs ds q1 q2 p h;refine Aab (Aag h) fun p1 e1 h=>?_;refine Aab (Aag h) fun ps e2 h=>?_;rw[← sj h];exact(q1 p1 e1).elim fun as q=>(q2 ps e2).elim fun bs r=>⟨_,.cons q r⟩
theorem AnY(I:Inv B s g){v:Value}{d:D}{p:PyData}(hd:Den g v d)(h:pyD d=some p):∃ as,Reads s.heap v p as:=(AoT I).1 hd p h
noncomputable def eqD(a b:D):Option Bool:=(pyD a).bind fun p=>(pyD b).bind fun q=>if p.canLay0=true∧q.canLay0=true∧p.depth≤60 then some (PyData.eqv p q) else none
noncomputable def AlC(f:Int→Int→Bool)(a b:D):Option Bool:=(Ard a).bind fun i=>(Ard b).bind fun j=>some (f i j)
noncomputable def AmN(op:CmpOp)(a b:D):Option Bool:=match op with
 |.Eq=>eqD a b
 |.NotEq=>(eqD a b).bind fun c=>some (!c)
 |.Lt=>AlC (fun i j=>decide (i<j)) a b
 |.Gt=>AlC (fun i j=>decide (j<i)) a b
 |.LtE=>AlC (fun i j=>decide (i≤j)) a b
 |.GtE=>AlC (fun i j=>decide (j≤i)) a b
 |_=>none
theorem nlt{k:Int}{n:Nat}(h:¬ k<0)(hl:k.toNat<n)(hn:n≤1000000):k<2 ^ 63:=Int.lt_of_lt_of_le ((Int.toNat_lt (Int.not_lt.mp h)).mp hl) (Int.le_trans (Int.ofNat_le.mpr hn) (by decide))
theorem AOk.units_lt{n:Nat}(hA:AOk n A):A.units+60<cLine:=Nat.lt_of_le_of_lt (Nat.add_le_add_right (Nat.le_trans (Nat.le_add_right _ _) hA.units) 60) (show 9800+60<9900 by decide)
structure EqR(A:Around)(s:Shared)(va vb:Value)(c:Bool)(p q:PyData)(as bs:List Addr):Prop where
 r1:Reads s.heap va p as
 r2:Reads s.heap vb q bs
 l1:p.canLay0=true
 l2:q.canLay0=true
 hu:A.units+min p.depth q.depth<cLine
 e:c=PyData.eqv p q
theorem AnZ{n:Nat}(hA:AOk n A)(I:Inv B s g){va vb:Value}{a b:D}{c:Bool}(ha:Den g va a)(hb:Den g vb b)(h:eqD a b=some c):∃ p q as bs,EqR A s va vb c p q as bs:=by refine Aab (Aag h) fun p e1 h=>?_;refine Aab (Aag h) fun q e2 h=>?_;refine Aaz (Abg h) fun hc h=>?_;refine Abm (AnY I ha e1) fun as r1=>?_;refine Abm (AnY I hb e2) fun bs r2=>?_;exact⟨p,q,as,bs,r1,r2,hc.1,hc.2.1,Nat.lt_of_le_of_lt (Nat.add_le_add_left (Nat.le_trans (Nat.min_le_left _ _) hc.2.2) _) hA.units_lt,(sj h).symm⟩
theorem Ahk{op:CmpOp}{f:Int→Int→Bool}(H:∀ i j t u,Aaq B A s g (compareOp op (.int i t) (.int j u)) fun _ v=>v=.bool (f i j)){va vb:Value}{a b:D}{c:Bool}(ha:Den g va a)(hb:Den g vb b)(h:AlC f a b=some c) :
  Aaq B A s g (compareOp op va vb) fun _ v=>v=.bool c:=by
 refine Aab (Aag h) fun i e1 h=>?_;refine Aab (Aag h) fun j e2 h=>?_;rw[Adq e1] at ha;rw[Adq e2] at hb;rw[← sj h];induction ha using Den.intE;induction hb using Den.intE;exact H _ _ _ _
theorem AlD{n:Nat}(hA:AOk n A)(I:Inv B s g){op:CmpOp}{va vb:Value}{a b:D}{c:Bool}(ha:Den g va a)(hb:Den g vb b)(h:AmN op a b=some c) :
  Aaq B A s g (compareOp op va vb) fun _ v=>v=.bool c:=by
 induction op using CmpOp.casesOn with
 |Eq=>
  refine Aua (AnZ hA I ha hb h) fun p q as bs r=>?_;rw[r.e];exact SeqAt.compareEq_reads r.r1 r.r2 r.l1 r.l2 r.hu ⟨g,Aae.refl I,rfl⟩
 |NotEq=>
  refine Aab (Aag h) fun c' e h=>?_;refine Aua (AnZ hA I ha hb e) fun p q as bs r=>?_;rw[← sj h,r.e];exact SeqAt.compareNe_reads r.r1 r.r2 r.l1 r.l2 r.hu ⟨g,Aae.refl I,rfl⟩
 |Lt=>exact Ahk (fun _ _ _ _=>lt_int ⟨g,Aae.refl I,rfl⟩) ha hb h
 |Gt=>exact Ahk (fun _ _ _ _=>gt_int ⟨g,Aae.refl I,rfl⟩) ha hb h
 |LtE=>exact Ahk (fun _ _ _ _=>le_int ⟨g,Aae.refl I,rfl⟩) ha hb h
 |GtE=>exact Ahk (fun _ _ _ _=>ge_int ⟨g,Aae.refl I,rfl⟩) ha hb h
 |_=>exact Aah h
noncomputable def Ab9:D→Option Bool
 |.none=>some false
 |.bool b=>some b
 |.int i=>some (i != 0)
 |.str x=>if x.cps.size≤1000000 then some ((x.cps.size:Int) != 0) else none
 |.list l=>if l.length≤1000000 then some (!l.isEmpty) else none
 |.tup l=>if l.length≤1000000 then some (!l.isEmpty) else none
 |_=>none
theorem Aj0{vs:Array Value}{ds:List D}(h:Aar g vs.toList ds):vs.isEmpty=ds.isEmpty:=by
 have e:=h.length;simp only[Array.length_toList] at e;induction ds using List.casesOn with
 |nil=>simp at e;simp [e]
 |cons d r=>
  simp at e;have:vs≠#[]:=by intro q1;subst q1;simp at e
  simp [this]
theorem Ae1(I:Inv B s g){v:Value}{d:D}{c:Bool}(hd:Den g v d)(h:Ab9 d=some c):Aaq B A s g (truthy v) fun _ b=>b=c:=by
 induction d using D.casesOn with
 |none=>rw[← sj h];induction hd using Den.noneE;exact truthy_none ⟨g,Aae.refl I,rfl⟩
 |bool b=>rw[← sj h];induction hd using Den.boolE;exact wpAny_truthy_bool ⟨g,Aae.refl I,rfl⟩
 |int i=>rw[← sj h];induction hd using Den.intE;exact truthy_int ⟨g,Aae.refl I,rfl⟩
 |str x=>
  refine Aaz (Abg h) fun hs h=>?_;rw[← sj h];induction hd using Den.strE;refine P.truthy_str ?_ ⟨g,Aae.tok I _,rfl⟩;exact Int.not_le.mpr (Int.lt_of_le_of_lt (Int.ofNat_le.mpr hs) (by decide))
 |list l=>
  refine Aaz (Abg h) fun hs h=>?_;rw[← sj h];induction hd using Den.listE with|list h1 h2=>?_
  exact wpAny_truthy_list ⟨_,I.get h1,rfl,_,rfl⟩ (by have:=h2.length;rw[Array.length_toList] at this;rw[this];exact Int.lt_of_le_of_lt (Int.ofNat_le.mpr hs) (by decide)) ⟨g,Aae.tok I _,by rw[Aj0 h2]⟩
 |tup l=>
  refine Aaz (Abg h) fun hs h=>?_;rw[← sj h];induction hd using Den.tupE with|tup h1 h2=>?_
  exact truthy_tuple ⟨_,I.get h1,rfl,_,rfl⟩ (by have:=h2.length;rw[Array.length_toList] at this;rw[this];exact Int.lt_of_le_of_lt (Int.ofNat_le.mpr hs) (by decide)) ⟨g,Aae.tok I _,by rw[Aj0 h2]⟩
 |_=>exact Aah h
noncomputable def unD(op:UnaryOp)(d:D):Option D:=match op with
 |.Not=>(Ab9 d).bind fun c=>some (.bool (!c))
 |.USub=>(Ard d).bind fun i=>some (.int (-i))
 |.Invert=>(Ard d).bind fun i=>some (.int (Builtin.bitNot i))
 |_=>none
theorem Aug(I:Inv B s g){op:UnaryOp}{v:Value}{a r:D}(hd:Den g v a)(h:unD op a=some r):Aaq B A s g (unaryOp op v) fun g' v'=>Den g' v' r:=by
 induction op using UnaryOp.casesOn with
 |Not=>
  refine Aab (Aag h) fun c e h=>?_;rw[← sj h];exact not_of ((Ae1 I hd e).use fun b s' g' x e'=>⟨g',x,by rw[e'];exact .bool⟩)
 |USub=>
  refine Aab (Aag h) fun i e h=>?_;rw[← sj h];rw[Adq e] at hd;induction hd using Den.intE;exact neg_int ⟨g,Aae.tok I _,.int⟩
 |Invert=>
  refine Aab (Aag h) fun i e h=>?_;rw[← sj h];rw[Adq e] at hd;induction hd using Den.intE;exact invert_int ⟨g,Aae.tok I _,.int⟩
 |_=>exact Aah h
noncomputable def Are:Const→Option D
 |.none=>some .none
 |.bool b=>some (.bool b)
 |.int i=>some (.int i)
 |.str x=>some (.str x)
 |_=>none
theorem AmR(I:Inv B s g){env:Env}{c:Const}{k:Nat}{pos:Pos}{d:D}(h:Are c=some d):Aaq B A s g (eval (.Constant c k pos) env) fun g' v=>Den g' v d:=by
 induction c using Const.casesOn with
 |none=>rw[← sj h];exact wpAny_pure ⟨g,Aae.refl I,.none⟩
 |bool b=>rw[← sj h];exact wpAny_pure ⟨g,Aae.refl I,.bool⟩
 |int i=>rw[← sj h];exact wpAny_mkInt ⟨g,Aae.tok I _,.int⟩
 |str x=>rw[← sj h];exact wpAny_mkText ⟨g,Aae.tok I _,.str⟩
 |_=>exact Aah h
noncomputable def Aw5(k:Int)(n:Nat):Nat:=if k<0 then (k+n).toNat else k.toNat
noncomputable def Ahy(x:Str):List Str→List D→Option D
 |k :: ks,d :: ds=>if x=k then some d else Ahy x ks ds
 |_,_=>none
noncomputable def atD(l:List D)(k:Int):Option D:=if -(l.length:Int)≤k∧l.length≤1000000 then l[Aw5 k l.length]? else none
noncomputable def ADT(k:Int):D→Option D
 |.list l=>atD l k
 |.tup l=>atD l k
 |_=>none
noncomputable def Adw(a b:D):Option D:=(Ard b).bind fun k=>ADT k a
theorem Ahz{l:List D}{i:Nat}{d:D}(h:l[i]?=some d):i<l.length:=(List.getElem?_eq_some_iff.mp h).1
theorem AoU(I:Inv B s g){o i:Value}{a b r:D}{value slice:Expr}(ha:Den g o a)(hb:Den g i b)(h:Adw a b=some r)
  (hs:subscripted slice false o i=operate [o,i] (getItem o i)):Aaq B A s g (subscriptTail value slice o i) fun g' v=>Den g' v r:=by
 refine Aab (Aag h) fun k ek h=>?_;rw[Adq ek] at hb;induction hb using Den.intE;clear ek;induction a using D.casesOn with
 |list l=>
  refine Aaz (Abg h) fun hc h=>?_;induction ha using Den.listE with|list h1 h2=>?_
  refine Aab (h2.get h) fun v e hv=>?_;have hlt:=Ahz h;have e1:=h2.length;rw[Array.length_toList] at e1;refine tail_any ⟨_,I.get h1,rfl⟩ slot_list_getitem.lookup ?_ hs;unfold Aw5 at e hlt
  by_cases hk:k<0
  ·rw[if_pos hk] at e hlt;refine wpAny_getItem_list_neg ⟨_,I.get h1,rfl,_,rfl⟩ hk (by rw[e1];exact hc.1) (Int.le_trans (Int.le_trans (by decide) (Int.neg_le_neg (Int.ofNat_le.mpr hc.2))) hc.1) (x:=v) ?_ ⟨g,Aae.refl I,hv⟩;rw[e1];simpa using e
  ·rw[if_neg hk] at e hlt;exact wpAny_getItem_list ⟨_,I.get h1,rfl,_,rfl⟩ (Int.not_lt.mp hk) (nlt hk hlt hc.2) (x:=v) (by simpa using e) ⟨g,Aae.refl I,hv⟩
 |tup l=>
  refine Aaz (Abg h) fun hc h=>?_;induction ha using Den.tupE with|tup h1 h2=>?_
  refine Aab (h2.get h) fun v e hv=>?_;have hlt:=Ahz h;have e1:=h2.length;rw[Array.length_toList] at e1;refine tail_any ⟨_,I.get h1,rfl⟩ slot_tuple_getitem.lookup ?_ hs;refine getItem_tuple ⟨_,I.get h1,rfl,_,rfl⟩ (Int.le_trans (Int.le_trans (by decide) (Int.neg_le_neg (Int.ofNat_le.mpr hc.2))) hc.1) ?_ (j:=Aw5 k l.length) ?_ (x:=v) (by simpa using e) ⟨g,Aae.refl I,hv⟩
  ·by_cases hk:k<0
   ·exact Int.lt_trans hk (by decide)
   ·unfold Aw5 at hlt;rw[if_neg hk] at hlt;exact nlt hk hlt hc.2
  ·rw[e1];unfold seqIndex? Aw5;unfold Aw5 at hlt;have hc1:=hc.1
   by_cases hk:k<0
   ·rw[if_pos hk] at hlt;rw[if_pos hk,if_pos hk,if_pos (Bool.and_eq_true_iff.mpr ⟨decide_eq_true (by omega),decide_eq_true (by omega)⟩)]
   ·rw[if_neg hk] at hlt;rw[if_neg hk,if_neg hk,if_pos (Bool.and_eq_true_iff.mpr ⟨decide_eq_true (Int.not_lt.mp hk),decide_eq_true ((Int.toNat_lt (Int.not_lt.mp hk)).mp hlt)⟩)]
 |_=>exact Aah h
end
noncomputable def AoV(l:List D)(lo hi st:Option Int):List D:=
 (sliceRange (sliceBounds lo hi st l.length).1 (sliceBounds lo hi st l.length).2.1 (sliceBounds lo hi st l.length).2.2).filterMap (l[·]?)
noncomputable def Afs:D→Option Int→Option Int→Option Int→Option D
 |.list l,lo,hi,st=>if st≠some 0∧l.length≤1000000 then some (.list (AoV l lo hi st)) else none
 |.str x,lo,hi,none=>if x.cps.size≤1000000 then some (.str (Txt.slice x lo hi)) else none
 |_,_,_,_=>none
section
variable{B:Bs}{A:Around}{s:Shared}{g:Gh}
theorem Aar.pick{vs:List Value}{ds:List D}(h:Aar g vs ds):∀ is:List Nat,Aar g (is.filterMap (vs[·]?)) (is.filterMap (ds[·]?))
 |[]=>.nil
 |i :: is=>by
  have e:=h.length
  cases hd:ds[i]? with
  |none=>
   have:vs[i]?=none:=by rw[List.getElem?_eq_none_iff] at hd ⊢;omega
   rw[List.filterMap_cons_none (by exact this),List.filterMap_cons_none (by exact hd)];exact h.pick is
  |some d=>
   refine Aab (h.get hd) fun v hv hvd=>?_;rw[List.filterMap_cons_some (by exact hv),List.filterMap_cons_some (by exact hd)];exact .cons hvd (h.pick is)
theorem Aj1{v:Value}{o:Option Int}(h:IsPart v o):∃ l:Option (Int×Tok),v=partValue l∧l.map (·.1)=o:=by
 cases h with
 |none=>exact⟨none,rfl,rfl⟩
 |int i t=>exact⟨some (i,t),rfl,rfl⟩
theorem AmS(O:B.Ok)(I:Inv B s g){o vl vu vst:Value}{a r:D}{lo hi st:Option Int}{value:Expr}{step le ue:Option Expr}{p:Pos}(ha:Den g o a)
  (pl:IsPart vl lo) (pu:IsPart vu hi) (ps:IsPart vst st) (h:Afs a lo hi st=some r) :
  wpAny B.M A (subscriptTail value (.Slice le ue step p) o (.ref s.heap.objs.size)) (fun v s'=>∃ g',Aae B s g s' g'∧Den g' v r) (fun _ _=>False) {s with heap:=s.heap.push {cls:=.type "slice",data:=.fields #[vl,vu,vst]}}:=by
 have x:=Aae.open (o:={cls:=.type "slice",data:=.fields #[vl,vu,vst]}) O I;have hops:∃ ops:Value→List Value,∀ i,subscripted (.Slice le ue step p) false o i=operate (ops i) (getItem o i):=by
  induction step using Option.casesOn with
  |none=>exact⟨fun i=>[i,o],fun _=>rfl⟩
  |some e=>exact⟨fun i=>[o,i],fun _=>rfl⟩
 obtain⟨ops,hops⟩:=hops
 cases ha with
 |list h1 h2=>
  rename_i vs n l;refine Aaz (Abg h) fun hc h=>?_
  ·have h:=sj h;subst h;have e1:=h2.length;simp only[Array.length_toList] at e1;refine tail_any ⟨_,x.inv.get h1,rfl⟩ slot_list_getitem.lookup ?_ (hops _);refine wpAny_getItem_list_slice ⟨_,x.inv.get h1,rfl,_,rfl⟩ (Heap.IsSliceOf.new ..) pl pu ps hc.1 ?_ (by rw[e1];exact AaO hc.2);refine Aab (Ac0 (B:=B) (g:=g) O x.inv (vs:=slicePick vs lo hi st) (ds:=AoV l lo hi st) (by
    unfold slicePick AoV;rw[e1];have:=h2.pick (sliceRange (sliceBounds lo hi st l.length).1 (sliceBounds lo hi st l.length).2.1 (sliceBounds lo hi st l.length).2.2);simpa using this)) fun g' y hd=>?_
   exact⟨g',x.trans y,hd⟩
 |str=>
  rename_i y t;induction st using Option.casesOn with
  |some c=>exact Aah h
  |none=>
   refine Aaz (Abg h) fun hc h=>?_
   ·have h:=sj h;subst h;refine Aab (Aj1 pl) fun l q1 q2=>?_;subst q1;subst q2;refine Aab (Aj1 pu) fun u q3 q4=>?_;subst q3;subst q4
    cases ps
    refine tail_any (typeIs_str _ _ _) F.slot_str_getitem.lookup ?_ (hops _);refine wpAny_getItem_str_slice (l:=l) (u:=u) (st:=none) ⟨_,Heap.get?_push_size _ rfl,rfl,rfl⟩ rfl ?_;have hle:=Txt.slice_le y (l.map (·.1)) (u.map (·.1));unfold sliceMade
    by_cases hn:(((Option.map (·.1) (none:Option (Int×Tok))).getD 1 == 1 && (slicePicked y l u none).length == y.length)=true)
    ·have e:Txt.slice y (l.map (·.1)) (u.map (·.1))=y:=if_pos hn;rw[if_pos hn,e];exact⟨g,x,.str⟩
    ·have e:Txt.slice y (l.map (·.1)) (u.map (·.1))=⟨((slicePicked y l u none).filterMap (y.cps[·]?)).toArray⟩:=if_neg hn;rw[if_neg hn,e];rw[e] at hle;exact⟨Nat.le_trans hle (AaO hc),g,x.trans (Aae.tok x.inv _),.str⟩
 |_=>exact Aah h
noncomputable def Kp(g:Gh)(f:Value):Prop:=(∃ id,f=.builtin id)∨(∃ T,f=.type T)∨∃ a o fd,f=.ref a∧g a=some o∧o.data=.func fd
theorem Kp.mono{g g':Gh}{f:Value}(k:Kp g f)(h:g.le g'):Kp g' f:=by
 rcases k with k|k|⟨a,o,fd,e,e1,e2⟩
 ·exact .inl k
 ·exact .inr (.inl k)
 ·exact .inr (.inr ⟨a,o,fd,e,h a o e1,e2⟩)
structure Abw(B:Bs)(n:Nat)(f:Value)(F:List D→Option D):Prop where
 kp:Kp B.G.get? f
 run:∀ (A:Around) (s:Shared) (g:Gh) (vs:List Value) (ds:List D) (r:D),AOk n A→Inv B s g→Aar g vs ds→F ds=some r→Aaq B A s g (call f vs) fun g' v=>Den g' v r
structure AmO(B:Bs)(n:Nat)(s₀:Shared)(g₀:Gh)(f:Value)(F:List D→Option D):Prop where
 kp:Kp g₀ f
 run:∀ (A:Around) (s:Shared) (g:Gh) (vs:List Value) (ds:List D) (r:D),AOk n A→Aae B s₀ g₀ s g→Aar g vs ds→F ds=some r→Aaq B A s g (call f vs) fun g' v=>Den g' v r
theorem Abw.at{n:Nat}{f:Value}{F:List D→Option D}(h:Abw B n f F)(I:Inv B s g):AmO B n s g f F:=
 ⟨h.kp.mono fun a o e=>I.base a o e,fun A s' g' vs ds r hA x hd hr=>h.run A s' g' vs ds r hA x.inv hd hr⟩
theorem AmO.step{n:Nat}{s':Shared}{g':Gh}{f:Value}{F:List D→Option D}(h:AmO B n s g f F)(x:Aae B s g s' g'):AmO B n s' g' f F:=
 ⟨h.kp.mono x.le,fun A s2 g2 vs ds r hA y hd hr=>h.run A s2 g2 vs ds r hA (x.trans y) hd hr⟩
theorem Adh{M:Model}{E:Value→Shared→Prop}{f:Value}{args:List (Bool×Sem Value)}{Q:Args→Shared→Prop}(hn:∀ x∈args,x.1=false)
  (h:wpAny M A (spliced args) (fun vs s'=>Q ⟨vs,[]⟩ s') E s):wpAny M A (evalArgs f true args []) Q E s:=by
 induction args using List.casesOn with
 |nil=>
  unfold evalArgs;show wpAny M A (spliced [] >>= _) Q E s;refine wpAny_bind (wpAny_mono h (fun vs s' h'=>?_) fun _ _ x=>x);exact wpAny_holding (wpAny_bind (wpAny_pure (wpAny_bind (wpAny_pure (wpAny_pure h')))))
 |cons x rest=>
  obtain⟨b,t⟩:=x
  have:b=false:=hn (b,t) (.head _);subst this;exact Calls.evalArgs_plain h
theorem Ab1{f:Value}{first:List Value}{args:List (Bool×Sem Value)}{pos:Pos}{P:Gh→List Value→Prop}{P':Gh→Value→Prop}(k:Kp g f)(hn:∀ x∈args,x.1=false)
  (h:Aaq B A s g (spliced args) P) (hc:∀ vs s' g',Aae B s g s' g'→P g' vs→Aaq B A s' g' (call f (first++vs)) P') :
  Aaq B A s g (callWith pos f first args []) P':=by
 have hplain:(args.any (·.1) || ([]:List (Option Str×Sem Value)).any (·.1.isNone))=false:=by simp only[List.any_nil,Bool.or_false,List.any_eq_false];intro x hx;rw[hn x hx];exact Bool.false_ne_true
 refine callWith_of (P:=fun h=>(∃ id,f=.builtin id)∨(∃ T,f=.type T)∨∃ a o fd,f=.ref a∧h.get? a=some o∧o.data=.func fd) hplain (fun h' hp=>?_) (Adh hn (h.use fun vs s' g' x hp=>⟨?_,(hc vs s' g' x hp).from x⟩))
 ·rcases hp with ⟨id,rfl⟩|⟨T,rfl⟩|⟨a,o,fd,rfl,e1,e2⟩
  ·exact⟨.machine,.inr (.inl rfl),.now⟩
  ·exact⟨.machine,.inr (.inl rfl),.now⟩
  ·refine⟨.frame,.inl rfl,?_⟩;unfold keeperOf;refine(Looks.ld (part:=none) e1).andThen ?_;rw[e2];exact .now
 ·rcases k.mono x.le with k|k|⟨a,o,fd,e,e1,e2⟩
  ·exact .inl k
  ·exact .inr (.inl k)
  ·exact .inr (.inr ⟨a,o,fd,e,x.inv.get e1,e2⟩)
end
theorem Akt{e:Expr}{rest:List Expr}{env:Env}(h:Abt e=true):starEach (e :: rest) env=(false,eval e env) :: starEach rest env:=by induction e using PySem.Expr.casesOn<;>first|rfl|exact Bool.noConfusion h
theorem AaC{pos:Pos}{env:Env}:∀ {es:List Expr},(∀ e∈es,Abt e=true)→backTo pos (starEach es env)=es.map fun e=>(false,eval e env)
 |[],_=>rfl
 |e :: rest,h=>by
  rw[Akt (h e (.head _))];show(false,_) :: backTo pos (starEach rest env)=_;rw[AaC fun e' he=>h e' (.tail _ he)]
  rfl
noncomputable def AeP(x:Int):Nat→List D
 |0=>[]
 |n+1=>.int x :: AeP (x+1) n
noncomputable def AbK:D→Option (List D)
 |.list l=>some l
 |.tup l=>some l
 |.rng lo hi=>if -1000000≤lo∧lo≤1000000∧-1000000≤hi∧hi≤1000000 then some (AeP lo (hi - lo).toNat) else none
 |_=>none
inductive AaQ(h:Heap)(g:Gh)(I:Addr):List D→Prop
 |list {l:Addr} {i:Nat} {vs:Array Value} {n:Nat} {ds:List D}:h.IsListIter I l i→g l=some {cls:=.type "list",data:=.seq vs n}→Aar g (vs.toList.drop i) ds→AaQ h g I ds
 |tup {l:Addr} {i:Nat} {vs:Array Value} {n:Nat} {ds:List D}:h.IsTupleIter I l i→g l=some {cls:=.type "tuple",data:=.seq vs n}→Aar g (vs.toList.drop i) ds→AaQ h g I ds
 |rng {x left:Int} {ds:List D}:IsRangeIter h I x left 1→ds=AeP x left.toNat→AaQ h g I ds
section
variable{B:Bs}{A:Around}{s:Shared}{g:Gh}
theorem AaQ.obj{h:Heap}{I:Addr}{ds:List D}(it:AaQ h g I ds):∃ o vs n,h.get? I=some o∧o.data=.fields vs∧o.cls=.type n∧n≠"code":=by
 cases it with
 |list h1 _ _=>refine Adc h1 fun o e1 e2 e3=>?_;exact⟨o,_,_,e1,e3,e2,by decide⟩
 |tup h1 _ _=>refine Adc h1 fun o e1 e2 e3=>?_;exact⟨o,_,_,e1,e3,e2,by decide⟩
 |rng h1 _=>exact⟨_,_,_,h1,rfl,rfl,by decide⟩
theorem AaQ.keep{h h':Heap}{g':Gh}{I:Addr}{ds:List D}(it:AaQ h g I ds)(hle:g.le g')(k:∀ o,h.get? I=some o→Abp o→h'.get? I=some o):AaQ h' g' I ds:=by
 refine AAM it.obj fun o vs n ho hd hc _=>?_;have hn:Abp o:=Aal hc
 cases it with
 |list h1 h2 h3=>refine Adc h1 fun o' e1 e2 e3=>?_;rw[ho] at e1;cases e1;exact .list ⟨o,k o ho hn,e2,e3⟩ (hle _ _ h2) (h3.mono hle)
 |tup h1 h2 h3=>refine Adc h1 fun o' e1 e2 e3=>?_;rw[ho] at e1;cases e1;exact .tup ⟨o,k o ho hn,e2,e3⟩ (hle _ _ h2) (h3.mono hle)
 |rng h1 h2=>have h1':h.get? I=_:=h1;rw[h1'] at ho;cases ho;exact .rng (k _ h1' hn) h2
theorem AaQ.noTabby{h:Heap}{I:Addr}{ds:List D}(it:AaQ h g I ds):∃ o,h.get? I=some o∧¬ AcK o∧Abp o∧(∀ v,o.data≠.cell v)∧(∀ es n,o.data≠.dict es n)∧(∀ vs n,o.data≠.seq vs n):=by refine AAM it.obj fun o vs n ho hd hc hn=>?_;exact⟨o,ho,AaH hc hn,Aal hc,(by intro v e;rw[hd] at e;injection e),(by intro _ _ e;rw[hd] at e;injection e),(by intro _ _ e;rw[hd] at e;injection e)⟩
theorem Aeu(I:Inv B s g){It:Addr}{d:D}{ds:List D}(it:AaQ s.heap g It (d :: ds)){Q:Option Value→Shared→Prop}{E:Value→Shared→Prop}
  (h:∀ v h' tk,Den g v d→AaQ h' g It ds→Heap.SameBut It s.heap h'→Q (some v) {s with heap:=h',toks:=tk}):wpAny B.M A (pyNext (.ref It)) Q E s:=by
 cases it with
 |list h1 h2 h3=>
  rename_i l i vs n
  cases e:vs.toList.drop i with
  |nil=>rw[e] at h3;cases h3 using Aar.consE
  |cons v rest=>
   rw[e] at h3
   cases h3 using Aar.consE with|cons hv hr=>?_
   have hx:vs[i]?=some v:=by
    have:(vs.toList.drop i)[0]?=some v:=by rw[e];rfl
    rw[List.getElem?_drop] at this;simpa using this
   refine wpAny_pyNext_list_item h1 ⟨_,I.get h2,rfl,_,rfl⟩ hx fun h' hi hs=>h v h' s.toks hv (.list hi h2 ?_) hs;have:vs.toList.drop (i+1)=rest:=by rw[← List.drop_drop,e];rfl
   rw[this];exact hr
 |tup h1 h2 h3=>
  rename_i l i vs n
  cases e:vs.toList.drop i with
  |nil=>rw[e] at h3;cases h3 using Aar.consE
  |cons v rest=>
   rw[e] at h3
   cases h3 using Aar.consE with|cons hv hr=>?_
   have hx:vs[i]?=some v:=by
    have:(vs.toList.drop i)[0]?=some v:=by rw[e];rfl
    rw[List.getElem?_drop] at this;simpa using this
   refine wpAny_pyNext_tuple_item h1 ⟨_,I.get h2,rfl,_,rfl⟩ hx fun h' hi hs=>h v h' s.toks hv (.tup hi h2 ?_) hs;have:vs.toList.drop (i+1)=rest:=by rw[← List.drop_drop,e];rfl
   rw[this];exact hr
 |rng h1 h2=>
  rename_i x left
  cases e:left.toNat with
  |zero=>rw[e] at h2;injection h2
  |succ n=>
   rw[e] at h2
   cases h2
   refine wpAny_pyNext_range_item h1 (by omega) fun h' hi hs=>h _ h' _ .int (.rng hi ?_) hs;have:(left - 1).toNat=n:=by rw[Int.pred_toNat,e];rfl
   rw[this]
theorem Ahl(I:Inv B s g){It:Addr}(hh:A.handled=none)(it:AaQ s.heap g It []){Q:Option Value→Shared→Prop}{E:Value→Shared→Prop}
  (h:∀ h',Heap.ExtBut It s.heap h'→Q none {s with heap:=h'}):wpAny B.M A (pyNext (.ref It)) Q E s:=by
 cases it with
 |list h1 h2 h3=>
  rename_i l i vs n;have hl:=h3.length;simp only[List.length_drop,Array.length_toList,List.length_nil] at hl;exact wpAny_pyNext_list_end hh h1 ⟨_,I.get h2,rfl,_,rfl⟩ (by simp;omega) h
 |tup h1 h2 h3=>
  rename_i l i vs n;have hl:=h3.length;simp only[List.length_drop,Array.length_toList,List.length_nil] at hl;exact wpAny_pyNext_tuple_end hh h1 ⟨_,I.get h2,rfl,_,rfl⟩ (by simp;omega) h
 |rng h1 h2=>
  rename_i x left
  cases e:left.toNat with
  |zero=>exact wpAny_pyNext_range_end hh h1 (by omega) h
  |succ n=>rw[e] at h2;injection h2
theorem AlE{It:Addr}{ds:List D}(it:AaQ s.heap g It ds){Q:Value→Shared→Prop}{E:Value→Shared→Prop}(h:Q (.ref It) s):wpAny B.M A (pyIter (.ref It)) Q E s:=by
 cases it with
 |list h1 h2 h3=>exact wpAny_pyIter_listiter h1 h
 |tup h1 h2 h3=>exact wpAny_pyIter_tupleiter h1 h
 |rng h1 h2=>exact wpAny_pyIter_rangeiter h1 h
theorem ADU{x:Int}(h0:-1000000≤x)(h1:x≤1000000):-2 ^ 63≤x∧x<2 ^ 63:=⟨Int.le_trans (by decide) h0,Int.lt_of_le_of_lt h1 (by decide)⟩
theorem AoW(lo hi:Int):(if lo<hi then (hi - lo - 1) / 1+1 else 0)=((hi - lo).toNat:Int):=by
 by_cases h:lo<hi
 ·rw[if_pos h,Int.ediv_one,Int.sub_add_cancel,Int.toNat_of_nonneg (Int.sub_nonneg_of_le (Int.le_of_lt h))]
 ·rw[if_neg h,Int.toNat_of_nonpos (Int.sub_nonpos_of_le (Int.not_lt.mp h))];rfl
theorem AdI(O:B.Ok)(I:Inv B s g){v:Value}{d:D}{ds:List D}(hd:Den g v d)(hi:AbK d=some ds){Q:Value→Shared→Prop}{E:Value→Shared→Prop}
  (h:∀ o,Aae B s g {s with heap:=s.heap.push o} g→AaQ (s.heap.push o) g s.heap.objs.size ds→Q (.ref s.heap.objs.size) {s with heap:=s.heap.push o}):wpAny B.M A (pyIter v) Q E s:=by
 cases hd with
 |list h1 h2=>
  have hi:=sj hi;subst hi;exact wpAny_pyIter_list ⟨_,I.get h1,rfl,_,rfl⟩ (h _ (Aae.open O I) (.list ⟨_,Heap.get?_push_size _ rfl,rfl,rfl⟩ h1 (by simpa using h2)))
 |tup h1 h2=>
  have hi:=sj hi;subst hi;exact wpAny_pyIter_tuple ⟨_,I.get h1,rfl,_,rfl⟩ (h _ (Aae.open O I) (.tup ⟨_,Heap.get?_push_size _ rfl,rfl,rfl⟩ h1 (by simpa using h2)))
 |rng h1=>
  rename_i a lo hi' t1 t2 t3;refine Aaz (Abg hi) fun hc hi=>?_
  ·have hi:=sj hi;subst hi;have hs:Builtin.Range.rangeSize lo hi' 1=((hi' - lo).toNat:Int):=by unfold Builtin.Range.rangeSize;simp only[show(1:Int) > 0 by decide,if_true];exact AoW lo hi'
   refine wpAny_pyIter_range (I.get h1) ?_ (h _ (Aae.open O I) (.rng (x:=lo) (left:=Builtin.Range.rangeSize lo hi' 1) (Heap.get?_push_size _ rfl) ?_))
   ·unfold Builtin.Range.small Builtin.Range.rangeFitsLong;rw[hs];simp only[Bool.and_eq_true,Bool.or_eq_true,decide_eq_true_eq,show(1:Int) > 0 by decide,if_true];refine⟨⟨⟨⟨ADU hc.1 hc.2.1,ADU hc.2.2.1 hc.2.2.2⟩,by decide⟩,Int.le_trans (by decide) (Int.natCast_nonneg _),?_⟩,.inr ?_⟩
    ·exact Int.lt_of_le_of_lt (Int.ofNat_le.mpr (show(hi' - lo).toNat≤2000000 from Int.toNat_le.mpr (Int.sub_le_sub hc.2.2.2 hc.1))) (by decide)
    ·rw[show(1:Int) - 1=0 from rfl,Int.add_zero];exact ADU hc.2.2.1 hc.2.2.2
   ·rw[hs,Int.toNat_natCast]
 |_=>exact Aah hi
end
noncomputable abbrev Rho:=List (Str×D)
noncomputable def okT(own:List Str)(sc:Scope)(x:Str):Bool:=match sc.names.lookup x with
 |some .local=>true
 |some .cell=>own.contains x
 |_=>false
noncomputable def An0(e:Expr):Str:=(ep e).x
noncomputable def Aj2(own:List Str)(sc:Scope):List Expr→List D→Rho→Option Rho
 |[],[],ρ=>some ρ
 |e :: es,d :: ds,ρ=>if Adu e=true∧okT own sc (An0 e)=true then Aj2 own sc es ds ((An0 e,d) :: ρ) else none
 |_,_,_=>none
noncomputable def AxW:D→Option (List D)
 |.tup ds=>some ds
 |_=>none
theorem Aku{d:D}{ds:List D}(h:AxW d=some ds):d=.tup ds:=by
 revert h;induction d using D.casesOn<;>first|exact fun h=>congrArg D.tup (sj h)|exact Aah
noncomputable def ADz:Value→Option Addr
 |.ref a=>some a
 |_=>none
theorem AmT{v:Value}{a:Addr}(h:ADz v=some a):v=.ref a:=by induction v using Value.casesOn<;>first|exact congrArg Value.ref (sj h)|exact Aah h
noncomputable def ADV(d:D):Option (D×D):=(AxW d).bind fun l=>if l.length=2 then some (l.getD 0 .none,l.getD 1 .none) else none
theorem Arf{d:D}{p:D×D}(h:ADV d=some p):d=.tup [p.1,p.2]:=by refine Aab (Aag h) fun l e k_1=>?_;refine Aaz (Abg k_1) fun h1 h2=>?_;rw[Aku e,← sj h2];exact congrArg D.tup (Auc h1)
noncomputable def Acy(own:List Str)(sc:Scope)(t:Expr)(d:D)(ρ:Rho):Option Rho:=
 if Adu t=true then (if okT own sc (An0 t)=true then some ((An0 t,d) :: ρ) else none) else if Aq8 t=true then (AxW d).bind fun ds=>Aj2 own sc (ep t).l ds ρ else none
noncomputable def nmO(e:Expr):Option Str:=if Adu e=true then some (An0 e) else none
noncomputable def Arh(t:Expr):List Str:=if Adu t=true then [An0 t] else if Aq8 t=true then (ep t).l.filterMap nmO else []
inductive BN(own:List Str)(sc:Scope):List Expr→List D→Rho→Rho→Prop
 |nil {ρ:Rho}:BN own sc [] [] ρ ρ
 |cons {x:Str} {p:Pos} {es:List Expr} {d:D} {ds:List D} {ρ ρ':Rho} (ok:okT own sc x=true) (h:BN own sc es ds ((x,d) :: ρ) ρ'):BN own sc (.Name x p :: es) (d :: ds) ρ ρ'
theorem AfW{own:List Str}{sc:Scope}{es:List Expr}{ds:List D}{ρ ρ':Rho}(h:Aj2 own sc es ds ρ=some ρ'):BN own sc es ds ρ ρ':=by
 induction es generalizing ds ρ with
 |nil=>induction ds using List.casesOn with
  |nil=>exact sj h ▸ .nil
  |cons d ds=>exact Aah h
 |cons e es ih=>induction ds using List.casesOn with
  |nil=>exact Aah h
  |cons d ds=>
   (refine Aaz (Abg h) fun q1 h=>?_;refine Aaz q1 fun hn ho=>?_)
   rw[AgB hn];exact .cons ho (ih h)
theorem AoX{own:List Str}{sc:Scope}{x:Str}{p:Pos}{d:D}{ρ:Rho}(h:okT own sc x=true):Acy own sc (.Name x p) d ρ=some ((x,d) :: ρ):=(if_pos rfl).trans (if_pos h)
inductive BT(own:List Str)(sc:Scope)(ρ:Rho):Expr→D→Rho→Prop
 |name {x:Str} {p:Pos} {d:D} (ok:okT own sc x=true):BT own sc ρ (.Name x p) d ((x,d) :: ρ)
 |tup {es:List Expr} {k:Nat} {p:Pos} {ds:List D} {ρ':Rho} (h:BN own sc es ds ρ ρ'):BT own sc ρ (.Tuple es k p) (.tup ds) ρ'
theorem AhA{own:List Str}{sc:Scope}{t:Expr}{d:D}{ρ ρ':Rho}(h:Acy own sc t d ρ=some ρ'):BT own sc ρ t d ρ':=by
 unfold Acy at h
 by_cases hn:Adu t=true
 ·rw[if_pos hn] at h;refine Aaz (Abg h) fun ho h=>?_;rw[AgB hn,← sj h];exact .name ho
 ·rw[if_neg hn] at h;refine Aaz (Abg h) fun ht h=>?_
  obtain⟨ds,e,h⟩:∃ ds,AxW d=some ds∧Aj2 own sc (ep t).l ds ρ=some ρ':=by
   cases e:AxW d with
   |none=>rw[e] at h;exact Aah h
   |some ds=>rw[e] at h;exact⟨ds,rfl,h⟩
  rw[AxV ht,Aku e];exact .tup (AfW h)
section
variable{B:Bs}{A:Around}{s₀ s s':Shared}{g₀ g g':Gh}{own:List Str}{env:Env}{ρ:Rho}
noncomputable def Oth(env:Env)(own:List Str)(h h':Heap):Prop:=∀ a o,¬ Loc env own a→h.get? a=some o→h'.get? a=some o
theorem Oth.trans{h h' h'':Heap}(x:Oth env own h h')(y:Oth env own h' h''):Oth env own h h'':=fun a o n e=>y a o n (x a o n e)
theorem Abi(h:okT own env.scope x=true):env.kindOf x=some .local∨(env.kindOf x=some .cell∧x∈own):=by
 unfold okT at h;unfold Env.kindOf;generalize env.scope.names.lookup x=o at h ⊢
 cases o with
 |none=>exact Bool.noConfusion h
 |some k=>induction k using NameKind.casesOn<;>first|exact .inl rfl|exact .inr ⟨rfl,List.contains_iff_mem.mp h⟩|exact Bool.noConfusion h
theorem Fm.weaken{ρ':Rho}(F:Fm B s₀ g₀ own env ρ s g)(h:∀ x d,ρ'.lookup x=some d→ρ.lookup x=some d):Fm B s₀ g₀ own env ρ' s g:=by refine Aab F.vars fun m hm hv=>?_;refine⟨F.st,F.kind,F.glob,F.blt,⟨m,hm,fun x d e k=>hv x d (h x d e) k⟩,fun x hx=>?_,fun x d e=>F.kinds x d (h x d e),F.loc,F.own⟩;refine Adf (F.cells x hx) fun c v e1 e2 e3=>?_;exact⟨c,v,e1,e2,fun d e=>e3 d (h x d e)⟩
theorem Fm.rebase{s₁:Shared}{g₁:Gh}(F:Fm B s₀ g₀ own env ρ s g)(x:Aae B s₁ g₁ s₀ g₀):Fm B s₁ g₁ own env ρ s g:=
 ⟨x.trans F.st,F.kind,F.glob,F.blt,F.vars,F.cells,F.kinds,⟨x.ext.dead F.loc.1,F.loc.2⟩,fun y hy=>by
  refine Akr (F.own y hy) fun c v e1 e2 e3 r=>?_;exact⟨c,v,e1,e2,x.ext.dead e3,r⟩⟩
theorem Fm.turnE{b:Addr}{ob:Obj}(O:B.Ok)(F:Fm B s₀ g₀ own env ρ s g)(hb0:s₀.heap.get? b=none)(hb:g b=none)(hob:s.heap.get? b=some ob)(hn:¬ AcK ob)
  (h1:∀ v,ob.data≠.cell v) (h2:b≠env.locals) (k:Heap.ExtBut b s.heap s'.heap) (hg:s'.gens=s.gens) (ho:s'.os=s.os):Fm B s₀ g₀ own env ρ s' g:=by
 refine Aab F.vars fun m hm hv=>?_;have cne:∀ {c v},s.heap.IsCell c v→c≠b:=by intro c v q2;refine Aab q2 fun o e1 e2=>?_;intro q3;subst q3;rw[hob] at e1;cases e1;exact h1 _ e2
 have cell:∀ {c v},s.heap.IsCell c v→s'.heap.IsCell c v:=fun {c v} x=>by
  have:=cne x;refine Aab x fun o e1 e2=>?_;exact⟨o,k c o this e1,e2⟩
 refine⟨F.st.turnE O hb0 hb hob hn k hg ho,F.kind,F.glob,F.blt,⟨m,hm.extBut k (Ne.symm h2),hv⟩,fun x hx=>?_,F.kinds,F.loc,fun x hx=>?_⟩
 ·refine Adf (F.cells x hx) fun c v e1 e2 e3=>?_;exact⟨c,v,e1,cell e2,e3⟩
 ·refine Adf (F.own x hx) fun c v e1 e2 r=>?_;exact⟨c,v,e1,cell e2,r⟩
theorem Aea{own:List Str}{sc:Scope}{es:List Expr}{ds:List D}{ρ ρ':Rho}(h:BN own sc es ds ρ ρ') :
  (assignEach es env).map (·.2)=es.map (assign · env)∧(assignEach es env).length=ds.length∧(assignEach es env).findIdx? (·.1)=none:=by
 induction h with
 |nil=>exact⟨rfl,rfl,rfl⟩
 |cons _ _ ih=>
  refine⟨congrArg (List.cons _) ih.1,congrArg (·+1) ih.2.1,?_⟩;show List.findIdx? _ ((false,_) :: assignEach _ env)=none;rw[List.findIdx?_cons,if_neg (fun e=>Bool.noConfusion e),ih.2.2];rfl
theorem AdJ(O:B.Ok){es:List Expr}{ds:List D}{ρ ρ':Rho}(h:BN own env.scope es ds ρ ρ'):∀ {vs:List Value} {s:Shared} {Q:Unit→Shared→Prop} {E:Value→Shared→Prop},
  Fm B s₀ g₀ own env ρ s g→Aar g vs ds→(∀ s',Fm B s₀ g₀ own env ρ' s' g→Oth env own s.heap s'.heap→Q () s') →
  wpAny B.M A (assignInOrder (es.map (assign · env)) vs) Q E s:=by
 induction h with
 |nil=>
  intro vs s Q E F hd hq;induction hd using Aar.nilE;exact wpAny_pure (hq _ F fun _ _ _ e=>e)
 |cons ok _ ih=>
  intro vs s Q E F hd hq;induction hd using Aar.consE with|cons hd hr=>?_
  exact wpAny_bind (wpAny_holding (wpAny_assign_Name (F.store O (Abi ok) hd fun s' F' k=>ih F' hr fun s'' F'' k'=>hq s'' F'' (Oth.trans k k'))))
theorem Aca(O:B.Ok)(hh:A.handled=none){t:Expr}{v:Value}{d:D}{ρ':Rho}{Q:Unit→Shared→Prop}{E:Value→Shared→Prop}(F:Fm B s₀ g₀ own env ρ s g)(hd:Den g v d)
  (h:Acy own env.scope t d ρ=some ρ') (hq:∀ s',Fm B s₀ g₀ own env ρ' s' g→Oth env own s.heap s'.heap→Q () s'):wpAny B.M A (assign t env v) Q E s:=by
 replace h:=AhA h
 induction h using BT.casesOn with
 |name ok=>exact wpAny_assign_Name (F.store O (Abi ok) hd hq)
 |tup h=>
  induction hd using Den.tupE with|tup h1 h2=>?_
  refine Ahs (Aea (env:=env) h) fun e1 e2 e3=>?_;refine wpAny_assign_Tuple hh ⟨_,F.inv.get h1,rfl,_,rfl⟩ (e2.trans (h2.length.symm.trans Array.length_toList)) e3 fun h' hx=>?_;rw[e1];have keep:∀ a o,s.heap.get? a=some o→h'.get? a=some o:=fun a o e=>hx a o (Nat.ne_of_lt (Heap.lt_size e)) e;exact AdJ O h (F.step ⟨g.le_refl,F.inv.keeps O keep rfl rfl,.of keep,fun _ _ e=>.inl e⟩) h2 fun s' F' k=>hq s' F' fun a o n e=>k a o n (keep a o e)
end
section
variable{α:Type}{B:Bs}{A:Around}{s₀ s s':Shared}{g₀ g g':Gh}{own:List Str}{env:Env}{ρ:Rho}
structure CS{α:Type}(B:Bs)(s₀:Shared)(g₀:Gh)(own:List Str)(env:Env)(acc:Addr)(ok:Gh→Obj→α→Prop)(ρ:Rho)(a:α)(s:Shared)(g:Gh):Prop where
 F:Fm B s₀ g₀ own env ρ s g
 obj:∃ o,s.heap.get? acc=some o∧ok g o a∧Abp o∧¬ AcK o∧(∀ vs,o.data≠.fields vs)∧(∀ v,o.data≠.cell v)
 new:s₀.heap.get? acc=none∧g acc=none
 loc:¬ Loc env own acc
theorem CS.step{acc:Addr}{ok:Gh→Obj→α→Prop}{a:α}(hok:∀ g g' o a,g.le g'→ok g o a→ok g' o a)(C:CS B s₀ g₀ own env acc ok ρ a s g)(x:Aae B s g s' g'):CS B s₀ g₀ own env acc ok ρ a s' g':=by refine Aht C.obj fun o e1 e2 e3 r=>?_;exact⟨C.F.step x,⟨o,x.ext.keep acc o e1 e3,hok _ _ _ _ x.le e2,e3,r⟩,⟨C.new.1,x.shutNone e1 C.new.2⟩,C.loc⟩
theorem CS.iter{acc:Addr}{ok:Gh→Obj→α→Prop}{a:α}(O:B.Ok)(C:CS B s₀ g₀ own env acc ok ρ a s g){It:Addr}{ds:List D}(it:AaQ s.heap g It ds)(h0:s₀.heap.get? It=none)(hg:g It=none)
  (k:Heap.ExtBut It s.heap s'.heap) (e1:s'.gens=s.gens) (e2:s'.os=s.os):CS B s₀ g₀ own env acc ok ρ a s' g:=by
 refine AnV it.noTabby fun oi ho ht _ hc hd _=>?_;refine AnV C.obj fun o f1 f2 f3 f4 f5 f6=>?_;refine AxT it.obj fun _ _ _ ho' hf _=>?_;rw[ho] at ho';cases ho';have ne:acc≠It:=by intro q1;subst q1;rw[ho] at f1;cases f1;exact f5 _ hf
 have nl:It≠env.locals:=fun e=>C.F.notLoc ho hc hd (.inl e);exact⟨C.F.turnE O h0 hg ho ht hc nl k e1 e2,⟨o,k acc o ne f1,f2,f3,f4,f5,f6⟩,C.new,C.loc⟩
theorem Akv{It:Addr}{ds:List D}{t:Expr}{v:Value}(it:AaQ s.heap g It ds){Q:Unit→Shared→Prop}{E:Value→Shared→Prop}(h:Q () s):wpAny B.M A (letOwnedTupleGo t (.ref It) v) Q E s:=by
 obtain⟨o,n,vs,e1,e2,e3,e4⟩:∃ o n vs,s.heap.get? It=some o∧o.cls=.type n∧o.data=.fields vs∧(["enumerate","zip","dict_itemiterator","dict_reverseitemiterator","odict_iterator","itertools.zip_longest","itertools.pairwise"].contains n)=false:=by
  cases it with
  |list h1 _ _=>refine Adc h1 fun o e1 e2 e3=>?_;exact⟨o,_,_,e1,e2,e3,by decide⟩
  |tup h1 _ _=>refine Adc h1 fun o e1 e2 e3=>?_;exact⟨o,_,_,e1,e2,e3,by decide⟩
  |rng h1 _=>exact⟨_,_,_,h1,rfl,rfl,by decide⟩
 obtain⟨c,di,dt,sl⟩:=o
 dsimp only at e2 e3;subst e2 e3;have key:∀ a:Addr,wpAny B.M A (load It >>= fun o=>match o.cls,o.data with
   |.type n,.fields vs=>if ["enumerate","zip","dict_itemiterator","dict_reverseitemiterator","odict_iterator","itertools.zip_longest","itertools.pairwise"].contains n && vs[0]? == some (rawInt a) then rule "for.unpacks-the-owned-tuple" >>= fun _=>updateField It 0 .none else pure ()
   |_,_=>pure ()) Q E s:=fun a=>wpAny_bind (wpAny_load e1 (by dsimp only;rw[e4];exact wpAny_pure h))
 induction t using Expr.casesOn with
 |Tuple=>induction v using Value.casesOn<;>first|exact key _|exact wpAny_pure h
 |List=>induction v using Value.casesOn<;>first|exact key _|exact wpAny_pure h
 |_=>exact wpAny_pure h
noncomputable def AFP(x:Option Bool):Bool→Option Bool
 |true=>x
 |false=>some false
noncomputable def An1(T:Rho→Expr→Option Bool)(ρ:Rho):List Expr→Option Bool
 |[]=>some true
 |c :: cs=>(T ρ c).bind (AFP (An1 T ρ cs))
theorem Aj3{M:Model}{E:Value→Shared→Prop}{Q:Bool→Shared→Prop}:∀ (ifs:List Expr),Q false s →
  wpAny M A (forIn ifs false fun c r=>if r=true then do let ok ← isTrue c env (eval c env);pure (ForInStep.yield ok) else pure (ForInStep.yield r)) Q E s
 |[],h=>by rw[List.forIn_nil];exact wpAny_pure h
 |c :: cs,h=>by
  rw[List.forIn_cons];simp only[Bool.false_eq_true,if_false];exact wpAny_bind (wpAny_pure (Aj3 cs h))
theorem AmU{T:Rho→Expr→Option Bool}(HT:∀ ρ e b s g,Fm B s₀ g₀ own env ρ s g→T ρ e=some b→Aaq B A s g (isTrue e env (eval e env)) fun _ r=>r=b)
  {ifs:List Expr} {ok:Bool} {s:Shared} {g:Gh} (F:Fm B s₀ g₀ own env ρ s g) (h:An1 T ρ ifs=some ok) :
  Aaq B A s g (forIn ifs true fun c r=>if r=true then do let ok ← isTrue c env (eval c env);pure (ForInStep.yield ok) else pure (ForInStep.yield r)) fun _ r=>r=ok:=by
 induction ifs generalizing s g with
 |nil=>cases h;rw[List.forIn_nil];exact Aaq.pure F.inv rfl
 |cons c cs ih=>
  refine Aab (Aag h) fun b e h=>?_;rw[List.forIn_cons,if_pos rfl];refine Aaq.bind (Aaq.bind (HT ρ c b s g F e) (P':=fun _ r=>r=ForInStep.yield b) fun r s' g' x hr=>by subst hr;exact Aaq.pure x.inv rfl) fun r s' g' x hr=>?_;subst hr;induction b using Bool.casesOn with
  |true=>exact ih (F.step x) h
  |false=>cases h;exact Aj3 cs ⟨g',Aae.refl x.inv,rfl⟩
noncomputable def AoY(own:List Str)(sc:Scope)(target:Expr)(ρ:Rho)(d:D):Option Rho:=if (Arh target).all (fun x=>(ρ.lookup x).isNone)=true then Acy own sc target d ρ else none
noncomputable def ifO:Bool→Option α→α→Option α
 |true,x,_=>x
 |false,_,a=>some a
noncomputable def Auh(own:List Str)(sc:Scope)(T:Rho→Expr→Option Bool)(target:Expr)(ifs:List Expr)(inner:Rho→α→Option α)(ρ:Rho)(d:D)(a:α):Option α:=
 (AoY own sc target ρ d).bind fun ρ₁=>(An1 T ρ₁ ifs).bind fun ok=>ifO ok (inner ρ₁ a) a
noncomputable def AaW(own:List Str)(sc:Scope)(T:Rho→Expr→Option Bool)(target:Expr)(ifs:List Expr)(inner:Rho→α→Option α)(ρ:Rho):List D→α→Option α
 |[],a=>some a
 |d :: ds,a=>(Auh own sc T target ifs inner ρ d a).bind (AaW own sc T target ifs inner ρ ds)
theorem BN.keeps{sc:Scope}{es:List Expr}{ds:List D}{ρ ρ':Rho}(h:BN own sc es ds ρ ρ'){x:Str}{d:D}(hx:x ∉ es.filterMap nmO)(e:ρ.lookup x=some d):ρ'.lookup x=some d:=by
 induction h with
 |nil=>exact e
 |cons _ _ ih=>
  have hx:=not_or.mp (mt List.mem_cons.mpr hx);exact ih hx.2 ((Aaf).trans ((if_neg hx.1).trans e))
theorem AmV{sc:Scope}{t:Expr}{d:D}{ρ ρ':Rho}(h:Acy own sc t d ρ=some ρ')(x:Str)(dd:D)(hx:x ∉ Arh t)(hl:ρ.lookup x=some dd):ρ'.lookup x=some dd:=by
 replace h:=AhA h
 induction h using BT.casesOn with
 |name ok=>exact(Aaf).trans ((if_neg (fun e=>hx (by rw[e];exact .head _))).trans hl)
 |tup h=>exact h.keeps hx hl
theorem AlF{c:Code}{tr:Sem Fin}{R:Result→Shared→Prop}(hA:A.under c=A)(hden:B.M.den c=tr.onRaise (fun x=>do noteFrame x env;theTreesLotGoes x))
  (h:∀ (Q:Fin→Shared→Prop) (E:Value→Shared→Prop),(∀ f s',R (.ok f) s'→Q (.done f) s')→(∀ c' s',c'.quiet=true→codeAny B.M A c' R s'→Q (.again c') s')→wpAny B.M A tr Q E s):codeAny B.M A c R s:=by
 refine codeAny_of_tree ?_;rw[hden,hA];exact wpAny_noted (h _ _ (fun _ _ h=>h) fun _ _ a b=>⟨a,b⟩)
noncomputable def KB1(env:Env)(own:List Str)(acc:Addr)(s:Shared)(g:Gh)(s':Shared)(g':Gh):Prop:=∀ x o,x≠acc→¬ Loc env own x→s.heap.get? x=some o→Abp o→s'.heap.get? x=some o∧(g x=none→g' x=none)
noncomputable def KB2(env:Env)(own:List Str)(It acc:Addr)(s:Shared)(g:Gh)(s':Shared)(g':Gh):Prop:=∀ x o,x≠It→x≠acc→¬ Loc env own x→s.heap.get? x=some o→Abp o→s'.heap.get? x=some o∧(g x=none→g' x=none)
theorem CS.weak{acc:Addr}{ok:Gh→Obj→α→Prop}{a:α}{sc:Scope}{target:Expr}{d:D}{ρ₁:Rho}(C:CS B s₀ g₀ own env acc ok ρ₁ a s g)(hb:AoY own sc target ρ d=some ρ₁):CS B s₀ g₀ own env acc ok ρ a s g:=by refine Aaz (Abg hb) fun hfr hb=>?_;refine⟨C.F.weaken fun x dd hx=>AmV hb x dd (fun hm=>?_) hx,C.obj,C.new,C.loc⟩;have:=List.all_eq_true.mp hfr x hm;rw[hx] at this;exact Bool.noConfusion this
theorem CS.oth{acc:Addr}{ok:Gh→Obj→α→Prop}{a:α}{ρ₁:Rho}(C:CS B s₀ g₀ own env acc ok ρ a s g)(F:Fm B s₀ g₀ own env ρ₁ s' g)(k:Oth env own s.heap s'.heap):CS B s₀ g₀ own env acc ok ρ₁ a s' g:=by refine Aab C.obj fun o f1 f2=>?_;exact⟨F,⟨o,k acc o C.loc f1,f2⟩,C.new,C.loc⟩
theorem CS.ne{acc It:Addr}{ok:Gh→Obj→α→Prop}{a:α}{ds:List D}(C:CS B s₀ g₀ own env acc ok ρ a s g)(it:AaQ s.heap g It ds):It≠acc:=by intro e;subst e;refine AxT it.obj fun _ _ _ ho' hf _=>?_;refine AnV C.obj fun o f1 _ _ _ f5 _=>?_;rw[ho'] at f1;cases f1;exact f5 _ hf
theorem AaQ.kb{acc It:Addr}{ok:Gh→Obj→α→Prop}{a:α}{ds:List D}(it:AaQ s.heap g It ds)(C:CS B s₀ g₀ own env acc ok ρ a s g)(hg:g It=none)(l:g.le g')(k:KB1 env own acc s g s' g'):AaQ s'.heap g' It ds∧g' It=none:=by refine AnV it.noTabby fun oi ho _ hnt hc hd hsq=>?_;have kk:=k It oi (C.ne it) (C.F.notLoc ho hc hd) ho hnt;exact⟨it.keep l fun o e _=>by rw[ho] at e;cases e;exact kk.1,kk.2 hg⟩
theorem AaQ.oth{It:Addr}{ds:List D}(it:AaQ s.heap g It ds)(F:Fm B s₀ g₀ own env ρ s g)(k:Oth env own s.heap s'.heap):AaQ s'.heap g It ds:=it.keep g.le_refl fun o e _=>k It o (by
  refine AnV it.noTabby fun oi ho _ _ hc hd _=>?_;exact F.notLoc ho hc hd) e
theorem Acz(O:B.Ok)(hh:A.handled=none){c:Code}{tr:Sem Fin}{It acc:Addr}{target:Expr}{ifs:List Expr}{p:Pos}{body:Sem Fin}{T:Rho→Expr→Option Bool}{inner:Rho→α→Option α}{ok:Gh→Obj→α→Prop}
  (hok:∀ g g' o a,g.le g'→ok g o a→ok g' o a) (hq:c.quiet=true) (hA:A.under c=A) (hden:B.M.den c=tr.onRaise (fun x=>do noteFrame x env;theTreesLotGoes x))
  (hturn:tr=(standAt p >>= fun _=>pyNext (.ref It) >>= fun r=>match r with
   |none=>pure (.done .next)
   |some v=>letOwnedTupleGo target (.ref It) v >>= fun _=>assign target env v >>= fun _=>
    (forIn ifs true fun c r=>if r=true then do let ok ← isTrue c env (eval c env);pure (ForInStep.yield ok) else pure (ForInStep.yield r)) >>= fun ok=>
    (if ok=true then body else again c)))
  (HT:∀ ρ e b s g,Fm B s₀ g₀ own env ρ s g→T ρ e=some b→Aaq B A s g (isTrue e env (eval e env)) fun _ r=>r=b)
  (hbody:∀ ρ₁ a a' s g,CS B s₀ g₀ own env acc ok ρ₁ a s g→inner ρ₁ a=some a' →
   ∀ (Q:Fin→Shared→Prop) (E:Value→Shared→Prop),(∀ s' g',g.le g'→CS B s₀ g₀ own env acc ok ρ₁ a' s' g'→KB1 env own acc s g s' g'→wpAny B.M A (again c) Q E s')→wpAny B.M A body Q E s) {ds:List D} {r:α} :
  ∀ {a:α} {s:Shared} {g:Gh} {R:Result→Shared→Prop},CS B s₀ g₀ own env acc ok ρ a s g→AaQ s.heap g It ds→s₀.heap.get? It=none→g It=none→AaW own env.scope T target ifs inner ρ ds a=some r →
  (∀ s' g',g.le g'→CS B s₀ g₀ own env acc ok ρ r s' g'→KB2 env own It acc s g s' g'→R (.ok .next) s')→codeAny B.M A c R s:=by
 induction ds with
 |nil=>
  intro a s g R C it h0 hg hr hR
  cases hr
  refine AlF hA hden fun Q E q1 q2=>?_;rw[hturn];exact wpAny_bind (wpAny_standAt (wpAny_bind (Ahl C.F.inv hh it fun h' k=>wpAny_pure (q1 _ _ (hR _ g g.le_refl (C.iter O it h0 hg k rfl rfl) fun x o h1 _ _ e _=>⟨k x o h1 e,id⟩)))))
 |cons d ds ih=>
  intro a s g R C it h0 hg hr hR;refine Aab (Aag hr) fun a' ha hr=>?_;refine Aab (Aag ha) fun ρ₁ hb ha=>?_;refine Aab (Aag ha) fun tk htk ha=>?_;refine AlF hA hden fun Q E q1 q2=>?_;rw[hturn];refine wpAny_bind (wpAny_standAt (wpAny_bind (Aeu C.F.inv it fun v h' tk' hv it' k=>?_)));have C1:CS B s₀ g₀ own env acc ok ρ a {s with heap:=h',toks:=tk'} g:=C.iter O it h0 hg k.extBut rfl rfl;refine wpAny_bind (Akv it' (wpAny_bind (Aca O hh C1.F hv (Abg hb).2 fun s2 F2 k2=>wpAny_bind ((AmU HT F2 htk).use fun okv s3 g3 x3 hokv=>?_))));have it2:=it'.oth C1.F k2;have C3:=(C1.oth F2 k2).step hok x3;have it3:AaQ s3.heap g3 It ds:=it2.keep x3.le fun o e n=>x3.ext.keep It o e n;have hg3:g3 It=none:=by refine Aab it2.noTabby fun oi ho _=>?_;exact x3.shutNone ho hg
  have fin:∀ {s4:Shared} {g4:Gh},g3.le g4→CS B s₀ g₀ own env acc ok ρ₁ a' s4 g4→KB1 env own acc s3 g3 s4 g4→codeAny B.M A c R s4:=fun {s4 g4} hle C4 k4=>
   ih (C4.weak hb) (it3.kb C3 hg3 hle k4).1 h0 (it3.kb C3 hg3 hle k4).2 hr fun s5 g5 l5 C5 k5=>hR s5 g5 ((x3.le.trans hle).trans l5) C5 fun x o h1 h2 h3 hx hn=>by
    have e2:=k2 x o h3 ((k.2 x h1).trans hx);have e4:=k4 x o h2 h3 (x3.ext.keep x o e2 hn) hn;have e5:=k5 x o h1 h2 h3 e4.1 hn;exact⟨e5.1,fun hgx=>e5.2 (e4.2 (x3.shutNone e2 hgx))⟩
  subst hokv;clear hturn hR;induction okv using Bool.casesOn with
  |false=>
   rw[if_neg (fun e=>Bool.noConfusion e)];exact wpAny_pure (q2 _ _ hq (fin g3.le_refl (sj ha ▸ C3) fun x o _ _ e _=>⟨e,id⟩))
  |true=>
   rw[if_pos rfl];exact hbody ρ₁ a a' s3 g3 C3 ha _ _ fun s4 g4 l4 C4 k4=>wpAny_pure (q2 _ _ hq (fin l4 C4 k4))
end
inductive Res where
 |next (ρ:Rho)
 |brk (ρ:Rho)
 |cont (ρ:Rho)
 |ret (d:D)
section
variable{B:Bs}{A:Around}{s₀ s s':Shared}{g₀ g g':Gh}{own:List Str}{env:Env}{ρ:Rho}
noncomputable def AcP(env:Env)(own:List Str)(s:Shared)(g:Gh)(s':Shared)(g':Gh):Prop:=
 g.le g'∧∀ x o,¬ Loc env own x→s.heap.get? x=some o→Abp o→s'.heap.get? x=some o∧(g x=none→g' x=none)
theorem AcP.refl:AcP env own s g s g:=⟨g.le_refl,fun _ _ _ e _=>⟨e,id⟩⟩
theorem AcP.trans{s'':Shared}{g'':Gh}(x:AcP env own s g s' g')(y:AcP env own s' g' s'' g''):AcP env own s g s'' g'':=
 ⟨x.1.trans y.1,fun a o n e t=>by
  refine Aaz (x.2 a o n e t) fun e1 h1=>?_;refine Aaz (y.2 a o n e1 t) fun e2 h2=>?_;exact⟨e2,fun h=>h2 (h1 h)⟩⟩
theorem Aae.lets(x:Aae B s g s' g'):AcP env own s g s' g':=⟨x.le,fun _ _ _ e n=>⟨x.ext.keep _ _ e n,x.shutNone e⟩⟩
theorem Oth.lets(x:Oth env own s.heap s'.heap):AcP env own s g s' g:=⟨g.le_refl,fun a o n e _=>⟨x a o n e,id⟩⟩
noncomputable def Aui(B:Bs)(s₀:Shared)(g₀:Gh)(own:List Str)(env:Env)(res:Res)(f:Flow)(s':Shared)(g':Gh):Prop:=match res with
 |.next ρ=>f=.next∧Fm B s₀ g₀ own env ρ s' g'
 |.brk ρ=>f=.brk∧Fm B s₀ g₀ own env ρ s' g'
 |.cont ρ=>f=.cont∧Fm B s₀ g₀ own env ρ s' g'
 |.ret d=>∃ v,f=.ret v∧Aae B s₀ g₀ s' g'∧Den g' v d
noncomputable def AgV(B:Bs)(A:Around)(s₀:Shared)(g₀:Gh)(own:List Str)(env:Env)(s:Shared)(g:Gh)(t:Sem Flow)(res:Res):Prop:=
 wpAny B.M A t (fun f s'=>∃ g',AcP env own s g s' g'∧Aui B s₀ g₀ own env res f s' g') (fun _ _=>False) s
theorem AgV.from{t:Sem Flow}{res:Res}(x:AcP env own s g s' g')(h:AgV B A s₀ g₀ own env s' g' t res) :
  wpAny B.M A t (fun f s''=>∃ g'',AcP env own s g s'' g''∧Aui B s₀ g₀ own env res f s'' g'') (fun _ _=>False) s':=
 wpAny_mono h (fun _ _ ⟨g'',h1,h2⟩=>⟨g'',x.trans h1,h2⟩) fun _ _ h=>h
theorem AgV.use{t:Sem Flow}{res:Res}{Q:Flow→Shared→Prop}{EE:Value→Shared→Prop}(h:AgV B A s₀ g₀ own env s g t res)
  (k:∀ f s' g',AcP env own s g s' g'→Aui B s₀ g₀ own env res f s' g'→Q f s'):wpAny B.M A t Q EE s:=
 wpAny_mono h (fun f s' ⟨g',h1,h2⟩=>k f s' g' h1 h2) fun _ _ h=>h.elim
end
structure Tb where
 glob:Str→Option Value
 app:Value→Option (List D→Option D)
 meth:String→Str→Option String
 spec:Scope→Rho→Expr→Option D
 stm:List Str→Scope→Rho→Stmt→Option Res
noncomputable def tyD:D→Option String
 |.int _=>some "int"
 |.str _=>some "str"
 |.list _=>some "list"
 |.tup _=>some "tuple"
 |.dict _ _ _=>some "dict"
 |_=>none
noncomputable def evL(E:Expr→Option D):List Expr→Option (List D)
 |[]=>some []
 |e :: es=>if Abt e=true then (E e).bind fun d=>(evL E es).bind fun ds=>some (d :: ds) else none
noncomputable def Akw:BoolOp→Bool
 |.And=>false
 |.Or=>true
noncomputable def AfX(op:BoolOp)(E:Expr→Option D):List Expr→Option D
 |[]=>none
 |[x]=>E x
 |x :: rest=>(E x).bind fun d=>(Ab9 d).bind fun b=>if b=Akw op then some d else AfX op E rest
noncomputable def Aa9(E:Expr→Option D)(e:Expr):Option Bool:=match E e with
 |some d=>Ab9 d
 |none=>none
noncomputable def Akx(E:Expr→Option D):Option Expr→Option (Option Int)
 |none=>some none
 |some e=>match E e with
  |some (.int i)=>some (some i)
  |_=>none
noncomputable def AgW(E:Rho→Expr→Option D)(own:List Str)(sc:Scope)(elt:Expr):List Comprehension→Rho→List D→Option (List D)
 |[],ρ,a=>(E ρ elt).bind fun d=>if a.length<1000000 then some (a++[d]) else none
 |g :: rest,ρ,a=>if g.is_async=0∧Abu g.iter=true then (E ρ g.iter).bind fun x=>(AbK x).bind fun items=>AaW own sc (fun ρ e=>Aa9 (E ρ) e) g.target g.ifs (AgW E own sc elt rest) ρ items a
  else none
noncomputable def Aaw(scope sc:Scope):Scope:=
 {scope with names:=scope.names.map fun (n,k)=>if (k == .free && sc.kind == .function && sc.names.lookup n == some .cell) then (n,.cell) else (n,k)}
noncomputable def Abq(scope sc:Scope):Bool:=
 decide (scope.kind=.function) && scope.names.all (fun (n,k)=>match k with
  |.local=>scope.names.lookup n == some .local
  |.free=>scope.names.lookup n == some .free && (sc.names.lookup n == some .cell || sc.names.lookup n == some .free)
  |_=>scope.names.lookup n == some k)
noncomputable def Aa7(scope:Scope)(ρ:Rho):Rho:=ρ.filter fun p=>scope.names.lookup p.1 == some .free
noncomputable def one{α:Type}:List α→Option α
 |[x]=>some x
 |_=>none
noncomputable def AFg:Value→Option D
 |.int i _=>some (.int i)
 |v=>some (.val v)
noncomputable def AxX(T:Tb)(sc:Scope)(ρ:Rho)(x:Str):Option D:=if AbA x=true then (match ρ.lookup x with
  |some d=>some d
  |none=>if sc.names.lookup x=some .globalImplicit then (T.glob x).bind AFg else none) else none
noncomputable def ADW(E:Expr→Option D)(l:Expr)(ops:List CmpOp)(rs:List Expr):Option D:=
 (one ops).bind fun op=>(one rs).bind fun r=>if Abu r=true then (E l).bind fun a=>(E r).bind fun b=>(AmN op a b).bind fun c=>some (.bool c) else none
noncomputable def Ari(E:Expr→Option D)(v:Expr):Expr→Option D
 |.Slice l u st _=>(E v).bind fun a=>(Akx E l).bind fun lo=>(Akx E u).bind fun hi=>(Akx E st).bind fun st=>Afs a lo hi st
 |_=>none
noncomputable def AFh(E:Expr→Option D)(v i:Expr):Option D:=if AeO i=true then (E v).bind fun a=>(E i).bind fun b=>Adw a b else Ari E v i
noncomputable def AAR(T:Tb)(E:Expr→Option D)(o:Expr)(name:Str)(apos:Pos)(args:List Expr)(pos:Pos):Option D:=
 if Aks o=true∧(apos.endLine == pos.line)=true∧args.length<29 then (E o).bind fun d=>(tyD d).bind fun ty=>(T.meth ty name).bind fun id=>(T.app (.builtin id)).bind fun F=>(evL E args).bind fun ds=>F (d :: ds) else none
noncomputable def AxY:D→Option Value
 |.val v=>some v
 |_=>none
noncomputable def ADX(T:Tb)(E:Expr→Option D)(f:Expr)(args:List Expr)(pos:Pos):Option D:=match f with
 |.Attribute o name apos=>AAR T E o name apos args pos
 |.Name f p=>(E (.Name f p)).bind fun d=>(AxY d).bind fun v=>(T.app v).bind fun F=>(evL E args).bind fun ds=>F ds
 |_=>none
noncomputable def lcE(ih:Scope→Rho→Expr→Option D)(sc:Scope)(ρ:Rho)(elt:Expr)(gs:List Comprehension)(sc':Scope):Option D:=match gs with
 |[]=>none
 |g :: rest=>if (g :: rest).all (fun c=>c.is_async == 0)=true∧Abu g.iter=true∧Abq sc' sc=true then (ih sc ρ g.iter).bind fun x=>(AbK x).bind fun items=>
   (AaW (Aak sc'.names) (Aaw sc' sc) (fun ρ e=>Aa9 (ih (Aaw sc' sc) ρ) e) g.target g.ifs (AgW (ih (Aaw sc' sc)) (Aak sc'.names) (Aaw sc' sc) elt rest) (Aa7 sc' ρ) items []).bind fun out=>some (.list out)
  else none
noncomputable def ifE(E:Expr→Option D)(a b:Expr):Bool→Option D
 |true=>E a
 |false=>E b
noncomputable def orD(a b:Option D):Option D:=match a with
 |some d=>some d
 |none=>b
theorem AAS{a b:Option D}{d:D}(h:a=some d):orD a b=some d:=by rw[h];rfl
theorem ADY{a b:Option D}{d:D}(h:a=none)(h2:b=some d):orD a b=some d:=by rw[h];exact h2
theorem Auj{a b:Option D}{d:D}(h:orD a b=some d):a=some d∨b=some d:=by
 cases a with
 |none=>exact .inr h
 |some x=>exact .inl h
noncomputable def AmW(T:Tb)(ih:Scope→Rho→Expr→Option D)(sc:Scope)(ρ:Rho):Expr→Option D
 |.Constant c _ _=>Are c
 |.Name x _=>AxX T sc ρ x
 |.BinOp l op r _=>(ih sc ρ l).bind fun a=>(ih sc ρ r).bind fun b=>AmM op a b
 |.UnaryOp op x _=>(ih sc ρ x).bind fun a=>unD op a
 |.BoolOp op vs _=>AfX op (ih sc ρ) vs
 |.Compare l ops rs _=>ADW (ih sc ρ) l ops rs
 |.IfExp t a b _=>(Aa9 (ih sc ρ) t).bind (ifE (ih sc ρ) a b)
 |.Tuple es _ _=>(evL (ih sc ρ) es).bind fun ds=>if ds.length≤1000000 then some (.tup ds) else none
 |.List es _=>(evL (ih sc ρ) es).bind fun ds=>if ds.length≤1000000 then some (.list ds) else none
 |.Subscript v i p=>orD (AFh (ih sc ρ) v i) (T.spec sc ρ (.Subscript v i p))
 |.Call f args [] pos=>ADX T (ih sc ρ) f args pos
 |.ListComp elt gs sc' _=>lcE ih sc ρ elt gs sc'
 |_=>none
theorem AdK{α:Type}{l:List α}{x:α}(h:one l=some x):l=[x]:=by
 match l,h with
 |[y],h=>cases h;rfl
 |[],h=>exact Aah h
 |_ :: _ :: _,h=>exact Aah h
theorem AoZ{d:D}{v:Value}(h:AxY d=some v):d=.val v:=by induction d using D.casesOn<;>first|exact Aah h|(cases h;rfl)
noncomputable def AeV(T:Tb)(ih:Scope→Rho→Expr→Option D)(sc:Scope)(ρ:Rho)(e:Expr):Option D:=match (if Ahw e=true then T.spec sc ρ e else none) with
 |some d=>some d
 |none=>AmW T ih sc ρ e
noncomputable def ev(T:Tb):Nat→Scope→Rho→Expr→Option D
 |0=>fun _ _ _=>none
 |n+1=>AeV T (ev T n)
structure AbO(B:Bs)(n:Nat)(T:Tb)(s₀:Shared)(g₀:Gh):Prop where
 glob:∀ x v,T.glob x=some v→B.look x=some v
 app:∀ v F,T.app v=some F→AmO B n s₀ g₀ v F
 spec:∀ A own env ρ e d s g,AOk n A→T.spec env.scope ρ e=some d→Fm B s₀ g₀ own env ρ s g→Aaq B A s g (eval e env) fun g' v=>Den g' v d
 stm:∀ A own env ρ st r s₁ g₁ s g,AOk n A→Aae B s₀ g₀ s g→T.stm own env.scope ρ st=some r→Fm B s₁ g₁ own env ρ s g→AgV B A s₁ g₁ own env s g (exec st env) r
 meth:∀ ty nm id,T.meth ty nm=some id→PlainAttrs ty∧Slot ty nm id∧typeOf (.builtin id)=pure (.type "method_descriptor")
theorem AbO.step{B:Bs}{n:Nat}{T:Tb}{s₀ s:Shared}{g₀ g:Gh}(K:AbO B n T s₀ g₀)(x:Aae B s₀ g₀ s g):AbO B n T s g:=
 ⟨K.glob,fun v F h=>(K.app v F h).step x,fun A own env ρ e d s' g' hA h F=>K.spec A own env ρ e d s' g' hA h (F.rebase x),fun A own env ρ st r s₁ g₁ s' g' hA x1 h F=>K.stm A own env ρ st r s₁ g₁ s' g' hA (x.trans x1) h F,K.meth⟩
noncomputable def Snd(B:Bs)(A:Around)(s₀:Shared)(g₀:Gh)(own:List Str)(env:Env)(ρ:Rho)(E:Expr→Option D):Prop:=
 ∀ e d s g,E e=some d→Fm B s₀ g₀ own env ρ s g→Aaq B A s g (eval e env) fun g' v=>Den g' v d
noncomputable def An2(B:Bs)(A:Around)(s₀:Shared)(g₀:Gh)(own:List Str)(env:Env)(ρ:Rho)(E:Expr→Option D):Prop:=
 ∀ e b s g,Aa9 E e=some b→Fm B s₀ g₀ own env ρ s g→Aaq B A s g (isTrue e env (eval e env)) fun _ r=>r=b
section
variable{B:Bs}{A:Around}{s₀ s s':Shared}{g₀ g g':Gh}{own:List Str}{env:Env}{ρ:Rho}{E:Expr→Option D}
theorem Arj{v:Value}{d:D}{T:String}(I:Inv B s g)(hd:Den g v d)(h:tyD d=some T):s.TypeIs v T∧∀ a,v=.ref a→∃ ob,s.heap.get? a=some ob∧ob.dict=none:=by
 cases hd<;>(first|exact Aah h|have h:=sj h;subst h)
 ·exact⟨typeIs_int _ _ _,fun a e=>by injection e⟩
 ·exact⟨typeIs_str _ _ _,fun a e=>by injection e⟩
 ·rename_i h1 h2;exact⟨⟨_,I.get h1,rfl⟩,fun a e=>by cases e;exact⟨_,I.get h1,rfl⟩⟩
 ·rename_i h1 h2;exact⟨⟨_,I.get h1,rfl⟩,fun a e=>by cases e;exact⟨_,I.get h1,rfl⟩⟩
 ·rename_i h1 h2 h3;exact⟨⟨_,I.get h1,rfl⟩,fun a e=>by cases e;exact⟨_,I.get h1,rfl⟩⟩
theorem AcQ:∀ {es:List Expr} {ds:List D},evL E es=some ds→∀ e∈es,Abt e=true
 |[],_,_,e,he=>by cases he
 |x :: es,ds,h,e,he=>by
  refine Aaz (Abg h) fun hn h1=>?_;refine Aab (Aag h1) fun d _ h2=>?_;refine Aab (Aag h2) fun ds' e2 _=>?_;exact(List.mem_cons.mp he).elim (fun q=>q ▸ hn) fun he=>AcQ e2 e he
theorem AbV(H:Snd B A s₀ g₀ own env ρ E):∀ {es:List Expr} {ds:List D} {s:Shared} {g:Gh},evL E es=some ds→Fm B s₀ g₀ own env ρ s g →
  Aaq B A s g (spliced (es.map fun e=>(false,eval e env))) fun g' vs=>Aar g' vs ds
 |[],_,s,g,h,F=>by have h:=sj h;subst h;exact Aaq.pure F.inv .nil
 |e :: es,ds,s,g,h,F=>by
  refine Aaz (Abg h) fun _ h1=>?_;refine Aab (Aag h1) fun d e1 h2=>?_;refine Aab (Aag h2) fun ds' e2 h3=>?_;have h3:=sj h3;subst h3;refine Calls.spliced_cons ((H e d s g e1 F).use fun v s1 g1 x1 hv=>?_);exact(AbV H e2 (F.step x1)).use fun vs s2 g2 x2 hvs=>⟨g2,x1.trans x2,.cons (hv.mono x2.le) hvs⟩
theorem AgE:∀ (es:List Expr),evalEach es env=es.map (eval · env)
 |[]=>rfl
 |e :: es=>by show _ :: evalEach es env=_;rw[AgE es];rfl
theorem Aev(H:Snd B A s₀ g₀ own env ρ E){op:BoolOp}{pos:Pos}:∀ {es:List Expr} {d:D} {s:Shared} {g:Gh},AfX op E es=some d→Fm B s₀ g₀ own env ρ s g →
  Aaq B A s g (boolOp pos op (es.map (eval · env))) fun g' v=>Den g' v d
 |[],_,s,g,h,F=>Aah h
 |[x],d,s,g,h,F=>H x d s g h F
 |x :: y :: rest,d,s,g,h,F=>by
  refine Aab (Aag h) fun dx e1 h=>?_
  ·refine Aab (Aag h) fun b e2 h=>?_
   ·show Aaq B A s g (eval x env >>= fun v=>standAt pos >>= fun _=>holding [v] (truthy v) >>= fun t=>match op,t with
     |.And,false|.Or,true=>pure v
     |_,_=>boolOp pos op ((y :: rest).map (eval · env))) _
    refine Aaq.bind (H x dx s g e1 F) fun v s1 g1 x1 hv=>?_;refine Aaq.bind (P:=fun _ _=>True) (wpAny_standAt ⟨g1,Aae.refl x1.inv,trivial⟩) fun _ s2 g2 x2 _=>?_;refine Aaq.bind (wpAny_holding (Ae1 x2.inv (hv.mono x2.le) e2)) fun t s3 g3 x3 ht=>?_;subst ht;have F3:=((F.step x1).step x2).step x3;have hv3:=(hv.mono x2.le).mono x3.le
    cases op<;>induction t using Bool.casesOn
    ·rw[if_pos (show false=Akw .And from rfl)] at h;rw[← sj h];exact Aaq.pure x3.inv hv3
    ·rw[if_neg (show ¬ true=Akw .And from Bool.noConfusion)] at h;exact Aev H h F3
    ·rw[if_neg (show ¬ false=Akw .Or from Bool.noConfusion)] at h;exact Aev H h F3
    ·rw[if_pos (show true=Akw .Or from rfl)] at h;rw[← sj h];exact Aaq.pure x3.inv hv3
theorem AdL(H:An2 B A s₀ g₀ own env ρ E){op:BoolOp}:∀ {es:List Expr} {d:D} {b:Bool} {s:Shared} {g:Gh},AfX op E es=some d→Ab9 d=some b→Fm B s₀ g₀ own env ρ s g →
  Aaq B A s g (allTrue op es env) fun _ r=>r=b
 |[],_,_,s,g,h,_,F=>Aah h
 |[x],d,b,s,g,h,hb,F=>by
  have h:E x=some d:=h;have hT:Aa9 E x=some b:=by unfold Aa9;rw[h];exact hb
  cases op with
  |And=>
   refine wpAny_allTrue_And_cons ((H x b s g hT F).use fun r s1 g1 x1 e=>?_);subst e;induction r using Bool.casesOn
   ·exact⟨g1,x1,rfl⟩
   ·refine wpAny_allTrue_And_nil ?_;exact⟨g1,x1,rfl⟩
  |Or=>
   refine wpAny_allTrue_Or_cons ((H x b s g hT F).use fun r s1 g1 x1 e=>?_);subst e;induction r using Bool.casesOn
   ·refine wpAny_allTrue_Or_nil ?_;exact⟨g1,x1,rfl⟩
   ·exact⟨g1,x1,rfl⟩
 |x :: y :: rest,d,b,s,g,h,hb,F=>by
  refine Aab (Aag h) fun dx e1 h=>?_
  ·refine Aab (Aag h) fun c e2 h=>?_
   ·have hT:Aa9 E x=some c:=by unfold Aa9;rw[e1];exact e2
    cases op with
    |And=>
     refine wpAny_allTrue_And_cons ((H x c s g hT F).use fun r s1 g1 x1 e=>?_);subst e;induction r using Bool.casesOn
     ·rw[if_pos (show false=Akw .And from rfl)] at h;rw[← sj h,e2] at hb;exact⟨g1,x1,sj hb⟩
     ·rw[if_neg (show ¬ true=Akw .And from Bool.noConfusion)] at h;simp only[if_true];exact(AdL H h hb (F.step x1)).from x1
    |Or=>
     refine wpAny_allTrue_Or_cons ((H x c s g hT F).use fun r s1 g1 x1 e=>?_);subst e;induction r using Bool.casesOn
     ·rw[if_neg (show ¬ false=Akw .Or from Bool.noConfusion)] at h;simp only[Bool.false_eq_true,if_false];exact(AdL H h hb (F.step x1)).from x1
     ·rw[if_pos (show true=Akw .Or from rfl)] at h;rw[← sj h,e2] at hb;exact⟨g1,x1,sj hb⟩
theorem AhB{op:CmpOp}{r:Expr}(h:Abu r=true):behindInMarks op r=false:=by induction r using PySem.Expr.casesOn<;>first|rfl|exact Bool.noConfusion h
theorem AdM{e:Expr}(h:Abu e=true)(x:Value):foldedSetIterable e env x=pure x:=by induction e using PySem.Expr.casesOn<;>first|rfl|exact Bool.noConfusion h
theorem AfY(H:Snd B A s₀ g₀ own env ρ E){oe:Option Expr}{oi:Option Int}(h:Akx E oe=some oi)(F:Fm B s₀ g₀ own env ρ s g):Aaq B A s g (evalPart oe env) fun _ v=>IsPart v oi:=by
 induction oe using Option.casesOn with
 |none=>cases sj h;exact wpAny_evalPart_none ⟨g,Aae.refl F.inv,.none⟩
 |some e=>
  have h:(match E e with|some (.int i)=>some (some i)|_=>none)=some oi:=h;generalize e1:E e=o at h
  cases o with
  |none=>exact Aah h
  |some d=>
   induction d using D.casesOn<;>first
    |(cases sj h;exact wpAny_evalPart_some ((H e _ s g e1 F).use fun v s1 g1 x1 hv=>by induction hv using Den.intE;exact⟨g1,x1,.int _ _⟩))
    |exact Aah h
end
theorem Aft{elt target iter:Expr}{ifs:List Expr}{gens:List Comprehension}{scope:Scope}{pos:Pos}{depth:Nat}{it acc:Value}{env:Env}(hg:gens[depth]?=some ⟨target,iter,ifs,0⟩)(hg':gens[depth+1]?=none) :
  compTurn (.ListComp elt gens scope pos) depth it acc env=(standAt iter.pos >>= fun _=>pyNext it >>= fun r=>match r with
   |none=>pure (.done .next)
   |some v=>letOwnedTupleGo target it v >>= fun _=>assign target env v >>= fun _=>
    (forIn ifs true fun c r=>if r=true then do let ok ← isTrue c env (eval c env);pure (ForInStep.yield ok) else pure (ForInStep.yield r)) >>= fun ok=>
    (if ok=true then (eval elt env >>= fun x=>call (.builtin "list.append") [acc,x] >>= fun _=>pure ()) >>= fun _=>again (.compLoop (.ListComp elt gens scope pos) depth it acc env) else again (.compLoop (.ListComp elt gens scope pos) depth it acc env))):=by
 unfold compTurn;dsimp only;rw[hg];dsimp only;rw[hg']
 rfl
theorem Aky{elt target iter target' iter':Expr}{ifs ifs':List Expr}{gens:List Comprehension}{scope:Scope}{pos:Pos}{depth:Nat}{it acc:Value}{env:Env}(hg:gens[depth]?=some ⟨target,iter,ifs,0⟩)(hg':gens[depth+1]?=some ⟨target',iter',ifs',0⟩) :
  compTurn (.ListComp elt gens scope pos) depth it acc env=(standAt iter.pos >>= fun _=>pyNext it >>= fun r=>match r with
   |none=>pure (.done .next)
   |some v=>letOwnedTupleGo target it v >>= fun _=>assign target env v >>= fun _=>
    (forIn ifs true fun c r=>if r=true then do let ok ← isTrue c env (eval c env);pure (ForInStep.yield ok) else pure (ForInStep.yield r)) >>= fun ok=>
    (if ok=true then (eval iter' env >>= fun x=>standAt iter'.pos >>= fun _=>foldedSetIterable iter' env x >>= fun x=>holding [x] (pyIter x) >>= fun i=>runOwn (.compStart (.ListComp elt gens scope pos) (depth+1) i acc env) env >>= fun _=>again (.compLoop (.ListComp elt gens scope pos) depth it acc env)) else again (.compLoop (.ListComp elt gens scope pos) depth it acc env))):=by
 unfold compTurn;dsimp only;rw[hg];dsimp only;rw[hg']
 rfl
section
variable{B:Bs}{A:Around}{s₀ s s':Shared}{g₀ g g':Gh}{own:List Str}{env:Env}{ρ:Rho}
noncomputable def Aew(g:Gh)(o:Obj)(a:List D):Prop:=∃ vs n,o={cls:=.type "list",data:=.seq vs n}∧Aar g vs.toList a∧a.length≤1000000
theorem Ac1:∀ (g g':Gh) (o:Obj) (a:List D),g.le g'→Aew g o a→Aew g' o a:=fun _ _ _ _ hle ⟨vs,n,e,h,hl⟩=>⟨vs,n,e,h.mono hle,hl⟩
noncomputable abbrev Aw6(B:Bs)(A:Around)(e:Expr)(depth:Nat)(it acc:Value)(env:Env):Prop:=A.under (.compStart e depth it acc env)=A∧B.M.den (.compStart e depth it acc env)=(compStart e depth it acc env).onRaise fun x=>do noteFrame x env;standAt theWindowsPlace
theorem Aex{e:Expr}{target iter:Expr}{ifs:List Expr}{depth:Nat}{It:Addr}{acc:Value}{ds:List D}{R:Result→Shared→Prop}
  (hs:Aw6 B A e depth (.ref It) acc env) (hg:(clausesOf e)[depth]?=some ⟨target,iter,ifs,0⟩) (it:AaQ s.heap g It ds) (h:codeAny B.M A (.compLoop e depth (.ref It) acc env) R s) :
  codeAny B.M A (.compStart e depth (.ref It) acc env) R s:=by
 refine codeAny_of_tree ?_;rw[hs.1,hs.2];refine wpAny_notedAt ?_;unfold compStart;rw[hg];simp only[Option.elim,bne_self_eq_false,Bool.false_eq_true,if_false];refine wpAny_bind (wpAny_askSetting (wpAny_ite ?_))
 split
 ·exact wpAny_pure ⟨rfl,h⟩
 ·exact wpAny_bind (wpAny_rule (wpAny_bind (wpAny_standAt (wpAny_bind (AlE it (wpAny_pure ⟨rfl,h⟩))))))
theorem Ark{E:Expr→Option D}(H:Snd B A s₀ g₀ own env ρ E){acc:Addr}{elt:Expr}{a a':List D}(C:CS B s₀ g₀ own env acc Aew ρ a s g)(hi:((E elt).bind fun d=>if a.length<1000000 then some (a++[d]) else none)=some a')(O:B.Ok){c:Code}{Q:Fin→Shared→Prop}{EE:Value→Shared→Prop}
  (hk:∀ s' g',g.le g'→CS B s₀ g₀ own env acc Aew ρ a' s' g'→KB1 env own acc s g s' g'→wpAny B.M A (again c) Q EE s') :
  wpAny B.M A ((eval elt env >>= fun x=>call (.builtin "list.append") [.ref acc,x] >>= fun _=>pure ()) >>= fun _=>again c) Q EE s:=by
 refine Aab (Aag hi) fun d hd hi=>?_;refine Aaz (Abg hi) fun hlen hi=>?_;refine wpAny_bind (wpAny_bind ((H elt d s g hd C.F).use fun v s1 g1 x1 hv=>?_));have C1:=C.step Ac1 x1;refine AnV C1.obj fun o f1 q1 f3 f4 f5 f6=>?_;refine Adf q1 fun vs n eo hvs hl=>?_;rw[eo] at f1 f4;have hvl:=Array.length_toList.symm.trans hvs.length;refine wpAny_bind (wpAny_list_append_plain ⟨n,f1⟩ (fun h' hp hs=>wpAny_pure (hk _ g1 x1.le ?_ fun x o h1 h2 e hn=>⟨(hs.2 x h1).trans (x1.ext.keep x o e hn),x1.shutNone e⟩)) (by rw[hvl];exact AaO hl));refine Abm hp fun n' hp=>?_;refine⟨C1.F.turnE O C1.new.1 C1.new.2 f1 f4 (fun _ e=>nomatch e) (fun e=>C1.loc (.inl e)) hs.extBut rfl rfl,⟨_,hp,⟨_,_,rfl,?_,?_⟩,Aal rfl,AaH rfl (by decide),(fun _ e=>nomatch e),fun _ e=>nomatch e⟩,C1.new,C1.loc⟩
 ·rw[Array.toList_push,← sj hi];exact hvs.append (.cons hv .nil)
 ·rw[← sj hi,List.length_append];exact hlen
theorem Arl(O:B.Ok)(hh:A.handled=none){elt:Expr}{gens:List Comprehension}{scope:Scope}{pos:Pos}{acc:Addr}{E:Rho→Expr→Option D}(hall:∀ c∈gens,c.is_async=0)
  (H:∀ ρ,Snd B A s₀ g₀ own env ρ (E ρ)) (HT:∀ ρ,An2 B A s₀ g₀ own env ρ (E ρ)) :
  ∀ (rest:List Comprehension) (depth:Nat) (target iter:Expr) (ifs:List Expr),gens.drop depth=⟨target,iter,ifs,0⟩ :: rest→∀ {It:Addr} {ρ:Rho} {ds:List D} {a r:List D} {s:Shared} {g:Gh} {R:Result→Shared→Prop},
  CS B s₀ g₀ own env acc Aew ρ a s g→AaQ s.heap g It ds→s₀.heap.get? It=none→g It=none →
  AaW own env.scope (fun ρ e=>Aa9 (E ρ) e) target ifs (AgW E own env.scope elt rest) ρ ds a=some r→(∀ s' g',g.le g'→CS B s₀ g₀ own env acc Aew ρ r s' g'→KB2 env own It acc s g s' g'→R (.ok .next) s') →
  codeAny B.M A (.compLoop (.ListComp elt gens scope pos) depth (.ref It) (.ref acc) env) R s:=by
 intro rest;induction rest with
 |nil=>
  intro depth target iter ifs hdrop It ρ ds a r s g R C it h0 hg hr hR;have hg0:gens[depth]?=some ⟨target,iter,ifs,0⟩:=by rw[← List.head?_drop,hdrop];rfl
  have hg1:gens[depth+1]?=none:=by rw[← List.head?_drop,← List.drop_drop,hdrop];rfl
  exact Acz O hh Ac1 rfl rfl rfl (Aft hg0 hg1) (fun ρ e b s g F h=>HT ρ e b s g h F) (fun ρ₁ a a' s g C hi Q EE hk=>Ark (H ρ₁) C hi O hk) C it h0 hg hr hR
 |cons g' rest ih=>
  intro depth target iter ifs hdrop It ρ ds a r s g R C it h0 hg hr hR
  obtain⟨target',iter',ifs',as'⟩:=g'
  have hg0:gens[depth]?=some ⟨target,iter,ifs,0⟩:=by rw[← List.head?_drop,hdrop];rfl
  have hdrop1:gens.drop (depth+1)=⟨target',iter',ifs',as'⟩ :: rest:=by rw[← List.drop_drop,hdrop];rfl
  have has:as'=0:=hall ⟨target',iter',ifs',as'⟩ (List.mem_of_mem_drop (i:=depth+1) (by rw[hdrop1];exact .head _));subst has;have hg1:gens[depth+1]?=some ⟨target',iter',ifs',0⟩:=by rw[← List.head?_drop,hdrop1];rfl
  refine Acz O hh Ac1 rfl rfl rfl (Aky hg0 hg1) (fun ρ e b s g F h=>HT ρ e b s g h F) (fun ρ₁ a a' s g C hi Q EE hk=>?_) C it h0 hg hr hR;refine Aaz (Abg (show(if _ then _ else none)=some a' from hi)) fun hns hi=>?_;refine Aab (Aag hi) fun x hx hi=>?_;refine Aab (Aag hi) fun items hit hi=>?_;refine wpAny_bind ((H ρ₁ iter' x s g hx C.F).use fun v s1 g1 x1 hv=>?_);have C1:=C.step Ac1 x1;refine wpAny_bind (wpAny_standAt (wpAny_bind (wpAny_of_eq (AdM hns.2 v) (wpAny_bind (wpAny_holding (AdI O x1.inv hv hit fun o x2 it2=>?_))))));refine wpAny_bind (wpAny_runOwn (Aex ⟨rfl,rfl⟩ hg1 it2 (ih (depth+1) target' iter' ifs' hdrop1 (C1.step Ac1 x2) it2 (C1.F.st.ext.dead (AaM _)) x1.inv.fresh hi fun s3 g3 l3 C3 k3=>hk s3 g3 (x1.le.trans l3) C3 fun y o h1 h2 e hn=>?_)));have e1:=x1.ext.keep y o e hn;have e3:=k3 y o (Nat.ne_of_lt (Heap.lt_size e1)) h1 h2 (x2.ext.keep y o e1 hn) hn;exact⟨e3.1,fun hgy=>e3.2 (x1.shutNone e hgy)⟩
noncomputable def clos(env:Env):List (Str×NameKind)→List (Str×Addr)→List (Str×Addr)
 |[],acc=>acc
 |(n,k) :: r,acc=>if k == .free then clos env r ((n,(env.cells.lookup n).getD 0) :: acc) else clos env r acc
theorem AdN(f:Str×NameKind→List (Str×Addr)→Sem (ForInStep (List (Str×Addr))))
  (hf:∀ n k cs,f (n,k) cs=if k == .free then (do let a ← cellOf env n;pure (.yield ((n,a) :: cs))) else pure (.yield cs)) :
  ∀ (names:List (Str×NameKind)) (acc:List (Str×Addr)),(∀ n,(n,NameKind.free)∈names→∃ c,env.cells.lookup n=some c)→forIn names acc f=(pure (clos env names acc):Sem _)
 |[],acc,_=>by rw[List.forIn_nil];rfl
 |(n,k) :: r,acc,h=>by
  rw[List.forIn_cons,hf];show _=pure (if (k == NameKind.free)=true then clos env r ((n,(env.cells.lookup n).getD 0) :: acc) else clos env r acc)
  by_cases hk:(k == NameKind.free)=true
  ·have hk':k=.free:=by simpa using hk
   subst hk';refine Abm (h n (.head _)) fun c hc=>?_;rw[if_pos hk,if_pos hk];unfold cellOf;rw[hc];exact AdN f hf r _ fun n' hn=>h n' (.tail _ hn)
  ·rw[if_neg hk,if_neg hk];exact AdN f hf r acc fun n' hn=>h n' (.tail _ hn)
theorem Afu{scope:Scope}(h:∀ n,(n,NameKind.free)∈scope.names→∃ c,env.cells.lookup n=some c):closureFor scope env=pure (clos env scope.names []):=by
 unfold closureFor;refine Eq.trans (congrArg (fun m=>m >>= fun cs=>pure cs) (AdN (env:=env) _ ?_ scope.names [] h)) rfl;intro n k cs
 cases k<;>rfl
theorem AdO:∀ (names:List (Str×NameKind)) (acc:List (Str×Addr)) {x:Str} {c:Addr},(clos env names acc).lookup x=some c→acc.lookup x=some c∨((x,NameKind.free)∈names∧c=(env.cells.lookup x).getD 0)
 |[],acc,x,c,h=>.inl h
 |(n,k) :: r,acc,x,c,h=>by
  have h:(if (k == NameKind.free)=true then clos env r ((n,(env.cells.lookup n).getD 0) :: acc) else clos env r acc).lookup x=some c:=h
  split at h
  ·rename_i hk;have hk':k=.free:=by simpa using hk
   subst hk'
   rcases AdO r _ h with h|h
   ·rw[List.lookup_cons] at h
    cases hx:x == n with
    |true=>rw[hx] at h;cases h;have:=eq_of_beq hx;subst this;exact .inr ⟨.head _,rfl⟩
    |false=>rw[hx] at h;exact .inl h
   ·exact .inr ⟨.tail _ h.1,h.2⟩
  ·rcases AdO r _ h with h|h
   ·exact .inl h
   ·exact .inr ⟨.tail _ h.1,h.2⟩
theorem Afv:∀ (names:List (Str×NameKind)) (acc:List (Str×Addr)) {x:Str},((x,NameKind.free)∈names∨(acc.lookup x).isSome=true)→((clos env names acc).lookup x).isSome=true
 |[],acc,x,h=>by rcases h with h|h;cases h;exact h
 |(n,k) :: r,acc,x,h=>by
  show((if (k == NameKind.free)=true then clos env r ((n,(env.cells.lookup n).getD 0) :: acc) else clos env r acc).lookup x).isSome=true
  split
  ·rename_i hk;have hk':k=.free:=by simpa using hk
   subst hk';refine Afv r _ ?_
   rcases h with h|h
   ·rcases List.mem_cons.mp h with e|h
    ·cases e;right;rw[List.lookup_cons];simp
    ·exact .inl h
   ·right;rw[List.lookup_cons];cases x == n<;>first|rfl|exact h
  ·rename_i hk;refine Afv r _ ?_
   rcases h with h|h
   ·rcases List.mem_cons.mp h with e|h
    ·cases e;simp at hk
    ·exact .inl h
   ·exact .inr h
end
section
variable{B:Bs}{A:Around}{s₀ s s':Shared}{g₀ g g':Gh}{own:List Str}{env:Env}{ρ:Rho}
theorem Aey(f:Str→NameKind→NameKind):∀ (names:List (Str×NameKind)) (x:Str),(names.map fun p=>(p.1,f p.1 p.2)).lookup x=(names.lookup x).map (f x)
 |[],x=>rfl
 |(n,k) :: r,x=>by
  rw[List.map_cons,List.lookup_cons,List.lookup_cons]
  cases h:x == n with
  |true=>have:=eq_of_beq h;subst this;rfl
  |false=>exact Aey f r x
theorem Ajh(scope:Scope)(env:Env)(x:Str):(relabel scope env).names.lookup x=(scope.names.lookup x).map fun k=>if (k == .free && env.scope.kind == .function && env.kindOf x == some .cell) then .cell else k:=by
 have:=Aey (fun n k=>if (k == .free && env.scope.kind == .function && env.kindOf n == some .cell) then .cell else k) scope.names x;rw[← this];unfold relabel;dsimp only
 congr 1
 apply List.map_congr_left;intro q1;obtain⟨n,k⟩:=q1;intro _;dsimp only
 split<;>rfl
theorem Abe(scope:Scope)(env:Env):Aaw scope env.scope=relabel scope env:=rfl
theorem AgF{scope sc:Scope}(h:Abq scope sc=true):scope.kind=.function∧(∀ n k,(n,k)∈scope.names→scope.names.lookup n=some k)∧(∀ n,(n,NameKind.free)∈scope.names→sc.names.lookup n=some .cell∨sc.names.lookup n=some .free):=by
 unfold Abq at h;rw[Bool.and_eq_true] at h;refine Aaz h fun h1 h2=>?_;refine⟨of_decide_eq_true h1,fun n k hm=>?_,fun n hm=>?_⟩
 ·have:=List.all_eq_true.mp h2 (n,k) hm;induction k using NameKind.casesOn<;>first|exact eq_of_beq this|exact eq_of_beq (Bool.and_eq_true_iff.mp this).1
 ·have:=List.all_eq_true.mp h2 (n,.free) hm;exact(Bool.or_eq_true_iff.mp (Bool.and_eq_true_iff.mp this).2).imp eq_of_beq eq_of_beq
theorem AcL(scope:Scope):∀ (ρ:Rho) {x:Str} {d:D},(Aa7 scope ρ).lookup x=some d→scope.names.lookup x=some .free∧ρ.lookup x=some d
 |[],x,d,h=>by exact Aah h
 |(n,e) :: r,x,d,h=>by
  unfold Aa7 at h;rw[List.filter_cons] at h
  split at h
  ·rename_i hn;rw[List.lookup_cons] at h ⊢
   cases hx:x == n with
   |true=>
    rw[hx] at h;cases h;have:=eq_of_beq hx;subst this;exact⟨by simpa using hn,rfl⟩
   |false=>rw[hx] at h;exact AcL scope r h
  ·rename_i hn;have ih:=AcL scope r h;refine⟨ih.1,?_⟩;rw[List.lookup_cons]
   cases hx:x == n with
   |true=>
    have:=eq_of_beq hx;subst this;exact absurd ih.1 (by simpa using hn)
   |false=>exact ih.2
theorem Arm(O:B.Ok)(F:Fm B s₀ g₀ own env ρ s g){scope:Scope}(hok:Abq scope env.scope=true){Q:Env→Shared→Prop}{E:Value→Shared→Prop}
  (h:∀ cenv s',cenv.scope=relabel scope env→(∀ a o,s.heap.get? a=some o→s'.heap.get? a=some o)→Fm B s g (Aak scope.names) cenv (Aa7 scope ρ) s' g→∀ c0:Env,{c0 with scope:=relabel scope env}=cenv→c0.locals=cenv.locals→Q c0 s') :
  closureFor scope env=pure (clos env scope.names [])∧wpAny B.M A (newFunctionEnv scope env.globals (clos env scope.names []) [] env.qual none .none (some env)) Q E s:=by
 refine Ahs (AgF hok) fun hk huniq hfree=>?_;have cells:∀ n,(n,NameKind.free)∈scope.names→∃ c v,env.cells.lookup n=some c∧s.heap.IsCell c v∧∀ d,ρ.lookup n=some d→∃ v',v=some v'∧Den g v' d:=fun n hn=>F.cells n (hfree n hn);have hcl:∀ x c,(clos env scope.names []).lookup x=some c→(x,NameKind.free)∈scope.names∧env.cells.lookup x=some c:=fun x c e=>by
  rcases AdO _ _ e with e|⟨e1,e2⟩
  ·exact Aah e
  ·refine Ad9 (cells x e1) fun c' v e3 _=>?_;rw[e3] at e2;exact⟨e1,by rw[e3];exact congrArg some e2.symm⟩
 have hcl':∀ x,(x,NameKind.free)∈scope.names→∃ c v,(clos env scope.names []).lookup x=some c∧s.heap.IsCell c v∧∀ d,ρ.lookup x=some d→∃ v',v=some v'∧Den g v' d:=fun x hx=>by
  refine Abm (Option.isSome_iff_exists.mp (Afv (env:=env) scope.names [] (.inl hx))) fun c e=>?_;refine Aaz (hcl x c e) fun _ e2=>?_;refine Adf (cells x hx) fun c' v e3 e4 e5=>?_;rw[e2] at e3;cases e3;exact⟨c,v,e,e4,e5⟩
 refine⟨Afu fun n hn=>(cells n hn).imp fun c ⟨_,e,_⟩=>e,?_⟩;simp only[newFunctionEnv,Option.isSome_some,if_true];refine wpAny_bind (wpAny_alloc ?_);refine wpAny_bind (wpAny_layCells _ (fun name kind cells=>by cases hkc:kind == NameKind.cell<;>simp) _ _ _ _ ?_);rw[show({s with heap:=s.heap.push {cls:=.type "dict",data:=.dict #[]}}:Shared).heap.objs.size=s.heap.objs.size+1 from Heap.size_push ..];rw[List.forIn_nil];refine wpAny_bind (wpAny_pure (wpAny_pure ?_));refine h {scope:=relabel scope env,locals:=s.heap.objs.size,globals:=env.globals,cells:=cellsFrom (s.heap.objs.size+1) scope.names (clos env scope.names []),qual:=env.qual,func:=none,code:=env.code,frame:=env.frame,builtins:=env.builtins} _ rfl
  (fun a o e=>pushCells_keeps _ _ _ _ (Heap.get?_push_of_some _ e)) ?_ _ rfl rfl
 have kind':∀ x,Env.kindOf {scope:=relabel scope env,locals:=s.heap.objs.size,globals:=env.globals,cells:=cellsFrom (s.heap.objs.size+1) scope.names (clos env scope.names []),qual:=env.qual,func:=none,code:=env.code,frame:=env.frame,builtins:=env.builtins} x
   = (scope.names.lookup x).map fun k=>if (k == .free && env.scope.kind == .function && env.kindOf x == some .cell) then .cell else k:=fun x=>Ajh scope env x
 refine Aq9 (names:=scope.names) (cl:=clos env scope.names []) O F.inv rfl rfl ?_ F.glob F.blt (fun x hx=>?_) (fun x c e=>?_) (fun x d e=>?_)
 ·exact hk
 ·rw[kind'] at hx
  cases e:scope.names.lookup x with
  |none=>rw[e] at hx;rcases hx with hx|hx<;>(first|exact Aah hx|cases hx)
  |some k=>
   rw[e] at hx
   cases k with
   |cell=>exact .inl (PySem.mem_of_lookup e)
   |free=>refine Adf (hcl' x (PySem.mem_of_lookup e)) fun c v e1 e2 _=>?_;exact .inr ⟨c,v,e1,e2⟩
   |_=>simp at hx
 ·refine Aaz (hcl x c e) fun h1 h2=>?_;refine Adf (cells x h1) fun c' v e3 e4 _=>?_;rw[h2] at e3;cases e3;exact e4.lt
 ·refine Aaz (AcL scope ρ e) fun h1 h2=>?_;refine Adf (hcl' x (PySem.mem_of_lookup h1)) fun c v e1 e2 e3=>?_;refine Aab (e3 d h2) fun v' q2 e4=>?_;subst q2;refine⟨fun hm=>?_,?_,c,v',e1,e2,e4⟩
  ·have:=huniq x .cell hm;rw[h1] at this;cases this
  ·rw[kind',h1];simp only[Option.map_some]
   split
   ·exact .inl rfl
   ·exact .inr rfl
noncomputable abbrev ADA(o:Obj):Prop:=Abp o∧¬ AcK o∧(∀ vs,o.data≠.fields vs)∧(∀ v,o.data≠.cell v)
noncomputable def LK(s s':Shared):Prop:=∀ a vs n,s.heap.get? a=some {cls:=.type "list",data:=.seq vs n}→s'.heap.get? a=some {cls:=.type "list",data:=.seq vs n}
structure Cmp{α:Type}(B:Bs)(A:Around)(s₀:Shared)(g₀:Gh)(env:Env)(ρ:Rho)(s:Shared)(g:Gh)(e:Expr)(scope:Scope)(iter:Expr)(new:Sem Value)(ok:Shared→Gh→Obj→α→Prop)(out:α)(P:Shared→Gh→D→Prop)(target:Expr)(ifs:List Expr)(rest:List Comprehension)(o0:Obj)(a0:α)(x:D)(items:List D):Prop where
 hcl:clausesOf e=⟨target,iter,ifs,0⟩ :: rest
 hset:Abu iter=true
 hok:Abq scope env.scope=true
 hnew:∀ (s:Shared) (Q EE:Value→Shared→Prop),Q (.ref s.heap.objs.size) {s with heap:=s.heap.push o0}→wpAny B.M A new Q EE s
 hst:∀ It acc cenv,Aw6 B A e 0 (.ref It) (.ref acc) cenv
 h0:∀ s g,ok s g o0 a0
 hn:ADA o0
 hfr:o0.isFreed=false
 hx:Aaq B A s g (eval iter env) fun g' v=>Den g' v x
 hi:AbK x=some items
 hloop:∀ s1 g1 cenv It acc s4,Aae B s₀ g₀ s1 g1→cenv.scope=relabel scope env→CS B s1 g1 (Aak scope.names) cenv acc (ok s1) (Aa7 scope ρ) a0 s4 g1→AaQ s4.heap g1 It items→s1.heap.get? It=none→g1 It=none →
   ∀ R:Result→Shared→Prop,(∀ s5 g5,CS B s1 g1 (Aak scope.names) cenv acc (ok s1) (Aa7 scope ρ) out s5 g5→R (.ok .next) s5)→codeAny B.M A (.compLoop e 0 (.ref It) (.ref acc) cenv) R s4
 hshut:∀ s1 g1 cenv acc s5 g5,Aae B s g s1 g1→CS B s1 g1 (Aak scope.names) cenv acc (ok s1) (Aa7 scope ρ) out s5 g5→∃ g6 d,P s5 g6 d∧Aae B s1 g1 s5 g6∧Den g6 (.ref acc) d∧g6 cenv.locals=none
 hP:∀ s s' g d,P s g d→LK s s'→P s' g d
theorem CS.shutG{α:Type}{ok:Gh→Obj→α→Prop}{a:α}{d:D}{own':List Str}{cenv:Env}{acc:Addr}(hd:∀ g a' o,g a'=none→ok g o a→Den (g.put a' o) (.ref a') d)(C:CS B s₀ g₀ own' cenv acc ok ρ a s g):∃ g6 d',d'=d∧Aae B s₀ g₀ s g6∧Den g6 (.ref acc) d'∧g6 cenv.locals=none:=by refine Adc C.obj fun o f1 f2 f3=>?_;exact⟨_,d,rfl,C.F.st.shut C.new.1 f1 C.new.2 f3.1,hd _ _ _ C.new.2 f2,(Gh.put_other fun e=>C.loc (.inl e.symm)).trans C.F.loc.2⟩
section
variable{α:Type}{e target iter:Expr}{ifs:List Expr}{rest:List Comprehension}{scope:Scope}{p:Pos}{new:Sem Value}{o0:Obj}{ok:Shared→Gh→Obj→α→Prop}{a0 out:α}{P:Shared→Gh→D→Prop}{x:D}{items:List D}
theorem AhC(O:B.Ok)(X:Cmp B A s₀ g₀ env ρ s g e scope iter new ok out P target ifs rest o0 a0 x items)(F:Fm B s₀ g₀ own env ρ s g){use:Option (Value→Sem Unit)}{Q EE:Value→Shared→Prop}
  (hfin:∀ s1 g1 cenv acc s5 g5,Aae B s g s1 g1→CS B s1 g1 (Aak scope.names) cenv acc (ok s1) (Aa7 scope ρ) out s5 g5→compPost B.M A EE use Q (.ref acc) cenv.locals (.ok .next) s5) :
  wpAny B.M A (comprehension e scope env p new false (eval iter env) use) Q EE s:=by
 refine Ahs (AgF X.hok) fun hk huniq _=>?_;have hclos:closureFor scope env=pure (clos env scope.names []):=(Arm (Q:=fun _ _=>True) (E:=fun _ _=>True) (A:=A) O F X.hok (fun _ _ _ _ _ _ _ _=>trivial)).1;refine wpAny_comprehension_free X.hcl (AdM X.hset) hclos hk (fun y hy hl=>by
  have:=huniq y.1 y.2 hy;rw[hl] at this;exact this) ?_
 refine X.hx.use fun v s1 g1 x1 hv=>?_;refine AdI O x1.inv hv X.hi fun oi x2 it2=>?_;refine X.hnew {s1 with heap:=s1.heap.push oi} _ _ ?_;have x3:=Aae.open (o:=o0) O x2.inv;have F3:=(((F.step x1).step x2).step x3);refine(Arm O F3 X.hok fun cenv s4 hsc k4 F4 c0 hc0 hcl=>?_).2;rw[hc0,hcl];have accN:s1.heap.get? (s1.heap.push oi).objs.size=none:=x2.ext.dead (AaM _);have acc3:((s1.heap.push oi).push o0).get? (s1.heap.push oi).objs.size=some o0:=Heap.get?_push_size _ X.hfr;have notl:¬ Loc cenv (Aak scope.names) (s1.heap.push oi).objs.size:=fun h=>h.elim (fun e=>by
   have:=F4.loc.1;rw[← e] at this;rw[this] at acc3;exact Aah acc3) fun h=>Aab h fun y hy e=>Akr (F4.own y hy) fun c u e1 _ e3 _=>by
   rw[e] at e1;cases e1;rw[e3] at acc3;exact Aah acc3
 have it4:AaQ s4.heap g1 s1.heap.objs.size items:=it2.keep g1.le_refl fun o e _=>k4 _ o (Heap.get?_push_of_some _ e);exact Aex (X.hst _ _ _) (congrArg (fun l=>l[0]?) X.hcl) it4 (X.hloop s1 g1 cenv _ _ s4 (F.st.trans x1) hsc ⟨F4.rebase (x2.trans x3),⟨_,k4 _ _ acc3,X.h0 _ _,X.hn⟩,⟨accN,x2.inv.fresh⟩,notl⟩ it4 (AaM _) x1.inv.fresh _ fun s5 g5 C5=>hfin s1 g1 cenv _ s5 g5 x1 C5)
theorem AfZ(O:B.Ok)(he:eval e env=comprehension e scope env p new false (eval iter env) none)(X:Cmp B A s₀ g₀ env ρ s g e scope iter new ok out P target ifs rest o0 a0 x items)
  (F:Fm B s₀ g₀ own env ρ s g):wpAny B.M A (eval e env) (fun v s'=>∃ g',Aae B s g s' g'∧∃ d,P s' g' d∧Den g' v d) (fun _ _=>False) s:=by
 rw[he];refine AhC O X F fun s1 g1 cenv acc s5 g5 x1 C5=>?_;refine Aab C5.F.vars fun m hm _=>?_;refine⟨m,hm,fun h6 hs6=>?_⟩;refine Aht (AgD hm) fun oL hL _ hnt _=>?_;refine Akr (X.hshut _ _ _ _ _ _ x1 C5) fun g6 d hP x6 hd hl=>?_;exact⟨g6,x1.trans (x6.turn O C5.F.loc.1 hl hL hnt hs6 rfl rfl),d,X.hP _ _ _ _ hP fun a vs n e=>(hs6.2 a fun q=>C5.F.notLoc e (fun _ h=>nomatch h) (fun _ _ h=>nomatch h) (.inl q)).trans e,hd⟩
end
theorem Ao0(O:B.Ok)(hh:A.handled=none){elt:Expr}{target iter:Expr}{ifs:List Expr}{rest:List Comprehension}{scope:Scope}{pos:Pos}{E:Rho→Expr→Option D}{items out:List D}
  (H:∀ s₁ g₁ own' cenv ρ',Aae B s₀ g₀ s₁ g₁→cenv.scope=relabel scope env→Snd B A s₁ g₁ own' cenv ρ' (E ρ')) (HT:∀ s₁ g₁ own' cenv ρ',Aae B s₀ g₀ s₁ g₁→cenv.scope=relabel scope env→An2 B A s₁ g₁ own' cenv ρ' (E ρ'))
  (hall:∀ c∈(⟨target,iter,ifs,0⟩ :: rest:List Comprehension),c.is_async=0)
  (hf:AaW (Aak scope.names) (Aaw scope env.scope) (fun ρ e=>Aa9 (E ρ) e) target ifs (AgW E (Aak scope.names) (Aaw scope env.scope) elt rest) (Aa7 scope ρ) items []=some out)
  (s1:Shared) (g1:Gh) (cenv:Env) (It acc:Addr) (s4:Shared) (x:Aae B s₀ g₀ s1 g1) (hsc:cenv.scope=relabel scope env) (C:CS B s1 g1 (Aak scope.names) cenv acc Aew (Aa7 scope ρ) [] s4 g1) (it:AaQ s4.heap g1 It items) (h0:s1.heap.get? It=none) (hg:g1 It=none)
  (R:Result→Shared→Prop) (hR:∀ s5 g5,CS B s1 g1 (Aak scope.names) cenv acc Aew (Aa7 scope ρ) out s5 g5→R (.ok .next) s5):codeAny B.M A (.compLoop (.ListComp elt (⟨target,iter,ifs,0⟩ :: rest) scope pos) 0 (.ref It) (.ref acc) cenv) R s4:=
 Arl O hh hall (fun ρ'=>H s1 g1 _ cenv ρ' x hsc) (fun ρ'=>HT s1 g1 _ cenv ρ' x hsc) rest 0 target iter ifs rfl C it h0 hg (by rw[hsc,← Abe];exact hf) fun s5 g5 _ C5 _=>hR s5 g5 C5
theorem AxZ(g:Gh):Aew g {cls:=.type "list",data:=.seq ([]:List Value).toArray} []:=⟨_,_,rfl,.nil,Nat.zero_le _⟩
theorem AhD{vs:Array Value}{n:Nat}:ADA {cls:=.type "list",data:=.seq vs n}:=⟨Aal rfl,AaH rfl (by decide),(fun _ e=>nomatch e),(fun _ e=>nomatch e)⟩
theorem An3(s:Shared)(Q EE:Value→Shared→Prop)(h:Q (.ref s.heap.objs.size) {s with heap:=s.heap.push {cls:=.type "list",data:=.seq ([]:List Value).toArray}}):wpAny B.M A (newList []) Q EE s:=wpAny_newList h (Nat.zero_le _)
theorem Ao1{out:List D}(g:Gh)(a:Addr)(o:Obj)(hg:g a=none)(h:Aew g o out):Den (g.put a o) (.ref a) (.list out):=by refine Adf h fun vs n z hvs _=>?_;subst z;exact .list (Gh.put_self ..) (hvs.mono (Gh.le_put _ hg))
theorem Arn{c:Comprehension}(h:c.is_async=0):c=⟨c.target,c.iter,c.ifs,0⟩:=by obtain⟨t,i,f,a⟩:=c;dsimp only at h;rw[h]
theorem AlG{l:List Comprehension}(h:l.all (fun c=>c.is_async == 0)=true):∀ c∈l,c.is_async=0:=fun c hc=>by simpa using List.all_eq_true.mp h c hc
theorem An4(O:B.Ok)(hh:A.handled=none){elt:Expr}{target iter:Expr}{ifs:List Expr}{rest:List Comprehension}{scope:Scope}{pos:Pos}{E:Rho→Expr→Option D}{x:D}{items out:List D}
  (H:∀ s₁ g₁ own' cenv ρ',Aae B s₀ g₀ s₁ g₁→cenv.scope=relabel scope env→Snd B A s₁ g₁ own' cenv ρ' (E ρ')) (HT:∀ s₁ g₁ own' cenv ρ',Aae B s₀ g₀ s₁ g₁→cenv.scope=relabel scope env→An2 B A s₁ g₁ own' cenv ρ' (E ρ'))
  (hall:∀ c∈(⟨target,iter,ifs,0⟩ :: rest:List Comprehension),c.is_async=0) (hset:Abu iter=true) (hok:Abq scope env.scope=true)
  (hx:Aaq B A s g (eval iter env) fun g' v=>Den g' v x) (hi:AbK x=some items)
  (hf:AaW (Aak scope.names) (Aaw scope env.scope) (fun ρ e=>Aa9 (E ρ) e) target ifs (AgW E (Aak scope.names) (Aaw scope env.scope) elt rest) (Aa7 scope ρ) items []=some out) :
  Cmp B A s₀ g₀ env ρ s g (.ListComp elt (⟨target,iter,ifs,0⟩ :: rest) scope pos) scope iter (newList []) (fun _=>Aew) out (fun _ _ d=>d=.list out) target ifs rest {cls:=.type "list",data:=.seq ([]:List Value).toArray} [] x items:=
 ⟨rfl,hset,hok,An3,fun _ _ _=>⟨rfl,rfl⟩,fun _=>AxZ,AhD,rfl,hx,hi,Ao0 O hh H HT hall hf,fun _ _ _ _ _ _ _ C=>C.shutG Ao1,fun _ _ _ _ h _=>h⟩
theorem Ao2(O:B.Ok)(hh:A.handled=none){elt:Expr}{c0:Comprehension}{rest:List Comprehension}{scope:Scope}{pos:Pos}{E:Rho→Expr→Option D}{x:D}{items out:List D}
  (H:∀ s₁ g₁ own' cenv ρ',Aae B s₀ g₀ s₁ g₁→cenv.scope=relabel scope env→Snd B A s₁ g₁ own' cenv ρ' (E ρ')) (HT:∀ s₁ g₁ own' cenv ρ',Aae B s₀ g₀ s₁ g₁→cenv.scope=relabel scope env→An2 B A s₁ g₁ own' cenv ρ' (E ρ'))
  (hall:(c0 :: rest).all (fun c=>c.is_async == 0)=true) (hset:Abu c0.iter=true) (hok:Abq scope env.scope=true)
  (hx:Aaq B A s g (eval c0.iter env) fun g' v=>Den g' v x) (hi:AbK x=some items)
  (hf:AaW (Aak scope.names) (Aaw scope env.scope) (fun ρ e=>Aa9 (E ρ) e) c0.target c0.ifs (AgW E (Aak scope.names) (Aaw scope env.scope) elt rest) (Aa7 scope ρ) items []=some out)
  (F:Fm B s₀ g₀ own env ρ s g):Aaq B A s g (eval (.ListComp elt (c0 :: rest) scope pos) env) fun g' v=>Den g' v (.list out):=by
 have hall':=AlG hall;have e:=Arn (hall' c0 (.head _));generalize c0.target=target,c0.iter=iter,c0.ifs=ifs at e hset hx hf;subst e;exact wpAny_mono (AfZ O (p:=firstIterPos (⟨target,iter,ifs,0⟩ :: rest) pos) rfl (An4 O hh H HT hall' hset hok hx hi hf) F) (fun v s' h=>Aab h fun g' x h=>Aab h fun d e hd=>⟨g',x,e ▸ hd⟩) fun _ _ h=>h
end
theorem AmX{E:Expr→Option D}{e:Expr}{b:Bool}(h:Aa9 E e=some b):∃ d,E e=some d∧Ab9 d=some b:=by
 unfold Aa9 at h
 split at h
 ·rename_i d e1;exact⟨d,e1,h⟩
 ·exact Aah h
theorem Afw{E:Expr→Option D}{e:Expr}{b:Bool}{d:D}(h:E e=some d)(h':Ab9 d=some b):Aa9 E e=some b:=by unfold Aa9;rw[h];exact h'
section
variable{B:Bs}{A:Around}{s₀ s s':Shared}{g₀ g g':Gh}{own:List Str}{env:Env}{ρ:Rho}{n:Nat}{T:Tb}
theorem AeQ{o:Expr}{name:Str}(h:Aks o=true):attributeBase o name env (eval o env)=eval o env:=by
 induction o using Expr.casesOn with
 |Call f a k p=>
  induction f using Expr.casesOn with
  |Name x q=>
   revert h
   induction a using List.casesOn with
   |nil=>
    induction k using List.casesOn with
    |nil=>exact Bool.noConfusion
    |cons=>exact fun _=>rfl
   |cons=>exact fun _=>rfl
  |_=>rfl
 |_=>rfl
theorem Aeb{ie:Expr}{o i:Value}(h:AeO ie=true):subscripted ie false o i=operate [o,i] (getItem o i):=by induction ie using PySem.Expr.casesOn<;>first|rfl|exact Bool.noConfusion h
section
variable{E:Expr→Option D}(H:Snd B A s₀ g₀ own env ρ E){d:D}
include H
theorem AAT(O:B.Ok){l r:Expr}{op:Operator}{p:Pos}(h:((E l).bind fun a=>(E r).bind fun b=>AmM op a b)=some d)(F:Fm B s₀ g₀ own env ρ s g):Aaq B A s g (eval (.BinOp l op r p) env) fun g' v=>Den g' v d:=by refine Aab (Aag h) fun a e1 h=>?_;refine Aab (Aag h) fun b e2 h=>?_;exact wpAny_BinOp ((H _ a s g e1 F).use fun va s1 g1 x1 ha=>(H _ b s1 g1 e2 (F.step x1)).use fun vb s2 g2 x2 hb=>(Arc O x2.inv (ha.mono x2.le) hb h).from (x1.trans x2))
theorem ADZ{x:Expr}{op:UnaryOp}{p:Pos}(h:((E x).bind fun a=>unD op a)=some d)(F:Fm B s₀ g₀ own env ρ s g):Aaq B A s g (eval (.UnaryOp op x p) env) fun g' v=>Den g' v d:=by refine Aab (Aag h) fun a e1 h=>?_;exact wpAny_UnaryOp ((H _ a s g e1 F).use fun va s1 g1 x1 ha=>(Aug x1.inv ha h).from x1)
theorem AAU(hA:AOk n A){l:Expr}{ops:List CmpOp}{rs:List Expr}{p:Pos}(h:ADW E l ops rs=some d)(F:Fm B s₀ g₀ own env ρ s g):Aaq B A s g (eval (.Compare l ops rs p) env) fun g' v=>Den g' v d:=by refine Aab (Aag h) fun op o1 h=>?_;refine Aab (Aag h) fun r o2 h=>?_;refine Aaz (Abg h) fun hns h=>?_;refine Aab (Aag h) fun a e1 h=>?_;refine Aab (Aag h) fun b e2 h=>?_;refine Aab (Aag h) fun c e3 h=>?_;rw[AdK o1,AdK o2,← sj h];exact wpAny_Compare1 ((H _ a s g e1 F).use fun va s1 g1 x1 ha=>(H _ b s1 g1 e2 (F.step x1)).use fun vb s2 g2 x2 hb=>(AlD hA x2.inv (ha.mono x2.le) hb e3).use fun v s3 g3 x3 hv=>⟨g3,(x1.trans x2).trans x3,by rw[hv];exact .bool⟩) (AhB hns)
theorem Aw7{es:List Expr}{ds:List D}(O:B.Ok)(e1:evL E es=some ds)(hl:ds.length≤1000000)(F:Fm B s₀ g₀ own env ρ s g){p:Pos}{Q:List Value→Shared→Prop}
  (hq:∀ vs s1 g1,Aae B s g s1 g1→Aar g1 vs.toArray.toList ds→vs.length≤sizeLine→Q vs s1):wpAny B.M A (spliced (backTo p (starEach es env))) Q (fun _ _=>False) s:=by
 rw[AaC (AcQ e1)];exact(AbV H e1 F).use fun vs s1 g1 x1 hvs=>hq vs s1 g1 x1 hvs (by rw[hvs.length];exact AaO hl)
theorem Auk(O:B.Ok){v ie:Expr}{p:Pos}(h:Ari E v ie=some d)(F:Fm B s₀ g₀ own env ρ s g):Aaq B A s g (eval (.Subscript v ie p) env) fun g' v=>Den g' v d:=by
 induction ie using Expr.casesOn with
 |Slice l u st q=>
  refine Aab (Aag (show(E v).bind _=some d from h)) fun a e1 h=>?_;refine Aab (Aag h) fun lo e2 h=>?_;refine Aab (Aag h) fun hi e3 h=>?_;refine Aab (Aag h) fun st e4 h=>?_;refine Subscript_ ((H _ a s g e1 F).use fun o s1 g1 x1 ho=>?_);have F1:=F.step x1;refine wpAny_Slice ((AfY H e2 F1).use fun vl s2 g2 x2 pl=>(AfY H e3 (F1.step x2)).use fun vu s3 g3 x3 pu=>(AfY H e4 ((F1.step x2).step x3)).use fun vst s4 g4 x4 ps=>?_);exact wpAny_mono (AmS O x4.inv (((ho.mono x2.le).mono x3.le).mono x4.le) pl pu ps h) (fun v s5 ⟨g5,x5,hd⟩=>⟨g5,(((x1.trans x2).trans x3).trans x4).trans x5,hd⟩) fun _ _ h=>h
 |_=>exact Aah h
theorem AAV(O:B.Ok){v i:Expr}{p:Pos}(h:AFh E v i=some d)(F:Fm B s₀ g₀ own env ρ s g):Aaq B A s g (eval (.Subscript v i p) env) fun g' v=>Den g' v d:=by
 by_cases hns:AeO i=true
 ·refine Aab (Aag ((if_pos hns).symm.trans h)) fun a e1 h=>?_;refine Aab (Aag h) fun b e2 h=>?_;exact Subscript_ ((H _ a s g e1 F).use fun o s1 g1 x1 ho=>(H _ b s1 g1 e2 (F.step x1)).use fun i s2 g2 x2 hi=>(AoU x2.inv (ho.mono x2.le) hi h (Aeb hns)).from (x1.trans x2))
 ·exact Auk H O ((if_neg hns).symm.trans h) F
theorem Ax0(K:AbO B n T s₀ g₀)(hA:AOk n A){o:Expr}{name:Str}{apos p:Pos}{args:List Expr}(h:AAR T E o name apos args p=some d)(F:Fm B s₀ g₀ own env ρ s g):Aaq B A s g (eval (.Call (.Attribute o name apos) args [] p) env) fun g' v=>Den g' v d:=by
 refine Aaz (Abg h) fun hc h=>?_;refine Aab (Aag h) fun dd e1 h=>?_;refine Aab (Aag h) fun ty e2 h=>?_;refine Aab (Aag h) fun id e3 h=>?_;refine Aab (Aag h) fun FF e4 h=>?_;refine Aab (Aag h) fun ds e5 h=>?_;refine Ahs (K.meth _ _ _ e3) fun pa slot hty=>?_;have hb:backTo p (starEach args env)=_:=AaC (AcQ e5);refine wpAny_Call_method (AeQ hc.1) ?_ hc.2.1 pa slot hty ((H _ dd s g e1 F).use fun ov s1 g1 x1 ho=>?_)
 ·rw[hb];exact Bool.and_eq_true_iff.mpr ⟨Bool.and_eq_true_iff.mpr ⟨by rw[List.all_map];exact List.all_eq_true.mpr fun _ _=>rfl,rfl⟩,decide_eq_true (Nat.lt_succ_of_lt hc.2.2)⟩
 ·refine Aaz (Arj x1.inv ho e2) fun t1 t2=>?_;refine⟨t1,t2,?_⟩;rw[hb];exact(Ab1 (P:=fun g' vs=>Aar g' vs ds) (.inl ⟨_,rfl⟩) (by simp) (AbV H e5 (F.step x1)) fun vs s2 g2 x2 hvs=>(K.app _ _ e4).run A s2 g2 _ _ d hA ((F.st.trans x1).trans x2) (.cons (ho.mono x2.le) hvs) h).from x1
theorem Ax1(K:AbO B n T s₀ g₀)(hA:AOk n A){x:Str}{q p:Pos}{args:List Expr}(h:((E (.Name x q)).bind fun d=>(AxY d).bind fun v=>(T.app v).bind fun F=>(evL E args).bind fun ds=>F ds)=some d)(F:Fm B s₀ g₀ own env ρ s g):Aaq B A s g (eval (.Call (.Name x q) args [] p) env) fun g' v=>Den g' v d:=by
 refine Aab (Aag h) fun dd e1 h1=>?_;refine Aab (Aag h1) fun v e2 h2=>?_;refine Aab (Aag h2) fun FF e4 h3=>?_;refine Aab (Aag h3) fun ds e5 h4=>?_
 obtain rfl:=AoZ e2
 refine wpAny_Call_NameR ((H _ _ s g e1 F).useV fun s1 g1 x1=>?_);rw[AaC (AcQ e5)];refine(Ab1 (P:=fun g' vs=>Aar g' vs ds) (((K.app _ _ e4).step (F.st.trans x1)).kp) (by simp) (AbV H e5 (F.step x1)) fun vs s2 g2 x2 hvs=>?_).from x1
 exact(K.app _ _ e4).run A s2 g2 _ _ d hA ((F.st.trans x1).trans x2) hvs h4
end
theorem Ao3{g:Gh}{v:Value}{d:D}(h:AFg v=some d):Den g v d:=by induction v using Value.casesOn<;>first|exact sj h ▸ .int|exact sj h ▸ .val
theorem Ax2(O:B.Ok)(K:AbO B n T s₀ g₀){x:Str}{p:Pos}{d:D}(h:AxX T env.scope ρ x=some d)(F:Fm B s₀ g₀ own env ρ s g):Aaq B A s g (eval (.Name x p) env) fun g' v=>Den g' v d:=by
 refine Aaz (Abg h) fun hok h=>?_
 cases e1:ρ.lookup x with
 |some d'=>rw[e1] at h;exact F.name (e1.trans h) hok
 |none=>
  rw[e1] at h;refine Aaz (Abg h) fun hk h=>?_;refine Aab (Aag h) fun v e1 h=>?_;refine(F.gname O hk (K.glob _ _ e1) hok).mono fun g' a e=>?_;subst e;exact Ao3 h
theorem AlH(O:B.Ok)(K:AbO B n T s₀ g₀)(hA:AOk n A){ih:Scope→Rho→Expr→Option D}
  (H':∀ s₀ g₀,AbO B n T s₀ g₀→∀ own env ρ,Snd B A s₀ g₀ own env ρ (ih env.scope ρ)) (HT':∀ s₀ g₀,AbO B n T s₀ g₀→∀ own env ρ,An2 B A s₀ g₀ own env ρ (ih env.scope ρ)) :
  Snd B A s₀ g₀ own env ρ (AeV T ih env.scope ρ):=by
 intro e d s g h F;have H:=H' s₀ g₀ K own env ρ;unfold AeV at h
 cases hs:(if Ahw e=true then T.spec env.scope ρ e else none) with
 |some d'=>
  rw[hs] at h;exact K.spec A own env ρ e d s g hA ((Abg hs).2.trans h) F
 |none=>
 rw[hs] at h;clear hs;induction e using Expr.casesOn with
 |Constant c k p=>exact AmR F.inv h
 |Name x p=>exact Ax2 O K h F
 |BinOp l op r p=>exact AAT H O h F
 |UnaryOp op x p=>exact ADZ H h F
 |BoolOp op vs pos=>
  show wpAny B.M A (boolOp pos op (evalEach vs env)) _ _ s;rw[AgE];exact Aev H h F
 |Compare l ops rs p=>exact AAU H hA h F
 |IfExp t a b p=>
  refine Aab (Aag h) fun c e1 h=>?_;refine IfExp_ ((HT' s₀ g₀ K own env ρ _ c s g e1 F).use fun r s1 g1 x1 hr=>?_);subst hr;induction r using Bool.casesOn with
  |true=>exact(H _ d s1 g1 h (F.step x1)).from x1
  |false=>exact(H _ d s1 g1 h (F.step x1)).from x1
 |Tuple es k p=>
  refine Aab (Aag h) fun ds e1 h=>?_;refine Aaz (Abg h) fun hl h=>?_;rw[← sj h];refine Tuple_ (Aw7 H O e1 hl F fun vs s1 g1 x1 hvs hz=>wpAny_newTuple ?_ hz);refine Aab (Adg O x1.inv (vs:=vs.toArray) hvs) fun g2 x2 hd=>?_;exact⟨g2,x1.trans x2,hd⟩
 |List es p=>
  refine Aab (Aag h) fun ds e1 h=>?_;refine Aaz (Abg h) fun hl h=>?_;rw[← sj h];refine List_ (Aw7 H O e1 hl F fun vs s1 g1 x1 hvs hz=>wpAny_newList ?_ hz);refine Aab (Ac0 O x1.inv (vs:=vs.toArray) hvs) fun g2 x2 hd=>?_;exact⟨g2,x1.trans x2,hd⟩
 |Subscript v i p=>exact(Auj h).elim (fun h=>AAV H O h F) fun h=>K.spec A own env ρ _ d s g hA h F
 |Call f args kws p=>
  induction kws using List.casesOn with
  |cons _ _=>exact Aah h
  |nil=>
  induction f using Expr.casesOn with
  |Attribute o name apos=>exact Ax0 H K hA h F
  |Name x q=>exact Ax1 H K hA h F
  |_=>exact Aah h
 |ListComp elt gs sc' p=>
  induction gs using List.casesOn with
  |nil=>exact Aah h
  |cons c0 rest=>
   refine Aaz (Abg (show(if _ then _ else none)=some d from h)) fun hc h=>?_;refine Aab (Aag h) fun x e1 h=>?_;refine Aab (Aag h) fun items e2 h=>?_;refine Aab (Aag h) fun out e3 h=>?_;rw[← sj h];exact Ao2 O hA.handled (E:=ih (Aaw _ env.scope)) (fun s₁ g₁ own' cenv ρ' xx hsc=>by have:=H' s₁ g₁ (K.step xx) own' cenv ρ';rw[hsc,← Abe] at this;exact this)
    (fun s₁ g₁ own' cenv ρ' xx hsc=>by have:=HT' s₁ g₁ (K.step xx) own' cenv ρ';rw[hsc,← Abe] at this;exact this) hc.1 hc.2.1 hc.2.2 (H _ _ _ _ e1 F) e2 e3 F
 |_=>exact Aah h
theorem AAW{o:Option D}{d:D}(h:(o.bind fun a=>unD .Not a)=some d){b:Bool}(hb:Ab9 d=some b):∃ a c,o=some a∧Ab9 a=some c∧b=!c:=by refine Aab (Aag h) fun a e h=>?_;refine Aab (Aag h) fun c e2 h=>?_;exact⟨a,c,e,e2,by rw[← sj h] at hb;exact(sj hb).symm⟩
section
variable{E:Expr→Option D}{d:D}{b:Bool}
theorem An5{e:Expr}(H:Snd B A s₀ g₀ own env ρ E)(hd:E e=some d)(hb:Ab9 d=some b)(F:Fm B s₀ g₀ own env ρ s g)(he:isTrue e env (eval e env)=(do let v ← eval e env;standAt e.pos;holding [v] (truthy v))):Aaq B A s g (isTrue e env (eval e env)) fun _ r=>r=b:=
 wpAny_isTrue_value ((H e d s g hd F).use fun v s1 g1 x1 hv=>(Ae1 x1.inv hv hb).from x1) he
theorem AAX(H:Snd B A s₀ g₀ own env ρ E)(hA:AOk n A){l:Expr}{ops:List CmpOp}{rs:List Expr}{p:Pos}(h:ADW E l ops rs=some d)(hb:Ab9 d=some b)(F:Fm B s₀ g₀ own env ρ s g):Aaq B A s g (isTrue (.Compare l ops rs p) env (eval (.Compare l ops rs p) env)) fun _ r=>r=b:=by refine Aab (Aag h) fun op o1 h=>?_;refine Aab (Aag h) fun r o2 h=>?_;refine Aaz (Abg h) fun hns h=>?_;refine Aab (Aag h) fun a e1 h=>?_;refine Aab (Aag h) fun c e2 h=>?_;refine Aab (Aag h) fun q e3 h=>?_;rw[AdK o1,AdK o2];rw[← sj h] at hb;rw[← sj hb];refine wpAny_isTrue_Compare1 ((H _ a s g e1 F).use fun va s1 g1 x1 ha=>(H _ c s1 g1 e2 (F.step x1)).use fun vb s2 g2 x2 hb=>(AlD hA x2.inv (ha.mono x2.le) hb e3).use fun v s3 g3 x3 hv=>?_) (AhB hns);rw[hv];exact wpAny_truthy_bool ⟨g3,(x1.trans x2).trans x3,rfl⟩
end
theorem Aro(O:B.Ok)(K:AbO B n T s₀ g₀)(hA:AOk n A){ih:Scope→Rho→Expr→Option D}
  (H':∀ s₀ g₀,AbO B n T s₀ g₀→∀ own env ρ,Snd B A s₀ g₀ own env ρ (ih env.scope ρ)) (HT':∀ s₀ g₀,AbO B n T s₀ g₀→∀ own env ρ,An2 B A s₀ g₀ own env ρ (ih env.scope ρ)) :
  An2 B A s₀ g₀ own env ρ (AeV T ih env.scope ρ):=by
 intro e b s g h F;have HT:=HT' s₀ g₀ K own env ρ;refine Aab (AmX h) fun d hd hb=>?_;clear h;have H:=AlH (own:=own) (env:=env) (ρ:=ρ) O K hA H' HT';induction e using Expr.casesOn with
 |UnaryOp op x pos=>
  induction op using UnaryOp.casesOn with
  |Not=>
   (refine Adf (AAW (show((ih env.scope ρ x).bind fun a=>unD .Not a)=some d from hd) hb) fun a c e1 e2 q1=>?_;subst q1)
   exact wpAny_isTrue_Not ((HT x c s g (Afw e1 e2) F).use fun r s1 g1 x1 hr=>⟨g1,x1,congrArg (!·) hr⟩)
  |_=>exact An5 H hd hb F rfl
 |BoolOp op vs pos=>exact wpAny_isTrue_BoolOp (AdL HT hd hb F)
 |IfExp t x y pos=>
  refine Aab (Aag (show((Aa9 (ih env.scope ρ) t).bind (ifE (ih env.scope ρ) x y))=some d from hd)) fun c e1 hd=>?_;refine isTrue_IfExp ((HT _ c s g e1 F).use fun r s1 g1 x1 hr=>?_);subst hr;induction r using Bool.casesOn with
  |true=>exact(HT _ b s1 g1 (Afw hd hb) (F.step x1)).from x1
  |false=>exact(HT _ b s1 g1 (Afw hd hb) (F.step x1)).from x1
 |Compare l ops cs pos=>exact AAX (H' s₀ g₀ K own env ρ) hA hd hb F
 |_=>exact An5 H hd hb F rfl
theorem Adx(O:B.Ok)(hA:AOk n A):∀ k,(∀ s₀ g₀,AbO B n T s₀ g₀→∀ own env ρ,Snd B A s₀ g₀ own env ρ (ev T k env.scope ρ))∧(∀ s₀ g₀,AbO B n T s₀ g₀→∀ own env ρ,An2 B A s₀ g₀ own env ρ (ev T k env.scope ρ))
 |0=>⟨fun _ _ _ _ _ _ _ _ _ _ h _=>by simp [ev] at h,fun _ _ _ _ _ _ _ _ _ _ h _=>by simp [ev,Aa9] at h⟩
 |k+1=>⟨fun _ _ K _ _ _=>AlH O K hA (Adx O hA k).1 (Adx O hA k).2,fun _ _ K _ _ _=>Aro O K hA (Adx O hA k).1 (Adx O hA k).2⟩
theorem AaD(O:B.Ok)(K:AbO B n T s₀ g₀)(hA:AOk n A)(k:Nat):(∀ own env ρ,Snd B A s₀ g₀ own env ρ (ev T k env.scope ρ))∧(∀ own env ρ,An2 B A s₀ g₀ own env ρ (ev T k env.scope ρ)):=
 ⟨(Adx O hA k).1 s₀ g₀ K,(Adx O hA k).2 s₀ g₀ K⟩
end
noncomputable def Ax3(k:Rho→Option Res):Res→Option Res
 |.next ρ=>k ρ
 |.cont ρ=>k ρ
 |.brk ρ=>some (.next ρ)
 |.ret d=>some (.ret d)
noncomputable def AmY(own:List Str)(sc:Scope)(target:Expr)(body:Rho→Option Res):List D→Rho→Option Res
 |[],ρ=>some (.next ρ)
 |d :: ds,ρ=>(Acy own sc target d ρ).bind fun ρ₁=>(body ρ₁).bind (Ax3 (AmY own sc target body ds))
noncomputable def whB(r:Option Res)(k:Rho→Option Res)(ρ:Rho):Bool→Option Res
 |false=>some (.next ρ)
 |true=>r.bind (Ax3 k)
noncomputable def An6(test:Rho→Option Bool)(body:Rho→Option Res):Nat→Rho→Option Res
 |0,_=>none
 |n+1,ρ=>(test ρ).bind (whB (body ρ) (An6 test body n) ρ)
noncomputable def itE(e:Expr)(i:Nat):Expr:=(ep e).l.getD i e
noncomputable abbrev AD0(sc:Scope)(t v:Expr):Prop:=
 Aq8 t=true∧(ep t).l.length=2∧Adu (itE t 0)=true∧Adu (itE t 1)=true∧Aq8 v=true∧(ep v).l.length=2∧sc.kind=.function∧sc.names.lookup (An0 (itE t 0))=some .local∧sc.names.lookup (An0 (itE t 1))=some .local ∧
  ((ep (itE t 0)).p.line == (ep (itE t 1)).p.line)=true∧An0 (itE t 0)≠An0 (itE t 1)∧constantsAlone 8 (itE v 0)=false∧foldedForSure 8 (itE v 0)=false∧Abt (itE v 0)=true∧Abt (itE v 1)=true
noncomputable def Ax4(sc:Scope)(t v:Expr):Bool:=decide (AD0 sc t v)
noncomputable def emp(l:List Stmt)(r:Option Res):Option Res:=match l with
 |[]=>r
 |_ :: _=>none
noncomputable def AFi(E:Expr→Option D):Option Expr→Option Res
 |some e=>(E e).bind fun d=>some (.ret d)
 |none=>some (.ret .none)
noncomputable def AFj(E:Expr→Option D)(own:List Str)(sc:Scope)(ρ:Rho)(ts:List Expr)(value:Expr):Option Res:=
 (one ts).bind fun t=>(E value).bind fun d=>if (Adu t=true∧(AgA value=false∨ADQ value=true))∨(Adu t=false∧AgA value=false∧AxU value=false)∨Ax4 sc t value=true then (Acy own sc t d ρ).bind fun ρ'=>some (.next ρ') else none
noncomputable def AFk(op:Operator)(a b:D):Option D:=match a with
 |.int i=>Acf b fun j=>AmM op (.int i) (.int j)
 |.str i=>AdH b fun j=>AmM op (.str i) (.str j)
 |_=>none
noncomputable def AFl(E:Expr→Option D)(own:List Str)(sc:Scope)(ρ:Rho)(t:Expr)(op:Operator)(value:Expr):Option Res:=
 if Adu t=true∧AbA (ep t).x=true∧okT own sc (ep t).x=true then (ρ.lookup (ep t).x).bind fun a=>(E value).bind fun b=>(AFk op a b).bind fun d=>some (.next (((ep t).x,d) :: ρ)) else none
noncomputable def ifR(ih:List Stmt→Option Res)(a b:List Stmt):Bool→Option Res
 |true=>ih a
 |false=>ih b
noncomputable def AFm(E:Rho→Expr→Option D)(own:List Str)(sc:Scope)(ih:Rho→List Stmt→Option Res)(ρ:Rho)(target iter:Expr)(body:List Stmt):Option Res:=
 if Abu iter=true then (E ρ iter).bind fun x=>(AbK x).bind fun items=>AmY own sc target (fun ρ=>ih ρ body) items ρ else none
noncomputable def AFQ(r:Option Res)(orelse fin:List Stmt):List ExceptHandler→Option Res
 |[]=>none
 |_ :: _=>emp orelse (emp fin r)
noncomputable def An7(E:Rho→Expr→Option D)(own:List Str)(sc:Scope)(fuel:Nat)(ih:Rho→List Stmt→Option Res)(ρ:Rho):Stmt→Option Res
 |.Return e _=>AFi (E ρ) e
 |.Pass _=>some (.next ρ)
 |.Break _=>some (.brk ρ)
 |.Continue _=>some (.cont ρ)
 |.Assign ts value _=>AFj (E ρ) own sc ρ ts value
 |.AugAssign t op value _=>AFl (E ρ) own sc ρ t op value
 |.If test body orelse _=>(Aa9 (E ρ) test).bind (ifR (ih ρ) body orelse)
 |.While test body orelse _=>emp orelse (An6 (fun ρ=>Aa9 (E ρ) test) (fun ρ=>ih ρ body) fuel ρ)
 |.For target iter body orelse _=>emp orelse (AFm E own sc ih ρ target iter body)
 |.Try body hs orelse fin _=>AFQ (ih ρ body) orelse fin hs
 |_=>none
theorem Afx{l:List Stmt}{x:Option Res}{r:Res}(h:emp l x=some r):l=[]∧x=some r:=by
 induction l using List.casesOn with
 |nil=>exact⟨rfl,h⟩
 |cons _ _=>exact Aah h
noncomputable def orR(a:Option Res)(b:Option Res):Option Res:=match a with
 |some r=>some r
 |none=>b
noncomputable def AFn(k:Rho→Option Res):Res→Option Res
 |.next ρ=>k ρ
 |r=>some r
noncomputable def ex(X:Rho→Stmt→Option Res)(E:Rho→Expr→Option D)(own:List Str)(sc:Scope):Nat→Rho→List Stmt→Option Res
 |0,_,_=>none
 |_+1,ρ,[]=>some (.next ρ)
 |n+1,ρ,st :: rest=>(orR (X ρ st) (An7 E own sc n (ex X E own sc n) ρ st)).bind (AFn fun ρ'=>ex X E own sc n ρ' rest)
section
variable{B:Bs}{A:Around}{s₀ s s':Shared}{g₀ g g':Gh}{own:List Str}{env:Env}{ρ:Rho}
theorem Aez{value t:Expr}{line:Nat}(h:AgA value=false):swapsWith value (some t) line env=pure false:=by
 revert h;induction value using Expr.casesOn<;>first|exact fun _=>rfl|exact Bool.noConfusion
theorem AgX{t value:Expr}(h:AxU value=false):swappedStores [t] value env=pure none:=by
 induction t using Expr.casesOn with
 |Tuple l k p=>revert h;induction value using Expr.casesOn<;>first|exact fun _=>rfl|exact Bool.noConfusion
 |List l p=>revert h;induction value using Expr.casesOn<;>first|exact fun _=>rfl|exact Bool.noConfusion
 |_=>rfl
theorem AbL{x:Str}{p:Pos}{value:Expr}:swappedStores [.Name x p] value env=pure none:=rfl
end
section
variable{B:Bs}{A:Around}{s₀ s s':Shared}{g₀ g g':Gh}{own:List Str}{env:Env}{ρ:Rho}{n:Nat}{T:Tb}
theorem Akz{sc:Scope}{t:Expr}{d:D}{ρ':Rho}(h:Acy own sc t d ρ=some ρ'):assignEach [t] env=[(false,assign t env)]:=by
 replace h:=AhA h
 induction h using BT.casesOn<;>rfl
theorem AgG(O:B.Ok)(hh:A.handled=none){t value:Expr}{pos:Pos}{d:D}{ρ':Rho}{E:Expr→Option D}(H:Snd B A s₀ g₀ own env ρ E)(hv:E value=some d)(hb:Acy own env.scope t d ρ=some ρ')
  (h1:AgA value=false) (h2:swappedStores [t] value env=pure none) (F:Fm B s₀ g₀ own env ρ s g):AgV B A s₀ g₀ own env s g (exec (.Assign [t] value pos) env) (.next ρ'):=by
 refine wpAny_Assign_stores ?_ (Aez h1) h2;refine(H value d s g hv F).use fun v s1 g1 x1 hd=>?_;rw[Akz hb];show wpAny _ _ (assign t env v) _ _ _;exact Aca O hh (F.step x1) hd hb fun s2 F2 k2=>⟨g1,AcP.trans x1.lets (Oth.lets k2),rfl,F2⟩
theorem fm2{f:Expr→Option Str}{x y:Expr}{a b:Str}(h1:f x=some a)(h2:f y=some b):[x,y].filterMap f=[a,b]:=by rw[List.filterMap_cons,h1];dsimp only;rw[List.filterMap_cons,h2];rfl
theorem AFR{f:Expr→Bool}{x y:Expr}(h1:f x=false)(h2:f y=false):¬ [x,y].any f=true:=by rw[List.any_cons,List.any_cons,h1,h2];exact Bool.noConfusion
theorem AFo{f:Expr→Bool}{x y:Expr}(h1:f x=false):¬ [x,y].all f=true:=by rw[List.all_cons,h1];exact Bool.noConfusion
theorem AD1{a b:Str}(h:a≠b):[a,b].eraseDups.length=2:=by
 have hne:(b == a)=false:=beq_eq_false_iff_ne.mpr (Ne.symm h);rw[List.eraseDups_cons];rw[List.filter_cons_of_pos (by rw[hne];rfl)]
 rfl
theorem AmZ{a b:Str}{pa pb:Pos}{k1 k2:Nat}{p1 p2:Pos}{x y:Expr}(hk:env.scope.kind=.function)(ha:env.scope.names.lookup a=some .local)(hb:env.scope.names.lookup b=some .local)(hl:(pa.line == pb.line)=true)(hab:a≠b)
  (h1:constantsAlone 8 x=false) (h2:foldedForSure 8 x=false) (h3:Abt x=true) (h4:Abt y=true) :
  swappedStores [.Tuple [.Name a pa,.Name b pb] k1 p1] (.Tuple [x,y] k2 p2) env=pure (some [a,b]):=by
 have hb':env.blockKind=.function:=by unfold Env.blockKind;rw[hk];rfl
 refine Eq.trans (if_neg ?_) (Eq.trans (if_neg (AFR ?_ ?_)) (Eq.trans (if_neg ?_) (Eq.trans (if_neg (AFo h2)) (Eq.trans (if_neg (AFo h1)) ?_))))
 ·rw[hb'];exact Bool.noConfusion
 ·revert h3;induction x using Expr.casesOn<;>first|exact fun _=>rfl|exact Bool.noConfusion
 ·revert h4;induction y using Expr.casesOn<;>first|exact fun _=>rfl|exact Bool.noConfusion
 all_goals (rw[fm2 (a:=a) (b:=b) ?_ ?_])
 ·rw[AD1 hab];exact Bool.noConfusion
 all_goals (dsimp only;exact if_pos (by unfold Env.kindOf;first|(rw[ha];exact beq_self_eq_true _)|(rw[hb];show(pb.line == pa.line)=true;rw[eq_of_beq hl];exact beq_self_eq_true _)))
theorem Aar.two{g:Gh}{vs:List Value}{ds:List D}(h:Aar g vs ds)(hl:ds.length=2):∃ v1 v2 d1 d2,vs=[v1,v2]∧ds=[d1,d2]∧Den g v1 d1∧Den g v2 d2:=by
 have e:=Auc (d:=D.none) hl;rw[e] at h;induction h using Aar.consE with|cons q1 h=>?_
 induction h using Aar.consE with|cons q2 h=>?_
 induction h using Aar.nilE;exact⟨_,_,_,_,rfl,e,q1,q2⟩
theorem BN.length{sc:Scope}{es:List Expr}{ds:List D}{ρ ρ':Rho}(h:BN own sc es ds ρ ρ'):ds.length=es.length:=by
 induction h with
 |nil=>rfl
 |cons _ _ ih=>exact congrArg (·+1) ih
theorem Aul{sc:Scope}{a b:Str}{pa pb p:Pos}{k:Nat}{d:D}{ρ':Rho}(h:Acy own sc (.Tuple [.Name a pa,.Name b pb] k p) d ρ=some ρ'):∃ ds,d=.tup ds∧ds.length=2∧∀ d1 d2,ds=[d1,d2]→ρ'=(b,d2) :: (a,d1) :: ρ:=by refine Aab (Aag (show(AxW d).bind _=some ρ' from h)) fun ds e h=>?_;refine⟨ds,Aku e,(AfW h).length,fun d1 d2 e=>?_⟩;subst e;refine Aaz (Abg h) fun _ h=>?_;refine Aaz (Abg h) fun _ h=>?_;exact(sj h).symm
theorem AD2{a b:Str}{d1 d2:D}(hab:a≠b)(z:Str)(dz:D)(hz:((b,d2) :: (a,d1) :: ρ).lookup z=some dz):((a,d1) :: (b,d2) :: ρ).lookup z=some dz:=by
 rw[Aaf,Aaf] at hz ⊢
 by_cases za:z=a
 ·subst za;rw[if_neg hab,if_pos rfl] at hz;rw[if_pos rfl];exact hz
 ·rw[if_neg za] at hz ⊢;exact hz
theorem Am0(O:B.Ok)(hh:A.handled=none){t value:Expr}{pos:Pos}{d:D}{ρ':Rho}{E:Expr→Option D}(H:Snd B A s₀ g₀ own env ρ E)(hv:E value=some d)(hb:Acy own env.scope t d ρ=some ρ')
  (h2:Ax4 env.scope t value=true) (F:Fm B s₀ g₀ own env ρ s g):AgV B A s₀ g₀ own env s g (exec (.Assign [t] value pos) env) (.next ρ'):=by
 refine ADL (of_decide_eq_true h2) fun c1 c2 c3 c4 c5 c6 hk ha hbb hl hab h1 h3 h4 h5=>?_;have et:t=.Tuple [.Name (An0 (itE t 0)) (ep (itE t 0)).p,.Name (An0 (itE t 1)) (ep (itE t 1)).p] (ep t).n (ep t).p:=(AxV c1).trans (congrArg (fun l=>Expr.Tuple l (ep t).n (ep t).p) ((Auc (d:=t) c2).trans (Ahx (AgB c3) (AgB c4))));have ev:value=.Tuple [itE value 0,itE value 1] (ep value).n (ep value).p:=(AxV c5).trans (congrArg (fun l=>Expr.Tuple l (ep value).n (ep value).p) (Auc (d:=value) c6));clear h2;generalize itE value 0=x,itE value 1=y,(ep value).n=k2,(ep value).p=p2 at ev h1 h3 h4 h5;generalize An0 (itE t 0)=a,An0 (itE t 1)=b,(ep (itE t 0)).p=pa,(ep (itE t 1)).p=pb,(ep t).n=k1,(ep t).p=p1 at et ha hbb hl hab;clear c1 c2 c3 c4 c5 c6;subst et;refine Adc (Aul hb) fun ds ed hl2 eρ=>?_;subst ed;refine wpAny_bind (wpAny_standAt ?_);rw[show swapsWithSole [Expr.Tuple [.Name a pa,.Name b pb] k1 p1] value pos.line env=pure false by rw[ev];rfl];refine wpAny_bind (wpAny_pure ?_);rw[if_neg (fun e=>Bool.noConfusion e)];refine wpAny_bind ((H _ _ s g hv F).use fun v s1 g1 x1 hd=>?_);rw[ev,AmZ hk ha hbb hl hab h1 h3 h4 h5];refine wpAny_bind (wpAny_pure ?_);induction hd using Den.tupE with|tup e1 e2=>?_
 refine Aw4 (e2.two hl2) fun v1 v2 d1 d2 ev1 eds q1 q2=>?_;rename_i ad vs nn;show wpAny _ _ (rule "assign.swapped-stores" >>= fun _=>unpackItems (.ref ad) 2 none >>= fun items=>assignInOrder ([b,a].map fun n=>bindName env n) items.reverse >>= fun _=>pure Flow.next) _ _ _;have hsz:vs.size=2:=by rw[← Array.length_toList,ev1];rfl
 refine wpAny_bind (wpAny_rule (wpAny_bind ?_));rw[← hsz];refine wpAny_unpackItems_tuple hh ⟨_,x1.inv.get e1,rfl,_,rfl⟩ fun h' hx=>?_;rw[ev1];have keep:∀ c o,s1.heap.get? c=some o→h'.get? c=some o:=fun c o e=>hx c o (Nat.ne_of_lt (Heap.lt_size e)) e;have x2:Aae B s1 g1 {s1 with heap:=h'} g1:=⟨g1.le_refl,x1.inv.keeps O keep rfl rfl,.of keep,fun _ _ e=>.inl e⟩;refine wpAny_bind (wpAny_bind (wpAny_holding (wpAny_bindName (((F.step x1).step x2).store O (.inl hbb) q2 fun s3 F3 k3=>?_))));refine wpAny_bind (wpAny_holding (wpAny_bindName (F3.store O (.inl ha) q1 fun s4 F4 k4=>wpAny_pure (wpAny_pure ⟨g1,AcP.trans (AcP.trans x1.lets x2.lets) (AcP.trans (Oth.lets k3) (Oth.lets k4)),rfl,?_⟩))));rw[eρ d1 d2 eds];exact F4.weaken (AD2 hab)
end
section
variable{B:Bs}{A:Around}{s₀ s s':Shared}{g₀ g g':Gh}{own:List Str}{env:Env}{ρ:Rho}{n:Nat}{T:Tb}
theorem Fm.locLive(F:Fm B s₀ g₀ own env ρ s g){a:Addr}(h:Loc env own a):∃ o,s.heap.get? a=some o:=by
 rcases h with rfl|⟨x,hx,e⟩
 ·refine Aab F.vars fun m hm _=>?_;refine Aab (AgD hm) fun o ho _=>?_;exact⟨o,ho⟩
 ·refine Adf (F.own x hx) fun c v e1 q1 _=>?_;refine Aab q1 fun o ho _=>?_;rw[e] at e1;cases e1;exact⟨o,ho⟩
section
variable{α:Type}{e target iter:Expr}{ifs:List Expr}{rest:List Comprehension}{scope:Scope}{pe:Pos}{new:Sem Value}{o0:Obj}{ok:Shared→Gh→Obj→α→Prop}{a0 out:α}{P:Shared→Gh→D→Prop}{xx:D}{items:List D}
theorem AeA(O:B.Ok)(hh:A.handled=none){p pos:Pos}{x:Str}(hsw:∃ b,swapsWithSole [.Name x p] e pos.line env=pure b)(he:eval e env=comprehension e scope env pe new false (eval iter env) none)
  (hu:∀ u,evalThenUse e env u=(comprehension e scope env pe new false (eval iter env) (some u) >>= fun _=>pure ())) (X:Cmp B A s₀ g₀ env ρ s g e scope iter new ok out P target ifs rest o0 a0 xx items)
  (hb:okT own env.scope x=true) (F:Fm B s₀ g₀ own env ρ s g) :
  wpAny B.M A (exec (.Assign [.Name x p] e pos) env) (fun f s'=>∃ g' d,P s' g' d∧AcP env own s g s' g'∧f=.next∧Fm B s₀ g₀ own env ((x,d) :: ρ) s' g') (fun _ _=>False) s:=by
 rw[exec_Assign_arm];refine wpAny_bind (wpAny_standAt ?_);refine Abm hsw fun b hsw=>?_;rw[hsw];refine wpAny_bind (wpAny_pure ?_);induction b using Bool.casesOn with
 |false=>
  rw[if_neg (by decide)];refine wpAny_bind (wpAny_mono (AfZ O he X F) (fun v s1 h=>?_) fun _ _ h=>h.elim);refine Aab h fun g1 x1 h=>?_;refine Aab h fun d hP hd=>?_;rw[AbL];refine wpAny_bind (wpAny_pure ?_);show wpAny _ _ (assign (.Name x p) env v >>= fun _=>pure Flow.next) _ _ _;exact wpAny_bind (Aca O hh (F.step x1) hd (if_pos hb) fun s2 F2 k2=>wpAny_pure ⟨g1,d,X.hP _ _ _ _ hP fun a vs n e=>k2 a _ ((F.step x1).notLoc e (fun _ h=>nomatch h) fun _ _ h=>nomatch h) e,AcP.trans x1.lets (Oth.lets k2),rfl,F2⟩)
 |true=>
  rw[if_pos rfl,hu];refine wpAny_bind (wpAny_bind ?_);refine AhC O X F fun s1 g1 cenv acc s5 g5 x1 C5=>?_;refine Akr (X.hshut _ _ _ _ _ _ x1 C5) fun g6 d hP x7 hd gC=>?_;show wpAny _ _ (assign (.Name x p) env (.ref acc)) _ _ _;refine Aca O hh (F.step (x1.trans x7)) hd (if_pos hb) fun s6 F6 k6=>?_;refine Aab C5.F.vars fun m hm _=>?_;have cdead:s1.heap.get? cenv.locals=none:=C5.F.loc.1;have cl:¬ Loc env own cenv.locals:=fun h=>by
   refine Abm ((F.step x1).locLive h) fun o' ho'=>?_;rw[cdead] at ho';exact Aah ho'
  refine AjZ hm fun oL hL _ hnt es ne hdat=>?_;have hm6:s6.heap.Ns cenv.locals m:=by refine ADx hm fun o' es' ep' ho' r'=>?_;exact⟨o',es',ep',k6 _ _ cl ho',r'⟩
  refine⟨m,hm6,fun h' hs'=>wpAny_pure (wpAny_pure ?_)⟩;refine⟨g6,d,X.hP _ _ _ _ hP fun a vs n e=>(hs'.2 a fun q=>C5.F.notLoc e (fun _ h=>nomatch h) (fun _ _ h=>nomatch h) (.inl q)).trans (k6 a _ ((F.step (x1.trans x7)).notLoc e (fun _ h=>nomatch h) fun _ _ h=>nomatch h) e),⟨(x1.trans x7).le,fun a oa hl e hn=>?_⟩,rfl,F6.turnE O ((F.st.trans x1).ext.dead cdead) gC (k6 _ _ cl hL) hnt (by intro v e;rw[hdat] at e;injection e) (fun e=>cl (.inl e)) hs'.extBut rfl rfl⟩;have e1':=x1.ext.keep a oa e hn;have ne':a≠cenv.locals:=by intro q2;subst q2;rw[cdead] at e1';exact Aah e1'
  exact⟨(hs'.2 a ne').trans (k6 a oa hl (x7.ext.keep a oa e1' hn)),fun hg=>x7.shutNone e1' (x1.shutNone e hg)⟩
end
theorem AlI(O:B.Ok)(hh:A.handled=none){elt:Expr}{c0:Comprehension}{rest:List Comprehension}{scope:Scope}{vp p pos:Pos}{x:Str}{E:Rho→Expr→Option D}{xx:D}{items out:List D}{ρ':Rho}
  (H:∀ s₁ g₁ own' cenv ρ',Aae B s₀ g₀ s₁ g₁→cenv.scope=relabel scope env→Snd B A s₁ g₁ own' cenv ρ' (E ρ')) (HT:∀ s₁ g₁ own' cenv ρ',Aae B s₀ g₀ s₁ g₁→cenv.scope=relabel scope env→An2 B A s₁ g₁ own' cenv ρ' (E ρ'))
  (hall:(c0 :: rest).all (fun c=>c.is_async == 0)=true) (hset:Abu c0.iter=true) (hok:Abq scope env.scope=true)
  (hx:Aaq B A s g (eval c0.iter env) fun g' v=>Den g' v xx) (hi:AbK xx=some items)
  (hf:AaW (Aak scope.names) (Aaw scope env.scope) (fun ρ e=>Aa9 (E ρ) e) c0.target c0.ifs (AgW E (Aak scope.names) (Aaw scope env.scope) elt rest) (Aa7 scope ρ) items []=some out)
  (hb:Acy own env.scope (.Name x p) (.list out) ρ=some ρ') (F:Fm B s₀ g₀ own env ρ s g) :
  AgV B A s₀ g₀ own env s g (exec (.Assign [.Name x p] (.ListComp elt (c0 :: rest) scope vp) pos) env) (.next ρ'):=by
 have hall':=AlG hall;have e:=Arn (hall' c0 (.head _));generalize c0.target=target,c0.iter=iter,c0.ifs=ifs at e hset hx hf;subst e;refine Aaz (Abg hb) fun _ hb0=>?_;refine Aaz (Abg hb0) fun hb1 hb2=>?_;rw[← sj hb2];exact wpAny_mono (AeA O hh (pe:=firstIterPos (⟨target,iter,ifs,0⟩ :: rest) vp) ⟨_,rfl⟩ rfl (fun _=>rfl) (An4 O hh H HT hall' hset hok hx hi hf) hb1 F) (fun f s' h=>Akr h fun g' d e L hf F'=>⟨g',L,hf,e ▸ F'⟩) fun _ _ h=>h
theorem Am1(O:B.Ok)(K:AbO B n T s₀ g₀)(hA:AOk n A){elt:Expr}{gens:List Comprehension}{scope:Scope}{vp p pos:Pos}{x:Str}{k:Nat}{d:D}{ρ':Rho}
  (hv:ev T k env.scope ρ (.ListComp elt gens scope vp)=some d) (hb:Acy own env.scope (.Name x p) d ρ=some ρ') (F:Fm B s₀ g₀ own env ρ s g) :
  AgV B A s₀ g₀ own env s g (exec (.Assign [.Name x p] (.ListComp elt gens scope vp) pos) env) (.next ρ'):=by
 induction k using Nat.casesAuxOn with
 |zero=>exact Aah hv
 |succ k=>
  induction gens using List.casesOn with
  |nil=>exact Aah hv
  |cons c0 rest=>
   refine Aaz (Abg (show(if _ then _ else none)=some _ from hv)) fun hc hv=>?_;refine Aab (Aag hv) fun xx e1 hv=>?_;refine Aab (Aag hv) fun items e2 hv=>?_;refine Aab (Aag hv) fun out e3 hv=>?_
   cases hv
   exact AlI O hA.handled (E:=fun ρ e=>ev T k (Aaw scope env.scope) ρ e) (fun s₁ g₁ own' cenv ρ' xx hsc=>by have:=(AaD O (K.step xx) hA k).1 own' cenv ρ';rw[hsc,← Abe] at this;exact this)
    (fun s₁ g₁ own' cenv ρ' xx hsc=>by have:=(AaD O (K.step xx) hA k).2 own' cenv ρ';rw[hsc,← Abe] at this;exact this) hc.1 hc.2.1 hc.2.2 ((AaD O K hA k).1 own env ρ _ _ _ _ e1 F) e2 e3 hb F
theorem Arp{c:Code}{P:Result→Shared→Prop}(h:∀ Q:Result→Shared→Prop,(∀ r s',P r s'→Q r s')→codeAny B.M A c Q s):codeAny B.M A c P s:=h P fun _ _ h=>h
theorem AeT{α:Type}{t:Sem α}{P:α→Shared→Prop}{E:Value→Shared→Prop}(h:∀ (Q:α→Shared→Prop) (E':Value→Shared→Prop),(∀ r s',P r s'→Q r s')→wpAny B.M A t Q E' s):wpAny B.M A t P E s:=h P E fun _ _ h=>h
theorem An8{target:Expr}{it:Value}{body:List Stmt}{R:Result→Shared→Prop}(J:List D→Shared→Prop)
  (turn:∀ items s,J items s→∀ (Q:Option Value→Shared→Prop) (E:Value→Shared→Prop),(items=[]→∀ s',R (.ok .next) s'→Q none s') →
   (∀ d ds,items=d :: ds→∀ v s1,(∀ (X:Shared→Prop) (K:Flow→Shared→Prop) (E:Value→Shared→Prop),(∀ s,J ds s→K .next s∧K .cont s)→(∀ s,R (.ok .next) s→K .brk s)→(∀ v s,R (.ok (.ret v)) s→K (.ret v) s)→(∀ s2,wpAny B.M A (execs body env) K E s2→X s2) →
    wpAny B.M A (letOwnedTupleGo target it v) (fun _ s1'=>wpAny B.M A (assign target env v) (fun _ s2=>X s2) E s1') E s1)→Q (some v) s1)→wpAny B.M A (pyNext it) Q E s)
  {items:List D} {s:Shared} (h:J items s):codeAny B.M A (.forLoop target it body [] env) R s:=by
 refine codeAny_forLoop_any (fun m s=>∃ items:List D,m=items.length+1∧J items s) ?_ _ ⟨items,rfl,h⟩;intro m s q3;refine Aab q3 fun items z1 h=>?_;subst z1;refine turn items s h _ _ (fun _ s' hr=>wpAny_execs_nil hr) fun d ds e v s1 hg=>hg _ (fun f s3=>match f with
  |.next|.cont=>∃ m,m<items.length+1∧∃ items:List D,m=items.length+1∧J items s3
  |.brk=>R (.ok .next) s3
  |.ret v=>R (.ok (.ret v)) s3) _ (fun s hj=>?_) (fun _ h=>h) (fun _ _ h=>h) fun _ h=>h
 subst e;exact⟨⟨_,Nat.lt_succ_self _,ds,rfl,hj⟩,⟨_,Nat.lt_succ_self _,ds,rfl,hj⟩⟩
theorem AD3{target:Expr}{it:Value}{body:List Stmt}{R:Result→Shared→Prop}(J:Nat→Shared→Prop)
  (turn:∀ i s,J i s→∀ (Q:Option Value→Shared→Prop) (E:Value→Shared→Prop),(i=0→∀ s',R (.ok .next) s'→Q none s') →
   (∀ k,i=k+1→∀ v s1,(∀ (X:Shared→Prop) (K:Flow→Shared→Prop) (E:Value→Shared→Prop),(∀ s,J k s→K .next s∧K .cont s)→(∀ s,R (.ok .next) s→K .brk s)→(∀ v s,R (.ok (.ret v)) s→K (.ret v) s)→(∀ s2,wpAny B.M A (execs body env) K E s2→X s2) →
    wpAny B.M A (letOwnedTupleGo target it v) (fun _ s1'=>wpAny B.M A (assign target env v) (fun _ s2=>X s2) E s1') E s1)→Q (some v) s1)→wpAny B.M A (pyNext it) Q E s)
  {i:Nat} {s:Shared} (h:J i s):codeAny B.M A (.forLoop target it body [] env) R s:=
 An8 (fun items s=>J items.length s) (fun items s h Q E q0 q1=>turn _ s h Q E (fun e s' hr=>q0 (List.eq_nil_of_length_eq_zero e) s' hr) fun k e v s1 hg=>by
  induction items using List.casesOn with
  |nil=>exact Nat.noConfusion e
  |cons d ds=>exact q1 d ds rfl v s1 fun X K E hn=>hg X K E fun s hj=>hn s (Nat.succ.inj e ▸ hj)) (items:=List.replicate i .none) (by rw[List.length_replicate];exact h)
theorem AaQ.lets{It:Addr}{ds:List D}(it:AaQ s.heap g It ds)(F:Fm B s₀ g₀ own env ρ s g)(hg:g It=none)(l:AcP env own s g s' g'):AaQ s'.heap g' It ds∧g' It=none:=by refine AnV it.noTabby fun oi ho _ hnt hc hd _=>?_;have:=l.2 It oi (F.notLoc ho hc hd) ho hnt;exact⟨it.keep l.1 fun o e _=>by rw[ho] at e;cases e;exact this.1,this.2 hg⟩
theorem Fm.iter{It:Addr}{ds:List D}{s1 s2:Shared}{g1:Gh}(O:B.Ok)(F:Fm B s₀ g₀ own env ρ s g)(it:AaQ s.heap g It ds)(h0:s₀.heap.get? It=none)(hg:g It=none)(h1:s1.heap.get? It=none)(L:AcP env own s1 g1 s g)(k:Heap.ExtBut It s.heap s2.heap)(e1:s2.gens=s.gens)(e2:s2.os=s.os) :
  Fm B s₀ g₀ own env ρ s2 g∧AcP env own s1 g1 s2 g:=by
 refine AnV it.noTabby fun oi ho ht hnt hc hd _=>?_;refine⟨F.turnE O h0 hg ho ht hc (fun e=>F.notLoc ho hc hd (.inl e)) k e1 e2,L.1,fun a o n e t=>?_⟩;refine Aaz (L.2 a o n e t) fun f1 f2=>?_;exact⟨k a o (by intro e';subst e';rw[h1] at e;exact Aah e) f1,f2⟩
theorem AhE{r res:Res}{f:Flow}{k:Rho→Option Res}{K:Flow→Shared→Prop}{s1 s3:Shared}{g1 g3:Gh}(hf:Ax3 k r=some res)(e:Aui B s₀ g₀ own env r f s3 g3)(L:AcP env own s1 g1 s3 g3)
  (hn:∀ ρ₂,Fm B s₀ g₀ own env ρ₂ s3 g3→k ρ₂=some res→K .next s3∧K .cont s3) (hb:(∃ g',AcP env own s1 g1 s3 g'∧Aui B s₀ g₀ own env res .next s3 g')→K .brk s3) (hr:∀ v,(∃ g',AcP env own s1 g1 s3 g'∧Aui B s₀ g₀ own env res (.ret v) s3 g')→K (.ret v) s3):K f s3:=by
 induction r using Res.casesOn with
 |next ρ₂=>rw[e.1];exact(hn ρ₂ e.2 hf).1
 |cont ρ₂=>rw[e.1];exact(hn ρ₂ e.2 hf).2
 |brk ρ₂=>rw[e.1];exact hb ⟨g3,L,sj hf ▸ ⟨rfl,e.2⟩⟩
 |ret d=>exact e.elim fun v e=>e.1 ▸ hr v ⟨g3,L,sj hf ▸ ⟨v,rfl,e.2⟩⟩
theorem AlJ(O:B.Ok)(hh:A.handled=none){target:Expr}{body:List Stmt}{It:Addr}{BD:Rho→Option Res}{res:Res}{s1:Shared}{g1:Gh}
  (hbody:∀ ρ r s g,BD ρ=some r→Fm B s₀ g₀ own env ρ s g→AgV B A s₀ g₀ own env s g (execs body env) r) {items:List D}
  (F:Fm B s₀ g₀ own env ρ s g) (it:AaQ s.heap g It items) (h0:s₀.heap.get? It=none) (hg:g It=none) (hf:AmY own env.scope target BD items ρ=some res)
  (h1:s1.heap.get? It=none) (L:AcP env own s1 g1 s g) :
  codeAny B.M A (.forLoop target (.ref It) body [] env) (fun r s'=>∃ f,r=.ok f∧∃ g',AcP env own s1 g1 s' g'∧Aui B s₀ g₀ own env res f s' g') s:=by
 refine Arp fun R hR=>An8 (fun items s=>∃ ρ g,Fm B s₀ g₀ own env ρ s g∧AaQ s.heap g It items∧g It=none∧AmY own env.scope target BD items ρ=some res∧AcP env own s1 g1 s g) ?_ ⟨ρ,g,F,it,hg,hf,L⟩;clear F it hg hf L;intro items s hJ Q E q0 q1;refine AAD hJ fun ρ g F it hg hf L=>?_;induction items using List.casesOn with
 |nil=>
  refine Ahl F.inv hh it fun h' k=>q0 rfl _ (hR _ _ ⟨_,rfl,g,?_⟩);rw[← sj hf];exact⟨(F.iter (s2:={s with heap:=h'}) O it h0 hg h1 L k rfl rfl).2,rfl,(F.iter (s2:={s with heap:=h'}) O it h0 hg h1 L k rfl rfl).1⟩
 |cons d ds=>
  refine Aab (Aag hf) fun ρ₁ hb hf=>?_;refine Aab (Aag hf) fun r hr hf=>?_;refine Aeu F.inv it fun v h' tk hv it' k=>q1 d ds rfl v _ fun X K E hn hbr hret hX=>?_;refine Aaz (F.iter (s2:={s with heap:=h',toks:=tk}) O it h0 hg h1 L k.extBut rfl rfl) fun F' L'=>?_;refine Akv it' (Aca O hh F' hv hb fun s2 F2 k2=>hX s2 ((hbody ρ₁ r s2 g hr F2).use fun f s3 g3 l3 e3=>?_));have i3:=(it'.oth F' k2).lets F2 hg l3;have L3:=(L'.trans (Oth.lets k2)).trans l3;exact AhE hf e3 L3 (fun ρ₂ F3 h=>hn _ ⟨ρ₂,g3,F3,i3.1,i3.2,h,L3⟩) (fun h=>hbr _ (hR _ _ ⟨_,rfl,h⟩)) fun v h=>hret v _ (hR _ _ ⟨_,rfl,h⟩)
theorem Am2{test:Expr}{body:List Stmt}{TD:Rho→Option Bool}{BD:Rho→Option Res}{res:Res}{s1:Shared}{g1:Gh}
  (htest:∀ ρ b s g,TD ρ=some b→Fm B s₀ g₀ own env ρ s g→Aaq B A s g (isTrue test env (eval test env)) fun _ r=>r=b)
  (hbody:∀ ρ r s g,BD ρ=some r→Fm B s₀ g₀ own env ρ s g→AgV B A s₀ g₀ own env s g (execs body env) r) {fuel:Nat}
  (F:Fm B s₀ g₀ own env ρ s g) (hf:An6 TD BD fuel ρ=some res) (L:AcP env own s1 g1 s g) :
  codeAny B.M A (.whileLoop test body [] env) (fun r s'=>∃ f,r=.ok f∧∃ g',AcP env own s1 g1 s' g'∧Aui B s₀ g₀ own env res f s' g') s:=by
 refine Arp fun R hR=>codeAny_whileLoop (fun m s=>∃ ρ g,Fm B s₀ g₀ own env ρ s g∧An6 TD BD m ρ=some res∧AcP env own s1 g1 s g) ?_ fuel ⟨ρ,g,F,hf,L⟩;clear F hf L;intro m s hJ;refine Adf hJ fun ρ g F hf L=>?_;induction m using Nat.casesAuxOn with
 |zero=>exact Aah hf
 |succ m=>
  refine Aab (Aag hf) fun b ht hf=>?_;refine AeT fun Q E hQ=>(htest ρ b s g ht F).use fun r s2 g2 x2 hr=>hQ _ _ ?_;clear hQ Q E;subst hr;have F2:=F.step x2;have L2:=L.trans (x2.lets (env:=env) (own:=own));induction r using Bool.casesOn with
  |false=>
   refine wpAny_execs_nil (hR _ _ ⟨_,rfl,g2,L2,?_⟩);rw[← sj hf];exact⟨rfl,F2⟩
  |true=>
   refine Aab (Aag (show(BD ρ).bind _=some res from hf)) fun r hr hf=>?_;exact AeT fun Q E hQ=>(hbody ρ _ s2 g2 hr F2).use fun f s3 g3 l3 e3=>AhE (K:=Q) hf e3 (L2.trans l3) (fun ρ₂ F3 h=>⟨hQ .next _ ⟨m,Nat.lt_succ_self _,ρ₂,g3,F3,h,L2.trans l3⟩,hQ .cont _ ⟨m,Nat.lt_succ_self _,ρ₂,g3,F3,h,L2.trans l3⟩⟩) (fun h=>hQ .brk _ (hR _ _ ⟨_,rfl,h⟩)) fun v h=>hQ (.ret v) _ (hR _ _ ⟨_,rfl,h⟩)
end
section
variable{B:Bs}{A:Around}{s₀ s s':Shared}{g₀ g g':Gh}{own:List Str}{env:Env}{ρ:Rho}{n:Nat}{T:Tb}
theorem Am3(I:Inv B s g){op:Operator}{a b:Int}{t u:Tok}{r:D}(h:AmM op (.int a) (.int b)=some r):Aaq B A s g (inplaceOp op (.int a t) (.int b u)) fun g' v=>Den g' v r:=by
 cases op with
 |Add=>cases h;exact iadd_int ⟨g,Aae.tok I _,Den.int⟩
 |Sub=>cases h;exact isub_int ⟨g,Aae.tok I _,Den.int⟩
 |Mult=>refine Aaz (Abg h) fun hsz h=>?_;cases h;exact imul_int ⟨g,Aae.tok I _,Den.int⟩ (IntMulOk.of_left (AnX hsz.1))
 |FloorDiv=>refine Aaz (Abg h) fun hsz h=>?_;cases h;exact ifloordiv_int hsz.1 ⟨g,Aae.tok I _,Den.int⟩ (.inl (PyProof.noPylong_small hsz.2))
 |Mod=>refine Aaz (Abg h) fun hsz h=>?_;cases h;exact imod_int hsz ⟨g,Aae.tok I _,Den.int⟩
 |LShift=>refine Aaz (Abg h) fun hsz h=>?_;cases h;exact ilshift_int_small hsz.1 hsz.2.1 hsz.2.2 ⟨g,Aae.tok I _,Den.int⟩
 |RShift=>refine Aaz (Abg h) fun hsz h=>?_;cases h;exact irshift_int hsz ⟨g,Aae.tok I _,Den.int⟩
 |BitAnd=>cases h;exact iand_int ⟨g,Aae.tok I _,Den.int⟩
 |BitOr=>cases h;exact ior_int ⟨g,Aae.tok I _,Den.int⟩
 |BitXor=>cases h;exact ixor_int ⟨g,Aae.tok I _,Den.int⟩
 |Pow=>
  refine Aaz (Abg h) fun hsz h=>?_;cases h;refine ipow_int hsz.1 ?_ ⟨g,Aae.tok I _,Den.int⟩;have h1:((Builtin.Int.intBits a:Nat):Int)≤64:=Int.ofNat_le.mpr (AnX hsz.2.2);have h2:((Builtin.Int.intBits a:Nat):Int)*b≤64*b:=Int.mul_le_mul_of_nonneg_right h1 hsz.1
  omega
 |_=>exact Aah h
theorem Am4(I:Inv B s g){op:Operator}{a b:Str}{t u:Tok}{r:D}(h:AmM op (.str a) (.str b)=some r):Aaq B A s g (inplaceOp op (.str a t) (.str b u)) fun g' v=>Den g' v r:=by
 cases op with
 |Add=>refine Aaz (Abg (show(if _ then _ else none)=some r from h)) fun hsz h=>?_;cases h;exact iadd_str (fun t' tk=>⟨g,Aae.tok I _,Den.str⟩) (AaO hsz)
 |_=>exact Aah h
theorem Ax5{t:Expr}(h:ADQ t=true):∃ elt gens sc p,t=.ListComp elt gens sc p:=by
 revert h;induction t using Expr.casesOn<;>first|exact fun _=>⟨_,_,_,_,rfl⟩|exact Bool.noConfusion
theorem Ao4(I:Inv B s g){op:Operator}{va vb:Value}{a b r:D}(ha:Den g va a)(hb:Den g vb b)(h:AFk op a b=some r):Aaq B A s g (inplaceOp op va vb) fun g' v=>Den g' v r:=by
 induction a using D.casesOn with
 |int a=>
  (refine Aab (Aap h) fun b q1 h=>?_;subst q1)
  induction ha using Den.intE;induction hb using Den.intE;exact Am3 I h
 |str a=>
  (refine Aab (AaN h) fun b q2 h=>?_;subst q2)
  induction ha using Den.strE;induction hb using Den.strE;exact Am4 I h
 |_=>exact Aah h
section
variable{E:Expr→Option D}{r:Res}{p:Pos}
theorem AAY(H:Snd B A s₀ g₀ own env ρ E){e:Option Expr}(h:AFi E e=some r)(F:Fm B s₀ g₀ own env ρ s g):AgV B A s₀ g₀ own env s g (exec (.Return e p) env) r:=by
 induction e using Option.casesOn with
 |none=>rw[← sj h];exact wpAny_Return_none ⟨g,.refl,_,rfl,F.st,.none⟩
 |some e=>
  refine Aab (Aag h) fun d e1 h=>?_;rw[← sj h];exact wpAny_Return_some ((H _ d s g e1 F).use fun v s1 g1 x1 hd=>⟨g1,x1.lets,v,rfl,F.st.trans x1,hd⟩)
theorem AAZ(O:B.Ok)(K:AbO B n T s₀ g₀)(hA:AOk n A){k:Nat}{ts:List Expr}{value:Expr}(h:AFj (ev T k env.scope ρ) own env.scope ρ ts value=some r)(F:Fm B s₀ g₀ own env ρ s g):AgV B A s₀ g₀ own env s g (exec (.Assign ts value p) env) r:=by have H:=(AaD O K hA k).1 own env ρ;refine Aab (Aag h) fun t o1 h=>?_;refine Aab (Aag h) fun d e1 h=>?_;refine Aaz (Abg h) fun hc h=>?_;refine Aab (Aag h) fun ρ' hb h=>?_;rw[AdK o1,← sj h];refine hc.elim (fun hc=>?_) fun hc=>hc.elim (fun hc=>AgG O hA.handled H e1 hb hc.2.1 (AgX hc.2.2) F) fun hc=>Am0 O hA.handled H e1 hb hc F;have et:=AgB hc.1;generalize (ep t).x=y,(ep t).p=py at et;clear o1;subst et;refine hc.2.elim (fun hc=>AgG O hA.handled H e1 hb hc AbL F) fun hc=>?_;refine Aua (Ax5 hc) fun elt gens scp vp q3=>?_;subst q3;exact Am1 O K hA e1 hb F
theorem AA0(O:B.Ok)(H:Snd B A s₀ g₀ own env ρ E){t value:Expr}{op:Operator}(h:AFl E own env.scope ρ t op value=some r)(F:Fm B s₀ g₀ own env ρ s g):AgV B A s₀ g₀ own env s g (exec (.AugAssign t op value p) env) r:=by
 refine Aaz (Abg h) fun hc h=>?_;refine Aab (Aag h) fun a e1 h=>?_;refine Aab (Aag h) fun b e2 h=>?_;refine Aab (Aag h) fun d e3 h=>?_;rw[AgB hc.1,← sj h];exact wpAny_AugAssign_Name ((F.loadName e1 hc.2.1).use fun v1 s1 g1 x1 h1=>(H _ _ s1 g1 e2 (F.step x1)).use fun v2 s2 g2 x2 h2=>(Ao4 x2.inv (h1.mono x2.le) h2 e3).use fun v3 s3 g3 x3 h3=>
  (((F.step x1).step x2).step x3).store O (Abi hc.2.2) h3 fun s4 F4 k4=>⟨g3,AcP.trans ((x1.trans x2).trans x3).lets (Oth.lets k4),rfl,F4⟩)
theorem AA1(O:B.Ok)(hh:A.handled=none){EE:Rho→Expr→Option D}(H:Snd B A s₀ g₀ own env ρ (EE ρ)){ih:Rho→List Stmt→Option Res}
  (IH:∀ ρ r body s g,ih ρ body=some r→Fm B s₀ g₀ own env ρ s g→AgV B A s₀ g₀ own env s g (execs body env) r) {target iter:Expr} {body:List Stmt} (h:AFm EE own env.scope ih ρ target iter body=some r) (F:Fm B s₀ g₀ own env ρ s g):AgV B A s₀ g₀ own env s g (exec (.For target iter body [] p) env) r:=by
 refine Aaz (Abg h) fun hns h=>?_;refine Aab (Aag h) fun x e1 h=>?_;refine Aab (Aag h) fun items e2 h=>?_;refine AeT fun Q E hQ=>wpAny_For ((H _ x s g e1 F).use fun v s1 g1 x1 hv=>AdI O x1.inv hv e2 fun o x2 it2=>codeAny_mono (AlJ (s1:=s1) (g1:=g1) O hh (fun ρ r s g hr F=>IH ρ r _ s g hr F) ((F.step x1).step x2) it2 ((F.st.trans x1).ext.dead (AaM _)) x1.inv.fresh h (AaM _) x2.lets) fun rr s' hr=>?_) (AdM hns)
 obtain⟨f,rfl,g',l,e⟩:=hr
 exact hQ _ _ ⟨g',AcP.trans x1.lets l,e⟩
end
theorem AlK(O:B.Ok)(K:AbO B n T s₀ g₀)(hA:AOk n A){k fuel:Nat}{ih:Rho→List Stmt→Option Res}
  (IH:∀ ρ r body s g,ih ρ body=some r→Fm B s₀ g₀ own env ρ s g→AgV B A s₀ g₀ own env s g (execs body env) r)
  {st:Stmt} {r:Res} (h:An7 (ev T k env.scope) own env.scope fuel ih ρ st=some r) (F:Fm B s₀ g₀ own env ρ s g):AgV B A s₀ g₀ own env s g (exec st env) r:=by
 have H:=(AaD O K hA k).1 own env;have HT:=(AaD O K hA k).2 own env;induction st using Stmt.casesOn with
 |Return e p=>exact AAY (H ρ) h F
 |Pass p=>rw[← sj h];exact wpAny_Pass ⟨g,.refl,rfl,F⟩
 |Break p=>rw[← sj h];exact wpAny_Break ⟨g,.refl,rfl,F⟩
 |Continue p=>rw[← sj h];exact wpAny_Continue ⟨g,.refl,rfl,F⟩
 |Assign ts value p=>exact AAZ O K hA h F
 |AugAssign t op value p=>exact AA0 O (H ρ) h F
 |If test body orelse p=>
  refine Aab (Aag h) fun c e1 h=>?_;refine wpAny_If ((HT ρ _ c s g e1 F).use fun b s1 g1 x1 hb=>?_);subst hb;induction b using Bool.casesOn with
  |true=>exact(IH ρ r _ s1 g1 h (F.step x1)).from x1.lets
  |false=>exact(IH ρ r _ s1 g1 h (F.step x1)).from x1.lets
 |While test body orelse p=>
  (refine Aaz (Afx h) fun q4 h=>?_;subst q4)
  refine AeT fun Q E hQ=>wpAny_While (codeAny_mono (Am2 (s1:=s) (g1:=g) (fun ρ b s g hb F=>HT ρ _ b s g hb F) (fun ρ r s g hr F=>IH ρ r _ s g hr F) F h .refl) fun rr s' hr=>?_)
  obtain⟨f,rfl,hr⟩:=hr
  exact hQ _ _ hr
 |For target iter body orelse p=>
  (refine Aaz (Afx h) fun q5 h=>?_;subst q5)
  exact AA1 O hA.handled (H ρ) IH h F
 |Try body hs orelse fin p=>
  induction hs using List.casesOn with
  |nil=>exact Aah h
  |cons h0 hs=>
  (refine Aaz (Afx h) fun q6 h=>?_;subst q6)
  refine Aaz (Afx h) fun q7 h=>?_;subst q7;refine AeT fun Q E hQ=>wpAny_Try_except (wpAny_mono (IH ρ r _ s g h F) (fun f s' e=>?_) fun _ _ h=>h.elim);induction f using Flow.casesOn with
  |next=>exact wpAny_execs_nil (hQ _ _ e)
  |_=>exact hQ _ _ e
 |_=>exact Aah h
theorem Aum{a b:Option Res}{r:Res}(h:orR a b=some r):a=some r∨b=some r:=by
 induction a using Option.casesOn with
 |none=>exact .inr h
 |some _=>exact .inl h
theorem AbW(O:B.Ok)(K:AbO B n T s₀ g₀)(hA:AOk n A){k:Nat}(m:Nat)(ρ:Rho)(r:Res)(body:List Stmt)(s:Shared)(g:Gh)(h:ex (T.stm own env.scope) (ev T k env.scope) own env.scope m ρ body=some r)(F:Fm B s₀ g₀ own env ρ s g) :
  AgV B A s₀ g₀ own env s g (execs body env) r:=by
 induction m generalizing ρ r body s g with
 |zero=>exact Aah h
 |succ m IH=>
  induction body using List.casesOn with
  |nil=>rw[← sj h];exact wpAny_execs_nil ⟨g,.refl,rfl,F⟩
  |cons st rest=>
   refine Aab (Aag h) fun r1 e h=>?_;refine AeT fun Q E hQ=>wpAny_execs_cons ((show AgV B A s₀ g₀ own env s g (exec st env) r1 from(Aum e).elim (fun e1=>K.stm A own env ρ st _ s₀ g₀ s g hA F.st e1 F) fun e=>AlK O K hA (fun ρ r body s g hr F=>IH ρ r body s g hr F) e F).use fun f s1 g1 l1 e1=>?_);clear e;induction r1 using Res.casesOn with
   |next ρ1=>rw[e1.1];exact wpAny_mono ((IH ρ1 r rest s1 g1 h e1.2).from l1) hQ fun _ _ e=>e.elim
   |brk ρ1=>rw[e1.1];exact hQ _ _ ⟨g1,l1,sj h ▸ ⟨rfl,e1.2⟩⟩
   |cont ρ1=>rw[e1.1];exact hQ _ _ ⟨g1,l1,sj h ▸ ⟨rfl,e1.2⟩⟩
   |ret d=>exact e1.elim fun v e1=>e1.1 ▸ hQ _ _ ⟨g1,l1,sj h ▸ ⟨v,rfl,e1.2⟩⟩
noncomputable def fnD(T:Tb)(k m:Nat)(params:List Str)(body:List Stmt)(sc:Scope)(ds:List D):Option D:=
 if params.length=ds.length then match ex (T.stm (Aak sc.names) sc) (ev T k sc) (Aak sc.names) sc m (params.zip ds).reverse body with
  |some (.ret d)=>some d
  |some (.next _)=>some .none
  |_=>none
 else none
noncomputable def AaP(sc:Scope)(params:List Str):Bool:=
 decide (sc.kind=.function) && !sc.isGenerator && !sc.isCoroutine && sc.names.all (fun p=>!(p.2 == .free)) && params.all (fun x=>sc.names.lookup x == some .local || sc.names.lookup x == some .cell)
theorem AOk.dlt{A:Around}{n:Nat}(h:AOk (n+1) A):A.depth<1000:=Nat.lt_of_le_of_lt (Nat.le_trans (Nat.le_add_right _ _) h.depth) (by decide)
theorem AOk.deeper{A:Around}{env:Env}(h:AOk (n+1) A):AOk n (A.deeper env):=
 h.to (k:=3) h.handled (Nat.add_le_add_left (by decide:1≤8) A.depth) rfl (by decide)
structure AbX(B:Bs)(a:Addr)(fd:FuncData)(params:List Str)(body:List Stmt):Prop where
 obj:∃ o,B.G.get? a=some o∧o.data=.func fd
 code:B.G.CodeRec fd.code fd.qualname
 body:fd.body=.stmts body
 glob:fd.globals=mainGlobals
 blt:fd.builtins=builtinsNs
 clos:fd.closure=[]
 bind:∀ vs:List Value,vs.length=params.length→bindArgs fd ⟨vs,[]⟩=pure (params.zip vs)
 scope:AaP fd.scope params=true
theorem Afy{sc:Scope}{params:List Str}(h:AaP sc params=true):sc.kind=.function∧sc.isGenerator=false∧sc.isCoroutine=false∧(∀ x,sc.names.lookup x≠some .free)∧∀ x∈params,sc.names.lookup x=some .local∨sc.names.lookup x=some .cell:=by
 unfold AaP at h;simp only[Bool.and_eq_true,decide_eq_true_eq,Bool.not_eq_true',List.all_eq_true,Bool.or_eq_true,beq_iff_eq] at h
 obtain⟨⟨⟨⟨h1,h2⟩,h3⟩,h4⟩,h5⟩:=h
 refine⟨h1,h2,h3,fun x e=>?_,h5⟩;have:=h4 _ (PySem.mem_of_lookup e);simp at this
theorem AhF(O:B.Ok){a:Addr}{fd:FuncData}{params:List Str}{body:List Stmt}(Dd:AbX B a fd params body){vs:List Value}{ds:List D}(hA:AOk (n+1) A)(I:Inv B s g)(hd:Aar g vs ds)(hl:params.length=ds.length){P:Gh→Value→Prop}
  (h:∀ env s' ,env.scope=fd.scope→env.code=fd.code→env.qual=fd.qualname++".<locals>."→Fm B s g (Aak fd.scope.names) env (params.zip ds).reverse s' g →
   wpAny B.M (A.deeper env) (execs body env) (fun f s''=>∃ g',Aae B s g s'' g'∧P g' (match f with|.ret v=>v|_=>.none)) (fun _ _=>False) s') :
  Aaq B A s g (call (.ref a) vs) P:=by
 refine Aab Dd.obj fun o ho hdat=>?_;refine AAK (Afy Dd.scope) fun h1 h2 h3 h4 h5=>?_;have keep:∀ b o,B.G.get? b=some o→s.heap.get? b=some o:=fun b o e=>I.get (I.base b o e);refine wpAny_call (codeAny_call_function hA.dlt (keep _ _ ho) hdat h3 h2 Dd.body (Dd.code.keeps keep) ?_);rw[Dd.bind vs (by rw[hd.length,hl])];refine wpAny_pure ?_;rw[Dd.glob,Dd.clos,Dd.blt];refine wpAny_mono (Ara O I h1 h4 h5 hl hd (Q:=fun env s'=>s'.heap.NoLimit∧codeAny B.M A (.func body env) (fun r s'=>match r with|.ok (.ret v)=>∃ g',Aae B s g s' g'∧P g' v|.ok _=>False|.error e=>False) s') fun env s' e1 e2 e3 F=>⟨?_,?_⟩) (fun _ _ h=>h) fun _ _ h=>h.elim
 ·refine Aab O.lim fun mc hmc hno=>?_;exact⟨mc,F.inv.ns hmc,hno⟩
 ·refine codeAny_func (wpAny_mono (h env s' e1 e2 e3 F) (fun f s'' h=>h) fun _ _ h=>h.elim)
theorem Acg(O:B.Ok){a:Addr}{fd:FuncData}{params:List Str}{body:List Stmt}{k m:Nat}(Dd:AbX B a fd params body)(K:∀ s g,Inv B s g→AbO B n T s g):Abw B (n+1) (.ref a) (fnD T k m params body fd.scope):=by
 refine Aab Dd.obj fun o ho hdat=>?_;refine⟨.inr (.inr ⟨a,o,fd,rfl,ho,hdat⟩),fun A s g vs ds r hA I hd hr=>?_⟩;unfold fnD at hr
 split at hr
 ·rename_i hl;refine AhF O Dd hA I hd hl fun env s' e1 e2 e3 F=>?_
  cases e:ex (T.stm (Aak fd.scope.names) fd.scope) (ev T k fd.scope) (Aak fd.scope.names) fd.scope m (params.zip ds).reverse body with
  |none=>rw[e] at hr;exact Aah hr
  |some res=>
   rw[e] at hr;rw[← e1] at e F;have:=AbW O (K s g I) (hA.deeper (env:=env)) m _ res body s' g e F;refine this.use fun f s1 g1 l1 en=>?_
   cases res with
   |ret d=>cases hr;obtain⟨v,rfl,x,hd⟩:=en;exact⟨g1,x,hd⟩
   |next ρ'=>cases hr;obtain⟨rfl,F1⟩:=en;exact⟨g1,F1.st,.none⟩
   |brk _=>exact Aah hr
   |cont _=>exact Aah hr
 ·exact Aah hr
end
section
variable{B:Bs}{n:Nat}
noncomputable def Ac2:List D→Option (List Str)
 |[]=>some []
 |d :: r=>AdH d fun x=>(Ac2 r).bind fun xs=>some (x :: xs)
noncomputable def Ab2:List D→Option (List Int)
 |[]=>some []
 |d :: r=>Acf d fun x=>(Ab2 r).bind fun xs=>some (x :: xs)
noncomputable def fn1(f:D→Option D)(ds:List D):Option D:=if ds.length=1 then f (ds.getD 0 .none) else none
noncomputable def fn2(f:D→D→Option D)(ds:List D):Option D:=if ds.length=2 then f (ds.getD 0 .none) (ds.getD 1 .none) else none
noncomputable def fn3(f:D→D→D→Option D)(ds:List D):Option D:=if ds.length=3 then f (ds.getD 0 .none) (ds.getD 1 .none) (ds.getD 2 .none) else none
theorem AlL{f:D→Option D}{ds:List D}{r:D}(h:fn1 f ds=some r):∃ a,ds=[a]∧f a=some r:=
 ⟨_,ADy (Abg h).1,(Abg h).2⟩
theorem AgH{f:D→D→Option D}{ds:List D}{r:D}(h:fn2 f ds=some r):∃ a b,ds=[a,b]∧f a b=some r:=
 ⟨_,_,Auc (Abg h).1,(Abg h).2⟩
theorem Aw8{f:D→D→D→Option D}{ds:List D}{r:D}(h:fn3 f ds=some r):∃ a b c,ds=[a,b,c]∧f a b c=some r:=
 ⟨_,_,_,AFN (Abg h).1,(Abg h).2⟩
noncomputable def ii(f:Int→Int→Option D):List D→Option D:=fn2 fun x y=>Acf x fun a=>Acf y fun b=>f a b
theorem Ao5{f:Int→Int→Option D}{ds:List D}{r:D}(h:ii f ds=some r):∃ a b,ds=[.int a,.int b]∧f a b=some r:=by refine Ad9 (AgH h) fun x y q1 k1=>?_;refine Aab (Aap k1) fun a q2 k2=>?_;refine Aab (Aap k2) fun b q3 k3=>?_;rw[q2,q3] at q1;exact⟨a,b,q1,k3⟩
theorem Ax6{f:D→Option D}{g:Gh}{vs:List Value}{ds:List D}{r:D}(h:fn1 f ds=some r)(hd:Aar g vs ds):∃ v a,vs=[v]∧Den g v a∧f a=some r:=by
 refine Aab (AlL h) fun a q1 h=>?_;subst q1;induction hd using Aar.consE with|cons h1 hd=>?_
 induction hd using Aar.nilE;exact⟨_,a,rfl,h1,h⟩
theorem Ax7{f:D→D→Option D}{g:Gh}{vs:List Value}{ds:List D}{r:D}(h:fn2 f ds=some r)(hd:Aar g vs ds):∃ v w a b,vs=[v,w]∧Den g v a∧Den g w b∧f a b=some r:=by
 refine Ad9 (AgH h) fun a b q1 h=>?_;subst q1;induction hd using Aar.consE with|cons h1 hd=>?_
 induction hd using Aar.consE with|cons h2 hd=>?_
 induction hd using Aar.nilE;exact⟨_,_,a,b,rfl,h1,h2,h⟩
theorem AgI{v:Value}{f:D→Option D}(k:Kp B.G.get? v)(H:∀ A s g u a r,AOk n A→Inv B s g→Den g u a→f a=some r→Aaq B A s g (call v [u]) fun g' v=>Den g' v r):Abw B n v (fn1 f):=⟨k,fun A s g vs ds r hA I hd hr=>by
 refine Adf (Ax6 hr hd) fun u a q1 h1 h=>?_;subst q1;exact H A s g u a r hA I h1 h⟩
theorem Aj4{v:Value}{f:D→D→Option D}(k:Kp B.G.get? v)(H:∀ A s g u w a b r,AOk n A→Inv B s g→Den g u a→Den g w b→f a b=some r→Aaq B A s g (call v [u,w]) fun g' v=>Den g' v r):Abw B n v (fn2 f):=⟨k,fun A s g vs ds r hA I hd hr=>by
 refine Aw4 (Ax7 hr hd) fun u w a b q2 h1 h2 h=>?_;subst q2;exact H A s g u w a b r hA I h1 h2 h⟩
noncomputable def Ao6(f:Str→Str→Option D):List D→Option D:=fn2 fun a b=>AdH a fun x=>AdH b fun y=>f x y
theorem AhG{id:String}{f:Str→Str→Option D}(H:∀ A s g x y t u r,Inv B s g→f x y=some r→Aaq B A s g (call (.builtin id) [.str x t,.str y u]) fun g' v=>Den g' v r):Abw B n (.builtin id) (Ao6 f):=Aj4 (.inl ⟨_,rfl⟩) fun A s g u w a b r hA I h1 h2 h=>by
 refine Aab (AaN h) fun x q3 k1=>?_;subst q3;refine Aab (AaN k1) fun y q4 k2=>?_;subst q4;induction h1 using Den.strE;induction h2 using Den.strE;exact H A s g x y _ _ r I k2
noncomputable def bStartswith:List D→Option D:=Ao6 fun x y=>some (.bool (Txt.startswith x y))
theorem AdP:Abw B n (.builtin "str.startswith") bStartswith:=AhG fun A s g x y t u r I h=>by
 rw[← sj h];exact SC.startswith ⟨g,Aae.refl I,.bool⟩
noncomputable def bEndswith:List D→Option D:=Ao6 fun x y=>some (.bool (Txt.endswith x y))
theorem Am5:Abw B n (.builtin "str.endswith") bEndswith:=AhG fun A s g x y t u r I h=>by
 rw[← sj h];exact SC.endswith ⟨g,Aae.refl I,.bool⟩
noncomputable def bRfind:List D→Option D:=Ao6 fun x y=>some (.int (Txt.rfind x y))
theorem Aun:Abw B n (.builtin "str.rfind") bRfind:=AhG fun A s g x y t u r I h=>by
 rw[← sj h];exact SC.rfind ⟨g,Aae.tok I _,.int⟩
noncomputable def bRstrip:List D→Option D:=Ao6 fun x y=>if x.cps.size≤1000000 then some (.str (Txt.rstripChars x y)) else none
theorem Arq:Abw B n (.builtin "str.rstrip") bRstrip:=AhG fun A s g x y t u r I h=>by
 refine Aaz (Abg h) fun hs k1=>?_;rw[← sj k1];exact SC.rstripChars (fun t' k=>⟨g,Aae.tok I _,.str⟩) (AaO hs)
theorem AlM{g:Gh}:∀ {l:List (Str×Tok)},Aar g (strValues l) ((l.map (·.1)).map D.str)
 |[]=>.nil
 |_ :: _=>.cons .str AlM
open Builtin.Str in
theorem Arr{A:Around}{s:Shared}{x y:Str}{t u:Tok}{Q E:Value→Shared→Prop}(hy:(y.length == 0)=false)(hsz:x.length≤sizeLine)(hsz2:(partsBetween x (occurrences x y 0 x.length (x.length+1)) y.length).length≤sizeLine)
  (hq:∀ l k,l.map (·.1)=Txt.split x y→Q (.ref s.heap.objs.size) {s with heap:=s.heap.push {cls:=.type "list",data:=.seq (strValues l).toArray},toks:=k}) :
  wpAny B.M A (call (.builtin "str.split") [.str x t,.str y u]) Q E s:=by
 cases h1:(decide (x.length<y.length) || decide (strKind x<strKind y))
 ·cases hf:(occurrences x y 0 x.length (x.length+1)).isEmpty
  ·refine call_meets F.slot_str_split (typeIs_str _ _ _) F.entry_str_split (F.args_str_split_2 _ _) (meets_str_split_sep x y t u h1 hy hf hsz hsz2) ?_;show wants Q E _ {s with toks:=_,heap:=s.heap.push {cls:=.type "list",data:=.seq (strsFrom s.toks (partsBetween x (occurrences x y 0 x.length (x.length+1)) y.length)).toArray}};rw[strsFrom_eq];exact hq (numbered s.toks _) _ ((numbered_texts _ _).trans ((if_neg (ne_true_of_eq_false h1)).trans (if_neg (ne_true_of_eq_false hf))).symm)
  ·exact call_meets F.slot_str_split (typeIs_str _ _ _) F.entry_str_split (F.args_str_split_2 _ _) (meets_str_split_not_found x y t u h1 hy hf)
    (hq [(x,t)] s.toks ((if_neg (ne_true_of_eq_false h1)).trans (if_pos hf)).symm)
 ·exact call_meets F.slot_str_split (typeIs_str _ _ _) F.entry_str_split (F.args_str_split_2 _ _) (meets_str_split_cannot_occur x y t u h1)
   (hq [(x,t)] s.toks (if_pos h1).symm)
noncomputable def bSplit:List D→Option D:=Ao6 fun x y=>if x.cps.size≤1000000∧(y.length == 0)=false∧(Builtin.Str.partsBetween x (Builtin.Str.occurrences x y 0 x.length (x.length+1)) y.length).length≤1000000 then some (.list ((Txt.split x y).map D.str)) else none
theorem An9(O:B.Ok):Abw B n (.builtin "str.split") bSplit:=AhG fun A s g x y t u r I h=>by
 refine Aaz (Abg h) fun hs k1=>?_;rw[← sj k1];refine Arr hs.2.1 (AaO hs.1) (AaO hs.2.2) fun l k hl=>?_;have x:=Aae.tok I k;refine Aab (Ac0 O x.inv (vs:=(strValues l).toArray) (ds:=(l.map (·.1)).map D.str) AlM) fun g' y hd=>?_;rw[← hl];exact⟨g',x.trans y,hd⟩
noncomputable def AFS:D→Option D
 |.str x=>if x.cps.size≤1000000 then some (.int x.cps.size) else none
 |.list l=>if l.length≤1000000 then some (.int l.length) else none
 |.tup l=>if l.length≤1000000 then some (.int l.length) else none
 |_=>none
noncomputable def bLen:List D→Option D:=fn1 AFS
theorem Aj5:Abw B n (.builtin "len") bLen:=AgI (.inl ⟨_,rfl⟩) fun A s g u a r hA I h1 h=>by
 induction a using D.casesOn with
 |str x=>
  refine Aaz (Abg h) fun hs k1=>?_;rw[← sj k1];induction h1 using Den.strE;refine PyProof.Rows.len_str ?_ ⟨g,Aae.tok I _,.int⟩;show ¬ ((Array.size _:Nat):Int) ≥ 2 ^ 63
  omega
 |list l=>
  refine Aaz (Abg h) fun hs k1=>?_;rw[← sj k1];induction h1 using Den.listE with|list e1 e2=>?_
  have hl:=Array.length_toList.symm.trans e2.length;exact len_list ⟨_,I.get e1,rfl,_,rfl⟩ (by omega) ⟨g,Aae.tok I _,by rw[hl];exact .int⟩
 |tup l=>
  refine Aaz (Abg h) fun hs k1=>?_;rw[← sj k1];induction h1 using Den.tupE with|tup e1 e2=>?_
  have hl:=Array.length_toList.symm.trans e2.length;exact len_tuple ⟨_,I.get e1,rfl,_,rfl⟩ (by omega) ⟨g,Aae.tok I _,by rw[hl];exact .int⟩
 |_=>exact Aah h
noncomputable def bBits:List D→Option D:=fn1 fun a=>Acf a fun a=>some (.int (Builtin.Int.intBits a))
theorem Am6:Abw B n (.builtin "int.bit_length") bBits:=AgI (.inl ⟨_,rfl⟩) fun A s g u a r hA I h1 h=>by
 refine Aab (Aap h) fun a q5 k1=>?_;subst q5;rw[← sj k1];induction h1 using Den.intE;exact call_int_bit_length ⟨g,Aae.tok I _,.int⟩
noncomputable def bDivmod:List D→Option D:=fn2 fun a b=>Acf a fun a=>Acf b fun b=>if b≠0∧b.natAbs<1073741824 then some (.tup [.int (a.fdiv b),.int (a.fmod b)]) else none
theorem Ars(O:B.Ok):Abw B n (.builtin "divmod") bDivmod:=Aj4 (.inl ⟨_,rfl⟩) fun A s g u w a b r hA I h1 h2 h=>by
 refine Aab (Aap h) fun a q6 k1=>?_;subst q6;refine Aab (Aap k1) fun b q7 k2=>?_;subst q7;refine Aaz (Abg k2) fun hs k3=>?_;rw[← sj k3];induction h1 using Den.intE;induction h2 using Den.intE;refine divmod_int hs.1 ?_ (.inl (PyProof.noPylong_small hs.2));have x:=Aae.tok I (s.toks+1+1)
 obtain⟨g',y,hd⟩:=Adg O x.inv (vs:=#[.int _ s.toks,.int _ (s.toks+1)]) (ds:=[.int _,.int _]) (.cons .int (.cons .int .nil))
 exact⟨g',x.trans y,hd⟩
theorem AcA{g:Gh}{vs:List Value}{ds:List D}(h:Aar g vs ds):∀ {xs:List Str},Ac2 ds=some xs→∃ l:List (Str×Tok),vs=strValues l∧l.map (·.1)=xs:=by
 induction h using Aar.ind with
 |nil=>exact fun h=>sj h ▸ ⟨[],rfl,rfl⟩
 |cons h1 _ ih=>
  intro xs h;refine Aab (AaN h) fun x q8 k1=>?_;subst q8;refine Aab (Aag k1) fun ys e k2=>?_;refine Aab (ih e) fun l e1 e2=>?_;rw[← sj k2,e1,← e2];induction h1 using Den.strE;exact⟨(_,_) :: l,rfl,rfl⟩
noncomputable def bJoin:List D→Option D:=fn2 fun a b=>AdH a fun x=>Acx b fun l=>(Ac2 l).bind fun xs=>if JoinOk x xs=true then some (.str (Txt.join x xs)) else none
theorem Art:Abw B n (.builtin "str.join") bJoin:=Aj4 (.inl ⟨_,rfl⟩) fun A s g u w a b r hA I h1 h2 h=>by
 refine Aab (AaN h) fun x q9 k1=>?_;subst q9;refine Aab (AaT k1) fun l q10 k2=>?_;subst q10;refine Aab (Aag k2) fun xs e k3=>?_;refine Aaz (Abg k3) fun hj k4=>?_;rw[← sj k4];induction h1 using Den.strE;induction h2 using Den.listE with|list e1 e2=>?_
 refine Aab (AcA e2 e) fun l e3 e4=>?_;exact SC.join (l:=l) ⟨_,I.get e1,rfl,_,by rw[← e3]⟩ e4 hj fun t' k=>⟨g,Aae.tok I _,.str⟩
noncomputable def bRange:List D→Option D
 |[a]=>Acf a fun b=>some (.rng 0 b)
 |[a,b]=>Acf a fun a=>Acf b fun b=>some (.rng a b)
 |_=>none
theorem Ach(O:B.Ok):Abw B n (.type "range") bRange:=⟨.inr (.inl ⟨_,rfl⟩),fun A s g vs ds r hA I hd hr=>by
 match ds,hr with
 |[a],hr=>
  (refine Aab (Aap (show Acf a _=some r from hr)) fun b q11 k1=>?_;subst q11)
  rw[← sj k1];induction hd using Aar.consE with|cons h1 hd=>?_
  induction hd using Aar.nilE;induction h1 using Den.intE;refine call_range_1 ?_;have x:=Aae.tok I (s.toks+1+1);exact⟨_,x.trans (Aae.alloc O x.inv rfl (Aal rfl)),.rng (Gh.put_self ..)⟩
 |[a,b],hr=>
  (refine Aab (Aap (show Acf a _=some r from hr)) fun a q12 k1=>?_;subst q12)
  refine Aab (Aap k1) fun b q13 k2=>?_;subst q13;rw[← sj k2];induction hd using Aar.consE with|cons h1 hd=>?_
  induction hd using Aar.consE with|cons h2 hd=>?_
  induction hd using Aar.nilE;induction h1 using Den.intE;induction h2 using Den.intE;refine call_range_2 ?_;have x:=Aae.tok I (s.toks+1);exact⟨_,x.trans (Aae.alloc O x.inv rfl (Aal rfl)),.rng (Gh.put_self ..)⟩
 |[],hr=>exact Aah hr
 |_ :: _ :: _ :: _,hr=>exact Aah hr⟩
theorem Ao7{g:Gh}{vs:List Value}{ds:List D}(h:Aar g vs ds):∀ {xs:List Int},Ab2 ds=some xs→vs.length=xs.length∧∀ (i:Nat) (v:Value),vs[i]?=some v→∃ t,v=Value.int (xs.getD i 0) t:=by
 induction h using Aar.ind with
 |nil=>exact fun h=>sj h ▸ ⟨rfl,fun i v e=>Aah e⟩
 |cons h1 _ ih=>
  intro xs h;refine Aab (Aap h) fun x q14 k1=>?_;subst q14;refine Aab (Aag k1) fun ys e k2=>?_;rw[← sj k2];refine⟨congrArg (·+1) (ih e).1,fun i v hv=>?_⟩;induction i using Nat.casesAuxOn with
  |zero=>rw[← sj hv];induction h1 using Den.intE;exact⟨_,rfl⟩
  |succ i=>exact(ih e).2 i v hv
theorem AhH:∀ (xs:List Int) (j:Nat),preSum (fun i=>xs.getD i 0) j=(xs.take j).sum
 |xs,0=>by simp [preSum]
 |xs,j+1=>by
  rw[preSum,AhH xs j,List.take_add_one]
  cases h:xs[j]? with
  |none=>simp [List.getD,h]
  |some v=>simp [List.getD,h]
theorem Aj6{s:Shared}{g:Gh}{o:Obj}(O:B.Ok)(I:Inv B s g){s':Shared}(h:Moved [s.heap.objs.size] (fun a b=>b=a) {s with heap:=s.heap.push o} s'):Aae B s g s' g:=by have keep:∀ a ob,s.heap.get? a=some ob→s'.heap.get? a=some ob:=fun a ob e=>h.heap a ob (by simp;exact Nat.ne_of_lt (Heap.lt_size e)) (Heap.get?_push_of_some _ e);exact⟨g.le_refl,I.keeps O keep h.gens h.os,.of keep,fun _ _ e=>.inl e⟩
noncomputable def bSum:List D→Option D:=fn1 fun a=>Acx a fun l=>(Ab2 l).bind fun xs=>some (.int xs.sum)
theorem Aoa(O:B.Ok):Abw B n (.builtin "sum") bSum:=AgI (.inl ⟨_,rfl⟩) fun A s g u a r hA I h1 h=>by
 refine Aab (AaT h) fun l q15 k1=>?_;subst q15;refine Aab (Aag k1) fun xs e k2=>?_;rw[← sj k2];induction h1 using Den.listE with|list e1 e2=>?_
 rename_i a vs nn;refine Aaz (Ao7 e2 e) fun hl hg=>?_;refine call_sum_walkAnyS (wpAny_pyIter_list ⟨_,I.get e1,rfl,_,rfl⟩ ?_);have hlt:=Heap.lt_size (I.get e1);refine⟨_,_,_,_,_,_,_,fun i=>xs.getD i 0,rfl,(Walks.list (A:=A.in1) hA.handled s.heap.objs.size a (Nat.ne_of_lt hlt) vs).toS,⟨⟨_,Heap.get?_push_size _ rfl,rfl,rfl⟩,⟨_,Heap.get?_push_of_some _ (I.get e1),rfl,_,rfl⟩⟩,fun b hb=>?_,fun i v hv=>hg i v (by simpa using hv),fun s' t' hm=>?_⟩
 ·show b<(s.heap.push _).objs.size;rw[Heap.size_push];simp only[List.mem_cons,List.not_mem_nil,or_false] at hb
  rcases hb with rfl|rfl
  ·exact Nat.lt_succ_self _
  ·exact Nat.lt_succ_of_lt hlt
 ·rw[AhH,List.take_of_length_le (by rw[← hl];simp)];exact⟨g,Aj6 O I hm,.int⟩
end
structure AbP(G:Heap)(names:Nat→Nat→Str)(R:List (Addr×Addr))(h:Heap):Prop where
 hd:∀ q∈R,CodeHd h q.1 q.2
 out:∀ q∈R,G.get? q.2=none
 tab:∀ q∈R,∃ ps,h.get? q.2=some (tabObj ps)∧TriplesOk ps.toList∧∀ pos cv,codeAmong pos ps.toList=some cv→∃ c' P',cv=.ref c'∧(c',P')∈R∧h.CodeRec cv (names pos.line pos.col)
theorem CodeHd.obj{h:Heap}{c P:Addr}(x:CodeHd h c P):∃ o,h.get? c=some o∧AcK o∧Abp o:=by
 obtain⟨o,vs,_,_,_,_,_,_,_,e1,e2,e3,_⟩:=x
 exact⟨o,e1,⟨⟨vs,e3⟩,.inr e2⟩,Aal e2⟩
theorem CodeHd.move{h h':Heap}{c P:Addr}(x:CodeHd h c P)(k:∀ o,h.get? c=some o→AcK o→Abp o→h'.get? c=some o):CodeHd h' c P:=by
 refine Adc (CodeHd.obj x) fun o e1 e2 e3=>?_;have e4:=k o e1 e2 e3
 obtain⟨o',vs,f,tf,fl,tg,b,n,tt,e,r⟩:=x
 rw[e1] at e;cases e;exact⟨o,vs,f,tf,fl,tg,b,n,tt,e4,r⟩
theorem AbB{h h':Heap}{c:Addr}{q:Str}{o:Obj}(x:h.CodeRec (.ref c) q)(e:h.get? c=some o)(e':h'.get? c=some o):h'.CodeRec (.ref c) q:=by
 refine ADO x fun c₂ o₂ vs t e1 e2 r=>?_
 cases e1
 rw[e] at e2;cases e2;exact⟨c,o,vs,t,rfl,e',r⟩
theorem Aru(ps:Array Value):AcK (tabObj ps):=⟨⟨ps,rfl⟩,.inl rfl⟩
theorem AdQ(ps:Array Value):¬ Abp (tabObj ps):=fun h=>h ⟨rfl,ps,rfl⟩
theorem AbP.keeps{G:Heap}{names:Nat→Nat→Str}{R:List (Addr×Addr)}{h h':Heap}(x:AbP G names R h)(k:∀ a o,h.get? a=some o→AcK o→h'.get? a=some o):AbP G names R h':=by refine⟨fun q hq=>CodeHd.move (x.hd q hq) fun o e t _=>k _ o e t,x.out,fun q hq=>?_⟩;refine Adc (x.tab q hq) fun ps e1 e2 e3=>?_;refine⟨ps,k _ _ e1 (Aru ps),e2,fun pos cv hc=>?_⟩;refine Adf (e3 pos cv hc) fun c' P' q1 hm hr=>?_;subst q1;refine Adc (CodeHd.obj (x.hd _ hm)) fun o f1 f2 _=>?_;exact⟨c',P',rfl,hm,AbB hr f1 (k _ o f1 f2)⟩
theorem Aji{pos pos':Pos}{c cv:Value}(l:List Value)(h:TriplesOk l)(e:codeAmong pos' (l++[rawInt pos.line,rawInt pos.col,c])=some cv) :
  codeAmong pos' l=some cv∨(pos'.line=pos.line∧pos'.col=pos.col∧cv=c):=by
 fun_induction TriplesOk l with
 |case1=>
  simp only[List.nil_append,rawInt,codeAmong] at e
  split at e
  ·rename_i hc;simp only[Bool.and_eq_true,beq_iff_eq,Int.natCast_inj] at hc
   cases e
   exact .inr ⟨hc.1.symm,hc.2.symm,rfl⟩
  ·exact Aah e
 |case2 a t b u x rest ih=>
  simp only[List.cons_append,codeAmong] at e ⊢
  split at e
  ·rename_i hc;rw[if_pos hc];exact .inl e
  ·rename_i hc;rw[if_neg hc];exact ih h e
 |case3 l h1 h2=>exact h.elim
theorem AbP.grow{G:Heap}{names:Nat→Nat→Str}{R:List (Addr×Addr)}{h h':Heap}{c P c' P':Addr}{ps:Array Value}{pos:Pos}{q:Str}(x:AbP G names R h)(hm:(c,P)∈R)(hP:h.get? P=some (tabObj ps))(ht:TriplesOk ps.toList)
  (hx:Heap.ExtBut P h h') (hn:names pos.line pos.col=q) (hr:h'.CodeRec (.ref c') q) (hd':CodeHd h' c' P') (hP':h'.get? P'=some (tabObj #[])) (hG:G.get? P'=none) (hne:P'≠P)
  (hnew:h'.get? P=some (tabObj (ps++#[rawInt pos.line,rawInt pos.col,.ref c']))):AbP G names ((c',P') :: R) h':=by
 have ne:∀ a o,h.get? a=some o→Abp o→a≠P:=by intro a o e n q2;subst q2;rw[hP] at e;cases e;exact AdQ ps n
 refine⟨fun q hq=>?_,fun q hq=>?_,fun q hq=>?_⟩
 ·rcases List.mem_cons.mp hq with rfl|hq
  ·exact hd'
  ·exact CodeHd.move (x.hd q hq) fun o e _ n=>hx _ _ (ne _ o e n) e
 ·rcases List.mem_cons.mp hq with rfl|hq
  ·exact hG
  ·exact x.out q hq
 ·rcases List.mem_cons.mp hq with rfl|hq
  ·exact⟨#[],hP',trivial,fun pos cv hc=>by simp [codeAmong] at hc⟩
  ·have old:∀ {cv:Value} {pos:Pos},(∃ c₂ P₂,cv=.ref c₂∧(c₂,P₂)∈R∧h.CodeRec cv (names pos.line pos.col))→∃ c₂ P₂,cv=.ref c₂∧(c₂,P₂)∈(c',P') :: R∧h'.CodeRec cv (names pos.line pos.col):=by intro cv pos q3;refine Adf q3 fun c₂ P₂ z1 hm₂ hr₂=>?_;subst z1;refine Adc (CodeHd.obj (x.hd _ hm₂)) fun o f1 f2 f3=>?_;exact⟨c₂,P₂,rfl,.tail _ hm₂,AbB hr₂ f1 (hx _ _ (ne _ o f1 f3) f1)⟩
   refine Adc (x.tab q hq) fun ps₂ e1 e2 e3=>?_
   by_cases hqP:q.2=P
   ·rw[hqP,hP] at e1
    cases e1
    refine⟨_,hqP ▸ hnew,?_,fun pos' cv hc=>?_⟩
    ·simpa using TriplesOk_snoc _ _ (.ref c') _ e2
    ·have hl:(ps++#[rawInt pos.line,rawInt pos.col,Value.ref c']).toList=ps.toList++[rawInt pos.line,rawInt pos.col,.ref c']:=by simp
     rw[hl] at hc
     rcases Aji _ e2 hc with hc|⟨h1,h2,rfl⟩
     ·exact old (e3 pos' cv hc)
     ·exact⟨c',P',rfl,.head _,by rw[h1,h2,hn];exact hr⟩
   ·exact⟨ps₂,hx _ _ hqP e1,e2,fun pos' cv hc=>old (e3 pos' cv hc)⟩
noncomputable def Arv(B:Bs)(names:Nat→Nat→Str)(tabs:List (Addr×Addr)):Prop:=∀ h,B.tb h ↔ ∃ R,(∀ q∈tabs,q∈R)∧AbP B.G names R h
section
variable{B:Bs}{A:Around}{s s':Shared}{g g':Gh}
theorem Aae.table{P:Addr}{ps ps':Array Value}{h':Heap}{tk:Tok}(I:Inv B s g)(hP:s.heap.get? P=some (tabObj ps))(hG:B.G.get? P=none)(hx:Heap.ExtBut P s.heap h')(hl:h'.get? P=some (tabObj ps'))(ht:B.tb h') :
  Aae B s g {s with heap:=h',toks:=tk} g:=by
 have hg:g P=none:=by
  cases e:g P with
  |none=>rfl
  |some o=>
   have e2:=I.real P o e;rw[hP] at e2;cases e2
   rcases I.nt P _ e with h|h
   ·exact absurd h (AdQ ps)
   ·rw[hG] at h;exact Aah h
 refine⟨g.le_refl,⟨I.base,fun a o e=>hx a o ?_ (I.real a o e),I.nt,ht,I.gens,I.os⟩,⟨fun a o e n=>hx a o ?_ e,fun a o e=>?_⟩,fun _ _ e=>.inl e⟩
 ·intro q4;subst q4;rw[hg] at e;exact Aah e
 ·intro q5;subst q5;rw[hP] at e;cases e;exact AdQ ps n
 ·by_cases h:a=P
  ·subst h;exact⟨_,hl⟩
  ·exact⟨o,hx a o h e⟩
end
noncomputable def Aw9(B:Bs):Prop:=∃ bm ob,B.mg "__builtins__"=some (.ref bm)∧bm≠builtinsNs∧B.G.get? bm=some ob∧ob.cls=.type "module"∧ob.dict=some builtinsNs∧ob.data=.plain
structure Af0(h:Heap)(g:Gh)(a:Addr)(fd:FuncData)(params:Arguments)(body:FuncBody)(scope:Scope)(clos:List (Str×Addr)):Prop where
 obj:g a=some {cls:=.type "function",data:=.func fd}
 code:∃ c o,fd.code=.ref c∧h.get? c=some o∧Abp o∧h.CodeRec fd.code fd.qualname
 params:fd.params=params
 body:fd.body=body
 scope:fd.scope=scope
 glob:fd.globals=mainGlobals
 blt:fd.builtins=builtinsNs
 clos:fd.closure=clos
 defs:fd.defaults=.none∧fd.kwdefaults=.none
section
variable{B:Bs}{A:Around}{s s':Shared}{g g':Gh}
theorem Af0.step{a:Addr}{fd:FuncData}{params:Arguments}{body:FuncBody}{scope:Scope}{clos:List (Str×Addr)}(m:Af0 s.heap g a fd params body scope clos)(x:Aae B s g s' g'):Af0 s'.heap g' a fd params body scope clos:=by refine Akr m.code fun c o e1 e2 e3 e4=>?_;refine⟨x.le _ _ m.obj,⟨c,o,e1,x.ext.keep _ _ e2 e3,e3,?_⟩,m.params,m.body,m.scope,m.glob,m.blt,m.clos,m.defs⟩;rw[e1] at e4 ⊢;exact AbB e4 e2 (x.ext.keep _ _ e2 e3)
theorem Arw{names:Nat→Nat→Str}{tabs:List (Addr×Addr)}(TT:Arv B names tabs)(I:Inv B s g){R:List (Addr×Addr)}(hR:∀ q∈tabs,q∈R)(X:AbP B.G names R s.heap){c P:Addr}{pos:Pos}{qual:Str}{t:Sem Value}
  (hm:(c,P)∈R) (hn:names pos.line pos.col=qual) {Q:Value→Shared→Prop} {E:Value→Shared→Prop}
  (hit:∀ {ps:Array Value} {cv:Value} {Q:Value→Shared→Prop},s.heap.IsCode c P ps→codeAmong pos ps.toList=some cv→Q cv s→wpAny B.M A t Q E s)
  (miss:∀ {ps:Array Value} {Q:Value→Shared→Prop},s.heap.IsCode c P ps→s.heap.TableAt c P ps→codeAmong pos ps.toList=none →
   (∀ c' h' tk,Heap.ExtBut P s.heap h'→s.heap.objs.size≤c'→c'<h'.objs.size→h'.IsCode c P (ps++#[rawInt pos.line,rawInt pos.col,.ref c'])→h'.CodeRec (.ref c') qual →
    h'.TableAt c P (ps++#[rawInt pos.line,rawInt pos.col,.ref c'])→(∃ P',s.heap.objs.size≤P'∧h'.IsCode c' P' #[]∧h'.TableAt c' P' #[]) →
    Q (.ref c') {s with heap:=h',toks:=tk})→wpAny B.M A t Q E s)
  (h:∀ c' P' o s' R',Aae B s g s' g→AbP B.G names R' s'.heap→(∀ q∈R,q∈R')→(c',P')∈R'→s'.heap.get? c'=some o→Abp o→s'.heap.CodeRec (.ref c') qual→Q (.ref c') s') :
  wpAny B.M A t Q E s:=by
 have hq:=hm;refine Adc (X.tab _ hq) fun ps e1 e2 e3=>?_;have C:=X.hd _ hq
 cases hf:codeAmong pos ps.toList with
 |some cv=>
  (refine Adf (e3 pos cv hf) fun c' P' q1 hm' hr=>?_;subst q1)
  refine Adc (CodeHd.obj (X.hd _ hm')) fun o f1 _ f3=>?_;exact hit (C.code e1 e2) hf (h c' P' o s R (Aae.refl I) X (fun _ hq=>hq) hm' f1 f3 (hn ▸ hr))
 |none=>
  refine miss (C.code e1 e2) (C.tab e1) hf fun c' h' tk hx hge hlt _ hrec htb ⟨P',hP',hic,hta⟩=>?_;have C':=CodeHd.of hic hta;have hne:P'≠P:=Nat.ne_of_gt (Nat.lt_of_lt_of_le (Heap.lt_size e1) hP');have hG:B.G.get? P'=none:=by
   cases e:B.G.get? P' with
   |none=>rfl
   |some o=>exact absurd (Heap.lt_size (I.real _ _ (I.base _ _ e))) (Nat.not_lt.mpr hP')
  have X':=X.grow hq e1 e2 hx hn hrec C' hta.2 hG hne htb.2;refine Adc (CodeHd.obj C') fun o f1 _ f3=>?_;exact h c' P' o _ _ (Aae.table I e1 (X.out _ hq) hx htb.2 ((TT _).mpr ⟨_,fun q hq=>.tail _ (hR q hq),X'⟩)) X' (fun _ hq=>.tail _ hq) (.head _) f1 f3 hrec
theorem AlN{names:Nat→Nat→Str}{tabs:List (Addr×Addr)}(TT:Arv B names tabs)(I:Inv B s g){R:List (Addr×Addr)}(hR:∀ q∈tabs,q∈R)(X:AbP B.G names R s.heap){env:Env}{c P:Addr}{pos:Pos}{firstLine:Nat}{name qual:Str}{p:Arguments}{scope:Scope}{body:FuncBody}
  (hcode:env.code=.ref c) (hm:(c,P)∈R) (hn:names pos.line pos.col=qual) {Q:Value→Shared→Prop} {E:Value→Shared→Prop}
  (h:∀ c' P' o s' R',Aae B s g s' g→AbP B.G names R' s'.heap→(∀ q∈R,q∈R')→(c',P')∈R'→s'.heap.get? c'=some o→Abp o→s'.heap.CodeRec (.ref c') qual→Q (.ref c') s') :
  wpAny B.M A (functionCode env pos firstLine name qual p scope body) Q E s:=
 Arw TT I hR X hm hn (fun hi hf hq=>wpAny_functionCode_hit hcode hi hf hq) (fun hi ht hf hk=>wpAny_functionCodeX hcode hi ht hf hk) h
theorem Aob(O:B.Ok)(hb:Aw9 B){names:Nat→Nat→Str}{tabs:List (Addr×Addr)}(TT:Arv B names tabs)(I:Inv B s g){R:List (Addr×Addr)}(hR:∀ q∈tabs,q∈R)(X:AbP B.G names R s.heap){env:Env}{c P:Addr}{pos:Pos}{firstLine:Nat}{name qual:Str}{params:Arguments}{scope:Scope}{body:FuncBody}
  {clos:List (Str×Addr)} (hcl:closureFor scope env=pure clos) (hge:env.globals=mainGlobals) (hcode:env.code=.ref c) (hm:(c,P)∈R) (hn:names pos.line pos.col=qual) {Q:Value→Shared→Prop} {E:Value→Shared→Prop}
  (h:∀ a fd s' g' R',Aae B s g s' g'→AbP B.G names R' s'.heap→(∀ q∈R,q∈R')→s.heap.get? a=none→Af0 s'.heap g' a fd params body scope clos→Q (.ref a) s') :
  wpAny B.M A (makeFunction name qual params body scope env [] [] [] pos firstLine) Q E s:=by
 refine AFa hb fun bm ob b1 b2 b3 b4 b5 b6=>?_;rw[makeFunction_eq];simp only[List.zip_nil_right,List.filterMap_nil,List.isEmpty_nil,if_true,pure_bind];unfold makeTail;rw[hcl,hge];refine wpAny_bind (wpAny_pure ?_);have fin:∀ (s1 s2:Shared) (R2:List (Addr×Addr)) (x1:Aae B s g s1 g) (x2:Aae B s1 g s2 g) (X2:AbP B.G names R2 s2.heap) (hR2:∀ q∈R,q∈R2) (c':Addr) (o:Obj) (f1:s2.heap.get? c'=some o) (f2:Abp o) (f3:s2.heap.CodeRec (.ref c') qual) (ctv doc:Value) (tk:Tok),
   wpAny B.M A (newObj (.type "function") (.func {name,qualname:=qual,params,body,scope,globals:=mainGlobals,closure:=clos,closureTuple:=ctv,code:=.ref c',builtins:=builtinsNs,defaults:=.none,kwdefaults:=.none,annotations:=none,pyModule:=(B.mg "__name__").getD .none,doc})) Q E {s2 with toks:=tk}:=by
  intro s1 s2 R2 x1 x2 X2 hR2 c' o f1 f2 f3 ctv doc tk;exact wpAny_newObj_type (h _ _ _ _ R2 ((x1.trans x2).trans ((Aae.tok x2.inv tk).trans (Aae.alloc O (x2.inv.tok tk) rfl (Aal rfl)))) (X2.keeps fun a o e _=>Heap.get?_push_of_some _ e) hR2 ((x1.trans x2).ext.dead (AaM _)) ⟨Gh.put_self ..,⟨c',o,rfl,Heap.get?_push_of_some _ f1,f2,f3.push _⟩,rfl,rfl,rfl,rfl,rfl,rfl,rfl,rfl⟩) (by size_fits)
 induction clos using List.casesOn with
 |nil=>
  simp only[List.isEmpty_nil,if_true];refine wpAny_bind (wpAny_pure ?_);refine wpAny_bind (AlN TT I hR X hcode hm hn fun c' P' o s2 R2 x2 X2 hR2 _ f1 f2 f3=>?_);have hg:=x2.inv.ns O.g;refine wpAny_bind (wpAny_builtinsFor hg b1 b2 (x2.inv.real _ _ (x2.inv.base _ _ b3)) b4 b5 b6 ?_);refine wpAny_bind (wpAny_nsGet hg ?_)
  cases body with
  |expr e=>exact wpAny_bind (wpAny_pure (fin _ _ R2 (Aae.refl I) x2 X2 hR2 c' o f1 f2 f3 _ .none s2.toks))
  |stmts b=>
   refine wpAny_bind ?_
   cases hdoc:docOf b with
   |none=>exact wpAny_pure (fin _ _ R2 (Aae.refl I) x2 X2 hR2 c' o f1 f2 f3 _ .none s2.toks)
   |some t=>exact wpAny_mkText (fin _ _ R2 (Aae.refl I) x2 X2 hR2 c' o f1 f2 f3 _ _ _)
 |cons q r=>
  simp only[List.isEmpty_cons,Bool.false_eq_true,if_false];refine wpAny_bind (wpAny_newTextTuple ?_);refine wpAny_bind (AlN TT (Aae.open O I).inv hR (X.keeps fun a o e _=>Heap.get?_push_of_some _ e) hcode hm hn fun c' P' o s2 R2 x2 X2 hR2 _ f1 f2 f3=>?_);have hg:=x2.inv.ns O.g;refine wpAny_bind (wpAny_builtinsFor hg b1 b2 (x2.inv.real _ _ (x2.inv.base _ _ b3)) b4 b5 b6 ?_);refine wpAny_bind (wpAny_nsGet hg ?_)
  cases body with
  |expr e=>exact wpAny_bind (wpAny_pure (fin _ _ R2 (Aae.open O I) x2 X2 hR2 c' o f1 f2 f3 _ .none s2.toks))
  |stmts b=>
   refine wpAny_bind ?_
   cases hdoc:docOf b with
   |none=>exact wpAny_pure (fin _ _ R2 (Aae.open O I) x2 X2 hR2 c' o f1 f2 f3 _ .none s2.toks)
   |some t=>exact wpAny_mkText (fin _ _ R2 (Aae.open O I) x2 X2 hR2 c' o f1 f2 f3 _ _ _)
theorem Am7(O:B.Ok)(hb:Aw9 B){names:Nat→Nat→Str}{tabs:List (Addr×Addr)}(TT:Arv B names tabs)(I:Inv B s g){env:Env}{c P:Addr}{pos:Pos}{firstLine:Nat}{name qual:Str}{params:Arguments}{scope:Scope}{body:FuncBody}
  {clos:List (Str×Addr)} (hcl:closureFor scope env=pure clos) (hge:env.globals=mainGlobals) (hcode:env.code=.ref c) (hm:(c,P)∈tabs) (hn:names pos.line pos.col=qual) {Q:Value→Shared→Prop} {E:Value→Shared→Prop}
  (h:∀ a fd s' g',Aae B s g s' g'→Af0 s'.heap g' a fd params body scope clos→Q (.ref a) s') :
  wpAny B.M A (makeFunction name qual params body scope env [] [] [] pos firstLine) Q E s:=by
 refine Aab ((TT _).mp I.tb) fun R hR X=>?_;exact Aob O hb TT I hR X hcl hge hcode (hR _ hm) hn fun a fd s' g' R' x _ _ _ m=>h a fd s' g' x m
end
section
variable{B:Bs}{A:Around}{s s':Shared}{g g':Gh}
noncomputable def Ac3(h:Heap)(g:Gh)(names:List (Str×NameKind))(cl:List (Str×Addr))(σ:Rho):Prop:=
 (∀ x,names.lookup x=some .free→∃ c v,cl.lookup x=some c∧h.IsCell c v)∧(∀ x c,cl.lookup x=some c→∃ v,h.IsCell c v) ∧
 ∀ x d,σ.lookup x=some d→(x,NameKind.cell) ∉ names∧names.lookup x=some .free∧∃ c v,cl.lookup x=some c∧h.IsCell c (some v)∧Den g v d
theorem Ac3.step{names:List (Str×NameKind)}{cl:List (Str×Addr)}{σ:Rho}(C:Ac3 s.heap g names cl σ)(x:Aae B s g s' g'):Ac3 s'.heap g' names cl σ:=by
 refine⟨fun y e=>?_,fun y c e=>?_,fun y d e=>?_⟩
 ·refine Ad9 (C.1 y e) fun c v e1 e2=>?_;exact⟨c,v,e1,AcO e2 x.ext⟩
 ·refine Abm (C.2.1 y c e) fun v e2=>?_;exact⟨v,AcO e2 x.ext⟩
 ·obtain⟨e0,e1,c,v,e2,e3,e4⟩:=C.2.2 y d e;exact⟨e0,e1,c,v,e2,AcO e3 x.ext,e4.mono x.le⟩
theorem Ahm(O:B.Ok)(I:Inv B s g){scope:Scope}{qual:Str}{func:Option Addr}{code:Value}{xs:List Str}{vs:List Value}{ds:List D}{Q:Env→Shared→Prop}{cl:List (Str×Addr)}{σ:Rho}
  (hk:scope.kind=.function) (C:Ac3 s.heap g scope.names cl σ) (hx:∀ x∈xs,scope.names.lookup x=some .local∨scope.names.lookup x=some .cell) (hl:xs.length=ds.length) (hv:Aar g vs ds)
  (h:∀ env s',env.scope=scope→env.code=code→env.qual=qual→Fm B s g (Aak scope.names) env ((xs.zip ds).reverse++σ) s' g→Q env s') :
  wpAny B.M A (newFunctionEnv scope mainGlobals cl (xs.zip vs) qual func code none builtinsNs) Q (fun _ _=>False) s:=by
 simp only[newFunctionEnv,Option.isSome_none,Bool.false_eq_true,if_false];refine wpAny_bind (wpAny_alloc ?_);refine wpAny_bind (wpAny_layCells _ (fun name kind cells=>by cases hkc:kind == NameKind.cell<;>simp) _ _ _ _ ?_);rw[show({s with heap:=s.heap.push {cls:=.type "frame",data:=.dict #[]}}:Shared).heap.objs.size=s.heap.objs.size+1 from Heap.size_push ..];have kf:∀ x,scope.names.lookup x=some .cell→(x,NameKind.cell)∈scope.names:=fun x e=>PySem.mem_of_lookup e;have F:=Aq9 (names:=scope.names) (cl:=cl) (ρ:=σ) (cls:=.type "frame") (env:=newEnv scope s.heap.objs.size mainGlobals (cellsFrom (s.heap.objs.size+1) scope.names cl) qual func code none builtinsNs) O I rfl rfl hk rfl rfl
  (fun x e=>e.elim (fun e=>.inl (kf x e)) fun e=>.inr (C.1 x e)) (fun x c e=>by refine Ad9 (C.2.1 x c e) fun v o e2 _=>?_;exact Heap.lt_size e2)
  (fun x d e=>by refine Ahs (C.2.2 x d e) fun e0 e1 r=>?_;exact⟨e0,.inr e1,r⟩)
 refine wpAny_bind ?_;refine Fm.binds O _ (fun _ _ _=>rfl) xs vs ds _ _ _ F hv hl (fun x hxx=>?_) fun s' F'=>wpAny_pure (h _ s' rfl rfl rfl F')
 rcases hx x hxx with e|e
 ·exact .inl e
 ·exact .inr ⟨e,Afr.mpr (kf x e)⟩
noncomputable def Ac4(sc:Scope)(params:List Str):Bool:=
 decide (sc.kind=.function) && !sc.isGenerator && !sc.isCoroutine && params.all (fun x=>sc.names.lookup x == some .local || sc.names.lookup x == some .cell)
theorem Adi{sc:Scope}{params:List Str}(h:Ac4 sc params=true):sc.kind=.function∧sc.isGenerator=false∧sc.isCoroutine=false∧∀ x∈params,sc.names.lookup x=some .local∨sc.names.lookup x=some .cell:=by unfold Ac4 at h;simp only[Bool.and_eq_true,decide_eq_true_eq,Bool.not_eq_true',List.all_eq_true,Bool.or_eq_true,beq_iff_eq] at h;refine Aaz h fun z1 h5=>?_;obtain⟨⟨h1,h2⟩,h3⟩:=z1;exact⟨h1,h2,h3,h5⟩
noncomputable def AhI(params:Arguments)(xs:List Str):Prop:=∀ (fd:FuncData) (vs:List Value),fd.params=params→fd.defaults=.none→fd.kwdefaults=.none→vs.length=xs.length→bindArgs fd ⟨vs,[]⟩=pure (xs.zip vs)
variable{n:Nat}
theorem Aoc(O:B.Ok){a:Addr}{fd:FuncData}{params:Arguments}{xs:List Str}{body:List Stmt}{scope:Scope}{cl:List (Str×Addr)}{σ:Rho}(Md:Af0 s.heap g a fd params (.stmts body) scope cl)(hb:AhI params xs)(hs:Ac4 scope xs=true)(C:Ac3 s.heap g scope.names cl σ)
  {vs:List Value} {ds:List D} (hA:AOk (n+1) A) (I:Inv B s g) (hd:Aar g vs ds) (hl:xs.length=ds.length) {P:Gh→Value→Prop}
  (h:∀ env s',env.scope=scope→env.code=fd.code→Fm B s g (Aak scope.names) env ((xs.zip ds).reverse++σ) s' g →
   wpAny B.M (A.deeper env) (execs body env) (fun f s''=>∃ g',Aae B s g s'' g'∧P g' (match f with|.ret v=>v|_=>.none)) (fun _ _=>False) s') :
  Aaq B A s g (call (.ref a) vs) P:=by
 refine Akr Md.code fun c o _ _ _ hcd=>?_;refine AoR (Adi hs) fun h1 h2 h3 h5=>?_;refine wpAny_call (codeAny_call_function hA.dlt (I.get Md.obj) rfl (by rw[Md.scope];exact h3) (by rw[Md.scope];exact h2) Md.body hcd ?_);rw[hb fd vs Md.params Md.defs.1 Md.defs.2 (by rw[hd.length,hl])];refine wpAny_pure ?_;rw[Md.glob,Md.clos,Md.blt,Md.scope];refine wpAny_mono (Ahm O I h1 C h5 hl hd (Q:=fun env s'=>s'.heap.NoLimit∧codeAny B.M A (.func body env) (fun r s'=>match r with|.ok (.ret v)=>∃ g',Aae B s g s' g'∧P g' v|.ok _=>False|.error e=>False) s') fun env s' e1 e2 e3 F=>⟨?_,?_⟩) (fun _ _ h=>h) fun _ _ h=>h.elim
 ·refine Aab O.lim fun mc hmc hno=>?_;exact⟨mc,F.inv.ns hmc,hno⟩
 ·exact codeAny_func (wpAny_mono (h env s' e1 e2 F) (fun f s'' h=>h) fun _ _ h=>h.elim)
theorem Arx(O:B.Ok){a:Addr}{fd:FuncData}{params:Arguments}{xs:List Str}{body:Expr}{scope:Scope}{cl:List (Str×Addr)}{σ:Rho}(Md:Af0 s.heap g a fd params (.expr body) scope cl)(hb:AhI params xs)(hs:Ac4 scope xs=true)(C:Ac3 s.heap g scope.names cl σ)
  {vs:List Value} {ds:List D} (hA:AOk (n+1) A) (I:Inv B s g) (hd:Aar g vs ds) (hl:xs.length=ds.length) {P:Gh→Value→Prop}
  (h:∀ env s',env.scope=scope→env.code=fd.code→Fm B s g (Aak scope.names) env ((xs.zip ds).reverse++σ) s' g→Aaq B (A.deeper env) s' g (eval body env) P) :
  Aaq B A s g (call (.ref a) vs) P:=by
 refine Akr Md.code fun c o _ _ _ hcd=>?_;refine AoR (Adi hs) fun h1 h2 h3 h5=>?_;refine wpAny_call (kla_callFunE hA.dlt (I.get Md.obj) rfl (by rw[Md.scope];exact h3) (by rw[Md.scope];exact h2) Md.body hcd ?_);rw[hb fd vs Md.params Md.defs.1 Md.defs.2 (by rw[hd.length,hl])];refine wpAny_pure ?_;rw[Md.glob,Md.clos,Md.blt,Md.scope];refine wpAny_mono (Ahm O I h1 C h5 hl hd (Q:=fun env s'=>s'.heap.NoLimit∧codeAny B.M A (.expr body env) (fun r s'=>match r with|.ok (.ret v)=>∃ g',Aae B s g s' g'∧P g' v|.ok _=>False|.error e=>False) s') fun env s' e1 e2 e3 F=>⟨?_,?_⟩) (fun _ _ h=>h) fun _ _ h=>h.elim
 ·refine Aab O.lim fun mc hmc hno=>?_;exact⟨mc,F.inv.ns hmc,hno⟩
 ·exact kla_codeExpr (wpAny_mono ((h env s' e1 e2 F).from F.st) (fun f s'' h=>h) fun _ _ h=>h.elim)
end
open MeetsSeq
noncomputable def Adj:List Str→List Str→Bool
 |[],[]=>false
 |[],_ :: _=>true
 |_ :: _,[]=>false
 |x :: xs,y :: ys=>if x=y then Adj xs ys else decide (x.cps.toList<y.cps.toList)
theorem Act{l:List (Str×Tok)}{i:Nat}(h:l[i]?=none):(strValues l)[i]?=none:=by unfold strValues;rw[List.getElem?_map,h];rfl
theorem Acu{l:List (Str×Tok)}{i:Nat}{p:Str×Tok}(h:l[i]?=some p):(strValues l)[i]?=some (.str p.1 p.2):=by unfold strValues;rw[List.getElem?_map,h];rfl
theorem AbQ{α:Type}{l:List α}{i:Nat}{x:α}(h:l[i]?=some x):l.drop i=x :: l.drop (i+1):=by refine Abm (List.getElem?_eq_some_iff.mp h) fun hi q1=>?_;subst q1;exact List.drop_eq_getElem_cons hi
theorem Acb{α:Type}{l:List α}{i:Nat}(h:l[i]?=none):l.drop i=[]:=by rw[List.getElem?_eq_none_iff] at h;exact List.drop_eq_nil_of_le h
section
variable{prog:Program}{w:World}{A:Around}{E:Value→Shared→Prop}{s:Shared}
theorem AhJ{x y:Str}{t u:Tok}{Q:Value→Shared→Prop}(h:Q (.bool (decide (x.cps.toList<y.cps.toList))) s):wpAny (model prog w) A (richCompare .Lt (.str x t) (.str y u)) Q E s:=
 PyProof.Rows.lt_str h
theorem AhK{x y:Str}{t u:Tok}{Q:Value→Shared→Prop}(h:Q (.bool (decide (y.cps.toList<x.cps.toList))) s):wpAny (model prog w) A (richCompare .Gt (.str x t) (.str y u)) Q E s:=
 P.gt_str h
end
theorem Ax8(l b:Addr)(xs ys:List (Str×Tok))(n n2:Nat) :
  ∀ (k i:Nat),xs.length - i=k→i≤xs.length→i≤ys.length→Meets (Builtin.«list.__eq__.loop» ⟨[.ref l,.ref b,rawInt i,rawInt 0],[]⟩)
   (fun _ R s=>s.heap.get? l=some {cls:=.type "list",dict:=none,data:=.seq (strValues xs).toArray n,slots:=#[]}∧s.heap.get? b=some {cls:=.type "list",dict:=none,data:=.seq (strValues ys).toArray n2,slots:=#[]} ∧
    R (.ok (.ret (.bool (Adj ((xs.drop i).map (·.1)) ((ys.drop i).map (·.1)))))) s):=by
 have sz:∀ l:List (Str×Tok),(strValues l).toArray.size=l.length:=fun l=>by simp [strValues]
 have stop:∀ i:Nat,(xs[i]?=none∨ys[i]?=none)→Meets (Builtin.«list.__eq__.loop» ⟨[.ref l,.ref b,rawInt i,rawInt 0],[]⟩)
   (fun _ R s=>s.heap.get? l=some {cls:=.type "list",dict:=none,data:=.seq (strValues xs).toArray n,slots:=#[]}∧s.heap.get? b=some {cls:=.type "list",dict:=none,data:=.seq (strValues ys).toArray n2,slots:=#[]} ∧
    (i≤xs.length∧i≤ys.length)∧R (.ok (.ret (.bool (Adj ((xs.drop i).map (·.1)) ((ys.drop i).map (·.1)))))) s):=by
  intro i hi prog w A R s h
  obtain⟨hp,g,d,tk,os⟩:=s;refine AoR h fun hl hb hle h=>?_
  wp_walk using wpAny_loadPart' hl,wpAny_loadPart' hb
  have fin:decide ((strValues xs).toArray.size<(strValues ys).toArray.size)=Adj ((xs.drop i).map (·.1)) ((ys.drop i).map (·.1)):=by
   rw[sz,sz]
   cases e1:xs[i]? with
   |none=>
    have h1:=List.getElem?_eq_none_iff.mp e1;rw[Acb e1]
    cases e2:ys[i]? with
    |none=>rw[Acb e2];have:=List.getElem?_eq_none_iff.mp e2;exact decide_eq_false (by omega)
    |some q=>rw[AbQ e2];have:=(List.getElem?_eq_some_iff.mp e2).1;exact decide_eq_true (by omega)
   |some p=>
    have h1:=(List.getElem?_eq_some_iff.mp e1).1;have e2:ys[i]?=none:=hi.resolve_left (by rw[e1];simp);have h2:=List.getElem?_eq_none_iff.mp e2;rw[AbQ e1,Acb e2];exact decide_eq_false (by omega)
  rw[← fin] at h
  cases e1:(strValues xs).toArray[((i:Nat):Int).toNat]? with
  |none=>
   wp_walk using wpAny_loadPart' hl,wpAny_loadPart' hb
   exact h
  |some p=>
   have e2:(strValues ys).toArray[((i:Nat):Int).toNat]?=none:=by
    rcases hi with hi|hi
    ·have:=Act hi;simp [this] at e1
    ·have:=Act hi;simpa using this
   rw[e2]
   wp_walk using wpAny_loadPart' hl,wpAny_loadPart' hb
   exact h
 have main:∀ (k i:Nat),xs.length - i=k→i≤xs.length→i≤ys.length→Meets (Builtin.«list.__eq__.loop» ⟨[.ref l,.ref b,rawInt i,rawInt 0],[]⟩)
   (fun _ R s=>s.heap.get? l=some {cls:=.type "list",dict:=none,data:=.seq (strValues xs).toArray n,slots:=#[]}∧s.heap.get? b=some {cls:=.type "list",dict:=none,data:=.seq (strValues ys).toArray n2,slots:=#[]} ∧
    R (.ok (.ret (.bool (Adj ((xs.drop i).map (·.1)) ((ys.drop i).map (·.1)))))) s):=by
  intro k;induction k with
  |zero=>
   intro i hk h1 h2 prog w A R s h;exact stop i (.inl (List.getElem?_eq_none_iff.mpr (Nat.le_of_sub_eq_zero hk))) prog w A R s ⟨h.1,h.2.1,⟨h1,h2⟩,h.2.2⟩
  |succ k ih=>
   intro i hk h1 h2 prog w A R s h
   by_cases hy:i<ys.length
   ·obtain⟨hp,g,d,tk,os⟩:=s;refine Ahs h fun hl hb h=>?_
    have hx:i<xs.length:=Nat.lt_of_sub_pos (by rw[hk];exact Nat.succ_pos _)
    obtain⟨p,ep⟩:∃ p,xs[i]?=some p:=⟨_,List.getElem?_eq_getElem hx⟩
    obtain⟨q,eq⟩:∃ q,ys[i]?=some q:=⟨_,List.getElem?_eq_getElem hy⟩
    have i1:(strValues xs).toArray[((i:Nat):Int).toNat]?=some (.str p.1 p.2):=by have:=Acu ep;simpa using this
    have i2:(strValues ys).toArray[((i:Nat):Int).toNat]?=some (.str q.1 q.2):=by have:=Acu eq;simpa using this
    have hc:((i:Int)+1)=((i+1:Nat):Int):=by push_cast;rfl
    rw[AbQ ep,AbQ eq] at h
    change R (.ok (.ret (.bool (if p.1=q.1 then Adj ((xs.drop (i+1)).map (·.1)) ((ys.drop (i+1)).map (·.1)) else decide (p.1.cps.toList<q.1.cps.toList))))) _ at h
    wp_walk using wpAny_loadPart' hl,wpAny_loadPart' hb
    rw[i1,i2];refine wpAny_bind (wpAny_eqBool_str ?_)
    by_cases he:p.1=q.1
    ·rw[if_pos he] at h;rw[decide_eq_true he]
     wp_walk
     rw[hc];exact⟨plainId_quiet MeetsSeq3.plain_eq_loop _,codeAny_builtin MeetsSeq3.entry_eq_loop (by
      rw[Around.under_plainId MeetsSeq3.plain_eq_loop _];exact ih (i+1) (by rw[Nat.sub_succ,hk];rfl) hx hy prog w A R _ ⟨hl,hb,h⟩)⟩
    ·rw[if_neg he] at h;rw[decide_eq_false he]
     wp_walk using wpAny_loadPart' hl,wpAny_loadPart' hb
     rw[i1,i2];dsimp only;refine wpAny_bind (AhJ ?_);exact wpAny_pure h
   ·exact stop i (.inr (List.getElem?_eq_none_iff.mpr (Nat.le_of_not_lt hy))) prog w A R s ⟨h.1,h.2.1,⟨h1,h2⟩,h.2.2⟩
 exact main
theorem Ax9(l b:Addr)(xs ys:List (Str×Tok))(n n2:Nat) :
  ∀ (k i:Nat),xs.length - i=k→i≤xs.length→i≤ys.length→Meets (Builtin.«list.__eq__.loop» ⟨[.ref l,.ref b,rawInt i,rawInt 4],[]⟩)
   (fun _ R s=>s.heap.get? l=some {cls:=.type "list",dict:=none,data:=.seq (strValues xs).toArray n,slots:=#[]}∧s.heap.get? b=some {cls:=.type "list",dict:=none,data:=.seq (strValues ys).toArray n2,slots:=#[]} ∧
    R (.ok (.ret (.bool (Adj ((ys.drop i).map (·.1)) ((xs.drop i).map (·.1)))))) s):=by
 have sz:∀ l:List (Str×Tok),(strValues l).toArray.size=l.length:=fun l=>by simp [strValues]
 have stop:∀ i:Nat,(xs[i]?=none∨ys[i]?=none)→Meets (Builtin.«list.__eq__.loop» ⟨[.ref l,.ref b,rawInt i,rawInt 4],[]⟩)
   (fun _ R s=>s.heap.get? l=some {cls:=.type "list",dict:=none,data:=.seq (strValues xs).toArray n,slots:=#[]}∧s.heap.get? b=some {cls:=.type "list",dict:=none,data:=.seq (strValues ys).toArray n2,slots:=#[]} ∧
    (i≤xs.length∧i≤ys.length)∧R (.ok (.ret (.bool (Adj ((ys.drop i).map (·.1)) ((xs.drop i).map (·.1)))))) s):=by
  intro i hi prog w A R s h
  obtain⟨hp,g,d,tk,os⟩:=s;refine AoR h fun hl hb hle h=>?_
  wp_walk using wpAny_loadPart' hl,wpAny_loadPart' hb
  have fin:decide ((strValues xs).toArray.size > (strValues ys).toArray.size)=Adj ((ys.drop i).map (·.1)) ((xs.drop i).map (·.1)):=by
   rw[sz,sz]
   cases e1:xs[i]? with
   |none=>
    have h1:=List.getElem?_eq_none_iff.mp e1;rw[Acb e1]
    cases e2:ys[i]? with
    |none=>rw[Acb e2];have:=List.getElem?_eq_none_iff.mp e2;exact decide_eq_false (by omega)
    |some q=>rw[AbQ e2];have:=(List.getElem?_eq_some_iff.mp e2).1;exact decide_eq_false (by omega)
   |some p=>
    have h1:=(List.getElem?_eq_some_iff.mp e1).1;have e2:ys[i]?=none:=hi.resolve_left (by rw[e1];simp);have h2:=List.getElem?_eq_none_iff.mp e2;rw[AbQ e1,Acb e2];exact decide_eq_true (by omega)
  rw[← fin] at h
  cases e1:(strValues xs).toArray[((i:Nat):Int).toNat]? with
  |none=>
   wp_walk using wpAny_loadPart' hl,wpAny_loadPart' hb
   exact h
  |some p=>
   have e2:(strValues ys).toArray[((i:Nat):Int).toNat]?=none:=by
    rcases hi with hi|hi
    ·have:=Act hi;simp [this] at e1
    ·have:=Act hi;simpa using this
   rw[e2]
   wp_walk using wpAny_loadPart' hl,wpAny_loadPart' hb
   exact h
 have main:∀ (k i:Nat),xs.length - i=k→i≤xs.length→i≤ys.length→Meets (Builtin.«list.__eq__.loop» ⟨[.ref l,.ref b,rawInt i,rawInt 4],[]⟩)
   (fun _ R s=>s.heap.get? l=some {cls:=.type "list",dict:=none,data:=.seq (strValues xs).toArray n,slots:=#[]}∧s.heap.get? b=some {cls:=.type "list",dict:=none,data:=.seq (strValues ys).toArray n2,slots:=#[]} ∧
    R (.ok (.ret (.bool (Adj ((ys.drop i).map (·.1)) ((xs.drop i).map (·.1)))))) s):=by
  intro k;induction k with
  |zero=>
   intro i hk h1 h2 prog w A R s h;exact stop i (.inl (List.getElem?_eq_none_iff.mpr (Nat.le_of_sub_eq_zero hk))) prog w A R s ⟨h.1,h.2.1,⟨h1,h2⟩,h.2.2⟩
  |succ k ih=>
   intro i hk h1 h2 prog w A R s h
   by_cases hy:i<ys.length
   ·obtain⟨hp,g,d,tk,os⟩:=s;refine Ahs h fun hl hb h=>?_
    have hx:i<xs.length:=Nat.lt_of_sub_pos (by rw[hk];exact Nat.succ_pos _)
    obtain⟨p,ep⟩:∃ p,xs[i]?=some p:=⟨_,List.getElem?_eq_getElem hx⟩
    obtain⟨q,eq⟩:∃ q,ys[i]?=some q:=⟨_,List.getElem?_eq_getElem hy⟩
    have i1:(strValues xs).toArray[((i:Nat):Int).toNat]?=some (.str p.1 p.2):=by have:=Acu ep;simpa using this
    have i2:(strValues ys).toArray[((i:Nat):Int).toNat]?=some (.str q.1 q.2):=by have:=Acu eq;simpa using this
    have hc:((i:Int)+1)=((i+1:Nat):Int):=by push_cast;rfl
    rw[AbQ ep,AbQ eq] at h
    change R (.ok (.ret (.bool (if q.1=p.1 then Adj ((ys.drop (i+1)).map (·.1)) ((xs.drop (i+1)).map (·.1)) else decide (q.1.cps.toList<p.1.cps.toList))))) _ at h
    wp_walk using wpAny_loadPart' hl,wpAny_loadPart' hb
    rw[i1,i2];refine wpAny_bind (wpAny_eqBool_str ?_)
    by_cases he:p.1=q.1
    ·rw[if_pos he.symm] at h;rw[decide_eq_true he]
     wp_walk
     rw[hc];exact⟨plainId_quiet MeetsSeq3.plain_eq_loop _,codeAny_builtin MeetsSeq3.entry_eq_loop (by
      rw[Around.under_plainId MeetsSeq3.plain_eq_loop _];exact ih (i+1) (by rw[Nat.sub_succ,hk];rfl) hx hy prog w A R _ ⟨hl,hb,h⟩)⟩
    ·rw[if_neg fun e=>he e.symm] at h;rw[decide_eq_false he]
     wp_walk using wpAny_loadPart' hl,wpAny_loadPart' hb
     rw[i1,i2];dsimp only;refine wpAny_bind (AhK ?_);exact wpAny_pure h
   ·exact stop i (.inr (List.getElem?_eq_none_iff.mpr (Nat.le_of_not_lt hy))) prog w A R s ⟨h.1,h.2.1,⟨h1,h2⟩,h.2.2⟩
 exact main
theorem Aya(l b:Addr)(xs ys:List (Str×Tok))(n n2:Nat):Meets (Builtin.«list.__lt__» ⟨[.ref l,.ref b],[]⟩)
   (fun _ R s=>s.heap.get? l=some {cls:=.type "list",dict:=none,data:=.seq (strValues xs).toArray n,slots:=#[]}∧s.heap.get? b=some {cls:=.type "list",dict:=none,data:=.seq (strValues ys).toArray n2,slots:=#[]} ∧
    R (.ok (.ret (.bool (Adj (xs.map (·.1)) (ys.map (·.1)))))) s):=by
 intro prog w A R s h
 obtain⟨hp,g,d,tk,os⟩:=s;refine Ahs h fun hl hb h=>?_
 have f3:=AutoSeq1.sub_list_list
 wp_walk using wpAny_loadPart' hl,wpAny_loadPart' hb
 exact⟨plainId_quiet MeetsSeq3.plain_eq_loop _,codeAny_builtin MeetsSeq3.entry_eq_loop (by
  rw[Around.under_plainId MeetsSeq3.plain_eq_loop _];exact Ax8 l b xs ys n n2 _ 0 rfl (Nat.zero_le _) (Nat.zero_le _) prog w A R _ ⟨hl,hb,h⟩)⟩
theorem Ayb(l b:Addr)(xs ys:List (Str×Tok))(n n2:Nat):Meets (Builtin.«list.__gt__» ⟨[.ref l,.ref b],[]⟩)
   (fun _ R s=>s.heap.get? l=some {cls:=.type "list",dict:=none,data:=.seq (strValues xs).toArray n,slots:=#[]}∧s.heap.get? b=some {cls:=.type "list",dict:=none,data:=.seq (strValues ys).toArray n2,slots:=#[]} ∧
    R (.ok (.ret (.bool (Adj (ys.map (·.1)) (xs.map (·.1)))))) s):=by
 intro prog w A R s h
 obtain⟨hp,g,d,tk,os⟩:=s;refine Ahs h fun hl hb h=>?_
 have f3:=AutoSeq1.sub_list_list
 wp_walk using wpAny_loadPart' hl,wpAny_loadPart' hb
 exact⟨plainId_quiet MeetsSeq3.plain_eq_loop _,codeAny_builtin MeetsSeq3.entry_eq_loop (by
  rw[Around.under_plainId MeetsSeq3.plain_eq_loop _];exact Ax9 l b xs ys n n2 _ 0 rfl (Nat.zero_le _) (Nat.zero_le _) prog w A R _ ⟨hl,hb,h⟩)⟩
noncomputable def ltD(a b:D):Option Bool:=match a with
 |.int i=>Acf b fun j=>some (decide (i<j))
 |.str x=>AdH b fun y=>some (decide (x.cps.toList<y.cps.toList))
 |.list l=>Acx b fun m=>(Ac2 l).bind fun xs=>(Ac2 m).bind fun ys=>some (Adj xs ys)
 |_=>none
section
variable{B:Bs}{A:Around}{s:Shared}{g:Gh}
theorem Aj7{vs:Array Value}{l:List Value}(h:vs.toList=l):vs=l.toArray:=by rw[← h]
theorem AlO(I:Inv B s g){va vb:Value}{l m:List D}{xs ys:List Str}(ha:Den g va (.list l))(hb:Den g vb (.list m))(e1:Ac2 l=some xs)(e2:Ac2 m=some ys) :
  ∃ a b l1 l2 n1 n2,va=.ref a∧vb=.ref b∧s.heap.get? a=some {cls:=.type "list",dict:=none,data:=.seq (strValues l1).toArray n1,slots:=#[]}∧s.heap.get? b=some {cls:=.type "list",dict:=none,data:=.seq (strValues l2).toArray n2,slots:=#[]}∧l1.map (·.1)=xs∧l2.map (·.1)=ys:=by
 induction ha using Den.listE with|list h1 h2=>?_
 induction hb using Den.listE with|list h3 h4=>?_
 refine Aab (AcA h2 e1) fun l1 q1 r1=>?_;refine Aab (AcA h4 e2) fun l2 q2 r2=>?_;rw[Aj7 q1] at h1;rw[Aj7 q2] at h3;exact⟨_,_,l1,l2,_,_,rfl,rfl,I.get h1,I.get h3,r1,r2⟩
theorem Ayc(hu:A.units<cLine)(I:Inv B s g){va vb:Value}{a b:D}{c:Bool}(ha:Den g va a)(hb:Den g vb b)(h:ltD a b=some c):Aaq B A s g (richCompare .Lt va vb) fun _ v=>v=.bool c:=by
 induction a using D.casesOn with
 |int i=>
  (refine Aab (Aap h) fun j q2 k=>?_;subst q2)
  rw[← sj k];induction ha using Den.intE;induction hb using Den.intE;exact lt_int ⟨g,Aae.refl I,rfl⟩
 |str x=>
  (refine Aab (AaN h) fun y q3 k=>?_;subst q3)
  rw[← sj k];induction ha using Den.strE;induction hb using Den.strE;exact AhJ ⟨g,Aae.refl I,rfl⟩
 |list l=>
  (refine Aab (AaT h) fun m q4 k=>?_;subst q4)
  refine Aab (Aag k) fun xs e1 k1=>?_;refine Aab (Aag k1) fun ys e2 k2=>?_;rw[← sj k2];refine AFc (AlO I ha hb e1 e2) fun a b l1 l2 n1 n2 q5 q6 h1 h3 r1 r2=>?_;subst q5;subst q6;exact richCompare_meets_room (T:="list") ⟨_,h1,rfl⟩ ⟨_,h3,rfl⟩ F.slot_list_lt F.entry_list_lt (F.args_list_lt_2 _ _) (Aya _ _ l1 l2 _ _) ⟨h1,h3,(fun e=>nomatch e),g,Aae.refl I,by rw[r1,r2]⟩ hu
 |_=>exact Aah h
theorem Ayd(hu:A.units<cLine)(I:Inv B s g){va vb:Value}{a b:D}{c:Bool}(ha:Den g va a)(hb:Den g vb b)(h:ltD b a=some c):Aaq B A s g (richCompare .Gt va vb) fun _ v=>v=.bool c:=by
 induction b using D.casesOn with
 |int i=>
  (refine Aab (Aap h) fun j q7 k=>?_;subst q7)
  rw[← sj k];induction ha using Den.intE;induction hb using Den.intE;exact PyProof.Rows.gt_int ⟨g,Aae.refl I,rfl⟩
 |str x=>
  (refine Aab (AaN h) fun y q8 k=>?_;subst q8)
  rw[← sj k];induction ha using Den.strE;induction hb using Den.strE;exact AhK ⟨g,Aae.refl I,rfl⟩
 |list l=>
  (refine Aab (AaT h) fun m q9 k=>?_;subst q9)
  refine Aab (Aag k) fun xs e1 k1=>?_;refine Aab (Aag k1) fun ys e2 k2=>?_;rw[← sj k2];refine AFc (AlO I ha hb e2 e1) fun a b l1 l2 n1 n2 q10 q11 h1 h3 r1 r2=>?_;subst q10;subst q11;exact richCompare_meets_room (T:="list") ⟨_,h1,rfl⟩ ⟨_,h3,rfl⟩ F.slot_list_gt F.entry_list_gt (F.args_list_gt_2 _ _) (Ayb _ _ l1 l2 _ _) ⟨h1,h3,(fun e=>nomatch e),g,Aae.refl I,by rw[r1,r2]⟩ hu
 |_=>exact Aah h
end
end Mine
namespace Mine
open PySem PySem.W PyProof.Rows PySem.W.X
noncomputable def Am8(lt:D→D→Option Bool)(b:D):List D→Option D
 |[]=>some b
 |d :: ds=>(lt d b).bind fun c=>Am8 lt (if c=true then d else b) ds
noncomputable abbrev Aod(nm:String)(op:CmpOp)(it:Value)(S:Addr):Sem Fin:=(do
   let old:=((← seqItems? (.ref S)).getD #[]).toList
   let failing {α:Type} (first:List Value) (m:Sem α):Sem α:=m.tryCatch fun e=>do
    updateSeq S fun _=>#[]
    letGo (first++old.reverse) [e]
    throw e
   match ← failing [] (pyNext it) with
   |none=>
    match old,([]:List (Str×Value)) with
    |[item,val],_=>updateSeq S fun _=>#[];letGo [val] [item];ret item
    |_,(_,d) :: _=>rule s!"{nm}.default";ret d
    |_,[]=>rule s!"{nm}.empty";raiseError "ValueError" s!"{nm}() iterable argument is empty"
   |some item=>
    let val ← pure item
    match old with
    |[oldItem,oldVal]=>
     let better ← failing [val,item] <| holding [item,val] do
      let answer ← richCompare op val oldVal
      let yes ← holding [answer] (truthy answer)
      letGo [answer]
      pure yes
     if better then
      updateSeq S fun _=>#[item,val]
      letGo [oldVal,oldItem]
     else letGo [item,val]
    |_=>updateSeq S fun _=>#[item,val]
    again (.builtin s!"{nm}.loop" ⟨[it,.none,.ref S],[]⟩))
section
variable{B:Bs}{A:Around}{s₀ s:Shared}{g₀ g:Gh}
theorem Ary(O:B.Ok){id nm:String}{op:CmpOp}{lt:D→D→Option Bool}(hid:(toString nm++toString ".loop":String)=id)(hp:plainId id=true){bl:Builtin}(hb:entryFor table id=some bl)
  (hbl:∀ it S,bl ⟨[it,.none,.ref S],[]⟩=Aod nm op it S)
  (hcmp:∀ (s:Shared) (g:Gh) va vb a b c,Inv B s g→Den g va a→Den g vb b→lt a b=some c→Aaq B A.in1 s g (richCompare op va vb) fun _ v=>v=.bool c)
  (hh:A.handled=none) {It S:Addr} (h0:s₀.heap.get? It=none) (h1:s₀.heap.get? S=none) (hne:S≠It) {r:D} :
  ∀ (ds:List D) (db:D) (vb:Value) (c:Nat) (s:Shared) (g:Gh),Aae B s₀ g₀ s g→AaQ s.heap g It ds→g It=none→s.heap.get? S=some {cls:=.type "list",dict:=none,data:=.seq #[vb,vb] c,slots:=#[]}→g S=none→Den g vb db→Am8 lt db ds=some r →
   codeAny B.M A (.builtin id ⟨[.ref It,.none,.ref S],[]⟩) (fun res s'=>∃ v g',res=.ok (.ret v)∧Aae B s₀ g₀ s' g'∧Den g' v r) s:=by
 intro ds;induction ds with
 |nil=>
  intro db vb c s g x it gI hS gS hd hr;have hr:=sj hr;subst hr;refine codeAny_builtin hb ?_;rw[Around.under_plainId hp _,hbl];refine wpAny_bind (wpAny_seqItems hS rfl ?_);refine Aht it.noTabby fun oi hoi ht hn _=>?_;refine wpAny_bind (wpAny_tryCatch (Ahl (A:=A.in1) x.inv hh it fun h' k=>?_));have hS':=k S _ hne hS;have x1:Aae B s₀ g₀ {s with heap:=h'} g:=x.turnE O h0 gI hoi ht k rfl rfl;show wpAny _ A.in1 (updateSeq S (fun _=>#[]) >>= _) _ _ _;refine wpAny_bind (wpAny_updateSeq hS' rfl (wpAny_bind (wpAny_letGo (wpAny_pure ⟨_,g,rfl,?_,hd⟩))));exact x1.turn O h1 gS hS' (AaH rfl (by decide)) (Heap.SameBut.update ..) rfl rfl
 |cons d ds ih=>
  intro db vb c s g x it gI hS gS hd hr;refine codeAny_builtin hb ?_;rw[Around.under_plainId hp _,hbl];refine wpAny_bind (wpAny_seqItems hS rfl ?_);refine Aht it.noTabby fun oi hoi ht hn _=>?_;refine wpAny_bind (wpAny_tryCatch (Aeu (A:=A.in1) x.inv it fun v h' tk hv it' k=>?_));have hS':h'.get? S=_:=(k.2 S hne).trans hS;have x1:Aae B s₀ g₀ {s with heap:=h',toks:=tk} g:=x.turn O h0 gI hoi ht k rfl rfl;dsimp only;refine wpAny_bind (wpAny_pure ?_);refine Aab (Aag hr) fun b hlt hr=>?_;refine wpAny_bind (wpAny_tryCatch (wpAny_holding (wpAny_bind ((hcmp _ g v vb d db b x1.inv hv hd hlt).use fun ans s2 g2 x2 hans=>?_))));subst hans;refine wpAny_bind (wpAny_holding (wpAny_truthy_bool ?_));refine wpAny_bind (wpAny_letGo (wpAny_pure ?_));have x3:=x1.trans x2;refine Aht it'.noTabby fun oi' hoi' ht' hn' _=>?_;have gI2:g2 It=none:=x2.shutNone hoi' gI;have it2:AaQ s2.heap g2 It ds:=it'.keep x2.le fun o e n=>x2.ext.keep It o e n;have hS2:=x2.ext.keep S _ hS' (Aal rfl);have gS2:g2 S=none:=x2.shutNone hS' gS;induction b using Bool.casesOn with
  |true=>
   simp only[if_true];refine wpAny_bind (wpAny_updateSeq hS2 rfl (wpAny_bind (wpAny_letGo ?_)));have sb:Heap.SameBut S s2.heap (s2.heap.update S (Obj.mapSeq fun _=>#[v,v])):=Heap.SameBut.update ..;have x4:Aae B s₀ g₀ {s2 with heap:=s2.heap.update S (Obj.mapSeq fun _=>#[v,v])} g2:=x3.turn O h1 gS2 hS2 (AaH rfl (by decide)) sb rfl rfl;refine Aab it2.noTabby fun oi2 hoi2 _=>?_;show wpAny _ _ (again (.builtin (toString nm++toString ".loop") _)) _ _ _;rw[hid];refine wpAny_pure ⟨plainId_quiet hp _,?_⟩;exact ih d v _ _ g2 x4 (it2.keep g2.le_refl fun o e _=>(sb.2 It hne.symm).trans e) gI2 (Heap.get?_update_self _ hS2 rfl) gS2 (hv.mono x2.le) hr
  |false=>
   simp only[Bool.false_eq_true,if_false];refine wpAny_bind (wpAny_letGo ?_);show wpAny _ _ (again (.builtin (toString nm++toString ".loop") _)) _ _ _;rw[hid];refine wpAny_pure ⟨plainId_quiet hp _,?_⟩;exact ih db vb _ _ g2 x3 it2 gI2 hS2 gS2 (hd.mono x2.le) hr
theorem Aj8(O:B.Ok){id nm:String}{op:CmpOp}{lt:D→D→Option Bool}(hid:(toString nm++toString ".loop":String)=id)(hp:plainId id=true){bl:Builtin}(hb:entryFor table id=some bl)
  (hbl:∀ it S,bl ⟨[it,.none,.ref S],[]⟩=Aod nm op it S)
  (hcmp:∀ (s:Shared) (g:Gh) va vb a b c,Inv B s g→Den g va a→Den g vb b→lt a b=some c→Aaq B A.in1 s g (richCompare op va vb) fun _ v=>v=.bool c)
  (hh:A.handled=none) {It S:Addr} (h0:s₀.heap.get? It=none) (h1:s₀.heap.get? S=none) (hne:S≠It) {r d:D} {ds:List D} {c:Nat}
  (x:Aae B s₀ g₀ s g) (it:AaQ s.heap g It (d :: ds)) (gI:g It=none) (hS:s.heap.get? S=some {cls:=.type "list",dict:=none,data:=.seq #[] c,slots:=#[]}) (gS:g S=none) (hr:Am8 lt d ds=some r) :
   codeAny B.M A (.builtin id ⟨[.ref It,.none,.ref S],[]⟩) (fun res s'=>∃ v g',res=.ok (.ret v)∧Aae B s₀ g₀ s' g'∧Den g' v r) s:=by
 refine codeAny_builtin hb ?_;rw[Around.under_plainId hp _,hbl];refine wpAny_bind (wpAny_seqItems hS rfl ?_);refine Aht it.noTabby fun oi hoi ht hn _=>?_;refine wpAny_bind (wpAny_tryCatch (Aeu (A:=A.in1) x.inv it fun v h' tk hv it' k=>?_));have hS':h'.get? S=_:=(k.2 S hne).trans hS;have x1:Aae B s₀ g₀ {s with heap:=h',toks:=tk} g:=x.turn O h0 gI hoi ht k rfl rfl;dsimp only;refine wpAny_bind (wpAny_pure ?_);have sb:Heap.SameBut S h' (h'.update S (Obj.mapSeq fun _=>#[v,v])):=Heap.SameBut.update ..;refine wpAny_bind (wpAny_updateSeq hS' rfl ?_);have x4:Aae B s₀ g₀ {s with heap:=h'.update S (Obj.mapSeq fun _=>#[v,v]),toks:=tk} g:=x1.turn O h1 gS hS' (AaH rfl (by decide)) sb rfl rfl;show wpAny _ _ (again (.builtin (toString nm++toString ".loop") _)) _ _ _;rw[hid];refine wpAny_pure ⟨plainId_quiet hp _,?_⟩;exact Ary O hid hp hb hbl hcmp hh h0 h1 hne ds d v _ _ g x4 (it'.keep g.le_refl fun o e _=>(sb.2 It hne.symm).trans e) gI (Heap.get?_update_self _ hS' rfl) gS hv hr
end
section
variable{B:Bs}{n:Nat}
noncomputable def AA2(lt:D→D→Option Bool):List D→Option D
 |[]=>none
 |d :: ds=>Am8 lt d ds
noncomputable def bMin:List D→Option D:=fn1 fun a=>Acx a (AA2 ltD)
noncomputable def bMax:List D→Option D:=fn1 fun a=>Acx a (AA2 fun a b=>ltD b a)
theorem AOk.u{A:Around}(h:AOk n A):A.in1.units<cLine:=Nat.lt_of_le_of_lt (Nat.add_le_add_left (by decide:1≤60) A.units) h.units_lt
theorem Axa(O:B.Ok):Abw B n (.builtin "min") bMin:=AgI (.inl ⟨_,rfl⟩) fun A s g u a r hA I h1 h=>by
 refine Aab (AaT h) fun l q1 hr=>?_;subst q1;induction l using List.casesOn with
 |nil=>exact Aah hr
 |cons d ds=>
  induction h1 using Den.listE with|list e1 e2=>?_
  replace hr:Am8 _ d ds=some r:=hr
  refine call_function_tree F.kind_min F.plain_min F.entry_min (F.args_min1 _) ?_;show wpAny _ A.in1 (Builtin.Builtins.bindParams "min" ["key","default"] 0 ⟨[],[]⟩ >>= _) _ _ s;refine wpAny_bind (wpAny_of_eq (show Builtin.Builtins.bindParams "min" ["key","default"] 0 ⟨[],[]⟩=pure [none,none] from rfl) ?_);refine wpAny_bind (wpAny_pure ?_);refine wpAny_bind (AdI O I (.list e1 e2) rfl fun o x it=>?_);refine wpAny_bind (wpAny_newObj_type ?_);rw[show(toString "min"++toString ".loop":String) = "min.loop" from by decide];have x2:=Aae.open (o:={cls:=.type "list",data:=.seq #[]}) O x.inv;have hne:(s.heap.push o).objs.size≠s.heap.objs.size:=by rw[Heap.size_push];omega
  refine wpAny_pure ⟨plainId_quiet F.plain_min_loop _,codeAny_mono (Aj8 (s₀:=s) (g₀:=g) O (id:="min.loop") (nm:="min") (op:=.Lt) (lt:=ltD) (by decide) F.plain_min_loop F.entry_min_loop (fun _ _=>rfl)
   (fun s g va vb a b c I ha hb h=>Ayc hA.u I ha hb h) hA.handled (AaM _) (x.ext.dead (AaM _)) hne (x.trans x2) (it.keep g.le_refl fun o e _=>Heap.get?_push_of_some _ e) I.fresh (Heap.get?_push_size _ rfl) x.inv.fresh hr) fun res s' h=>?_⟩
  refine Adf h fun v g' z1 x3 h3=>?_;subst z1;exact⟨g',x3,h3⟩
theorem Axb(O:B.Ok):Abw B n (.builtin "max") bMax:=AgI (.inl ⟨_,rfl⟩) fun A s g u a r hA I h1 h=>by
 refine Aab (AaT h) fun l q2 hr=>?_;subst q2;induction l using List.casesOn with
 |nil=>exact Aah hr
 |cons d ds=>
  induction h1 using Den.listE with|list e1 e2=>?_
  replace hr:Am8 _ d ds=some r:=hr
  refine call_function_tree F.kind_max F.plain_max F.entry_max (F.args_max1 _) ?_;show wpAny _ A.in1 (Builtin.Builtins.bindParams "max" ["key","default"] 0 ⟨[],[]⟩ >>= _) _ _ s;refine wpAny_bind (wpAny_of_eq (show Builtin.Builtins.bindParams "max" ["key","default"] 0 ⟨[],[]⟩=pure [none,none] from rfl) ?_);refine wpAny_bind (wpAny_pure ?_);refine wpAny_bind (AdI O I (.list e1 e2) rfl fun o x it=>?_);refine wpAny_bind (wpAny_newObj_type ?_);rw[show(toString "max"++toString ".loop":String) = "max.loop" from by decide];have x2:=Aae.open (o:={cls:=.type "list",data:=.seq #[]}) O x.inv;have hne:(s.heap.push o).objs.size≠s.heap.objs.size:=by rw[Heap.size_push];omega
  refine wpAny_pure ⟨plainId_quiet F.plain_max_loop _,codeAny_mono (Aj8 (s₀:=s) (g₀:=g) O (id:="max.loop") (nm:="max") (op:=.Gt) (lt:=fun a b=>ltD b a) (by decide) F.plain_max_loop F.entry_max_loop (fun _ _=>rfl)
   (fun s g va vb a b c I ha hb h=>Ayd hA.u I ha hb h) hA.handled (AaM _) (x.ext.dead (AaM _)) hne (x.trans x2) (it.keep g.le_refl fun o e _=>Heap.get?_push_of_some _ e) I.fresh (Heap.get?_push_size _ rfl) x.inv.fresh hr) fun res s' h=>?_⟩
  refine Adf h fun v g' z2 x3 h3=>?_;subst z2;exact⟨g',x3,h3⟩
noncomputable def bType:List D→Option D:=fn1 fun a=>AdH a fun _=>some (.val (.type "str"))
theorem Aye:Abw B n (.type "type") bType:=AgI (.inr (.inl ⟨_,rfl⟩)) fun A s g u a r hA I h1 h=>by
 refine Aab (AaN h) fun x q3 k=>?_;subst q3;rw[← sj k];induction h1 using Den.strE;exact call_type_of (typeIs_str _ _ _) (by decide +kernel) ⟨g,Aae.refl I,.val⟩
noncomputable def Ayf:D→Option Bool
 |.bool b=>some b
 |_=>none
theorem Aoe{d:D}{b:Bool}(h:Ayf d=some b):d=.bool b:=by
 revert h;induction d using D.casesOn<;>first|exact fun h=>congrArg D.bool (sj h)|exact Aah
noncomputable def AhL:List D→Option (List Bool)
 |[]=>some []
 |d :: r=>(Ayf d).bind fun x=>(AhL r).bind fun xs=>some (x :: xs)
theorem Am9{g:Gh}{vs:List Value}{ds:List D}(h:Aar g vs ds):∀ {xs:List Bool},AhL ds=some xs→vs.length=xs.length∧∀ (i:Nat) (v:Value),vs[i]?=some v→v=Value.bool (xs.getD i false):=by
 induction h using Aar.ind with
 |nil=>exact fun h=>sj h ▸ ⟨rfl,fun i v e=>Aah e⟩
 |cons h1 _ ih=>
  intro xs h;refine Aab (Aag h) fun x e0 k1=>?_;refine Aab (Aag k1) fun ys e k2=>?_;rw[Aoe e0] at h1;rw[← sj k2];refine⟨congrArg (·+1) (ih e).1,fun i v hv=>?_⟩;induction i using Nat.casesAuxOn with
  |zero=>rw[← sj hv];induction h1 using Den.boolE;rfl
  |succ i=>exact(ih e).2 i v hv
theorem Arz(xs:List Bool):((List.range xs.length).all fun i=>xs.getD i false)=xs.all id:=by
 induction xs with
 |nil=>rfl
 |cons x xs ih=>rw[List.length_cons,List.range_succ_eq_map,List.all_cons,List.all_map,List.all_cons,← ih];simp [Function.comp_def]
noncomputable def bAll:List D→Option D:=fn1 fun a=>Acx a fun l=>(AhL l).bind fun xs=>some (.bool (xs.all id))
theorem Axc(O:B.Ok):Abw B n (.builtin "all") bAll:=AgI (.inl ⟨_,rfl⟩) fun A s g u a r hA I h1 h=>by
 refine Aab (AaT h) fun l q4 k1=>?_;subst q4;refine Aab (Aag k1) fun xs e k2=>?_;rw[← sj k2];induction h1 using Den.listE with|list e1 e2=>?_
 rename_i a vs nn;refine Aaz (Am9 e2 e) fun hl hg=>?_;rw[Array.length_toList] at hl;refine call_all_walkS (wpAny_pyIter_list ⟨_,I.get e1,rfl,_,rfl⟩ ?_);refine⟨_,_,_,_,_,_,_,fun i=>xs.getD i false,rfl,(Walks.list (A:=A.in1) hA.handled s.heap.objs.size a (Nat.ne_of_lt (Heap.lt_size (I.get e1))) vs).toS,⟨⟨_,Heap.get?_push_size _ rfl,rfl,rfl⟩,⟨_,Heap.get?_push_of_some _ (I.get e1),rfl,_,rfl⟩⟩,fun i v s' Q E hv hq=>?_,fun s' hm=>?_⟩
 ·rw[hg i v (by simpa using hv)];exact wpAny_truthy_bool hq
 ·rw[hl,Arz];exact⟨g,Aj6 O I hm,.bool⟩
end
end Mine
namespace Mine
open PySem PySem.W PyProof.Rows PySem.W.X PySem.Calls
section
variable{prog:Program}{w:World}{A:Around}{E:Value→Shared→Prop}{s:Shared}
theorem AA3:isSubtype (.type "str") (.type "str")=pure true:=by rw[isSubtype_type];kernel_rfl
theorem AA4:typeOf (.type "str")=pure (.type "type"):=by kernel_rfl
theorem Auo{Q:PySem.Fin→Shared→Prop}(hq:Q (.done (.ret (.bool true))) s):wpAny (model prog w) A (Builtin.«issubclass.nested» ⟨[.type "str",.type "str",rawInt 1],[]⟩) Q E s:=by
 have hm:=AA4;have hself:=AA3
 repeat (any_goals (first|assumption|(rw[hm])|(rw[hself])|wp_step))
theorem Ao8:plainId "issubclass.nested"=true:=by decide +kernel
theorem ArA:builtinKind "issubclass.nested"=none:=by decide +kernel
theorem ArB(a b c:Value):argsOk "issubclass.nested" ⟨[a,b,c],[]⟩:=by unfold argsOk;kernel_rfl
theorem ArC{Q:Value→Shared→Prop}(hq:Q (.bool true) s):wpAny (model prog w) A (call (.builtin "issubclass.nested") [.type "str",.type "str",rawInt 1]) Q E s:=
 call_function_meets (S:=fun _ R s=>R (.ok (.ret (.bool true))) s) ArA Ao8 F.entry_issubclass_nested (ArB _ _ _) (fun _ _ _ _ _ hs=>Auo hs) hq
theorem Aup{Q:PySem.Fin→Shared→Prop}{a:Addr}{n:Nat}(ha:s.heap.get? a=some ⟨.type "tuple",none,.seq #[.type "str",.type "bytes"] n,#[]⟩)(hq:Q (.done (.ret (.bool true))) s) :
  wpAny (model prog w) A (Builtin.«issubclass.nested» ⟨[.type "str",.ref a,rawInt 0],[]⟩) Q E s:=by
 wp_walk using wpAny_load' ha
 have hs:isSubtype (.type "tuple") (.type "tuple")=pure true:=by rw[isSubtype_type];kernel_rfl
 show wpAny _ _ (isSubtype (.type "tuple") (.type "tuple")) _ _ _;rw[hs];refine wpAny_pure ?_;rw[if_pos rfl];dsimp only;rw[if_neg (by decide)];refine wpAny_bind (wpAny_seqItems ha rfl (wpAny_bind ?_));rw[← Array.forIn_toList];show wpAny _ _ (forIn [Value.type "str",.type "bytes"] _ _) _ _ _;rw[List.forIn_cons];refine wpAny_bind (wpAny_bind (ArC (wpAny_bind (wpAny_truthy_bool ?_))));rw[if_pos rfl];exact wpAny_bind (wpAny_pure (wpAny_pure (wpAny_pure (wpAny_pure hq))))
theorem Ayg{Q:Value→Shared→Prop}{a:Addr}{n:Nat}(ha:s.heap.get? a=some ⟨.type "tuple",none,.seq #[.type "str",.type "bytes"] n,#[]⟩)(hq:Q (.bool true) s) :
  wpAny (model prog w) A (call (.builtin "issubclass") [.type "str",.ref a]) Q E s:=
 call_issubclass (S:=fun _ R s=>s.heap.get? a=some ⟨.type "tuple",none,.seq #[.type "str",.type "bytes"] n,#[]⟩∧R (.ok (.ret (.bool true))) s) (fun _ _ _ _ _ hs=>issubclass_outer (Aup hs.1 hs.2)) ⟨ha,hq⟩
end
section
variable{B:Bs}{n:Nat}
noncomputable def isT(n:String):D→Bool
 |.val (.type m)=>m == n
 |_=>false
theorem Aof{n:String}{d:D}(h:isT n d=true):d=.val (.type n):=by
 revert h
 induction d using D.casesOn with
 |val v=>induction v using Value.casesOn<;>first|exact fun h=>congrArg (fun x=>D.val (.type x)) (eq_of_beq h)|exact Bool.noConfusion
 |_=>exact Bool.noConfusion
theorem AlP:typeOf (.type "bytes")=pure (.type "type"):=by kernel_rfl!
theorem AkA:isSubtype (.type "str") (.type "bytes")=pure false:=by rw[isSubtype_type];kernel_rfl!
noncomputable def bIsi:List D→Option D:=fn2 fun a b=>AdH a fun _=>if isT "bytes" b=true then some (.bool false) else none
theorem Axd:Abw B n (.builtin "isinstance") bIsi:=Aj4 (.inl ⟨_,rfl⟩) fun A s g u w a b r hA I h1 h2 h=>by
 refine Aab (AaN h) fun x q1 k1=>?_;subst q1;refine Aaz (Abg k1) fun hb k2=>?_;rw[Aof hb] at h2;rw[← sj k2];induction h1 using Den.strE;induction h2 using Den.valE;exact call_isinstance (isinstance_false_str (T:="bytes") (by decide) AlP AkA) ⟨g,Aae.tok I _,.bool⟩
noncomputable def bIss:List D→Option D:=fn2 fun a b=>(AxW b).bind fun l=>if isT "str" a=true∧l.length=2∧isT "str" (l.getD 0 .none)=true∧isT "bytes" (l.getD 1 .none)=true then some (.bool true) else none
theorem AA5:Abw B n (.builtin "issubclass") bIss:=Aj4 (.inl ⟨_,rfl⟩) fun A s g u w a b r hA I h1 h2 h=>by
 refine Aab (Aag h) fun l hb k1=>?_;refine Aaz (Abg k1) fun q2 k2=>?_;refine AoR q2 fun c1 c2 c3 c4=>?_;have el:=(Auc (d:=D.none) c2).trans (Ahx (Aof c3) (Aof c4));rw[Aof c1] at h1;rw[Aku hb,el] at h2;rw[← sj k2];induction h1 using Den.valE;induction h2 using Den.tupE with|tup e1 e2=>?_
 rename_i a vs nn
 obtain⟨vl⟩:=vs
 refine Aw4 (e2.two rfl) fun v1 v2 d1 d2 ev ed q1 q2=>?_;have ed1:=(List.cons.inj ed).1;have ed2:=(List.cons.inj (List.cons.inj ed).2).1;rw[← ed1] at q1;rw[← ed2] at q2;induction q1 using Den.valE;induction q2 using Den.valE;have ha:=I.get e1;rw[show vl=[Value.type "str",.type "bytes"] from ev] at ha;exact Ayg ha ⟨g,Aae.refl I,.bool⟩
end
end Mine
namespace Mine
open PySem PySem.W PyProof.Rows PySem.Calls
theorem L0{α:Type}{P:List α→Prop}{l:List α}(h:l.length=0)(k:P []):P l:=by
 induction l using List.casesOn with
 |nil=>exact k
 |cons _ _=>exact Nat.noConfusion h
theorem LS{α:Type}{P:List α→Prop}{l:List α}{n:Nat}(h:l.length=n+1)(k:∀ a r,r.length=n→P (a :: r)):P l:=by
 induction l using List.casesOn with
 |nil=>exact Nat.noConfusion h
 |cons a r=>exact k a r (Nat.succ.inj h)
theorem L1{α:Type}{P:List α→Prop}{l:List α}(h:l.length=1)(k:∀ a,P [a]):P l:=LS h fun a _ h=>L0 (P:=fun r=>P (a :: r)) h (k a)
theorem L2{α:Type}{P:List α→Prop}{l:List α}(h:l.length=2)(k:∀ a b,P [a,b]):P l:=LS h fun a _ h=>L1 (P:=fun r=>P (a :: r)) h (k a)
theorem L3{α:Type}{P:List α→Prop}{l:List α}(h:l.length=3)(k:∀ a b c,P [a,b,c]):P l:=LS h fun a _ h=>L2 (P:=fun r=>P (a :: r)) h (k a)
theorem L5{α:Type}{P:List α→Prop}{l:List α}(h:l.length=5)(k:∀ a b c d e,P [a,b,c,d,e]):P l:=LS h fun a _ h=>LS (P:=fun r=>P (a :: r)) h fun b _ h=>L3 (P:=fun r=>P (a :: b :: r)) h (k a b)
structure Ayh(B:Bs)(a:Addr)(fd:FuncData)(body:List Stmt):Prop where
 obj:∃ o,B.G.get? a=some o∧o.data=.func fd
 code:B.G.CodeRec fd.code fd.qualname
 body:fd.body=.stmts body
 glob:fd.globals=mainGlobals
 blt:fd.builtins=builtinsNs
 clos:fd.closure=[]
section
variable{B:Bs}{A:Around}{s:Shared}{g:Gh}{n:Nat}
theorem AbX.to0{a:Addr}{fd:FuncData}{params:List Str}{body:List Stmt}(D:AbX B a fd params body):Ayh B a fd body:=⟨D.obj,D.code,D.body,D.glob,D.blt,D.clos⟩
theorem Af1(O:B.Ok){a:Addr}{fd:FuncData}{params:List Str}{body:List Stmt}(Dd:Ayh B a fd body)(hs:AaP fd.scope params=true){vs:List Value}(hA:AOk (n+1) A)(I:Inv B s g)
  {Q E:Value→Shared→Prop}
  (hb:wpAny B.M A.in1 (bindArgs fd ⟨vs,[]⟩) (fun binds s1=>∃ g1 vs' ds,Aae B s g s1 g1∧binds=params.zip vs'∧Aar g1 vs' ds∧params.length=ds.length ∧
   ∀ env s',env.scope=fd.scope→env.code=fd.code→env.qual=fd.qualname++".<locals>."→Fm B s1 g1 (Aak fd.scope.names) env (params.zip ds).reverse s' g1 →
   wpAny B.M (A.deeper env) (execs body env) (fun f s''=>Q (match f with|.ret v=>v|_=>.none) s'') (fun _ _=>False) s') (fun _ _=>False) s) :
  wpAny B.M A (call (.ref a) vs) Q E s:=by
 refine Aab Dd.obj fun o ho hdat=>?_;refine AAK (Afy hs) fun h1 h2 h3 h4 h5=>?_;have keep:∀ b o,B.G.get? b=some o→s.heap.get? b=some o:=fun b o e=>I.get (I.base b o e);refine wpAny_call (codeAny_call_function hA.dlt (keep _ _ ho) hdat h3 h2 Dd.body (Dd.code.keeps keep) ?_);refine wpAny_mono hb (fun binds s1 hb=>?_) fun _ _ (e:False)=>e.elim;refine AFM hb fun g1 vs' ds x1 z1 hd hl h=>?_;subst z1;rw[Dd.glob,Dd.clos,Dd.blt];refine wpAny_mono (Ara O x1.inv h1 h4 h5 hl hd (Q:=fun env s'=>s'.heap.NoLimit∧codeAny B.M A (.func body env) (fun r s'=>match r with|.ok (.ret v)=>Q v s'|.ok _=>False|.error e=>E e s') s') fun env s' e1 e2 e3 F=>⟨?_,?_⟩) (fun _ _ h=>h) fun _ _ h=>h.elim
 ·refine Aab O.lim fun mc hmc hno=>?_;exact⟨mc,F.inv.ns hmc,hno⟩
 ·exact codeAny_func (wpAny_mono (h env s' e1 e2 e3 F) (fun f s'' h=>h) fun _ _ h=>h.elim)
end
structure GOk(K:Frag)(T:List Addr)(B:Bs):Prop where
 inG:∀ a o,K.lookup a=some o→a ∉ T→B.G.get? a=some o
noncomputable def AFp:Value→Option (Str×Tok)
 |.str x t=>some (x,t)
 |_=>none
theorem Ayi{v:Value}{p:Str×Tok}(h:AFp v=some p):v=.str p.1 p.2:=by induction v using Value.casesOn<;>first|exact Aah h|exact sj h ▸ rfl
noncomputable def ArD:Data→Option (Array Value)
 |.fields vs=>some vs
 |_=>none
theorem Ao9{v:Data}{p:Array Value}(h:ArD v=some p):v=.fields p:=by induction v using Data.casesOn<;>first|exact Aah h|exact congrArg Data.fields (sj h)
noncomputable def Abh(K:Frag)(T:List Addr)(cd:Value)(q:Str):Bool:=
 ((ADz cd).bind fun c=>if T.contains c=false then (K.lookup c).bind fun o=>(ArD o.data).bind fun vs=>(vs[1]?).bind fun v=>(AFp v).bind fun p=>some p.1 else none) == some q
theorem AgJ{K:Frag}{T:List Addr}{B:Bs}(h:GOk K T B){cd:Value}{q:Str}(e:Abh K T cd q=true):B.G.CodeRec cd q:=by refine Aab (Aag (eq_of_beq e)) fun c c1 k=>?_;refine Aaz (Abg k) fun hc k_1=>?_;refine Aab (Aag k_1) fun o hl k_2=>?_;refine Aab (Aag k_2) fun vs hd k_3=>?_;refine Aab (Aag k_3) fun v hv k_4=>?_;refine Aab (Aag k_4) fun p hp k_5=>?_;refine⟨c,o,vs,p.2,AmT c1,h.inG _ _ hl (by simpa using hc),Ao9 hd,?_⟩;rw[hv,Ayi hp,← sj k_5]
theorem AaS{K:Frag}{T:List Addr}{B:Bs}(h:GOk K T B){a:Addr}{o:Obj}{fd:FuncData}{params:List Str}{body:List Stmt}{sc:Scope}(h1:K.lookup a=some o)(ha:a ∉ T)(h2:o.data=.func fd)(h3:fd.body=.stmts body)
  (h4:fd.globals=mainGlobals) (h5:fd.builtins=builtinsNs) (h6:fd.closure=[]) (h7:Abh K T fd.code fd.qualname=true) (h8:fd.scope=sc) (h9:AaP sc params=true)
  (h10:∀ vs:List Value,vs.length=params.length→bindArgs fd ⟨vs,[]⟩=pure (params.zip vs)):AbX B a fd params body:=
 ⟨⟨o,h.inG _ _ h1 ha,h2⟩,AgJ h h7,h3,h4,h5,h6,h10,h8 ▸ h9⟩
theorem ArE{K:Frag}{T:List Addr}{B:Bs}(h:GOk K T B){a:Addr}{o:Obj}{fd:FuncData}{body:List Stmt}(h1:K.lookup a=some o)(ha:a ∉ T)(h2:o.data=.func fd)(h3:fd.body=.stmts body)
  (h4:fd.globals=mainGlobals) (h5:fd.builtins=builtinsNs) (h6:fd.closure=[]) (h7:Abh K T fd.code fd.qualname=true):Ayh B a fd body:=
 ⟨⟨o,h.inG _ _ h1 ha,h2⟩,AgJ h h7,h3,h4,h5,h6⟩
section
variable{fd:FuncData}{x y z u v:Str}
theorem Ady(h:∀ a,bindArgs fd ⟨[a],[]⟩=pure [(x,a)])(vs:List Value)(e:vs.length=[x].length):bindArgs fd ⟨vs,[]⟩=pure ([x].zip vs):=L1 (P:=fun vs=>bindArgs fd ⟨vs,[]⟩=pure ([x].zip vs)) e h
theorem AeB(h:∀ a b,bindArgs fd ⟨[a,b],[]⟩=pure [(x,a),(y,b)])(vs:List Value)(e:vs.length=[x,y].length):bindArgs fd ⟨vs,[]⟩=pure ([x,y].zip vs):=L2 (P:=fun vs=>bindArgs fd ⟨vs,[]⟩=pure ([x,y].zip vs)) e h
theorem Axe(h:∀ a b c,bindArgs fd ⟨[a,b,c],[]⟩=pure [(x,a),(y,b),(z,c)])(vs:List Value)(e:vs.length=[x,y,z].length):bindArgs fd ⟨vs,[]⟩=pure ([x,y,z].zip vs):=L3 (P:=fun vs=>bindArgs fd ⟨vs,[]⟩=pure ([x,y,z].zip vs)) e h
theorem Axf(h:∀ a b c d e,bindArgs fd ⟨[a,b,c,d,e],[]⟩=pure [(x,a),(y,b),(z,c),(u,d),(v,e)])(vs:List Value)(e:vs.length=[x,y,z,u,v].length):bindArgs fd ⟨vs,[]⟩=pure ([x,y,z,u,v].zip vs):=L5 (P:=fun vs=>bindArgs fd ⟨vs,[]⟩=pure ([x,y,z,u,v].zip vs)) e h
end
noncomputable def mkB(prog:Program)(w:World)(s₁:Shared)(mg mb:Str→Option Value)(tabs:List (Addr×Addr))(names:Nat→Nat→Str):Bs:=
 {prog,w,G:=ghostOf s₁.heap tabs,mg,mb,os:=s₁.os,tb:=fun h=>∃ R,(∀ q∈tabs,q∈R)∧AbP (ghostOf s₁.heap tabs) names R h}
section
variable{prog p:Program}{w:World}{s₁ s':Shared}{mg mb:Str→Option Value}{tabs:List (Addr×Addr)}{names:Nat→Nat→Str}{loose:List Str}{mean:ExcName→Option Value}
theorem AA6(hT:TabsAt tabs s₁.heap)(T:Top p loose mean mg mb s₁.heap):(mkB prog w s₁ mg mb tabs names).Ok:=
 ⟨ghost_ns hT T.g,ghost_ns hT T.b,(let ⟨mc,a,r⟩:=T.nolimit;⟨mc,ghost_ns hT a,r⟩),fun _ _ ⟨R,hR,X⟩ k=>⟨R,hR,X.keeps k⟩⟩
theorem Auq:Arv (mkB prog w s₁ mg mb tabs names) names tabs:=fun _=>Iff.rfl
theorem Ayj(hT:TabsAt tabs s₁.heap)(hg:s₁.gens=#[]):Inv (mkB prog w s₁ mg mb tabs names) s₁ (mkB prog w s₁ mg mb tabs names).G.get?:=by refine⟨fun _ _ e=>e,fun a o e=>of_hideAll _ e,fun a o e=>.inr e,⟨tabs,fun _ h=>h,fun q hq=>(hT q hq).1,fun q hq=>hideAll_none _ (List.mem_map_of_mem hq),fun q hq=>⟨#[],(hT q hq).2,trivial,fun pos cv hc=>?_⟩⟩,hg,rfl⟩;simp [codeAmong] at hc
theorem AA7(hT:TabsAt tabs s₁.heap)(T:Top p loose mean mg mb s₁.heap):Aw9 (mkB prog w s₁ mg mb tabs names):=
 let ⟨bm,ob,a1,a2,a3,a4,r⟩:=T.bmain
 ⟨bm,ob,a1,a2,ghost_get hT a3 (fun q=>by rw[q] at a4;injection a4),a4,r⟩
theorem Ayk(hT:TabsAt tabs s₁.heap){g g':Gh}(x:Aae (mkB prog w s₁ mg mb tabs names) s₁ g s' g'){c:ClaimW}{cl:Str→Option Addr}{args:List WData}(hn:∀ cls,c.raises args cls=false)(hp:c.post args (.bool true) args=true) :
  GoodWG c cl mean args s₁ (.ok (.ret (.bool true))) s':=by
 refine⟨.inl ⟨_,.bool true,[],rfl,hn,.bool true,hp,fun _=>⟨List.nodup_nil,fun a ha=>by cases ha⟩⟩,?_,x.inv.os,.of_eq x.inv.gens⟩;have I:=x.inv;have keep:∀ b o,b ∉ tabs.map (·.2)→s₁.heap.get? b=some o→s'.heap.get? b=some o:=fun b o hb e=>I.real b o (I.base b o (ghost_ne e hb));refine Aab I.tb fun R hR X=>?_;have grown:∀ b o,b∈tabs.map (·.2)→s₁.heap.get? b=some o→isCodeTable s₁.heap b∧o=tabObj #[]∧∃ ps,s'.heap.get? b=some (tabObj ps):=fun b o hb e=>by
  refine Aab (List.mem_map.mp hb) fun q hq q1=>?_;subst q1;have e2:=(hT q hq).2;rw[e] at e2;refine Aab (X.tab q (hR q hq)) fun ps hps _=>?_;exact⟨((hT q hq).1.tab (hT q hq).2).isCodeTable,sj e2,ps,hps⟩
 refine⟨fun b o e=>?_,fun b o e=>?_⟩
 ·by_cases hb:b∈tabs.map (·.2)
  ·obtain⟨ht,rfl,ps,hP⟩:=grown b o hb e
   exact .inr (.inl ⟨ht,rfl,#[],ps,rfl,by rw[Array.empty_append];exact hP⟩)
  ·exact .inl (keep b o hb e)
 ·by_cases hb:b∈tabs.map (·.2)
  ·obtain⟨_,_,ps,hP⟩:=grown b o hb e
   exact⟨_,hP⟩
  ·exact⟨o,keep b o hb e⟩
theorem ArF{K:Frag}(X:K.In s₁.heap):GOk K (tabs.map (·.2)) (mkB prog w s₁ mg mb tabs names):=⟨fun a o e ha=>ghost_ne (X a o e) ha⟩
end
noncomputable def AD4:Data→Option (Array Value)
 |.fields vs=>some vs
 |_=>none
theorem ArG{d:Data}{vs:Array Value}(h:AD4 d=some vs):d=.fields vs:=by
 revert h;induction d using Data.casesOn<;>first|exact fun h=>congrArg Data.fields (sj h)|exact Aah
noncomputable def isS:Value→Bool
 |.str _ _=>true
 |_=>false
noncomputable def isI:Value→Bool
 |.int _ _=>true
 |_=>false
noncomputable def isB:Value→Bool
 |.bool _=>true
 |_=>false
theorem AA8{v:Value}(h:isS v=true):∃ x t,v=.str x t:=by
 revert h;induction v using Value.casesOn<;>first|exact fun _=>⟨_,_,rfl⟩|exact Bool.noConfusion
theorem Axg{v:Value}(h:isI v=true):∃ x t,v=.int x t:=by
 revert h;induction v using Value.casesOn<;>first|exact fun _=>⟨_,_,rfl⟩|exact Bool.noConfusion
theorem AA9{v:Value}(h:isB v=true):∃ x,v=.bool x:=by
 revert h;induction v using Value.casesOn<;>first|exact fun _=>⟨_,rfl⟩|exact Bool.noConfusion
noncomputable def AFT(K:Frag)(q:Addr×Addr):Option Unit:=(K.lookup q.1).bind fun o=>(K.lookup q.2).bind fun p=>(AD4 o.data).bind fun vs=>(AD4 p.data).bind fun ps=>
 if o.cls=.type "code"∧p.cls=.none∧p.dict=none∧ps.isEmpty=true∧p.slots.isEmpty=true∧vs[11]?=some (.ref q.2)∧isS (vs.getD 18 .none)=true∧isI (vs.getD 7 .none)=true∧isB (vs.getD 9 .none)=true∧isI (vs.getD 10 .none)=true∧(q.1 == q.2)=false then some () else none
noncomputable def ArH(K:Frag)(q:Addr×Addr):Bool:=(AFT K q).isSome
theorem Ana{vs:Array Value}{i:Nat}{v d:Value}(h:vs[i]?=some v):vs.getD i d=v:=by rw[Array.getD_eq_getD_getElem?,h];rfl
theorem ABa{p:Obj}(h1:p.cls=.none)(h2:p.dict=none)(h3:p.data=.fields #[])(h4:p.slots=#[]):p=tabObj #[]:=by induction p using Obj.casesOn;subst h1;subst h2;subst h3;subst h4;rfl
theorem AlQ{K:Frag}{h:Heap}(X:K.In h){q:Addr×Addr}(e:ArH K q=true):CodeHd h q.1 q.2∧h.get? q.2=some (tabObj #[]):=by refine Abm (Option.isSome_iff_exists.mp e) fun u e=>?_;refine Aab (Aag e) fun o h1 k1=>?_;refine Aab (Aag k1) fun p h2 k2=>?_;refine Aab (Aag k2) fun vs h3 k3=>?_;refine Aab (Aag k3) fun ps h4 k4=>?_;refine Aaz (Abg k4) fun q2 _=>?_;refine AAL q2 fun c1 c2 c3 c4 c5 c6 c7 c8 c9 c10 c11=>?_;refine Aw3 (AA8 c7) fun _ _ x1=>?_;refine Aw3 (Axg c8) fun _ _ x2=>?_;refine Abm (AA9 c9) fun _ x3=>?_;refine Aw3 (Axg c10) fun _ _ x4=>?_;refine⟨⟨o,vs,_,_,_,_,_,_,_,X _ _ h1,c1,ArG h3,c6,Ana c6,x1,x2,x3,x4,fun e'=>by rw[e',beq_self_eq_true] at c11;exact Bool.noConfusion c11⟩,(X _ _ h2).trans (congrArg some ?_)⟩;exact ABa c2 c3 ((ArG h4).trans (congrArg Data.fields (Array.isEmpty_iff.mp c4))) (Array.isEmpty_iff.mp c5)
theorem AlR{K:Frag}{h:Heap}(X:K.In h){tabs:List (Addr×Addr)}(e:tabs.all (ArH K)=true):TabsAt tabs h:=fun q hq=>AlQ X (List.all_eq_true.mp e q hq)
end Mine
namespace Mine
open PySem PySem.W PyProof.Rows PySem.W.X
theorem Axh:isSubtype (.type "tuple") (.type "tuple")=pure true:=by rw[isSubtype_type];kernel_rfl
theorem Axi:isSubtype (.type "dict") (.type "dict")=pure true:=by rw[isSubtype_type];kernel_rfl
theorem AlS:isSubtype (.type "type") (.type "type")=pure true:=by rw[isSubtype_type];kernel_rfl
theorem Axj:isSubtype (.type "object") (.type "object")=pure true:=by rw[isSubtype_type];kernel_rfl
theorem Aog:typeOf (.type "object")=pure (.type "type"):=by kernel_rfl
theorem ArI:typeLookup (.type "dict") "__iter__"=pure (some (.builtin "dict.__iter__")):=by rw[typeLookup_type,builtinLookup_eq_fast];kernel_rfl
theorem Af2:typeLookup (.type "dict") "__getitem__"=pure (some (.builtin "dict.__getitem__")):=by rw[typeLookup_type,builtinLookup_eq_fast];kernel_rfl
theorem Adz:mroOf (.type "object")=pure [.type "object"]:=by rw[mroOf_type];kernel_rfl
theorem Aoh:Builtin.Slots.solid (.type "object")=pure (.type "object"):=by unfold Builtin.Slots.solid;rw[Adz];kernel_rfl
theorem Aoi:Builtin.Slots.slotNamesOf (.type "object")=pure []:=by unfold Builtin.Slots.slotNamesOf;dsimp only;rw[Adz];kernel_rfl
theorem ArJ:Builtin.Slots.givesDict (.type "object")=pure false:=by unfold Builtin.Slots.givesDict;kernel_rfl
theorem ArK:Builtin.Slots.givesWeak (.type "object")=pure false:=by unfold Builtin.Slots.givesWeak;kernel_rfl
theorem Axk:Builtin.Slots.varSize (.type "object")=pure false:=by unfold Builtin.Slots.varSize;kernel_rfl
theorem Axl:typeLookup (.type "type") "mro"=pure (some (.builtin "type.mro")):=by rw[typeLookup_type,builtinLookup_eq_fast];kernel_rfl
theorem ArL:typeLookup (.type "str") "__set_name__"=pure none:=by rw[typeLookup_type,builtinLookup_eq_fast];kernel_rfl
theorem ArM:typeLookup (.type "int") "__set_name__"=pure none:=by rw[typeLookup_type,builtinLookup_eq_fast];kernel_rfl
theorem Anb:typeLookup (.type "list") "__set_name__"=pure none:=by rw[typeLookup_type,builtinLookup_eq_fast];kernel_rfl
theorem AbR:typeLookup (.type "function") "__set_name__"=pure none:=by rw[typeLookup_type,builtinLookup_eq_fast];kernel_rfl
theorem AkB:typeLookup (.type "NoneType") "__set_name__"=pure none:=by rw[typeLookup_type,builtinLookup_eq_fast];kernel_rfl
theorem AkC:typeLookup (.type "tuple") "__set_name__"=pure none:=by rw[typeLookup_type,builtinLookup_eq_fast];kernel_rfl
theorem AhM:typeLookup (.type "member_descriptor") "__set_name__"=pure none:=by rw[typeLookup_type,builtinLookup_eq_fast];kernel_rfl
theorem AhN:Bind.madeBy (.type "object")=pure (some "object.__new__"):=by unfold Bind.madeBy;rw[Adz];simp only[pure_bind,List.forIn_cons,typeLookup_type,builtinLookup_eq_fast];kernel_rfl
theorem AD5:Builtin.Slots.isIdentifier "obj"=some true:=by decide +kernel
end Mine
namespace Mine
open PySem PySem.W PyProof.Rows PySem.W.X
end Mine
namespace Mine
open PySem PySem.W PyProof.Rows PySem.W.X
theorem Axm:classOwn (.type "object") "__new__"=pure (some (.builtin "object.__new__")):=by show pure (builtinOwn "object" "__new__")=_;rw[builtinOwn_eq_fast];kernel_rfl
theorem ArN:classOwn (.type "object") "__init_subclass__"=pure (some (.builtin "object.__init_subclass__")):=by show pure (builtinOwn "object" "__init_subclass__")=_;rw[builtinOwn_eq_fast];kernel_rfl
end Mine
namespace Mine
open PySem PySem.W PyProof.Rows PySem.W.X
noncomputable def Ayl(C N b:Addr)(tk t1:Tok):Obj:=⟨.type "type",none,.cls {name:="K",bases:=[.type "object"],mro:=[.ref C,.type "object"],ns:=N,qualname:="cmp_to_key.<locals>.K",hasDict:=false,slotNames:=["obj"]},#[some (.ref b),none,some (.str "K" tk),some (.str "cmp_to_key.<locals>.K" t1),some (.builtin "object.__new__"),some (.bool false)]⟩
noncomputable def AAE(C:Addr)(t:Tok):Obj:=⟨.type "member_descriptor",none,.fields #[.str "obj" t,.ref C,.builtin "proto.slot",.builtin "proto.slot#set",.int 0 0],#[]⟩
noncomputable def AaB(w:World)(x:Str):Int:=if x.cps.isEmpty=true then 0 else reduceHash (w.params.strHash x.cps)
noncomputable def Apa(w:World)(ln:Int)(i0 i2 i3 i4 i5 i6 i7 i8 i9 i10 i11:Int)(u0 u2 t0 t2 t3 t4 t5 t6 t7 t8 t9 t10 t11:Tok)(sl f0 f1 f2 f3 f4 f5 st M:Addr)(t:Nat):List DictEntry:=
 [⟨i0,.str "__module__" t0,.str "cpy313.functools" u0⟩,⟨i2,.str "__firstlineno__" t2,.int ln u2⟩,⟨i3,.str "__slots__" t3,.ref sl⟩,
   ⟨i4,.str "__init__" t4,.ref f0⟩,⟨i5,.str "__lt__" t5,.ref f1⟩,⟨i6,.str "__gt__" t6,.ref f2⟩,⟨i7,.str "__eq__" t7,.ref f3⟩,⟨i8,.str "__le__" t8,.ref f4⟩,⟨i9,.str "__ge__" t9,.ref f5⟩,⟨i10,.str "__hash__" t10,.none⟩,⟨i11,.str "__static_attributes__" t11,.ref st⟩,
   ⟨AaB w "obj",.str "obj" (t+1),.ref M⟩,⟨AaB w "__doc__",.str "__doc__" (t+2),.none⟩]
noncomputable def Aau(es:List DictEntry)(n:Nat):Obj:=⟨.type "dict",none,.dict es.toArray n,#[]⟩
end Mine
namespace Mine
open PySem PySem.W PyProof.Rows PySem.W.X
theorem Aur{h₀ h:Heap}{chg news:List (Addr×Obj)}(news':List (Addr×Obj))(D:Mem h₀ h chg news)(e:news=news'):Mem h₀ h chg news':=e ▸ D
end Mine
namespace Mine
open PySem PySem.W PyProof.Rows PySem.W.X
theorem Ab0{α:Type}{M:Model}{A:Around}{E:Value→Shared→Prop}{t':Sem α}{v:α}{Q:α→Shared→Prop}{s:Shared}(h:t'=pure v)(hq:Q v s):wpAny M A t' Q E s:=by subst h;exact wpAny_pure hq
end Mine
namespace Mine
open PySem PySem.W PyProof.Rows PySem.W.X
end Mine
namespace Mine
open PySem PySem.W PyProof.Rows PySem.W.X
section
inductive Axn(C:Addr)(h:Heap)(g:Array GenState)(d:Drawn)(os:OsState):Value→Shared→Prop
 |mk {so:Addr} {h':Heap} {t:Nat}:Mem h h' [] [(so,⟨.type "super",none,.fields #[.ref C,.ref C,.ref C],#[]⟩)]→Axn C h g d os (.ref so) ⟨h',g,d,t,os⟩
theorem Af3{M:Model}{A:Around}{E:Value→Shared→Prop}{h₀ h:Heap}{g:Array GenState}{d:Drawn}{t:Nat}{os:OsState}{so:Addr}{c:Value}{vs:Array Value}{i:Nat}{v:Value}{Q:Unit→Shared→Prop}(D:Mem h₀ h [] [(so,⟨c,none,.fields vs,#[]⟩)])(hi:i<vs.size)
  (k:∀ h',Mem h₀ h' [] [(so,⟨c,none,.fields (vs.setIfInBounds i v),#[]⟩)]→Q () ⟨h',g,d,t,os⟩):wpAny M A (setField (.ref so) i v) Q E ⟨h,g,d,t,os⟩:=by
 unfold setField;refine wpAny_bind (wpAny_load (D.at 0 _ _ rfl) ?_);dsimp only;rw[if_pos hi];exact wpAny_update (D.at 0 _ _ rfl) (k _ (D.update (i:=0) rfl rfl))
theorem Apb{M:Model}{A:Around}{E:Value→Shared→Prop}{h₀ h:Heap}{g:Array GenState}{d:Drawn}{t:Nat}{os:OsState}{so:Addr}{c x y z:Value}{Q:PySem.Fin→Shared→Prop}(D:Mem h₀ h [] [(so,⟨c,none,.fields #[.none,.none,.none],#[]⟩)])
  (k:∀ h',Mem h₀ h' [] [(so,⟨c,none,.fields #[x,y,z],#[]⟩)]→Q (.done (.ret .none)) ⟨h',g,d,t,os⟩):wpAny M A (do setField (.ref so) 0 x;setField (.ref so) 1 y;setField (.ref so) 2 z;ret .none) Q E ⟨h,g,d,t,os⟩:=
 wpAny_bind (Af3 D (by decide) fun _ D1=>wpAny_bind (Af3 D1 (by rw[Array.size_setIfInBounds];decide) fun _ D2=>wpAny_bind (Af3 D2 (by rw[Array.size_setIfInBounds,Array.size_setIfInBounds];decide) fun _ D3=>wpAny_pure (k _ D3))))
theorem Aus{prog:Program}{w:World}{A:Around}{E:Value→Shared→Prop}{h hp:Heap}{g:Array GenState}{d:Drawn}{t:Nat}{os:OsState}{C N b so:Addr}{tk t1:Tok}{Q:PySem.Fin→Shared→Prop}
  (D:Mem h hp [] [(so,⟨.type "super",none,.fields #[.none,.none,.none],#[]⟩)]) (hD':hp.get? C=some ⟨.type "type",none,.cls {name:="K",bases:=[.type "object"],mro:=[.ref C,.type "object"],ns:=N,qualname:="cmp_to_key.<locals>.K",hasDict:=false,slotNames:=["obj"]},#[some (.ref b),none,some (.str "K" tk),some (.str "cmp_to_key.<locals>.K" t1),some (.builtin "object.__new__"),some (.bool false)]⟩)
  (k:∀ h',Mem h h' [] [(so,⟨.type "super",none,.fields #[.ref C,.ref C,.ref C],#[]⟩)]→Q (.done (.ret .none)) ⟨h',g,d,t,os⟩):wpAny (model prog w) A (Builtin.«super.__init__» ⟨[.ref so,.ref C,.ref C],[]⟩) Q E ⟨hp,g,d,t,os⟩:=by
 unfold Builtin.«super.__init__» noKeywords
 repeat (first|(with_reducible refine ks_wpAny_isType_cls hD' rfl ?_)|(with_reducible refine Apb D ?_)|((with_reducible show wpAny _ _ (isSubtype (.ref _) _) _ _ _);unfold isSubtype mroOf)|(with_reducible refine wpAny_load hD' ?_)|(with_reducible refine wpAny_loadPart hD' ?_)|wp_step)
 exact k
theorem Aut(prog:Program)(w:World)(A:Around)(h:Heap)(g:Array GenState)(d:Drawn)(t:Nat)(os:OsState)(C N b:Addr)(tk t1:Tok)
  (hC:h.get? C=some ⟨.type "type",none,.cls {name:="K",bases:=[.type "object"],mro:=[.ref C,.type "object"],ns:=N,qualname:="cmp_to_key.<locals>.K",hasDict:=false,slotNames:=["obj"]},#[some (.ref b),none,some (.str "K" tk),some (.str "cmp_to_key.<locals>.K" t1),some (.builtin "object.__new__"),some (.bool false)]⟩) :
  wpAny (model prog w) A (call (.type "super") [.ref C,.ref C]) (Axn C h g d os) (fun _ _=>False) ⟨h,g,d,t,os⟩:=by
 refine ks_callType_codesW (Q₁:=fun obj s₁=>obj=.ref h.objs.size∧s₁=⟨h.push {cls:=.type "super",data:=.fields #[.none,.none,.none]},g,d,t,os⟩) F.ks_called_super (ks_wpAny_checkTypeCall_super hC rfl) F.ks_entry_super_init
  (ks_code_super_new _ _ ⟨rfl,rfl⟩) fun obj s₁ h₁=>?_
 obtain⟨rfl,rfl⟩:=h₁
 have D:=(Mem.start h).alloc (o:={cls:=.type "super",data:=.fields #[.none,.none,.none]}) rfl;have up:∀ y o,h.get? y=some o→(h.push {cls:=.type "super",data:=.fields #[.none,.none,.none]}).get? y=some o:=fun y o e=>Heap.get?_push_of_some _ e;have hso:(h.push {cls:=.type "super",data:=.fields #[.none,.none,.none]}).get? h.objs.size=some {cls:=.type "super",dict:=none,data:=.fields #[.none,.none,.none],slots:=#[]}:=Heap.get?_push_at rfl rfl;have hD':=up _ _ hC;refine⟨⟨_,hso,rfl⟩,F.ks_initArgs_super _ _ _,?_⟩;exact Aus D hD' fun h' D3=>⟨rfl,.mk D3⟩
end
end Mine
local macro_rules | `(tactic| x_close) => `(tactic| (with_reducible constructor) <;> first | assumption | exact PySem.W.X.Mem.start _)
namespace Mine
open PySem PySem.W PyProof.Rows PySem.W.X
inductive AlT(C:Addr)(h:Heap)(g:Array GenState)(d:Drawn)(os:OsState):Value→Shared→Prop
 |mk {b:Addr} {h':Heap} {t:Nat}:Mem h h' [] [(b,⟨.type "builtin_function_or_method",none,.fields #[.builtin "object.__init_subclass__",.ref C],#[]⟩)]→AlT C h g d os (.ref b) ⟨h',g,d,t,os⟩
section
theorem Aym(prog:Program)(w:World)(A:Around)(h:Heap)(g:Array GenState)(d:Drawn)(t:Nat)(os:OsState)(C N b:Addr)(tk t1:Tok)
  (hC:h.get? C=some ⟨.type "type",none,.cls {name:="K",bases:=[.type "object"],mro:=[.ref C,.type "object"],ns:=N,qualname:="cmp_to_key.<locals>.K",hasDict:=false,slotNames:=["obj"]},#[some (.ref b),none,some (.str "K" tk),some (.str "cmp_to_key.<locals>.K" t1),some (.builtin "object.__new__"),some (.bool false)]⟩) :
  wpAny (model prog w) A (call (.builtin "classmethod_descriptor.__get__") [.builtin "object.__init_subclass__",.none,.ref C]) (AlT C h g d os) (fun _ _=>False) ⟨h,g,d,t,os⟩:=by
 x_run
end
theorem ABb:typeOf (.builtin "object.__init_subclass__")=pure (.type "classmethod_descriptor"):=by kernel_rfl
theorem ABc:typeLookup (.type "classmethod_descriptor") "__get__"=pure (some (.builtin "classmethod_descriptor.__get__")):=by rw[typeLookup_type,builtinLookup_eq_fast];kernel_rfl
end Mine
namespace Mine
open PySem PySem.W PyProof.Rows PySem.W.X
theorem Ayn{M:Model}{A:Around}{E:Value→Shared→Prop}{s:Shared}{a:Addr}{β:Type}{f:Value→β→Sem (ForInStep β)}{b:β}{Q:β→Shared→Prop}(h:wpAny M A (forIn [Value.type "object"] b f) Q E s) :
  wpAny M A (forIn (List.drop 1 (List.dropWhile (fun x=>x != Value.ref a) [Value.ref a,.type "object"])) b f) Q E s:=by
 have e:List.drop 1 (List.dropWhile (fun x=>x != Value.ref a) [Value.ref a,.type "object"])=[.type "object"]:=by simp [List.dropWhile]
 rw[e];exact h
theorem ABd(prog:Program)(w:World)(A:Around)(E:Value→Shared→Prop)(h:Heap)(g:Array GenState)(d:Drawn)(t:Nat)(os:OsState)(so C N b:Addr)(tk t1 tq:Tok)(P:PySem.Fin→Shared→Prop)
  (hso:h.get? so=some {cls:=.type "super",dict:=none,data:=.fields #[.ref C,.ref C,.ref C],slots:=#[]})
  (hC:h.get? C=some ⟨.type "type",none,.cls {name:="K",bases:=[.type "object"],mro:=[.ref C,.type "object"],ns:=N,qualname:="cmp_to_key.<locals>.K",hasDict:=false,slotNames:=["obj"]},#[some (.ref b),none,some (.str "K" tk),some (.str "cmp_to_key.<locals>.K" t1),some (.builtin "object.__new__"),some (.bool false)]⟩)
  (mc:Str→Option Value) (hmc:h.Ns cStatics mc) (hno:mc "thirdparty.any"=none)
  (hP:∀ v s',AlT C h g d os v s'→P (.done (.ret v)) s') :
  wpAny (model prog w) A (Builtin.«super.__getattribute__» ⟨[.ref so,.str "__init_subclass__" tq],[]⟩) P E ⟨h,g,d,t,os⟩:=by
 have hdt:({cls:=.type "super",dict:=none,data:=.fields #[.ref C,.ref C,.ref C],slots:=#[]}:Obj).data=.fields #[.ref C,.ref C,.ref C]:=rfl;have f0:(#[.ref C,.ref C,.ref C]:Array Value)[0]?=some (.ref C):=rfl;have f1:(#[.ref C,.ref C,.ref C]:Array Value)[1]?=some (.ref C):=rfl;have f2:(#[.ref C,.ref C,.ref C]:Array Value)[2]?=some (.ref C):=rfl;unfold Builtin.«super.__getattribute__»
 repeat (first
  |(with_reducible refine wpAny_field hso hdt f0 ?_)|(with_reducible refine wpAny_field hso hdt f1 ?_)|(with_reducible refine wpAny_field hso hdt f2 ?_)
  |(with_reducible refine wpAny_nsGet hmc ?_;rw[hno])
  |(refine Ayn ?_)|((with_reducible show wpAny _ _ (classOwn _ _) _ _ _);refine Ab0 ArN ?_)|(with_reducible refine Ab0 ABb ?_)|(with_reducible refine Ab0 ABc ?_)
  |((with_reducible show wpAny _ _ (call _ _) _ _ _);rw[if_pos (beq_self_eq_true _)];refine wpAny_mono (Aym prog w _ h g d t os C N b tk t1 hC) (fun v s' hv=>?_) (fun _ _ hv=>hv.elim))
  |(with_reducible refine wpAny_load' hC ?_)|(with_reducible refine wpAny_loadPart' hC ?_)
  |((with_reducible show wpAny _ _ (mroOf (.ref _)) _ _ _);unfold mroOf)
  |wp_step
  |dsimp only)
 all_goals exact hP _ _ (by assumption)
theorem Auu(prog:Program)(w:World)(A:Around)(E:Value→Shared→Prop)(h:Heap)(g:Array GenState)(d:Drawn)(t:Nat)(os:OsState)(so C N b:Addr)(tk t1:Tok)(Q:Value→Shared→Prop)
  (hso:h.get? so=some {cls:=.type "super",dict:=none,data:=.fields #[.ref C,.ref C,.ref C],slots:=#[]})
  (hC:h.get? C=some ⟨.type "type",none,.cls {name:="K",bases:=[.type "object"],mro:=[.ref C,.type "object"],ns:=N,qualname:="cmp_to_key.<locals>.K",hasDict:=false,slotNames:=["obj"]},#[some (.ref b),none,some (.str "K" tk),some (.str "cmp_to_key.<locals>.K" t1),some (.builtin "object.__new__"),some (.bool false)]⟩)
  (mc:Str→Option Value) (hmc:h.Ns cStatics mc) (hno:mc "thirdparty.any"=none)
  (hq:∀ v s',AlT C h g d os v s'→Q v s') :
  wpAny (model prog w) A (getAttr (.ref so) "__init_subclass__") Q E ⟨h,g,d,t,os⟩:=by
 have hlk:=F.ks_slot_super_ga.lookup;have hT:∀ t',(⟨h,g,d,t',os⟩:Shared).TypeIs (.ref so) "super":=fun _=>⟨_,hso,rfl⟩;unfold getAttr getAttrBy;refine wpAny_bind (wpAny_mkText (wpAny_holding (wpAny_bind (wpAny_typeOf (hT _) (wpAny_bind (wpAny_of_eq hlk ?_))))));show wpAny _ _ (getAttrByItsOwn (.ref so) (.str "__init_subclass__" t) (.type "super") (.builtin "super.__getattribute__") true false) _ _ _;unfold getAttrByItsOwn hookBefore callGetattribute boundAndCalled;refine wpAny_bind (wpAny_of_eq (show(if onTheHeap (.type "super") then typeLookup (.type "super") "__getattr__" else pure none)=pure none from rfl) ?_);refine wpAny_bind (wpAny_attempt (wpAny_holding ?_));show wpAny _ _ (bindSpecial (.builtin "super.__getattribute__") (.ref so) >>= _) _ _ _;refine wpAny_bind (wpAny_of_eq (F.ks_slot_super_ga.bind _) ?_);refine wpAny_mono (Q:=fun v s'=>AlT C h g d os v s') (E:=fun _ _=>False)
  (wpAny_call_entry F.ks_slot_super_ga (hT _) F.ks_entry_super_ga (ABd prog w _ _ h g d (t+1) os so C N b tk t1 t _ hso hC mc hmc hno fun v s' hv=>⟨_,rfl,hv⟩) (F.ks_gaArgs_super _ _)) (fun v s' hv=>?_) fun _ _ z=>z.elim
 cases hv with|mk D=>?_
 exact wpAny_pure (hq _ _ (.mk D))
inductive ArO(h:Heap)(g:Array GenState)(d:Drawn)(os:OsState):Value→Shared→Prop
 |mk {h':Heap} {t:Nat}:Mem h h' [] []→ArO h g d os .none ⟨h',g,d,t,os⟩
section
theorem Auv(prog:Program)(w:World)(A:Around)(h:Heap)(g:Array GenState)(d:Drawn)(t:Nat)(os:OsState)(C bi N b:Addr)(tk t1:Tok)
  (hC:h.get? C=some ⟨.type "type",none,.cls {name:="K",bases:=[.type "object"],mro:=[.ref C,.type "object"],ns:=N,qualname:="cmp_to_key.<locals>.K",hasDict:=false,slotNames:=["obj"]},#[some (.ref b),none,some (.str "K" tk),some (.str "cmp_to_key.<locals>.K" t1),some (.builtin "object.__new__"),some (.bool false)]⟩)
  (hb:h.get? bi=some ⟨.type "builtin_function_or_method",none,.fields #[.builtin "object.__init_subclass__",.ref C],#[]⟩) :
  wpAny (model prog w) A (call (.ref bi) []) (ArO h g d os) (fun _ _=>False) ⟨h,g,d,t,os⟩:=by
 x_run
end
end Mine
namespace Mine
open PySem PySem.W PyProof.Rows PySem.W.X
section
variable{prog:Program}{w:World}{M:Model}{A:Around}{E:Value→Shared→Prop}{h₀ h:Heap}{g:Array GenState}{d:Drawn}{t:Nat}{os:OsState}{chg news:List (Addr×Obj)}
theorem Axo{α β:Type}{s:Shared}{f:α→β→Sem (ForInStep β)}{b:β}{xs:Array α}{Q:β→Shared→Prop}(turn:∀ x∈xs.toList,wpAny M A (f x b) (fun r s'=>r=.yield b∧s'=s) E s)(fin:Q b s):wpAny M A (forIn xs b f) Q E s:=by
 rw[← Array.forIn_toList];refine wpAny_forIn_list f (fun rest b' s'=>(∀ x∈rest,x∈xs.toList)∧b'=b∧s'=s) Q ?_ ?_ _ _ ⟨fun _ hx=>hx,rfl,rfl⟩
 ·intro x rest b' s' q1;refine Ahs q1 fun hm z1 z2=>?_;subst z1;subst z2;refine wpAny_mono (turn x (hm x (.head _))) (fun r s'' hr=>?_) fun _ _ e=>e;refine Aaz hr fun z3 z4=>?_;subst z3;subst z4;exact⟨fun y hy=>hm y (.tail _ hy),rfl,rfl⟩
 ·intro b' s' q2;refine Ahs q2 fun _ z5 z6=>?_;subst z5;subst z6;exact fin
theorem Aa8{h₀ h:Heap}{news:List (Addr×Obj)}(D:Mem h₀ h [] news):∀ b o,h₀.get? b=some o→h.get? b=some o:=fun b o e=>D.keep b o e (by rw[show away [] b=true from rfl,Bool.or_true])
end
end Mine
namespace Mine
open PySem PySem.W PyProof.Rows PySem.W.X
theorem AlU{M:Model}{A:Around}{E:Value→Shared→Prop}{h:Heap}{g:Array GenState}{d:Drawn}{t:Nat}{os:OsState}{a:Addr}{es:Array DictEntry}{n:Nat}{Q:Array DictEntry→Shared→Prop}(hk:h.get? a=some ⟨.type "dict",none,.dict es n,#[]⟩)(hq:Q es ⟨h,g,d,t,os⟩) :
  wpAny M A (dictEntries a) Q E ⟨h,g,d,t,os⟩:=by
 unfold dictEntries;exact wpAny_bind (wpAny_loadPart' hk (wpAny_pure hq))
noncomputable def ABe(s:Shared)(e:DictEntry):Prop:=(∃ k t,e.key=.str k t)∧Builtin.laidUnderItsOwnName e.key e.val=false∧∃ T,s.TypeIs e.val T∧typeLookup (.type T) "__set_name__"=pure none
theorem Ayo{s:Shared}{w:World}{ln i0 i2 i3 i4 i5 i6 i7 i8 i9 i10 i11:Int}{u0 u2 t0 t2 t3 t4 t5 t6 t7 t8 t9 t10 t11:Tok}{sl f0 f1 f2 f3 f4 f5 st m:Addr}{t:Nat}
  (hsl:s.TypeIs (.ref sl) "list") (h0:s.TypeIs (.ref f0) "function") (h1:s.TypeIs (.ref f1) "function") (h2:s.TypeIs (.ref f2) "function") (h3:s.TypeIs (.ref f3) "function") (h4:s.TypeIs (.ref f4) "function") (h5:s.TypeIs (.ref f5) "function")
  (hst:s.TypeIs (.ref st) "tuple") (hm:s.TypeIs (.ref m) "member_descriptor"):∀ e∈Apa w ln i0 i2 i3 i4 i5 i6 i7 i8 i9 i10 i11 u0 u2 t0 t2 t3 t4 t5 t6 t7 t8 t9 t10 t11 sl f0 f1 f2 f3 f4 f5 st m t,ABe s e:=by
 intro e he;simp only[Apa,List.mem_cons,List.not_mem_nil,or_false] at he
 rcases he with rfl|rfl|rfl|rfl|rfl|rfl|rfl|rfl|rfl|rfl|rfl|rfl|rfl
 ·exact⟨⟨_,_,rfl⟩,by kernel_rfl!,_,typeIs_str _ _ _,ArL⟩
 ·exact⟨⟨_,_,rfl⟩,by kernel_rfl!,_,typeIs_int _ _ _,ArM⟩
 ·exact⟨⟨_,_,rfl⟩,by kernel_rfl!,_,hsl,Anb⟩
 ·exact⟨⟨_,_,rfl⟩,by kernel_rfl!,_,h0,AbR⟩
 ·exact⟨⟨_,_,rfl⟩,by kernel_rfl!,_,h1,AbR⟩
 ·exact⟨⟨_,_,rfl⟩,by kernel_rfl!,_,h2,AbR⟩
 ·exact⟨⟨_,_,rfl⟩,by kernel_rfl!,_,h3,AbR⟩
 ·exact⟨⟨_,_,rfl⟩,by kernel_rfl!,_,h4,AbR⟩
 ·exact⟨⟨_,_,rfl⟩,by kernel_rfl!,_,h5,AbR⟩
 ·exact⟨⟨_,_,rfl⟩,by kernel_rfl!,_,typeIs_none _,AkB⟩
 ·exact⟨⟨_,_,rfl⟩,by kernel_rfl!,_,hst,AkC⟩
 ·exact⟨⟨_,_,rfl⟩,by kernel_rfl!,_,hm,AhM⟩
 ·exact⟨⟨_,_,rfl⟩,by kernel_rfl!,_,typeIs_none _,AkB⟩
end Mine
namespace Mine
open PySem PySem.W PyProof.Rows PySem.W.X
theorem ArP{prog:Program}{w:World}{A:Around}{E:Value→Shared→Prop}{h₀ h:Heap}{g:Array GenState}{d:Drawn}{t:Nat}{os:OsState}{chg news:List (Addr×Obj)}{l:Addr}{vs:List Value}{n:Nat}{Q:List Value→Shared→Prop}(D:Mem h₀ h chg news)
  (hl:h.get? l=some {cls:=.type "list",data:=.seq vs.toArray n}) (hsz:vs.length≤sizeLine) (x:∀ a h' o,Mem h₀ h' chg ((a,o) :: news)→Q vs ⟨h',g,d,t,os⟩):wpAny (model prog w) A (collect (.ref l)) Q E ⟨h,g,d,t,os⟩:=
 collect_list ⟨_,hl,rfl,_,rfl⟩ (x _ _ _ ((D.alloc rfl).update (i:=0) rfl rfl)) hsz
theorem AD6{M:Model}{A:Around}{E:Value→Shared→Prop}{s:Shared}{a:Addr}{f:Value→Sem Bool}{Q:Bool→Shared→Prop}(h:wpAny M A (List.anyM f [.type "object"]) Q E s) :
  wpAny M A (List.anyM f (List.filter (fun x=>x != Value.ref a) [Value.ref a,.type "object"])) Q E s:=by
 have e:List.filter (fun x=>x != Value.ref a) [Value.ref a,.type "object"]=[.type "object"]:=by simp
 rw[e];exact h
theorem ABf{M:Model}{A:Around}{E:Value→Shared→Prop}{s:Shared}{v:Value}{f:Value→Sem Bool}{Q:Bool→Shared→Prop}(h:wpAny M A (f v) (fun b s'=>Q b s') E s) :
  wpAny M A (List.anyM f [v]) Q E s:=by
 show wpAny M A (f v >>= fun b=>match b with|true=>pure true|false=>pure false) Q E s;refine wpAny_bind (wpAny_mono h (fun b s' hb=>?_) fun _ _ e=>e)
 cases b<;>exact wpAny_pure hb
theorem ArQ:((Manifest.find? "object").elim false fun ty=>ty.attrs.any (·.1 == "__del__"))=false:=by decide +kernel
theorem Aoj{M:Model}{A:Around}{E:Value→Shared→Prop}{h:Heap}{g:Array GenState}{d:Drawn}{t:Nat}{os:OsState}{x:Str}{Q:Value→Shared→Prop}(k:Q (.str x t) ⟨h,g,d,t+1,os⟩):wpAny M A (mkText x) Q E ⟨h,g,d,t,os⟩:=wpAny_mkText k
theorem ABg{M:Model}{A:Around}{E:Value→Shared→Prop}{s:Shared}{Q:Setting→Shared→Prop}(k:Q ⟨M.prog,M.w.params⟩ s):wpAny M A ask Q E s:=wpAny_askSetting k
theorem Ayp{α:Type}{M:Model}{A:Around}{E:Value→Shared→Prop}{s:Shared}{m:Sem α}{k:Value→Sem α}{Q:α→Shared→Prop}(h:wpAny M A m Q (fun e s'=>wpAny M A (k e) Q E s') s):wpAny M A (Sem.tryCatch m k) Q E s:=wpAny_tryCatch h
theorem Anc{M:Model}{A:Around}{E:Value→Shared→Prop}{h₀ h:Heap}{g:Array GenState}{d:Drawn}{t:Nat}{os:OsState}{chg news:List (Addr×Obj)}{a:Addr}{f:ClassData→ClassData}{o:Obj}{c:ClassData}{Q:Unit→Shared→Prop}(D:Mem h₀ h chg news)(i:Nat)(hi:news[i]?=some (a,o))(hd:o={o with data:=.cls c})
  (o':Obj) (ho':o'={o with data:=.cls (f c)}) (hl:(Data.cls (f c)).pastItsLine=none) (x:∀ h',Mem h₀ h' chg (news.set i (a,o'))→Q () ⟨h',g,d,t,os⟩) :
  wpAny M A (updateCls a f) Q E ⟨h,g,d,t,os⟩:=by
 subst ho';have e:Obj.mapCls f o={o with data:=.cls (f c)}:=by rw[hd];rfl
 unfold updateCls;refine wpAny_bind (wpAny_load (D.at i a o hi) ?_);rw[hd];have hf:(Obj.mapCls f o).isFreed=false:=by rw[e];rfl
 have D':=D.update hi hf;have hi':(news.set i (a,Obj.mapCls f o))[i]?=some (a,Obj.mapCls f o):=by rw[List.getElem?_set_self];exact(List.getElem?_eq_some_iff.mp hi).1
 refine wpAny_bind (wpAny_update (D.at i a o hi) ?_);unfold lookBehind;refine wpAny_bind (wpAny_loadPart (D'.at i a _ hi') ?_);rw[e] at D' ⊢;dsimp only;rw[hl];exact wpAny_pure (x _ D')
noncomputable abbrev Thn{α β:Type}(M:Model)(A:Around)(f:α→Sem β)(Q:β→Shared→Prop)(E:Value→Shared→Prop):α→Shared→Prop:=fun a s=>wpAny M A (f a) Q E s
section
variable{α β:Type}{M:Model}{A:Around}{m:Sem α}{f:α→Sem β}{Q:β→Shared→Prop}{E:Value→Shared→Prop}{s:Shared}{a:α}
theorem wb(h:wpAny M A m (Thn M A f Q E) E s):wpAny M A (m >>= f) Q E s:=wpAny_bind h
theorem Axp(h:wpAny M A (f a) Q E s):Thn M A f Q E a s:=h
end
noncomputable abbrev MS(h₀:Heap)(news:List (Addr×Obj)):={h:Heap // Mem h₀ h [] news}
section
variable{α:Type}{M:Model}{A:Around}{E:Value→Shared→Prop}{h₀:Heap}{g:Array GenState}{d:Drawn}{t:Nat}{os:OsState}{news:List (Addr×Obj)}{X:MS h₀ news}
noncomputable def MS.up(X:MS h₀ news)(i:Nat)(a:Addr)(o:Obj)(f:Obj→Obj)(hi:news[i]?=some (a,o))(hf:(f o).isFreed=false){n2:List (Addr×Obj)}(hn:news.set i (a,f o)=n2):MS h₀ n2:=⟨X.1.update a f,hn ▸ X.2.update hi hf⟩
theorem MS.old(X:MS h₀ news){a:Addr}{o:Obj}(e:h₀.get? a=some o)(q:hasCls o=true):X.1.get? a=some o:=X.2.old a o e (by rw[q];rfl)
theorem MS.at(X:MS h₀ news)(i:Nat){a:Addr}{o:Obj}(hi:news[i]?=some (a,o)):X.1.get? a=some o:=X.2.at i a o hi
theorem Auw{o:Obj}{Q:Addr→Shared→Prop}(hf:o.isFreed=false)(x:∀ a (X':MS h₀ ((a,o) :: news)),Q a ⟨X'.1,g,d,t,os⟩):wpAny M A (alloc o) Q E ⟨X.1,g,d,t,os⟩:=
 wpAny_alloc (x _ ⟨_,X.2.alloc hf⟩)
theorem Afz{a:Addr}{f:Obj→Obj}{o:Obj}{Q:Unit→Shared→Prop}(i:Nat)(hi:news[i]?=some (a,o))(hf:(f o).isFreed=false){n2:List (Addr×Obj)}(hn:news.set i (a,f o)=n2)(x:Q () ⟨(X.up i a o f hi hf hn).1,g,d,t,os⟩) :
  wpAny M A (update a f) Q E ⟨X.1,g,d,t,os⟩:=wpAny_update (X.2.at i a o hi) x
theorem AcM{a:Addr}{q:Option Value}{f:Obj→Obj}{o:Obj}{Q:Unit→Shared→Prop}(i:Nat)(hi:news[i]?=some (a,o))(hf:(f o).isFreed=false){n2:List (Addr×Obj)}(hn:news.set i (a,f o)=n2)(x:Q () ⟨(X.up i a o f hi hf hn).1,g,d,t,os⟩) :
  wpAny M A (updatePart a q f) Q E ⟨X.1,g,d,t,os⟩:=wpAny_updatePart (X.2.at i a o hi) x
theorem AlV{a:Addr}{f:ClassData→ClassData}{o:Obj}{c:ClassData}{Q:Unit→Shared→Prop}(i:Nat)(hi:news[i]?=some (a,o))(hd:o={o with data:=.cls c})
  (o':Obj) (ho':o'={o with data:=.cls (f c)}) (hl:(Data.cls (f c)).pastItsLine=none) (x:∀ X':MS h₀ (news.set i (a,o')),Q () ⟨X'.1,g,d,t,os⟩) :
  wpAny M A (updateCls a f) Q E ⟨X.1,g,d,t,os⟩:=Anc X.2 i hi hd o' ho' hl fun _ D=>x ⟨_,D⟩
theorem ABh{m:Sem α}{Q:α→Shared→Prop}(k:∀ h,Mem h₀ h [] news→wpAny M A m Q E ⟨h,g,d,t,os⟩):wpAny M A m Q E ⟨X.1,g,d,t,os⟩:=k _ X.2
theorem AD7{m:Sem α}{Q:α→Shared→Prop}(k:∀ X:MS h₀ [],wpAny M A m Q E ⟨X.1,g,d,t,os⟩):wpAny M A m Q E ⟨h₀,g,d,t,os⟩:=k ⟨_,.start h₀⟩
end
theorem Apc{prog:Program}{w:World}{A:Around}{E:Value→Shared→Prop}{h₀:Heap}{g:Array GenState}{d:Drawn}{t:Nat}{os:OsState}{news:List (Addr×Obj)}{X:MS h₀ news}{l:Addr}{vs:List Value}{n:Nat}{Q:List Value→Shared→Prop}
  (hl:h₀.get? l=some {cls:=.type "list",data:=.seq vs.toArray n}) (hsz:vs.length≤sizeLine) (x:∀ a o (X':MS h₀ ((a,o) :: news)),Q vs ⟨X'.1,g,d,t,os⟩):wpAny (model prog w) A (collect (.ref l)) Q E ⟨X.1,g,d,t,os⟩:=
 ArP X.2 (X.old hl rfl) hsz fun a _ o D=>x a o ⟨_,D⟩
theorem AFU(prog:Program)(w:World)(A:Around)(P:PySem.Fin→Shared→Prop)(E:Value→Shared→Prop)(hO:Heap)(g:Array GenState)(d:Drawn)(t:Nat)(os:OsState)(b ns sl f0 f1 f2 f3 f4 f5 st:Addr)(tk v0 v1 u0 u1 u2 t0 t1 t2 t3 t4 t5 t6 t7 t8 t9 t10 t11:Tok)(ln i0 i1 i2 i3 i4 i5 i6 i7 i8 i9 i10 i11:Int)(n k:Nat)
   (fd0 fd1 fd2 fd3 fd4 fd5:FuncData)
   (hb:hO.get? b=some {cls:=.type "tuple",data:=.seq #[.type "object"] k})
   (hsl:hO.get? sl=some {cls:=.type "list",data:=.seq [Value.str "obj" v0].toArray k})
   (hst:hO.get? st=some {cls:=.type "tuple",data:=.seq #[.str "obj" v1] k})
   (hf0:hO.get? f0=some {cls:=.type "function",data:=.func fd0})
   (hf1:hO.get? f1=some {cls:=.type "function",data:=.func fd1})
   (hf2:hO.get? f2=some {cls:=.type "function",data:=.func fd2})
   (hf3:hO.get? f3=some {cls:=.type "function",data:=.func fd3})
   (hf4:hO.get? f4=some {cls:=.type "function",data:=.func fd4})
   (hf5:hO.get? f5=some {cls:=.type "function",data:=.func fd5})
   (hsm:(ns == sysModules)=false) (mc:Str→Option Value) (hmc:hO.Ns cStatics mc) (hno:mc "thirdparty.any"=none)
   (hns:hO.get? ns=some {cls:=.type "dict",data:=.dict #[⟨i0,.str "__module__" t0,.str "cpy313.functools" u0⟩,⟨i1,.str "__qualname__" t1,.str "cmp_to_key.<locals>.K" u1⟩,⟨i2,.str "__firstlineno__" t2,.int ln u2⟩,⟨i3,.str "__slots__" t3,.ref sl⟩,
   ⟨i4,.str "__init__" t4,.ref f0⟩,⟨i5,.str "__lt__" t5,.ref f1⟩,⟨i6,.str "__gt__" t6,.ref f2⟩,⟨i7,.str "__eq__" t7,.ref f3⟩,⟨i8,.str "__le__" t8,.ref f4⟩,⟨i9,.str "__ge__" t9,.ref f5⟩,⟨i10,.str "__hash__" t10,.none⟩,⟨i11,.str "__static_attributes__" t11,.ref st⟩] n})
   (hP:∀ (aM aC aN aO:Addr) (oO:Obj) (tM:Nat) (h1 h':Heap) (t':Nat),Mem hO h1 [] [(aM,AAE aC tM),(aC,Ayl aC aN b tk u1),(aN,Aau (Apa w ln i0 i2 i3 i4 i5 i6 i7 i8 i9 i10 i11 u0 u2 t0 t2 t3 t4 t5 t6 t7 t8 t9 t10 t11 sl f0 f1 f2 f3 f4 f5 st aM tM) 3),(aO,oO)] →
   (∀ a o,h1.get? a=some o→h'.get? a=some o)→P (.done (.ret (.ref aC))) ⟨h',g,d,t',os⟩) :
   wpAny (model prog w) A (Builtin.«type.__new__» ⟨[.type "type",.str "K" tk,.ref b,.ref ns],[]⟩) P E ⟨hO,g,d,t,os⟩:=by
 refine AD7 fun X=>?_;unfold Builtin.«type.__new__»
 iterate 559 (first
 |with_reducible (first|refine wpAny_pure ?_|refine wb ?_|refine wpAny_holding ?_|refine wpAny_standAt ?_|refine wpAny_point ?_|refine wpAny_rule ?_|refine wpAny_fresh' ?_|refine wpAny_mkInt' ?_|refine Aoj ?_|refine Ayp ?_|refine ABg ?_|refine Ab0 Axh ?_|refine Ab0 Axm ?_|refine Ab0 ArN ?_|refine Ab0 Axi ?_|refine Ab0 AlS ?_|refine Ab0 Axj ?_|refine Ab0 Aog ?_|refine Ab0 ArI ?_|refine Ab0 Af2 ?_|refine Ab0 Aoh ?_|refine Ab0 sl_best ?_|refine Ab0 Aoi ?_|refine Ab0 ArJ ?_|refine Ab0 ArK ?_|refine Ab0 Axk ?_|refine Ab0 Axl ?_|refine Ab0 ArL ?_|refine Ab0 ArM ?_|refine Ab0 Anb ?_|refine Ab0 AbR ?_|refine Ab0 AkB ?_|refine Ab0 AkC ?_|refine Ab0 AhM ?_|refine Ab0 AhN ?_|refine Ab0 Adz ?_)
 |((try with_reducible refine Axp ?_);first
 |with_reducible (first|refine wpAny_pure ?_|refine wb ?_|refine wpAny_holding ?_|refine wpAny_standAt ?_|refine wpAny_point ?_|refine wpAny_rule ?_|refine wpAny_fresh' ?_|refine wpAny_mkInt' ?_|refine Aoj ?_|refine Ayp ?_|refine ABg ?_|refine Ab0 Axh ?_|refine Ab0 Axm ?_|refine Ab0 ArN ?_|refine Ab0 Axi ?_|refine Ab0 AlS ?_|refine Ab0 Axj ?_|refine Ab0 Aog ?_|refine Ab0 ArI ?_|refine Ab0 Af2 ?_|refine Ab0 Aoh ?_|refine Ab0 sl_best ?_|refine Ab0 Aoi ?_|refine Ab0 ArJ ?_|refine Ab0 ArK ?_|refine Ab0 Axk ?_|refine Ab0 Axl ?_|refine Ab0 ArL ?_|refine Ab0 ArM ?_|refine Ab0 Anb ?_|refine Ab0 AbR ?_|refine Ab0 AkB ?_|refine Ab0 AkC ?_|refine Ab0 AhM ?_|refine Ab0 AhN ?_|refine Ab0 Adz ?_)
 |(with_reducible refine AD6 ?_;refine ABf ?_;dsimp only;rw[ArQ])
 |(with_reducible show wpAny _ _ (updateCls _ _) _ _ _;rename_i _ aN _;rename Addr=>aC;refine AlV 0 (o:=⟨.type "type",none,.cls {name:="K",bases:=[.type "object"],mro:=[],ns:=aN,qualname:="cmp_to_key.<locals>.K"},#[some (.ref b),none,some (.str "K" tk),some (.str "cmp_to_key.<locals>.K" u1)]⟩) (by kernel_rfl!) rfl ⟨.type "type",none,.cls {name:="K",bases:=[.type "object"],mro:=[.ref aC,.type "object"],ns:=aN,qualname:="cmp_to_key.<locals>.K"},#[some (.ref b),none,some (.str "K" tk),some (.str "cmp_to_key.<locals>.K" u1)]⟩ (by kernel_rfl!) (by kernel_rfl!) ?_;intro X)
 |((with_reducible show wpAny _ _ (collect _) _ _ _);(refine Apc (by assumption) (Nat.le_of_ble_eq_true rfl) ?_);intro aO o X)
 |(with_reducible apply wpAny_ite_false;focus (first|assumption|rfl))
 |(with_reducible apply wpAny_ite_true;focus (first|assumption|rfl))
 |(with_reducible apply wpAny_load';focus (first|exact MS.old _ (by assumption) rfl|exact MS.at _ 0 rfl|exact MS.at _ 1 rfl|exact MS.at _ 2 rfl|exact MS.at _ 3 rfl;done))
 |(with_reducible apply wpAny_loadPart';focus (first|exact MS.old _ (by assumption) rfl|exact MS.at _ 0 rfl|exact MS.at _ 1 rfl|exact MS.at _ 2 rfl|exact MS.at _ 3 rfl;done))
 |(with_reducible refine Auw rfl ?_;intro a X)
 |(with_reducible apply wpAny_ite_false;focus kernel_rfl!)
 |(with_reducible apply wpAny_ite_true;focus kernel_rfl!)
 |((with_reducible show wpAny _ _ (typeLookup (.ref _) _) _ _ _);unfold typeLookup)
 |((with_reducible show wpAny _ _ (mroOf (.ref _)) _ _ _);unfold mroOf)
 |((with_reducible show wpAny _ _ (strHash _) _ _ _);unfold strHash)
 |wp_delta
 |(conv=>(arg 3;rw[AD5]))
 |(conv=>(arg 3;rw[ArQ]))
 |(with_reducible refine Afz (n2:=?_) 0 rfl rfl ?_ ?_;rotate_left;focus (dsimp only [List.set];exact rfl))
 |(with_reducible refine AcM (n2:=?_) 0 rfl rfl ?_ ?_;rotate_left;focus (dsimp only [List.set];exact rfl))
 |(with_reducible refine Afz (n2:=?_) 1 rfl rfl ?_ ?_;rotate_left;focus (dsimp only [List.set];exact rfl))
 |(with_reducible refine AcM (n2:=?_) 1 rfl rfl ?_ ?_;rotate_left;focus (dsimp only [List.set];exact rfl))
 |(with_reducible refine Afz (n2:=?_) 2 rfl rfl ?_ ?_;rotate_left;focus (dsimp only [List.set];exact rfl))
 |(with_reducible refine AcM (n2:=?_) 2 rfl rfl ?_ ?_;rotate_left;focus (dsimp only [List.set];exact rfl))
 |(with_reducible refine Afz (n2:=?_) 3 rfl rfl ?_ ?_;rotate_left;focus (dsimp only [List.set];exact rfl))
 |(with_reducible refine AcM (n2:=?_) 3 rfl rfl ?_ ?_;rotate_left;focus (dsimp only [List.set];exact rfl))
 |wp_step))
 try with_reducible refine Axp ?_
 rename Addr=>aM
 refine ABh fun hN D=>?_;have D2:=Aur [(aM,AAE aC t),(aC,Ayl aC aN b tk u1),(aN,Aau (Apa w ln i0 i2 i3 i4 i5 i6 i7 i8 i9 i10 i11 u0 u2 t0 t2 t3 t4 t5 t6 t7 t8 t9 t10 t11 sl f0 f1 f2 f3 f4 f5 st aM t) 3),(aO,o)] D (by kernel_rfl!);clear D;have kC:=D2.at 1 _ _ rfl;have kM:=D2.at 0 _ _ rfl;have kN:=D2.at 2 _ _ rfl;unfold Ayl at kC;unfold Aau at kN;refine Ayp ?_;refine wpAny_holding ?_;have ok:∀ tt,∀ e∈Apa w ln i0 i2 i3 i4 i5 i6 i7 i8 i9 i10 i11 u0 u2 t0 t2 t3 t4 t5 t6 t7 t8 t9 t10 t11 sl f0 f1 f2 f3 f4 f5 st aM t,ABe ⟨hN,g,d,tt,os⟩ e:=fun tt=>
  Ayo ⟨_,Aa8 D2 _ _ hsl,rfl⟩ ⟨_,Aa8 D2 _ _ hf0,rfl⟩ ⟨_,Aa8 D2 _ _ hf1,rfl⟩ ⟨_,Aa8 D2 _ _ hf2,rfl⟩ ⟨_,Aa8 D2 _ _ hf3,rfl⟩ ⟨_,Aa8 D2 _ _ hf4,rfl⟩ ⟨_,Aa8 D2 _ _ hf5,rfl⟩ ⟨_,Aa8 D2 _ _ hst,rfl⟩ ⟨_,kM,rfl⟩
 refine wpAny_bind (AlU kN ?_);refine wpAny_bind (Axo (fun e he=>?_) ?_)
 ·refine Aaz (ok 0 e (by simpa using he)) fun q1 _=>?_;refine Aw3 q1 fun k tt hk=>?_;rw[hk];exact wpAny_bind (wpAny_pure (wpAny_pure ⟨rfl,rfl⟩))
 rw[if_neg (by decide)];refine wpAny_bind (AlU kN ?_);refine wpAny_bind (Axo (fun e he=>?_) ?_)
 ·obtain⟨_,hl,T,hT,hsn⟩:=ok _ e (by simpa using he)
  rw[if_neg (by rw[hl];decide)];exact wpAny_bind (wpAny_specialOf hT hsn (wpAny_pure ⟨rfl,rfl⟩))
 refine wpAny_bind (wpAny_mono (Aut prog w _ hN g d _ os aC aN b tk u1 kC) (fun v s' hv=>?_) fun _ _ e=>e.elim)
 cases hv with|mk D3=>?_
 have kC3:=Aa8 D3 _ _ kC;have kS:=D3.at 0 _ _ rfl;refine wpAny_bind (wpAny_holding (Auu prog w _ _ _ _ _ _ _ _ aC aN b tk u1 _ kS kC3 mc ((hmc.keeps (Aa8 D2)).keeps (Aa8 D3)) hno fun v s' hv=>?_))
 cases hv with|mk D4=>?_
 have kC4:=Aa8 D4 _ _ kC3;have kB:=D4.at 0 _ _ rfl;refine wpAny_bind (wpAny_mono (Auv prog w _ _ _ _ _ _ _ _ aN b tk u1 kC4 kB) (fun v s' hv=>?_) fun _ _ e=>e.elim)
 cases hv with|mk D5=>?_
 refine wpAny_pure (wpAny_pure ?_);exact hP aM aC aN aO o t hN _ _ D2 fun a o e=>Aa8 D5 _ _ (Aa8 D4 _ _ (Aa8 D3 _ _ e))
theorem ArR:Bind.madeBy (.type "type")=pure (some "type.__new__"):=by unfold Bind.madeBy;rw[show mroOf (.type "type")=pure [.type "type",.type "object"] by rw[mroOf_type];kernel_rfl];simp only[pure_bind,List.forIn_cons,typeLookup_type,builtinLookup_eq_fast];kernel_rfl
theorem Aux:mroOf (.type "type")=pure [.type "type",.type "object"]:=by rw[mroOf_type];kernel_rfl
theorem Ayq(tk:Tok)(b ns:Addr):checkTypeCall "type" ⟨[.str "K" tk,.ref b,.ref ns],[]⟩=pure ():=by kernel_rfl
theorem ABi(tk:Tok)(b ns:Addr):checkBuiltinCall "type.__new__" ⟨[.type "type",.str "K" tk,.ref b,.ref ns],[]⟩=pure ():=by kernel_rfl
theorem Ajj:entryFor table "type.__new__"=some Builtin.«type.__new__»:=entryFor_of_tree (by kernel_rfl)
theorem AhO:entryFor table "type.__init__"=some Builtin.«type.__init__»:=entryFor_of_tree (by kernel_rfl)
theorem Acv:Slot "type" "__init__" "type.__init__":=.of (owner:="type") (n:="__init__") (by rw[typeLookup_type,builtinLookup_eq_fast];kernel_rfl) (by decide +kernel) (by decide +kernel) (by decide +kernel)
 (by first|exact .inl (by decide +kernel)|exact .inr (by decide +kernel)) (by rw[isSubtype_type];kernel_rfl)
theorem Ayr(C:Value)(tk:Tok)(b ns:Addr):argsOk "type.__init__" ⟨[C,.str "K" tk,.ref b,.ref ns],[]⟩:=by unfold argsOk;kernel_rfl
theorem Ajk:plainId "type.__new__"=true:=by decide +kernel
theorem Ays(prog:Program)(w:World)(A:Around)(E:Value→Shared→Prop)(h:Heap)(g:Array GenState)(d:Drawn)(t:Nat)(os:OsState)(b ns:Addr)(tk:Tok)(Q:Value→Shared→Prop)
  (hnew:∀ (A':Around) (P:PySem.Fin→Shared→Prop) (E':Value→Shared→Prop),(∀ (aC:Addr) (oC:Obj) (cd:ClassData) (h':Heap) (t':Nat),h'.get? aC=some oC→oC.cls=.type "type"→oC.data=.cls cd→Q (.ref aC) ⟨h',g,d,t',os⟩→P (.done (.ret (.ref aC))) ⟨h',g,d,t',os⟩) →
   wpAny (model prog w) A' (Builtin.«type.__new__» ⟨[.type "type",.str "K" tk,.ref b,.ref ns],[]⟩) P E' ⟨h,g,d,t,os⟩) :
  wpAny (model prog w) A (call (.type "type") [.str "K" tk,.ref b,.ref ns]) Q E ⟨h,g,d,t,os⟩:=by
 refine wpAny_call (codeAny_of_tree ?_);show wpAny _ _ (callAny (.type "type") _) _ _ _;refine wpAny_pure ⟨Code.quiet_builtin _ (by decide +kernel),codeAny_builtin F.entry_type_call ?_⟩;unfold Builtin.«type.__call__»
 repeat (first
  |(with_reducible refine Ab0 (Ayq tk b ns) ?_)|(with_reducible refine Ab0 Aux ?_)|(with_reducible refine Ab0 ArR ?_)
  |wp_step)
 refine codeAny_of_tree ?_;show wpAny _ _ (do checkBuiltinCall "type.__new__" ⟨[.type "type",.str "K" tk,.ref b,.ref ns],[]⟩;again (.builtin "type.__new__" ⟨[.type "type",.str "K" tk,.ref b,.ref ns],[]⟩)) _ _ _;refine wpAny_bind (wpAny_of_eq (ABi tk b ns) (wpAny_pure ⟨plainId_quiet Ajk _,codeAny_builtin Ajj ?_⟩));refine hnew _ _ _ fun aC oC cd h' t' hC hcls hd hq=>?_;have hT:(⟨h',g,d,t',os⟩:Shared).TypeIs (.ref aC) "type":=⟨_,hC,hcls⟩;have hli:=Acv.lookup;have hbi:=Acv.bind (.ref aC);have hsub:=AlS;show wpAny _ _ _ _ _ _
 repeat (any_goals (first|assumption|wp_step))
 refine codeAny_mono (codeAny_call_builtin (R:=wants (fun r s₂=>r=.none∧s₂=⟨h',g,d,t',os⟩) E) Acv.plain AhO (Acv.check _ _ _ _ _ _ _ _ hT (Ayr _ tk b ns) ?_)) fun r₂ s₂ hr₂=>?_
 ·unfold Builtin.«type.__init__»
  repeat (any_goals (first|assumption|wp_step))
  all_goals exact⟨rfl,rfl⟩
 ·cases r₂ with
  |error e=>exact hr₂
  |ok fl₂=>
   cases fl₂ with
   |ret r=>
    refine Aaz hr₂ fun z1 z2=>?_;subst z1;subst z2
    repeat (any_goals (first|assumption|wp_step))
    all_goals exact hq
   |_=>exact hr₂.elim
section
variable{prog:Program}{w:World}{A:Around}{E:Value→Shared→Prop}{h:Heap}{g:Array GenState}{d:Drawn}{t:Nat}{os:OsState}
theorem ArS{cenv:Env}{name:Str}{v:Value}{es es':List DictEntry}{n n':Nat}{Q:Unit→Shared→Prop}(hst:storeName cenv name v=localSet cenv name v)(ha:h.get? cenv.locals=some (Aau es n))(hkey:aRefKeyMayBeTheName name es.toArray=false)
  (hput:Obj.putName name (AaB w name) (.str name t) v (Aau es n)=Aau es' n') (hq:∀ h',h'.get? cenv.locals=some (Aau es' n')→Heap.SameBut cenv.locals h h'→Q () ⟨h',g,d,t+1,os⟩) :
  wpAny (model prog w) A (storeName cenv name v) Q E ⟨h,g,d,t,os⟩:=by
 rw[hst];unfold localSet;refine wpAny_bind (wpAny_load' ha ?_);rw[if_pos (show((Aau es n).cls == Value.type "dict")=true from rfl)];unfold nsSet strHash;refine wpAny_bind (wpAny_bind (wpAny_askSetting (wpAny_pure (wpAny_bind (wpAny_mkText (wpAny_bind (wpAny_loadPart ha ?_)))))));show wpAny _ _ (if aRefKeyMayBeTheName name es.toArray=true then _ else _) _ _ _;rw[hkey,if_neg Bool.false_ne_true];refine wpAny_updatePart ha ?_;have hg:(h.update cenv.locals (Obj.putName name (AaB w name) (.str name t) v)).get? cenv.locals=some (Aau es' n'):=by have:=Heap.get?_update_self (h:=h) (Obj.putName name (AaB w name) (.str name t) v) ha (by rw[hput];rfl);rw[this,hput]
 exact hq _ hg (Heap.SameBut.update ..)
theorem ArT{name bind:Str}{args:Arguments}{body:List Stmt}{scope:Scope}{pos:Pos}{env:Env}{Q:Flow→Shared→Prop}{xs:List Arg}
  (ha:args={posonlyargs:=[],args:=xs,vararg:=none,kwonlyargs:=[],kw_defaults:=[],kwarg:=none,defaults:=[]}) (hx:∀ e,annotationsOf (xs++[]++[]++[]++[]) e=[])
  (hm:wpAny (model prog w) A (makeFunction name (qualnameIn env name bind) args (.stmts body) scope env [] [] [] pos pos.line) (fun f s'=>wpAny (model prog w) A (storeName env bind f) (fun _ s''=>Q .next s'') E s') E ⟨h,g,d,t,os⟩) :
  wpAny (model prog w) A (exec (.FunctionDef name args body [] none [] scope none bind pos) env) Q E ⟨h,g,d,t,os⟩:=by
 subst ha;rw[arm_exec_FunctionDef];unfold defStmt
 repeat wp_step
 show wpAny _ _ (evalNamed (annotationsOf (xs++[]++[]++[]++[]) env++[])) _ _ _;rw[hx];refine Ab0 (show evalNamed ([]++[])=pure [] from rfl) ?_;refine wpAny_mono hm (fun f s' hf=>?_) fun _ _ e=>e;refine wpAny_bind (Ab0 (show decorate ((([]:List Value).zip (([]:List Expr).map (·.pos))).reverse) f=pure f from rfl) ?_);refine wpAny_bind (wpAny_standAt (wpAny_bind (wpAny_bindName (wpAny_mono hf (fun _ s'' hq=>wpAny_pure hq) fun _ _ e=>e))))
end
theorem Aj9{es:List DictEntry}{n:Nat}:Abp (Aau es n):=Aal rfl
theorem AgK{es:List DictEntry}{n:Nat}:¬ AcK (Aau es n):=AaH rfl (by decide)
structure CB(B:Bs)(names:Nat→Nat→Str)(tabs:List (Addr×Addr))(s₀:Shared)(g₀:Gh)(N:Addr)(es:List DictEntry)(n:Nat)(s:Shared)(g:Gh)(R:List (Addr×Addr)):Prop where
 st:Aae B s₀ g₀ s g
 hR:∀ q∈tabs,q∈R
 X:AbP B.G names R s.heap
 ns:s.heap.get? N=some (Aau es n)
 new:s₀.heap.get? N=none∧g N=none
section
variable{B:Bs}{A:Around}{names:Nat→Nat→Str}{tabs:List (Addr×Addr)}{s₀ s s':Shared}{g₀ g g':Gh}{N:Addr}{es es':List DictEntry}{n n':Nat}{R R':List (Addr×Addr)}
theorem CB.step(C:CB B names tabs s₀ g₀ N es n s g R)(x:Aae B s g s' g')(X:AbP B.G names R' s'.heap)(hR:∀ q∈R,q∈R'):CB B names tabs s₀ g₀ N es n s' g' R':=
 ⟨C.st.trans x,fun q hq=>hR q (C.hR q hq),X,x.ext.keep _ _ C.ns Aj9,C.new.1,x.shutNone C.ns C.new.2⟩
theorem CB.store(O:B.Ok)(C:CB B names tabs s₀ g₀ N es n s g R){cenv:Env}(hl:cenv.locals=N){name:Str}{v:Value}{Q:Unit→Shared→Prop}{E:Value→Shared→Prop}(hst:storeName cenv name v=localSet cenv name v)(hkey:aRefKeyMayBeTheName name es.toArray=false)
  (hput:Obj.putName name (AaB B.w name) (.str name s.toks) v (Aau es n)=Aau es' n') (hq:∀ s',CB B names tabs s₀ g₀ N es' n' s' g R→s'.toks=s.toks+1→(∀ a o,a≠N→s.heap.get? a=some o→s'.heap.get? a=some o)→Q () s') :
  wpAny B.M A (storeName cenv name v) Q E s:=by
 obtain⟨h,gg,d,t,os⟩:=s
 subst hl;refine ArS hst C.ns hkey hput fun h' hn hs=>hq _ ⟨C.st.turn O C.new.1 C.new.2 C.ns AgK hs rfl rfl,C.hR,C.X.keeps fun a o e tb=>?_,hn,C.new⟩ rfl fun a o ha e=>(hs.2 a ha).trans e;exact(hs.2 a fun ea=>by subst ea;rw[C.ns] at e;cases e;exact AgK tb).trans e
theorem CB.def_(O:B.Ok)(hb:Aw9 B)(TT:Arv B names tabs)(C:CB B names tabs s₀ g₀ N es n s g R){cenv:Env}(hl:cenv.locals=N){c P:Addr}{name:Str}{args:Arguments}{body:List Stmt}{scope:Scope}{pos:Pos}{xs:List Arg}{clos:List (Str×Addr)}
  (hge:cenv.globals=mainGlobals) (hcode:cenv.code=.ref c) (hm:(c,P)∈R) (hqn:names pos.line pos.col=qualnameIn cenv name name) (ha:args={posonlyargs:=[],args:=xs,vararg:=none,kwonlyargs:=[],kw_defaults:=[],kwarg:=none,defaults:=[]})
  (hx:∀ e,annotationsOf (xs++[]++[]++[]++[]) e=[]) (hcl:closureFor scope cenv=pure clos) {Q:Flow→Shared→Prop} {E:Value→Shared→Prop} (hst:∀ v,storeName cenv name v=localSet cenv name v) (hkey:aRefKeyMayBeTheName name es.toArray=false)
  (hput:∀ v tk,Obj.putName name (AaB B.w name) (.str name tk) v (Aau es n)=Aau (es++[⟨AaB B.w name,.str name tk,v⟩]) (n+1))
  (hq:∀ a fd s' g' R' tk,CB B names tabs s₀ g₀ N (es++[⟨AaB B.w name,.str name tk,.ref a⟩]) (n+1) s' g' R'→Aae B s g s' g'∨True→g.le g'→(∀ q∈R,q∈R')→(∀ b o,b≠N→s.heap.get? b=some o→Abp o→s'.heap.get? b=some o)→Af0 s'.heap g' a fd args (.stmts body) scope clos→Q .next s') :
  wpAny B.M A (exec (.FunctionDef name args body [] none [] scope none name pos) cenv) Q E s:=by
 have hs:s=⟨s.heap,s.gens,s.drawn,s.toks,s.os⟩:=rfl;rw[hs];refine ArT ha hx ?_;refine Aob O hb TT C.st.inv C.hR C.X hcl hge hcode hm hqn fun a fd s1 g1 R1 x1 X1 hR1 hnew M1=>?_;have C1:=C.step x1 X1 hR1;refine C1.store O hl (hst _) hkey (hput _ _) fun s2 C2 _ k2=>?_;have hne:∀ b o,s1.heap.get? b=some o→(∀ es n,o≠Aau es n)→b≠N:=fun b o e ho eb=>by subst eb;rw[C1.ns] at e;cases e;exact ho _ _ rfl
 refine hq a fd s2 g1 R1 _ C2 (.inr trivial) x1.le hR1 (fun b o hb' e hn'=>k2 b o hb' (x1.ext.keep b o e hn')) ?_;refine Akr M1.code fun c' o' e1 e2 e3 e4=>?_;have ec:c'≠N:=by
  intro h;subst h;rw[C1.ns] at e2;cases e2;rw[e1] at e4;refine Aw4 e4 fun c₂ o₂ vs t f1 f2 f3 _=>?_
  cases f1;rw[C1.ns] at f2;cases f2;injection f3
 have e5:=k2 c' o' ec e2;refine⟨M1.obj,⟨c',o',e1,e5,e3,?_⟩,M1.params,M1.body,M1.scope,M1.glob,M1.blt,M1.clos,M1.defs⟩;rw[e1] at e4 ⊢;exact AbB e4 e2 e5
end
noncomputable def Abf(s:Stmt):Pos:=s.pos
noncomputable def pg:Program:=PySem.Challenge.pw_qw0061_01
noncomputable def nth(i:Nat):Stmt:=(pg.main.body[i]?).getD (.Pass ⟨0,0,0,0⟩)
noncomputable def ckI:Nat:=26
noncomputable def kSt:Stmt:=((Aac (nth ckI))[0]?).getD (.Pass ⟨0,0,0,0⟩)
noncomputable def AfA:Scope:=Aad kSt
noncomputable def kb(i:Nat):Stmt:=((Aac kSt)[i]?).getD (.Pass ⟨0,0,0,0⟩)
noncomputable def Af4(i:Nat):Arguments:=Aq7 (kb i)
noncomputable def AkD(i:Nat):List Stmt:=Aac (kb i)
noncomputable def kSc(i:Nat):Scope:=Aad (kb i)
noncomputable def Ajl(i:Nat):Pos:=Abf (kb i)
theorem Auy:Aac kSt=[kb 0,kb 1,kb 2,kb 3,kb 4,kb 5,kb 6,kb 7,kb 8]:=by kernel_rfl!
theorem kb0:kb 0=.Assign [.Name "__module__" (AaG (kb 0)).pos] (.Constant (.str "cpy313.functools") 0 (Aat (kb 0)).pos) (Ajl 0):=by kernel_rfl!
noncomputable def kp1:Pos:=match Aat (kb 1) with
 |.List (e :: _) _=>e.pos
 |_=>⟨0,0,0,0⟩
theorem kb1:kb 1=.Assign [.Name "__slots__" (AaG (kb 1)).pos] (.List [.Constant (.str "obj") 0 kp1] (Aat (kb 1)).pos) (Ajl 1):=by kernel_rfl!
theorem kb2:kb 2=.FunctionDef "__init__" (Af4 2) (AkD 2) [] none [] (kSc 2) none "__init__" (Ajl 2):=by kernel_rfl!
theorem kb3:kb 3=.FunctionDef "__lt__" (Af4 3) (AkD 3) [] none [] (kSc 3) none "__lt__" (Ajl 3):=by kernel_rfl!
theorem kb4:kb 4=.FunctionDef "__gt__" (Af4 4) (AkD 4) [] none [] (kSc 4) none "__gt__" (Ajl 4):=by kernel_rfl!
theorem kb5:kb 5=.FunctionDef "__eq__" (Af4 5) (AkD 5) [] none [] (kSc 5) none "__eq__" (Ajl 5):=by kernel_rfl!
theorem kb6:kb 6=.FunctionDef "__le__" (Af4 6) (AkD 6) [] none [] (kSc 6) none "__le__" (Ajl 6):=by kernel_rfl!
theorem kb7:kb 7=.FunctionDef "__ge__" (Af4 7) (AkD 7) [] none [] (kSc 7) none "__ge__" (Ajl 7):=by kernel_rfl!
theorem kb8:kb 8=.Assign [.Name "__hash__" (AaG (kb 8)).pos] (.Constant .none 0 (Aat (kb 8)).pos) (Ajl 8):=by kernel_rfl!
theorem Apd(i:Nat)(hi:i=2∨i=3∨i=4∨i=5∨i=6∨i=7):Af4 i={posonlyargs:=[],args:=(Af4 i).args,vararg:=none,kwonlyargs:=[],kw_defaults:=[],kwarg:=none,defaults:=[]}:=by
 rcases hi with rfl|rfl|rfl|rfl|rfl|rfl<;>kernel_rfl!
theorem AAF(i:Nat)(hi:i=2∨i=3∨i=4∨i=5∨i=6∨i=7)(e:Env):annotationsOf ((Af4 i).args++[]++[]++[]++[]) e=[]:=by
 rcases hi with rfl|rfl|rfl|rfl|rfl|rfl<;>kernel_rfl!
noncomputable def AgY(N cm:Addr)(code:Value)(frame:Addr):Env:={scope:=AfA,locals:=N,globals:=mainGlobals,qual:="cmp_to_key.<locals>.K.",code,frame:=some frame,builtins:=builtinsNs,cells:=[("mycmp",cm)]}
theorem kst(N cm:Addr)(code:Value)(fr:Addr)(x:Str)(hx:x = "__module__"∨x = "__qualname__"∨x = "__firstlineno__"∨x = "__static_attributes__"∨x = "__slots__"∨x = "__init__"∨x = "__lt__"∨x = "__gt__"∨x = "__eq__"∨x = "__le__"∨x = "__ge__"∨x = "__hash__")(v:Value) :
  storeName (AgY N cm code fr) x v=localSet (AgY N cm code fr) x v:=by
 rcases hx with rfl|rfl|rfl|rfl|rfl|rfl|rfl|rfl|rfl|rfl|rfl|rfl<;>kernel_rfl!
theorem AFV(N cm:Addr)(code:Value)(fr:Addr):closureFor (kSc 2) (AgY N cm code fr)=pure []:=by kernel_rfl!
theorem kcl(N cm:Addr)(code:Value)(fr:Addr)(i:Nat)(hi:i=3∨i=4∨i=5∨i=6∨i=7):closureFor (kSc i) (AgY N cm code fr)=pure [(("mycmp":Str),cm)]:=by
 rcases hi with rfl|rfl|rfl|rfl|rfl<;>kernel_rfl!
theorem kqn(N cm:Addr)(code:Value)(fr:Addr)(x:Str)(hx:x = "__init__"∨x = "__lt__"∨x = "__gt__"∨x = "__eq__"∨x = "__le__"∨x = "__ge__"):qualnameIn (AgY N cm code fr) x x = "cmp_to_key.<locals>.K."++x:=by
 rcases hx with rfl|rfl|rfl|rfl|rfl|rfl<;>kernel_rfl!
section
variable{B:Bs}{A:Around}{s:Shared}
theorem Acc{cenv:Env}{x:Str}{p pos:Pos}{value:Expr}{Q:Flow→Shared→Prop}{E:Value→Shared→Prop}(h1:AgA value=false)
  (hv:wpAny B.M A (eval value cenv) (fun v s'=>wpAny B.M A (storeName cenv x v) (fun _ s''=>Q .next s'') E s') E s):wpAny B.M A (exec (.Assign [.Name x p] value pos) cenv) Q E s:=by
 refine wpAny_Assign_stores ?_ (Aez (t:=.Name x p) (line:=pos.line) (env:=cenv) h1) AbL;refine wpAny_mono hv (fun v s' h=>?_) fun _ _ e=>e;show wpAny _ _ (assign (.Name x p) cenv v) _ _ _;exact wpAny_assign_Name h
end
section
variable{B:Bs}{A:Around}{names:Nat→Nat→Str}{tabs:List (Addr×Addr)}{s₀ s s' s'':Shared}{g₀ g g' g'':Gh}{N:Addr}{R:List (Addr×Addr)}
noncomputable def Acn(N:Addr)(s:Shared)(g:Gh)(s':Shared)(g':Gh):Prop:=g.le g'∧∀ b o,b≠N→s.heap.get? b=some o→Abp o→s'.heap.get? b=some o
theorem Acn.trans(x:Acn N s g s' g')(y:Acn N s' g' s'' g''):Acn N s g s'' g'':=⟨x.1.trans y.1,fun b o hb e n=>y.2 b o hb (x.2 b o hb e n) n⟩
theorem Aae.keepN(x:Aae B s g s' g'):Acn N s g s' g':=⟨x.le,fun b o _ e n=>x.ext.keep b o e n⟩
theorem Af0.keepN{es:List DictEntry}{n:Nat}{a:Addr}{fd:FuncData}{params:Arguments}{body:FuncBody}{scope:Scope}{clos:List (Str×Addr)}(m:Af0 s.heap g a fd params body scope clos)(hN:s.heap.get? N=some (Aau es n))(x:Acn N s g s' g'):Af0 s'.heap g' a fd params body scope clos:=by
 refine Akr m.code fun c' o' e1 e2 e3 e4=>?_;have ec:c'≠N:=by
  intro h;subst h;rw[hN] at e2;cases e2;rw[e1] at e4;refine Aw4 e4 fun c₂ o₂ vs t f1 f2 f3 _=>?_
  cases f1;rw[hN] at f2;cases f2;injection f3
 have e5:=x.2 c' o' ec e2 e3;refine⟨x.1 _ _ m.obj,⟨c',o',e1,e5,e3,?_⟩,m.params,m.body,m.scope,m.glob,m.blt,m.clos,m.defs⟩;rw[e1] at e4 ⊢;exact AbB e4 e2 e5
noncomputable def KFn(s:Shared)(g:Gh)(cm:Addr)(i:Nat)(a:Addr):Prop:=∃ fd,Af0 s.heap g a fd (Af4 i) (.stmts (AkD i)) (kSc i) (if i=2 then [] else [(("mycmp":Str),cm)])
theorem KFn.keepN{es:List DictEntry}{n:Nat}{cm a:Addr}{i:Nat}(k:KFn s g cm i a)(hN:s.heap.get? N=some (Aau es n))(x:Acn N s g s' g'):KFn s' g' cm i a:=let ⟨fd,m⟩:=k;⟨fd,m.keepN hN x⟩
noncomputable def e0(w:World)(m:Value)(t0 t1 t2 u0 u1 u2:Tok)(ln:Int):List DictEntry:=[⟨AaB w "__module__",.str "__module__" t0,m⟩,⟨AaB w "__qualname__",.str "__qualname__" t1,.str "cmp_to_key.<locals>.K" u1⟩,⟨AaB w "__firstlineno__",.str "__firstlineno__" t2,.int ln u2⟩]
noncomputable def ke0(w:World)(ln:Int)(t0 t1 t2 u0 u1 u2:Tok) :List DictEntry:=[⟨AaB w "__module__",.str "__module__" t0,.str "cpy313.functools" u0⟩,⟨AaB w "__qualname__",.str "__qualname__" t1,.str "cmp_to_key.<locals>.K" u1⟩,⟨AaB w "__firstlineno__",.str "__firstlineno__" t2,.int ln u2⟩]
noncomputable def ke1(w:World)(ln:Int)(t0 t1 t2 u0 u1 u2:Tok)(t3:Tok)(sl:Addr):List DictEntry:=[⟨AaB w "__module__",.str "__module__" t0,.str "cpy313.functools" u0⟩,⟨AaB w "__qualname__",.str "__qualname__" t1,.str "cmp_to_key.<locals>.K" u1⟩,⟨AaB w "__firstlineno__",.str "__firstlineno__" t2,.int ln u2⟩,⟨AaB w "__slots__",.str "__slots__" t3,.ref sl⟩]
noncomputable def ke2(w:World)(ln:Int)(t0 t1 t2 u0 u1 u2:Tok)(t3:Tok)(sl:Addr)(t4:Tok)(f0:Addr):List DictEntry:=[⟨AaB w "__module__",.str "__module__" t0,.str "cpy313.functools" u0⟩,⟨AaB w "__qualname__",.str "__qualname__" t1,.str "cmp_to_key.<locals>.K" u1⟩,⟨AaB w "__firstlineno__",.str "__firstlineno__" t2,.int ln u2⟩,⟨AaB w "__slots__",.str "__slots__" t3,.ref sl⟩,⟨AaB w "__init__",.str "__init__" t4,.ref f0⟩]
noncomputable def ke3(w:World)(ln:Int)(t0 t1 t2 u0 u1 u2:Tok)(t3:Tok)(sl:Addr)(t4:Tok)(f0:Addr)(t5:Tok)(f1:Addr):List DictEntry:=[⟨AaB w "__module__",.str "__module__" t0,.str "cpy313.functools" u0⟩,⟨AaB w "__qualname__",.str "__qualname__" t1,.str "cmp_to_key.<locals>.K" u1⟩,⟨AaB w "__firstlineno__",.str "__firstlineno__" t2,.int ln u2⟩,⟨AaB w "__slots__",.str "__slots__" t3,.ref sl⟩,⟨AaB w "__init__",.str "__init__" t4,.ref f0⟩,⟨AaB w "__lt__",.str "__lt__" t5,.ref f1⟩]
noncomputable def ke4(w:World)(ln:Int)(t0 t1 t2 u0 u1 u2:Tok)(t3:Tok)(sl:Addr)(t4:Tok)(f0:Addr)(t5:Tok)(f1:Addr)(t6:Tok)(f2:Addr):List DictEntry:=[⟨AaB w "__module__",.str "__module__" t0,.str "cpy313.functools" u0⟩,⟨AaB w "__qualname__",.str "__qualname__" t1,.str "cmp_to_key.<locals>.K" u1⟩,⟨AaB w "__firstlineno__",.str "__firstlineno__" t2,.int ln u2⟩,⟨AaB w "__slots__",.str "__slots__" t3,.ref sl⟩,⟨AaB w "__init__",.str "__init__" t4,.ref f0⟩,⟨AaB w "__lt__",.str "__lt__" t5,.ref f1⟩,⟨AaB w "__gt__",.str "__gt__" t6,.ref f2⟩]
noncomputable def ke5(w:World)(ln:Int)(t0 t1 t2 u0 u1 u2:Tok)(t3:Tok)(sl:Addr)(t4:Tok)(f0:Addr)(t5:Tok)(f1:Addr)(t6:Tok)(f2:Addr)(t7:Tok)(f3:Addr):List DictEntry:=[⟨AaB w "__module__",.str "__module__" t0,.str "cpy313.functools" u0⟩,⟨AaB w "__qualname__",.str "__qualname__" t1,.str "cmp_to_key.<locals>.K" u1⟩,⟨AaB w "__firstlineno__",.str "__firstlineno__" t2,.int ln u2⟩,⟨AaB w "__slots__",.str "__slots__" t3,.ref sl⟩,⟨AaB w "__init__",.str "__init__" t4,.ref f0⟩,⟨AaB w "__lt__",.str "__lt__" t5,.ref f1⟩,⟨AaB w "__gt__",.str "__gt__" t6,.ref f2⟩,⟨AaB w "__eq__",.str "__eq__" t7,.ref f3⟩]
noncomputable def ke6(w:World)(ln:Int)(t0 t1 t2 u0 u1 u2:Tok)(t3:Tok)(sl:Addr)(t4:Tok)(f0:Addr)(t5:Tok)(f1:Addr)(t6:Tok)(f2:Addr)(t7:Tok)(f3:Addr)(t8:Tok)(f4:Addr):List DictEntry:=[⟨AaB w "__module__",.str "__module__" t0,.str "cpy313.functools" u0⟩,⟨AaB w "__qualname__",.str "__qualname__" t1,.str "cmp_to_key.<locals>.K" u1⟩,⟨AaB w "__firstlineno__",.str "__firstlineno__" t2,.int ln u2⟩,⟨AaB w "__slots__",.str "__slots__" t3,.ref sl⟩,⟨AaB w "__init__",.str "__init__" t4,.ref f0⟩,⟨AaB w "__lt__",.str "__lt__" t5,.ref f1⟩,⟨AaB w "__gt__",.str "__gt__" t6,.ref f2⟩,⟨AaB w "__eq__",.str "__eq__" t7,.ref f3⟩,⟨AaB w "__le__",.str "__le__" t8,.ref f4⟩]
noncomputable def ke7(w:World)(ln:Int)(t0 t1 t2 u0 u1 u2:Tok)(t3:Tok)(sl:Addr)(t4:Tok)(f0:Addr)(t5:Tok)(f1:Addr)(t6:Tok)(f2:Addr)(t7:Tok)(f3:Addr)(t8:Tok)(f4:Addr)(t9:Tok)(f5:Addr):List DictEntry:=[⟨AaB w "__module__",.str "__module__" t0,.str "cpy313.functools" u0⟩,⟨AaB w "__qualname__",.str "__qualname__" t1,.str "cmp_to_key.<locals>.K" u1⟩,⟨AaB w "__firstlineno__",.str "__firstlineno__" t2,.int ln u2⟩,⟨AaB w "__slots__",.str "__slots__" t3,.ref sl⟩,⟨AaB w "__init__",.str "__init__" t4,.ref f0⟩,⟨AaB w "__lt__",.str "__lt__" t5,.ref f1⟩,⟨AaB w "__gt__",.str "__gt__" t6,.ref f2⟩,⟨AaB w "__eq__",.str "__eq__" t7,.ref f3⟩,⟨AaB w "__le__",.str "__le__" t8,.ref f4⟩,⟨AaB w "__ge__",.str "__ge__" t9,.ref f5⟩]
noncomputable def ke8(w:World)(ln:Int)(t0 t1 t2 u0 u1 u2:Tok)(t3:Tok)(sl:Addr)(t4:Tok)(f0:Addr)(t5:Tok)(f1:Addr)(t6:Tok)(f2:Addr)(t7:Tok)(f3:Addr)(t8:Tok)(f4:Addr)(t9:Tok)(f5:Addr)(t10:Tok):List DictEntry:=[⟨AaB w "__module__",.str "__module__" t0,.str "cpy313.functools" u0⟩,⟨AaB w "__qualname__",.str "__qualname__" t1,.str "cmp_to_key.<locals>.K" u1⟩,⟨AaB w "__firstlineno__",.str "__firstlineno__" t2,.int ln u2⟩,⟨AaB w "__slots__",.str "__slots__" t3,.ref sl⟩,⟨AaB w "__init__",.str "__init__" t4,.ref f0⟩,⟨AaB w "__lt__",.str "__lt__" t5,.ref f1⟩,⟨AaB w "__gt__",.str "__gt__" t6,.ref f2⟩,⟨AaB w "__eq__",.str "__eq__" t7,.ref f3⟩,⟨AaB w "__le__",.str "__le__" t8,.ref f4⟩,⟨AaB w "__ge__",.str "__ge__" t9,.ref f5⟩,⟨AaB w "__hash__",.str "__hash__" t10,.none⟩]
end
theorem ABj(w:World)(ln:Int)(t0 t1 t2 u0 u1 u2:Tok) :aRefKeyMayBeTheName "__slots__" (ke0 w ln t0 t1 t2 u0 u1 u2 ).toArray=false:=by kernel_rfl!
theorem Ayt(w:World)(ln:Int)(t0 t1 t2 u0 u1 u2:Tok) (n:Nat)(hh:Int)(tk:Tok)(v:Value):Obj.putName "__slots__" hh (.str "__slots__" tk) v (Aau (ke0 w ln t0 t1 t2 u0 u1 u2 ) n)=Aau (ke0 w ln t0 t1 t2 u0 u1 u2 ++[⟨hh,.str "__slots__" tk,v⟩]) (n+1):=by kernel_rfl!
theorem ABk(w:World)(ln:Int)(t0 t1 t2 u0 u1 u2:Tok)(t3:Tok)(sl:Addr):aRefKeyMayBeTheName "__init__" (ke1 w ln t0 t1 t2 u0 u1 u2 t3 sl).toArray=false:=by kernel_rfl!
theorem Ayu(w:World)(ln:Int)(t0 t1 t2 u0 u1 u2:Tok)(t3:Tok)(sl:Addr)(n:Nat)(hh:Int)(tk:Tok)(v:Value):Obj.putName "__init__" hh (.str "__init__" tk) v (Aau (ke1 w ln t0 t1 t2 u0 u1 u2 t3 sl) n)=Aau (ke1 w ln t0 t1 t2 u0 u1 u2 t3 sl++[⟨hh,.str "__init__" tk,v⟩]) (n+1):=by kernel_rfl!
theorem ABl(w:World)(ln:Int)(t0 t1 t2 u0 u1 u2:Tok)(t3:Tok)(sl:Addr)(t4:Tok)(f0:Addr):aRefKeyMayBeTheName "__lt__" (ke2 w ln t0 t1 t2 u0 u1 u2 t3 sl t4 f0).toArray=false:=by kernel_rfl!
theorem Ayv(w:World)(ln:Int)(t0 t1 t2 u0 u1 u2:Tok)(t3:Tok)(sl:Addr)(t4:Tok)(f0:Addr)(n:Nat)(hh:Int)(tk:Tok)(v:Value):Obj.putName "__lt__" hh (.str "__lt__" tk) v (Aau (ke2 w ln t0 t1 t2 u0 u1 u2 t3 sl t4 f0) n)=Aau (ke2 w ln t0 t1 t2 u0 u1 u2 t3 sl t4 f0++[⟨hh,.str "__lt__" tk,v⟩]) (n+1):=by kernel_rfl!
theorem ABm(w:World)(ln:Int)(t0 t1 t2 u0 u1 u2:Tok)(t3:Tok)(sl:Addr)(t4:Tok)(f0:Addr)(t5:Tok)(f1:Addr):aRefKeyMayBeTheName "__gt__" (ke3 w ln t0 t1 t2 u0 u1 u2 t3 sl t4 f0 t5 f1).toArray=false:=by kernel_rfl!
theorem Ayw(w:World)(ln:Int)(t0 t1 t2 u0 u1 u2:Tok)(t3:Tok)(sl:Addr)(t4:Tok)(f0:Addr)(t5:Tok)(f1:Addr)(n:Nat)(hh:Int)(tk:Tok)(v:Value):Obj.putName "__gt__" hh (.str "__gt__" tk) v (Aau (ke3 w ln t0 t1 t2 u0 u1 u2 t3 sl t4 f0 t5 f1) n)=Aau (ke3 w ln t0 t1 t2 u0 u1 u2 t3 sl t4 f0 t5 f1++[⟨hh,.str "__gt__" tk,v⟩]) (n+1):=by kernel_rfl!
theorem ABn(w:World)(ln:Int)(t0 t1 t2 u0 u1 u2:Tok)(t3:Tok)(sl:Addr)(t4:Tok)(f0:Addr)(t5:Tok)(f1:Addr)(t6:Tok)(f2:Addr):aRefKeyMayBeTheName "__eq__" (ke4 w ln t0 t1 t2 u0 u1 u2 t3 sl t4 f0 t5 f1 t6 f2).toArray=false:=by kernel_rfl!
theorem Ayx(w:World)(ln:Int)(t0 t1 t2 u0 u1 u2:Tok)(t3:Tok)(sl:Addr)(t4:Tok)(f0:Addr)(t5:Tok)(f1:Addr)(t6:Tok)(f2:Addr)(n:Nat)(hh:Int)(tk:Tok)(v:Value):Obj.putName "__eq__" hh (.str "__eq__" tk) v (Aau (ke4 w ln t0 t1 t2 u0 u1 u2 t3 sl t4 f0 t5 f1 t6 f2) n)=Aau (ke4 w ln t0 t1 t2 u0 u1 u2 t3 sl t4 f0 t5 f1 t6 f2++[⟨hh,.str "__eq__" tk,v⟩]) (n+1):=by kernel_rfl!
theorem ABo(w:World)(ln:Int)(t0 t1 t2 u0 u1 u2:Tok)(t3:Tok)(sl:Addr)(t4:Tok)(f0:Addr)(t5:Tok)(f1:Addr)(t6:Tok)(f2:Addr)(t7:Tok)(f3:Addr):aRefKeyMayBeTheName "__le__" (ke5 w ln t0 t1 t2 u0 u1 u2 t3 sl t4 f0 t5 f1 t6 f2 t7 f3).toArray=false:=by kernel_rfl!
theorem Ayy(w:World)(ln:Int)(t0 t1 t2 u0 u1 u2:Tok)(t3:Tok)(sl:Addr)(t4:Tok)(f0:Addr)(t5:Tok)(f1:Addr)(t6:Tok)(f2:Addr)(t7:Tok)(f3:Addr)(n:Nat)(hh:Int)(tk:Tok)(v:Value):Obj.putName "__le__" hh (.str "__le__" tk) v (Aau (ke5 w ln t0 t1 t2 u0 u1 u2 t3 sl t4 f0 t5 f1 t6 f2 t7 f3) n)=Aau (ke5 w ln t0 t1 t2 u0 u1 u2 t3 sl t4 f0 t5 f1 t6 f2 t7 f3++[⟨hh,.str "__le__" tk,v⟩]) (n+1):=by kernel_rfl!
theorem ABp(w:World)(ln:Int)(t0 t1 t2 u0 u1 u2:Tok)(t3:Tok)(sl:Addr)(t4:Tok)(f0:Addr)(t5:Tok)(f1:Addr)(t6:Tok)(f2:Addr)(t7:Tok)(f3:Addr)(t8:Tok)(f4:Addr):aRefKeyMayBeTheName "__ge__" (ke6 w ln t0 t1 t2 u0 u1 u2 t3 sl t4 f0 t5 f1 t6 f2 t7 f3 t8 f4).toArray=false:=by kernel_rfl!
theorem Ayz(w:World)(ln:Int)(t0 t1 t2 u0 u1 u2:Tok)(t3:Tok)(sl:Addr)(t4:Tok)(f0:Addr)(t5:Tok)(f1:Addr)(t6:Tok)(f2:Addr)(t7:Tok)(f3:Addr)(t8:Tok)(f4:Addr)(n:Nat)(hh:Int)(tk:Tok)(v:Value):Obj.putName "__ge__" hh (.str "__ge__" tk) v (Aau (ke6 w ln t0 t1 t2 u0 u1 u2 t3 sl t4 f0 t5 f1 t6 f2 t7 f3 t8 f4) n)=Aau (ke6 w ln t0 t1 t2 u0 u1 u2 t3 sl t4 f0 t5 f1 t6 f2 t7 f3 t8 f4++[⟨hh,.str "__ge__" tk,v⟩]) (n+1):=by kernel_rfl!
theorem ABq(w:World)(ln:Int)(t0 t1 t2 u0 u1 u2:Tok)(t3:Tok)(sl:Addr)(t4:Tok)(f0:Addr)(t5:Tok)(f1:Addr)(t6:Tok)(f2:Addr)(t7:Tok)(f3:Addr)(t8:Tok)(f4:Addr)(t9:Tok)(f5:Addr):aRefKeyMayBeTheName "__hash__" (ke7 w ln t0 t1 t2 u0 u1 u2 t3 sl t4 f0 t5 f1 t6 f2 t7 f3 t8 f4 t9 f5).toArray=false:=by kernel_rfl!
theorem AyA(w:World)(ln:Int)(t0 t1 t2 u0 u1 u2:Tok)(t3:Tok)(sl:Addr)(t4:Tok)(f0:Addr)(t5:Tok)(f1:Addr)(t6:Tok)(f2:Addr)(t7:Tok)(f3:Addr)(t8:Tok)(f4:Addr)(t9:Tok)(f5:Addr)(n:Nat)(hh:Int)(tk:Tok)(v:Value):Obj.putName "__hash__" hh (.str "__hash__" tk) v (Aau (ke7 w ln t0 t1 t2 u0 u1 u2 t3 sl t4 f0 t5 f1 t6 f2 t7 f3 t8 f4 t9 f5) n)=Aau (ke7 w ln t0 t1 t2 u0 u1 u2 t3 sl t4 f0 t5 f1 t6 f2 t7 f3 t8 f4 t9 f5++[⟨hh,.str "__hash__" tk,v⟩]) (n+1):=by kernel_rfl!
theorem AD8(w:World)(m:Value)(t0 t1 t2 u0 u1 u2:Tok)(ln:Int):aRefKeyMayBeTheName "__module__" (e0 w m t0 t1 t2 u0 u1 u2 ln).toArray=false:=by kernel_rfl!
theorem ABr(w:World)(m:Value)(t0 t1 t2 u0 u1 u2:Tok)(ln:Int)(n:Nat)(hh:Int)(tk:Tok)(uu:Tok):Obj.putName "__module__" hh (.str "__module__" tk) (.str "cpy313.functools" uu) (Aau (e0 w m t0 t1 t2 u0 u1 u2 ln) n)=Aau (ke0 w ln t0 t1 t2 uu u1 u2) n:=by kernel_rfl!
section
variable{B:Bs}{A:Around}{names:Nat→Nat→Str}{tabs:List (Addr×Addr)}{s₀ s s':Shared}{g₀ g g':Gh}{N:Addr}{es es':List DictEntry}{n n':Nat}{R R':List (Addr×Addr)}
theorem AbP.ext{h h':Heap}(X:AbP B.G names R h)(k:∀ a o,h.get? a=some o→h'.get? a=some o):AbP B.G names R h':=X.keeps fun a o e _=>k a o e
theorem ArU(O:B.Ok)(C:CB B names tabs s₀ g₀ N es n s g R){cenv:Env}{p p':Pos}{Q:Value→Shared→Prop}{E:Value→Shared→Prop}
  (h:∀ sl v0 s' g',CB B names tabs s₀ g₀ N es n s' g' R→Acn N s g s' g'→g' sl=some {cls:=.type "list",data:=.seq [Value.str "obj" v0].toArray}→Q (.ref sl) s') :
  wpAny B.M A (eval (.List [.Constant (.str "obj") 0 p] p') cenv) Q E s:=by
 refine List_ ?_;rw[AaC (es:=[.Constant (.str "obj") 0 p]) (by intro e he;rcases List.mem_cons.mp he with rfl|he;rfl;cases he)];refine Calls.spliced_cons (wpAny_mkText ?_);refine wpAny_pure ?_;refine wpAny_newList ?_ (Nat.le_of_ble_eq_true rfl);have x1:=Aae.tok C.st.inv (s.toks+1);have x2:=Aae.alloc (o:={cls:=.type "list",data:=.seq [Value.str "obj" s.toks].toArray}) O x1.inv rfl (Aal rfl);have x:=x1.trans x2;exact h _ _ _ _ (C.step x (AbP.ext C.X fun a o e=>Heap.get?_push_of_some _ e) fun _ hq=>hq) x.keepN (Gh.put_self ..)
theorem CB.keepStore(C:CB B names tabs s₀ g₀ N es n s g R)(k:∀ a o,a≠N→s.heap.get? a=some o→s'.heap.get? a=some o):Acn N s g s' g:=⟨g.le_refl,fun b o hb e _=>k b o hb e⟩
theorem Auz(O:B.Ok)(hb:Aw9 B)(TT:Arv B names tabs){m:Value}{ln:Int}{t0 t1 t2 u0' u1 u2:Tok}(C:CB B names tabs s₀ g₀ N (e0 B.w m t0 t1 t2 u0' u1 u2 ln) 3 s g R){c P cm fr:Addr}(hm:(c,P)∈R)
  (hn:∀ (i:Nat) (x:Str),(i,x)∈[(2,("__init__":Str)),(3,"__lt__"),(4,"__gt__"),(5,"__eq__"),(6,"__le__"),(7,"__ge__")]→names (Ajl i).line (Ajl i).col = "cmp_to_key.<locals>.K."++x) {Q:Flow→Shared→Prop} {E:Value→Shared→Prop}
  (h:∀ u0 v0 t3 sl t4 f0 t5 f1 t6 f2 t7 f3 t8 f4 t9 f5 t10 s' g' R',CB B names tabs s₀ g₀ N (ke8 B.w ln t0 t1 t2 u0 u1 u2 t3 sl t4 f0 t5 f1 t6 f2 t7 f3 t8 f4 t9 f5 t10) 11 s' g' R'→Acn N s g s' g' →
   g' sl=some {cls:=.type "list",data:=.seq [Value.str "obj" v0].toArray}→KFn s' g' cm 2 f0→KFn s' g' cm 3 f1→KFn s' g' cm 4 f2→KFn s' g' cm 5 f3→KFn s' g' cm 6 f4→KFn s' g' cm 7 f5→Q .next s') :
  wpAny B.M A (execs (Aac kSt) (AgY N cm (.ref c) fr)) Q E s:=by
 rw[Auy];refine wpAny_execs_cons ?_;rw[kb0];refine Acc rfl (wpAny_mkText ?_);have x0:=Aae.tok C.st.inv (s.toks+1);have C0:=C.step x0 C.X fun _ hq=>hq;refine C0.store O (cenv:=AgY N cm (.ref c) fr) rfl (kst _ _ _ _ _ (by simp) _) (AD8 ..) (ABr ..) fun s1 C1 _ k1=>?_;have q1:Acn N s g s1 g:=x0.keepN.trans (C0.keepStore k1);refine wpAny_execs_cons ?_;rw[kb1];refine Acc rfl (ArU O C1 fun sl v0 s2 g2 C2 q2 hsl2=>?_);refine C2.store O (cenv:=AgY N cm (.ref c) fr) rfl (kst _ _ _ _ _ (by simp) _) (ABj ..) (Ayt ..) fun s3 C3 _ k3=>?_;have q3:Acn N s g s3 g2:=(q1.trans q2).trans (C2.keepStore k3);refine wpAny_execs_cons ?_;rw[kb2];refine C3.def_ O hb TT (cenv:=AgY N cm (.ref c) fr) rfl rfl rfl hm ((hn 2 "__init__" (by simp)).trans (kqn _ _ _ _ _ (by simp)).symm) (Apd 2 (by simp)) (AAF 2 (by simp)) (AFV ..) (fun v=>kst _ _ _ _ _ (by simp) v) (ABk ..) (fun v tk=>Ayu ..) fun f0 fd0 s4 g4 R4 tt0 C4 _ l0 hR0 kp0 M0=>?_;have qd0:Acn N s3 g2 s4 g4:=⟨l0,kp0⟩;have q4:Acn N s g s4 g4:=q3.trans qd0;have m0:=hR0 _ hm;have hsl4:=l0 _ _ hsl2;have F0:KFn s4 g4 cm 2 f0:=⟨fd0,M0⟩;refine wpAny_execs_cons ?_;rw[kb3];refine C4.def_ O hb TT (cenv:=AgY N cm (.ref c) fr) rfl rfl rfl m0 ((hn 3 "__lt__" (by simp)).trans (kqn _ _ _ _ _ (by simp)).symm) (Apd 3 (by simp)) (AAF 3 (by simp)) (kcl _ _ _ _ 3 (by simp)) (fun v=>kst _ _ _ _ _ (by simp) v) (ABl ..) (fun v tk=>Ayv ..) fun f1 fd1 s5 g5 R5 tt1 C5 _ l1 hR1 kp1 M1=>?_;have qd1:Acn N s4 g4 s5 g5:=⟨l1,kp1⟩;have q5:Acn N s g s5 g5:=q4.trans qd1;have m1:=hR1 _ m0;have F0:=F0.keepN C4.ns qd1;have hsl5:=l1 _ _ hsl4;have F1:KFn s5 g5 cm 3 f1:=⟨fd1,M1⟩;refine wpAny_execs_cons ?_;rw[kb4];refine C5.def_ O hb TT (cenv:=AgY N cm (.ref c) fr) rfl rfl rfl m1 ((hn 4 "__gt__" (by simp)).trans (kqn _ _ _ _ _ (by simp)).symm) (Apd 4 (by simp)) (AAF 4 (by simp)) (kcl _ _ _ _ 4 (by simp)) (fun v=>kst _ _ _ _ _ (by simp) v) (ABm ..) (fun v tk=>Ayw ..) fun f2 fd2 s6 g6 R6 tt2 C6 _ l2 hR2 kp2 M2=>?_;have qd2:Acn N s5 g5 s6 g6:=⟨l2,kp2⟩;have q6:Acn N s g s6 g6:=q5.trans qd2;have m2:=hR2 _ m1;have F0:=F0.keepN C5.ns qd2;have F1:=F1.keepN C5.ns qd2;have hsl6:=l2 _ _ hsl5;have F2:KFn s6 g6 cm 4 f2:=⟨fd2,M2⟩;refine wpAny_execs_cons ?_;rw[kb5];refine C6.def_ O hb TT (cenv:=AgY N cm (.ref c) fr) rfl rfl rfl m2 ((hn 5 "__eq__" (by simp)).trans (kqn _ _ _ _ _ (by simp)).symm) (Apd 5 (by simp)) (AAF 5 (by simp)) (kcl _ _ _ _ 5 (by simp)) (fun v=>kst _ _ _ _ _ (by simp) v) (ABn ..) (fun v tk=>Ayx ..) fun f3 fd3 s7 g7 R7 tt3 C7 _ l3 hR3 kp3 M3=>?_;have qd3:Acn N s6 g6 s7 g7:=⟨l3,kp3⟩;have q7:Acn N s g s7 g7:=q6.trans qd3;have m3:=hR3 _ m2;have F0:=F0.keepN C6.ns qd3;have F1:=F1.keepN C6.ns qd3;have F2:=F2.keepN C6.ns qd3;have hsl7:=l3 _ _ hsl6;have F3:KFn s7 g7 cm 5 f3:=⟨fd3,M3⟩;refine wpAny_execs_cons ?_;rw[kb6];refine C7.def_ O hb TT (cenv:=AgY N cm (.ref c) fr) rfl rfl rfl m3 ((hn 6 "__le__" (by simp)).trans (kqn _ _ _ _ _ (by simp)).symm) (Apd 6 (by simp)) (AAF 6 (by simp)) (kcl _ _ _ _ 6 (by simp)) (fun v=>kst _ _ _ _ _ (by simp) v) (ABo ..) (fun v tk=>Ayy ..) fun f4 fd4 s8 g8 R8 tt4 C8 _ l4 hR4 kp4 M4=>?_;have qd4:Acn N s7 g7 s8 g8:=⟨l4,kp4⟩;have q8:Acn N s g s8 g8:=q7.trans qd4;have m4:=hR4 _ m3;have F0:=F0.keepN C7.ns qd4;have F1:=F1.keepN C7.ns qd4;have F2:=F2.keepN C7.ns qd4;have F3:=F3.keepN C7.ns qd4;have hsl8:=l4 _ _ hsl7;have F4:KFn s8 g8 cm 6 f4:=⟨fd4,M4⟩;refine wpAny_execs_cons ?_;rw[kb7];refine C8.def_ O hb TT (cenv:=AgY N cm (.ref c) fr) rfl rfl rfl m4 ((hn 7 "__ge__" (by simp)).trans (kqn _ _ _ _ _ (by simp)).symm) (Apd 7 (by simp)) (AAF 7 (by simp)) (kcl _ _ _ _ 7 (by simp)) (fun v=>kst _ _ _ _ _ (by simp) v) (ABp ..) (fun v tk=>Ayz ..) fun f5 fd5 s9 g9 R9 tt5 C9 _ l5 hR5 kp5 M5=>?_;have qd5:Acn N s8 g8 s9 g9:=⟨l5,kp5⟩;have q9:Acn N s g s9 g9:=q8.trans qd5;have m5:=hR5 _ m4;have F0:=F0.keepN C8.ns qd5;have F1:=F1.keepN C8.ns qd5;have F2:=F2.keepN C8.ns qd5;have F3:=F3.keepN C8.ns qd5;have F4:=F4.keepN C8.ns qd5;have hsl9:=l5 _ _ hsl8;have F5:KFn s9 g9 cm 7 f5:=⟨fd5,M5⟩;refine wpAny_execs_cons ?_;rw[kb8];refine Acc rfl (wpAny_pure ?_);refine C9.store O (cenv:=AgY N cm (.ref c) fr) rfl (kst _ _ _ _ _ (by simp) _) (ABq ..) (AyA ..) fun s10 C10 _ k10=>?_;have qz:=C9.keepStore k10;refine wpAny_execs_nil ?_;exact h _ _ _ _ _ _ _ _ _ _ _ _ _ _ _ _ _ _ _ _ C10 (q9.trans qz) hsl9 (F0.keepN C9.ns qz) (F1.keepN C9.ns qz) (F2.keepN C9.ns qz) (F3.keepN C9.ns qz) (F4.keepN C9.ns qz) (F5.keepN C9.ns qz)
end
theorem ArV:typeOf (.type "type")=pure (.type "type"):=by kernel_rfl
theorem AD9:typeLookup (.type "type") "__getattribute__"=pure (some (.builtin "type.__getattribute__")):=by rw[typeLookup_type,builtinLookup_eq_fast];kernel_rfl
theorem AlW:Slot "type" "__getattribute__" "type.__getattribute__":=.of (owner:="type") (n:="__getattribute__") (by rw[typeLookup_type,builtinLookup_eq_fast];kernel_rfl) (by decide +kernel) (by decide +kernel) (by decide +kernel)
 (by first|exact .inl (by decide +kernel)|exact .inr (by decide +kernel)) (by rw[isSubtype_type];kernel_rfl)
inductive ArW(h:Heap)(g:Array GenState)(d:Drawn)(os:OsState):Value→Shared→Prop
 |mk {b:Addr} {h':Heap} {t:Nat}:Mem h h' [] [(b,⟨.type "builtin_function_or_method",none,.fields #[.builtin "type.__prepare__",.type "type"],#[]⟩)]→ArW h g d os (.ref b) ⟨h',g,d,t,os⟩
inductive ArX(h:Heap)(g:Array GenState)(d:Drawn)(os:OsState):Value→Shared→Prop
 |mk {N:Addr} {h':Heap} {t:Nat}:Mem h h' [] [(N,⟨.type "dict",none,.dict #[] 0,#[]⟩)]→ArX h g d os (.ref N) ⟨h',g,d,t,os⟩
section
theorem AuA(prog:Program)(w:World)(A:Around)(h:Heap)(g:Array GenState)(d:Drawn)(t:Nat)(os:OsState)(tq:Tok) :
  wpAny (model prog w) A (call (.builtin "type.__getattribute__") [.type "type",.str "__prepare__" tq]) (ArW h g d os) (fun _ _=>False) ⟨h,g,d,t,os⟩:=by
 x_run
end
section
theorem ArY(prog:Program)(w:World)(A:Around)(h:Heap)(g:Array GenState)(d:Drawn)(t:Nat)(os:OsState)(p b:Addr)(tk:Tok)
  (hp:h.get? p=some ⟨.type "builtin_function_or_method",none,.fields #[.builtin "type.__prepare__",.type "type"],#[]⟩) :
  wpAny (model prog w) A (call (.ref p) [.str "K" tk,.ref b] []) (ArX h g d os) (fun _ _=>False) ⟨h,g,d,t,os⟩:=by
 x_run
end
end Mine
namespace Mine
open PySem PySem.W PyProof.Rows PySem.W.X
theorem ArZ(prog:Program)(w:World)(A:Around)(E:Value→Shared→Prop)(h:Heap)(g:Array GenState)(d:Drawn)(t:Nat)(os:OsState){Q:Option Value→Shared→Prop}
  (hq:∀ p h' t',Mem h h' [] [(p,⟨.type "builtin_function_or_method",none,.fields #[.builtin "type.__prepare__",.type "type"],#[]⟩)]→Q (some (.ref p)) ⟨h',g,d,t',os⟩) :
  wpAny (model prog w) A (getAttr? (.type "type") "__prepare__") Q E ⟨h,g,d,t,os⟩:=by
 have hbd:=AlW.bind (.type "type");unfold getAttr?
 repeat (first
  |with_reducible (first|refine Ab0 AlS ?_|refine Ab0 Aog ?_|refine Ab0 ArV ?_|refine Ab0 AD9 ?_|refine wpAny_of_eq hbd ?_)
  |((with_reducible show wpAny _ _ (call _ _) _ _ _);refine wpAny_mono (AuA prog w _ h g d _ os _) (fun v s' hv=>?_) (fun _ _ hv=>hv.elim);rcases hv with ⟨D⟩)
  |wp_step)
 all_goals exact hq _ _ _ (by assumption)
end Mine
namespace Mine
open PySem PySem.W PyProof.Rows PySem.W.X
section
variable{B:Bs}{A:Around}
theorem Aae.mem(O:B.Ok){h h':Heap}{gg:Array GenState}{d:Drawn}{t t':Nat}{os:OsState}{g:Gh}{news:List (Addr×Obj)}(I:Inv B ⟨h,gg,d,t,os⟩ g)(D:Mem h h' [] news):Aae B ⟨h,gg,d,t,os⟩ g ⟨h',gg,d,t',os⟩ g:=
 ⟨g.le_refl,I.keeps O (Aa8 D) rfl rfl,.of (Aa8 D),fun _ _ e=>.inl e⟩
end
end Mine
namespace Mine
open PySem PySem.W PyProof.Rows PySem.W.X
section
variable{M:Model}{A:Around}{E:Value→Shared→Prop}{s:Shared}
theorem AkE{env:Env}{c P:Addr}{ps:Array Value}{pos:Pos}{firstLine:Nat}{name qual:Str}{scope:Scope}{Q:Value→Shared→Prop}(hc:env.code=.ref c)(hok:s.heap.IsCode c P ps)(htab:s.heap.TableAt c P ps)(hnf:codeAmong pos ps.toList=none)
  (hq:∀ c' h' tk,Heap.ExtBut P s.heap h'→s.heap.objs.size≤c'→c'<h'.objs.size→h'.IsCode c P (ps++#[rawInt pos.line,rawInt pos.col,.ref c'])→h'.CodeRec (.ref c') qual →
   h'.TableAt c P (ps++#[rawInt pos.line,rawInt pos.col,.ref c'])→(∃ P',s.heap.objs.size≤P'∧h'.IsCode c' P' #[]∧h'.TableAt c' P' #[])→Q (.ref c') {s with heap:=h',toks:=tk}) :
  wpAny M A (classCode env pos firstLine name qual scope) Q E s:=by
 refine Aua hok fun o vs file tf q=>Aua q fun flags tg inF text q=>Aw3 q fun tt op q=>AAL q fun ho hd h11 h2 h7 h9 h10 hop hpd htr hne=>?_;have hP:op=tabObj ps:=sj (hop.symm.trans htab.2);subst hP;have hlt:=Heap.lt_size hop;unfold classCode codeAt;rw[hc,if_neg (show ¬ ((Value.ref c == Value.none)=true) from Bool.false_ne_true)];refine wpAny_bind (wpAny_fieldsOf ho hd ?_);rw[h11];refine wpAny_bind (wpAny_fieldsOf hop hpd ?_);rw[hnf,h2,h7,h9,h10];refine wpAny_bind (wpAny_newCodeX fun c' P' h1 tk keep hc' hP' ic ta rec=>?_)
 let f:Obj→Obj:=Obj.mapFields fun vs=>if (codeAmong pos vs.toList).isSome=true then vs else vs++#[rawInt pos.line,rawInt pos.col,.ref c']
 have ft:f (tabObj ps)=tabObj (ps++#[rawInt pos.line,rawInt pos.col,.ref c']):=by
  show Obj.mapFields _ (tabObj ps)=_;unfold tabObj;simp only[Obj.mapFields,hnf]
  rfl
 have sb:Heap.SameBut P h1 (h1.update P f):=Heap.SameBut.update ..;have gp:(h1.update P f).get? P=some (tabObj (ps++#[rawInt pos.line,rawInt pos.col,.ref c'])):=by have:=Heap.get?_update_self (h:=h1) f (keep _ _ hop) (by rw[ft];rfl);rw[this,ft]
 have ne:∀ b,s.heap.objs.size≤b→b≠P:=fun b hb=>Nat.ne_of_gt (Nat.lt_of_lt_of_le hlt hb);refine wpAny_bind (wpAny_updateFieldsOfTheText (keep _ _ hop) hpd (wpAny_bind (wpAny_fieldsOf gp rfl ?_)));have hl:(ps++#[rawInt pos.line,rawInt pos.col,Value.ref c']).toList=ps.toList++[rawInt pos.line,rawInt pos.col,.ref c']:=by simp
 rw[hl,codeAmong_snoc _ htr hnf];have hoc:=(sb.2 c hne).trans (keep _ _ ho);refine Aaz htab fun z1 _=>?_;obtain⟨oc,vc,k1,k2,k3,k4⟩:=z1;refine ADO (id rec) fun c₂ o₂ vs₂ t₂ r1 r2 r3=>?_
 cases r1
 refine wpAny_pure (hq c' _ tk (fun b o' hb e=>(sb.2 b hb).trans (keep b o' e)) hc' (by rw[Heap.size_after_update];exact ic.lt.1) ?_ ⟨c',o₂,vs₂,t₂,rfl,(sb.2 c' (ne c' hc')).trans r2,r3⟩
  ⟨⟨oc,vc,(sb.2 c hne).trans (keep _ _ k1),k2,k3,k4⟩,gp⟩ ⟨P',hP',ic.extBut sb.extBut (ne c' hc') (ne P' hP'),ta.extBut sb.extBut (ne c' hc') (ne P' hP')⟩)
 exact⟨o,vs,file,tf,flags,tg,inF,text,tt,_,hoc,hd,h11,h2,h7,h9,h10,gp,rfl,by rw[hl];exact TriplesOk_snoc _ _ _ _ htr,hne⟩
end
section
variable{B:Bs}{A:Around}{s:Shared}{g:Gh}
theorem Ajm{names:Nat→Nat→Str}{tabs:List (Addr×Addr)}(TT:Arv B names tabs)(I:Inv B s g){R:List (Addr×Addr)}(hR:∀ q∈tabs,q∈R)(X:AbP B.G names R s.heap){env:Env}{c P:Addr}{pos:Pos}{firstLine:Nat}{name qual:Str}{scope:Scope}
  (hcode:env.code=.ref c) (hm:(c,P)∈R) (hn:names pos.line pos.col=qual) {Q:Value→Shared→Prop} {E:Value→Shared→Prop}
  (h:∀ c' P' o s' R',Aae B s g s' g→AbP B.G names R' s'.heap→(∀ q∈R,q∈R')→(c',P')∈R'→s'.heap.get? c'=some o→Abp o→s'.heap.CodeRec (.ref c') qual→Q (.ref c') s') :
  wpAny B.M A (classCode env pos firstLine name qual scope) Q E s:=
 Arw TT I hR X hm hn (fun hi hf hq=>wpAny_codeAt_hit hcode hi hf hq) (fun hi ht hf hk=>AkE hcode hi ht hf hk) h
end
noncomputable def m1(w:World)(m:Value)(t0:Tok):List DictEntry:=[⟨AaB w "__module__",.str "__module__" t0,m⟩]
noncomputable def m2(w:World)(m:Value)(t0 t1 u1:Tok):List DictEntry:=[⟨AaB w "__module__",.str "__module__" t0,m⟩,⟨AaB w "__qualname__",.str "__qualname__" t1,.str "cmp_to_key.<locals>.K" u1⟩]
theorem AEa:aRefKeyMayBeTheName "__module__" ([]:List DictEntry).toArray=false:=by kernel_rfl!
theorem ABs(w:World)(m:Value)(t0:Tok)(n:Nat):Obj.putName "__module__" (AaB w "__module__") (.str "__module__" t0) m (Aau [] n)=Aau (m1 w m t0) (n+1):=by kernel_rfl!
theorem AEb(w:World)(m:Value)(t0:Tok):aRefKeyMayBeTheName "__qualname__" (m1 w m t0).toArray=false:=by kernel_rfl!
theorem ABt(w:World)(m:Value)(t0 t1 u1:Tok)(n:Nat):Obj.putName "__qualname__" (AaB w "__qualname__") (.str "__qualname__" t1) (.str "cmp_to_key.<locals>.K" u1) (Aau (m1 w m t0) n)=Aau (m2 w m t0 t1 u1) (n+1):=by kernel_rfl!
theorem AEc(w:World)(m:Value)(t0 t1 u1:Tok):aRefKeyMayBeTheName "__firstlineno__" (m2 w m t0 t1 u1).toArray=false:=by kernel_rfl!
theorem ABu(w:World)(m:Value)(t0 t1 t2 u1 u2:Tok)(ln:Int)(n:Nat):Obj.putName "__firstlineno__" (AaB w "__firstlineno__") (.str "__firstlineno__" t2) (.int ln u2) (Aau (m2 w m t0 t1 u1) n)=Aau (e0 w m t0 t1 t2 t0 u1 u2 ln) (n+1):=by kernel_rfl!
theorem ABv(w:World)(ln:Int)(t0 t1 t2 u0 u1 u2:Tok)(t3:Tok)(sl:Addr)(t4:Tok)(f0:Addr)(t5:Tok)(f1:Addr)(t6:Tok)(f2:Addr)(t7:Tok)(f3:Addr)(t8:Tok)(f4:Addr)(t9:Tok)(f5:Addr)(t10:Tok) :
  aRefKeyMayBeTheName "__static_attributes__" (ke8 w ln t0 t1 t2 u0 u1 u2 t3 sl t4 f0 t5 f1 t6 f2 t7 f3 t8 f4 t9 f5 t10).toArray=false:=by kernel_rfl!
theorem AyB(w:World)(ln:Int)(t0 t1 t2 u0 u1 u2:Tok)(t3:Tok)(sl:Addr)(t4:Tok)(f0:Addr)(t5:Tok)(f1:Addr)(t6:Tok)(f2:Addr)(t7:Tok)(f3:Addr)(t8:Tok)(f4:Addr)(t9:Tok)(f5:Addr)(t10:Tok)(n:Nat)(hh:Int)(tk:Tok)(v:Value) :
  Obj.putName "__static_attributes__" hh (.str "__static_attributes__" tk) v (Aau (ke8 w ln t0 t1 t2 u0 u1 u2 t3 sl t4 f0 t5 f1 t6 f2 t7 f3 t8 f4 t9 f5 t10) n)=Aau (ke8 w ln t0 t1 t2 u0 u1 u2 t3 sl t4 f0 t5 f1 t6 f2 t7 f3 t8 f4 t9 f5 t10++[⟨hh,.str "__static_attributes__" tk,v⟩]) (n+1):=by kernel_rfl!
theorem kq:(("cmp_to_key.<locals>.K":Str)++(".":Str)) = "cmp_to_key.<locals>.K.":=by kernel_rfl!
section
variable{B:Bs}{A:Around}{names:Nat→Nat→Str}{tabs:List (Addr×Addr)}{s₀ s s':Shared}{g₀ g g':Gh}{N:Addr}{es es':List DictEntry}{n n':Nat}{R R':List (Addr×Addr)}
theorem AuB(O:B.Ok)(C:CB B names tabs s₀ g₀ N [] n s g R){cm fr:Addr}{code:Value}{m:Value}(hm:B.mg "__name__"=some m){Q:Value→Shared→Prop}{E:Value→Shared→Prop}(hq:Q m s):wpAny B.M A (loadName (AgY N cm code fr) "__name__") Q E s:=by
 have hg:=C.st.inv.ns O.g;have hn0:s.heap.Ns N (fun _=>none):=⟨_,_,_,C.ns,rfl,by simp [StrKeys],fun name=>by rfl⟩;have hN:=C.ns;unfold loadName
 repeat (first
  |(with_reducible refine wpAny_nsGet hg ?_;rw[hm])|(with_reducible refine wpAny_nsGet hn0 ?_)
  |(with_reducible apply wpAny_ite_false;focus kernel_rfl!)|(with_reducible apply wpAny_ite_true;focus kernel_rfl!)
  |(with_reducible refine wpAny_pure ?_)|(with_reducible refine wpAny_bind ?_)
  |(refine wpAny_load (a:=N) hN ?_)|(refine wpAny_nsGet (a:=N) hn0 ?_)|(refine wpAny_nsGet (a:=mainGlobals) hg ?_;rw[hm])
  |wp_delta)
 all_goals exact hq
end
section
variable{B:Bs}{A:Around}{names:Nat→Nat→Str}{tabs:List (Addr×Addr)}{s₀ s s':Shared}{g₀ g g':Gh}{N:Addr}{R R':List (Addr×Addr)}
theorem AEd:hasAnns (Aac kSt)=false:=by kernel_rfl!
theorem AEe:docOf (Aac kSt)=none:=by kernel_rfl!
theorem AuC(O:B.Ok)(C:CB B names tabs s₀ g₀ N [] 0 s g R){cm fr:Addr}{code m:Value}(hm:B.mg "__name__"=some m)(ln:Nat){Q:Unit→Shared→Prop}{E:Value→Shared→Prop}
  (hq:∀ t0 t1 t2 u0 u1 u2 s',CB B names tabs s₀ g₀ N (e0 B.w m t0 t1 t2 u0 u1 u2 ln) 3 s' g R→Acn N s g s' g→Q () s') :
  wpAny B.M A (do storeName (AgY N cm code fr) "__module__" (← loadName (AgY N cm code fr) "__name__");storeName (AgY N cm code fr) "__qualname__" (← mkText "cmp_to_key.<locals>.K");storeName (AgY N cm code fr) "__firstlineno__" (← mkInt ln);pure ():Sem Unit) Q E s:=by
 refine wpAny_bind (AuB O C hm ?_);refine wpAny_bind (C.store O (cenv:=AgY N cm code fr) rfl (kst _ _ _ _ _ (by simp) _) AEa (ABs ..) fun s1 C1 e1 k1=>?_);have q1:Acn N s g s1 g:=C.keepStore k1;refine wpAny_bind (wpAny_mkText ?_);have x2:=Aae.tok C1.st.inv (s1.toks+1);have C2:=C1.step x2 C1.X fun _ hq=>hq;refine wpAny_bind (C2.store O (cenv:=AgY N cm code fr) rfl (kst _ _ _ _ _ (by simp) _) (AEb ..) (ABt ..) fun s3 C3 e3 k3=>?_);have q3:Acn N s g s3 g:=q1.trans (x2.keepN.trans (C2.keepStore k3));refine wpAny_bind (wpAny_mkInt ?_);have x4:=Aae.tok C3.st.inv (s3.toks+1);have C4:=C3.step x4 C3.X fun _ hq=>hq;refine wpAny_bind (C4.store O (cenv:=AgY N cm code fr) rfl (kst _ _ _ _ _ (by simp) _) (AEc ..) (ABu ..) fun s5 C5 e5 k5=>?_);refine wpAny_pure ?_;exact hq _ _ _ _ _ _ _ C5 (q3.trans (x4.keepN.trans (C4.keepStore k5)))
theorem AuD(O:B.Ok){ln:Int}{t0 t1 t2 u0 u1 u2 t3:Tok}{sl:Addr}{t4:Tok}{f0:Addr}{t5:Tok}{f1:Addr}{t6:Tok}{f2:Addr}{t7:Tok}{f3:Addr}{t8:Tok}{f4:Addr}{t9:Tok}{f5:Addr}{t10:Tok}
  (C:CB B names tabs s₀ g₀ N (ke8 B.w ln t0 t1 t2 u0 u1 u2 t3 sl t4 f0 t5 f1 t6 f2 t7 f3 t8 f4 t9 f5 t10) 11 s g R) {cm fr:Addr} {code:Value} {Q:Unit→Shared→Prop} {E:Value→Shared→Prop}
  (hq:∀ st v1 t11 s' g',CB B names tabs s₀ g₀ N (ke8 B.w ln t0 t1 t2 u0 u1 u2 t3 sl t4 f0 t5 f1 t6 f2 t7 f3 t8 f4 t9 f5 t10++[⟨AaB B.w "__static_attributes__",.str "__static_attributes__" t11,.ref st⟩]) 12 s' g' R→Acn N s g s' g' →
   g' st=some {cls:=.type "tuple",data:=.seq [Value.str "obj" v1].toArray}→Q () s') :
  wpAny B.M A (do storeName (AgY N cm code fr) "__static_attributes__" (← newTextTuple (← ([("obj":Str)]:List Str).mapM mkText));pure ():Sem Unit) Q E s:=by
 rw[List.mapM_cons,List.mapM_nil];refine wpAny_bind (wpAny_bind (wpAny_mkText (wpAny_bind (wpAny_pure (wpAny_pure ?_)))));have x1:=Aae.tok C.st.inv (s.toks+1);have C1:=C.step x1 C.X fun _ hq=>hq;refine wpAny_bind (wpAny_newTextTuple ?_);have x2:=Aae.alloc (o:={cls:=.type "tuple",data:=.seq [Value.str "obj" s.toks].toArray}) O C1.st.inv rfl (Aal rfl);have C2:=C1.step x2 (C1.X.keeps fun a o e _=>Heap.get?_push_of_some _ e) fun _ hq=>hq;refine wpAny_bind (C2.store O (cenv:=AgY N cm code fr) rfl (kst _ _ _ _ _ (by simp) _) (ABv ..) (AyB ..) fun s3 C3 e3 k3=>?_);refine wpAny_pure ?_;exact hq _ _ _ _ _ C3 (x1.keepN.trans (x2.keepN.trans (C2.keepStore k3))) (Gh.put_self _ _ _)
end
set_option genInjectivity false in
structure KD where
 (aM aN b sl f0 f1 f2 f3 f4 f5 st:Addr) (tM:Nat) (tk u0 u1 u2 t0 t2 t3 t4 t5 t6 t7 t8 t9 t10 t11:Tok) (ln i0 i2 i3 i4 i5 i6 i7 i8 i9 i10 i11:Int)
noncomputable def KD.ents(d:KD)(w:World):List DictEntry:=Apa w d.ln d.i0 d.i2 d.i3 d.i4 d.i5 d.i6 d.i7 d.i8 d.i9 d.i10 d.i11 d.u0 d.u2 d.t0 d.t2 d.t3 d.t4 d.t5 d.t6 d.t7 d.t8 d.t9 d.t10 d.t11 d.sl d.f0 d.f1 d.f2 d.f3 d.f4 d.f5 d.st d.aM d.tM
structure KIs(d:KD)(w:World)(h₀:Heap)(s:Shared)(g:Gh)(cm aC:Addr):Prop where
 eM:s.heap.get? d.aM=some (AAE aC d.tM)
 eC:s.heap.get? aC=some (Ayl aC d.aN d.b d.tk d.u1)
 eN:s.heap.get? d.aN=some (Aau (d.ents w) 3)
 en:h₀.get? d.aN=none
 k0:KFn s g cm 2 d.f0
 k1:KFn s g cm 3 d.f1
noncomputable def IsK(w:World)(h₀:Heap)(s:Shared)(g:Gh)(cm aC:Addr):Prop:=∃ d:KD,KIs d w h₀ s g cm aC
theorem IsK.old{w:World}{h h₀:Heap}{s:Shared}{g:Gh}{cm aC:Addr}(k:IsK w h s g cm aC)(x:Ext h₀ h):IsK w h₀ s g cm aC:=
 k.elim fun d k=>⟨d,k.eM,k.eC,k.eN,x.dead k.en,k.k0,k.k1⟩
section
variable{B:Bs}{A:Around}{names:Nat→Nat→Str}{tabs:List (Addr×Addr)}{s₀ s s':Shared}{g₀ g g':Gh}{N:Addr}{R R':List (Addr×Addr)}
theorem AuE(O:B.Ok){ln:Int}{t0 t1 t2 u0 u1 u2 t3:Tok}{sl:Addr}{t4:Tok}{f0:Addr}{t5:Tok}{f1:Addr}{t6:Tok}{f2:Addr}{t7:Tok}{f3:Addr}{t8:Tok}{f4:Addr}{t9:Tok}{f5:Addr}{t10 t11 v0 v1 tk:Tok}{st b cm:Addr}
  (C:CB B names tabs s₀ g₀ N (ke8 B.w ln t0 t1 t2 u0 u1 u2 t3 sl t4 f0 t5 f1 t6 f2 t7 f3 t8 f4 t9 f5 t10++[⟨AaB B.w "__static_attributes__",.str "__static_attributes__" t11,.ref st⟩]) 12 s g R)
  (hb:g b=some {cls:=.type "tuple",data:=.seq [Value.type "object"].toArray}) (hsl:g sl=some {cls:=.type "list",data:=.seq [Value.str "obj" v0].toArray})
  (hst:g st=some {cls:=.type "tuple",data:=.seq [Value.str "obj" v1].toArray}) (k0:KFn s g cm 2 f0) (k1:KFn s g cm 3 f1) (k2:KFn s g cm 4 f2) (k3:KFn s g cm 5 f3) (k4:KFn s g cm 6 f4) (k5:KFn s g cm 7 f5)
  (hsm:(N == sysModules)=false) {mc:Str→Option Value} (hmc:B.G.Ns cStatics mc) (hno:mc "thirdparty.any"=none) {Q:Value→Shared→Prop} {E:Value→Shared→Prop}
  (hq:∀ aC s',Aae B s g s' g→IsK B.w s.heap s' g cm aC→Q (.ref aC) s') :
  wpAny B.M A (call (.type "type") [.str "K" tk,.ref b,.ref N]) Q E s:=by
 refine Abm k0 fun fd0 m0=>?_;refine Abm k1 fun fd1 m1=>?_;refine Abm k2 fun fd2 m2=>?_;refine Abm k3 fun fd3 m3=>?_;refine Abm k4 fun fd4 m4=>?_;refine Abm k5 fun fd5 m5=>?_;have I:=C.st.inv;have hm:=I.ns hmc;have hN:=C.ns
 obtain⟨h,gg,d,t,os⟩:=s
 refine Ays B.prog B.w A E h gg d t os b N tk Q fun A' P E' hP=>?_;refine AFU B.prog B.w A' P E' h gg d t os b N sl f0 f1 f2 f3 f4 f5 st tk v0 v1 u0 u1 u2 t0 t1 t2 t3 t4 t5 t6 t7 t8 t9 t10 t11 ln _ _ _ _ _ _ _ _ _ _ _ _ 12 _ fd0 fd1 fd2 fd3 fd4 fd5 (I.real _ _ hb) (I.real _ _ hsl) (I.real _ _ hst) ?_ ?_ ?_ ?_ ?_ ?_ hsm mc hm hno hN
  fun aM aC aN aO oO tM h1 h' t' D keep=>?_
 ·exact I.real _ _ m0.obj
 ·exact I.real _ _ m1.obj
 ·exact I.real _ _ m2.obj
 ·exact I.real _ _ m3.obj
 ·exact I.real _ _ m4.obj
 ·exact I.real _ _ m5.obj
 ·have kk:∀ a o,h.get? a=some o→h'.get? a=some o:=fun a o e=>keep _ _ (Aa8 D _ _ e);have x:Aae B ⟨h,gg,d,t,os⟩ g ⟨h',gg,d,t',os⟩ g:=⟨g.le_refl,I.keeps O kk rfl rfl,.of kk,fun _ _ e=>.inl e⟩;exact hP aC _ _ h' t' (keep _ _ (D.at 1 _ _ rfl)) rfl rfl (hq _ _ x ⟨⟨aM,aN,b,sl,f0,f1,f2,f3,f4,f5,st,tM,tk,u0,u1,u2,t0,t2,t3,t4,t5,t6,t7,t8,t9,t10,t11,ln,AaB B.w "__module__",_,_,_,_,_,_,_,_,_,_⟩,
   keep _ _ (D.at 0 _ _ rfl),keep _ _ (D.at 1 _ _ rfl),keep _ _ (D.at 2 _ _ rfl),(D.nw _ (.tail _ (.tail _ (.head _)))).2,⟨fd0,m0.step x⟩,⟨fd1,m1.step x⟩⟩)
end
end Mine
namespace Mine
open PySem PySem.W PyProof.Rows PySem.W.X
noncomputable def hpL:=hd.heap_1
noncomputable def AaX(p:Params)(a:Addr):Obj:=((hpL p).lookup a).getD default
noncomputable def Aaj(p:Params)(a:Addr):FuncData:=match (AaX p a).data with
 |.func fd=>fd
 |_=>default
noncomputable def dfl(p:Params)(a:Addr):Addr:=match (Aaj p a).defaults with
 |.ref t=>t
 |_=>0
noncomputable def AbJ:Stmt:=.Pass ⟨0,0,0,0⟩
noncomputable def tabsL:List (Addr×Addr):=[(280,278),(175,171),(275,273),(244,240),(154,150),(147,143)]
noncomputable def tabA:List Addr:=tabsL.map (·.2)
theorem Ar0(p:Params):tabsL.all (ArH (hpL p))=true:=by kernel_rfl!
noncomputable abbrev AcB:Addr:=134
noncomputable abbrev Aok:Nat:=19
theorem Ar1(p:Params):(hpL p).lookup AcB=some (AaX p AcB):=by kernel_rfl!
theorem Ar2(p:Params):(AaX p AcB).data=.func (Aaj p AcB):=by kernel_rfl!
theorem Ane(p:Params):(Aaj p AcB).body=.stmts (Aac (nth Aok)):=by kernel_rfl!
theorem AgL(p:Params):(Aaj p AcB).scope=Aad (nth Aok):=by kernel_rfl!
theorem Anf(p:Params):(Aaj p AcB).globals=mainGlobals:=by kernel_rfl!
theorem Ape(p:Params):(Aaj p AcB).builtins=builtinsNs:=by kernel_rfl!
theorem Ang(p:Params):(Aaj p AcB).closure=[]:=by kernel_rfl!
theorem Anh(p:Params):Abh (hpL p) tabA (Aaj p AcB).code (Aaj p AcB).qualname=true:=by kernel_rfl!
theorem Ar3:AaP (Aad (nth Aok)) [("a":Str),("b":Str),("n":Str)]=true:=by kernel_rfl!
theorem Ani(p:Params)(x0 x1 x2:Value):bindArgs (Aaj p AcB) ⟨[x0,x1,x2],[]⟩=pure [(("a":Str),x0),(("b":Str),x1),(("n":Str),x2)]:=by kernel_rfl!
theorem Apf{B:Bs}(hG:GOk (hpL B.w.params) tabA B):AbX B AcB (Aaj B.w.params AcB) [("a":Str),("b":Str),("n":Str)] (Aac (nth Aok)):=AaS hG (Ar1 _) (by decide) (Ar2 _) (Ane _) (Anf _) (Ape _) (Ang _) (Anh _) (AgL _) Ar3 (Axe (fun x0 x1 x2=>Ani _ x0 x1 x2))
noncomputable abbrev Ac5:Addr:=148
noncomputable abbrev AhP:Nat:=21
noncomputable abbrev ABw:List Stmt:=Aac (nth AhP)
noncomputable abbrev Apg:Scope:=Aad (nth AhP)
theorem AuF(p:Params):(hpL p).lookup Ac5=some (AaX p Ac5):=by kernel_rfl!
theorem AuG(p:Params):(AaX p Ac5).data=.func (Aaj p Ac5):=by kernel_rfl!
theorem Aph(p:Params):(Aaj p Ac5).body=.stmts (Aac (nth AhP)):=by kernel_rfl!
theorem Ae2(p:Params):(Aaj p Ac5).scope=Aad (nth AhP):=by kernel_rfl!
theorem Api(p:Params):(Aaj p Ac5).globals=mainGlobals:=by kernel_rfl!
theorem Ar4(p:Params):(Aaj p Ac5).builtins=builtinsNs:=by kernel_rfl!
theorem Apj(p:Params):(Aaj p Ac5).closure=[]:=by kernel_rfl!
theorem Apk(p:Params):Abh (hpL p) tabA (Aaj p Ac5).code (Aaj p Ac5).qualname=true:=by kernel_rfl!
theorem AuH:AaP (Aad (nth AhP)) [("a":Str),("n":Str)]=true:=by kernel_rfl!
theorem Apl(p:Params)(x0 x1:Value):bindArgs (Aaj p Ac5) ⟨[x0,x1],[]⟩=pure [(("a":Str),x0),(("n":Str),x1)]:=by kernel_rfl!
theorem Ar5{B:Bs}(hG:GOk (hpL B.w.params) tabA B):AbX B Ac5 (Aaj B.w.params Ac5) [("a":Str),("n":Str)] (Aac (nth AhP)):=AaS hG (AuF _) (by decide) (AuG _) (Aph _) (Api _) (Ar4 _) (Apj _) (Apk _) (Ae2 _) AuH (AeB (fun x0 x1=>Apl _ x0 x1))
noncomputable abbrev Ade:Addr:=155
noncomputable abbrev AhQ:Nat:=22
noncomputable abbrev AyC:List Stmt:=Aac (nth AhQ)
noncomputable abbrev AyD:Scope:=Aad (nth AhQ)
theorem AuI(p:Params):(hpL p).lookup Ade=some (AaX p Ade):=by kernel_rfl!
theorem AuJ(p:Params):(AaX p Ade).data=.func (Aaj p Ade):=by kernel_rfl!
theorem Apm(p:Params):(Aaj p Ade).body=.stmts (Aac (nth AhQ)):=by kernel_rfl!
theorem Ae3(p:Params):(Aaj p Ade).scope=Aad (nth AhQ):=by kernel_rfl!
theorem Apn(p:Params):(Aaj p Ade).globals=mainGlobals:=by kernel_rfl!
theorem Ar6(p:Params):(Aaj p Ade).builtins=builtinsNs:=by kernel_rfl!
theorem Apo(p:Params):(Aaj p Ade).closure=[]:=by kernel_rfl!
theorem App(p:Params):Abh (hpL p) tabA (Aaj p Ade).code (Aaj p Ade).qualname=true:=by kernel_rfl!
theorem AuK:AaP (Aad (nth AhQ)) [("digits":Str),("n":Str)]=true:=by kernel_rfl!
theorem Apq(p:Params)(x0 x1:Value):bindArgs (Aaj p Ade) ⟨[x0,x1],[]⟩=pure [(("digits":Str),x0),(("n":Str),x1)]:=by kernel_rfl!
theorem Ar7{B:Bs}(hG:GOk (hpL B.w.params) tabA B):AbX B Ade (Aaj B.w.params Ade) [("digits":Str),("n":Str)] (Aac (nth AhQ)):=AaS hG (AuI _) (by decide) (AuJ _) (Apm _) (Apn _) (Ar6 _) (Apo _) (App _) (Ae3 _) AuK (AeB (fun x0 x1=>Apq _ x0 x1))
noncomputable abbrev AdR:Addr:=162
noncomputable abbrev AlX:Nat:=23
noncomputable abbrev ABx:List Stmt:=Aac (nth AlX)
noncomputable abbrev AdS:Scope:=Aad (nth AlX)
theorem AuL(p:Params):(hpL p).lookup AdR=some (AaX p AdR):=by kernel_rfl!
theorem AuM(p:Params):(AaX p AdR).data=.func (Aaj p AdR):=by kernel_rfl!
theorem Apr(p:Params):(Aaj p AdR).body=.stmts (Aac (nth AlX)):=by kernel_rfl!
theorem Ae4(p:Params):(Aaj p AdR).scope=Aad (nth AlX):=by kernel_rfl!
theorem Aps(p:Params):(Aaj p AdR).globals=mainGlobals:=by kernel_rfl!
theorem Ar8(p:Params):(Aaj p AdR).builtins=builtinsNs:=by kernel_rfl!
theorem Apt(p:Params):(Aaj p AdR).closure=[]:=by kernel_rfl!
theorem Apu(p:Params):Abh (hpL p) tabA (Aaj p AdR).code (Aaj p AdR).qualname=true:=by kernel_rfl!
theorem AuN:AaP (Aad (nth AlX)) [("a":Str),("b":Str)]=true:=by kernel_rfl!
theorem Apv(p:Params)(x0 x1:Value):bindArgs (Aaj p AdR) ⟨[x0,x1],[]⟩=pure [(("a":Str),x0),(("b":Str),x1)]:=by kernel_rfl!
theorem Ar9{B:Bs}(hG:GOk (hpL B.w.params) tabA B):AbX B AdR (Aaj B.w.params AdR) [("a":Str),("b":Str)] (Aac (nth AlX)):=AaS hG (AuL _) (by decide) (AuM _) (Apr _) (Aps _) (Ar8 _) (Apt _) (Apu _) (Ae4 _) AuN (AeB (fun x0 x1=>Apv _ x0 x1))
noncomputable abbrev Ac6:Addr:=169
noncomputable abbrev AuO:Nat:=24
theorem AuP(p:Params):(hpL p).lookup Ac6=some (AaX p Ac6):=by kernel_rfl!
theorem AuQ(p:Params):(AaX p Ac6).data=.func (Aaj p Ac6):=by kernel_rfl!
theorem Apw(p:Params):(Aaj p Ac6).body=.stmts (Aac (nth AuO)):=by kernel_rfl!
theorem AdT(p:Params):(Aaj p Ac6).scope=Aad (nth AuO):=by kernel_rfl!
theorem Apx(p:Params):(Aaj p Ac6).globals=mainGlobals:=by kernel_rfl!
theorem Asa(p:Params):(Aaj p Ac6).builtins=builtinsNs:=by kernel_rfl!
theorem Apy(p:Params):(Aaj p Ac6).closure=[]:=by kernel_rfl!
theorem Apz(p:Params):Abh (hpL p) tabA (Aaj p Ac6).code (Aaj p Ac6).qualname=true:=by kernel_rfl!
theorem AuR:AaP (Aad (nth AuO)) [("a":Str),("b":Str)]=true:=by kernel_rfl!
theorem ApA(p:Params)(x0 x1:Value):bindArgs (Aaj p Ac6) ⟨[x0,x1],[]⟩=pure [(("a":Str),x0),(("b":Str),x1)]:=by kernel_rfl!
theorem AhR{B:Bs}(hG:GOk (hpL B.w.params) tabA B):AbX B Ac6 (Aaj B.w.params Ac6) [("a":Str),("b":Str)] (Aac (nth AuO)):=AaS hG (AuP _) (by decide) (AuQ _) (Apw _) (Apx _) (Asa _) (Apy _) (Apz _) (AdT _) AuR (AeB (fun x0 x1=>ApA _ x0 x1))
noncomputable abbrev Adr:Addr:=176
noncomputable abbrev AkF:Nat:=26
noncomputable abbrev Asb:Scope:=Aad (nth AkF)
theorem AuS(p:Params):(hpL p).lookup Adr=some (AaX p Adr):=by kernel_rfl!
theorem AuT(p:Params):(AaX p Adr).data=.func (Aaj p Adr):=by kernel_rfl!
theorem ApB(p:Params):(Aaj p Adr).body=.stmts (Aac (nth AkF)):=by kernel_rfl!
theorem Ae5(p:Params):(Aaj p Adr).scope=Aad (nth AkF):=by kernel_rfl!
theorem ApC(p:Params):(Aaj p Adr).globals=mainGlobals:=by kernel_rfl!
theorem Asc(p:Params):(Aaj p Adr).builtins=builtinsNs:=by kernel_rfl!
theorem ApD(p:Params):(Aaj p Adr).closure=[]:=by kernel_rfl!
theorem ApE(p:Params):Abh (hpL p) tabA (Aaj p Adr).code (Aaj p Adr).qualname=true:=by kernel_rfl!
theorem AuU:AaP (Aad (nth AkF)) [("mycmp":Str)]=true:=by kernel_rfl!
theorem ApF(p:Params)(x0:Value):bindArgs (Aaj p Adr) ⟨[x0],[]⟩=pure [(("mycmp":Str),x0)]:=by kernel_rfl!
theorem AlY{B:Bs}(hG:GOk (hpL B.w.params) tabA B):AbX B Adr (Aaj B.w.params Adr) [("mycmp":Str)] (Aac (nth AkF)):=AaS hG (AuS _) (by decide) (AuT _) (ApB _) (ApC _) (Asc _) (ApD _) (ApE _) (Ae5 _) AuU (Ady (fun x0=>ApF _ x0))
noncomputable abbrev Ab3:Addr:=185
noncomputable abbrev ApG:Nat:=28
noncomputable abbrev b_red:List Stmt:=Aac (nth ApG)
noncomputable abbrev AlZ:Scope:=Aad (nth ApG)
theorem AuV(p:Params):(hpL p).lookup Ab3=some (AaX p Ab3):=by kernel_rfl!
theorem AuW(p:Params):(AaX p Ab3).data=.func (Aaj p Ab3):=by kernel_rfl!
theorem ApH(p:Params):(Aaj p Ab3).body=.stmts (Aac (nth ApG)):=by kernel_rfl!
theorem AdU(p:Params):(Aaj p Ab3).scope=Aad (nth ApG):=by kernel_rfl!
theorem ApI(p:Params):(Aaj p Ab3).globals=mainGlobals:=by kernel_rfl!
theorem Asd(p:Params):(Aaj p Ab3).builtins=builtinsNs:=by kernel_rfl!
theorem ApJ(p:Params):(Aaj p Ab3).closure=[]:=by kernel_rfl!
theorem ApK(p:Params):Abh (hpL p) tabA (Aaj p Ab3).code (Aaj p Ab3).qualname=true:=by kernel_rfl!
theorem ApL{B:Bs}(hG:GOk (hpL B.w.params) tabA B):Ayh B Ab3 (Aaj B.w.params Ab3) (Aac (nth ApG)):=ArE hG (AuV _) (by decide) (AuW _) (ApH _) (ApI _) (Asd _) (ApJ _) (ApK _)
theorem AuX:AaP (Aad (nth ApG)) [("function":Str),("sequence":Str),("initial":Str)]=true:=by kernel_rfl!
theorem Ase(p:Params):(hpL p).lookup (dfl p Ab3)=some (AaX p (dfl p Ab3)):=by kernel_rfl!
theorem Asf(p:Params):(!(tabA.contains (dfl p Ab3)))=true:=by kernel_rfl!
theorem AuY(p:Params)(S:Setting)(x0 x1 x2:Value):peek [(dfl p Ab3,AaX p (dfl p Ab3))] S (bindArgs (Aaj p Ab3) ⟨[x0,x1,x2],[]⟩)=some [(("function":Str),x0),(("sequence":Str),x1),(("initial":Str),x2)]:=by kernel_rfl!
noncomputable abbrev AdV:Addr:=94
noncomputable abbrev AuZ:Nat:=9
theorem Au0(p:Params):(hpL p).lookup AdV=some (AaX p AdV):=by kernel_rfl!
theorem Au1(p:Params):(AaX p AdV).data=.func (Aaj p AdV):=by kernel_rfl!
theorem ApM(p:Params):(Aaj p AdV).body=.stmts (Aac (nth AuZ)):=by kernel_rfl!
theorem AhS(p:Params):(Aaj p AdV).scope=Aad (nth AuZ):=by kernel_rfl!
theorem ApN(p:Params):(Aaj p AdV).globals=mainGlobals:=by kernel_rfl!
theorem Asg(p:Params):(Aaj p AdV).builtins=builtinsNs:=by kernel_rfl!
theorem ApO(p:Params):(Aaj p AdV).closure=[]:=by kernel_rfl!
theorem ApP(p:Params):Abh (hpL p) tabA (Aaj p AdV).code (Aaj p AdV).qualname=true:=by kernel_rfl!
theorem Au2:AaP (Aad (nth AuZ)) [("path":Str)]=true:=by kernel_rfl!
theorem ApQ(p:Params)(x0:Value):bindArgs (Aaj p AdV) ⟨[x0],[]⟩=pure [(("path":Str),x0)]:=by kernel_rfl!
theorem Ash{B:Bs}(hG:GOk (hpL B.w.params) tabA B):AbX B AdV (Aaj B.w.params AdV) [("path":Str)] (Aac (nth AuZ)):=AaS hG (Au0 _) (by decide) (Au1 _) (ApM _) (ApN _) (Asg _) (ApO _) (ApP _) (AhS _) Au2 (Ady (fun x0=>ApQ _ x0))
noncomputable abbrev Aem:Addr:=108
noncomputable abbrev Au3:Nat:=13
theorem Au4(p:Params):(hpL p).lookup Aem=some (AaX p Aem):=by kernel_rfl!
theorem Au5(p:Params):(AaX p Aem).data=.func (Aaj p Aem):=by kernel_rfl!
theorem ApR(p:Params):(Aaj p Aem).body=.stmts (Aac (nth Au3)):=by kernel_rfl!
theorem AhT(p:Params):(Aaj p Aem).scope=Aad (nth Au3):=by kernel_rfl!
theorem ApS(p:Params):(Aaj p Aem).globals=mainGlobals:=by kernel_rfl!
theorem Asi(p:Params):(Aaj p Aem).builtins=builtinsNs:=by kernel_rfl!
theorem ApT(p:Params):(Aaj p Aem).closure=[]:=by kernel_rfl!
theorem ApU(p:Params):Abh (hpL p) tabA (Aaj p Aem).code (Aaj p Aem).qualname=true:=by kernel_rfl!
theorem Au6:AaP (Aad (nth Au3)) [("path":Str)]=true:=by kernel_rfl!
theorem ApV(p:Params)(x0:Value):bindArgs (Aaj p Aem) ⟨[x0],[]⟩=pure [(("path":Str),x0)]:=by kernel_rfl!
theorem Asj{B:Bs}(hG:GOk (hpL B.w.params) tabA B):AbX B Aem (Aaj B.w.params Aem) [("path":Str)] (Aac (nth Au3)):=AaS hG (Au4 _) (by decide) (Au5 _) (ApR _) (ApS _) (Asi _) (ApT _) (ApU _) (AhT _) Au6 (Ady (fun x0=>ApV _ x0))
noncomputable abbrev AeC:Addr:=115
noncomputable abbrev ApW:Nat:=14
noncomputable abbrev Au7:List Stmt:=Aac (nth ApW)
noncomputable abbrev AgZ:Scope:=Aad (nth ApW)
theorem Au8(p:Params):(hpL p).lookup AeC=some (AaX p AeC):=by kernel_rfl!
theorem Au9(p:Params):(AaX p AeC).data=.func (Aaj p AeC):=by kernel_rfl!
theorem ApX(p:Params):(Aaj p AeC).body=.stmts (Aac (nth ApW)):=by kernel_rfl!
theorem AhU(p:Params):(Aaj p AeC).scope=Aad (nth ApW):=by kernel_rfl!
theorem ApY(p:Params):(Aaj p AeC).globals=mainGlobals:=by kernel_rfl!
theorem Ask(p:Params):(Aaj p AeC).builtins=builtinsNs:=by kernel_rfl!
theorem ApZ(p:Params):(Aaj p AeC).closure=[]:=by kernel_rfl!
theorem Ap0(p:Params):Abh (hpL p) tabA (Aaj p AeC).code (Aaj p AeC).qualname=true:=by kernel_rfl!
theorem Ap1{B:Bs}(hG:GOk (hpL B.w.params) tabA B):Ayh B AeC (Aaj B.w.params AeC) (Aac (nth ApW)):=ArE hG (Au8 _) (by decide) (Au9 _) (ApX _) (ApY _) (Ask _) (ApZ _) (Ap0 _)
theorem Ap2(p:Params)(x0 x1:Value):bindArgs (Aaj p AeC) ⟨[x0,x1],[]⟩=(do let t ← newTuple [x1];pure [(("a":Str),x0),(("p":Str),t)]):=by kernel_rfl!
theorem Ava:AaP (Aad (nth ApW)) [("a":Str),("p":Str)]=true:=by kernel_rfl!
noncomputable abbrev Aen:Addr:=122
noncomputable abbrev Avb:Nat:=15
theorem Avc(p:Params):(hpL p).lookup Aen=some (AaX p Aen):=by kernel_rfl!
theorem Avd(p:Params):(AaX p Aen).data=.func (Aaj p Aen):=by kernel_rfl!
theorem Ap3(p:Params):(Aaj p Aen).body=.stmts (Aac (nth Avb)):=by kernel_rfl!
theorem AhV(p:Params):(Aaj p Aen).scope=Aad (nth Avb):=by kernel_rfl!
theorem Ap4(p:Params):(Aaj p Aen).globals=mainGlobals:=by kernel_rfl!
theorem Asl(p:Params):(Aaj p Aen).builtins=builtinsNs:=by kernel_rfl!
theorem Ap5(p:Params):(Aaj p Aen).closure=[]:=by kernel_rfl!
theorem Ap6(p:Params):Abh (hpL p) tabA (Aaj p Aen).code (Aaj p Aen).qualname=true:=by kernel_rfl!
theorem Ave:AaP (Aad (nth Avb)) [("p":Str)]=true:=by kernel_rfl!
theorem Ap7(p:Params)(x0:Value):bindArgs (Aaj p Aen) ⟨[x0],[]⟩=pure [(("p":Str),x0)]:=by kernel_rfl!
theorem Asm{B:Bs}(hG:GOk (hpL B.w.params) tabA B):AbX B Aen (Aaj B.w.params Aen) [("p":Str)] (Aac (nth Avb)):=AaS hG (Avc _) (by decide) (Avd _) (Ap3 _) (Ap4 _) (Asl _) (Ap5 _) (Ap6 _) (AhV _) Ave (Ady (fun x0=>Ap7 _ x0))
noncomputable abbrev AeD:Addr:=127
noncomputable abbrev Ap8:Nat:=16
noncomputable abbrev Avf:List Stmt:=Aac (nth Ap8)
noncomputable abbrev AcC:Scope:=Aad (nth Ap8)
theorem Avg(p:Params):(hpL p).lookup AeD=some (AaX p AeD):=by kernel_rfl!
theorem Avh(p:Params):(AaX p AeD).data=.func (Aaj p AeD):=by kernel_rfl!
theorem Ap9(p:Params):(Aaj p AeD).body=.stmts (Aac (nth Ap8)):=by kernel_rfl!
theorem AhW(p:Params):(Aaj p AeD).scope=Aad (nth Ap8):=by kernel_rfl!
theorem Aqa(p:Params):(Aaj p AeD).globals=mainGlobals:=by kernel_rfl!
theorem Asn(p:Params):(Aaj p AeD).builtins=builtinsNs:=by kernel_rfl!
theorem Aqb(p:Params):(Aaj p AeD).closure=[]:=by kernel_rfl!
theorem Aqc(p:Params):Abh (hpL p) tabA (Aaj p AeD).code (Aaj p AeD).qualname=true:=by kernel_rfl!
theorem Avi:AaP (Aad (nth Ap8)) [("paths":Str)]=true:=by kernel_rfl!
theorem Aqd(p:Params)(x0:Value):bindArgs (Aaj p AeD) ⟨[x0],[]⟩=pure [(("paths":Str),x0)]:=by kernel_rfl!
theorem Aso{B:Bs}(hG:GOk (hpL B.w.params) tabA B):AbX B AeD (Aaj B.w.params AeD) [("paths":Str)] (Aac (nth Ap8)):=AaS hG (Avg _) (by decide) (Avh _) (Ap9 _) (Aqa _) (Asn _) (Aqb _) (Aqc _) (AhW _) Avi (Ady (fun x0=>Aqd _ x0))
noncomputable abbrev AaZ:Addr:=190
noncomputable abbrev AcR:Nat:=30
noncomputable abbrev Aka:List Stmt:=Aac (nth AcR)
noncomputable abbrev Akb:Scope:=Aad (nth AcR)
theorem AkG(p:Params):(hpL p).lookup AaZ=some (AaX p AaZ):=by kernel_rfl!
theorem AkH(p:Params):(AaX p AaZ).data=.func (Aaj p AaZ):=by kernel_rfl!
theorem AhX(p:Params):(Aaj p AaZ).body=.stmts (Aac (nth AcR)):=by kernel_rfl!
theorem Aec(p:Params):(Aaj p AaZ).scope=Aad (nth AcR):=by kernel_rfl!
theorem AhY(p:Params):(Aaj p AaZ).globals=mainGlobals:=by kernel_rfl!
theorem Ajn(p:Params):(Aaj p AaZ).builtins=builtinsNs:=by kernel_rfl!
theorem AhZ(p:Params):(Aaj p AaZ).closure=[]:=by kernel_rfl!
theorem Ah0(p:Params):Abh (hpL p) tabA (Aaj p AaZ).code (Aaj p AaZ).qualname=true:=by kernel_rfl!
theorem AkI:AaP (Aad (nth AcR)) [("script":Str)]=true:=by kernel_rfl!
theorem Ah1(p:Params)(x0:Value):bindArgs (Aaj p AaZ) ⟨[x0],[]⟩=pure [(("script":Str),x0)]:=by kernel_rfl!
theorem Ajo{B:Bs}(hG:GOk (hpL B.w.params) tabA B):AbX B AaZ (Aaj B.w.params AaZ) [("script":Str)] (Aac (nth AcR)):=AaS hG (AkG _) (by decide) (AkH _) (AhX _) (AhY _) (Ajn _) (AhZ _) (Ah0 _) (Aec _) AkI (Ady (fun x0=>Ah1 _ x0))
noncomputable abbrev Aa0:Addr:=197
noncomputable abbrev AcS:Nat:=31
noncomputable abbrev Aqe:List Stmt:=Aac (nth AcS)
noncomputable abbrev Aqf:Scope:=Aad (nth AcS)
theorem AkJ(p:Params):(hpL p).lookup Aa0=some (AaX p Aa0):=by kernel_rfl!
theorem AkK(p:Params):(AaX p Aa0).data=.func (Aaj p Aa0):=by kernel_rfl!
theorem Ah2(p:Params):(Aaj p Aa0).body=.stmts (Aac (nth AcS)):=by kernel_rfl!
theorem Aed(p:Params):(Aaj p Aa0).scope=Aad (nth AcS):=by kernel_rfl!
theorem Ah3(p:Params):(Aaj p Aa0).globals=mainGlobals:=by kernel_rfl!
theorem Ajp(p:Params):(Aaj p Aa0).builtins=builtinsNs:=by kernel_rfl!
theorem Ah4(p:Params):(Aaj p Aa0).closure=[]:=by kernel_rfl!
theorem Ah5(p:Params):Abh (hpL p) tabA (Aaj p Aa0).code (Aaj p Aa0).qualname=true:=by kernel_rfl!
theorem AkL:AaP (Aad (nth AcS)) [("script":Str)]=true:=by kernel_rfl!
theorem Ah6(p:Params)(x0:Value):bindArgs (Aaj p Aa0) ⟨[x0],[]⟩=pure [(("script":Str),x0)]:=by kernel_rfl!
theorem Ajq{B:Bs}(hG:GOk (hpL B.w.params) tabA B):AbX B Aa0 (Aaj B.w.params Aa0) [("script":Str)] (Aac (nth AcS)):=AaS hG (AkJ _) (by decide) (AkK _) (Ah2 _) (Ah3 _) (Ajp _) (Ah4 _) (Ah5 _) (Aed _) AkL (Ady (fun x0=>Ah6 _ x0))
noncomputable abbrev Aa1:Addr:=202
noncomputable abbrev AcT:Nat:=32
noncomputable abbrev Aqg:List Stmt:=Aac (nth AcT)
noncomputable abbrev Aqh:Scope:=Aad (nth AcT)
theorem AkM(p:Params):(hpL p).lookup Aa1=some (AaX p Aa1):=by kernel_rfl!
theorem AkN(p:Params):(AaX p Aa1).data=.func (Aaj p Aa1):=by kernel_rfl!
theorem Ah7(p:Params):(Aaj p Aa1).body=.stmts (Aac (nth AcT)):=by kernel_rfl!
theorem Aee(p:Params):(Aaj p Aa1).scope=Aad (nth AcT):=by kernel_rfl!
theorem Ah8(p:Params):(Aaj p Aa1).globals=mainGlobals:=by kernel_rfl!
theorem Ajr(p:Params):(Aaj p Aa1).builtins=builtinsNs:=by kernel_rfl!
theorem Ah9(p:Params):(Aaj p Aa1).closure=[]:=by kernel_rfl!
theorem Aia(p:Params):Abh (hpL p) tabA (Aaj p Aa1).code (Aaj p Aa1).qualname=true:=by kernel_rfl!
theorem AkO:AaP (Aad (nth AcT)) [("rest":Str),("root":Str)]=true:=by kernel_rfl!
theorem Aib(p:Params)(x0 x1:Value):bindArgs (Aaj p Aa1) ⟨[x0,x1],[]⟩=pure [(("rest":Str),x0),(("root":Str),x1)]:=by kernel_rfl!
theorem Ajs{B:Bs}(hG:GOk (hpL B.w.params) tabA B):AbX B Aa1 (Aaj B.w.params Aa1) [("rest":Str),("root":Str)] (Aac (nth AcT)):=AaS hG (AkM _) (by decide) (AkN _) (Ah7 _) (Ah8 _) (Ajr _) (Ah9 _) (Aia _) (Aee _) AkO (AeB (fun x0 x1=>Aib _ x0 x1))
noncomputable abbrev Aa2:Addr:=207
noncomputable abbrev AcU:Nat:=33
noncomputable abbrev Aqi:List Stmt:=Aac (nth AcU)
noncomputable abbrev Aqj:Scope:=Aad (nth AcU)
theorem AkP(p:Params):(hpL p).lookup Aa2=some (AaX p Aa2):=by kernel_rfl!
theorem AkQ(p:Params):(AaX p Aa2).data=.func (Aaj p Aa2):=by kernel_rfl!
theorem Aic(p:Params):(Aaj p Aa2).body=.stmts (Aac (nth AcU)):=by kernel_rfl!
theorem Aef(p:Params):(Aaj p Aa2).scope=Aad (nth AcU):=by kernel_rfl!
theorem Aid(p:Params):(Aaj p Aa2).globals=mainGlobals:=by kernel_rfl!
theorem Ajt(p:Params):(Aaj p Aa2).builtins=builtinsNs:=by kernel_rfl!
theorem Aie(p:Params):(Aaj p Aa2).closure=[]:=by kernel_rfl!
theorem Aif(p:Params):Abh (hpL p) tabA (Aaj p Aa2).code (Aaj p Aa2).qualname=true:=by kernel_rfl!
theorem AkR:AaP (Aad (nth AcU)) [("number":Str),("root":Str)]=true:=by kernel_rfl!
theorem Aig(p:Params)(x0 x1:Value):bindArgs (Aaj p Aa2) ⟨[x0,x1],[]⟩=pure [(("number":Str),x0),(("root":Str),x1)]:=by kernel_rfl!
theorem Aju{B:Bs}(hG:GOk (hpL B.w.params) tabA B):AbX B Aa2 (Aaj B.w.params Aa2) [("number":Str),("root":Str)] (Aac (nth AcU)):=AaS hG (AkP _) (by decide) (AkQ _) (Aic _) (Aid _) (Ajt _) (Aie _) (Aif _) (Aef _) AkR (AeB (fun x0 x1=>Aig _ x0 x1))
noncomputable abbrev Aa3:Addr:=214
noncomputable abbrev AcV:Nat:=34
noncomputable abbrev Aqk:List Stmt:=Aac (nth AcV)
noncomputable abbrev Aql:Scope:=Aad (nth AcV)
theorem AkS(p:Params):(hpL p).lookup Aa3=some (AaX p Aa3):=by kernel_rfl!
theorem AkT(p:Params):(AaX p Aa3).data=.func (Aaj p Aa3):=by kernel_rfl!
theorem Aih(p:Params):(Aaj p Aa3).body=.stmts (Aac (nth AcV)):=by kernel_rfl!
theorem Aeg(p:Params):(Aaj p Aa3).scope=Aad (nth AcV):=by kernel_rfl!
theorem Aii(p:Params):(Aaj p Aa3).globals=mainGlobals:=by kernel_rfl!
theorem Ajv(p:Params):(Aaj p Aa3).builtins=builtinsNs:=by kernel_rfl!
theorem Aij(p:Params):(Aaj p Aa3).closure=[]:=by kernel_rfl!
theorem Aik(p:Params):Abh (hpL p) tabA (Aaj p Aa3).code (Aaj p Aa3).qualname=true:=by kernel_rfl!
theorem AkU:AaP (Aad (nth AcV)) [("names":Str)]=true:=by kernel_rfl!
theorem Ail(p:Params)(x0:Value):bindArgs (Aaj p Aa3) ⟨[x0],[]⟩=pure [(("names":Str),x0)]:=by kernel_rfl!
theorem Ajw{B:Bs}(hG:GOk (hpL B.w.params) tabA B):AbX B Aa3 (Aaj B.w.params Aa3) [("names":Str)] (Aac (nth AcV)):=AaS hG (AkS _) (by decide) (AkT _) (Aih _) (Aii _) (Ajv _) (Aij _) (Aik _) (Aeg _) AkU (Ady (fun x0=>Ail _ x0))
noncomputable abbrev Aa4:Addr:=221
noncomputable abbrev AcW:Nat:=35
noncomputable abbrev Aqm:List Stmt:=Aac (nth AcW)
noncomputable abbrev Aqn:Scope:=Aad (nth AcW)
theorem AkV(p:Params):(hpL p).lookup Aa4=some (AaX p Aa4):=by kernel_rfl!
theorem AkW(p:Params):(AaX p Aa4).data=.func (Aaj p Aa4):=by kernel_rfl!
theorem Aim(p:Params):(Aaj p Aa4).body=.stmts (Aac (nth AcW)):=by kernel_rfl!
theorem Aeh(p:Params):(Aaj p Aa4).scope=Aad (nth AcW):=by kernel_rfl!
theorem Ain(p:Params):(Aaj p Aa4).globals=mainGlobals:=by kernel_rfl!
theorem Ajx(p:Params):(Aaj p Aa4).builtins=builtinsNs:=by kernel_rfl!
theorem Aio(p:Params):(Aaj p Aa4).closure=[]:=by kernel_rfl!
theorem Aip(p:Params):Abh (hpL p) tabA (Aaj p Aa4).code (Aaj p Aa4).qualname=true:=by kernel_rfl!
theorem AkX:AaP (Aad (nth AcW)) [("path":Str)]=true:=by kernel_rfl!
theorem Aiq(p:Params)(x0:Value):bindArgs (Aaj p Aa4) ⟨[x0],[]⟩=pure [(("path":Str),x0)]:=by kernel_rfl!
theorem Ajy{B:Bs}(hG:GOk (hpL B.w.params) tabA B):AbX B Aa4 (Aaj B.w.params Aa4) [("path":Str)] (Aac (nth AcW)):=AaS hG (AkV _) (by decide) (AkW _) (Aim _) (Ain _) (Ajx _) (Aio _) (Aip _) (Aeh _) AkX (Ady (fun x0=>Aiq _ x0))
noncomputable abbrev AaE:Addr:=228
noncomputable abbrev Acd:Nat:=36
noncomputable abbrev Al0:List Stmt:=Aac (nth Acd)
noncomputable abbrev Al1:Scope:=Aad (nth Acd)
theorem Air(p:Params):(hpL p).lookup AaE=some (AaX p AaE):=by kernel_rfl!
theorem Ais(p:Params):(AaX p AaE).data=.func (Aaj p AaE):=by kernel_rfl!
theorem Af5(p:Params):(Aaj p AaE).body=.stmts (Aac (nth Acd)):=by kernel_rfl!
theorem Adk(p:Params):(Aaj p AaE).scope=Aad (nth Acd):=by kernel_rfl!
theorem Af6(p:Params):(Aaj p AaE).globals=mainGlobals:=by kernel_rfl!
theorem Ag0(p:Params):(Aaj p AaE).builtins=builtinsNs:=by kernel_rfl!
theorem Af7(p:Params):(Aaj p AaE).closure=[]:=by kernel_rfl!
theorem Af8(p:Params):Abh (hpL p) tabA (Aaj p AaE).code (Aaj p AaE).qualname=true:=by kernel_rfl!
theorem Ait:AaP (Aad (nth Acd)) [("one":Str),("other":Str)]=true:=by kernel_rfl!
theorem Af9(p:Params)(x0 x1:Value):bindArgs (Aaj p AaE) ⟨[x0,x1],[]⟩=pure [(("one":Str),x0),(("other":Str),x1)]:=by kernel_rfl!
theorem Ag1{B:Bs}(hG:GOk (hpL B.w.params) tabA B):AbX B AaE (Aaj B.w.params AaE) [("one":Str),("other":Str)] (Aac (nth Acd)):=AaS hG (Air _) (by decide) (Ais _) (Af5 _) (Af6 _) (Ag0 _) (Af7 _) (Af8 _) (Adk _) Ait (AeB (fun x0 x1=>Af9 _ x0 x1))
noncomputable abbrev AaV:Addr:=233
noncomputable abbrev AcX:Nat:=37
noncomputable abbrev Aqo:List Stmt:=Aac (nth AcX)
noncomputable abbrev Aqp:Scope:=Aad (nth AcX)
theorem AkY(p:Params):(hpL p).lookup AaV=some (AaX p AaV):=by kernel_rfl!
theorem AkZ(p:Params):(AaX p AaV).data=.func (Aaj p AaV):=by kernel_rfl!
theorem Aiu(p:Params):(Aaj p AaV).body=.stmts (Aac (nth AcX)):=by kernel_rfl!
theorem Aei(p:Params):(Aaj p AaV).scope=Aad (nth AcX):=by kernel_rfl!
theorem Aiv(p:Params):(Aaj p AaV).globals=mainGlobals:=by kernel_rfl!
theorem Ajz(p:Params):(Aaj p AaV).builtins=builtinsNs:=by kernel_rfl!
theorem Aiw(p:Params):(Aaj p AaV).closure=[]:=by kernel_rfl!
theorem Aix(p:Params):Abh (hpL p) tabA (Aaj p AaV).code (Aaj p AaV).qualname=true:=by kernel_rfl!
theorem Ak0:AaP (Aad (nth AcX)) [("number":Str)]=true:=by kernel_rfl!
theorem Aiy(p:Params)(x0:Value):bindArgs (Aaj p AaV) ⟨[x0],[]⟩=pure [(("number":Str),x0)]:=by kernel_rfl!
theorem AjA{B:Bs}(hG:GOk (hpL B.w.params) tabA B):AbX B AaV (Aaj B.w.params AaV) [("number":Str)] (Aac (nth AcX)):=AaS hG (AkY _) (by decide) (AkZ _) (Aiu _) (Aiv _) (Ajz _) (Aiw _) (Aix _) (Aei _) Ak0 (Ady (fun x0=>Aiy _ x0))
noncomputable abbrev AaF:Addr:=238
noncomputable abbrev AbC:Nat:=38
noncomputable abbrev AgM:List Stmt:=Aac (nth AbC)
noncomputable abbrev Al2:Scope:=Aad (nth AbC)
theorem Aiz(p:Params):(hpL p).lookup AaF=some (AaX p AaF):=by kernel_rfl!
theorem AiA(p:Params):(AaX p AaF).data=.func (Aaj p AaF):=by kernel_rfl!
theorem Aga(p:Params):(Aaj p AaF).body=.stmts (Aac (nth AbC)):=by kernel_rfl!
theorem Aci(p:Params):(Aaj p AaF).scope=Aad (nth AbC):=by kernel_rfl!
theorem Agb(p:Params):(Aaj p AaF).globals=mainGlobals:=by kernel_rfl!
theorem Ag2(p:Params):(Aaj p AaF).builtins=builtinsNs:=by kernel_rfl!
theorem Agc(p:Params):(Aaj p AaF).closure=[]:=by kernel_rfl!
theorem Agd(p:Params):Abh (hpL p) tabA (Aaj p AaF).code (Aaj p AaF).qualname=true:=by kernel_rfl!
theorem AiB:AaP (Aad (nth AbC)) [("told":Str),("above":Str)]=true:=by kernel_rfl!
theorem Age(p:Params)(x0 x1:Value):bindArgs (Aaj p AaF) ⟨[x0,x1],[]⟩=pure [(("told":Str),x0),(("above":Str),x1)]:=by kernel_rfl!
theorem Ag3{B:Bs}(hG:GOk (hpL B.w.params) tabA B):AbX B AaF (Aaj B.w.params AaF) [("told":Str),("above":Str)] (Aac (nth AbC)):=AaS hG (Aiz _) (by decide) (AiA _) (Aga _) (Agb _) (Ag2 _) (Agc _) (Agd _) (Aci _) AiB (AeB (fun x0 x1=>Age _ x0 x1))
noncomputable abbrev Aas:Addr:=245
noncomputable abbrev Abd:Nat:=39
noncomputable abbrev s_law_divided:Scope:=Aad (nth Abd)
theorem Ag4(p:Params):(hpL p).lookup Aas=some (AaX p Aas):=by kernel_rfl!
theorem Ag5(p:Params):(AaX p Aas).data=.func (Aaj p Aas):=by kernel_rfl!
theorem AfB(p:Params):(Aaj p Aas).body=.stmts (Aac (nth Abd)):=by kernel_rfl!
theorem Ab8(p:Params):(Aaj p Aas).scope=Aad (nth Abd):=by kernel_rfl!
theorem AfC(p:Params):(Aaj p Aas).globals=mainGlobals:=by kernel_rfl!
theorem Agf(p:Params):(Aaj p Aas).builtins=builtinsNs:=by kernel_rfl!
theorem AfD(p:Params):(Aaj p Aas).closure=[]:=by kernel_rfl!
theorem AfE(p:Params):Abh (hpL p) tabA (Aaj p Aas).code (Aaj p Aas).qualname=true:=by kernel_rfl!
theorem Ag6:AaP (Aad (nth Abd)) [("row":Str),("x":Str)]=true:=by kernel_rfl!
theorem AfF(p:Params)(x0 x1:Value):bindArgs (Aaj p Aas) ⟨[x0,x1],[]⟩=pure [(("row":Str),x0),(("x":Str),x1)]:=by kernel_rfl!
theorem Agg{B:Bs}(hG:GOk (hpL B.w.params) tabA B):AbX B Aas (Aaj B.w.params Aas) [("row":Str),("x":Str)] (Aac (nth Abd)):=AaS hG (Ag4 _) (by decide) (Ag5 _) (AfB _) (AfC _) (Agf _) (AfD _) (AfE _) (Ab8 _) Ag6 (AeB (fun x0 x1=>AfF _ x0 x1))
noncomputable abbrev AaU:Addr:=250
noncomputable abbrev Acq:Nat:=40
noncomputable abbrev AiC:List Stmt:=Aac (nth Acq)
noncomputable abbrev AiD:Scope:=Aad (nth Acq)
theorem AjB(p:Params):(hpL p).lookup AaU=some (AaX p AaU):=by kernel_rfl!
theorem AjC(p:Params):(AaX p AaU).data=.func (Aaj p AaU):=by kernel_rfl!
theorem Ag7(p:Params):(Aaj p AaU).body=.stmts (Aac (nth Acq)):=by kernel_rfl!
theorem AdA(p:Params):(Aaj p AaU).scope=Aad (nth Acq):=by kernel_rfl!
theorem Ag8(p:Params):(Aaj p AaU).globals=mainGlobals:=by kernel_rfl!
theorem AiE(p:Params):(Aaj p AaU).builtins=builtinsNs:=by kernel_rfl!
theorem Ag9(p:Params):(Aaj p AaU).closure=[]:=by kernel_rfl!
theorem Aha(p:Params):Abh (hpL p) tabA (Aaj p AaU).code (Aaj p AaU).qualname=true:=by kernel_rfl!
theorem AjD:AaP (Aad (nth Acq)) [("row":Str),("x":Str)]=true:=by kernel_rfl!
theorem Ahb(p:Params)(x0 x1:Value):bindArgs (Aaj p AaU) ⟨[x0,x1],[]⟩=pure [(("row":Str),x0),(("x":Str),x1)]:=by kernel_rfl!
theorem AiF{B:Bs}(hG:GOk (hpL B.w.params) tabA B):AbX B AaU (Aaj B.w.params AaU) [("row":Str),("x":Str)] (Aac (nth Acq)):=AaS hG (AjB _) (by decide) (AjC _) (Ag7 _) (Ag8 _) (AiE _) (Ag9 _) (Aha _) (AdA _) AjD (AeB (fun x0 x1=>Ahb _ x0 x1))
noncomputable abbrev AaI:Addr:=257
noncomputable abbrev Acr:Nat:=41
noncomputable abbrev Anj:List Stmt:=Aac (nth Acr)
noncomputable abbrev Ank:Scope:=Aad (nth Acr)
theorem AjE(p:Params):(hpL p).lookup AaI=some (AaX p AaI):=by kernel_rfl!
theorem AjF(p:Params):(AaX p AaI).data=.func (Aaj p AaI):=by kernel_rfl!
theorem Ahc(p:Params):(Aaj p AaI).body=.stmts (Aac (nth Acr)):=by kernel_rfl!
theorem AdB(p:Params):(Aaj p AaI).scope=Aad (nth Acr):=by kernel_rfl!
theorem Ahd(p:Params):(Aaj p AaI).globals=mainGlobals:=by kernel_rfl!
theorem AiG(p:Params):(Aaj p AaI).builtins=builtinsNs:=by kernel_rfl!
theorem Ahe(p:Params):(Aaj p AaI).closure=[]:=by kernel_rfl!
theorem Ahf(p:Params):Abh (hpL p) tabA (Aaj p AaI).code (Aaj p AaI).qualname=true:=by kernel_rfl!
theorem AjG:AaP (Aad (nth Acr)) [("row":Str)]=true:=by kernel_rfl!
theorem Ahg(p:Params)(x0:Value):bindArgs (Aaj p AaI) ⟨[x0],[]⟩=pure [(("row":Str),x0)]:=by kernel_rfl!
theorem AiH{B:Bs}(hG:GOk (hpL B.w.params) tabA B):AbX B AaI (Aaj B.w.params AaI) [("row":Str)] (Aac (nth Acr)):=AaS hG (AjE _) (by decide) (AjF _) (Ahc _) (Ahd _) (AiG _) (Ahe _) (Ahf _) (AdB _) AjG (Ady (fun x0=>Ahg _ x0))
noncomputable abbrev AaA:Addr:=264
noncomputable abbrev Ace:Nat:=42
noncomputable abbrev Al3:List Stmt:=Aac (nth Ace)
noncomputable abbrev AeE:Scope:=Aad (nth Ace)
theorem AiI(p:Params):(hpL p).lookup AaA=some (AaX p AaA):=by kernel_rfl!
theorem AiJ(p:Params):(AaX p AaA).data=.func (Aaj p AaA):=by kernel_rfl!
theorem Agh(p:Params):(Aaj p AaA).body=.stmts (Aac (nth Ace)):=by kernel_rfl!
theorem Adl(p:Params):(Aaj p AaA).scope=Aad (nth Ace):=by kernel_rfl!
theorem Agi(p:Params):(Aaj p AaA).globals=mainGlobals:=by kernel_rfl!
theorem Ahh(p:Params):(Aaj p AaA).builtins=builtinsNs:=by kernel_rfl!
theorem Agj(p:Params):(Aaj p AaA).closure=[]:=by kernel_rfl!
theorem Agk(p:Params):Abh (hpL p) tabA (Aaj p AaA).code (Aaj p AaA).qualname=true:=by kernel_rfl!
theorem AiK:AaP (Aad (nth Ace)) [("row":Str)]=true:=by kernel_rfl!
theorem Agl(p:Params)(x0:Value):bindArgs (Aaj p AaA) ⟨[x0],[]⟩=pure [(("row":Str),x0)]:=by kernel_rfl!
theorem Ahi{B:Bs}(hG:GOk (hpL B.w.params) tabA B):AbX B AaA (Aaj B.w.params AaA) [("row":Str)] (Aac (nth Ace)):=AaS hG (AiI _) (by decide) (AiJ _) (Agh _) (Agi _) (Ahh _) (Agj _) (Agk _) (Adl _) AiK (Ady (fun x0=>Agl _ x0))
noncomputable abbrev Aav:Addr:=271
noncomputable abbrev AbF:Nat:=43
noncomputable abbrev AjH:List Stmt:=Aac (nth AbF)
noncomputable abbrev AjI:Scope:=Aad (nth AbF)
theorem Agm(p:Params):(hpL p).lookup Aav=some (AaX p Aav):=by kernel_rfl!
theorem Agn(p:Params):(AaX p Aav).data=.func (Aaj p Aav):=by kernel_rfl!
theorem Ae6(p:Params):(Aaj p Aav).body=.stmts (Aac (nth AbF)):=by kernel_rfl!
theorem AcI(p:Params):(Aaj p Aav).scope=Aad (nth AbF):=by kernel_rfl!
theorem Ae7(p:Params):(Aaj p Aav).globals=mainGlobals:=by kernel_rfl!
theorem AfG(p:Params):(Aaj p Aav).builtins=builtinsNs:=by kernel_rfl!
theorem Ae8(p:Params):(Aaj p Aav).closure=[]:=by kernel_rfl!
theorem Ae9(p:Params):Abh (hpL p) tabA (Aaj p Aav).code (Aaj p Aav).qualname=true:=by kernel_rfl!
theorem Ago:AaP (Aad (nth AbF)) [("one":Str),("other":Str),("depths":Str)]=true:=by kernel_rfl!
theorem Afa(p:Params)(x0 x1 x2:Value):bindArgs (Aaj p Aav) ⟨[x0,x1,x2],[]⟩=pure [(("one":Str),x0),(("other":Str),x1),(("depths":Str),x2)]:=by kernel_rfl!
theorem AfH{B:Bs}(hG:GOk (hpL B.w.params) tabA B):AbX B Aav (Aaj B.w.params Aav) [("one":Str),("other":Str),("depths":Str)] (Aac (nth AbF)):=AaS hG (Agm _) (by decide) (Agn _) (Ae6 _) (Ae7 _) (AfG _) (Ae8 _) (Ae9 _) (AcI _) Ago (Axe (fun x0 x1 x2=>Afa _ x0 x1 x2))
noncomputable abbrev Aao:Addr:=276
noncomputable abbrev AaY:Nat:=44
noncomputable abbrev AjJ:Scope:=Aad (nth AaY)
theorem Agp(p:Params):(hpL p).lookup Aao=some (AaX p Aao):=by kernel_rfl!
theorem Agq(p:Params):(AaX p Aao).data=.func (Aaj p Aao):=by kernel_rfl!
theorem Afb(p:Params):(Aaj p Aao).body=.stmts (Aac (nth AaY)):=by kernel_rfl!
theorem AbZ(p:Params):(Aaj p Aao).scope=Aad (nth AaY):=by kernel_rfl!
theorem Afc(p:Params):(Aaj p Aao).globals=mainGlobals:=by kernel_rfl!
theorem AfI(p:Params):(Aaj p Aao).builtins=builtinsNs:=by kernel_rfl!
theorem Afd(p:Params):(Aaj p Aao).closure=[]:=by kernel_rfl!
theorem Afe(p:Params):Abh (hpL p) tabA (Aaj p Aao).code (Aaj p Aao).qualname=true:=by kernel_rfl!
theorem Agr:AaP (Aad (nth AaY)) [("goals":Str),("depths":Str)]=true:=by kernel_rfl!
theorem Aff(p:Params)(x0 x1:Value):bindArgs (Aaj p Aao) ⟨[x0,x1],[]⟩=pure [(("goals":Str),x0),(("depths":Str),x1)]:=by kernel_rfl!
theorem Adm{B:Bs}(hG:GOk (hpL B.w.params) tabA B):AbX B Aao (Aaj B.w.params Aao) [("goals":Str),("depths":Str)] (Aac (nth AaY)):=AaS hG (Agp _) (by decide) (Agq _) (Afb _) (Afc _) (AfI _) (Afd _) (Afe _) (AbZ _) Agr (AeB (fun x0 x1=>Aff _ x0 x1))
noncomputable abbrev Aay:Addr:=281
noncomputable abbrev AbG:Nat:=45
noncomputable abbrev Akc:List Stmt:=Aac (nth AbG)
noncomputable abbrev Aqq:Scope:=Aad (nth AbG)
theorem Ak1(p:Params):(hpL p).lookup Aay=some (AaX p Aay):=by kernel_rfl!
theorem Ak2(p:Params):(AaX p Aay).data=.func (Aaj p Aay):=by kernel_rfl!
theorem AiL(p:Params):(Aaj p Aay).body=.stmts (Aac (nth AbG)):=by kernel_rfl!
theorem AcH(p:Params):(Aaj p Aay).scope=Aad (nth AbG):=by kernel_rfl!
theorem AiM(p:Params):(Aaj p Aay).globals=mainGlobals:=by kernel_rfl!
theorem AjK(p:Params):(Aaj p Aay).builtins=builtinsNs:=by kernel_rfl!
theorem AiN(p:Params):(Aaj p Aay).closure=[]:=by kernel_rfl!
theorem AiO(p:Params):Abh (hpL p) tabA (Aaj p Aay).code (Aaj p Aay).qualname=true:=by kernel_rfl!
theorem Ak3:AaP (Aad (nth AbG)) [("row":Str),("goals":Str),("paths":Str),("depths":Str),("start":Str)]=true:=by kernel_rfl!
theorem AiP(p:Params)(x0 x1 x2 x3 x4:Value):bindArgs (Aaj p Aay) ⟨[x0,x1,x2,x3,x4],[]⟩=pure [(("row":Str),x0),(("goals":Str),x1),(("paths":Str),x2),(("depths":Str),x3),(("start":Str),x4)]:=by kernel_rfl!
theorem AjL{B:Bs}(hG:GOk (hpL B.w.params) tabA B):AbX B Aay (Aaj B.w.params Aay) [("row":Str),("goals":Str),("paths":Str),("depths":Str),("start":Str)] (Aac (nth AbG)):=AaS hG (Ak1 _) (by decide) (Ak2 _) (AiL _) (AiM _) (AjK _) (AiN _) (AiO _) (AcH _) Ak3 (Axf (fun x0 x1 x2 x3 x4=>AiP _ x0 x1 x2 x3 x4))
noncomputable abbrev Abb:Addr:=286
noncomputable abbrev AcD:Nat:=46
noncomputable abbrev Al4:List Stmt:=Aac (nth AcD)
noncomputable abbrev Asp:Scope:=Aad (nth AcD)
theorem Al5(p:Params):(hpL p).lookup Abb=some (AaX p Abb):=by kernel_rfl!
theorem Al6(p:Params):(AaX p Abb).data=.func (Aaj p Abb):=by kernel_rfl!
theorem AjM(p:Params):(Aaj p Abb).body=.stmts (Aac (nth AcD)):=by kernel_rfl!
theorem Ac7(p:Params):(Aaj p Abb).scope=Aad (nth AcD):=by kernel_rfl!
theorem AjN(p:Params):(Aaj p Abb).globals=mainGlobals:=by kernel_rfl!
theorem Ak4(p:Params):(Aaj p Abb).builtins=builtinsNs:=by kernel_rfl!
theorem AjO(p:Params):(Aaj p Abb).closure=[]:=by kernel_rfl!
theorem AjP(p:Params):Abh (hpL p) tabA (Aaj p Abb).code (Aaj p Abb).qualname=true:=by kernel_rfl!
theorem Al7:AaP (Aad (nth AcD)) [("row":Str),("numbers":Str),("paths":Str),("depths":Str),("start":Str)]=true:=by kernel_rfl!
theorem AjQ(p:Params)(x0 x1 x2 x3 x4:Value):bindArgs (Aaj p Abb) ⟨[x0,x1,x2,x3,x4],[]⟩=pure [(("row":Str),x0),(("numbers":Str),x1),(("paths":Str),x2),(("depths":Str),x3),(("start":Str),x4)]:=by kernel_rfl!
theorem Ak5{B:Bs}(hG:GOk (hpL B.w.params) tabA B):AbX B Abb (Aaj B.w.params Abb) [("row":Str),("numbers":Str),("paths":Str),("depths":Str),("start":Str)] (Aac (nth AcD)):=AaS hG (Al5 _) (by decide) (Al6 _) (AjM _) (AjN _) (Ak4 _) (AjO _) (AjP _) (Ac7 _) Al7 (Axf (fun x0 x1 x2 x3 x4=>AjQ _ x0 x1 x2 x3 x4))
noncomputable abbrev AcJ:Addr:=291
noncomputable abbrev AgN:Nat:=47
noncomputable abbrev ABy:Scope:=Aad (nth AgN)
theorem Asq(p:Params):(hpL p).lookup AcJ=some (AaX p AcJ):=by kernel_rfl!
theorem Asr(p:Params):(AaX p AcJ).data=.func (Aaj p AcJ):=by kernel_rfl!
theorem Anl(p:Params):(Aaj p AcJ).body=.stmts (Aac (nth AgN)):=by kernel_rfl!
theorem AeF(p:Params):(Aaj p AcJ).scope=Aad (nth AgN):=by kernel_rfl!
theorem Anm(p:Params):(Aaj p AcJ).globals=mainGlobals:=by kernel_rfl!
theorem Aqr(p:Params):(Aaj p AcJ).builtins=builtinsNs:=by kernel_rfl!
theorem Ann(p:Params):(Aaj p AcJ).closure=[]:=by kernel_rfl!
theorem Ano(p:Params):Abh (hpL p) tabA (Aaj p AcJ).code (Aaj p AcJ).qualname=true:=by kernel_rfl!
theorem Ass:AaP (Aad (nth AgN)) [("script":Str)]=true:=by kernel_rfl!
theorem Anp(p:Params)(x0:Value):bindArgs (Aaj p AcJ) ⟨[x0],[]⟩=pure [(("script":Str),x0)]:=by kernel_rfl!
theorem Aqs{B:Bs}(hG:GOk (hpL B.w.params) tabA B):AbX B AcJ (Aaj B.w.params AcJ) [("script":Str)] (Aac (nth AgN)):=AaS hG (Asq _) (by decide) (Asr _) (Anl _) (Anm _) (Aqr _) (Ann _) (Ano _) (AeF _) Ass (Ady (fun x0=>Anp _ x0))
noncomputable def Ast:List (Pos×Str):=[(Abf (((Aac (nth AhP))[1]?).getD AbJ),"_int2digits.<locals>.inner"),
 (Abf (((Aac (nth AhQ))[0]?).getD AbJ),"_digits2int.<locals>.inner"),
 (Abf kSt,"cmp_to_key.<locals>.K"),
 (Ajl 2,"cmp_to_key.<locals>.K.__init__"),
 (Ajl 3,"cmp_to_key.<locals>.K.__lt__"),
 (Ajl 4,"cmp_to_key.<locals>.K.__gt__"),
 (Ajl 5,"cmp_to_key.<locals>.K.__eq__"),
 (Ajl 6,"cmp_to_key.<locals>.K.__le__"),
 (Ajl 7,"cmp_to_key.<locals>.K.__ge__"),
 ((AlA (Aat (((Aac (nth AaY))[0]?).getD AbJ))).pos,"_law_in_order.<locals>.<lambda>"),
 ((AlA (Aat (((Aac (nth Abd))[0]?).getD AbJ) |> AlA)).pos,"_law_divided.<locals>.<lambda>"),
 ((AlA (Aat (((Aac (nth AbG))[3]?).getD AbJ))).pos,"_law_goes.<locals>.<lambda>"),
 ((AlA (Aat (((Aac (nth AbG))[4]?).getD AbJ))).pos,"_law_goes.<locals>.<lambda>")]
noncomputable def Ac8(l c:Nat):Str:=((Ast.find? fun p=>p.1.line == l && p.1.col == c).map (·.2)).getD ""
theorem ABz:Ac8 (Abf (((Aac (nth AhP))[1]?).getD AbJ)).line (Abf (((Aac (nth AhP))[1]?).getD AbJ)).col = "_int2digits.<locals>.inner":=by kernel_rfl!
theorem ABA:Ac8 (Abf (((Aac (nth AhQ))[0]?).getD AbJ)).line (Abf (((Aac (nth AhQ))[0]?).getD AbJ)).col = "_digits2int.<locals>.inner":=by kernel_rfl!
theorem AFW:Ac8 (Abf kSt).line (Abf kSt).col = "cmp_to_key.<locals>.K":=by kernel_rfl!
theorem AEf(i:Nat)(x:Str)(h:(i,x)∈[(2,("__init__":Str)),(3,"__lt__"),(4,"__gt__"),(5,"__eq__"),(6,"__le__"),(7,"__ge__")]):Ac8 (Ajl i).line (Ajl i).col = "cmp_to_key.<locals>.K."++x:=by
 simp only[List.mem_cons,List.not_mem_nil,or_false,Prod.mk.injEq] at h
 rcases h with ⟨rfl,rfl⟩|⟨rfl,rfl⟩|⟨rfl,rfl⟩|⟨rfl,rfl⟩|⟨rfl,rfl⟩|⟨rfl,rfl⟩<;>kernel_rfl!
theorem ABB:Ac8 ((AlA (Aat (((Aac (nth AaY))[0]?).getD AbJ))).pos).line ((AlA (Aat (((Aac (nth AaY))[0]?).getD AbJ))).pos).col = "_law_in_order.<locals>.<lambda>":=by kernel_rfl!
theorem ABC(p:Params):(Aaj p Ac5).qualname = "_int2digits":=by kernel_rfl!
theorem ABD(p:Params):(tabsL.any fun q=>(Aaj p Ac5).code == .ref q.1)=true:=by kernel_rfl!
theorem ABE(p:Params):(Aaj p Ade).qualname = "_digits2int":=by kernel_rfl!
theorem ABF(p:Params):(tabsL.any fun q=>(Aaj p Ade).code == .ref q.1)=true:=by kernel_rfl!
theorem ABG(p:Params):(Aaj p Adr).qualname = "cmp_to_key":=by kernel_rfl!
theorem ABH(p:Params):(tabsL.any fun q=>(Aaj p Adr).code == .ref q.1)=true:=by kernel_rfl!
theorem AiQ(p:Params):(Aaj p Aao).qualname = "_law_in_order":=by kernel_rfl!
theorem AiR(p:Params):(tabsL.any fun q=>(Aaj p Aao).code == .ref q.1)=true:=by kernel_rfl!
end Mine
namespace Mine
open PySem PySem.W PyProof.Rows PySem.Calls PySem.W
theorem AyE{E:Expr→Option D}{a b:Expr}{x y:D}(ha:Abt a=true)(hb:Abt b=true)(h1:E a=some x)(h2:E b=some y):evL E [a,b]=some [x,y]:=ift ha (Aan h1 (Aan (ift hb (Aan h2 rfl)) rfl))
noncomputable def Aol:D→Bool
 |.int _=>true
 |.str _=>true
 |.bool _=>true
 |.tup _=>true
 |.list _=>true
 |.dict _ _ _=>true
 |_=>false
section
variable{B:Bs}{A:Around}{s:Shared}{g:Gh}{n:Nat}
theorem AdW{M:Model}{E:Value→Shared→Prop}{x y:Addr}{ox oy:Obj}{Q:Value→Shared→Prop}(hxy:x≠y)(hx:s.heap.get? x=some ox)(hy:s.heap.get? y=some oy)(hnt:oy.cls≠.type "tuple")
  (h:Q (.bool false) s):wpAny M A (compareOp .Is (.ref x) (.ref y)) Q E s:=by
 show wpAny M A (do return .bool (← isSame (.ref x) (.ref y))) Q E s;exact wpAny_bind (PySem.SeqAt.wpAny_isSame_ref_other' hxy hx hy hnt (wpAny_pure h))
theorem Anq(I:Inv B s g){am:Addr}{om:Obj}(hm:B.G.get? am=some om)(hc:om.cls=.type "object"){v:Value}{d:D}(hd:Den g v d)(hp:Aol d=true):Aaq B A s g (compareOp .Is v (.ref am)) fun _ r=>r=.bool false:=by
 have g1:=I.base _ _ hm;have h1:=I.get g1;have nt:om.cls≠.type "tuple":=by rw[hc];decide
 cases hd with
 |none=>injection hp
 |bool=>exact wpAny_is_other rfl (by intro e;injection e) ⟨g,Aae.refl I,rfl⟩
 |int=>exact wpAny_is_other rfl (by intro e;injection e) ⟨g,Aae.refl I,rfl⟩
 |str=>exact wpAny_is_other rfl (by intro e;injection e) ⟨g,Aae.refl I,rfl⟩
 |tup e1 _=>exact AdW (by intro q1;subst q1;rw[g1] at e1;cases e1;simp at hc) (I.get e1) h1 nt ⟨g,Aae.refl I,rfl⟩
 |list e1 _=>exact AdW (by intro q2;subst q2;rw[g1] at e1;cases e1;simp at hc) (I.get e1) h1 nt ⟨g,Aae.refl I,rfl⟩
 |dict e1 _ _=>exact AdW (by intro q3;subst q3;rw[g1] at e1;cases e1;simp at hc) (I.get e1) h1 nt ⟨g,Aae.refl I,rfl⟩
 |rng _=>injection hp
 |val=>injection hp
noncomputable def Anr(F:List D→Option D):D→List D→Option D
 |d,[]=>some d
 |d,x :: xs=>(F [d,x]).bind fun r=>Anr F r xs
noncomputable def AFq:D→Option Addr
 |.val v=>ADz v
 |_=>none
theorem AyF{d:D}{a:Addr}(h:AFq d=some a):d=.val (.ref a):=by
 induction d using D.casesOn with
 |val v=>exact congrArg D.val (AmT h)
 |_=>exact Aah h
noncomputable def AEg(Φ:Addr→Option (List D→Option D)):List D→Option D:=fn3 fun x sq init=>(AFq x).bind fun a=>
 if Aol init=true then (Φ a).bind fun F=>(AbK sq).bind fun items=>Anr F init items else none
noncomputable def Aom(a:Addr)(F:List D→Option D)(v:Value):Option (List D→Option D):=(ADz v).bind fun b=>if b=a then some F else none
theorem AiS{a:Addr}{F F':List D→Option D}{v:Value}(h:Aom a F v=some F'):v=.ref a∧F=F':=by refine Aab (Aag h) fun b e k_1=>?_;refine Aaz (Abg k_1) fun q k_2=>?_;exact⟨q ▸ AmT e,sj k_2⟩
noncomputable def Axq(a:Addr)(F:List D→Option D):Tb:=⟨fun _=>none,Aom a F,fun _ _=>none,fun _ _ _=>none,fun _ _ _ _=>none⟩
theorem AyG{a:Addr}{F:List D→Option D}(h:AmO B n s g (.ref a) F):AbO B n (Axq a F) s g where
 glob:=fun _ _ e=>by exact Aah e
 app:=fun v F' e=>by
  refine Aaz (AiS e) fun q1 q2=>?_;subst q1;subst q2;exact h
 spec:=fun _ _ _ _ _ _ _ _ _ e=>by exact Aah e
 stm:=fun _ _ _ _ _ _ _ _ _ _ _ _ e=>by exact Aah e
 meth:=fun _ _ _ e=>by exact Aah e
theorem Asu{v:Value}{Q E:Value→Shared→Prop}(h:wpAny B.M A.in1 (pyIter v) Q E s):wpAny B.M A (call (.builtin "iter") [v]) Q E s:=by refine call_function_tree (by decide +kernel) (by decide +kernel) kdk_entry_iter (kdk_args_iter _) ?_;unfold Builtin.«iter»;refine wpAny_bind (m:=someArgs "iter" 1 2 _) (wpAny_of_eq (a:=[v]) rfl ?_);dsimp only;refine wpAny_bind (wpAny_mono h (fun it s' hq=>?_) fun _ _ e=>e);exact wpAny_pure hq
noncomputable def Ans(sc:Scope)(own:List Str)(a:Addr)(F:List D→Option D)(body:List Stmt)(ρ:Rho):Option Res:=ex (fun _ _=>none) (ev (Axq a F) 3 sc) own sc 3 ρ body
noncomputable def AfJ(body:List Stmt):Prop:=∃ p2 p3 p4 p5 p6 p7,body=[.Assign [.Name "value" p2] (.Call (.Name "function" p3) [.Name "value" p4,.Name "element" p5] [] p6) p7]
theorem Al8{sc:Scope}{own:List Str}{a:Addr}{F:List D→Option D}{body:List Stmt}(hb:AfJ body)(hv:okT own sc "value"=true){ρ:Rho}{d x r:D}(l1:ρ.lookup ("function":Str)=some (.val (.ref a)))(l2:ρ.lookup ("value":Str)=some d)(l3:ρ.lookup ("element":Str)=some x)
  (e:F [d,x]=some r):Ans sc own a F body ρ=some (.next (("value",r) :: ρ)):=by
 refine AFb hb fun p2 p3 p4 p5 p6 p7 z1=>?_;subst z1;have k1:AbA ("function":Str)=true:=by decide
 have k2:AbA ("value":Str)=true:=by decide
 have k3:AbA ("element":Str)=true:=by decide
 have hn:∀ (x:Str) (d:D) (k:Nat) (p:Pos),AbA x=true→ρ.lookup x=some d→ev (Axq a F) (k+1) sc ρ (.Name x p)=some d:=fun x d k p ho hl=>ift ho (by rw[hl]);have happ:(Axq a F).app (.ref a)=some F:=if_pos rfl;have hargs:evL (ev (Axq a F) 2 sc ρ) [.Name "value" p4,.Name "element" p5]=some [d,x]:=AyE rfl rfl (hn _ _ _ _ k2 l2) (hn _ _ _ _ k3 l3);have hcall:ev (Axq a F) 3 sc ρ (.Call (.Name "function" p3) [.Name "value" p4,.Name "element" p5] [] p6)=some r:=Aan (hn _ _ _ _ k1 l1) (Aan rfl (Aan happ (Aan hargs e)));have hs:An7 (ev (Axq a F) 3 sc) own sc 2 (ex (fun _ _=>none) (ev (Axq a F) 3 sc) own sc 2) ρ (.Assign [.Name "value" p2] (.Call (.Name "function" p3) [.Name "value" p4,.Name "element" p5] [] p6) p7)=some (.next (("value",r) :: ρ)):=
  Aan hcall (ift (.inl ⟨rfl,.inl rfl⟩) (Aan (if_pos hv) rfl))
 exact Aan hs rfl
theorem Aon{sc:Scope}{own:List Str}{a:Addr}{F:List D→Option D}{body:List Stmt}{p1:Pos}(hb:AfJ body)(hv:okT own sc "value"=true)(he:okT own sc "element"=true) :
  ∀ (items:List D) (ρ:Rho) (d r:D),ρ.lookup ("function":Str)=some (.val (.ref a))→ρ.lookup ("value":Str)=some d→Anr F d items=some r →
   ∃ ρ',AmY own sc (.Name "element" p1) (Ans sc own a F body) items ρ=some (.next ρ')∧ρ'.lookup ("value":Str)=some r
 |[],ρ,d,r,_,h2,h3=>⟨ρ,rfl,h2.trans h3⟩
 |x :: xs,ρ,d,r,h1,h2,h3=>by
  refine Aab (Aag h3) fun r' e h3=>?_
  ·have l1:(("element",x) :: ρ:Rho).lookup ("function":Str)=some (.val (.ref a)):=by rw[Aaf,if_neg (by decide)];exact h1
   have l2:(("element",x) :: ρ:Rho).lookup ("value":Str)=some d:=by rw[Aaf,if_neg (by decide)];exact h2
   have l3:(("element",x) :: ρ:Rho).lookup ("element":Str)=some x:=by rw[Aaf,if_pos rfl]
   refine Aab (Aon (p1:=p1) hb hv he xs (("value",r') :: ("element",x) :: ρ) r' r (by rw[Aaf,if_neg (by decide)];exact l1) (by rw[Aaf,if_pos rfl]) h3) fun ρ' e1 e2=>?_;refine⟨ρ',?_,e2⟩;exact Aan (AoX he) (Aan (Al8 hb hv l1 l2 l3 e) e1)
end
section
variable{B:Bs}{A:Around}{s:Shared}{g:Gh}{n:Nat}
theorem Ak6{cenv:Env}{x:Str}{p pos:Pos}{value:Expr}{Q:Flow→Shared→Prop}{E:Value→Shared→Prop}(h1:AgA value=false)
  (hv:wpAny B.M A (eval value cenv) (fun v s'=>wpAny B.M A (storeName cenv x v) (fun _ s''=>Q .next s'') E s') E s):wpAny B.M A (exec (.Assign [.Name x p] value pos) cenv) Q E s:=by
 refine wpAny_Assign_stores ?_ (Aez (t:=.Name x p) (line:=pos.line) (env:=cenv) h1) AbL;refine wpAny_mono hv (fun v s' h=>?_) fun _ _ e=>e;show wpAny _ _ (assign (.Name x p) cenv v) _ _ _;exact wpAny_assign_Name h
noncomputable def Ahn(body:List Stmt):Prop:=∃ p1 p2 p3 p4 p5 p6 p7 p8 tr p9 p10 p11 p12 p13 p14 bd p15 p16 p17,AfJ bd∧body=[.Assign [.Name "it" p1] (.Call (.Name "iter" p2) [.Name "sequence" p3] [] p4) p5,
 .If (.Compare (.Name "initial" p6) [.Is] [.Name "_initial_missing" p7] p8) tr [.Assign [.Name "value" p9] (.Name "initial" p10) p11] p12,.For (.Name "element" p13) (.Name "it" p14) bd [] p15,.Return (some (.Name "value" p16)) p17]
theorem Ahn.use{body:List Stmt}{P:Prop}(h:Ahn body)(k:∀ p1 p2 p3 p4 p5 p6 p7 p8 tr p9 p10 p11 p12 p13 p14 bd p15 p16 p17,AfJ bd→body=[.Assign [.Name "it" p1] (.Call (.Name "iter" p2) [.Name "sequence" p3] [] p4) p5,
 .If (.Compare (.Name "initial" p6) [.Is] [.Name "_initial_missing" p7] p8) tr [.Assign [.Name "value" p9] (.Name "initial" p10) p11] p12,.For (.Name "element" p13) (.Name "it" p14) bd [] p15,.Return (some (.Name "value" p16)) p17]→P):P:=by
 obtain⟨p1,p2,p3,p4,p5,p6,p7,p8,tr,p9,p10,p11,p12,p13,p14,bd,p15,p16,p17,hb,e⟩:=h
 exact k _ _ _ _ _ _ _ _ _ _ _ _ _ _ _ _ _ _ _ hb e
structure AyH(B:Bs)(ad:Addr)(fd:FuncData)(body:List Stmt)(am:Addr):Prop where
 d0:Ayh B ad fd body
 is:Ahn body
 sc:AaP fd.scope ["function","sequence","initial"]=true
 bind:∀ (A:Around) (s:Shared) (g:Gh) (a b c:Value) (Q:List (Str×Value)→Shared→Prop) (E:Value→Shared→Prop),Inv B s g→Q [(("function":Str),a),("sequence",b),("initial",c)] s→wpAny B.M A (bindArgs fd ⟨[a,b,c],[]⟩) Q E s
 lit:okT (Aak fd.scope.names) fd.scope "it"=true∧okT (Aak fd.scope.names) fd.scope "value"=true∧okT (Aak fd.scope.names) fd.scope "element"=true
 giter:fd.scope.names.lookup ("iter":Str)=some .globalImplicit∧B.look "iter"=some (.builtin "iter")
 gmiss:fd.scope.names.lookup ("_initial_missing":Str)=some .globalImplicit∧B.look "_initial_missing"=some (.ref am)
 om:∃ o,B.G.get? am=some o∧o.cls=.type "object"
theorem AiT(O:B.Ok){ad am:Addr}{fd:FuncData}{body:List Stmt}(R:AyH B ad fd body am){a:Addr}{F:List D→Option D}{vf vs vi:Value}{sq init r:D}{items:List D}(hF:AmO B n s g (.ref a) F)(hA:AOk (n+1) A)(I:Inv B s g)
  (hf:vf=.ref a) (h2:Den g vs sq) (h3:Den g vi init) (hp:Aol init=true) (hi:AbK sq=some items) (hr:Anr F init items=some r):Aaq B A s g (call (.ref ad) [vf,vs,vi]) fun g' v=>Den g' v r:=by
 subst hf;refine Af1 O R.d0 R.sc hA I (R.bind _ s g _ _ _ _ _ I ?_);refine⟨g,[.ref a,vs,vi],[.val (.ref a),sq,init],Aae.refl I,rfl,.cons .val (.cons h2 (.cons h3 .nil)),rfl,fun env s' e1 e2 e3 F0=>?_⟩;refine R.is.use fun p1 p2 p3 p4 p5 p6 p7 p8 tr p9 p10 p11 p12 p13 p14 bd p15 p16 p17 hbd hbody=>?_;subst hbody;have hA':AOk n (A.deeper env):=hA.deeper;have hh:=hA'.handled;refine Ahs R.lit fun t1 t2 t3=>?_;rw[← e1] at t1 t2 t3 F0;have hk1:env.kindOf ("iter":Str)=some .globalImplicit:=by unfold Env.kindOf;rw[e1];exact R.giter.1
 have hk2:env.kindOf ("_initial_missing":Str)=some .globalImplicit:=by unfold Env.kindOf;rw[e1];exact R.gmiss.1
 have l1:((([("function":Str),"sequence","initial"].zip [D.val (.ref a),sq,init]).reverse:Rho)).lookup ("function":Str)=some (.val (.ref a)):=rfl;have l2:((([("function":Str),"sequence","initial"].zip [D.val (.ref a),sq,init]).reverse:Rho)).lookup ("sequence":Str)=some sq:=rfl;have l3:((([("function":Str),"sequence","initial"].zip [D.val (.ref a),sq,init]).reverse:Rho)).lookup ("initial":Str)=some init:=rfl;generalize (([("function":Str),"sequence","initial"].zip [D.val (.ref a),sq,init]).reverse:Rho)=ρ at F0 l1 l2 l3
 -- it=iter(sequence)
 refine wpAny_execs_cons ?_;refine Ak6 rfl ?_;refine wpAny_Call_NameR ((F0.gname O hk1 R.giter.2 (by decide)).use fun fv s1 g1 x1 hfv=>?_);subst hfv;rw[AaC (es:=[.Name "sequence" p3]) (by intro e he;simp at he;subst he;rfl)];have F1:=F0.step x1;have goal:∀ {Q:Value→Shared→Prop} {E:Value→Shared→Prop},(∀ v s2 g2,Aae B s1 g1 s2 g2→Den g2 v sq→wpAny B.M (A.deeper env) (call (.builtin "iter") [v]) Q E s2)→wpAny B.M (A.deeper env) (callWith p4 (.builtin "iter") [] [(false,eval (.Name "sequence" p3) env)] []) Q E s1:=fun {Q E} h=>by
  refine callWith_of (P:=fun _=>True) (by rfl) (fun _ _=>⟨.machine,.inr (.inl rfl),.now⟩) (Adh (by simp) ?_);refine Calls.spliced_cons ((F1.name l2 (by decide)).use fun v s2 g2 x2 hv=>?_);exact wpAny_pure ⟨trivial,h v s2 g2 x2 hv⟩
 refine goal fun v s2 g2 x2 hv=>?_;have F2:=F1.step x2;refine Asu (AdI O x2.inv hv hi fun o x3 it3=>?_);have F3:=F2.step x3;refine(F3.store O (Abi t1) .val fun s4 F4 k4=>?_);refine AnV it3.noTabby fun oi hoi hti hni hci hdi hsi=>?_;have it4:AaQ s4.heap g2 s2.heap.objs.size items:=it3.keep g2.le_refl fun o e _=>k4 _ o (F3.notLoc hoi hci hdi) e;have h04:s'.heap.get? s2.heap.objs.size=none:=(x1.trans x2).ext.dead (AaM _);have gI4:g2 s2.heap.objs.size=none:=x2.inv.fresh
 -- if initial is _initial_missing
 refine wpAny_execs_cons (wpAny_If (wpAny_isTrue_Compare1 ((F4.name (x:="initial") (by rw[Aaf,if_neg (by decide)];exact l3) (by decide)).use fun v5 s5 g5 x5 h5=>?_) rfl));refine((F4.step x5).gname O hk2 R.gmiss.2 (by decide)).use fun v6 s6 g6 x6 h6=>?_;subst h6;refine Aab R.om fun om hom1 hom2=>?_;refine(Anq x6.inv hom1 hom2 (h5.mono x6.le) hp).use fun v7 s7 g7 x7 h7=>?_;subst h7;refine wpAny_truthy_bool ?_;have F7:=((F4.step x5).step x6).step x7;have keepIt:∀ {sa sb:Shared} {ga gb:Gh},Aae B sa ga sb gb→AaQ sa.heap ga s2.heap.objs.size items→ga s2.heap.objs.size=none→AaQ sb.heap gb s2.heap.objs.size items∧gb s2.heap.objs.size=none:=fun {sa sb ga gb} x it hg=>by
  refine Aab it.noTabby fun oi hoi _=>?_;exact⟨it.keep x.le fun o e n=>x.ext.keep _ o e n,x.shutNone hoi hg⟩
 refine Aaz (keepIt ((x5.trans x6).trans x7) it4 gI4) fun it7 gI7=>?_
 -- value=initial
 show wpAny _ _ (execs [.Assign [.Name "value" p9] (.Name "initial" p10) p11] env) _ _ _;refine wpAny_execs_cons (Ak6 rfl ((F7.name (x:="initial") (by rw[Aaf,if_neg (by decide)];exact l3) (by decide)).use fun v8 s8 g8 x8 h8=>?_));have F8:=F7.step x8;refine Aaz (keepIt x8 it7 gI7) fun it8 gI8=>?_;refine F8.store O (Abi t2) h8 fun s9 F9 k9=>?_;refine AnV it8.noTabby fun oj hoj _ _ hcj hdj _=>?_;have it9:AaQ s9.heap g8 s2.heap.objs.size items:=it8.keep g8.le_refl fun o e _=>k9 _ o (F8.notLoc hoj hcj hdj) e;refine wpAny_execs_nil ?_
 -- the loop
 refine wpAny_execs_cons (wpAny_For ((F9.name (x:="it") (d:=.val (.ref s2.heap.objs.size)) (by rw[Aaf,if_neg (by decide),Aaf,if_pos rfl]) (by decide)).useV fun s10 g10 x10=>?_) (fun _=>rfl));have F10:=F9.step x10;refine Aaz (keepIt x10 it9 gI8) fun it10 gI10=>?_;refine AlE it10 ?_;refine Aab (Aon (sc:=env.scope) (own:=Aak env.scope.names) (p1:=p13) hbd t2 t3 items (("value",init) :: ("it",.val (.ref s2.heap.objs.size)) :: ρ) init r
  (by rw[Aaf,if_neg (by decide),Aaf,if_neg (by decide)];exact l1) (by rw[Aaf,if_pos rfl]) hr) fun ρ' e4 e5=>?_
 have LL:AcP env (Aak env.scope.names) s2 g2 s10 g10:=AcP.trans x3.lets (AcP.trans (Oth.lets k4) (AcP.trans ((x5.trans x6).trans (x7.trans x8)).lets (AcP.trans (Oth.lets k9) x10.lets)));refine codeAny_mono (AlJ (s1:=s2) (g1:=g2) O hh (BD:=Ans env.scope (Aak env.scope.names) a F bd) (fun ρ r s g hr F=>AbW O (AyG hF) hA' (k:=3) 3 ρ r bd s g hr F) F10 it10 (F0.st.ext.dead h04) gI10 e4 (AaM _) LL) fun rr s11 hr=>?_
 obtain⟨f,rfl,g11,l11,e11⟩:=hr
 obtain⟨rfl,F11⟩:=e11
 -- return value
 refine wpAny_execs_cons (wpAny_Return_some ((F11.name e5 (by decide)).use fun v12 s12 g12 x12 h12=>?_));exact⟨g12,(F11.step x12).st,h12⟩
end
end Mine
namespace Mine
open PySem PySem.W PyProof.Rows PySem.Calls
section
variable{B:Bs}{n:Nat}
theorem Abw.less{f:Value}{F F':List D→Option D}(h:Abw B n f F)(hle:∀ ds r,F' ds=some r→F ds=some r):Abw B n f F':=
 ⟨h.kp,fun A s g vs ds r hA I hd hr=>h.run A s g vs ds r hA I hd (hle ds r hr)⟩
theorem AOk.le{A:Around}{m:Nat}(h:AOk m A)(hl:n≤m):AOk n A:=⟨h.handled,Nat.le_trans (Nat.add_le_add_left (Nat.mul_le_mul_left _ hl) _) h.depth,Nat.le_trans (Nat.add_le_add_left (Nat.mul_le_mul_left _ hl) _) h.units⟩
theorem Abw.up{m:Nat}{f:Value}{F:List D→Option D}(h:Abw B n f F)(hl:n≤m):Abw B m f F:=
 ⟨h.kp,fun A s g vs ds r hA I hd hr=>h.run A s g vs ds r (hA.le hl) I hd hr⟩
theorem Asv(O:B.Ok){ad am:Addr}{fd:FuncData}{body:List Stmt}(R:AyH B ad fd body am){Φ:Addr→Option (List D→Option D)}(hΦ:∀ a F,Φ a=some F→Abw B n (.ref a) F):Abw B (n+1) (.ref ad) (AEg Φ):=by
 refine Aab R.d0.obj fun o ho hdat=>?_;refine⟨.inr (.inr ⟨ad,o,fd,rfl,ho,hdat⟩),fun A s g vs ds r hA I hd hr=>?_⟩;refine ADx (Aw8 hr) fun x sq init q1 k_1=>?_;subst q1;refine Aab (Aag k_1) fun a e0 k_2=>?_;refine Aaz (Abg k_2) fun hp k_3=>?_;refine Aab (Aag k_3) fun F e1 k_4=>?_;refine Aab (Aag k_4) fun items e2 hr=>?_;rw[AyF e0] at hd;induction hd using Aar.consE with|cons h1 hd=>?_
 induction hd using Aar.consE with|cons h2 hd=>?_
 induction hd using Aar.consE with|cons h3 hd=>?_
 induction hd using Aar.nilE;induction h1 using Den.valE;exact AiT O R ((hΦ _ _ e1).at I) hA I rfl h2 h3 hp e2 hr
noncomputable def ABI(T:Tb)(k m:Nat)(params:List Str)(body:List Stmt)(sc:Scope):List D→Option D:=fn2 fun d0 d1=>fnD T k m params body sc [d0,.tup [d1]]
theorem AyI(O:B.Ok){a:Addr}{fd:FuncData}{x y:Str}{body:List Stmt}{k m:Nat}{T:Tb}(D0:Ayh B a fd body)(hs:AaP fd.scope [x,y]=true)(hb:∀ a b,bindArgs fd ⟨[a,b],[]⟩=(do let t ← newTuple [b];pure [(x,a),(y,t)]))
  (K:∀ s g,Inv B s g→AbO B n T s g):Abw B (n+1) (.ref a) (ABI T k m [x,y] body fd.scope):=by
 refine Aab D0.obj fun o ho hdat=>?_;refine⟨.inr (.inr ⟨a,o,fd,rfl,ho,hdat⟩),fun A s g vs ds r hA I hd hr=>?_⟩;refine Ad9 (AgH hr) fun d0 d1 q1 hr_1=>?_;subst q1;induction hd using Aar.consE with|cons h1 hd=>?_
 induction hd using Aar.consE with|cons h2 hd=>?_
 induction hd using Aar.nilE;rename_i v0 _ v1 _;refine Af1 O D0 hs hA I ?_;rw[hb];refine wpAny_bind (wpAny_newTuple ?_ (Nat.le_of_ble_eq_true rfl));refine Aab (Adg O I (vs:=[v1].toArray) (ds:=[d1]) (.cons h2 .nil)) fun g1 x1 hd1=>?_;refine wpAny_pure ⟨g1,[v0,.ref _],[d0,.tup [d1]],x1,rfl,.cons (h1.mono x1.le) (.cons hd1 .nil),rfl,fun env s' e1 e2 e3 F=>?_⟩;unfold fnD at hr_1;rw[if_pos (show[x,y].length=[d0,D.tup [d1]].length from rfl)] at hr_1
 cases e:ex (T.stm (Aak fd.scope.names) fd.scope) (ev T k fd.scope) (Aak fd.scope.names) fd.scope m ([x,y].zip [d0,D.tup [d1]]).reverse body with
 |none=>rw[e] at hr_1;exact Aah hr_1
 |some res=>
  rw[e] at hr_1;rw[← e1] at e F;have:=AbW O (K _ g1 x1.inv) (hA.deeper (env:=env)) m _ res body s' g1 e F;refine this.use fun f s1 g2 l1 en=>?_
  cases res with
  |ret d=>cases hr_1;refine Adc en fun v z1 x hd=>?_;subst z1;exact⟨g2,x1.trans x,hd⟩
  |next ρ'=>cases hr_1;refine Aaz en fun z2 F1=>?_;subst z2;exact⟨g2,x1.trans F1.st,.none⟩
  |brk _=>exact Aah hr_1
  |cont _=>exact Aah hr_1
theorem Acj(O:B.Ok){A:Around}{s s':Shared}{g g1:Gh}{T:Tb}{env:Env}{own:List Str}{ρ:Rho}{k m:Nat}{body:List Stmt}{r:D}(K:AbO B n T s g)(hA:AOk n A)(F:Fm B s g own env ρ s' g1)
  (e:ex (T.stm own env.scope) (ev T k env.scope) own env.scope m ρ body=some (.ret r)) :
  wpAny B.M A (execs body env) (fun f s''=>∃ g',Aae B s g s'' g'∧Den g' (match f with|.ret v=>v|_=>.none) r) (fun _ _=>False) s':=by
 refine(AbW O K hA m ρ _ body s' g1 e F).use fun f s1 g2 l1 en=>?_;refine Adc en fun v z3 x hd=>?_;subst z3;exact⟨g2,x,hd⟩
end
end Mine
namespace Mine
open PySem PySem.W PyProof.Rows PySem.Calls PySem.W.X
section
variable{B:Bs}{A:Around}{s₀ s s':Shared}{g₀ g g':Gh}{own:List Str}{env:Env}{ρ:Rho}{n:Nat}
theorem Ac9(F:Fm B s₀ g₀ own env ρ s g){scope:Scope}(hu:∀ x,(x,NameKind.free)∈scope.names→(x,NameKind.cell) ∉ scope.names∧scope.names.lookup x=some .free)
  (hf:∀ x,(x,NameKind.free)∈scope.names→env.kindOf x=some .cell∨env.kindOf x=some .free) :
  closureFor scope env=pure (clos env scope.names [])∧Ac3 s.heap g scope.names (clos env scope.names []) (Aa7 scope ρ):=by
 have cells:∀ n,(n,NameKind.free)∈scope.names→∃ c v,env.cells.lookup n=some c∧s.heap.IsCell c v∧∀ d,ρ.lookup n=some d→∃ v',v=some v'∧Den g v' d:=fun n hn=>F.cells n (hf n hn);have hcl:∀ x c,(clos env scope.names []).lookup x=some c→(x,NameKind.free)∈scope.names∧env.cells.lookup x=some c:=fun x c e=>by
  rcases AdO _ _ e with e|⟨e1,e2⟩
  ·exact Aah e
  ·refine Ad9 (cells x e1) fun c' v e3 _=>?_;rw[e3] at e2;exact⟨e1,by rw[e3];exact congrArg some e2.symm⟩
 have hcl':∀ x,(x,NameKind.free)∈scope.names→∃ c v,(clos env scope.names []).lookup x=some c∧s.heap.IsCell c v∧∀ d,ρ.lookup x=some d→∃ v',v=some v'∧Den g v' d:=fun x hx=>by
  refine Abm (Option.isSome_iff_exists.mp (Afv (env:=env) scope.names [] (.inl hx))) fun c e=>?_;refine Aaz (hcl x c e) fun _ e2=>?_;refine Adf (cells x hx) fun c' v e3 e4 e5=>?_;rw[e2] at e3;cases e3;exact⟨c,v,e,e4,e5⟩
 refine⟨Afu fun n hn=>(cells n hn).imp fun c ⟨_,e,_⟩=>e,fun x e=>?_,fun x c e=>?_,fun x d e=>?_⟩
 ·refine Adf (hcl' x (PySem.mem_of_lookup e)) fun c v e1 e2 _=>?_;exact⟨c,v,e1,e2⟩
 ·refine Aaz (hcl x c e) fun h1 h2=>?_;refine Adf (cells x h1) fun c' v e3 e4 _=>?_;rw[h2] at e3;cases e3;exact⟨v,e4⟩
 ·refine Aaz (AcL scope ρ e) fun h1 h2=>?_;refine Adf (hcl' x (PySem.mem_of_lookup h1)) fun c v e1 e2 e3=>?_;refine Aab (e3 d h2) fun v' q1 e4=>?_;subst q1;exact⟨(hu x (PySem.mem_of_lookup h1)).1,h1,c,v',e1,e2,e4⟩
theorem Af0.oth{a:Addr}{fd:FuncData}{params:Arguments}{body:FuncBody}{scope:Scope}{cl:List (Str×Addr)}(M:Af0 s.heap g a fd params body scope cl)(F:Fm B s₀ g₀ own env ρ s g)(k:Oth env own s.heap s'.heap):Af0 s'.heap g a fd params body scope cl:=by
 refine Akr M.code fun c' o' e1 e2 e3 e4=>?_;have e5:s'.heap.get? c'=some o':=by
  refine k c' o' ?_ e2;rw[e1] at e4;refine Aw4 e4 fun c₂ o₂ vs t f1 f2 f3 _=>?_
  cases f1;rw[e2] at f2;cases f2
  exact F.notLoc e2 (by intro v e;rw[f3] at e;injection e) (by intro _ _ e;rw[f3] at e;injection e)
 refine⟨M.obj,⟨c',o',e1,e5,e3,?_⟩,M.params,M.body,M.scope,M.glob,M.blt,M.clos,M.defs⟩;rw[e1] at e4 ⊢;exact AbB e4 e2 e5
noncomputable def Ads(scope sc:Scope):Bool:=scope.names.all fun p=>match p.2 with
 |.free=>scope.names.lookup p.1 == some .free && !(scope.names.contains (p.1,.cell)) && (sc.names.lookup p.1 == some .cell || sc.names.lookup p.1 == some .free)
 |_=>true
theorem AaR{scope sc:Scope}(h:Ads scope sc=true)(x:Str)(hx:(x,NameKind.free)∈scope.names):((x,NameKind.cell) ∉ scope.names∧scope.names.lookup x=some .free)∧(sc.names.lookup x=some .cell∨sc.names.lookup x=some .free):=by have:=List.all_eq_true.mp h _ hx;simp only[Bool.and_eq_true,Bool.or_eq_true,beq_iff_eq,Bool.not_eq_true',List.contains_eq_mem,decide_eq_false_iff_not] at this;exact⟨⟨this.1.2,this.1.1⟩,this.2⟩
theorem Fm.defStm(O:B.Ok)(hb:Aw9 B){names:Nat→Nat→Str}{tabs:List (Addr×Addr)}(TT:Arv B names tabs)(F:Fm B s₀ g₀ own env ρ s g){c P:Addr}{name:Str}{args:Arguments}{body:List Stmt}{scope:Scope}{pos:Pos}{xs:List Arg}
  (hcode:env.code=.ref c) (hm:(c,P)∈tabs) (hn:names pos.line pos.col=qualnameIn env name name) (ha:args={posonlyargs:=[],args:=xs,vararg:=none,kwonlyargs:=[],kw_defaults:=[],kwarg:=none,defaults:=[]})
  (hx:∀ e,annotationsOf (xs++[]++[]++[]++[]) e=[]) (hf:Ads scope env.scope=true) (ht:okT own env.scope name=true) {Q:Flow→Shared→Prop} {E:Value→Shared→Prop}
  (hq:∀ a fd s' g',AcP env own s g s' g'→Fm B s₀ g₀ own env ((name,.val (.ref a)) :: ρ) s' g'→Af0 s'.heap g' a fd args (.stmts body) scope (clos env scope.names [])→Q .next s') :
  wpAny B.M A (exec (.FunctionDef name args body [] none [] scope none name pos) env) Q E s:=by
 have hs:s=⟨s.heap,s.gens,s.drawn,s.toks,s.os⟩:=rfl;rw[hs];refine ArT ha hx ?_;refine Aaz (Ac9 F (scope:=scope) (fun x hx=>(AaR hf x hx).1) (fun x hx=>(AaR hf x hx).2)) fun hcl _=>?_;refine Am7 O hb TT F.inv hcl F.glob hcode hm hn fun a fd s1 g1 x1 M1=>?_;have F1:=F.step x1;exact F1.store O (Abi ht) .val fun s2 F2 k2=>hq a fd s2 g1 (AcP.trans x1.lets (Oth.lets k2)) F2 (M1.oth F1 k2)
end
end Mine
namespace Mine
open PySem PySem.W PyProof.Rows PySem.Calls
section
variable{T:Tb}{n:Nat}{sc:Scope}{ρ:Rho}{e l r t o i v:Expr}{op:Operator}{p apos:Pos}{a b c d:D}{x f name:Str}
theorem r_0(hc:Ahw e=false)(h:AmW T (ev T n) sc ρ e=some d):ev T (n+1) sc ρ e=some d:=by show AeV T (ev T n) sc ρ e=some d;unfold AeV;rw[hc];simp only[Bool.false_eq_true,if_false];exact h
theorem AFr(hc:T.spec sc ρ e=none)(h:AmW T (ev T n) sc ρ e=some d):ev T (n+1) sc ρ e=some d:=by
 show AeV T (ev T n) sc ρ e=some d;unfold AeV;have:(if Ahw e=true then T.spec sc ρ e else none)=none:=by rw[hc];split<;>rfl
 rw[this];exact h
theorem Aaa{k:Const}{m:Nat}(he:e=.Constant k m p)(h:Are k=some d):ev T (n+1) sc ρ e=some d:=by subst he;exact r_0 rfl h
theorem Aej(he:e=.Name x p)(hok:AbA x=true)(h:ρ.lookup x=some d):ev T (n+1) sc ρ e=some d:=by subst he;exact r_0 rfl (ift hok (by rw[h]))
theorem AyJ{j:Int}{tk:Tok}(he:e=.Name x p)(hok:AbA x=true)(h:ρ.lookup x=none)(hk:sc.names.lookup x=some .globalImplicit)(hg:T.glob x=some (.int j tk)):ev T (n+1) sc ρ e=some (.int j):=by subst he;exact r_0 rfl (ift hok (by rw[h];exact ift hk (Aan hg rfl)))
noncomputable def Asw:Value→Bool
 |.int _ _=>false
 |_=>true
theorem AeW{gv:Value}(he:e=.Name x p)(hok:AbA x=true)(h:ρ.lookup x=none)(hk:sc.names.lookup x=some .globalImplicit)(hg:T.glob x=some gv)(hn:Asw gv=true):ev T (n+1) sc ρ e=some (.val gv):=by subst he;exact r_0 rfl (ift hok (by rw[h];exact ift hk (Aan hg (by cases gv<;>first|rfl|(simp [Asw] at hn)))))
theorem Aa6(he:e=.BinOp l op r p)(h1:ev T n sc ρ l=some a)(h2:ev T n sc ρ r=some b)(h3:AmM op a b=some d):ev T (n+1) sc ρ e=some d:=by subst he;exact r_0 rfl (Aan h1 (Aan h2 h3))
theorem Asx{op:UnaryOp}(he:e=.UnaryOp op l p)(h1:ev T n sc ρ l=some a)(h3:unD op a=some d):ev T (n+1) sc ρ e=some d:=by subst he;exact r_0 rfl (Aan h1 h3)
theorem Aby{op:CmpOp}{q:Bool}(he:e=.Compare l [op] [r] p)(hs:Abu r=true)(h1:ev T n sc ρ l=some a)(h2:ev T n sc ρ r=some b)(h3:AmN op a b=some q):ev T (n+1) sc ρ e=some (.bool q):=by subst he;exact r_0 rfl (Aan rfl (Aan rfl (ift hs (Aan h1 (Aan h2 (Aan h3 rfl))))))
theorem Asy(he:e=.IfExp t l r p)(h1:Aa9 (ev T n sc ρ) t=some true)(h2:ev T n sc ρ l=some d):ev T (n+1) sc ρ e=some d:=by subst he;exact r_0 rfl (Aan h1 h2)
theorem Asz(he:e=.IfExp t l r p)(h1:Aa9 (ev T n sc ρ) t=some false)(h2:ev T n sc ρ r=some d):ev T (n+1) sc ρ e=some d:=by subst he;exact r_0 rfl (Aan h1 h2)
theorem Afg{es:List Expr}{k:Nat}{ds:List D}(he:e=.Tuple es k p)(h:evL (ev T n sc ρ) es=some ds)(hl:ds.length≤1000000):ev T (n+1) sc ρ e=some (.tup ds):=by subst he;exact r_0 rfl (Aan h (ift hl rfl))
theorem AgO{es:List Expr}{ds:List D}(he:e=.List es p)(h:evL (ev T n sc ρ) es=some ds)(hl:ds.length≤1000000):ev T (n+1) sc ρ e=some (.list ds):=by subst he;exact r_0 rfl (Aan h (ift hl rfl))
theorem Aam{es:List Expr}{E:Expr→Option D}(he:es=[]):evL E es=some []:=by subst he;rfl
theorem ABJ{es es':List Expr}{E:Expr→Option D}{ds:List D}(he:es=e :: es')(hn:Abt e=true)(h1:E e=some d)(h2:evL E es'=some ds):evL E es=some (d :: ds):=by subst he;exact ift hn (Aan h1 (Aan h2 rfl))
theorem AaK(he:e=.Subscript v i p)(hn:AeO i=true)(h1:ev T n sc ρ v=some a)(h2:ev T n sc ρ i=some b)(h3:Adw a b=some d):ev T (n+1) sc ρ e=some d:=by subst he;exact r_0 rfl (AAS ((if_pos hn).trans (Aan h1 (Aan h2 h3))))
theorem AdX{lo hi st:Option Expr}{q:Pos}{i1 i2 i3:Option Int}(he:e=.Subscript v (.Slice lo hi st q) p)(h1:ev T n sc ρ v=some a)(h2:Akx (ev T n sc ρ) lo=some i1)(h3:Akx (ev T n sc ρ) hi=some i2)(h4:Akx (ev T n sc ρ) st=some i3)
  (h5:Afs a i1 i2 i3=some d):ev T (n+1) sc ρ e=some d:=by
 subst he;exact r_0 rfl (AAS (show Ari (ev T n sc ρ) v (.Slice lo hi st q)=some d from Aan h1 (Aan h2 (Aan h3 (Aan h4 h5)))))
theorem AbS{E:Expr→Option D}{oe:Option Expr}(he:oe=none):Akx E oe=some none:=by subst he;rfl
theorem AeX{E:Expr→Option D}{oe:Option Expr}{j:Int}(he:oe=some e)(h:E e=some (.int j)):Akx E oe=some (some j):=by subst he;exact congrArg (fun o=>match o with|some (D.int i)=>some (some i)|_=>none) h
theorem AiU{args:List Expr}{q:Pos}{fv:Value}{F:List D→Option D}{ds:List D}(he:e=.Call (.Name f q) args [] p)(hs:T.spec sc ρ e=none)(h1:ev T n sc ρ (.Name f q)=some (.val fv))(h2:T.app fv=some F)(h3:evL (ev T n sc ρ) args=some ds)(h4:F ds=some d):ev T (n+1) sc ρ e=some d:=by refine AFr hs ?_;subst he;exact Aan h1 (Aan rfl (Aan h2 (Aan h3 h4)))
theorem AsA{b:Bool}{α:Type}{x:Option α}{r:α}(h:cond b x none=some r):b=true∧x=some r:=by
 cases b with
 |true=>exact⟨rfl,h⟩
 |false=>cases h
noncomputable def nmE(T:Tb)(sc:Scope)(ρ:Rho)(e:Expr):Option D:=cond (Adu e) (AxX T sc ρ (ep e).x) none
theorem Aai(h:nmE T sc ρ e=some d):ev T (n+1) sc ρ e=some d:=by refine Aaz (AsA h) fun h1 h2=>?_;rw[AgB h1];exact r_0 rfl h2
noncomputable def csE:List Expr→Option (Expr×List Expr)
 |[]=>none
 |e :: es=>cond (Abt e) (some (e,es)) none
theorem Aax{es es':List Expr}{E:Expr→Option D}{ds:List D}(h:csE es=some (e,es'))(h1:E e=some d)(h2:evL E es'=some ds):evL E es=some (d :: ds):=by
 cases es with
 |nil=>cases h
 |cons y ys=>
  refine Aaz (AsA h) fun hn h=>?_
  cases h
  exact ABJ rfl hn h1 h2
theorem ABK(h:Nat.beq (Agz e) 11=true):e=.Call (ep e).a (ep e).l (ep e).k (ep e).p:=by
 revert h;induction e using Expr.casesOn<;>first|exact fun _=>rfl|exact Bool.noConfusion
noncomputable def fnG(T:Tb)(sc:Scope)(ρ:Rho)(f:Str):Option (List D→Option D):=cond (AbA f && ((ρ.lookup f).isNone && decide (sc.names.lookup f=some .globalImplicit))) ((T.glob f).bind fun v=>cond (Asw v) (T.app v) none) none
theorem ABL{f:Str}{F:List D→Option D}(h:fnG T sc ρ f=some F):∃ fv,(∀ q:Pos,ev T (n+1) sc ρ (.Name f q)=some (.val fv))∧T.app fv=some F:=by refine Aaz (AsA h) fun h1 h2=>?_;refine Aab (Aag h2) fun v e1 e2=>?_;refine Aaz (AsA e2) fun e3 e4=>?_;rw[Bool.and_eq_true_iff,Bool.and_eq_true_iff] at h1;exact⟨v,fun q=>AeW rfl h1.1 (Option.isNone_iff_eq_none.mp h1.2.1) (of_decide_eq_true h1.2.2) e1 e3,e4⟩
noncomputable def cgE(T:Tb)(sc:Scope)(ρ:Rho)(e:Expr):Option ((List D→Option D)×List Expr):=
 cond (Nat.beq (Agz e) 11 && (Adu (ep e).a && ((ep e).k.isEmpty && (T.spec sc ρ e).isNone))) ((fnG T sc ρ (ep (ep e).a).x).bind fun F=>some (F,(ep e).l)) none
theorem Abs{args:List Expr}{F:List D→Option D}{ds:List D}(h:cgE T sc ρ e=some (F,args))(h3:evL (ev T (n+1) sc ρ) args=some ds)(h4:F ds=some d):ev T (n+2) sc ρ e=some d:=by
 refine Aaz (AsA h) fun h1 h2=>?_;rw[Bool.and_eq_true_iff,Bool.and_eq_true_iff,Bool.and_eq_true_iff] at h1;refine Aab (Aag h2) fun F' e1 e2=>?_
 cases e2
 refine Aab (ABL (n:=n) e1) fun v e3 e4=>?_;have q:=ABK h1.1;rw[AgB h1.2.1,List.isEmpty_iff.mp h1.2.2.1] at q;exact AiU q (Option.isNone_iff_eq_none.mp h1.2.2.2) (e3 _) e4 h3 h4
theorem AsB(hc:Ahw e=true)(hs:T.spec sc ρ e=some d):ev T (n+1) sc ρ e=some d:=by show AeV T (ev T n) sc ρ e=some d;unfold AeV;rw[if_pos hc,hs]
theorem Adn{args:List Expr}{F:List D→Option D}{ds:List D}{ty id:String}(he:e=.Call (.Attribute o name apos) args [] p)(hs:T.spec sc ρ e=none)(hc:Aks o=true∧(apos.endLine == p.line)=true∧args.length<29)(h1:ev T n sc ρ o=some a)(ht:tyD a=some ty)(hm:T.meth ty name=some id)
  (h2:T.app (.builtin id)=some F) (h3:evL (ev T n sc ρ) args=some ds) (h4:F (a :: ds)=some d):ev T (n+1) sc ρ e=some d:=by
 refine AFr hs ?_;subst he;exact ift hc (Aan h1 (Aan ht (Aan hm (Aan h2 (Aan h3 h4)))))
theorem AaJ{E:Expr→Option D}{q:Bool}(h1:E e=some d)(h2:Ab9 d=some q):Aa9 E e=some q:=Afw h1 h2
theorem Adt(i j:Int):eqD (.int i) (.int j)=some (decide (i=j)):=by exact Aan rfl (Aan rfl (ift ⟨by rfl,by rfl,by simp [PyData.depth]⟩ rfl))
theorem AsC{i j:Int}(h:i=j):AmN .Eq (.int i) (.int j)=some true:=by unfold AmN;rw[Adt,decide_eq_true h]
theorem Al9{i j:Int}(h:i≠j):AmN .Eq (.int i) (.int j)=some false:=by unfold AmN;rw[Adt,decide_eq_false h]
theorem Axr{i j:Int}(h:i<j):AmN .Lt (.int i) (.int j)=some true:=congrArg some (decide_eq_true h)
theorem Ama{i j:Int}(h:¬ i<j):AmN .Lt (.int i) (.int j)=some false:=congrArg some (decide_eq_false h)
theorem ABM{i j:Int}(h:i≤j):AmN .LtE (.int i) (.int j)=some true:=congrArg some (decide_eq_true h)
theorem Ak7{i j:Int}(h:0≤j):AmM .RShift (.int i) (.int j)=some (.int (i.fdiv (2 ^ j.toNat))):=if_pos h
theorem Ak8{i j:Int}(h:0≤j∧j≤1000000∧i.natAbs<2 ^ 64):AmM .LShift (.int i) (.int j)=some (.int (i*2 ^ j.toNat)):=if_pos h
theorem AsD{i j:Int}(h:i.natAbs<2 ^ 64∧j.natAbs<2 ^ 64):AmM .Mult (.int i) (.int j)=some (.int (i*j)):=if_pos h
theorem AsE{i j:Int}(h:j≠0∧j.natAbs<1073741824):AmM .FloorDiv (.int i) (.int j)=some (.int (i.fdiv j)):=if_pos h
theorem Afh{i j:Int}(h:j≠0):AmM .Mod (.int i) (.int j)=some (.int (i.fmod j)):=if_pos h
theorem Aek{l:List D}{j:Int}(h0:0≤j)(hs:l.length≤1000000)(h:l[j.toNat]?=some d):Adw (.list l) (.int j)=some d:=by refine(if_pos ⟨Int.le_trans (Int.neg_nonpos_of_nonneg (Int.natCast_nonneg _)) h0,hs⟩).trans ?_;unfold Aw5;rw[if_neg (Int.not_lt.mpr h0)];exact h
end
section
variable{X:Rho→Stmt→Option Res}{E:Rho→Expr→Option D}{own:List Str}{sc:Scope}{m:Nat}{ρ ρ':Rho}{body rest b1 b2:List Stmt}{st:Stmt}{e t:Expr}{p q:Pos}{d:D}{r:Res}{x:Str}
theorem Aoo{r1:Res}(hb:body=st :: rest)(hx:X ρ st=none)(h:An7 E own sc m (ex X E own sc m) ρ st=some r1)(hr:AFn (fun ρ'=>ex X E own sc m ρ' rest) r1=some r):ex X E own sc (m+1) ρ body=some r:=by subst hb;show(orR (X ρ st) _).bind _=_;rw[hx];exact Aan h hr
theorem Ab4(hb:body=[]):ex X E own sc (m+1) ρ body=some (.next ρ):=by subst hb;rfl
theorem Aco(hb:body=.Return (some e) p :: rest)(hx:X ρ (.Return (some e) p)=none)(h:E ρ e=some d):ex X E own sc (m+1) ρ body=some (.ret d):=by exact Aoo hb hx (Aan h rfl) rfl
theorem AcE(hb:body=.Assign [.Name x q] e p :: rest)(hx:X ρ (.Assign [.Name x q] e p)=none)(hc:AgA e=false∨ADQ e=true)(h:E ρ e=some d)(ht:okT own sc x=true)(h2:ex X E own sc m ((x,d) :: ρ) rest=some r):ex X E own sc (m+1) ρ body=some r:=by exact Aoo hb hx (Aan h (ift (.inl ⟨rfl,hc⟩) (Aan (if_pos ht) rfl))) h2
theorem Akd(hb:body=.If t b1 b2 p :: rest)(hx:X ρ (.If t b1 b2 p)=none)(h:Aa9 (E ρ) t=some true)(h2:ex X E own sc m ρ b1=some (.ret d)):ex X E own sc (m+1) ρ body=some (.ret d):=by exact Aoo hb hx (Aan h h2) rfl
theorem AsF(hb:body=.If t b1 b2 p :: rest)(hx:X ρ (.If t b1 b2 p)=none)(h:Aa9 (E ρ) t=some true)(h2:ex X E own sc m ρ b1=some (.next ρ'))(h3:ex X E own sc m ρ' rest=some r):ex X E own sc (m+1) ρ body=some r:=by exact Aoo hb hx (Aan h h2) h3
theorem AcF(hb:body=.If t b1 b2 p :: rest)(hx:X ρ (.If t b1 b2 p)=none)(h:Aa9 (E ρ) t=some false)(h2:ex X E own sc m ρ b2=some (.next ρ'))(h3:ex X E own sc m ρ' rest=some r):ex X E own sc (m+1) ρ body=some r:=by exact Aoo hb hx (Aan h h2) h3
theorem AeG(hb:body=.If t b1 b2 p :: rest)(hx:X ρ (.If t b1 b2 p)=none)(h:Aa9 (E ρ) t=some false)(h2:ex X E own sc m ρ b2=some (.ret d)):ex X E own sc (m+1) ρ body=some (.ret d):=by exact Aoo hb hx (Aan h h2) rfl
theorem AyK{es:List Expr}{k:Nat}{ds:List D}(hb:body=.Assign [.Tuple es k q] e p :: rest)(hx:X ρ (.Assign [.Tuple es k q] e p)=none)(hc:AgA e=false∧AxU e=false)(h:E ρ e=some (.tup ds))(ht:Aj2 own sc es ds ρ=some ρ')(h2:ex X E own sc m ρ' rest=some r):ex X E own sc (m+1) ρ body=some r:=by exact Aoo hb hx (Aan h (ift (.inr (.inl ⟨rfl,hc⟩)) (Aan ht rfl))) h2
theorem ABN{es:List Expr}{k:Nat}{ds:List D}(hb:body=.Assign [.Tuple es k q] e p :: rest)(hx:X ρ (.Assign [.Tuple es k q] e p)=none)(hc:Ax4 sc (.Tuple es k q) e=true)(h:E ρ e=some (.tup ds))(ht:Aj2 own sc es ds ρ=some ρ')(h2:ex X E own sc m ρ' rest=some r):ex X E own sc (m+1) ρ body=some r:=by exact Aoo hb hx (Aan h (ift (.inr (.inr hc)) (Aan ht rfl))) h2
end
end Mine
namespace Mine
open PySem PySem.W PyProof.Rows PySem.W.X
noncomputable def AFs(P:Prop):Prop:=P
theorem ABO{P:Prop}(h:AFs P):P:=h
structure ABP(B:Bs):Prop where
 bc:B.mb "__build_class__"=some (.builtin "__build_class__")
 obj:B.look "object"=some (.type "object")
 nm:∃ m,B.mg "__name__"=some m
 sys:∃ o,B.G.get? sysModules=some o
 st:∃ mc,B.G.Ns cStatics mc∧mc "thirdparty.any"=none
section
variable{B:Bs}{A:Around}{names:Nat→Nat→Str}{tabs:List (Addr×Addr)}{s₀ s s':Shared}{g₀ g g':Gh}{N:Addr}{es es':List DictEntry}{n n':Nat}{R R':List (Addr×Addr)}
theorem AsG(O:B.Ok)(hb:Aw9 B)(TT:Arv B names tabs)(hc:ABP B)(I:Inv B s g){env:Env}{c P cm:Addr}{pos:Pos}(hcode:env.code=.ref c)(hm:(c,P)∈tabs)(hge:env.globals=mainGlobals)(hbe:env.builtins=builtinsNs)
  (hcl:closureFor AfA env=pure [(("mycmp":Str),cm)]) (hkn:names pos.line pos.col = "cmp_to_key.<locals>.K") {m:Value} (hnm:B.mg "__name__"=some m) (hdepth:A.depth<recursionLimit)
  (hn:∀ (i:Nat) (x:Str),(i,x)∈[(2,("__init__":Str)),(3,"__lt__"),(4,"__gt__"),(5,"__eq__"),(6,"__le__"),(7,"__ge__")]→names (Ajl i).line (Ajl i).col = "cmp_to_key.<locals>.K."++x)
  {mc:Str→Option Value} (hmc:B.G.Ns cStatics mc) (hno:mc "thirdparty.any"=none)
  {Q:Value→Shared→Prop} {E:Value→Shared→Prop} (hq:∀ aC s' g',Aae B s g s' g'→IsK B.w s.heap s' g' cm aC→Q (.ref aC) s') :
  wpAny B.M A (buildClass "K" "cmp_to_key.<locals>.K" [.type "object"] [] (Aac kSt) AfA ["obj"] pos.line env pos none) Q E s:=by
 have k1:(AfA.names.lookup ("__class__":Str) == some NameKind.cell)=false:=by kernel_rfl!
 have k2:(AfA.names.lookup ("__classdict__":Str) == some NameKind.cell)=false:=by kernel_rfl!
 unfold buildClass;refine wpAny_bind (wpAny_newTuple ?_ (Nat.le_of_ble_eq_true rfl));have x1:=Aae.alloc (o:={cls:=.type "tuple",data:=.seq [Value.type "object"].toArray}) O I rfl (Aal rfl);have hb1:=Gh.put_self g s.heap.objs.size {cls:=.type "tuple",data:=.seq [Value.type "object"].toArray};generalize hs1:({s with heap:=s.heap.push {cls:=.type "tuple",data:=.seq [Value.type "object"].toArray}}:Shared)=s1 at x1;generalize hg1:g.put s.heap.objs.size {cls:=.type "tuple",data:=.seq [Value.type "object"].toArray}=g1 at x1 hb1;generalize s.heap.objs.size=b at hb1
 obtain⟨h,gg,d,t,os⟩:=s1
 repeat (first
  |with_reducible (first|refine Ab0 AlS ?_|refine Ab0 Aog ?_|refine Ab0 ArV ?_)
  |(with_reducible refine ArZ _ _ _ _ _ _ _ _ _ (fun p h1 t1 D1=>?_))
  |((with_reducible show wpAny _ _ (call (.ref _) [.str _ _,.ref _] _) _ _ _);refine wpAny_mono (ArY B.prog B.w _ h1 gg d _ os _ _ _ (D1.at 0 _ _ rfl)) (fun v s' hv=>?_) (fun _ _ hv=>hv.elim);rcases hv with @⟨N,h2,t2,D2⟩;
       have x2:=x1.trans ((Aae.mem O x1.inv D1 (t':=t1)).trans (Aae.mem O (Aae.mem O x1.inv D1 (t':=t1)).inv D2 (t':=t2)));
       have y1:=x1.trans (Aae.mem O x1.inv D1 (t':=t1));
       have y2:=Aae.mem O (Aae.mem O x1.inv D1 (t':=t1)).inv D2 (t':=t2);
       have hN2:=D2.at 0 _ _ rfl;
       have hNn:h1.get? N=none:=(D2.nw _ (.head _)).2;
       have hT:(⟨h2,gg,d,t2,os⟩:Shared).TypeIs (.ref N) "dict":=⟨_,hN2,rfl⟩;
       have hlk:=Af2;
       have hsm:(N == sysModules)=false:=(by
         refine Abm hc.sys fun o ho=>?_;have:=Aa8 D1 _ _ (x1.inv.real _ _ (x1.inv.base _ _ ho));exact beq_eq_false_iff_ne.mpr fun e=>by subst e;rw[hNn] at this;exact Aah this))
  |((with_reducible show wpAny _ _ (classCode _ _ _ _ _ _) _ _ _);refine Aab ((TT _).mp x2.inv.tb) fun R2 hR2 X2=>?_;refine Ajm TT x2.inv hR2 X2 hcode (hR2 _ hm) hkn (fun cK PK oK s3 R3 x3 X3 hR3 hmK f1 f2 f3=>?_);refine ABO ?_)
  |(with_reducible apply wpAny_ite_false;focus (first|exact hsm|exact k1|exact k2))
  |wp_step)
 unfold AFs;have x3':=x2.trans x3;have hg3:=x3'.inv.ns O.g;refine AFa hb fun bm ob b1 b2 b3 b4 b5 b6=>?_;rw[hge,hbe];refine wpAny_bind (wpAny_builtinsFor hg3 b1 b2 (x3'.inv.real _ _ (x3'.inv.base _ _ b3)) b4 b5 b6 ?_);unfold newBodyFrame;refine wpAny_bind (wpAny_bind (wpAny_nsGet hg3 (wpAny_alloc ?_)));rw[hcl];refine wpAny_bind (wpAny_pure ?_);refine wpAny_holding ?_;have hgN:g1 N=none:=by
  cases e:g1 N with
  |none=>rfl
  |some o=>have:=y1.inv.real _ _ e;rw[hNn] at this;exact Aah this
 have x4:=fun o=>Aae.open (o:=o) O x3.inv;have C4:=fun o=>CB.mk (s₀:=⟨h1,gg,d,t1,os⟩) (g₀:=g1) (N:=N) (tabs:=tabs) (y2.trans (x3.trans (x4 o))) (fun q hq=>hR3 q (hR2 q hq)) (X3.keeps fun a o' e _=>Heap.get?_push_of_some _ e) ((x3.trans (x4 o)).ext.keep _ _ hN2 Aj9) ⟨hNn,hgN⟩;have hlim:∀ o,(⟨s3.heap.push o,s3.gens,s3.drawn,s3.toks,s3.os⟩:Shared).heap.NoLimit:=fun o=>by
  refine Aab O.lim fun mc hmc hno=>?_;exact⟨mc,(C4 o).st.inv.ns hmc,hno⟩
 refine wpAny_bind (wpAny_enterFrame (hlim _) hdepth ?_);rw[kq];refine wpAny_bind (wpAny_onRaise ?_);refine AuC O (C4 _) hnm pos.line (fun t0 t1 t2 u0 u1 u2 s5 C5 q5=>?_);refine wpAny_bind (wpAny_run (codeAny_body AEd AEe (Auz O ⟨bm,ob,b1,b2,b3,b4,b5,b6⟩ TT C5 hmK hn fun u0 v0 t3 sl t4 f0 t5 f1 t6 f2 t7 f3 t8 f4 t9 f5 t10 s6 g6 R6 C6 q6 hsl k0 k1 k2 k3 k4 k5=>?_)) (by intro x;exact Aah x));refine wpAny_bind (wpAny_onRaise ?_);refine AuD O C6 fun st v1 t11 s7 g7 C7 q7 hst=>?_
 first
  |refine wpAny_ite_false rfl ?_
  |(apply wpAny_ite_false;focus rfl)
  |skip
 refine wpAny_bind (AuE O C7 (q7.1 _ _ (q6.1 _ _ (x3.le _ _ hb1))) (q7.1 _ _ hsl) hst (k0.keepN C6.ns q7) (k1.keepN C6.ns q7) (k2.keepN C6.ns q7) (k3.keepN C6.ns q7) (k4.keepN C6.ns q7) (k5.keepN C6.ns q7) hsm hmc hno fun aC s8 x8 k=>?_)
 first
  |exact wpAny_pure (hq _ _ _ ((y1.trans C7.st).trans x8) (k.old (y1.trans C7.st).ext))
  |fail
end
noncomputable def Ak9(p:Params)(x:Str):Option Value:=match nsIn (hpL p) mainGlobals x with
 |some (some v)=>some v
 |some none=>if x == "__name__" then none else bootBuiltins x
 |none=>none
noncomputable def Axs:List (Str×Value):=[("len",.builtin "len"),("range",.type "range"),("sum",.builtin "sum"),("divmod",.builtin "divmod"),("iter",.builtin "iter"),("all",.builtin "all"),("min",.builtin "min"),("max",.builtin "max"),("sorted",.builtin "sorted"),
 ("type",.type "type"),("isinstance",.builtin "isinstance"),("issubclass",.builtin "issubclass"),("str",.type "str"),("bytes",.type "bytes"),("tuple",.type "tuple"),("map",.type "map"),("enumerate",.type "enumerate"),("reversed",.type "reversed"),("object",.type "object"),
 ("ZeroDivisionError",.type "ZeroDivisionError"),
 ("_div2n1n",.ref AcB),("_int2digits",.ref Ac5),("_digits2int",.ref Ade),("_divmod_pos",.ref AdR),("int_divmod",.ref Ac6),("cmp_to_key",.ref Adr),("reduce",.ref Ab3),("fspath",.ref AdV),("_get_sep",.ref Aem),("join",.ref AeC),("split",.ref Aen),("commonpath",.ref AeD)]
theorem Ant(p:Params):Axs.all (fun q=>Ak9 p q.1 == some q.2)=true:=by kernel_rfl!
structure LW(B:Bs):Prop where
 O:B.Ok
 bm:Aw9 B
 TT:Arv B Ac8 tabsL
 G:GOk (hpL B.w.params) tabA B
 gl:∀ x v,Ak9 B.w.params x=some v→B.look x=some v
 cls:ABP B
theorem Abr{B:Bs}(W:LW B)(x:Str)(v:Value)(h:Axs.lookup x=some v):B.look x=some v:=by refine W.gl x v ?_;have:=List.all_eq_true.mp (Ant B.w.params) _ (PySem.mem_of_lookup h);exact eq_of_beq this
noncomputable def mkT(app:Value→Option (List D→Option D))(meth:String→Str→Option String):Tb:=⟨fun x=>Axs.lookup x,app,meth,fun _ _ _=>none,fun _ _ _ _=>none⟩
noncomputable def ABQ:List (String×Str×String):=[("str","startswith","str.startswith"),("str","endswith","str.endswith"),("str","rfind","str.rfind"),("str","rstrip","str.rstrip"),("str","strip","str.strip"),("str","split","str.split"),("str","join","str.join"),("int","bit_length","int.bit_length")]
noncomputable def Abv(ty:String)(x:Str):Option String:=(ABQ.find? fun p=>p.1 == ty && p.2.1 == x).map (·.2.2)
theorem Avj:∀ p∈ABQ,PlainAttrs p.1∧Slot p.1 p.2.1 p.2.2∧typeOf (.builtin p.2.2)=pure (.type "method_descriptor"):=
 List.forall_mem_cons.mpr ⟨⟨F.plainAttrs_str,F.slot_str_startswith,F.type_str_startswith⟩,List.forall_mem_cons.mpr ⟨⟨F.plainAttrs_str,F.slot_str_endswith,F.type_str_endswith⟩,List.forall_mem_cons.mpr ⟨⟨F.plainAttrs_str,F.slot_str_rfind,F.type_str_rfind⟩,List.forall_mem_cons.mpr ⟨⟨F.plainAttrs_str,F.slot_str_rstrip,F.type_str_rstrip⟩,List.forall_mem_cons.mpr ⟨⟨F.plainAttrs_str,F.slot_str_strip,F.type_str_strip⟩,List.forall_mem_cons.mpr ⟨⟨F.plainAttrs_str,F.slot_str_split,F.type_str_split⟩,List.forall_mem_cons.mpr ⟨⟨F.plainAttrs_str,F.slot_str_join,F.type_str_join⟩,List.forall_mem_cons.mpr ⟨⟨F.plainAttrs_int,F.slot_int_bit_length,F.type_int_bit_length⟩,fun _ h=>nomatch h⟩⟩⟩⟩⟩⟩⟩⟩
theorem AeH(ty:String)(nm:Str)(id:String)(h:Abv ty nm=some id):PlainAttrs ty∧Slot ty nm id∧typeOf (.builtin id)=pure (.type "method_descriptor"):=by refine Aab (Option.map_eq_some_iff.mp h) fun p hp he=>?_;have hq:=List.find?_some hp;have hb:=Bool.and_eq_true_iff.mp (show(p.1 == ty && p.2.1 == nm)=true from hq);have hm:=Avj p (List.mem_of_find?_eq_some hp);rw[eq_of_beq hb.1,eq_of_beq hb.2,he] at hm;exact hm
theorem Amb{B:Bs}(W:LW B){n:Nat}{app:Value→Option (List D→Option D)}{s:Shared}{g:Gh}(h:∀ v F,app v=some F→AmO B n s g v F):AbO B n (mkT app Abv) s g where
 glob:=Abr W
 app:=h
 spec:=fun _ _ _ _ _ _ _ _ _ e=>by exact Aah e
 stm:=fun _ _ _ _ _ _ _ _ _ _ _ _ e=>by exact Aah e
 meth:=AeH
theorem AbE{B:Bs}(W:LW B){n:Nat}{app:Value→Option (List D→Option D)}(h:∀ v F,app v=some F→Abw B n v F)(s:Shared)(g:Gh)(I:Inv B s g):AbO B n (mkT app Abv) s g:=Amb W fun v F e=>(h v F e).at I
theorem al{α:Type}{P:α→Prop}{a:α}{l:List α}(h:P a)(t:∀ x∈l,P x):∀ x∈a :: l,P x:=List.forall_mem_cons.2 ⟨h,t⟩
theorem an{α:Type}{P:α→Prop}:∀ x∈([]:List α),P x:=fun _ h=>absurd h List.not_mem_nil
noncomputable def Aba(n:Nat):List Int→Int
 |[]=>0
 |x :: xs=>x+2 ^ n*Aba n xs
theorem AFX{L R M:Int}(hM:(L+R) / 2=M):2*M≤L+R∧L+R<2*M+2:=hM ▸ ⟨Int.mul_ediv_self_le (by decide),Int.lt_mul_ediv_self_add (by decide)⟩
theorem Amc{L R M N P:Int}(h0:0≤L)(h:L<R)(hc:¬ L+1=R)(hM:(L+R) / 2=M)(hR:R≤N)(hP:R - L≤2*P) :
  L<M∧M<R∧0≤M∧M≤N∧0≤M - L∧M - L≤N∧M - L≤P∧R - M≤P:=by
 refine Aaz (AFX hM) fun a b=>?_;have c:L+1<R:=Int.lt_iff_le_and_ne.mpr ⟨h,hc⟩;have m1:L<M:=by omega
 have m2:M<R:=by omega
 exact⟨m1,m2,Int.le_trans h0 (Int.le_of_lt m1),Int.le_trans (Int.le_of_lt m2) hR,Int.sub_nonneg_of_le (Int.le_of_lt m1),Int.le_trans (Int.sub_le_self M h0) (Int.le_trans (Int.le_of_lt m2) hR),by omega,by omega⟩
theorem AFY{x:Int}{n:Nat}(h0:0≤x)(h:x≤n):x.natAbs≤n:=by omega
theorem nab{x:Int}{n:Nat}(h0:0≤x)(h:x≤n)(hn:n≤1000):x.natAbs<2 ^ 64:=
 Nat.lt_of_le_of_lt (AFY h0 h) (Nat.lt_of_le_of_lt hn (by decide))
theorem AyL{x:Int}(h0:0≤x)(h:x<2 ^ 60):x.natAbs<2 ^ 64:=by
 have p:(2:Int) ^ 60=1152921504606846976:=by decide
 have q:(2:Nat) ^ 64=18446744073709551616:=by decide
 omega
theorem tn1{L M R:Int}(h1:L≤M)(h2:M≤R):(R - L).toNat=(M - L).toNat+(R - M).toNat:=by rw[← Int.toNat_add (Int.sub_nonneg_of_le h1) (Int.sub_nonneg_of_le h2)];exact congrArg Int.toNat (by omega)
theorem tn2{L M:Int}(h0:0≤L)(h:L≤M):M.toNat=L.toNat+(M - L).toNat:=by rw[← Int.toNat_add h0 (Int.sub_nonneg_of_le h)];exact congrArg Int.toNat (by omega)
theorem tn3{L M R:Int}{n:Nat}(h0:0≤L)(h1:L≤M)(h2:M≤R)(h3:R≤n):min (M - L).toNat (n - L.toNat)=(M - L).toNat:=by refine Nat.min_eq_left (Nat.le_sub_of_add_le ?_);rw[Nat.add_comm,← tn2 h0 h1];exact Int.toNat_le.mpr (Int.le_trans h2 h3)
theorem AdY(n:Nat):∀ (xs ys:List Int),Aba n (xs++ys)=Aba n xs+2 ^ (n*xs.length)*Aba n ys
 |[],ys=>by simp [Aba]
 |x :: xs,ys=>by
  have e:n*(x :: xs).length=n+n*xs.length:=by rw[List.length_cons,Nat.mul_succ,Nat.add_comm]
  rw[List.cons_append,Aba,AdY n xs ys,Aba,e,Int.pow_add,Int.mul_add,← Int.mul_assoc];exact(Int.add_assoc ..).symm
theorem AgP(n:Nat):∀ (xs:List Int),(∀ x∈xs,0≤x∧x<2 ^ n)→0≤Aba n xs∧Aba n xs<2 ^ (n*xs.length)
 |[],_=>by simp [Aba]
 |x :: xs,h=>by
  refine Aaz (h x (.head _)) fun h1 h2=>?_;refine Aaz (AgP n xs fun y hy=>h y (.tail _ hy)) fun h3 h4=>?_;have e:n*(x :: xs).length=n+n*xs.length:=by rw[List.length_cons,Nat.mul_succ,Nat.add_comm]
  have hp:(0:Int)<2 ^ n:=Int.pow_pos (by decide);rw[Aba,e,Int.pow_add];refine⟨Int.add_nonneg h1 (Int.mul_nonneg (Int.le_of_lt hp) h3),?_⟩;have:(2:Int) ^ n*(Aba n xs+1)≤2 ^ n*2 ^ (n*xs.length):=Int.mul_le_mul_of_nonneg_left (Int.add_one_le_of_lt h4) (Int.le_of_lt hp);rw[Int.mul_add,Int.mul_one] at this;rw[Int.add_comm x];exact Int.lt_of_lt_of_le (Int.add_lt_add_left h2 _) this
noncomputable def dSt:Stmt:=(AyC[0]?).getD AbJ
noncomputable def Axt:Stmt:=(AyC[1]?).getD AbJ
noncomputable def dSc:Scope:=Aad dSt
noncomputable def AyM:List Stmt:=Aac dSt
noncomputable def Aqt:Arguments:=Aq7 dSt
theorem Avk:AyC=[dSt,Axt]:=by kernel_rfl!
theorem ABR:dSt=.FunctionDef "inner" Aqt AyM [] none [] dSc none "inner" (Abf dSt):=by kernel_rfl!
theorem Avl:Aqt={posonlyargs:=[],args:=Aqt.args,vararg:=none,kwonlyargs:=[],kw_defaults:=[],kwarg:=none,defaults:=[]}:=by kernel_rfl!
theorem AyN(e:Env):annotationsOf (Aqt.args++[]++[]++[]++[]) e=[]:=by kernel_rfl!
theorem Ala:Ads dSc AyD=true:=by kernel_rfl!
theorem AyO:okT (Aak AyD.names) AyD "inner"=true:=by kernel_rfl!
theorem Ake:∀ (fd:FuncData) (a b:Value),fd.params=Aqt→fd.defaults=.none→fd.kwdefaults=.none→bindArgs fd ⟨[a,b],[]⟩=pure [(("L":Str),a),("R",b)]:=by
 intro q1;obtain⟨nm,qn,pr,bd,sc,gl,cl,df,kd,dc,pm,an,cd,ct,bt⟩:=q1;intro a b h1 h2 h3;simp only at h1 h2 h3;subst h1 h2 h3
 kernel_rfl!
theorem AsH:Ac4 dSc ["L","R"]=true:=by kernel_rfl!
theorem AsI(v a b:D):Aa7 dSc [(("inner":Str),v),(("n":Str),b),(("digits":Str),a)]=[(("inner":Str),v),(("n":Str),b),(("digits":Str),a)]:=by kernel_rfl!
theorem AyP:okT (Aak dSc.names) dSc "mid"=true:=by kernel_rfl!
theorem AyQ:okT (Aak dSc.names) dSc "shift"=true:=by kernel_rfl!
noncomputable def ABS(xs:List Int)(nn d:Nat):List D→Option D:=fn2 fun x y=>Acf x fun l=>Acf y fun r=>
 if 0≤l∧l<r∧r≤xs.length∧r - l≤2 ^ d then some (.int (Aba nn ((xs.drop l.toNat).take (r - l).toNat))) else none
noncomputable def AFZ(a:Addr)(l:List D)(nn:Nat)(L R:Int):Rho:=[(("R":Str),.int R),(("L":Str),.int L),(("inner":Str),.val (.ref a)),(("n":Str),.int nn),(("digits":Str),.list l)]
theorem Axu{xs:List Int}{l:List D}(h:l=xs.map D.int){i:Nat}(hi:i<xs.length):l[i]?=some (.int xs[i]):=by subst h;simp [hi]
theorem Aop{a:Addr}{xs:List Int}{l:List D}{nn d:Nat}(hl:l=xs.map D.int)(hb:∀ x∈xs,0≤x∧x<2 ^ nn)(hsz:nn*xs.length≤60)(hlen:xs.length≤1000)(hnn:nn≤1000){F:List D→Option D}(hF:d≠0→F=ABS xs nn (d - 1)){L R:Int}
  (h:0≤L∧L<R∧R≤xs.length∧R - L≤2 ^ d) :
  ex ((mkT (Aom a F) Abv).stm (Aak dSc.names) dSc) (ev (mkT (Aom a F) Abv) 8 dSc) (Aak dSc.names) dSc 8 (AFZ a l nn L R) AyM=some (.ret (.int (Aba nn ((xs.drop L.toNat).take (R - L).toNat)))):=by
 refine AoR h fun h1 h2 h3 h4=>?_;have hll:l.length=xs.length:=by rw[hl];simp
 by_cases hc:L+1=R
 ·have e1:(R - L).toNat=1:=by rw[← hc,Int.add_comm,Int.add_sub_cancel];rfl
  have hi:L.toNat<xs.length:=(Int.toNat_lt h1).mpr (Int.lt_of_lt_of_le h2 h3);have e2:Aba nn ((xs.drop L.toNat).take (R - L).toNat)=xs[L.toNat]:=by rw[e1,List.drop_eq_getElem_cons hi];show xs[L.toNat]+2 ^ nn*0=_;rw[Int.mul_zero,Int.add_zero]
  rw[e2];refine Akd rfl rfl ?_ ?_
  ·repeat (first
    |exact Aaa rfl rfl
    |exact Aai rfl
    |apply AaJ
    |apply Aa6 rfl
    |apply Aby rfl rfl
    |exact AsC hc
    |exact rfl)
  ·refine Aco rfl rfl ?_
   repeat (first
    |exact Aaa rfl rfl
    |exact Aai rfl
    |apply AaK rfl rfl
    |exact Aek h1 (by rw[hll];exact Nat.le_trans hlen (by decide)) (Axu hl hi))
 ·obtain⟨d,rfl⟩:∃ e,d=e+1:=by
   induction d using Nat.casesAuxOn with
   |zero=>exact absurd (Int.le_antisymm h2 (Int.le_add_of_sub_left_le h4)) hc
   |succ e=>exact⟨e,rfl⟩
  have hF:=hF (Nat.succ_ne_zero d);subst hF;rw[Nat.add_sub_cancel];have hp:(2:Int) ^ (d+1)=2*2 ^ d:=by rw[Int.pow_succ,Int.mul_comm]
  have hm:(L+R).fdiv (2 ^ (1:Int).toNat)=(L+R) / 2:=by rw[Int.fdiv_eq_ediv_of_nonneg _ (by decide)];rfl
  generalize hM:(L+R) / 2=M;rw[hM] at hm;refine AE8 (Amc h1 h2 hc hM h3 (hp ▸ h4)) fun m1 m2 m3 m4 m5 m6 m7 m8=>?_
  obtain⟨sh,hsh⟩:∃ sh:Nat,(M - L)*nn=sh:=⟨((M - L).toNat*nn),by rw[Int.natCast_mul,Int.toNat_of_nonneg m5]⟩
  have hsh':sh=nn*(M - L).toNat:=by
   have:((M - L).toNat:Int)*nn=sh:=by rw[Int.toNat_of_nonneg m5];exact hsh
   have:(M - L).toNat*nn=sh:=by exact_mod_cast this
   rw[← this,Nat.mul_comm]
  have hshle:sh≤60:=by rw[hsh'];exact Nat.le_trans (Nat.mul_le_mul_left _ (Int.toNat_le.mpr m6)) hsz
  have sub:∀ (i k:Nat),∀ x∈(xs.drop i).take k,0≤x∧x<2 ^ nn:=fun i k x hx=>hb x (List.mem_of_mem_drop (List.mem_of_mem_take hx));have bnd:∀ (i k:Nat),0≤Aba nn ((xs.drop i).take k)∧Aba nn ((xs.drop i).take k)<2 ^ 60:=fun i k=>by
   refine Aaz (AgP nn _ (sub i k)) fun b1 b2=>?_;refine⟨b1,Int.lt_of_lt_of_le b2 ?_⟩;have hk:nn*((xs.drop i).take k).length≤60:=Nat.le_trans (Nat.mul_le_mul_left _ (Nat.le_trans (List.length_take_le' _ _) (by rw[List.length_drop];exact Nat.sub_le _ _))) hsz;have:=Nat.pow_le_pow_right (n:=2) (by decide) hk
   exact_mod_cast this
  have split:(xs.drop L.toNat).take (R - L).toNat=(xs.drop L.toNat).take (M - L).toNat++(xs.drop M.toNat).take (R - M).toNat:=by have e1:(R - L).toNat=(M - L).toNat+(R - M).toNat:=tn1 (Int.le_of_lt m1) (Int.le_of_lt m2);have e2:M.toNat=L.toNat+(M - L).toNat:=tn2 h1 (Int.le_of_lt m1);rw[e1,List.take_add,List.drop_drop,← e2]
  have hlen':((xs.drop L.toNat).take (M - L).toNat).length=(M - L).toNat:=by rw[List.length_take,List.length_drop];exact tn3 h1 (Int.le_of_lt m1) (Int.le_of_lt m2) h3
  have f1:ABS xs nn d [.int M,.int R]=some (.int (Aba nn ((xs.drop M.toNat).take (R - M).toNat))):=if_pos ⟨m3,m2,h3,m8⟩;have f2:ABS xs nn d [.int L,.int M]=some (.int (Aba nn ((xs.drop L.toNat).take (M - L).toNat))):=if_pos ⟨h1,m1,m4,m7⟩;have fin:Aba nn ((xs.drop M.toNat).take (R - M).toNat)*2 ^ (sh:Int).toNat+Aba nn ((xs.drop L.toNat).take (M - L).toNat)=Aba nn ((xs.drop L.toNat).take (R - L).toNat):=by rw[split,AdY,hlen',← hsh',Int.toNat_natCast,Int.mul_comm,Int.add_comm]
  rw[← fin];have b60:=bnd M.toNat (R - M).toNat;have p1:(2:Nat) ^ 60=1152921504606846976:=by decide
  have p2:(2:Int) ^ 60=1152921504606846976:=by decide
  have p3:(2:Nat) ^ 64=18446744073709551616:=by decide
  refine AcF rfl rfl ?_ (Ab4 rfl) ?_
  ·repeat (first
    |exact Aaa rfl rfl
    |exact Aai rfl
    |apply AaJ
    |apply Aa6 rfl
    |apply Aby rfl rfl
    |exact Al9 hc
    |exact rfl)
  ·refine AcE (d:=.int M) rfl rfl (.inl rfl) ?_ AyP ?_
   ·rw[← hm]
    repeat (first
     |exact Aaa rfl rfl
     |exact Aai rfl
     |apply Aa6 rfl
     |exact Ak7 (by decide)
     |exact rfl)
   ·refine AcE (d:=.int sh) rfl rfl (.inl rfl) ?_ AyQ ?_
    ·rw[← hsh]
     repeat (first
      |exact Aaa rfl rfl
      |exact Aai rfl
      |apply Aa6 rfl
      |exact AsD ⟨nab m5 m6 hlen,nab (Int.natCast_nonneg _) (Int.le_refl _) hnn⟩
      |exact rfl)
    ·refine Aco rfl rfl ?_
     repeat (first
      |exact Aaa rfl rfl
      |exact Aai rfl
      |apply Aa6 rfl
      |apply AiU rfl rfl
      |exact if_pos rfl
      |apply Aax rfl
      |exact Aam rfl
      |exact f1
      |exact f2
      |exact Ak8 ⟨Int.natCast_nonneg _,Int.le_trans (Int.ofNat_le.mpr hshle) (by decide),AyL b60.1 b60.2⟩
      |exact rfl)
noncomputable def dT:Expr:=AoS (Aat Axt)
noncomputable def dC:Expr:=Aub (Aat Axt)
noncomputable def dE:Expr:=AlA (Aat Axt)
theorem AyR:Axt=.Return (some (.IfExp dT dC dE (Aat Axt).pos)) (Abf Axt):=by kernel_rfl!
theorem Avm:dC=.Call (.Name "inner" (Acw dC)) (AdF dC) [] dC.pos:=by kernel_rfl!
noncomputable def d2iD:List D→Option D:=fn2 fun x y=>Acx x fun l=>Acf y fun n=>(Ab2 l).bind fun xs=>
 if (xs.all fun x=>decide (0≤x∧x<2 ^ n.toNat))=true∧0≤n∧n.toNat*xs.length≤60∧xs.length≤64 then some (.int (Aba n.toNat xs)) else none
theorem Ags{l:List D}{xs:List Int}(h:Ab2 l=some xs):l=xs.map D.int:=by
 induction l generalizing xs with
 |nil=>exact sj h ▸ rfl
 |cons d l ih=>
  (refine Aab (Aap h) fun x q2 k1=>?_;subst q2)
  refine Aab (Aag k1) fun ys e k2=>?_;rw[← sj k2,ih e];rfl
section
variable{B:Bs}{m:Nat}
theorem AsJ(W:LW B){s:Shared}{g:Gh}{a:Addr}{fd:FuncData}{cl:List (Str×Addr)}{xs:List Int}{l:List D}{nn:Nat}(M:Af0 s.heap g a fd Aqt (.stmts AyM) dSc cl)
  (C:Ac3 s.heap g dSc.names cl [(("inner":Str),.val (.ref a)),(("n":Str),.int nn),(("digits":Str),.list l)])
  (hl:l=xs.map D.int) (hb:∀ x∈xs,0≤x∧x<2 ^ nn) (hsz:nn*xs.length≤60) (hlen:xs.length≤1000) (hnn:nn≤1000):∀ d,AmO B (m+1+d) s g (.ref a) (ABS xs nn d):=by
 intro d;induction d with
 |zero=>
  refine⟨.inr (.inr ⟨a,_,fd,rfl,M.obj,rfl⟩),fun A s2 g2 vs ds r hA x hd hr=>?_⟩;refine Ad9 (AgH hr) fun x0 y0 q1 k_1=>?_;subst q1;refine Aab (Aap k_1) fun L q1 k_2=>?_;subst q1;refine Aab (Aap k_2) fun R q1 k_3=>?_;subst q1;refine Aaz (Abg k_3) fun hc k_4=>?_;have k_4:=sj k_4;subst k_4;refine Aoc W.O (M.step x) (xs:=["L","R"]) (fun fd vs e1 e2 e3 e4=>?_) AsH (C.step x) (n:=m) hA x.inv hd rfl fun env s3 e1 e2 F=>?_
  ·exact L2 (P:=fun vs=>bindArgs fd ⟨vs,[]⟩=pure ([("L":Str),"R"].zip vs)) e4 fun u v=>Ake fd u v e1 e2 e3
  ·have e:=Aop (a:=a) (d:=0) hl hb hsz hlen hnn (F:=fun _=>none) (fun h=>absurd rfl h) hc;rw[← e1] at e F;exact Acj W.O (Amb W fun v F' e=>by
    refine Aaz (AiS e) fun q1 q2=>?_;subst q1;subst q2;refine⟨?_,fun A s g vs ds r hA x hd hr=>by exact Aah hr⟩;exact .inr (.inr ⟨_,_,fd,rfl,(M.step x).obj,rfl⟩)) (hA.deeper (env:=env)) F e
 |succ d ih=>
  refine⟨.inr (.inr ⟨a,_,fd,rfl,M.obj,rfl⟩),fun A s2 g2 vs ds r hA x hd hr=>?_⟩;refine Ad9 (AgH hr) fun x0 y0 q1 k_5=>?_;subst q1;refine Aab (Aap k_5) fun L q1 k_6=>?_;subst q1;refine Aab (Aap k_6) fun R q1 k_7=>?_;subst q1;refine Aaz (Abg k_7) fun hc k_8=>?_;have k_8:=sj k_8;subst k_8;refine Aoc W.O (M.step x) (xs:=["L","R"]) (fun fd vs e1 e2 e3 e4=>?_) AsH (C.step x) (n:=m+1+d) hA x.inv hd rfl fun env s3 e1 e2 F=>?_
  ·exact L2 (P:=fun vs=>bindArgs fd ⟨vs,[]⟩=pure ([("L":Str),"R"].zip vs)) e4 fun u v=>Ake fd u v e1 e2 e3
  ·have e:=Aop (a:=a) (d:=d+1) hl hb hsz hlen hnn (F:=ABS xs nn d) (fun _=>by rw[Nat.add_sub_cancel]) hc;rw[← e1] at e F;exact Acj W.O (Amb W fun v F' e=>by
    refine Aaz (AiS e) fun q1 q2=>?_;subst q1;subst q2;exact ih.step x) (hA.deeper (env:=env)) F e
noncomputable def AcY(l:List (Value×(List D→Option D)))(v:Value):Option (List D→Option D):=(l.find? fun p=>p.1 == v).map (·.2)
theorem AaL{n:Nat}{l:List (Value×(List D→Option D))}(h:∀ p∈l,Abw B n p.1 p.2):∀ v F,AcY l v=some F→Abw B n v F:=fun v F e=>by
 unfold AcY at e
 cases e1:l.find? fun p=>p.1 == v with
 |none=>rw[e1] at e;exact Aah e
 |some p=>
  rw[e1] at e;cases e;have:=List.find?_some e1;have hv:p.1=v:=eq_of_beq this;subst hv;exact h p (List.mem_of_find?_eq_some e1)
theorem Afi(W:LW B){a:Addr}{cd:Value}(h:(tabsL.any fun q=>cd == .ref q.1)=true):∃ c P,cd=.ref c∧(c,P)∈tabsL:=by refine Aab (List.any_eq_true.mp h) fun q hq e=>?_;exact⟨q.1,q.2,eq_of_beq e,hq⟩
theorem Axv(W:LW B):Abw B (m+9) (.ref Ade) d2iD:=by
 have D0:=(Ar7 W.G);refine Aab D0.obj fun o ho hdat=>?_;refine⟨.inr (.inr ⟨_,o,_,rfl,ho,hdat⟩),fun A s g vs ds r hA I hd hr=>?_⟩;refine Ad9 (AgH hr) fun x0 y0 q1 k_1=>?_;subst q1;refine Aab (AaT k_1) fun l q1 k_2=>?_;subst q1;refine Aab (Aap k_2) fun n q1 k_3=>?_;subst q1;refine Aab (Aag k_3) fun xs exs k_4=>?_;refine Aaz (Abg k_4) fun hc k_5=>?_;have k_5:=sj k_5;subst k_5;refine AoR hc fun hall hn hsz hlen=>?_;have hb:∀ x∈xs,0≤x∧x<2 ^ n.toNat:=fun x hx=>by simpa using List.all_eq_true.mp hall x hx
 have hl:=Ags exs;have hll:l.length=xs.length:=by rw[hl];simp
 have hlv:=hd.length;refine Af1 W.O D0.to0 D0.scope hA I ?_;rw[D0.bind vs hlv];refine wpAny_pure ⟨g,vs,_,Aae.refl I,rfl,hd,rfl,fun env s1 e1 e2 e3 F=>AeT fun QQ EE hPost=>?_⟩;have hA':AOk (m+8) (A.deeper env):=hA.deeper;rw[Ae3] at e1;rw[Ae3,← e1] at F;rw[show Aac (nth AhQ)=[dSt,Axt] from Avk];refine wpAny_execs_cons ?_;rw[ABR];refine Ad9 (Afi (a:=Ade) W (ABF B.w.params)) fun c P hcd hmem=>?_;refine F.defStm W.O W.bm W.TT (e2.trans hcd) hmem ?_ Avl AyN (by rw[e1];exact Ala) (by rw[e1];exact AyO) fun a fd s2 g2 _ F2 M2=>?_
 ·rw[show Abf dSt=Abf (((Aac (nth AhQ))[0]?).getD AbJ) from rfl,ABA];unfold qualnameIn;have:(env.kindOf ("inner":Str) == some NameKind.globalExplicit)=false:=by unfold Env.kindOf;rw[e1];kernel_rfl!
  rw[this,if_neg Bool.false_ne_true,e3,ABE];rfl
 ·have C2:=(Ac9 F2 (scope:=dSc) (fun x hx=>(AaR Ala x hx).1) (fun x hx=>by unfold Env.kindOf;rw[e1];exact(AaR Ala x hx).2)).2;have hσ:Aa7 dSc (("inner",D.val (.ref a)) :: ([("digits":Str),"n"].zip [D.list l,.int n]).reverse)=[(("inner":Str),.val (.ref a)),(("n":Str),.int (n.toNat:Int)),(("digits":Str),.list l)]:=by rw[Int.toNat_of_nonneg hn];exact AsI _ _ _
  rw[hσ] at C2;have hlk:((("inner",D.val (.ref a)) :: ([("digits":Str),"n"].zip [D.list l,.int n]).reverse:Rho)).lookup ("digits":Str)=some (.list l):=rfl;have hli:((("inner",D.val (.ref a)) :: ([("digits":Str),"n"].zip [D.list l,.int n]).reverse:Rho)).lookup ("inner":Str)=some (.val (.ref a)):=rfl;have hlen0:((("inner",D.val (.ref a)) :: ([("digits":Str),"n"].zip [D.list l,.int n]).reverse:Rho)).lookup ("len":Str)=none:=rfl;generalize (("inner",D.val (.ref a)) :: ([("digits":Str),"n"].zip [D.list l,.int n]).reverse:Rho)=ρ2 at F2 hlk hli hlen0;have K0:AbO B (m+8) (mkT (AcY [(.builtin "len",bLen)]) Abv) s g:=AbE W (AaL (al Aj5 an)) s g I
  by_cases h0:xs=[]
  ·subst h0;have hl0:l=[]:=hl;subst hl0;refine wpAny_mono (Acj W.O K0 hA' F2 (k:=5) (m:=5) (r:=.int 0) ?_) hPost fun _ _ e=>e.elim;refine Aco rfl rfl ?_;refine Asz rfl ?_ ?_
   ·exact AaJ (Aej rfl rfl hlk) rfl
   ·exact Aaa rfl rfl
  ·have hpos:0<xs.length:=List.length_pos_iff.mpr h0;have hnn:n.toNat≤60:=Nat.le_trans (Nat.le_mul_of_pos_right _ hpos) hsz;refine wpAny_execs_cons ?_;rw[AyR];have T1:=(AaD W.O K0 hA' 5).2 (Aak env.scope.names) env ρ2;have S1:=(AaD W.O K0 hA' 5).1 (Aak env.scope.names) env ρ2;refine wpAny_Return_some (IfExp_ ((T1 dT true s2 g2 (AaJ (Aej rfl rfl hlk) (by
    show(if l.length≤1000000 then some (!l.isEmpty) else none)=some true;rw[if_pos (by omega)];induction l using List.casesOn with
    |nil=>simp at hll;omega
    |cons _ _=>rfl)) F2).use fun b s3 g3 x3 hb3=>?_))
   subst hb3;show wpAny _ _ (eval dC env) _ _ _;rw[Avm];have F3:=F2.step x3;refine wpAny_Call_NameR ((F3.name hli rfl).useV fun s4 g4 x4=>?_);have F4:=F3.step x4;have C4:=(C2.step x3).step x4;have M4:=(M2.step x3).step x4;have cl:=AsJ (m:=m) W M4 C4 hl hb hsz (by omega) (by omega) 6;have hk:env.scope.names.lookup ("len":Str)=some .globalImplicit:=by rw[e1];kernel_rfl!
   have hkl:ρ2.lookup ("len":Str)=none:=hlen0;have eargs:evL (ev (mkT (AcY [(.builtin "len",bLen)]) Abv) 5 env.scope ρ2) (AdF dC)=some [.int 0,.int l.length]:=by refine Aax rfl (Aaa rfl rfl) (Aax rfl ?_ (Aam rfl));refine AiU rfl rfl (AeW rfl rfl hkl hk rfl rfl) rfl (Aax rfl (Aej rfl rfl hlk) (Aam rfl)) ?_;exact if_pos (by omega)
   rw[AaC (AcQ eargs)];refine wpAny_mono (Ab1 (first:=[]) (P:=fun g' vs=>Aar g' vs [.int 0,.int l.length]) (P':=fun g' v=>Den g' v (.int (Aba n.toNat xs))) cl.kp (by simp) (AbV S1 eargs F4) fun vs s5 g5 x5 hvs=>?_) (fun v s' ⟨g',x,hv⟩=>hPost _ _ ⟨g',F4.st.trans x,hv⟩) fun _ _ e=>e.elim;refine cl.run _ s5 g5 _ [.int 0,.int l.length] _ (hA'.le (by omega)) x5 hvs ?_;refine(if_pos ⟨by omega,by omega,by omega,by omega⟩).trans ?_;have e1:((l.length:Int) - 0).toNat=xs.length:=by rw[Int.sub_zero,Int.toNat_natCast];exact hll
   rw[e1];simp
end
end Mine
namespace Mine
open PySem PySem.W PyProof.Rows PySem.Calls
noncomputable def Abc(vs:Array Value)(n:Nat):Obj:={cls:=.type "list",data:=.seq vs n}
noncomputable def AeI(h:Heap)(La:Addr)(vs:Array Value):Prop:=∃ n,h.get? La=some (Abc vs n)
structure AfU(La:Addr)(s:Shared)(vs:Array Value)(s':Shared):Prop where
 heap:Heap.SameBut La s.heap s'.heap
 has:AeI s'.heap La vs
 gens:s'.gens=s.gens
 os:s'.os=s.os
theorem AbT{vs:Array Value}{n:Nat}:Abp (Abc vs n):=Aal rfl
theorem Ada{vs:Array Value}{n:Nat}:¬ AcK (Abc vs n):=AaH rfl (by decide)
section
variable{B:Bs}{A:Around}{s₀ s s' s1 s2:Shared}{g₀ g g' g1:Gh}{own:List Str}{env:Env}{ρ:Rho}{La:Addr}{vs vs':Array Value}
theorem AeI.step(h:AeI s.heap La vs)(x:Aae B s g s' g'):AeI s'.heap La vs:=let ⟨n,e⟩:=h;⟨n,x.ext.keep _ _ e AbT⟩
theorem AeI.none(h:AeI s.heap La vs)(x:Aae B s g s' g')(hg:g La=none):g' La=none:=let ⟨_,e⟩:=h;x.shutNone e hg
theorem AfU.keep(p:AfU La s vs s'){a:Addr}{o:Obj}(h:a≠La)(e:s.heap.get? a=some o):s'.heap.get? a=some o:=(p.heap.2 a h).trans e
theorem AfU.inv(O:B.Ok)(p:AfU La s vs' s')(h:AeI s.heap La vs)(hg:g La=none)(I:Inv B s g):Inv B s' g:=
 let ⟨_,e⟩:=h;I.but O hg e Ada (fun _ _ ha e=>p.keep ha e) p.gens p.os
theorem AfU.back(O:B.Ok)(x:Aae B s g s1 g1)(h:AeI s.heap La vs)(hg:g La=none)(p:AfU La s1 vs' s2):∃ s0,AfU La s vs' s0∧Aae B s0 g s2 g1∧AeI s0.heap La vs':=by
 refine Abm h fun n e=>?_;refine Abm p.has fun n' e'=>?_;have e1:=x.ext.keep _ _ e AbT;have hg1:=x.shutNone e hg;have sb:Heap.SameBut La s.heap (s.heap.update La fun _=>Abc vs' n'):=Heap.SameBut.update ..;have hs:(s.heap.update La fun _=>Abc vs' n').get? La=some (Abc vs' n'):=Heap.get?_update_self _ e rfl;refine⟨{s with heap:=s.heap.update La fun _=>Abc vs' n'},⟨sb,⟨n',hs⟩,rfl,rfl⟩,⟨x.le,p.inv O ⟨n,e1⟩ hg1 x.inv,⟨fun a o ha hn=>?_,fun a o ha=>?_⟩,fun a o ha=>?_⟩,⟨n',hs⟩⟩
 ·by_cases hl:a=La
  ·subst hl;rw[hs] at ha;cases ha;exact e'
  ·exact p.keep hl (x.ext.keep a o ((sb.2 a hl).symm.trans ha) hn)
 ·by_cases hl:a=La
  ·subst hl;exact⟨_,e'⟩
  ·refine Abm (x.ext.live a o ((sb.2 a hl).symm.trans ha)) fun o' ho'=>?_;exact⟨o',p.keep hl ho'⟩
 ·rcases x.new a o ha with h|h
  ·exact .inl h
  ·by_cases hl:a=La
   ·subst hl;rw[hg1] at ha;exact Aah ha
   ·exact .inr ((sb.2 a hl).trans h)
theorem AfU.trans(p:AfU La s vs s1)(q:AfU La s1 vs' s2):AfU La s vs' s2:=⟨p.heap.trans q.heap,q.has,q.gens.trans p.gens,q.os.trans p.os⟩
theorem AsK{h:Heap}{c:Addr}{v:Option Value}(x:h.IsCell c v)(y:AeI h La vs):c≠La:=by intro q1;subst q1;refine Aab x fun o e d=>?_;refine Abm y fun n e'=>?_;rw[e] at e';cases e';injection d
theorem AfU.cell(p:AfU La s vs' s')(h:AeI s.heap La vs){c:Addr}{v:Option Value}(x:s.heap.IsCell c v):s'.heap.IsCell c v:=by have:=AsK x h;refine Aab x fun o e d=>?_;exact⟨o,p.keep this e,d⟩
theorem AfU.caught{names:List (Str×NameKind)}{cl:List (Str×Addr)}{σ:Rho}(p:AfU La s vs' s')(h:AeI s.heap La vs)(C:Ac3 s.heap g names cl σ):Ac3 s'.heap g names cl σ:=by
 refine⟨fun y e=>?_,fun y c e=>?_,fun y d e=>?_⟩
 ·refine Ad9 (C.1 y e) fun c v e1 e2=>?_;exact⟨c,v,e1,p.cell h e2⟩
 ·refine Abm (C.2.1 y c e) fun v e2=>?_;exact⟨v,p.cell h e2⟩
 ·obtain⟨e0,e1,c,v,e2,e3,e4⟩:=C.2.2 y d e;exact⟨e0,e1,c,v,e2,p.cell h e3,e4⟩
theorem AfU.made{a:Addr}{fd:FuncData}{params:Arguments}{body:FuncBody}{scope:Scope}{cl:List (Str×Addr)}(p:AfU La s vs' s')(h:AeI s.heap La vs)(M:Af0 s.heap g a fd params body scope cl):Af0 s'.heap g a fd params body scope cl:=by
 refine Akr M.code fun c' o' e1 e2 e3 e4=>?_;have hne:c'≠La:=by
  intro q2;subst q2;refine Abm h fun n e=>?_;rw[e1] at e4;refine Aw4 e4 fun c₂ o₂ vs t f1 f2 f3 _=>?_
  cases f1;rw[e] at f2;cases f2;injection f3
 have e5:=p.keep hne e2;refine⟨M.obj,⟨c',o',e1,e5,e3,?_⟩,M.params,M.body,M.scope,M.glob,M.blt,M.clos,M.defs⟩;rw[e1] at e4 ⊢;exact AbB e4 e2 e5
theorem Fm.poke(O:B.Ok)(F:Fm B s₀ g₀ own env ρ s g)(h:AeI s₀.heap La vs)(hg:g₀ La=none)(p:AfU La s vs' s'):∃ s0,AfU La s₀ vs' s0∧AeI s0.heap La vs'∧Fm B s0 g₀ own env ρ s' g:=by
 refine Adc (AfU.back O F.st h hg p) fun s0 p0 x0 h0=>?_;have hL:=h.step F.st;refine Aab F.vars fun m hm hv=>?_;have nl:env.locals≠La:=by intro e;refine AjZ hm fun o ho _ _ es n hd=>?_;refine Abm hL fun n' e'=>?_;rw[e,e'] at ho;cases ho;injection hd
 refine⟨s0,p0,h0,x0,F.kind,F.glob,F.blt,⟨m,hm.sameBut p.heap nl,hv⟩,fun y hy=>?_,F.kinds,⟨(p0.heap.2 _ nl).trans F.loc.1,F.loc.2⟩,fun y hy=>?_⟩
 ·refine Adf (F.cells y hy) fun c v e1 e2 e3=>?_;exact⟨c,v,e1,p.cell hL e2,e3⟩
 ·refine Akr (F.own y hy) fun c v e1 e2 e3 r=>?_;exact⟨c,v,e1,p.cell hL e2,(p0.heap.2 c (AsK e2 hL)).trans e3,r⟩
variable{n:Nat}
theorem AiV(O:B.Ok){a:Addr}{fd:FuncData}{params:Arguments}{xs:List Str}{body:List Stmt}{scope:Scope}{cl:List (Str×Addr)}{σ:Rho}(Md:Af0 s.heap g a fd params (.stmts body) scope cl)(hb:AhI params xs)(hs:Ac4 scope xs=true)(C:Ac3 s.heap g scope.names cl σ)
  {us:List Value} {ds:List D} (hA:AOk (n+1) A) (I:Inv B s g) (hd:Aar g us ds) (hl:xs.length=ds.length) {Q E:Value→Shared→Prop}
  (h:∀ env s',env.scope=scope→env.code=fd.code→Fm B s g (Aak scope.names) env ((xs.zip ds).reverse++σ) s' g →
   wpAny B.M (A.deeper env) (execs body env) (fun f s''=>Q (match f with|.ret v=>v|_=>.none) s'') (fun _ _=>False) s') :
  wpAny B.M A (call (.ref a) us) Q E s:=by
 refine Akr Md.code fun c o _ _ _ hcd=>?_;refine AoR (Adi hs) fun h1 h2 h3 h5=>?_;refine wpAny_call (codeAny_call_function hA.dlt (I.get Md.obj) rfl (by rw[Md.scope];exact h3) (by rw[Md.scope];exact h2) Md.body hcd ?_);rw[hb fd us Md.params Md.defs.1 Md.defs.2 (by rw[hd.length,hl])];refine wpAny_pure ?_;rw[Md.glob,Md.clos,Md.blt,Md.scope];refine wpAny_mono (Ahm O I h1 C h5 hl hd (Q:=fun env s'=>s'.heap.NoLimit∧codeAny B.M A (.func body env) (fun r s'=>match r with|.ok (.ret v)=>Q v s'|.ok _=>False|.error e=>E e s') s') fun env s' e1 e2 e3 F=>⟨?_,?_⟩) (fun _ _ h=>h) fun _ _ h=>h.elim
 ·refine Aab O.lim fun mc hmc hno=>?_;exact⟨mc,F.inv.ns hmc,hno⟩
 ·exact codeAny_func (wpAny_mono (h env s' e1 e2 F) (fun f s'' h=>h) fun _ _ h=>h.elim)
end
theorem Aqu(x:Int)(s:Nat)(hx:0≤x):Builtin.bitXor x (x / 2 ^ s*2 ^ s)=x % 2 ^ s:=by
 refine Abm (Int.eq_ofNat_of_zero_le hx) fun k q3=>?_;subst q3;have e1:((k:Int) / 2 ^ s*2 ^ s)=((k / 2 ^ s*2 ^ s:Nat):Int):=by push_cast;rfl
 have e2:k &&& (k / 2 ^ s*2 ^ s)=k / 2 ^ s*2 ^ s:=by
  apply Nat.eq_of_testBit_eq;intro i;rw[Nat.testBit_and,Nat.mul_comm,Nat.testBit_two_pow_mul,Nat.testBit_div_two_pow]
  by_cases h:s≤i
  ·have:i - s+s=i:=Nat.sub_add_cancel h;rw[this];simp [h]
  ·simp [h]
 rw[bitXor_and,e1];have e3:Builtin.bitAnd (k:Int) ((k / 2 ^ s*2 ^ s:Nat):Int)=((k / 2 ^ s*2 ^ s:Nat):Int):=by
  unfold Builtin.bitAnd;have h1:decide ((k:Int) ≥ 0)=true:=by simp
  have h2:decide (((k / 2 ^ s*2 ^ s:Nat):Int) ≥ 0)=true:=decide_eq_true (Int.natCast_nonneg _)
  first
   |(rw[h1,h2];simp only[Int.toNat_natCast,e2])
   |(simp only[h1,h2,Int.toNat_natCast,e2])
   |(simp [e2])
 rw[e3];have:=Int.emod_add_mul_ediv (k:Int) (2 ^ s);have e4:((k / 2 ^ s*2 ^ s:Nat):Int)=2 ^ s*((k:Int) / 2 ^ s):=by push_cast;rw[Int.mul_comm]
 rw[e4];omega
noncomputable def AdC(n:Nat):Nat→Int→List Int
 |0,_=>[]
 |k+1,x=>x % 2 ^ n :: AdC n k (x / 2 ^ n)
theorem Adb(n:Nat):∀ k x,(AdC n k x).length=k
 |0,_=>rfl
 |k+1,x=>by rw[AdC,List.length_cons,Adb n k]
theorem Aoq(n:Nat):∀ (i j:Nat) (x:Int),AdC n (i+j) x=AdC n i (x % 2 ^ (n*i))++AdC n j (x / 2 ^ (n*i))
 |0,j,x=>by simp [AdC]
 |i+1,j,x=>by
  have e:n*(i+1)=n+n*i:=by rw[Nat.mul_succ,Nat.add_comm]
  have hp:(0:Int)<2 ^ n:=Int.pow_pos (by decide);have hq:(0:Int)<2 ^ (n*i):=Int.pow_pos (by decide);rw[Nat.succ_add,AdC,Aoq n i j (x / 2 ^ n),AdC,e,Int.pow_add,List.cons_append];have h1:x % (2 ^ n*2 ^ (n*i)) % 2 ^ n=x % 2 ^ n:=Int.emod_emod_of_dvd x (Int.dvd_mul_right _ _);have h2:x % (2 ^ n*2 ^ (n*i)) / 2 ^ n=x / 2 ^ n % 2 ^ (n*i):=by
   rw[Int.emod_def x,Int.emod_def (x / 2 ^ n),← Int.ediv_ediv_of_nonneg (Int.le_of_lt hp)];have:x - 2 ^ n*2 ^ (n*i)*(x / 2 ^ n / 2 ^ (n*i))=x+(-(2 ^ (n*i)*(x / 2 ^ n / 2 ^ (n*i))))*2 ^ n:=by rw[Int.neg_mul,Int.mul_assoc,Int.mul_comm (2 ^ n)];rfl
   rw[this,Int.add_mul_ediv_right _ _ (by omega)];rfl
  have h3:x / (2 ^ n*2 ^ (n*i))=x / 2 ^ n / 2 ^ (n*i):=(Int.ediv_ediv_of_nonneg (Int.le_of_lt hp)).symm;rw[h1,h2,h3]
section
variable{B:Bs}{A:Around}{s₀ s s' s1 s2:Shared}{g₀ g g' g1:Gh}{own:List Str}{env:Env}{ρ:Rho}{La:Addr}{vs vs':Array Value}
theorem AbU{f:Value}{first:List Value}{args:List (Bool×Sem Value)}{pos:Pos}{P:Gh→List Value→Prop}{Q E:Value→Shared→Prop}(k:Kp g f)(hn:∀ x∈args,x.1=false)
  (h:Aaq B A s g (spliced args) P) (hc:∀ vs s' g',Aae B s g s' g'→P g' vs→wpAny B.M A (call f (first++vs)) Q E s'):wpAny B.M A (callWith pos f first args []) Q E s:=by
 have hplain:(args.any (·.1) || ([]:List (Option Str×Sem Value)).any (·.1.isNone))=false:=by simp only[List.any_nil,Bool.or_false,List.any_eq_false];intro x hx;rw[hn x hx];exact Bool.false_ne_true
 refine callWith_of (P:=fun h=>(∃ id,f=.builtin id)∨(∃ T,f=.type T)∨∃ a o fd,f=.ref a∧h.get? a=some o∧o.data=.func fd) hplain (fun h' hp=>?_) (Adh hn (h.use fun vs s' g' x hp=>⟨?_,hc vs s' g' x hp⟩))
 ·rcases hp with ⟨id,rfl⟩|⟨T,rfl⟩|⟨a,o,fd,rfl,e1,e2⟩
  ·exact⟨.machine,.inr (.inl rfl),.now⟩
  ·exact⟨.machine,.inr (.inl rfl),.now⟩
  ·refine⟨.frame,.inl rfl,?_⟩;unfold keeperOf;refine(Looks.ld (part:=none) e1).andThen ?_;rw[e2];exact .now
 ·rcases k.mono x.le with k|k|⟨a,o,fd,e,e1,e2⟩
  ·exact .inl k
  ·exact .inr (.inl k)
  ·exact .inr (.inr ⟨a,o,fd,e,x.inv.get e1,e2⟩)
theorem AiW{l:Addr}{items:Array Value}{k:Int}{t:Tok}{v:Value}{Q:Unit→Shared→Prop}{E:Value→Shared→Prop}(hl:AeI s.heap l items)
  (h0:0≤k) (hfit:k<2 ^ 63) (hn:k<items.size) (hQ:∀ s',AfU l s (items.setIfInBounds k.toNat v) s'→Q () s') :
  wpAny B.M A (setItem (.ref l) (.int k t) v) Q E s:=by
 refine Abm hl fun c ho=>?_;have hd:(Abc items c).data=.seq items c:=rfl;have hl:s.heap.IsList l items:=⟨_,ho,rfl,c,rfl⟩;unfold setItem
 try with_reducible refine wpAny_holding ?_
 first|refine wpAny_bind (wpAny_pure ?_)|skip
 refine wpAny_bind (wpAny_sequenceKey hl.typeIs (by decide) ?_);refine wpAny_bind (wpAny_callSpecial?_slot (name:=Str.ofString "__setitem__") hl.typeIs slot_list_setitem
  (wpAny_call_entry slot_list_setitem hl.typeIs entry_list_setitem ?_ (args_list_setitem _ _ _)))
 show wpAny _ _ (Builtin.List.listSubscript? (.int k t) >>= _) _ _ s;refine wpAny_bind (wpAny_listSubscript_int (fitsIndex_of h0 hfit) ?_);clear hfit;refine Abm (Int.eq_ofNat_of_zero_le h0) fun j q1=>?_;subst q1;have hj:j<items.size:=by omega
 have hx':items[j]?=some items[j]:=Array.getElem?_eq_getElem hj;show wpAny _ _ ((seqItemAt l j >>= fun r=>pure (r.map (j,·))) >>= _) _ _ s;refine wpAny_bind (wpAny_bind (wpAny_seqItemAt ho hd (wpAny_pure ?_)));rw[hx'];show wpAny _ _ (setSeqItemAt l j v >>= _) _ _ s;have hp:AfU l s (items.setIfInBounds j v) {s with heap:=s.heap.update l (Obj.mapSeq (·.setIfInBounds j v))}:=
  ⟨Heap.SameBut.update ..,⟨_,Heap.get?_update_self _ ho rfl⟩,rfl,rfl⟩
 refine wpAny_bind (wpAny_setSeqItemAt ho hd ?_)
 first
  |exact wpAny_bind (wpAny_pure (wpAny_pure ⟨.none,rfl,wpAny_pure (hQ _ hp)⟩))
  |exact wpAny_pure ⟨.none,rfl,wpAny_pure (hQ _ hp)⟩
theorem Aqv{l:Addr}{items:Array Value}{x:Value}{Q E:Value→Shared→Prop}(hl:AeI s.heap l items)(hsz:items.size≤1000000)(hQ:∀ s',AfU l s (items.push x) s'→Q .none s') :
  wpAny B.M A (call (.builtin "list.append") [.ref l,x]) Q E s:=
 wpAny_list_append_plain (hl:=hl) (fun _ hp hs=>hQ _ ⟨hs,hp,rfl,rfl⟩) (AaO hsz)
end
noncomputable def AbM(vs:Array Value)(xs:List Int):Prop:=Aar (fun _=>none) vs.toList (xs.map D.int)
theorem Aar.set{g:Gh}:∀ {vs:List Value} {ds:List D} {i:Nat} {v:Value} {d:D},Aar g vs ds→Den g v d→Aar g (vs.set i v) (ds.set i d)
 |_,_,_,_,_,.nil,_=>.nil
 |_,_,0,_,_,.cons _ h2,h=>.cons h h2
 |_,_,i+1,_,_,.cons h1 h2,h=>.cons h1 (h2.set h)
theorem AbM.size{vs:Array Value}{xs:List Int}(h:AbM vs xs):vs.size=xs.length:=by have:=Aar.length h;simpa using this
theorem AbM.set{vs:Array Value}{xs:List Int}(h:AbM vs xs)(i:Nat)(x:Int)(t:Tok):AbM (vs.setIfInBounds i (.int x t)) (xs.set i x):=by unfold AbM at h ⊢;rw[Array.toList_setIfInBounds,List.map_set];exact h.set .int
theorem AbM.push{vs:Array Value}{xs:List Int}(h:AbM vs xs)(x:Int)(t:Tok):AbM (vs.push (.int x t)) (xs++[x]):=by unfold AbM at h ⊢;rw[Array.toList_push,List.map_append];exact h.append (.cons .int .nil)
theorem AbM.den{g:Gh}{vs:Array Value}{xs:List Int}(h:AbM vs xs):Aar g vs.toList (xs.map D.int):=Aar.mono (fun _ _ e=>by exact Aah e) h
end Mine
namespace Mine
open PySem PySem.W PyProof.Rows PySem.W.X
theorem AgQ{M:Model}{Γ:Ctx}{env:Env}{Q:Flow→Pos→Shared→Prop}{E:Value→Pos→Shared→Prop}{ys:List Stmt}:∀ {xs:List Stmt} {p:Pos} {s:Shared},Sem.wp M Γ (execs xs env) (fun f p' s'=>match f with|.next=>Sem.wp M Γ (execs ys env) Q E p' s'|f=>Q f p' s') E p s→Sem.wp M Γ (execs (xs++ys) env) Q E p s
 |[],p,s,h=>h
 |x :: xs,p,s,h=>by
  rw[execs_cons,Sem.wp_bind'] at h;rw[List.cons_append,execs_cons,Sem.wp_bind'];refine Sem.wp_mono M Γ _ (fun f p' s' h'=>?_) (fun _ _ _ h'=>h') _ _ h
  cases f with
  |next=>exact AgQ h'
  |_=>exact h'
theorem Ack{M:Model}{A:Around}{env:Env}{Q:Flow→Shared→Prop}{E:Value→Shared→Prop}{xs ys:List Stmt}{s:Shared}(h:wpAny M A (execs xs env) (fun f s'=>match f with|.next=>wpAny M A (execs ys env) Q E s'|f=>Q f s') E s):wpAny M A (execs (xs++ys) env) Q E s:=fun Γ p hΓ=>by
 refine AgQ (Sem.wp_mono M Γ _ (fun f p' s' h'=>?_) (fun _ _ _ h'=>h') _ _ (h Γ p hΓ))
 cases f with
 |next=>exact h' Γ p' hΓ
 |_=>exact h'
noncomputable def jSt(i:Nat):Stmt:=(ABw[i]?).getD AbJ
noncomputable def jSc:Scope:=Aad (jSt 1)
noncomputable def Aqw:Arguments:=Aq7 (jSt 1)
noncomputable def jB(i:Nat):Stmt:=((Aac (jSt 1))[i]?).getD AbJ
theorem Avn:ABw=[jSt 0,jSt 1,jSt 2,jSt 3]:=by kernel_rfl!
theorem ABT:jSt 1=.FunctionDef "inner" Aqw (Aac (jSt 1)) [] none [] jSc none "inner" (Abf (jSt 1)):=by kernel_rfl!
theorem Amd:Aac (jSt 1)=[jB 0,jB 1,jB 2,jB 3,jB 4]++[jB 5,jB 6]:=by kernel_rfl!
theorem ABU:jB 0=.If (exprOf (jB 0)) (thenOf (jB 0)) [] (Abf (jB 0)):=by kernel_rfl!
theorem ABV:jB 5=.Expr (.Call (.Name "inner" (Acw (exprOf (jB 5)))) (AdF (exprOf (jB 5))) [] (exprOf (jB 5)).pos) (Abf (jB 5)):=by kernel_rfl!
theorem ABW:jB 6=.Expr (.Call (.Name "inner" (Acw (exprOf (jB 6)))) (AdF (exprOf (jB 6))) [] (exprOf (jB 6)).pos) (Abf (jB 6)):=by kernel_rfl!
theorem Avo:Aqw={posonlyargs:=[],args:=Aqw.args,vararg:=none,kwonlyargs:=[],kw_defaults:=[],kwarg:=none,defaults:=[]}:=by kernel_rfl!
theorem AyS(e:Env):annotationsOf (Aqw.args++[]++[]++[]++[]) e=[]:=by kernel_rfl!
theorem Alb:Ads jSc Apg=true:=by kernel_rfl!
theorem AyT:okT (Aak Apg.names) Apg "inner"=true:=by kernel_rfl!
theorem AyU:okT (Aak Apg.names) Apg "a_digits"=true:=by kernel_rfl!
theorem Akf:∀ (fd:FuncData) (a b c:Value),fd.params=Aqw→fd.defaults=.none→fd.kwdefaults=.none→bindArgs fd ⟨[a,b,c],[]⟩=pure [(("x":Str),a),("L",b),("R",c)]:=by
 intro q1;obtain⟨nm,qn,pr,bd,sc,gl,cl,df,kd,dc,pm,an,cd,ct,bt⟩:=q1;intro a b c h1 h2 h3;simp only at h1 h2 h3;subst h1 h2 h3
 kernel_rfl!
theorem AsL:Ac4 jSc ["x","L","R"]=true:=by kernel_rfl!
theorem AsM(v d b a:D):Aa7 jSc [(("inner":Str),v),(("a_digits":Str),d),(("n":Str),b),(("a":Str),a)]=[(("inner":Str),v),(("a_digits":Str),d),(("n":Str),b)]:=by kernel_rfl!
theorem Avp(env:Env)(i:Nat)(hi:i=5∨i=6):swapsWith (.Call (.Name "inner" (Acw (exprOf (jB i)))) (AdF (exprOf (jB i))) [] (exprOf (jB i)).pos) none (Abf (jB i)).line env=pure false:=by
 rcases hi with rfl|rfl<;>rfl
noncomputable def jT(i:Nat):Stmt:=((thenOf (jB 0))[i]?).getD AbJ
theorem AEh:thenOf (jB 0)=[jT 0,jT 1]:=by kernel_rfl!
theorem ABX:jT 0=.Assign [.Subscript (.Name "a_digits" (AoS (AaG (jT 0))).pos) (.Name "L" (Aub (AaG (jT 0))).pos) (AaG (jT 0)).pos] (.Name "x" (Aat (jT 0)).pos) (Abf (jT 0)):=by kernel_rfl!
theorem ABY:jT 1=.Return none (Abf (jT 1)):=by kernel_rfl!
noncomputable def ADB(a La:Addr)(nn:Nat)(x L R:Int):Rho:=[(("R":Str),.int R),(("L":Str),.int L),(("x":Str),.int x),(("inner":Str),.val (.ref a)),(("a_digits":Str),.val (.ref La)),(("n":Str),.int nn)]
noncomputable def T0:Tb:=mkT (fun _=>none) Abv
theorem AsN{B:Bs}(W:LW B){n:Nat}(s:Shared)(g:Gh):AbO B n T0 s g:=Amb W fun _ _ e=>by exact Aah e
theorem AEi{a La:Addr}{nn:Nat}{x L R M sh:Int}(hne:L+1≠R)(hM:(L+R) / 2=M)(hsh:(M - L)*nn=sh)(hs0:0≤sh)(hs1:sh≤60)(hx:0≤x)(hx2:x<2 ^ 60)(hL:0≤L)(hLM:L<M)(hML:M - L≤((1000:Nat):Int))(hnn:nn≤1000) :
  ex (T0.stm (Aak jSc.names) jSc) (ev T0 8 jSc) (Aak jSc.names) jSc 8 (ADB a La nn x L R) [jB 0,jB 1,jB 2,jB 3,jB 4] =
   some (.next ((("lower":Str),.int (x % 2 ^ sh.toNat)) :: (("upper":Str),.int (x / 2 ^ sh.toNat)) :: (("shift":Str),.int sh) :: (("mid":Str),.int M) :: ADB a La nn x L R)):=by
 have p3:(2:Nat) ^ 64=18446744073709551616:=by decide
 have p2:(2:Int) ^ 60=1152921504606846976:=by decide
 have hm:(L+R).fdiv (2 ^ (1:Int).toNat)=M:=by rw[Int.fdiv_eq_ediv_of_nonneg _ (by decide),← hM];rfl
 have hp:(0:Int)<2 ^ sh.toNat:=Int.pow_pos (by decide);have hu:x.fdiv (2 ^ sh.toNat)=x / 2 ^ sh.toNat:=Int.fdiv_eq_ediv_of_nonneg _ (Int.le_of_lt hp);have hu0:0≤x / 2 ^ sh.toNat:=Int.ediv_nonneg hx (Int.le_of_lt hp);have hu1:x / 2 ^ sh.toNat≤x:=Int.ediv_le_self _ hx;have hw:=Aqu x sh.toNat hx;refine AcF rfl rfl ?_ (Ab4 rfl) ?_
 ·repeat (first
   |exact Aaa rfl rfl
   |exact Aai rfl
   |apply AaJ
   |apply Aa6 rfl
   |apply Aby rfl rfl
   |exact Al9 hne
   |exact rfl)
 ·refine AcE (d:=.int M) rfl rfl (.inl rfl) ?_ (by kernel_rfl!) ?_
  ·rw[← hm]
   repeat (first
    |exact Aaa rfl rfl
    |exact Aai rfl
    |apply Aa6 rfl
    |exact Ak7 (by decide)
    |exact rfl)
  ·refine AcE (d:=.int sh) rfl rfl (.inl rfl) ?_ (by kernel_rfl!) ?_
   ·rw[← hsh]
    repeat (first
     |exact Aaa rfl rfl
     |exact Aai rfl
     |apply Aa6 rfl
     |exact AsD ⟨nab (n:=1000) (Int.sub_nonneg_of_le (Int.le_of_lt hLM)) hML (Nat.le_refl _),nab (Int.natCast_nonneg _) (Int.le_refl _) hnn⟩
     |exact rfl)
   ·refine AcE (d:=.int (x / 2 ^ sh.toNat)) rfl rfl (.inl rfl) ?_ (by kernel_rfl!) ?_
    ·rw[← hu]
     repeat (first
      |exact Aaa rfl rfl
      |exact Aai rfl
      |apply Aa6 rfl
      |exact Ak7 hs0
      |exact rfl)
    ·refine AcE (d:=.int (x % 2 ^ sh.toNat)) rfl rfl (.inl rfl) ?_ (by kernel_rfl!) (Ab4 rfl);rw[← hw]
     repeat (first
      |exact Aaa rfl rfl
      |exact Aai rfl
      |apply Aa6 rfl
      |exact Ak8 ⟨hs0,Int.le_trans hs1 (by decide),AyL hu0 (Int.lt_of_le_of_lt hu1 hx2)⟩
      |exact rfl)
structure IH0(B:Bs)(a:Addr)(fd:FuncData)(cl:List (Str×Addr))(La:Addr)(nn:Nat)(s:Shared)(g:Gh)(xs:List Int):Prop where
 inv:Inv B s g
 made:Af0 s.heap g a fd Aqw (.stmts (Aac (jSt 1))) jSc cl
 cau:Ac3 s.heap g jSc.names cl [(("inner":Str),.val (.ref a)),(("a_digits":Str),.val (.ref La)),(("n":Str),.int nn)]
 lst:∃ vs,AeI s.heap La vs∧AbM vs xs
 out:g La=none
noncomputable def AEj(B:Bs)(La:Addr)(s:Shared)(g:Gh)(xs:List Int)(s':Shared):Prop:=∃ g' s0 vs,AfU La s vs s0∧AbM vs xs∧Aae B s0 g s' g'
noncomputable def wr(xs:List Int)(L:Int)(ds:List Int):List Int:=xs.take L.toNat++ds++xs.drop (L.toNat+ds.length)
section
variable{B:Bs}{a La:Addr}{fd:FuncData}{cl:List (Str×Addr)}{nn:Nat}{s s':Shared}{g g':Gh}{xs xs':List Int}
theorem IH0.step(h:IH0 B a fd cl La nn s g xs)(x:Aae B s g s' g'):IH0 B a fd cl La nn s' g' xs:=
 ⟨x.inv,h.made.step x,h.cau.step x,(let ⟨vs,h1,h2⟩:=h.lst;⟨vs,h1.step x,h2⟩),(let ⟨_,h1,_⟩:=h.lst;h1.none x h.out)⟩
theorem IH0.poke(O:B.Ok)(h:IH0 B a fd cl La nn s g xs){vs:Array Value}(p:AfU La s vs s')(hv:AbM vs xs'):IH0 B a fd cl La nn s' g xs':=by refine Aab h.lst fun us h1 h2=>?_;exact⟨p.inv O h1 h.out h.inv,p.made h1 h.made,p.caught h1 h.cau,⟨vs,p.has,hv⟩,h.out⟩
theorem AsO{L:Int}{ds:List Int}(h0:0≤L)(h:L.toNat+ds.length≤xs.length):(wr xs L ds).length=xs.length:=by unfold wr;rw[List.length_append,List.length_append,List.length_take,List.length_drop,Nat.min_eq_left (Nat.le_trans (Nat.le_add_right _ _) h),Nat.add_sub_cancel' h]
theorem AEk{L M:Int}{d1 d2:List Int}(h0:0≤L)(hM:M.toNat=L.toNat+d1.length)(h:M.toNat+d2.length≤xs.length):wr (wr xs L d1) M d2=wr xs L (d1++d2):=by
 unfold wr;have h1:(xs.take L.toNat++d1).length=M.toNat:=by rw[List.length_append,List.length_take,Nat.min_eq_left (Nat.le_trans (Nat.le_add_right _ d1.length) (hM ▸ Nat.le_trans (Nat.le_add_right _ _) h)),hM]
 rw[List.take_append_of_le_length (Nat.le_of_eq h1.symm),List.take_of_length_le (Nat.le_of_eq h1),← h1,List.drop_append,List.drop_eq_nil_of_le (Nat.le_add_right _ _),List.nil_append,List.drop_drop,h1];simp only[List.append_assoc,List.length_append];have:L.toNat+d1.length+(M.toNat+d2.length - M.toNat)=L.toNat+(d1.length+d2.length):=by rw[Nat.add_sub_cancel_left,Nat.add_assoc]
 rw[this]
theorem ABZ{L:Int}{x:Int}(h0:0≤L)(h:L.toNat<xs.length):xs.set L.toNat x=wr xs L [x]:=by unfold wr;rw[List.set_eq_take_append_cons_drop,if_pos h];simp
variable{m:Nat}
theorem AB0(W:LW B){A:Around}(hA:AOk m A){i:Nat}(hi:i=5∨i=6){own:List Str}{env:Env}{ρ:Rho}{s2:Shared}{g2:Gh}{ds:List D}(he:env.scope=jSc)
  (claim:∀ s g vs,IH0 B a fd cl La nn s g xs→Aar g vs ds→wpAny B.M A (call (.ref a) vs) (fun v s'=>v=.none∧AEj B La s g xs' s') (fun _ _=>False) s)
  (F:Fm B s g own env ρ s2 g2) (H:IH0 B a fd cl La nn s g xs) (hρ:ρ.lookup ("inner":Str)=some (.val (.ref a))) (eargs:evL (ev T0 8 env.scope ρ) (AdF (exprOf (jB i)))=some ds) {Q:Flow→Shared→Prop} {E:Value→Shared→Prop}
  (hq:∀ s0 s' g' vs',AfU La s vs' s0→AbM vs' xs'→Fm B s0 g own env ρ s' g'→Q .next s'):wpAny B.M A (exec (jB i) env) Q E s2:=by
 have hb:jB i=.Expr (.Call (.Name "inner" (Acw (exprOf (jB i)))) (AdF (exprOf (jB i))) [] (exprOf (jB i)).pos) (Abf (jB i)):=by
  rcases hi with rfl|rfl
  ·exact ABV
  ·exact ABW
 rw[hb];refine wpAny_Expr_any ?_ (by unfold interactive;rw[he];kernel_rfl!) (Avp env i hi);refine wpAny_Call_NameR ((F.name hρ rfl).useV fun s3 g3 x3=>?_);have F3:=F.step x3;rw[AaC (AcQ eargs)];have S1:=(AaD W.O (AsN W s g) hA 8).1 own env ρ;have H3:=H.step F3.st;refine AbU (first:=[]) (P:=fun g' vs=>Aar g' vs ds) (.inr (.inr ⟨a,_,fd,rfl,H3.made.obj,rfl⟩)) (by simp) (AbV S1 eargs F3) fun vs s4 g4 x4 hvs=>?_;have F4:=F3.step x4;refine wpAny_mono (claim s4 g4 vs (H3.step x4) hvs) (fun v s' hv=>?_) fun _ _ e=>e.elim
 obtain⟨_,g',s0,vs',p,hv,x⟩:=hv
 refine Aab H.lst fun us h1 _=>?_;refine Adc (F4.poke W.O h1 H.out p) fun s0' p' _ F5=>?_;exact hq s0' s' g' vs' p' hv (F5.step x)
theorem AB1(W:LW B){A:Around}{n:Nat}(hA:AOk (n+1) A)(H:IH0 B a fd cl La nn s g xs){x L R:Int}{vs:List Value}(h0:0≤L)(hc:L+1=R)(hR:R≤xs.length)(hlen:xs.length≤60)(hx0:0≤x)(hx1:x<2 ^ (nn*(R - L).toNat))
  (hdv:Aar g vs [.int x,.int L,.int R]):wpAny B.M A (call (.ref a) vs) (fun v s'=>v=.none∧AEj B La s g (wr xs L (AdC nn (R - L).toNat x)) s') (fun _ _=>False) s:=by
 refine AiV W.O H.made (xs:=["x","L","R"]) (fun fd vs e1 e2 e3 e4=>?_) AsL H.cau (n:=n) hA H.inv hdv rfl fun env s1 e1 e2 F=>?_
 ·exact L3 (P:=fun vs=>bindArgs fd ⟨vs,[]⟩=pure ([("x":Str),"L","R"].zip vs)) e4 fun u v w=>Akf fd u v w e1 e2 e3
 have hA':AOk n (A.deeper env):=hA.deeper;rw[Amd];refine Ack ?_;have hρ1:((([("x":Str),"L","R"].zip [D.int x,D.int L,D.int R]).reverse++[(("inner":Str),D.val (.ref a)),(("a_digits":Str),.val (.ref La)),(("n":Str),.int nn)]:Rho))=ADB a La nn x L R:=rfl;rw[hρ1] at F;have T1:=(AaD W.O (AsN W s g) hA' 8).2 (Aak jSc.names) env (ADB a La nn x L R);refine wpAny_execs_cons ?_;rw[ABU];refine wpAny_If ((T1 (exprOf (jB 0)) true s1 g (by
  rw[e1]
  repeat (first
   |exact Aaa rfl rfl
   |exact Aai rfl
   |apply AaJ
   |apply Aa6 rfl
   |apply Aby rfl rfl
   |exact AsC hc
   |exact rfl)) F).use fun b s2 g2 x2 hb=>?_)
 subst hb;have F2:=F.step x2;show wpAny _ _ (execs (thenOf (jB 0)) env) _ _ _;rw[AEh];refine wpAny_execs_cons ?_;rw[ABX];refine wpAny_Assign_Subscript ((F2.name (x:="x") (d:=.int x) rfl rfl).use fun v3 s3 g3 x3 h3=>?_);have F3:=F2.step x3;refine(F3.name (x:="a_digits") (d:=.val (.ref La)) rfl rfl).use fun v4 s4 g4 x4 h4=>?_;have F4:=F3.step x4;refine(F4.name (x:="L") (d:=.int L) rfl rfl).use fun v5 s5 g5 x5 h5=>?_;have F5:=F4.step x5;induction h3 using Den.intE;induction h4 using Den.valE;induction h5 using Den.intE;refine Aab H.lst fun us q1 q2=>?_;have hz:=q2.size;have hlt:L<(xs.length:Int):=Int.lt_of_lt_of_le (hc ▸ Int.lt_succ L) hR;refine AiW (q1.step F5.st) h0 (Int.lt_of_lt_of_le hlt (Int.le_trans (Int.ofNat_le.mpr hlen) (by decide))) (by rw[hz];exact hlt) fun s6 p6=>?_;refine Adc (F5.poke W.O q1 H.out p6) fun s0' p' _ F6=>?_;refine wpAny_execs_cons ?_;rw[ABY];refine wpAny_Return_none ⟨rfl,g5,s0',_,p',?_,F6.st⟩;have hone:(R - L).toNat=1:=by rw[← hc,Int.add_comm,Int.add_sub_cancel];rfl
 have hdig:AdC nn (R - L).toNat x=[x]:=by rw[hone,Nat.mul_one] at hx1;rw[hone];show[x % 2 ^ nn]=[x];rw[Int.emod_eq_of_lt hx0 hx1]
 rw[hdig,← ABZ h0 ((Int.toNat_lt h0).mpr hlt)];exact q2.set _ _ _
theorem AB2(W:LW B)(hnn:nn≤1000):∀ (d:Nat) (A:Around) (s:Shared) (g:Gh) (xs:List Int) (x L R:Int) (vs:List Value),AOk (m+1+d) A→IH0 B a fd cl La nn s g xs→0≤L→L<R→R≤xs.length→xs.length≤60→nn*xs.length≤60→R - L≤2 ^ d→0≤x→x<2 ^ (nn*(R - L).toNat) →
  Aar g vs [.int x,.int L,.int R]→wpAny B.M A (call (.ref a) vs) (fun v s'=>v=.none∧AEj B La s g (wr xs L (AdC nn (R - L).toNat x)) s') (fun _ _=>False) s:=by
 intro d;induction d with
 |zero=>
  intro A s g xs x L R vs hA H h0 hLR hR hlen hsz hd hx0 hx1 hdv;exact AB1 W hA H h0 (Int.le_antisymm hLR (Int.le_add_of_sub_left_le hd)) hR hlen hx0 hx1 hdv
 |succ d ih=>
  intro A s g xs x L R vs hA H h0 hLR hR hlen hsz hd hx0 hx1 hdv
  by_cases hc:L+1=R
  ·exact AB1 W hA H h0 hc hR hlen hx0 hx1 hdv
  ·refine AiV W.O H.made (xs:=["x","L","R"]) (fun fd vs e1 e2 e3 e4=>?_) AsL H.cau (n:=m+1+d) hA H.inv hdv rfl fun env s1 e1 e2 F=>?_
   ·exact L3 (P:=fun vs=>bindArgs fd ⟨vs,[]⟩=pure ([("x":Str),"L","R"].zip vs)) e4 fun u v w=>Akf fd u v w e1 e2 e3
   have hA':AOk (m+1+d) (A.deeper env):=hA.deeper;have hp:(2:Int) ^ (d+1)=2*2 ^ d:=by rw[Int.pow_succ,Int.mul_comm]
   generalize hM:(L+R) / 2=M;refine AE8 (Amc h0 hLR hc hM hR (hp ▸ hd)) fun m1 m2 m3 m4 m5 m6 m7 m8=>?_;have hshle:nn*(M - L).toNat≤60:=Nat.le_trans (Nat.mul_le_mul_left _ (Int.toNat_le.mpr m6)) hsz;have hsh:(M - L)*nn=((nn*(M - L).toNat:Nat):Int):=by rw[Int.natCast_mul,Int.toNat_of_nonneg m5,Int.mul_comm]
   have hx60:x<2 ^ 60:=Int.lt_of_lt_of_le hx1 (by
    have:=Nat.pow_le_pow_right (n:=2) (by decide) (Nat.le_trans (Nat.mul_le_mul_left nn (show(R - L).toNat≤xs.length from Int.toNat_le.mpr (Int.le_trans (Int.sub_le_self R h0) hR))) hsz)
    exact_mod_cast this)
   have e5:=AEi (a:=a) (La:=La) (nn:=nn) (x:=x) hc hM hsh (Int.natCast_nonneg _) (Int.ofNat_le.mpr hshle) hx0 hx60 h0 m1 (Int.le_trans m6 (Int.ofNat_le.mpr (Nat.le_trans hlen (by decide)))) hnn;rw[Int.toNat_natCast] at e5;generalize hK:nn*(M - L).toNat=K at hshle hsh e5;rw[Amd];refine Ack ?_;rw[← e1] at e5 F;refine(AbW W.O (AsN W s g) hA' 8 _ _ _ s1 g e5 F).use fun f s2 g2 l2 en=>?_;refine Aaz en fun z1 F2=>?_;subst z1;have hp':(0:Int)<2 ^ K:=Int.pow_pos (by decide);have lo0:0≤x % 2 ^ K:=Int.emod_nonneg _ (Int.ne_of_gt hp');have lo1:x % 2 ^ K<2 ^ (nn*(M - L).toNat):=by rw[hK];exact Int.emod_lt_of_pos _ hp'
   have up0:0≤x / 2 ^ K:=Int.ediv_nonneg hx0 (Int.le_of_lt hp');have up1:x / 2 ^ K<2 ^ (nn*(R - M).toNat):=by
    have e:nn*(R - L).toNat=K+nn*(R - M).toNat:=by rw[← hK,← Nat.mul_add,← tn1 (Int.le_of_lt m1) (Int.le_of_lt m2)]
    rw[e,Int.pow_add] at hx1;exact Int.ediv_lt_of_lt_mul hp' (by rw[Int.mul_comm];exact hx1)
   dsimp only;refine wpAny_execs_cons (AB0 W hA' (i:=5) (.inl rfl) (xs:=xs) (xs':=wr xs L (AdC nn (M - L).toNat (x % 2 ^ K))) (ds:=[.int (x % 2 ^ K),.int L,.int M]) e1 (fun s g vs H hdv=>ih (A.deeper env) s g xs (x % 2 ^ K) L M vs hA' H h0 m1 m4 hlen hsz m7 lo0 lo1 hdv) F2 H rfl ?_ fun s0 s3 g3 vs3 p3 hv3 F3=>?_)
   ·rw[e1];exact Aax rfl (Aai rfl) (Aax rfl (Aai rfl) (Aax rfl (Aai rfl) (Aam rfl)))
   have hdl:=Adb nn (M - L).toNat (x % 2 ^ K);have hdl2:=Adb nn (R - M).toNat (x / 2 ^ K);have hw1:(wr xs L (AdC nn (M - L).toNat (x % 2 ^ K))).length=xs.length:=AsO h0 (by rw[hdl,← tn2 h0 (Int.le_of_lt m1)];exact Int.toNat_le.mpr (Int.le_trans (Int.le_of_lt m2) hR));refine wpAny_execs_cons (AB0 W hA' (i:=6) (.inr rfl) (xs:=wr xs L (AdC nn (M - L).toNat (x % 2 ^ K))) (xs':=wr xs L (AdC nn (R - L).toNat x)) (ds:=[.int (x / 2 ^ K),.int M,.int R]) e1 (fun s g vs H hdv=>?_) F3 (H.poke W.O p3 hv3) rfl ?_ fun s0' s4 g4 vs4 p4 hv4 F4=>?_)
   ·have:=ih (A.deeper env) s g _ (x / 2 ^ K) M R vs hA' H m3 m2 (by rw[hw1];exact hR) (by rw[hw1];exact hlen) (by rw[hw1];exact hsz) m8 up0 up1 hdv;rw[AEk h0 (by rw[hdl];exact tn2 h0 (Int.le_of_lt m1)) (by rw[hdl2,← tn2 (Int.le_trans h0 (Int.le_of_lt m1)) (Int.le_of_lt m2)];exact Int.toNat_le.mpr hR)] at this;have e:AdC nn (R - L).toNat x=AdC nn (M - L).toNat (x % 2 ^ K)++AdC nn (R - M).toNat (x / 2 ^ K):=by rw[tn1 (Int.le_of_lt m1) (Int.le_of_lt m2),Aoq,hK]
    rw[e];exact this
   ·rw[e1];exact Aax rfl (Aai rfl) (Aax rfl (Aai rfl) (Aax rfl (Aai rfl) (Aam rfl)))
   ·exact wpAny_execs_nil ⟨rfl,g4,s0',vs4,p3.trans p4,hv4,F4.st⟩
end
noncomputable def jC:Stmt:=((thenOf (jSt 2))[0]?).getD AbJ
noncomputable def AeU(i:Nat)(e:Expr):Expr:=((AdF e)[i]?).getD e
theorem AB3:jSt 0=.Assign [.Name "a_digits" (AaG (jSt 0)).pos] (.BinOp (binL (Aat (jSt 0))) .Mult (binR (Aat (jSt 0))) (Aat (jSt 0)).pos) (Abf (jSt 0)):=by kernel_rfl!
theorem AB4:jSt 2=.If (exprOf (jSt 2)) [jC] [] (Abf (jSt 2)):=by kernel_rfl!
theorem AB5:jSt 3=.Return (some (.Name "a_digits" (exprOf (jSt 3)).pos)) (Abf (jSt 3)):=by kernel_rfl!
theorem AEl:jC=.Expr (.Call (.Name "inner" (Acw (exprOf jC))) [AeU 0 (exprOf jC),AeU 1 (exprOf jC),.Call (.Name "len" (Acw (AeU 2 (exprOf jC)))) [.Name "a_digits" (AeU 0 (AeU 2 (exprOf jC))).pos] [] (AeU 2 (exprOf jC)).pos] [] (exprOf jC).pos) (Abf jC):=by kernel_rfl!
theorem AsP(env:Env):swapsWith (.Call (.Name "inner" (Acw (exprOf jC))) [AeU 0 (exprOf jC),AeU 1 (exprOf jC),.Call (.Name "len" (Acw (AeU 2 (exprOf jC)))) [.Name "a_digits" (AeU 0 (AeU 2 (exprOf jC))).pos] [] (AeU 2 (exprOf jC)).pos] [] (exprOf jC).pos) none (Abf jC).line env=pure false:=by rfl
noncomputable def Aor(a n:Int):Nat:=(((Builtin.Int.intBits a:Nat):Int)+n - 1).fdiv n |>.toNat
noncomputable def i2dD:List D→Option D:=ii fun a n=>
 if 0≤a∧1≤n∧n≤60∧Aor a n≤60∧n.toNat*Aor a n≤60∧a<2 ^ (n.toNat*Aor a n) then some (.list ((AdC n.toNat (Aor a n) a).map D.int)) else none
theorem Aqx(k:Nat)(vs:Array Value)(t:Tok)(hv:vs.toList=[Value.int 0 t]):AbM (List.foldl (fun x1 x2=>x1++x2) #[] (List.replicate (if vs.isEmpty=true then 0 else k) vs)) (List.replicate k 0):=by
 have he:vs.isEmpty=false:=by
  cases h:vs.isEmpty with
  |false=>rfl
  |true=>rw[Array.isEmpty_iff] at h;subst h;injection hv
 rw[he];simp only[Bool.false_eq_true,if_false];unfold AbM;rw[Ab7 #[]];simp only[Array.toList_empty,List.nil_append,List.map_replicate,hv];have h1:Aar (fun _=>none) [Value.int 0 t] [D.int 0]:=.cons .int .nil;have h2:=h1.flattenRep k;have e:(List.replicate k [D.int 0]).flatten=List.replicate k (D.int 0):=by
  induction k with
  |zero=>rfl
  |succ k ih=>rw[List.replicate_succ,List.flatten_cons,ih (h1.flattenRep k)];rfl
 rw[e] at h2;exact h2
theorem AB6(k:Nat)(ds:List Int)(h:ds.length=k):wr (List.replicate k 0) 0 ds=ds:=by unfold wr;simp [h]
theorem Ame(n:Nat):∀ k,AdC n k 0=List.replicate k 0
 |0=>rfl
 |k+1=>by rw[AdC,List.replicate_succ,Int.zero_emod,Int.zero_ediv,Ame n k]
section
variable{B:Bs}{m:Nat}
theorem AyV{a n:Int}{k:Nat}(hk:Aor a n=k)(hn:1≤n)(hn2:n≤60)(h0:0≤((Builtin.Int.intBits a:Nat):Int)+n - 1) :
  ev (mkT (AcY [(.builtin "int.bit_length",bBits)]) Abv) 8 Apg [(("n":Str),.int n),(("a":Str),.int a)] (binR (Aat (jSt 0)))=some (.int k):=by
 have e:((Builtin.Int.intBits a:Nat):Int)+n - 1=((Builtin.Int.intBits a:Nat):Int)+n - 1:=rfl;have:(((Builtin.Int.intBits a:Nat):Int)+n - 1).fdiv n=k:=by rw[← hk];unfold Aor;rw[Int.toNat_of_nonneg];rw[Int.fdiv_eq_ediv_of_nonneg _ (by omega)];exact Int.ediv_nonneg h0 (by omega)
 rw[← this]
 repeat (first
  |exact Aaa rfl rfl
  |exact Aai rfl
  |apply Aa6 rfl
  |(refine Adn rfl rfl ⟨rfl,rfl,by decide⟩ (Aai rfl) rfl rfl rfl (Aam rfl) ?_)
  |exact AsE ⟨by omega,by omega⟩
  |exact rfl)
theorem Axw(W:LW B):Abw B (m+9) (.ref Ac5) i2dD:=by
 have D0:=(Ar5 W.G);refine Aab D0.obj fun o ho hdat=>?_;refine⟨.inr (.inr ⟨_,o,_,rfl,ho,hdat⟩),fun A s g vs ds r hA I hd hr=>?_⟩;refine Ad9 (Ao5 hr) fun a n q1 k_3=>?_;subst q1;refine Aaz (Abg k_3) fun hc k_4=>?_;have k_4:=sj k_4;subst k_4;refine AFK hc fun ha hn1 hn2 hk60 hnk hak=>?_;generalize hK:Aor a n=k at hk60 hnk hak;have hlv:=hd.length;refine Af1 W.O D0.to0 D0.scope hA I ?_;rw[D0.bind vs hlv];refine wpAny_pure ⟨g,vs,_,Aae.refl I,rfl,hd,rfl,fun env s1 e1 e2 e3 F=>AeT fun QQ EE hPost=>?_⟩;have hA':AOk (m+8) (A.deeper env):=hA.deeper;rw[Ae2] at e1;rw[Ae2,← e1] at F;rw[show Aac (nth AhP)=[jSt 0,jSt 1,jSt 2,jSt 3] from Avn];have hρ1:([("a":Str),"n"].zip [D.int a,.int n]).reverse=[(("n":Str),D.int n),(("a":Str),D.int a)]:=rfl;rw[hρ1] at F;have K0:AbO B (m+8) (mkT (AcY [(.builtin "int.bit_length",bBits)]) Abv) s g:=AbE W (AaL (al Am6 an)) s g I;have S0:=(AaD W.O K0 hA' 8).1 (Aak env.scope.names) env [(("n":Str),D.int n),(("a":Str),D.int a)]
 -- a_digits=[0]*..
 refine wpAny_execs_cons ?_;rw[AB3];refine Ak6 rfl (wpAny_BinOp ((S0 (binL (Aat (jSt 0))) (.list [.int 0]) s1 g (AgO rfl (Aax rfl (Aaa rfl rfl) (Aam rfl)) (by simp)) F).use fun v2 s2 g2 x2 h2=>?_));have F2:=F.step x2;refine(S0 (binR (Aat (jSt 0))) (.int k) s2 g2 (by rw[e1];exact AyV hK hn1 hn2 (by omega)) F2).useI fun _ s3 g3 x3=>?_;have F3:=F2.step x3;have h2':=h2.mono x3.le;induction h2' using Den.listE with|list q1 q2=>?_
 rename_i us nn0;have hus:∃ t,us.toList=[Value.int 0 t]:=by
  cases e:us.toList with
  |nil=>rw[e] at q2;cases q2 using Aar.consE
  |cons u r=>
   rw[e] at q2
   cases q2 using Aar.consE with|cons q3 q4=>?_
   induction q4 using Aar.nilE;induction q3 using Den.intE;exact⟨_,rfl⟩
 obtain⟨t0,hus⟩:=hus
 have husz:us.size=1:=by rw[← Array.length_toList,hus];rfl
 refine Aes (F3.inv.get q1) (by omega) (by omega) (by rw[husz];simp;omega) ?_;have hcont:=Aqx (k:Int).toNat us t0 hus;generalize List.foldl (fun x1 x2=>x1++x2) #[] (List.replicate (if us.isEmpty=true then 0 else (k:Int).toNat) us)=cs at hcont;rw[Int.toNat_natCast] at hcont;have x4:=Aae.open (o:={cls:=.type "list",data:=.seq cs}) W.O F3.inv;have F4:=F3.step x4;have hLa:(s3.heap.push {cls:=.type "list",data:=.seq cs}).get? s3.heap.objs.size=some (Abc cs 0):=Heap.get?_push_size _ rfl;have sLa:s.heap.get? s3.heap.objs.size=none:=F3.st.ext.dead (AaM _);have gLa:g3 s3.heap.objs.size=none:=F3.inv.fresh;generalize s3.heap.objs.size=La at hLa sLa gLa;refine F4.store W.O (Abi (by rw[e1];exact AyU)) (.val (v:=.ref La)) fun s5 F5 k5=>?_;have hL5:AeI s5.heap La cs:=⟨0,k5 La _ (F4.notLoc hLa (by intro v e;injection e) (by intro _ _ e;injection e)) hLa⟩
 -- def inner
 refine wpAny_execs_cons ?_;rw[ABT];refine Ad9 (Afi (a:=Ac5) W (ABD B.w.params)) fun c P hcd hmem=>?_;refine F5.defStm W.O W.bm W.TT (e2.trans hcd) hmem ?_ Avo AyS (by rw[e1];exact Alb) (by rw[e1];exact AyT) fun ai fd s6 g6 l6 F6 M6=>?_
 ·rw[show Abf (jSt 1)=Abf (((Aac (nth AhP))[1]?).getD AbJ) from rfl,ABz];unfold qualnameIn;have:(env.kindOf ("inner":Str) == some NameKind.globalExplicit)=false:=by unfold Env.kindOf;rw[e1];kernel_rfl!
  rw[this,if_neg Bool.false_ne_true,e3,ABC];rfl
 have notLocL:∀ {s7:Shared} {g7:Gh} {ρ7:Rho} {us:Array Value},Fm B s g (Aak env.scope.names) env ρ7 s7 g7→AeI s7.heap La us→¬ Loc env (Aak env.scope.names) La:=fun {s7 g7 ρ7 us} F7 h7=>by
  obtain⟨n7,e7⟩:=h7
  exact F7.notLoc e7 (by intro v e;injection e) (by intro _ _ e;injection e)
 have hL6:AeI s6.heap La cs:=by
  obtain⟨n5,e5⟩:=hL5
  exact⟨n5,(l6.2 La _ (notLocL F5 ⟨n5,e5⟩) e5 AbT).1⟩
 have gL6:g6 La=none:=by
  obtain⟨n5,e5⟩:=hL5
  exact(l6.2 La _ (notLocL F5 ⟨n5,e5⟩) e5 AbT).2 gLa
 have C6:=(Ac9 F6 (scope:=jSc) (fun x hx=>(AaR Alb x hx).1) (fun x hx=>by unfold Env.kindOf;rw[e1];exact(AaR Alb x hx).2)).2;rw[AsM] at C6;have hnn:((n.toNat:Nat):Int)=n:=Int.toNat_of_nonneg (by omega)
 -- the end
 have fin:∀ {s7:Shared} {g7:Gh} {us:Array Value},Fm B s g (Aak env.scope.names) env (("inner",.val (.ref ai)) :: ("a_digits",.val (.ref La)) :: [("n",D.int n),("a",D.int a)]) s7 g7→AeI s7.heap La us→g7 La=none→AbM us (AdC n.toNat k a) →
   wpAny B.M (A.deeper env) (execs [jSt 3] env) QQ EE s7:=fun {s7 g7 us} F7 h7 gl7 hi7=>by
  refine wpAny_execs_cons ?_;rw[AB5];refine wpAny_Return_some ((F7.name (x:="a_digits") (d:=.val (.ref La)) rfl rfl).useV fun s8 g8 x8=>?_);have F8:=F7.step x8;refine Abm (h7.step x8) fun n8 e8=>?_;have gl8:=h7.none x8 gl7;exact hPost _ _ ⟨_,F8.st.shut sLa e8 gl8 AbT,.list (Gh.put_self ..) (hi7.den)⟩
 -- if a
 refine wpAny_execs_cons ?_;rw[AB4];generalize hρ6:((("inner",.val (.ref ai)) :: ("a_digits",.val (.ref La)) :: [("n",D.int n),("a",D.int a)]:Rho))=ρ6 at F6 fin;have T6:=(AaD W.O (AsN W s g) hA' 8).2 (Aak env.scope.names) env ρ6;have S6:=(AaD W.O (AsN W s g) hA' 8).1 (Aak env.scope.names) env ρ6;refine wpAny_If ((T6 (exprOf (jSt 2)) (a != 0) s6 g6 (by rw[← hρ6];exact AaJ (Aai rfl) rfl) F6).use fun b s7 g7 x7 hb=>?_);have F7:=F6.step x7;have hL7:=hL6.step x7;have gL7:=hL6.none x7 gL6
 by_cases h0:a=0
 ·have:b=false:=by rw[hb,h0];rfl
  subst this;show wpAny _ _ (execs [] env) _ _ _;refine wpAny_execs_nil (fin F7 hL7 gL7 ?_);rw[h0,Ame];exact hcont
 ·have:b=true:=by rw[hb];simpa using h0
  subst this;have hkpos:0<k:=by
   induction k using Nat.casesAuxOn with
   |zero=>rw[Nat.mul_zero] at hak;exfalso;have:a<1:=hak;omega
   |succ k=>omega
  show wpAny _ _ (execs [jC] env) _ _ _;refine wpAny_execs_cons ?_;rw[AEl];refine wpAny_Expr_any ?_ (by unfold interactive;rw[e1];kernel_rfl!) (AsP env);refine wpAny_Call_NameR ((F7.name (x:="inner") (d:=.val (.ref ai)) (by rw[← hρ6];rfl) rfl).useV fun s8 g8 x8=>?_);have F8:=F7.step x8;rw[AaC (by intro e he;simp only[List.mem_cons,List.not_mem_nil,or_false] at he;rcases he with rfl|rfl|rfl<;>rfl)];have C8:=((C6.step x7).step x8);have M8:=((M6.step x7).step x8);have hL8:=hL7.step x8;have gL8:=hL7.none x8 gL7;have H8:IH0 B ai fd (clos env jSc.names []) La n.toNat s8 g8 (List.replicate k 0):=⟨F8.inv,M8,by rw[hnn];exact C8,⟨cs,hL8,hcont⟩,gL8⟩;refine AbU (first:=[]) (P:=fun g' vs=>Aar g' vs [.int a,.int 0,.int k]) (.inr (.inr ⟨ai,_,fd,rfl,M8.obj,rfl⟩)) (by simp) ?_ fun us s9 g9 x9 hus9=>?_
  ·refine Calls.spliced_cons ((S6 (AeU 0 (exprOf jC)) (.int a) s8 g8 (by rw[← hρ6];exact Aai rfl) F8).use fun v9 s9 g9 x9 h9=>?_);have F9:=F8.step x9;refine Calls.spliced_cons ((S6 (AeU 1 (exprOf jC)) (.int 0) s9 g9 (by exact Aaa rfl rfl) F9).use fun v10 s10 g10 x10 h10=>?_);have F10:=F9.step x10;have hk:env.kindOf ("len":Str)=some .globalImplicit:=by unfold Env.kindOf;rw[e1];kernel_rfl!
   refine Calls.spliced_cons (wpAny_Call_NameR ((F10.gname W.O hk (Abr W "len" _ rfl) rfl).use fun fv s11 g11 x11 h11=>?_));subst h11;have F11:=F10.step x11;rw[AaC (by intro e he;simp only[List.mem_cons,List.not_mem_nil,or_false] at he;subst he;rfl)];have hL11:=(((hL8.step x9).step x10).step x11);refine AbU (g:=g11) (first:=[]) (P:=fun _ vs=>vs=[.ref La]) (.inl ⟨_,rfl⟩) (by simp) (Calls.spliced_cons ((F11.name (x:="a_digits") (d:=.val (.ref La)) (by rw[← hρ6];rfl) rfl).use fun v12 s12 g12 x12 h12=>?_)) fun us s12 g12 x12 h12=>?_
   ·induction h12 using Den.valE;exact wpAny_pure ⟨g12,x12,rfl⟩
   ·subst h12;refine Abm (hL11.step x12) fun n12 e12=>?_;have hcsz:cs.size=k:=by have:=hcont.size;simpa using this
    show wpAny _ _ (call (.builtin "len") [.ref La]) _ _ _;refine len_list ⟨_,e12,rfl,_,rfl⟩ (by omega) (wpAny_pure ⟨g12,(((x9.trans x10).trans x11).trans x12).trans (Aae.tok x12.inv _),?_⟩);rw[hcsz];exact .cons (((h9.mono x10.le).mono x11.le).mono x12.le) (.cons ((h10.mono x11.le).mono x12.le) (.cons .int .nil))
  ·have F9:=F8.step x9;have H9:=H8.step x9;have hL9:=hL8.step x9;have gL9:=hL8.none x9 gL8;have e2':((k:Int) - 0).toNat=k:=by rw[Int.sub_zero,Int.toNat_natCast]
   refine wpAny_mono (AB2 (m:=m) W (by omega) 6 (A.deeper env) s9 g9 (List.replicate k 0) a 0 k us (hA'.le (by omega)) H9 (Int.le_refl _) (by omega) (by simp) (by simp;omega) (by simpa using hnk) (by omega) ha (by rw[e2'];exact hak) hus9) (fun v s10 hv=>?_) fun _ _ e=>e.elim
   obtain⟨_,g10,s0,vs0,p,hv0,x10⟩:=hv
   rw[e2',AB6 k _ (Adb _ _ _)] at hv0
   obtain⟨n9,e9⟩:=hL9
   have nl:La≠env.locals:=fun e=>notLocL F9 ⟨n9,e9⟩ (.inl e);have F10:=(F9.turnE W.O sLa gL9 e9 Ada (by intro v e;injection e) nl p.heap.extBut p.gens p.os).step x10;exact wpAny_execs_nil (fin F10 (p.has.step x10) (p.has.none x10 gL9) hv0)
end
section
variable{B:Bs}{n:Nat}
theorem AiX(W:LW B){a:Addr}{fd:FuncData}{params:List Str}{body:List Stmt}{sc:Scope}{k m:Nat}{T:Tb}(Dd:AbX B a fd params body)(hsc:fd.scope=sc)(K:∀ s g,Inv B s g→AbO B n T s g){F':List D→Option D}
  (h:∀ ds r,F' ds=some r→params.length=ds.length∧ex (T.stm (Aak sc.names) sc) (ev T k sc) (Aak sc.names) sc m (params.zip ds).reverse body=some (.ret r)):Abw B (n+1) (.ref a) F':=by
 subst hsc;refine(Acg W.O (k:=k) (m:=m) Dd K).less fun ds r hr=>?_;refine Aaz (h ds r hr) fun h1 h2=>?_;unfold fnD;rw[if_pos h1,h2]
end
noncomputable def AF0:Value→Tok
 |.int _ t=>t
 |_=>0
noncomputable def AyW(p:Params):Tok:=AF0 ((Ak9 p "_DIV_LIMIT").getD .none)
theorem AEm(p:Params):Ak9 p "_DIV_LIMIT"=some (.int 4000 (AyW p)):=by kernel_rfl!
noncomputable def Amf(p:Params)(x:Str):Option Value:=if x = "_DIV_LIMIT" then some (.int 4000 (AyW p)) else Axs.lookup x
noncomputable def Td(p:Params):Tb:=⟨Amf p,AcY [(.builtin "int.bit_length",bBits),(.builtin "divmod",bDivmod)],Abv,fun _ _ _=>none,fun _ _ _ _=>none⟩
theorem AEn{B:Bs}(W:LW B){n:Nat}(s:Shared)(g:Gh)(I:Inv B s g):AbO B n (Td B.w.params) s g where
 glob:=fun x v e=>by
  have e:Amf B.w.params x=some v:=e;unfold Amf at e
  split at e
  ·rename_i h;subst h;exact W.gl _ _ ((AEm _).trans e)
  ·exact Abr W x v e
 app:=fun v F e=>(AaL (n:=n) (fun p hp=>by
  simp only[List.mem_cons,List.not_mem_nil,or_false] at hp
  rcases hp with rfl|rfl
  ·exact Am6
  ·exact Ars W.O) v F e).at I
 spec:=fun _ _ _ _ _ _ _ _ _ e=>by exact Aah e
 stm:=fun _ _ _ _ _ _ _ _ _ _ _ _ e=>by exact Aah e
 meth:=AeH
theorem AB7(p:Params):(Td p).glob "_DIV_LIMIT"=some (.int 4000 (AyW p)):=by have h:(Td p).glob=Amf p:=rfl;rw[h];unfold Amf;rw[if_pos rfl]
noncomputable def div2D:List D→Option D:=fn3 fun x y z=>Acf x fun a=>Acf y fun b=>Acf z fun n=>
 if b≠0∧b.natAbs<1073741824∧((Builtin.Int.intBits a:Nat):Int) - n≤4000 then some (.tup [.int (a.fdiv b),.int (a.fmod b)]) else none
theorem AyX{B:Bs}(W:LW B){n:Nat}:Abw B (n+1) (.ref AcB) div2D:=by
 refine AiX (k:=8) (m:=8) (T:=Td B.w.params) W (Apf W.G) (AgL _) (fun s g I=>AEn W s g I) fun ds r hr=>?_;refine ADx (Aw8 hr) fun x y z q1 k_1=>?_;subst q1;refine Aab (Aap k_1) fun a q2 ka=>?_;subst q2;refine Aab (Aap ka) fun b q3 kb=>?_;subst q3;refine Aab (Aap kb) fun nn q4 kc=>?_;subst q4;refine Aaz (Abg kc) fun hc k_2=>?_;rw[← sj k_2];refine⟨rfl,?_⟩;refine Akd rfl rfl ?_ ?_
 ·apply AaJ;apply Aby rfl rfl
  ·apply Aa6 rfl
   ·exact Adn rfl rfl ⟨rfl,rfl,by decide⟩ (Aai rfl) rfl rfl rfl (Aam rfl) rfl
   ·exact Aai rfl
   ·exact rfl
  ·exact AyJ rfl rfl rfl rfl (AB7 _)
  ·exact ABM hc.2.2
  ·exact rfl
 ·refine Aco rfl rfl ?_;exact Abs rfl (Aax rfl (Aai rfl) (Aax rfl (Aai rfl) (Aam rfl))) (if_pos ⟨hc.1,hc.2.1⟩)
end Mine
namespace Mine
open PySem PySem.W PyProof.Rows PySem.Calls
section
variable{B:Bs}{A:Around}{s₀ s s' s1 s2:Shared}{g₀ g g' g1:Gh}{own:List Str}{env:Env}{ρ ρ':Rho}{La:Addr}{vs vs':Array Value}{n k:Nat}{T:Tb}
theorem Fm.notL(F:Fm B s₀ g₀ own env ρ s g)(h:AeI s.heap La vs):¬ Loc env own La:=by refine Abm h fun n e=>?_;exact F.notLoc e (by intro v e;injection e) (by intro _ _ e;injection e)
theorem Fm.turnL(O:B.Ok)(F:Fm B s₀ g₀ own env ρ s g)(h:AeI s.heap La vs)(h0:s₀.heap.get? La=none)(hg:g La=none)(p:AfU La s vs' s'):Fm B s₀ g₀ own env ρ s' g:=by have nl:=F.notL h;refine Abm h fun n e=>?_;exact F.turnE O h0 hg e Ada (by intro v e;injection e) (fun e=>nl (Or.inl e)) p.heap.extBut p.gens p.os
theorem Fm.shutL(F:Fm B s₀ g₀ own env ρ s g){c:Nat}(e:s.heap.get? La=some (Abc vs c))(h0:s₀.heap.get? La=none)(hg:g La=none){ds:List D}(hd:Aar g vs.toList ds)
  (hρ:∀ y d,ρ'.lookup y=some d→ρ.lookup y=some d∨(ρ.lookup y=some (.val (.ref La))∧d=.list ds)):Fm B s₀ g₀ own env ρ' s (g.put La (Abc vs c)):=by
 have nl:=F.notL ⟨c,e⟩;have le:=Gh.le_put (Abc vs c) hg;have dl:Den (g.put La (Abc vs c)) (.ref La) (.list ds):=.list (Gh.put_self ..) (hd.mono le);refine Aab F.vars fun m hm hv=>?_;refine⟨F.st.shut h0 e hg AbT,F.kind,F.glob,F.blt,⟨m,hm,fun y d ey ky=>?_⟩,fun y hy=>?_,fun y d ey=>?_,⟨F.loc.1,?_⟩,fun y hy=>?_⟩
 ·rcases hρ y d ey with h|⟨h,rfl⟩
  ·refine Aab (hv y d h ky) fun v e1 e2=>?_;exact⟨v,e1,e2.mono le⟩
  ·refine Aab (hv y _ h ky) fun v e1 e2=>?_;induction e2 using Den.valE;exact⟨_,e1,dl⟩
 ·refine Adf (F.cells y hy) fun cc v e1 e2 e3=>?_;refine⟨cc,v,e1,e2,fun d hd'=>?_⟩
  rcases hρ y d hd' with h|⟨h,rfl⟩
  ·refine Aab (e3 d h) fun v' e4 e5=>?_;exact⟨v',e4,e5.mono le⟩
  ·refine Aab (e3 _ h) fun v' e4 e5=>?_;induction e5 using Den.valE;exact⟨_,e4,dl⟩
 ·rcases hρ y d ey with h|⟨h,_⟩<;>exact F.kinds y _ h
 ·rw[Gh.put_other (fun e=>nl (Or.inl e.symm))];exact F.loc.2
 ·refine AAD (F.own y hy) fun cc v e1 e2 e3 e4 e5=>?_;refine⟨cc,v,e1,e2,e3,?_,e5⟩;rw[Gh.put_other (fun e=>nl (Or.inr ⟨y,hy,by rw[← e];exact e1⟩))];exact e4
theorem Aqy(O:B.Ok)(K:AbO B n T s₀ g₀)(hA:AOk n A)(F:Fm B s₀ g₀ own env ρ s g){st:Stmt}{x:Str}{e:Expr}{q1 apos pos p2:Pos}{d:D}(hst:st=.Expr (.Call (.Attribute (.Name x q1) "append" apos) [e] [] pos) p2)
  (hl:(apos.endLine == pos.line)=true) (hns:Abt e=true) (hint:interactive env=false) (hsw:swapsWith (.Call (.Attribute (.Name x q1) "append" apos) [e] [] pos) none p2.line env=pure false)
  (hx:ρ.lookup x=some (.val (.ref La))) (hok:AbA x=true) (he:ev T k env.scope ρ e=some d) (hL:AeI s.heap La vs) (h0:s₀.heap.get? La=none) (hg:g La=none) (hsz:vs.size≤1000000) {Q:Flow→Shared→Prop} {E:Value→Shared→Prop}
  (hq:∀ v s' g',Fm B s₀ g₀ own env ρ s' g'→AeI s'.heap La (vs.push v)→Den g' v d→g' La=none→g.le g'→(∀ a o,a≠La→s.heap.get? a=some o→Abp o→s'.heap.get? a=some o∧(g a=none→g' a=none))→Q .next s'):wpAny B.M A (exec st env) Q E s:=by
 subst hst;have S:=(AaD O K hA k).1 own env ρ;refine wpAny_Expr_any ?_ hint hsw;have hb:backTo pos (starEach [e] env)=[(false,eval e env)]:=AaC (by intro e' he';simp at he';subst he';exact hns);refine wpAny_Call_method (AeQ rfl) ?_ hl PySem.F.plainAttrs_list PySem.F.slot_list_append PySem.F.type_list_append ((F.name hx hok).use fun ov s1 g1 x1 ho=>?_)
 ·rw[hb];rfl
 ·induction ho using Den.valE;have hL1:=hL.step x1;have F1:=F.step x1;refine Abm (id hL1) fun c1 e1=>?_;refine⟨⟨_,e1,rfl⟩,fun a ea=>by cases ea;exact⟨_,e1,rfl⟩,?_⟩;rw[hb];refine AbU (g:=g1) (P:=fun g' vs=>Aar g' vs [d]) (.inl ⟨_,rfl⟩) (by simp) (Calls.spliced_cons ((S e d s1 g1 he F1).use fun v s2 g2 x2 hv=>wpAny_pure ⟨g2,x2,.cons hv .nil⟩)) fun us s2 g2 x2 hus=>?_;induction hus using Aar.consE with|cons hv hn=>?_
  induction hn using Aar.nilE;have F2:=F1.step x2;have hL2:=hL1.step x2;have hg2:=hL1.none x2 (hL.none x1 hg);show wpAny _ _ (call (.builtin "list.append") [.ref La,_]) _ _ _;refine Aqv hL2 hsz fun s3 p3=>?_;exact hq _ s3 g2 (F2.turnL O hL2 h0 hg2 p3) p3.has hv hg2 (x1.le.trans x2.le) fun a o ha ea hn=>⟨p3.keep ha ((x1.trans x2).ext.keep a o ea hn),(x1.trans x2).shutNone ea⟩
theorem Anu(O:B.Ok)(F:Fm B s₀ g₀ own env ρ s g){st:Stmt}{x:Str}{q1 apos pos p2:Pos}(hst:st=.Expr (.Call (.Attribute (.Name x q1) "reverse" apos) [] [] pos) p2)
  (hl:(apos.endLine == pos.line)=true) (hint:interactive env=false) (hsw:swapsWith (.Call (.Attribute (.Name x q1) "reverse" apos) [] [] pos) none p2.line env=pure false)
  (hx:ρ.lookup x=some (.val (.ref La))) (hok:AbA x=true) (hL:AeI s.heap La vs) (h0:s₀.heap.get? La=none) (hg:g La=none) (hsz:vs.size≤1000000) {Q:Flow→Shared→Prop} {E:Value→Shared→Prop}
  (hq:∀ s' g',Fm B s₀ g₀ own env ρ s' g'→AeI s'.heap La vs.reverse→g' La=none→g.le g'→Q .next s'):wpAny B.M A (exec st env) Q E s:=by
 subst hst;refine wpAny_Expr_any ?_ hint hsw;refine wpAny_Call_method (AeQ rfl) rfl hl PySem.F.plainAttrs_list PySem.F.slot_list_reverse PySem.F.type_list_reverse ((F.name hx hok).useV fun s1 g1 x1=>?_);have hL1:=hL.step x1;have F1:=F.step x1;refine Abm (id hL1) fun c1 e1=>?_;have hg1:=hL.none x1 hg;refine⟨⟨_,e1,rfl⟩,fun a ea=>by cases ea;exact⟨_,e1,rfl⟩,?_⟩;refine AbU (g:=g1) (P:=fun g' vs=>vs=[]) (.inl ⟨_,rfl⟩) (fun x hx=>absurd (show x∈([]:List (Bool×Sem Value)) from hx) List.not_mem_nil) (wpAny_pure ⟨g1,Aae.refl F1.inv,rfl⟩) fun us s2 g2 x2 hus=>?_;subst hus;have F2:=F1.step x2;have hL2:=hL1.step x2;refine Abm (id hL2) fun c2 e2=>?_;have hg2:=hL1.none x2 hg1;show wpAny _ _ (call (.builtin "list.reverse") [.ref La]) _ _ _;refine call_meets PySem.F.slot_list_reverse ⟨_,e2,rfl⟩ PySem.F.entry_list_reverse (PySem.F.args_list_reverse_1 _) (AutoListH.list_reverse_list_0 _ vs _ (AaO hsz)) ⟨e2,?_⟩;have p:AfU La s2 vs.reverse {s2 with heap:=s2.heap.update La (Obj.mapSeq fun x=>x.reverse),toks:=s2.toks}:=⟨Heap.SameBut.update ..,⟨_,Heap.get?_update_self _ e2 rfl⟩,rfl,rfl⟩;exact hq _ g2 (F2.turnL O hL2 h0 hg2 p) p.has hg2 (x1.le.trans x2.le)
end
end Mine
namespace Mine
open PySem PySem.W PyProof.Rows PySem.W.X
noncomputable def AiY(b:Int)(n:Nat):List Int→Int→List Int×Int
 |[],r=>([],r)
 |d :: ds,r=>((r*2 ^ n+d) / b :: (AiY b n ds ((r*2 ^ n+d) % b)).1,(AiY b n ds ((r*2 ^ n+d) % b)).2)
theorem Anv(n:Nat)(xs:List Int)(x:Int):Aba n (xs++[x])=Aba n xs+2 ^ (n*xs.length)*x:=by rw[AdY];simp [Aba]
theorem Anw{b:Int}{n:Nat}(hb:0<b)(hbn:b≤2 ^ n):∀ (ds:List Int) (r:Int),(∀ d∈ds,0≤d∧d<2 ^ n)→0≤r→r<b →
  r*2 ^ (n*ds.length)+Aba n ds.reverse=b*Aba n (AiY b n ds r).1.reverse+(AiY b n ds r).2∧0≤(AiY b n ds r).2∧(AiY b n ds r).2<b∧(∀ q∈(AiY b n ds r).1,0≤q∧q<2 ^ n)∧(AiY b n ds r).1.length=ds.length
 |[],r,_,h0,h1=>by simp [AiY,Aba];omega
 |d :: ds,r,hd,h0,h1=>by
  refine Aaz (hd d (.head _)) fun d0 d1=>?_;have hp:(0:Int)<2 ^ n:=Int.pow_pos (by decide);have m0:0≤(r*2 ^ n+d) % b:=Int.emod_nonneg _ (Int.ne_of_gt hb);have m1:(r*2 ^ n+d) % b<b:=Int.emod_lt_of_pos _ hb;refine AAK (Anw hb hbn ds ((r*2 ^ n+d) % b) (fun x hx=>hd x (.tail _ hx)) m0 m1) fun e1 e2 e3 e4 e5=>?_;have x0:0≤r*2 ^ n+d:=Int.add_nonneg (Int.mul_nonneg h0 (Int.le_of_lt hp)) d0;refine⟨?_,e2,e3,fun q hq=>?_,by simp [AiY,e5]⟩
  ·have hlen:(AiY b n ds ((r*2 ^ n+d) % b)).1.reverse.length=ds.length:=by simp [e5]
   simp only[AiY,List.reverse_cons,Anv,hlen,List.length_reverse];have hx:=Int.emod_add_mul_ediv (r*2 ^ n+d) b;have e6:n*(d :: ds).length=n+n*ds.length:=by rw[List.length_cons,Nat.mul_succ,Nat.add_comm]
   rw[e6,Int.pow_add,Int.mul_add,← Int.add_assoc];generalize (r*2 ^ n+d) / b=q at *;generalize (r*2 ^ n+d) % b=m at *;generalize (2:Int) ^ (n*ds.length)=P at *;have:r*(2 ^ n*P)+(Aba n ds.reverse+P*d)=(r*2 ^ n+d)*P+Aba n ds.reverse:=by rw[Int.add_mul,Int.mul_assoc,Int.mul_comm P d,Int.add_comm (Aba n ds.reverse)];exact(Int.add_assoc ..).symm
   rw[Int.add_assoc (r*(2 ^ n*P)),this,← hx,Int.add_mul];have e7:b*q*P=b*(P*q):=by rw[Int.mul_assoc,Int.mul_comm q P]
   rw[e7,Int.add_right_comm,e1,Int.add_right_comm]
  ·rcases List.mem_cons.mp hq with rfl|hq
   ·refine⟨Int.ediv_nonneg x0 (Int.le_of_lt hb),Int.ediv_lt_of_lt_mul hb ?_⟩;have:(r+1)*2 ^ n≤b*2 ^ n:=Int.mul_le_mul_of_nonneg_right (Int.add_one_le_of_lt h1) (Int.le_of_lt hp);rw[Int.add_mul,Int.one_mul] at this;rw[Int.mul_comm (2 ^ n) b];exact Int.lt_of_lt_of_le (Int.add_lt_add_left d1 _) this
   ·exact e4 q hq
theorem AiZ(n:Nat):∀ (k:Nat) (x:Int),0≤x→x<2 ^ (n*k)→Aba n (AdC n k x)=x
 |0,x,h0,h1=>by rw[Nat.mul_zero] at h1;have:x<1:=h1;simp [AdC,Aba];omega
 |k+1,x,h0,h1=>by
  have hp:(0:Int)<2 ^ n:=Int.pow_pos (by decide);have e:n*(k+1)=n+n*k:=by rw[Nat.mul_succ,Nat.add_comm]
  rw[e,Int.pow_add] at h1;rw[AdC,Aba,AiZ n k _ (Int.ediv_nonneg h0 (Int.le_of_lt hp)) (Int.ediv_lt_of_lt_mul hp (by rw[Int.mul_comm];exact h1))];exact Int.emod_add_mul_ediv x _
theorem AeR(n:Nat):∀ (k:Nat) (x:Int),∀ d∈AdC n k x,0≤d∧d<2 ^ n
 |0,x,d,h=>by cases h
 |k+1,x,d,h=>by
  have hp:(0:Int)<2 ^ n:=Int.pow_pos (by decide)
  rcases List.mem_cons.mp h with rfl|h
  ·exact⟨Int.emod_nonneg _ (Int.ne_of_gt hp),Int.emod_lt_of_pos _ hp⟩
  ·exact AeR n k _ d h
theorem Avq{a b:Int}{n k:Nat}(ha:0≤a)(hak:a<2 ^ (n*k))(hb:0<b)(hbn:b≤2 ^ n) :
  Aba n (AiY b n (AdC n k a).reverse 0).1.reverse=a / b∧(AiY b n (AdC n k a).reverse 0).2=a % b:=by
 refine AoR (Anw hb hbn (AdC n k a).reverse 0 (fun d hd=>AeR n k a d (by simpa using hd)) (Int.le_refl _) hb) fun e1 e2 e3 _=>?_;rw[List.reverse_reverse,AiZ n k a ha hak,Int.zero_mul,Int.zero_add] at e1;generalize Aba n (AiY b n (AdC n k a).reverse 0).1.reverse=q at *;generalize (AiY b n (AdC n k a).reverse 0).2=r at *;have h1:a / b=q:=by rw[e1,Int.add_comm,Int.add_mul_ediv_left _ _ (Int.ne_of_gt hb),Int.ediv_eq_zero_of_lt e2 e3,Int.zero_add]
 have h2:=Int.emod_add_mul_ediv a b;rw[h1] at h2;exact⟨h1.symm,(Int.add_left_inj (b*q)).mp ((Int.add_comm r _).trans (e1.symm.trans h2.symm))⟩
noncomputable def mSt(i:Nat):Stmt:=(ABx[i]?).getD AbJ
noncomputable def mB(i:Nat):Stmt:=((loopOf (mSt 4))[i]?).getD AbJ
theorem Avr:ABx=[mSt 0,mSt 1,mSt 2]++[mSt 3,mSt 4,mSt 5,mSt 6,mSt 7]:=by kernel_rfl!
theorem AB8:mSt 3=.Assign [.Name "q_digits" (AaG (mSt 3)).pos] (.List [] (Aat (mSt 3)).pos) (Abf (mSt 3)):=by kernel_rfl!
theorem AB9:mSt 4=.For (.Name "a_digit" (tgtOf (mSt 4)).pos) (.Call (.Name "reversed" (Acw (iterOf (mSt 4)))) [.Name "a_digits" (AeU 0 (iterOf (mSt 4))).pos] [] (iterOf (mSt 4)).pos) ([mB 0]++[mB 1]) [] (Abf (mSt 4)):=by kernel_rfl!
theorem ACa:mB 1=.Expr (.Call (.Attribute (.Name "q_digits" (attrO (attrOf (exprOf (mB 1)))).pos) "append" (attrOf (exprOf (mB 1))).pos) [AeU 0 (exprOf (mB 1))] [] (exprOf (mB 1)).pos) (Abf (mB 1)):=by kernel_rfl!
theorem AyY(env:Env):swapsWith (.Call (.Attribute (.Name "q_digits" (attrO (attrOf (exprOf (mB 1)))).pos) "append" (attrOf (exprOf (mB 1))).pos) [AeU 0 (exprOf (mB 1))] [] (exprOf (mB 1)).pos) none (Abf (mB 1)).line env=pure false:=rfl
theorem ACb:mSt 5=.Expr (.Call (.Attribute (.Name "q_digits" (attrO (attrOf (exprOf (mSt 5)))).pos) "reverse" (attrOf (exprOf (mSt 5))).pos) [] [] (exprOf (mSt 5)).pos) (Abf (mSt 5)):=by kernel_rfl!
theorem AsQ{M:Model}{A:Around}{t:Expr}{it:Value}{i:Int}{u:Tok}{s:Shared}{Q:Unit→Shared→Prop}{E:Value→Shared→Prop}(h:Q () s):wpAny M A (letOwnedTupleGo t it (.int i u)) Q E s:=by induction t using Expr.casesOn<;>first|exact wpAny_pure h|(induction it using Value.casesOn<;>exact wpAny_pure h)
noncomputable def At9(La:Addr)(a b:Int)(n:Nat)(l:List D)(r:Int):Rho:=[(("q_digits":Str),.val (.ref La)),(("r":Str),.int r),(("a_digits":Str),.list l),(("n":Str),.int n),(("b":Str),.int b),(("a":Str),.int a)]
noncomputable def Tm:Tb:=mkT (AcY [(.ref AcB,div2D)]) Abv
theorem AEo{B:Bs}(W:LW B){m:Nat}(s:Shared)(g:Gh)(I:Inv B s g):AbO B (m+1) Tm s g:=AbE W (AaL (al (AyX W) an)) s g I
theorem Avs{La:Addr}{a b:Int}{n:Nat}{l:List D}{r d:Int}(hb:0<b)(hb2:b<1073741824)(hbn:b≤2 ^ n)(hn:n≤30)(hr0:0≤r)(hr1:r<b)(hd0:0≤d)(hd1:d<2 ^ n) :
  ex (Tm.stm (Aak AdS.names) AdS) (ev Tm 8 AdS) (Aak AdS.names) AdS 8 ((("a_digit":Str),.int d) :: At9 La a b n l r) [mB 0] =
   some (.next ((("r":Str),.int ((r*2 ^ n+d) % b)) :: (("q_digit":Str),.int ((r*2 ^ n+d) / b)) :: (("a_digit":Str),.int d) :: At9 La a b n l r)):=by
 have p3:(2:Nat) ^ 64=18446744073709551616:=by decide
 have p4:(2:Int) ^ 64=18446744073709551616:=by decide
 have p2:(2:Int) ^ n≤2 ^ 30:=by
  have:=Nat.pow_le_pow_right (n:=2) (by decide) hn
  exact_mod_cast this
 have p5:(2:Int) ^ 30=1073741824:=by decide
 have hp:(0:Int)<2 ^ n:=Int.pow_pos (by decide);have x0:0≤r*2 ^ n:=Int.mul_nonneg hr0 (Int.le_of_lt hp);have x1:r*2 ^ n≤1073741824*1073741824:=Int.mul_le_mul (Int.le_trans (Int.le_of_lt hr1) (Int.le_of_lt hb2)) p2 (Int.le_of_lt hp) (by decide);have hbits:Builtin.Int.intBits (r*2 ^ n+d)≤64:=intBits_le_64 (Int.lt_of_lt_of_le (by decide) (Int.add_nonneg x0 hd0)) (Int.lt_of_le_of_lt (Int.add_le_add x1 (Int.le_of_lt (Int.lt_of_lt_of_le hd1 p2))) (by decide));have hdiv:div2D [.int (r*2 ^ n+d),.int b,.int n]=some (.tup [.int ((r*2 ^ n+d) / b),.int ((r*2 ^ n+d) % b)]):=by have e1:(r*2 ^ n+d).fdiv b=(r*2 ^ n+d) / b:=Int.fdiv_eq_ediv_of_nonneg _ (Int.le_of_lt hb);have e2:(r*2 ^ n+d).fmod b=(r*2 ^ n+d) % b:=Int.fmod_eq_emod_of_nonneg _ (Int.le_of_lt hb);rw[← e1,← e2];exact if_pos ⟨Int.ne_of_gt hb,Int.ofNat_lt.mp ((Int.natAbs_of_nonneg (Int.le_of_lt hb)).symm ▸ hb2),Int.le_trans (Int.sub_le_self _ (Int.natCast_nonneg n)) (Int.le_trans (Int.ofNat_le.mpr hbits) (by decide))⟩
 refine AyK rfl rfl ⟨rfl,rfl⟩ (ds:=[.int ((r*2 ^ n+d) / b),.int ((r*2 ^ n+d) % b)]) ?_ ?_ (Ab4 rfl)
 ·refine Abs rfl (Aax rfl ?_ (Aax rfl (Aai rfl) (Aax rfl (Aai rfl) (Aam rfl)))) (ds:=[.int (r*2 ^ n+d),.int b,.int n]) hdiv;have hs:r*2 ^ n=r*2 ^ (n:Int).toNat:=by rw[Int.toNat_natCast]
  rw[hs]
  repeat (first
   |exact Aaa rfl rfl
   |exact Aai rfl
   |apply Aa6 rfl
   |exact Ak8 ⟨Int.natCast_nonneg _,Int.le_trans (Int.ofNat_le.mpr hn) (by decide),AyL hr0 (Int.lt_trans hr1 (Int.lt_trans hb2 (by decide)))⟩
   |exact rfl)
 ·rfl
theorem Avt{La:Addr}{a b:Int}{n:Nat}{l:List D}{r r' q d:Int}(x:Str)(e:D)(h:(At9 La a b n l r').lookup x=some e):((("r":Str),D.int r') :: (("q_digit":Str),.int q) :: (("a_digit":Str),.int d) :: At9 La a b n l r).lookup x=some e:=by
 unfold At9 at h ⊢;simp only[Aaf] at h ⊢
 by_cases h1:x=("r":Str)
 ·subst h1;exact h
 ·by_cases h2:x=("q_digit":Str)
  ·subst h2;exact Aah h
  ·by_cases h3:x=("a_digit":Str)
   ·subst h3;exact Aah h
   ·rw[if_neg h1,if_neg h2,if_neg h3];rw[if_neg h1] at h ⊢;exact h
theorem Alc{α:Type}{xs:List α}{i:Nat}(h:i<xs.length):(xs.take (i+1)).reverse=xs[i] :: (xs.take i).reverse:=by rw[List.take_succ_eq_append_getElem h,List.reverse_append];rfl
section
variable{B:Bs}{m:Nat}{s₀:Shared}{g₀:Gh}{A:Around}
structure AEp(B:Bs)(s₀:Shared)(g₀:Gh)(env:Env)(ρ:Rho)(La la It:Addr)(b:Int)(n:Nat)(l:List D)(xs:List Int)(o:Obj)(items:List Value)(QF:List Int)(RF:Int)(i:Nat)(r:Int)(qs:List Int)(us:Array Value)(s:Shared)(g:Gh):Prop where
 hi:i≤xs.length
 F:Fm B s₀ g₀ (Aak AdS.names) env ρ s g
 hit:s.heap.IsRevIter It la ((i:Int) - 1)
 gI:g It=none
 hL:AeI s.heap La us
 hq:AbM us qs
 gL:g La=none
 hr0:0≤r
 hr1:r<b
 hqs:qs.length+i≤60
 hla:g la=some o
 hitems:Aar g items l
 e1:qs++(AiY b n (xs.take i).reverse r).1=QF
 e2:(AiY b n (xs.take i).reverse r).2=RF
theorem AEp.it{B:Bs}{s₀:Shared}{g₀:Gh}{env:Env}{ρ:Rho}{La la It:Addr}{b:Int}{n:Nat}{l:List D}{xs:List Int}{o:Obj}{items:List Value}{QF:List Int}{RF:Int}{i:Nat}{r:Int}{qs:List Int}{us:Array Value}{s:Shared}{g:Gh}
  (V:AEp B s₀ g₀ env ρ La la It b n l xs o items QF RF i r qs us s g):∃ o,s.heap.get? It=some o∧¬ AcK o∧(∀ v,o.data≠.cell v)∧¬ Loc env (Aak AdS.names) It:=by
 refine Adc V.hit fun oi hoi hci hdi=>?_;have hc:∀ v,oi.data≠.cell v:=fun v e=>nomatch hdi.symm.trans e;exact⟨oi,hoi,AaH hci (by decide),hc,V.F.notLoc hoi hc fun _ _ e=>nomatch hdi.symm.trans e⟩
theorem Avu(W:LW B)(hA:AOk (m+1) A){env:Env}(he:env.scope=AdS)(K:AbO B (m+1) Tm s₀ g₀){p:Pos}{La la It:Addr}{a b:Int}{n:Nat}{l:List D}{xs:List Int}{nn0:Nat}{items:Array Value}
  (hl:l=xs.map D.int) (hxs:∀ x∈xs,0≤x∧x<2 ^ n) (hlen:xs.length≤60) (hb:0<b) (hb2:b<1073741824) (hbn:b≤2 ^ n) (hn:n≤30) (gla:g₀ la=none∨True) (h0I:s₀.heap.get? It=none) (h0L:s₀.heap.get? La=none) (hne:It≠La) {QF:List Int} {RF:Int}
  {i:Nat} {r:Int} {qs:List Int} {us:Array Value} {s:Shared} {g:Gh} (hi:i≤xs.length) (F:Fm B s₀ g₀ (Aak AdS.names) env (At9 La a b n l r) s g) (hit:s.heap.IsRevIter It la ((i:Int) - 1)) (gI:g It=none) (hL:AeI s.heap La us) (hq:AbM us qs) (gL:g La=none) (hr0:0≤r) (hr1:r<b) (hqs:qs.length+i≤60)
  (hla:g la=some {cls:=.type "list",data:=.seq items nn0}) (hitems:Aar g items.toList l) (e1:qs++(AiY b n (xs.take i).reverse r).1=QF) (e2:(AiY b n (xs.take i).reverse r).2=RF) :
  codeAny B.M A (.forLoop (.Name "a_digit" p) (.ref It) ([mB 0]++[mB 1]) [] env) (fun res s'=>res=.ok .next∧∃ g' us',Fm B s₀ g₀ (Aak AdS.names) env (At9 La a b n l RF) s' g'∧AeI s'.heap La us'∧AbM us' QF∧g' La=none) s:=by
 refine Arp fun R hR=>AD3 (fun i s=>∃ r qs us g,AEp B s₀ g₀ env (At9 La a b n l r) La la It b n l xs {cls:=.type "list",data:=.seq items nn0} items.toList QF RF i r qs us s g) ?_ ⟨r,qs,us,g,hi,F,hit,gI,hL,hq,gL,hr0,hr1,hqs,hla,hitems,e1,e2⟩;clear F hit gI hL hq gL hr0 hr1 e1 e2 hi hqs hla hitems;intro i s hJ Q E q0 q1;refine Aua hJ fun r qs us g V=>?_;refine Aht V.it fun oi hoi ht hcell nlI=>?_;have nlL:=V.F.notL V.hL;have hL:=V.hL;refine Abm hL fun c0 hL0=>?_;induction i using Nat.casesAuxOn with
 |zero=>
  refine wpAny_pyNext_rev_end hA.handled V.hit fun h' k=>q0 rfl _ (hR _ _ ⟨rfl,g,us,?_,⟨c0,k La _ (Ne.symm hne) hL0⟩,?_,V.gL⟩)
  ·exact(show r=RF from V.e2) ▸ V.F.turnE W.O h0I V.gI hoi ht hcell (fun e=>nlI (.inl e)) k rfl rfl
  ·have:=V.e1;rw[show(xs.take 0).reverse=[] from rfl,show(AiY b n [] r).1=[] from rfl,List.append_nil] at this;exact this ▸ V.hq
 |succ i=>
  have hix:i<xs.length:=V.hi;refine Aab (V.hitems.get (Axu hl hix)) fun v hv1 hv2=>?_;induction hv2 using Den.intE;rename_i tk;have hit:=V.hit;rw[show((i+1:Nat):Int) - 1=(i:Int) from(congrArg (· - 1) (Int.natCast_succ i)).trans (Int.add_sub_cancel _ 1)] at hit;refine Aaz (hxs _ (List.getElem_mem hix)) fun d0 d1=>?_;have e1:=V.e1;have e2:=V.e2;rw[Alc hix] at e1 e2;refine wpAny_pyNext_rev_item hit ⟨_,V.F.inv.get V.hla,rfl,_,rfl⟩ (by simpa using hv1) fun h' hit' hs'=>q1 i rfl _ _ fun X KF E kn _ _ hX=>AsQ ?_;have F1:Fm B s₀ g₀ (Aak AdS.names) env (At9 La a b n l r) {s with heap:=h'} g:=V.F.turnE W.O h0I V.gI hoi ht hcell (fun e=>nlI (.inl e)) hs'.extBut rfl rfl;refine wpAny_assign_Name (F1.store W.O (Abi (by rw[he];kernel_rfl!)) .int fun s2 F2 k2=>hX s2 (Ack ?_));have et:=Avs (La:=La) (a:=a) (l:=l) hb hb2 hbn hn V.hr0 V.hr1 d0 d1;rw[← he] at et F2;refine(AbW W.O K hA 8 _ _ _ s2 g et F2).use fun f s3 g3 l3 en=>?_;rw[en.1];have F3:=en.2;clear en et F2;rw[he] at F3 l3;have a3:=l3.2 La _ nlL (k2 La _ nlL ((hs'.2 La (Ne.symm hne)).trans hL0)) AbT;refine Adc hit' fun oj hoj hcj hdj=>?_;have hntj:=Aal hcj;have i3:=l3.2 It oj nlI (k2 It oj nlI hoj) hntj;have hz:=V.hq.size;refine wpAny_execs_cons (Aqy (k:=8) W.O K hA F3 ACa rfl rfl (by unfold interactive;rw[he];kernel_rfl!) (AyY env) (d:=.int ((r*2 ^ n+xs[i]) / b)) rfl rfl (Aai rfl) ⟨c0,a3.1⟩ h0L (a3.2 V.gL) (by rw[hz];exact Nat.le_trans (Nat.le_add_right _ _) (Nat.le_trans V.hqs (by decide))) fun v s4 g4 F4 hL4 hv4 gL4 le4 keep=>?_);induction hv4 using Den.intE;have q2:=keep It oj hne i3.1 hntj;exact wpAny_execs_nil (kn _ ⟨_,qs++[(r*2 ^ n+xs[i]) / b],_,g4,Nat.le_of_lt hix,F4.weaken Avt,⟨oj,q2.1,hcj,hdj⟩,q2.2 (i3.2 V.gI),hL4,V.hq.push _ _,gL4,
   Int.emod_nonneg _ (Int.ne_of_gt hb),Int.emod_lt_of_pos _ hb,by rw[List.length_append];show _+1+i≤60;rw[Nat.add_assoc,Nat.add_comm 1];exact V.hqs,le4 _ _ (l3.1 _ _ V.hla),(V.hitems.mono l3.1).mono le4,by rw[← e1];simp [AiY],e2⟩).1
end
noncomputable def AyZ(a b:Int):Option D:=
  let n:Nat:=Builtin.Int.intBits b
  let k:Nat:=Aor a n
  if 0≤a∧0<b∧b<1073741824∧b≤2 ^ n∧1≤n∧n≤30∧k≤60∧n*k≤60∧a<2 ^ (n*k) then some (.tup [.int (a / b),.int (a % b)]) else none
noncomputable def dmpD:List D→Option D:=ii AyZ
theorem ACc{B:Bs}{A:Around}{s:Shared}{env:Env}{p:Pos}{Q E:Value→Shared→Prop}(h:Q (.ref s.heap.objs.size) {s with heap:=s.heap.push (Abc #[] 0)}):wpAny B.M A (eval (.List [] p) env) Q E s:=by refine List_ ?_;rw[AaC (by intro e he;cases he)];refine wpAny_pure ?_;exact wpAny_newList h (Nat.zero_le _)
section
variable{B:Bs}{m:Nat}
theorem AsR(W:LW B):Abw B (m+11) (.ref AdR) dmpD:=by
 have D0:=(Ar9 W.G);refine Aab D0.obj fun o ho hdat=>?_;refine⟨.inr (.inr ⟨_,o,_,rfl,ho,hdat⟩),fun A s g vs ds r hA I hd hr=>?_⟩;refine Ad9 (Ao5 hr) fun a b q1 hq=>?_;subst q1;unfold AyZ at hq;dsimp only at hq;generalize hn:Builtin.Int.intBits b=n at hq;generalize hk:Aor a n=k at hq;refine Aaz (Abg hq) fun hc hq2=>?_;have hq2:=sj hq2;subst hq2;refine AE9 hc fun ha hb hb2 hbn hn1 hn30 hk60 hnk hak=>?_;have hlv:=hd.length;refine Af1 W.O D0.to0 D0.scope hA I ?_;rw[D0.bind vs hlv];refine wpAny_pure ⟨g,vs,_,Aae.refl I,rfl,hd,rfl,fun env s1 e1 e2 e3 F=>AeT fun QQ EE hPost=>?_⟩;have hA':AOk (m+10) (A.deeper env):=hA.deeper;have hh:=hA'.handled;rw[Ae4] at e1;rw[Ae4] at F;rw[show Aac (nth AlX)=[mSt 0,mSt 1,mSt 2]++[mSt 3,mSt 4,mSt 5,mSt 6,mSt 7] from Avr];have hρ1:([("a":Str),"b"].zip [D.int a,.int b]).reverse=[(("b":Str),D.int b),(("a":Str),D.int a)]:=rfl;rw[hρ1] at F;generalize hl:(AdC n k a).map D.int=l;have hi2d:i2dD [.int a,.int n]=some (.list l):=by have e:(n:Int).toNat=n:=rfl;show(if 0≤a∧1≤(n:Int)∧(n:Int)≤60∧Aor a n≤60∧(n:Int).toNat*Aor a n≤60∧a<2 ^ ((n:Int).toNat*Aor a n) then some (D.list ((AdC (n:Int).toNat (Aor a n) a).map D.int)) else none)=_;rw[hk,e,if_pos ⟨ha,by omega,by omega,hk60,hnk,hak⟩,hl]
 have K1:AbO B (m+10) (mkT (AcY [(.builtin "int.bit_length",bBits),(.ref Ac5,i2dD)]) Abv) s g:=AbE W (AaL (al Am6 (al ((Axw (m:=m+1) W)) an))) s g I;refine Ack ?_;have ex1:ex ((mkT (AcY [(.builtin "int.bit_length",bBits),(.ref Ac5,i2dD)]) Abv).stm (Aak AdS.names) AdS) (ev (mkT (AcY [(.builtin "int.bit_length",bBits),(.ref Ac5,i2dD)]) Abv) 8 AdS) (Aak AdS.names) AdS 8 [(("b":Str),D.int b),(("a":Str),D.int a)] [mSt 0,mSt 1,mSt 2] =
   some (.next [(("r":Str),.int 0),(("a_digits":Str),.list l),(("n":Str),.int n),(("b":Str),D.int b),(("a":Str),D.int a)]):=by
  refine AcE (d:=.int n) rfl rfl (.inl rfl) ?_ (by kernel_rfl!) ?_
  ·rw[← hn];exact Adn rfl rfl ⟨rfl,rfl,by decide⟩ (Aai rfl) rfl rfl rfl (Aam rfl) rfl
  ·refine AcE (d:=.list l) rfl rfl (.inl rfl) ?_ (by kernel_rfl!) ?_
   ·exact Abs rfl (Aax rfl (Aai rfl) (Aax rfl (Aai rfl) (Aam rfl))) hi2d
   ·exact AcE (d:=.int 0) rfl rfl (.inl rfl) (Aaa rfl rfl) (by kernel_rfl!) (Ab4 rfl)
 have F':=F;rw[show(Aad (nth AlX))=env.scope from e1.symm] at F';rw[show AdS=env.scope from e1.symm] at ex1;refine(AbW W.O K1 hA' 8 _ _ _ s1 g ex1 F').use fun f s2 g2 l2 en=>?_
 obtain⟨rfl,F2⟩:=en
 dsimp only
 -- q_digits=[]
 refine wpAny_execs_cons ?_;rw[AB8];refine Ak6 rfl (ACc ?_);have x3:=Aae.open (o:=Abc #[] 0) W.O F2.inv;have F3:=F2.step x3;have hLa:(s2.heap.push (Abc #[] 0)).get? s2.heap.objs.size=some (Abc #[] 0):=Heap.get?_push_size _ rfl;have sLa:s.heap.get? s2.heap.objs.size=none:=F2.st.ext.dead (AaM _);have gLa:g2 s2.heap.objs.size=none:=F2.inv.fresh;generalize s2.heap.objs.size=La at hLa sLa gLa;refine F3.store W.O (Abi (by rw[e1];kernel_rfl!)) (.val (v:=.ref La)) fun s4 F4 k4=>?_;have hL4:AeI s4.heap La #[]:=⟨0,k4 La _ (F3.notL ⟨0,hLa⟩) hLa⟩
 -- the loop
 refine wpAny_execs_cons ?_;rw[AB9];have hk4:env.kindOf ("reversed":Str)=some .globalImplicit:=by unfold Env.kindOf;rw[e1];kernel_rfl!
 refine wpAny_For (wpAny_Call_NameR ((F4.gname W.O hk4 (Abr W "reversed" _ rfl) rfl).use fun fv s5 g5 x5 h5=>?_)) (fun _=>rfl);subst h5;have F5:=F4.step x5;have hL5:=hL4.step x5;have gL5:=hL4.none x5 gLa;rw[AaC (by intro e he;simp only[List.mem_cons,List.not_mem_nil,or_false] at he;subst he;rfl)];refine AbU (g:=g5) (first:=[]) (P:=fun g' vs=>Aar g' vs [.list l]) (.inr (.inl ⟨_,rfl⟩)) (by simp) (Calls.spliced_cons ((F5.name (x:="a_digits") (d:=.list l) rfl rfl).use fun v6 s6 g6 x6 h6=>wpAny_pure ⟨g6,x6,.cons h6 .nil⟩)) fun us s6 g6 x6 h6=>?_;induction h6 using Aar.consE with|cons h6 hn6=>?_
 induction hn6 using Aar.nilE;induction h6 using Den.listE with|list q1 q2=>?_
 rename_i la items nn0;have F6:=F5.step x6;have hL6:=hL5.step x6;have gL6:=hL5.none x6 gL5;show wpAny _ _ (call (.type "reversed") [.ref la]) _ _ _;refine call_reversed_list ⟨_,F6.inv.get q1,rfl,_,rfl⟩ ?_;have x7:=Aae.open (o:=revObj la ((items.size:Int) - 1)) W.O F6.inv;have F7:=F6.step x7;have hit:(s6.heap.push (revObj la ((items.size:Int) - 1))).IsRevIter s6.heap.objs.size la ((items.size:Int) - 1):=⟨_,Heap.get?_push_size _ rfl,rfl,rfl⟩;refine wpAny_pyIter_revIter hit ?_;have h0I:s.heap.get? s6.heap.objs.size=none:=F6.st.ext.dead (AaM _);have gI:g6 s6.heap.objs.size=none:=F6.inv.fresh;have hL7:=hL6.step x7;have hne:s6.heap.objs.size≠La:=by
  intro e
  obtain⟨c,ec⟩:=hL6
  rw[← e,AaM] at ec;exact Aah ec
 generalize s6.heap.objs.size=It at hit h0I gI hne;have hll:l.length=(AdC n k a).length:=by rw[← hl];simp
 have hdl:=Adb n k a;have hisz:(items.size:Int)=((AdC n k a).length:Int):=by have:=q2.length;rw[Array.length_toList] at this;rw[this,hll]
 have hit':(s6.heap.push (revObj la ((items.size:Int) - 1))).IsRevIter It la (((AdC n k a).length:Int) - 1):=by rw[← hisz];exact hit
 have KT:=AEo (m:=m+9) W s g I;rw[show env.scope=AdS from e1] at F7;refine codeAny_mono (Avu (m:=m+9) W hA' e1 KT (xs:=AdC n k a) hl.symm (AeR n k a) (by rw[hdl];exact hk60) hb hb2 hbn hn30 (.inr trivial) h0I sLa hne (i:=(AdC n k a).length) (r:=0) (qs:=[]) (us:=#[]) (Nat.le_refl _) F7 hit' gI hL7 .nil gL6 (Int.le_refl _) hb (by simp;omega) q1 q2 rfl rfl) fun res s8 hres=>?_
 obtain⟨rfl,g8,us8,F8,hL8,hi8,gL8⟩:=hres
 rw[List.take_length] at F8 hi8;simp only[List.nil_append] at hi8;refine Aaz (Avq (n:=n) (k:=k) ha hak hb hbn) fun m1 m2=>?_;refine AAK (Anw (n:=n) hb hbn (AdC n k a).reverse 0 (fun d hd=>AeR n k a d (by simpa using hd)) (Int.le_refl _) hb) fun _ _ _ mb ml=>?_;rw[m2] at F8;generalize hQ:(AiY b n (AdC n k a).reverse 0).1=qs at hi8 m1 mb ml;have hz8:=hi8.size;rw[List.length_reverse,hdl] at ml
 -- q_digits.reverse()
 rw[show AdS=env.scope from e1.symm] at F8;refine wpAny_execs_cons (Anu W.O F8 ACb rfl (by unfold interactive;rw[e1];kernel_rfl!) rfl rfl rfl hL8 sLa gL8 (Nat.le_trans (Nat.le_of_eq (hz8.trans ml)) (Nat.le_trans hk60 (by decide))) fun s9 g9 F9 hL9 gL9 le9=>?_);have hi9:AbM us8.reverse qs.reverse:=by unfold AbM at hi8 ⊢;rw[Array.toList_reverse,List.map_reverse];exact hi8.reverse
 obtain⟨c9,e9⟩:=hL9
 have F10:=F9.shutL (ρ':=("q_digits",.list (qs.reverse.map D.int)) :: At9 La a b n l (a % b)) e9 sLa gL9 hi9.den (fun y d hy=>by
  rw[Aaf] at hy
  by_cases h:y=("q_digits":Str)
  ·subst h;rw[if_pos rfl] at hy;cases hy;exact .inr ⟨rfl,rfl⟩
  ·rw[if_neg h] at hy;exact .inl hy)
 have K2:AbO B (m+10) (mkT (AcY [(.ref Ade,d2iD)]) Abv) s g:=AbE W (AaL (al (Axv (m:=m+1) W) an)) s g I;have hints:Ab2 (qs.reverse.map D.int)=some qs.reverse:=by
  generalize qs.reverse=zs;induction zs with
  |nil=>rfl
  |cons z zs ih=>exact Aan ih rfl
 have hd2i:d2iD [.list (qs.reverse.map D.int),.int n]=some (.int (a / b)):=by
  have e:(n:Int).toNat=n:=rfl;have hc2:(qs.reverse.all fun x=>decide (0≤x∧x<2 ^ n))=true∧(0:Int)≤(n:Int)∧n*qs.reverse.length≤60∧qs.reverse.length≤64:=by rw[List.length_reverse,ml];exact⟨List.all_eq_true.mpr fun q hq=>decide_eq_true (mb q (by simpa using hq)),by omega,hnk,Nat.le_trans hk60 (by decide)⟩
  exact(Aan hints (ift hc2 (congrArg (fun x:Int=>some (D.int x)) m1)))
 refine wpAny_mono (Acj W.O K2 hA' F10 (k:=8) (m:=8) ?_) hPost fun _ _ e=>e.elim;rw[e1];refine AcE (d:=.int (a / b)) rfl rfl (.inl rfl) ?_ (by kernel_rfl!) ?_
 ·exact Abs rfl (Aax rfl (Aai rfl) (Aax rfl (Aai rfl) (Aam rfl))) hd2i
 ·exact Aco rfl rfl (Afg rfl (Aax rfl (Aai rfl) (Aax rfl (Aai rfl) (Aam rfl))) (by simp))
end
noncomputable def AAG(a b:Int):Option D:=
  let x:=if b<0 then -a else a
  let y:=if b<0 then -b else b
  let z:=if x<0 then Builtin.bitNot x else x
  if b≠0∧(dmpD [.int z,.int y]).isSome=true then some (.tup [.int (a.fdiv b),.int (a.fmod b)]) else none
noncomputable def idmD:List D→Option D:=ii AAG
theorem Aos{a b:Int}(h:(dmpD [.int a,.int b]).isSome=true):dmpD [.int a,.int b]=some (.tup [.int (a / b),.int (a % b)])∧0≤a∧0<b:=by
 have h:(AyZ a b).isSome=true:=h;show AyZ a b=_∧_;unfold AyZ at h ⊢;dsimp only at h ⊢
 split at h
 ·rename_i hc;rw[if_pos hc];exact⟨rfl,hc.1,hc.2.1⟩
 ·injection h
theorem AeJ(x:Int):Builtin.bitNot x=-x - 1:=by unfold Builtin.bitNot;omega
theorem Ay0{x y:Int}(hx:x<0)(hy:0<y):x / y=-((-x - 1) / y) - 1∧x % y=y+(-((-x - 1) % y) - 1):=by have h1:=Int.emod_add_mul_ediv (-x - 1) y;have h2:=Int.emod_nonneg (-x - 1) (Int.ne_of_gt hy);have h3:=Int.emod_lt_of_pos (-x - 1) hy;generalize (-x - 1) / y=q at *;generalize (-x - 1) % y=r at *;exact(Int.ediv_emod_unique hy).mpr ⟨by rw[Int.mul_sub,Int.mul_neg,Int.mul_one];omega,by omega,by omega⟩
noncomputable def idm0:List D→Option D:=ii fun a b=>if (dmpD [.int a,.int b]).isSome=true then some (.tup [.int (a / b),.int (a % b)]) else none
noncomputable def idm1:List D→Option D:=ii fun a b=>if 0<b∧(dmpD [.int (if a<0 then Builtin.bitNot a else a),.int b]).isSome=true then some (.tup [.int (a / b),.int (a % b)]) else none
section
variable{B:Bs}{m:Nat}
theorem Ay1(W:LW B):Abw B (m+12) (.ref Ac6) idm0:=by
 refine AiX (k:=8) (m:=8) (T:=mkT (AcY [(.ref AdR,dmpD)]) Abv) W (AhR W.G) (AdT _) (fun s g I=>AbE W (AaL (al (AsR W) an)) s g I) fun ds r hr=>?_;refine Ad9 (Ao5 hr) fun a b q1 hq=>?_;subst q1;have hr:=hq
 ·refine Aaz (Abg hr) fun hc hr2=>?_
  ·have hr2:=sj hr2;subst hr2;refine Ahs (Aos hc) fun e ha hb=>?_;refine⟨rfl,?_⟩;refine AeG rfl rfl (AaJ (Aby rfl rfl (Aai rfl) (Aaa rfl rfl) (Al9 (Int.ne_of_gt hb))) rfl) ?_;refine AeG rfl rfl (AaJ (Aby rfl rfl (Aai rfl) (Aaa rfl rfl) (Ama (by omega))) rfl) ?_;refine AeG rfl rfl (AaJ (Aby rfl rfl (Aai rfl) (Aaa rfl rfl) (Ama (by omega))) rfl) ?_;exact Aco rfl rfl (Abs rfl (Aax rfl (Aai rfl) (Aax rfl (Aai rfl) (Aam rfl))) e)
theorem AsS(W:LW B):Abw B (m+13) (.ref Ac6) idm1:=by
 refine AiX (k:=8) (m:=8) (T:=mkT (AcY [(.ref AdR,dmpD),(.ref Ac6,idm0)]) Abv) W (AhR W.G) (AdT _) (fun s g I=>AbE W (AaL (al ((AsR (m:=m+1) W)) (al (Ay1 W) an))) s g I) fun ds r hr=>?_;refine Ad9 (Ao5 hr) fun a b q1 hq=>?_;subst q1;have hr:=hq
 ·by_cases hc:0<b∧(dmpD [.int (if a<0 then Builtin.bitNot a else a),.int b]).isSome=true
  ·rw[if_pos hc] at hr
   cases hr
   obtain⟨hb,hc⟩:=hc
   refine⟨rfl,?_⟩;refine AeG rfl rfl (AaJ (Aby rfl rfl (Aai rfl) (Aaa rfl rfl) (Al9 (Int.ne_of_gt hb))) rfl) ?_;refine AeG rfl rfl (AaJ (Aby rfl rfl (Aai rfl) (Aaa rfl rfl) (Ama (by omega))) rfl) ?_
   by_cases ha:a<0
   ·rw[if_pos ha] at hc;refine Akd rfl rfl (AaJ (Aby rfl rfl (Aai rfl) (Aaa rfl rfl) (Axr ha)) rfl) ?_;have e0:idm0 [.int (Builtin.bitNot a),.int b]=some (.tup [.int (Builtin.bitNot a / b),.int (Builtin.bitNot a % b)]):=if_pos hc;refine Aaz (Ay0 ha hb) fun d1 d2=>?_;refine AyK rfl rfl ⟨rfl,rfl⟩ (ds:=[.int (Builtin.bitNot a / b),.int (Builtin.bitNot a % b)]) ?_ rfl ?_
    ·exact Abs rfl (Aax rfl (Asx rfl (Aai rfl) rfl) (Aax rfl (Aai rfl) (Aam rfl))) e0
    ·refine Aco rfl rfl ?_;have f1:a / b=Builtin.bitNot (Builtin.bitNot a / b):=by rw[d1,AeJ,AeJ]
     have f2:a % b=b+Builtin.bitNot (Builtin.bitNot a % b):=by rw[d2,AeJ,AeJ]
     rw[f1,f2];exact Afg rfl (Aax rfl (Asx rfl (Aai rfl) rfl) (Aax rfl (Aa6 rfl (Aai rfl) (Asx rfl (Aai rfl) rfl) rfl) (Aam rfl))) (by simp)
   ·rw[if_neg ha] at hc;refine Ahs (Aos hc) fun e _ _=>?_;refine AeG rfl rfl (AaJ (Aby rfl rfl (Aai rfl) (Aaa rfl rfl) (Ama ha)) rfl) ?_;exact Aco rfl rfl (Abs rfl (Aax rfl (Aai rfl) (Aax rfl (Aai rfl) (Aam rfl))) e)
  ·rw[if_neg hc] at hr;exact Aah hr
theorem Abw.alt{n:Nat}{f:Value}{F1 F2 F':List D→Option D}(h1:Abw B n f F1)(h2:Abw B n f F2)(h:∀ ds r,F' ds=some r→F1 ds=some r∨F2 ds=some r):Abw B n f F':=
 ⟨h1.kp,fun A s g vs ds r hA I hd hr=>(h ds r hr).elim (h1.run A s g vs ds r hA I hd) (h2.run A s g vs ds r hA I hd)⟩
noncomputable def idmN:List D→Option D:=ii fun a b=>if b<0 then idmD [.int a,.int b] else none
theorem Ay2(W:LW B):Abw B (m+14) (.ref Ac6) idmN:=by
 refine AiX (k:=8) (m:=8) (T:=mkT (AcY [(.ref AdR,dmpD),(.ref Ac6,idm1)]) Abv) W (AhR W.G) (AdT _) (fun s g I=>AbE W (AaL (al ((AsR (m:=m+2) W)) (al (AsS W) an))) s g I) fun ds r hr=>?_;refine Ad9 (Ao5 hr) fun a b q1 hq=>?_;subst q1;have hr:=hq
 ·by_cases hb:b<0
  ·rw[if_pos hb] at hr;have hr:AAG a b=some r:=hr;unfold AAG at hr;dsimp only at hr;simp only[if_pos hb] at hr
   by_cases hc:b≠0∧(dmpD [.int (if -a<0 then Builtin.bitNot (-a) else -a),.int (-b)]).isSome=true
   ·rw[if_pos hc] at hr
    cases hr
    refine⟨rfl,?_⟩;have e1:idm1 [.int (-a),.int (-b)]=some (.tup [.int ((-a) / (-b)),.int ((-a) % (-b))]):=if_pos ⟨Int.neg_pos_of_neg hb,hc.2⟩;have f1:a.fdiv b=(-a) / (-b):=by rw[← Int.neg_fdiv_neg,Int.fdiv_eq_ediv_of_nonneg _ (Int.le_of_lt (Int.neg_pos_of_neg hb))]
    have f2:a.fmod b=-((-a) % (-b)):=by have:=Int.neg_fmod_neg a b;rw[Int.fmod_eq_emod_of_nonneg _ (Int.le_of_lt (Int.neg_pos_of_neg hb))] at this;rw[this,Int.neg_neg]
    rw[f1,f2];refine AeG rfl rfl (AaJ (Aby rfl rfl (Aai rfl) (Aaa rfl rfl) (Al9 hc.1)) rfl) ?_;refine Akd rfl rfl (AaJ (Aby rfl rfl (Aai rfl) (Aaa rfl rfl) (Axr hb)) rfl) ?_;refine AyK rfl rfl ⟨rfl,rfl⟩ (ds:=[.int ((-a) / (-b)),.int ((-a) % (-b))]) ?_ rfl ?_
    ·exact Abs rfl (Aax rfl (Asx rfl (Aai rfl) rfl) (Aax rfl (Asx rfl (Aai rfl) rfl) (Aam rfl))) e1
    ·exact Aco rfl rfl (Afg rfl (Aax rfl (Aai rfl) (Aax rfl (Asx rfl (Aai rfl) rfl) (Aam rfl))) (by simp))
   ·rw[if_neg hc] at hr;exact Aah hr
  ·rw[if_neg hb] at hr;exact Aah hr
theorem AsT(W:LW B):Abw B (m+14) (.ref Ac6) idmD:=by
 refine(Ay2 W).alt ((AsS (m:=m) W).up (Nat.add_le_add_left (by decide) _)) fun ds r hr=>?_;have hr0:=hr;refine Ad9 (Ao5 hr) fun a b q1 hq=>?_;subst q1;have hr:=hq;unfold AAG at hr
 ·by_cases hb:b<0
  ·exact .inl ((if_pos hb).trans hr0)
  ·dsimp only at hr;simp only[if_neg hb] at hr
   by_cases hc:b≠0∧(dmpD [.int (if a<0 then Builtin.bitNot a else a),.int b]).isSome=true
   ·rw[if_pos hc] at hr
    cases hr
    refine .inr ?_;have hb0:0<b:=Int.lt_iff_le_and_ne.mpr ⟨Int.not_lt.mp hb,Ne.symm hc.1⟩;rw[Int.fdiv_eq_ediv_of_nonneg _ (Int.le_of_lt hb0),Int.fmod_eq_emod_of_nonneg _ (Int.le_of_lt hb0)];exact if_pos ⟨hb0,hc.2⟩
   ·rw[if_neg hc] at hr;exact Aah hr
end
end Mine
namespace Mine
open PySem PySem.W PyProof.Rows PySem.Calls
section
variable{X:Rho→Stmt→Option Res}{E:Rho→Expr→Option D}{own:List Str}{sc:Scope}{m:Nat}{ρ ρ' ρ'':Rho}{body rest b1 b2:List Stmt}{st:Stmt}{e t it:Expr}{p q:Pos}{d x:D}{r:Res}{y:Str}{items:List D}{F:Rho→Option Res}
theorem AEq:AmY own sc t F [] ρ=some (.next ρ):=rfl
theorem Axx(hb:Acy own sc t d ρ=some ρ')(h:F ρ'=some (.next ρ''))(h2:AmY own sc t F items ρ''=some r):AmY own sc t F (d :: items) ρ=some r:=by exact Aan hb (Aan h h2)
theorem AEr(hb:Acy own sc t d ρ=some ρ')(h:F ρ'=some (.brk ρ'')):AmY own sc t F (d :: items) ρ=some (.next ρ''):=by exact Aan hb (Aan h rfl)
theorem AEs(hb:body=.For t it b1 [] p :: rest)(hx:X ρ (.For t it b1 [] p)=none)(hs:Abu it=true)(h:E ρ it=some x)(hi:AbK x=some items)(hf:AmY own sc t (fun ρ=>ex X E own sc m ρ b1) items ρ=some (.next ρ'))(h2:ex X E own sc m ρ' rest=some r) :
  ex X E own sc (m+1) ρ body=some r:=by
 exact Aoo hb hx (ift hs (Aan h (Aan hi hf))) h2
theorem ACd{h0:ExceptHandler}{hs:List ExceptHandler}(hb:body=.Try b1 (h0 :: hs) [] [] p :: rest)(hx:X ρ (.Try b1 (h0 :: hs) [] [] p)=none)(h:ex X E own sc m ρ b1=some (.next ρ'))(h2:ex X E own sc m ρ' rest=some r) :
  ex X E own sc (m+1) ρ body=some r:=by
 exact Aoo hb hx h h2
theorem Ay3{h0:ExceptHandler}{hs:List ExceptHandler}(hb:body=.Try b1 (h0 :: hs) [] [] p :: rest)(hx:X ρ (.Try b1 (h0 :: hs) [] [] p)=none)(h:ex X E own sc m ρ b1=some (.ret d)) :
  ex X E own sc (m+1) ρ body=some (.ret d):=by
 exact Aoo hb hx h rfl
theorem Axy{op:Operator}{a b:Str}(hb:body=.AugAssign (.Name y q) op e p :: rest)(hx:X ρ (.AugAssign (.Name y q) op e p)=none)(hok:AbA y=true∧okT own sc y=true)(h1:ρ.lookup y=some (.str a))(h:E ρ e=some (.str b))(h3:AmM op (.str a) (.str b)=some d)(h2:ex X E own sc m ((y,d) :: ρ) rest=some r) :
  ex X E own sc (m+1) ρ body=some r:=by
 exact Aoo hb hx (ift ⟨rfl,hok.1,hok.2⟩ (Aan h1 (Aan h (Aan h3 rfl)))) h2
theorem AEt(hb:body=.Break p :: rest)(hx:X ρ (.Break p)=none):ex X E own sc (m+1) ρ body=some (.brk ρ):=by exact Aoo hb hx rfl rfl
theorem Ay4(hb:body=.If t b1 b2 p :: rest)(hx:X ρ (.If t b1 b2 p)=none)(h:Aa9 (E ρ) t=some true)(h2:ex X E own sc m ρ b1=some (.brk ρ')):ex X E own sc (m+1) ρ body=some (.brk ρ'):=by exact Aoo hb hx (Aan h h2) rfl
theorem ACe(hb:body=st :: rest)(hx:X ρ st=some (.next ρ'))(h2:ex X E own sc m ρ' rest=some r):ex X E own sc (m+1) ρ body=some r:=by subst hb;show(orR (X ρ st) _).bind _=_;rw[hx];exact h2
end
section
variable{T:Tb}{n:Nat}{sc:Scope}{ρ:Rho}{E:Expr→Option D}{e:Expr}{es:List Expr}{p:Pos}{a b:D}{op:BoolOp}
theorem AeY{vs:List Expr}{d:D}(he:e=.BoolOp op vs p)(h:AfX op (ev T n sc ρ) vs=some d):ev T (n+1) sc ρ e=some d:=by subst he;exact r_0 rfl h
theorem Ald(he:es=[e])(h:E e=some a):AfX op E es=some a:=by subst he;exact h
theorem Aot{e2:Expr}{r:List Expr}(he:es=e :: e2 :: r)(h:E e=some a)(ht:Ab9 a=some false)(h2:AfX .Or E (e2 :: r)=some b):AfX .Or E es=some b:=by subst he;exact Aan h (Aan ht ((if_neg Bool.noConfusion).trans h2))
theorem Anx{e2:Expr}{r:List Expr}(he:es=e :: e2 :: r)(h:E e=some a)(ht:Ab9 a=some true)(h2:AfX .And E (e2 :: r)=some b):AfX .And E es=some b:=by subst he;exact Aan h (Aan ht ((if_neg Bool.noConfusion).trans h2))
theorem AsU{e2:Expr}{r:List Expr}(he:es=e :: e2 :: r)(h:E e=some a)(ht:Ab9 a=some false):AfX .And E es=some a:=by subst he;exact Aan h (Aan ht (if_pos rfl))
end
end Mine
namespace Mine
open PySem PySem.W PyProof.Rows PySem.W.X
noncomputable def fspD:List D→Option D:=fn1 fun a=>AdH a fun x=>some (.str x)
noncomputable def sepD:List D→Option D:=fn1 fun a=>AdH a fun _=>some (.str "/")
section
variable{B:Bs}{m:Nat}
theorem Aou(W:LW B):Abw B (m+1) (.ref AdV) fspD:=by
 refine AiX (k:=8) (m:=8) (T:=mkT (AcY [(.type "type",bType),(.builtin "issubclass",bIss)]) Abv) W (Ash W.G) (AhS _) (fun s g I=>AbE W (AaL (al Aye (al AA5 an))) s g I) fun ds r hr=>?_;refine Aab (AlL hr) fun a0 q1 k_1=>?_;subst q1;refine Aab (AaN k_1) fun x q1 k_2=>?_;subst q1;have k_2:=sj k_2;subst k_2;refine⟨rfl,?_⟩;refine AcE (d:=.val (.type "str")) rfl rfl (.inl rfl) ?_ (by kernel_rfl!) ?_
 ·exact Abs rfl (Aax rfl (Aai rfl) (Aam rfl)) rfl
 ·refine Akd rfl rfl (AaJ (d:=.bool true) ?_ rfl) (Aco rfl rfl (Aai rfl));exact Abs rfl (Aax rfl (Aai rfl) (Aax rfl (Afg rfl (Aax rfl (AeW rfl rfl rfl rfl rfl rfl) (Aax rfl (AeW rfl rfl rfl rfl rfl rfl) (Aam rfl))) (by simp)) (Aam rfl))) rfl
theorem Axz(W:LW B):Abw B (m+1) (.ref Aem) sepD:=by refine AiX (k:=8) (m:=8) (T:=mkT (AcY [(.builtin "isinstance",bIsi)]) Abv) W (Asj W.G) (AhT _) (fun s g I=>AbE W (AaL (al Axd an)) s g I) fun ds r hr=>?_;refine Aab (AlL hr) fun a0 q1 k_1=>?_;subst q1;refine Aab (AaN k_1) fun x q1 k_2=>?_;subst q1;have k_2:=sj k_2;subst k_2;refine⟨rfl,?_⟩;refine AeG rfl rfl (AaJ (d:=.bool false) ?_ rfl) (Aco rfl rfl (Aaa rfl rfl));exact Abs rfl (Aax rfl (Aai rfl) (Aax rfl (AeW rfl rfl rfl rfl rfl rfl) (Aam rfl))) rfl
end
noncomputable def joiD:List D→Option D:=fn2 fun x y=>AdH x fun a=>AdH y fun b=>
 if a.cps.size≤100000∧b.cps.size≤100000∧a.cps.size≠0∧Txt.startswith b "/"=false then
   (if Txt.endswith a "/"=true then some (.str (a++b)) else some (.str (a++(("/":Str)++b)))) else none
noncomputable def Tj:Tb:=mkT (AcY [(.ref AdV,fspD),(.ref Aem,sepD),(.builtin "str.startswith",bStartswith),(.builtin "str.endswith",bEndswith)]) Abv
theorem Ai0(a b:Str):(a++b).cps.size=a.cps.size+b.cps.size:=by show(a.cps++b.cps).size=_;simp
theorem Amg{x:Str}(h:x.cps.size≤1000000):Ab9 (.str x)=some ((x.cps.size:Int) != 0):=if_pos h
theorem Avv{a b:Str}{r:D}(h:joiD [.str a,.str b]=some r):ABI Tj 12 12 ["a","p"] Au7 AgZ [.str a,.str b]=some r:=by
 refine Aaz (Abg h) fun hc h=>?_
 ·refine AoR hc fun h1 h2 h3 h4=>?_;have hta:Ab9 (.str a)=some true:=by rw[Amg (by omega)];congr 1;exact bne_iff_ne.mpr (by omega)
  show fnD Tj 12 12 ["a","p"] Au7 AgZ [.str a,.tup [.str b]]=some r;unfold fnD;rw[if_pos (show([("a":Str),"p"].length=[D.str a,D.tup [.str b]].length) from rfl)];have key:ex (Tj.stm (Aak AgZ.names) AgZ) (ev Tj 12 AgZ) (Aak AgZ.names) AgZ 12 ([("a":Str),"p"].zip [D.str a,D.tup [D.str b]]).reverse Au7=some (.ret r):=by
   refine AcE (d:=.str a) rfl rfl (.inl rfl) ?_ (by kernel_rfl!) ?_
   ·exact Abs rfl (Aax rfl (Aai rfl) (Aam rfl)) rfl
   refine AcE (d:=.str "/") rfl rfl (.inl rfl) ?_ (by kernel_rfl!) ?_
   ·exact Abs rfl (Aax rfl (Aai rfl) (Aam rfl)) rfl
   refine AcE (d:=.str a) rfl rfl (.inl rfl) (Aai rfl) (by kernel_rfl!) ?_;have hcond:unD .Not (.str a)=some (.bool false):=Aan hta rfl;have bd:∀ (c:Str) (e:Bool),Txt.endswith a "/"=e→(if e=true then a++b else a++(("/":Str)++b))=c →
     ex (Tj.stm (Aak AgZ.names) AgZ) (ev Tj 12 AgZ) (Aak AgZ.names) AgZ 12 ([("a":Str),"p"].zip [D.str a,D.tup [D.str b]]).reverse Au7=some (.ret (.str c)):=by
    intro c e he hce;refine AcE (d:=.str a) rfl rfl (.inl rfl) ?_ (by kernel_rfl!) ?_
    ·exact Abs rfl (Aax rfl (Aai rfl) (Aam rfl)) rfl
    refine AcE (d:=.str "/") rfl rfl (.inl rfl) ?_ (by kernel_rfl!) ?_
    ·exact Abs rfl (Aax rfl (Aai rfl) (Aam rfl)) rfl
    refine AcE (d:=.str a) rfl rfl (.inl rfl) (Aai rfl) (by kernel_rfl!) ?_;refine ACd rfl rfl (AEs rfl rfl rfl (Aai rfl) rfl (Axx (ρ'':=("path",.str c) :: ("b",.str b) :: ("b",.str b) :: ("path",.str a) :: ("sep",.str "/") :: ("a",.str a) :: ([("a":Str),"p"].zip [D.str a,D.tup [D.str b]]).reverse) rfl ?_ AEq) (Ab4 rfl)) (Aco rfl rfl (Aai rfl));refine AcE (d:=.str b) rfl rfl (.inl rfl) ?_ (by kernel_rfl!) ?_
    ·exact Abs rfl (Aax rfl (Aai rfl) (Aam rfl)) rfl
    refine AcF rfl rfl (AaJ (d:=.bool false) (AeY rfl (Aot (a:=.bool false) rfl ?_ rfl (Ald rfl (Asx rfl (Aai rfl) hcond)))) rfl) ?_ (Ab4 rfl)
    ·refine Adn rfl rfl ⟨rfl,rfl,by decide⟩ (Aai rfl) rfl rfl rfl (Aax rfl (Aai rfl) (Aam rfl)) ?_;show some (D.bool (Txt.startswith b "/"))=some (.bool false);rw[h4]
    ·have hend:∀ ρ:Rho,ρ.lookup ("path":Str)=some (.str a)→True:=fun _ _=>trivial;induction e using Bool.casesOn with
     |true=>
      subst hce;refine AsF rfl rfl (AaJ (d:=.bool true) (Adn rfl rfl ⟨rfl,rfl,by decide⟩ (Aai rfl) rfl rfl rfl (Aax rfl (Aai rfl) (Aam rfl)) (by show some (D.bool (Txt.endswith a "/"))=_;rw[he])) rfl) ?_ (Ab4 rfl);exact Axy rfl rfl ⟨rfl,by kernel_rfl!⟩ rfl (Aai rfl) (if_pos (by omega)) (Ab4 rfl)
     |false=>
      subst hce;refine AcF rfl rfl (AaJ (d:=.bool false) (Adn rfl rfl ⟨rfl,rfl,by decide⟩ (Aai rfl) rfl rfl rfl (Aax rfl (Aai rfl) (Aam rfl)) (by show some (D.bool (Txt.endswith a "/"))=_;rw[he])) rfl) ?_ (Ab4 rfl);have hsz:(("/":Str)++b).cps.size=1+b.cps.size:=Ai0 _ _;exact Axy rfl rfl ⟨rfl,by kernel_rfl!⟩ rfl (Aa6 rfl (Aai rfl) (Aai rfl) (if_pos (by show 1+_≤_;omega))) (if_pos (by omega)) (Ab4 rfl)
   cases he:Txt.endswith a "/" with
   |true=>rw[he,if_pos rfl] at h;cases h;exact bd _ true he rfl
   |false=>rw[he,if_neg (by decide)] at h;cases h;exact bd _ false he rfl
  rw[key]
section
variable{B:Bs}{m:Nat}
theorem ACf(W:LW B):Abw B (m+2) (.ref AeC) joiD:=by have h:=AyI (T:=Tj) (k:=12) (m:=12) (n:=m+1) (x:="a") (y:="p") W.O (Ap1 W.G) (by rw[AhU];exact Ava) (fun x0 x1=>Ap2 _ x0 x1) (fun s g I=>AbE W (AaL (al (Aou W) (al (Axz W) (al AdP (al Am5 an))))) s g I);refine h.less fun ds r hr=>?_;refine Ad9 (AgH hr) fun a0 b0 q1 k_1=>?_;refine Aab (AaN k_1) fun x q2 k_2=>?_;refine Aab (AaN k_2) fun y q3 k_3=>?_;subst q1;subst q2;subst q3;rw[AhU];exact Avv hr
end
noncomputable def splD:List D→Option D:=fn1 fun a=>AdH a fun p=>
  let i:=Txt.rfind p "/"+1
  let h:=Txt.slice p none (some i)
  let t:=Txt.slice p (some i) none
  if p.cps.size≤1000 then
   (if h.cps.size=0 then some (.tup [.str h,.str t]) else match AmN .NotEq (.str h) (.str (Txt.mul "/" h.cps.size)) with
    |some true=>some (.tup [.str (Txt.rstripChars h "/"),.str t])
    |some false=>some (.tup [.str h,.str t])
    |none=>none) else none
noncomputable def Ts:Tb:=mkT (AcY [(.ref AdV,fspD),(.ref Aem,sepD),(.builtin "str.rfind",bRfind),(.builtin "str.rstrip",bRstrip),(.builtin "len",bLen)]) Abv
section
variable{B:Bs}{m:Nat}
theorem ACg(W:LW B):Abw B (m+2) (.ref Aen) splD:=by
 refine AiX (k:=12) (m:=12) (T:=Ts) W (Asm W.G) (AhV _) (fun s g I=>AbE W (AaL (al (Aou W) (al (Axz W) (al Aun (al Arq (al Aj5 an)))))) s g I) fun ds r hr=>?_;refine Aab (AlL hr) fun a0 q1 hr_1=>?_;subst q1;refine Aab (AaN hr_1) fun p q1 hr_2=>?_;subst q1
 ·dsimp only at hr_2
  by_cases hp:p.cps.size≤1000
  ·rw[if_pos hp] at hr_2;refine⟨rfl,?_⟩;generalize hi:Txt.rfind p "/"+1=i at hr_2;have hle:=Txt.slice_le p none (some i);generalize hh:Txt.slice p none (some i)=h at hr_2 hle;generalize ht:Txt.slice p (some i) none=t at hr_2;refine AcE (d:=.str p) rfl rfl (.inl rfl) ?_ (by kernel_rfl!) ?_
   ·exact Abs rfl (Aax rfl (Aai rfl) (Aam rfl)) rfl
   refine AcE (d:=.str "/") rfl rfl (.inl rfl) ?_ (by kernel_rfl!) ?_
   ·exact Abs rfl (Aax rfl (Aai rfl) (Aam rfl)) rfl
   refine AcE (d:=.int i) rfl rfl (.inl rfl) ?_ (by kernel_rfl!) ?_
   ·rw[← hi];exact Aa6 rfl (Adn rfl rfl ⟨rfl,rfl,by decide⟩ (Aai rfl) rfl rfl rfl (Aax rfl (Aai rfl) (Aam rfl)) rfl) (Aaa rfl rfl) rfl
   refine ABN rfl rfl (by kernel_rfl!) (ds:=[.str h,.str t]) ?_ rfl ?_
   ·refine Afg rfl (Aax rfl ?_ (Aax rfl ?_ (Aam rfl))) (by simp)
    ·rw[← hh];exact AdX rfl (Aai rfl) (AbS rfl) (AeX rfl (Aai rfl)) (AbS rfl) (if_pos (by omega))
    ·rw[← ht];exact AdX rfl (Aai rfl) (AeX rfl (Aai rfl)) (AbS rfl) (AbS rfl) (if_pos (by omega))
   have hl:h.cps.size≤1000:=Nat.le_trans hle hp;have hth:Ab9 (.str h)=some ((h.cps.size:Int) != 0):=Amg (by omega)
   by_cases h0:h.cps.size=0
   ·rw[if_pos h0] at hr_2
    cases hr_2
    have hth':Ab9 (.str h)=some false:=by rw[hth,h0];rfl
    refine AcF rfl rfl (AaJ (AeY rfl (AsU rfl (Aai rfl) hth')) hth') (Ab4 rfl) ?_;exact Aco rfl rfl (Afg rfl (Aax rfl (Aai rfl) (Aax rfl (Aai rfl) (Aam rfl))) (by simp))
   ·rw[if_neg h0] at hr_2;have hth':Ab9 (.str h)=some true:=by rw[hth];congr 1;exact bne_iff_ne.mpr (by omega)
    have hcmp:∀ c,AmN .NotEq (.str h) (.str (Txt.mul "/" h.cps.size))=some c→True:=fun _ _=>trivial
    cases hc:AmN .NotEq (.str h) (.str (Txt.mul "/" h.cps.size)) with
    |none=>rw[hc] at hr_2;exact Aah hr_2
    |some c=>
     rw[hc] at hr_2;have hmul:AmM .Mult (.str "/") (.int h.cps.size)=some (.str (Txt.mul "/" h.cps.size)):=if_pos ⟨by decide,by omega,by omega⟩;have hlen:bLen [.str h]=some (.int h.cps.size):=if_pos (by omega);induction c using Bool.casesOn with
     |true=>
      cases hr_2
      refine AsF rfl rfl (AaJ (d:=.bool true) (AeY rfl (Anx rfl (Aai rfl) hth' (Ald rfl (Aby rfl rfl (Aai rfl) (Aa6 rfl (Aai rfl) (Abs rfl (Aax rfl (Aai rfl) (Aam rfl)) hlen) hmul) hc)))) rfl) (AcE (d:=.str (Txt.rstripChars h "/")) rfl rfl (.inl rfl) (Adn rfl rfl ⟨rfl,rfl,by decide⟩ (Aai rfl) rfl rfl rfl (Aax rfl (Aai rfl) (Aam rfl)) (if_pos (by omega))) (by kernel_rfl!) (Ab4 rfl)) ?_;exact Aco rfl rfl (Afg rfl (Aax rfl (Aai rfl) (Aax rfl (Aai rfl) (Aam rfl))) (by simp))
     |false=>
      cases hr_2
      refine AcF rfl rfl (AaJ (d:=.bool false) (AeY rfl (Anx rfl (Aai rfl) hth' (Ald rfl (Aby rfl rfl (Aai rfl) (Aa6 rfl (Aai rfl) (Abs rfl (Aax rfl (Aai rfl) (Aam rfl)) hlen) hmul) hc)))) rfl) (Ab4 rfl) ?_;exact Aco rfl rfl (Afg rfl (Aax rfl (Aai rfl) (Aax rfl (Aai rfl) (Aam rfl))) (by simp))
  ·rw[if_neg hp] at hr_2;exact Aah hr_2
end
noncomputable def Avw(p:Params):Addr:=match Ak9 p "_initial_missing" with
 |some (.ref a)=>a
 |_=>0
theorem Ay5(p:Params):Ak9 p "_initial_missing"=some (.ref (Avw p)):=by kernel_rfl!
theorem Avx(p:Params):(match (hpL p).lookup (Avw p) with|some o=>o.cls == .type "object" && !(tabA.contains (Avw p))|none=>false)=true:=by kernel_rfl!
theorem ACh:Ahn b_red:=by refine⟨_,_,_,_,_,_,_,_,_,_,_,_,_,_,_,_,_,_,_,⟨_,_,_,_,_,_,rfl⟩,rfl⟩
theorem Ay6:okT (Aak AlZ.names) AlZ "it"=true∧okT (Aak AlZ.names) AlZ "value"=true∧okT (Aak AlZ.names) AlZ "element"=true:=⟨by kernel_rfl!,by kernel_rfl!,by kernel_rfl!⟩
theorem ACi:AlZ.names.lookup ("iter":Str)=some .globalImplicit∧AlZ.names.lookup ("_initial_missing":Str)=some .globalImplicit:=⟨by kernel_rfl!,by kernel_rfl!⟩
theorem Ay7{B:Bs}(W:LW B):AyH B Ab3 (Aaj B.w.params Ab3) b_red (Avw B.w.params) where
 d0:=ApL W.G
 is:=ACh
 sc:=by rw[AdU];exact AuX
 bind:=fun A s g a b c Q E I hq=>by
  have hk:Frag.In [(dfl B.w.params Ab3,AaX B.w.params (dfl B.w.params Ab3))] s.heap:=fun x o e=>by
   rw[List.lookup_cons] at e
   cases hx:x == dfl B.w.params Ab3 with
   |true=>
    rw[hx] at e;cases e;have:=eq_of_beq hx;subst this;have hn:dfl B.w.params Ab3 ∉ tabA:=by simpa using Asf B.w.params
    exact I.get (I.base _ _ (W.G.inG _ _ (Ase _) hn))
   |false=>rw[hx] at e;exact Aah e
  exact fun Γ p hΓ=>wp_of_peek (K:=[(dfl B.w.params Ab3,AaX B.w.params (dfl B.w.params Ab3))]) hk hq _ (AuY B.w.params _ a b c)
 lit:=by rw[AdU];exact Ay6
 giter:=⟨by rw[AdU];exact ACi.1,Abr W "iter" _ rfl⟩
 gmiss:=⟨by rw[AdU];exact ACi.2,W.gl _ _ (Ay5 _)⟩
 om:=by
  have h:=Avx B.w.params
  split at h
  ·rename_i o e;rw[Bool.and_eq_true] at h;exact⟨o,W.G.inG _ _ e (by simpa using h.2),eq_of_beq h.1⟩
  ·injection h
section
variable{B:Bs}{n:Nat}
theorem ACj(W:LW B){Φ:Addr→Option (List D→Option D)}(hΦ:∀ a F,Φ a=some F→Abw B n (.ref a) F):Abw B (n+1) (.ref Ab3) (AEg Φ):=Asv W.O (Ay7 W) hΦ
end
theorem AsV:mroOf (.type "map")=pure [.type "map",.type "object"]:=by rw[mroOf_type];kernel_rfl!
theorem AjR:typeLookup (.type "map") "__new__"=pure (some (.builtin "map.__new__")):=by rw[typeLookup_type,builtinLookup_eq_fast];kernel_rfl!
theorem Ay8:isSubtype (.type "map") (.type "map")=pure true:=by rw[isSubtype_type];kernel_rfl!
theorem Ale:entryFor table "map.__new__"=some Builtin.«map.__new__»:=entryFor_of_tree (by kernel_rfl!)
theorem Amh(a b:Value):checkTypeCall "map" ⟨[a,b],[]⟩=pure ():=by kernel_rfl!
theorem Any(a b:Value):checkBuiltinCall "map.__new__" ⟨[.type "map",a,b],[]⟩=pure ():=by kernel_rfl!
theorem Alf(f l:Addr)(items:Array Value)(n:Nat) :
  Meets (Builtin.«map.__new__» ⟨[.type "map",.ref f,.ref l],[]⟩) (fun _ R s=>s.heap.get? l=some {cls:=.type "list",dict:=none,data:=.seq items n,slots:=#[]} ∧
   ∀ h',(∀ a o,s.heap.get? a=some o→h'.get? a=some o)→h'.get? s.heap.objs.size=some {cls:=.type "list_iterator",data:=.fields #[.ref l,.int 0 0]}→h'.get? (s.heap.objs.size+1)=some {cls:=.type "tuple",data:=.seq #[.ref s.heap.objs.size]} →
    h'.get? (s.heap.objs.size+2)=some {cls:=.type "map",data:=.fields #[.ref (s.heap.objs.size+1),.ref f]}→R (.ok (.ret (.ref (s.heap.objs.size+2)))) {s with heap:=h'}):=
 .of_wp fun prog w A R s h=>by
  obtain⟨hp,g,d,tk,os⟩:=s;refine Aaz h fun hl h=>?_
  have hsub:=Ay8;have hL:Heap.IsList (Shared.heap ⟨hp,g,d,tk,os⟩) l items:=⟨_,hl,rfl,n,rfl⟩
  wp_walk using wpAny_loadPart' hl,wpAny_pyIter_list hL
  refine⟨_,rfl,?_⟩;have e1:(hp.push {cls:=.type "list_iterator",data:=.fields #[.ref l,.int 0 0]}).objs.size=hp.objs.size+1:=Heap.size_push ..;have e2:((hp.push {cls:=.type "list_iterator",data:=.fields #[.ref l,.int 0 0]}).push {cls:=.type "tuple",data:=.seq #[.ref hp.objs.size]}).objs.size=hp.objs.size+2:=(Heap.size_push ..).trans (congrArg (·+1) e1);have k2:=Heap.get?_push_size (hp.push {cls:=.type "list_iterator",data:=.fields #[.ref l,.int 0 0]}) (o:={cls:=.type "tuple",data:=.seq #[.ref hp.objs.size]}) rfl;have k3:=Heap.get?_push_size ((hp.push {cls:=.type "list_iterator",data:=.fields #[.ref l,.int 0 0]}).push {cls:=.type "tuple",data:=.seq #[.ref hp.objs.size]}) (o:={cls:=.type "map",data:=.fields #[.ref (hp.objs.size+1),.ref f]}) rfl;rw[e1] at k2;rw[e2] at k3;have h:=h _ (fun a o e=>Heap.get?_push_of_some _ (Heap.get?_push_of_some _ (Heap.get?_push_of_some _ e))) (Heap.get?_push_of_some _ (Heap.get?_push_of_some _ (Heap.get?_push_size _ rfl))) (Heap.get?_push_of_some _ k2) k3;show R (.ok (.ret (.ref ((hp.push {cls:=.type "list_iterator",data:=.fields #[.ref l,.int 0 0]}).push {cls:=.type "tuple",data:=.seq #[.ref hp.objs.size]}).objs.size))) ⟨((hp.push {cls:=.type "list_iterator",data:=.fields #[.ref l,.int 0 0]}).push {cls:=.type "tuple",data:=.seq #[.ref hp.objs.size]}).push {cls:=.type "map",data:=.fields #[.ref (hp.push {cls:=.type "list_iterator",data:=.fields #[.ref l,.int 0 0]}).objs.size,.ref f]},g,d,tk,os⟩;rw[e1,e2];exact h
theorem Alg:Slot "map" "__init__" "object.__init__":=
 .of (owner:="object") (n:="__init__") (by rw[typeLookup_type,builtinLookup_eq_fast];kernel_rfl!) (by decide +kernel) (by decide +kernel) (by decide +kernel)
  (by first|exact .inl (by decide +kernel)|exact .inr (by decide +kernel)) (by rw[isSubtype_type];kernel_rfl!)
theorem Aqz:TypeCalled "map" "map.__new__" "object.__init__":=
 ⟨by decide +kernel,by decide +kernel,⟨_,_,AsV⟩,madeBy_type AsV AjR (by decide +kernel),by decide +kernel,by rw[isSubtype_type];kernel_rfl!,Alg⟩
theorem Avy{prog:Program}{w:World}{A:Around}{E:Value→Shared→Prop}{s:Shared}{f l:Addr}{items:Array Value}{n:Nat}{Q:Value→Shared→Prop}(hl:s.heap.get? l=some {cls:=.type "list",dict:=none,data:=.seq items n,slots:=#[]})
  (h:∀ h',(∀ a o,s.heap.get? a=some o→h'.get? a=some o)→h'.get? s.heap.objs.size=some {cls:=.type "list_iterator",data:=.fields #[.ref l,.int 0 0]}→h'.get? (s.heap.objs.size+1)=some {cls:=.type "tuple",data:=.seq #[.ref s.heap.objs.size]} →
    h'.get? (s.heap.objs.size+2)=some {cls:=.type "map",data:=.fields #[.ref (s.heap.objs.size+1),.ref f]}→Q (.ref (s.heap.objs.size+2)) {s with heap:=h'}):wpAny (model prog w) A (call (.type "map") [.ref f,.ref l]) Q E s:=
 callType_new Aqz (by decide) (Amh _ _) (Any _ _) (fun obj=>F.args_object_init_3 obj _ _) Ale (Alf f l items n) ⟨hl,fun h' k k1 k2 k3=>⟨⟨_,k3,rfl⟩,h h' k k1 k2 k3⟩⟩
theorem Acl:Slot "map" "__next__" "map.__next__":=
 .of (owner:="map") (n:="__next__") (by rw[typeLookup_type,builtinLookup_eq_fast];kernel_rfl) (by decide +kernel) (by decide +kernel) (by decide +kernel)
  (by first|exact .inl (by decide +kernel)|exact .inr (by decide +kernel)) (by rw[isSubtype_type];kernel_rfl)
theorem AeZ:entryFor table "map.__next__"=some Builtin.«map.__next__»:=entryFor_of_tree (by kernel_rfl)
theorem Ami:Manifest.owners.lookup (String.ofList ['p','a','m'].reverse)=some Manifest.sig_map:=by kernel_rfl
theorem AeK(a:Value):argsOk "map.__next__" ⟨[a],[]⟩:=by unfold argsOk;rw[signature?_of (id:="map.__next__") (n:=['_','_','t','x','e','n','_','_']) (o:=['p','a','m']) (by kernel_rfl) Ami];kernel_rfl
theorem AfK:Slot "map" "__iter__" "map.__iter__":=
 .of (owner:="map") (n:="__iter__") (by rw[typeLookup_type,builtinLookup_eq_fast];kernel_rfl) (by decide +kernel) (by decide +kernel) (by decide +kernel)
  (by first|exact .inl (by decide +kernel)|exact .inr (by decide +kernel)) (by rw[isSubtype_type];kernel_rfl)
theorem Ai1(a:Value):argsOk "map.__iter__" ⟨[a],[]⟩:=by unfold argsOk;rw[signature?_of (id:="map.__iter__") (n:=['_','_','r','e','t','i','_','_']) (o:=['p','a','m']) (by kernel_rfl) Ami];kernel_rfl
theorem AjS:entryFor table "map.__iter__"=some Builtin.«dict_keyiterator.__iter__»:=
 entryFor_alias (id':="dict_keyiterator.__iter__") (by kernel_rfl) (by first|rfl|decide +kernel|(unfold String.splitOn;simp +decide [String.splitOnAux])) (by decide +kernel) (by kernel_rfl)
theorem AsW:typeLookup (.type "map") "__len__"=pure none:=by rw[typeLookup_type,builtinLookup_eq_fast];kernel_rfl
theorem AqA:typeLookup (.type "map") "__length_hint__"=pure none:=by rw[typeLookup_type,builtinLookup_eq_fast];kernel_rfl
noncomputable def ADC(P:Prop):Prop:=P
theorem AsX{P:Prop}(h:ADC P):P:=h
section
variable{B:Bs}{A:Around}{s₀ s:Shared}{g₀ g:Gh}{n:Nat}
theorem Avz(O:B.Ok){f Mp tp It l:Addr}{i:Nat}{vs:Array Value}{nl:Nat}{F:List D→Option D}{v:Value}{d r:D}(hf:Abw B n (.ref f) F)(hA:AOk n A.in1)(x:Aae B s₀ g₀ s g)(h0:s₀.heap.get? It=none)(hg:g It=none)
  (hM:s.heap.get? Mp=some ⟨.type "map",none,.fields #[.ref tp,.ref f],#[]⟩) (hT:s.heap.get? tp=some ⟨.type "tuple",none,.seq #[.ref It] 0,#[]⟩) (hI:s.heap.IsListIter It l i) (hl:g l=some {cls:=.type "list",data:=.seq vs nl}) (hv:vs[i]?=some v) (hd:Den g v d) (hr:F [d]=some r)
  {Q:Option Value→Shared→Prop} {E:Value→Shared→Prop} (hq:∀ v' s' g',Aae B s₀ g₀ s' g'→Den g' v' r→g.le g'→g' It=none→s'.heap.IsListIter It l (i+1)→(∀ a o,a≠It→s.heap.get? a=some o→Abp o→s'.heap.get? a=some o∧(g a=none→g' a=none))→Q (some v') s') :
  wpAny B.M A (pyNext (.ref Mp)) Q E s:=by
 have hTy:s.TypeIs (.ref Mp) "map":=⟨_,hM,rfl⟩;unfold pyNext;refine wpAny_bind (wpAny_attempt (wpAny_callSpecial?_slot (name:=Str.ofString "__next__") hTy Acl (wpAny_call_entry Acl hTy AeZ ?_ (AeK _))));unfold Builtin.«map.__next__»
 repeat (first
  |(with_reducible refine wpAny_bind (wpAny_field hM rfl rfl ?_))
  |(with_reducible refine wpAny_bind (wpAny_seqItems hT rfl ?_))
  |((with_reducible show wpAny _ _ (Builtin.SmallTypes.nextOf _) _ _ _);refine AsX ?_)
  |wp_step)
 unfold ADC;have hLs:s.heap.IsList l vs:=⟨_,x.inv.get hl,rfl,_,rfl⟩;refine wpAny_nextOf_list_item hI hLs hv fun h' hI' hs'=>?_;refine Adc (id hI) fun oI hoI hcI hdI=>?_;have x1:Aae B s₀ g₀ {s with heap:=h'} g:=x.turn O h0 hg hoI (AaH hcI (by decide)) hs' rfl rfl;have nMI:Mp≠It:=by intro q1;subst q1;rw[hM] at hoI;cases hoI;simp at hcI
 have nTI:tp≠It:=by intro q2;subst q2;rw[hT] at hoI;cases hoI;simp at hcI
 have hM1:h'.get? Mp=_:=(hs'.2 Mp nMI).trans hM
 repeat (first
  |(with_reducible refine wpAny_bind (wpAny_field hM1 rfl rfl ?_))
  |((with_reducible show wpAny _ _ (call _ _) _ _ _);refine AsX ?_)
  |wp_step)
 unfold ADC;show wpAny _ _ (call (.ref f) [v]) _ _ _;refine(hf.run A.in1 _ g [v] [d] r hA x1.inv (.cons hd .nil) hr).use fun v' s2 g2 x2 hv'=>?_;refine wpAny_bind (wpAny_letGo (wpAny_pure ⟨v',rfl,wpAny_pure ?_⟩));refine Adc (id hI') fun oJ hoJ hcJ hdJ=>?_;refine hq v' s2 g2 (x1.trans x2) hv' x2.le (x2.shutNone hoJ hg) ⟨oJ,x2.ext.keep _ _ hoJ (Aal hcJ),hcJ,hdJ⟩ fun a o ha e hn=>?_;have e1:h'.get? a=some o:=(hs'.2 a ha).trans e;exact⟨x2.ext.keep a o e1 hn,x2.shutNone e1⟩
theorem Ay9(O:B.Ok){f Mp tp It l:Addr}{i:Nat}{vs:Array Value}{nl:Nat}(hh:A.handled=none)(x:Aae B s₀ g₀ s g)(h0:s₀.heap.get? It=none)(hg:g It=none)
  (hM:s.heap.get? Mp=some ⟨.type "map",none,.fields #[.ref tp,.ref f],#[]⟩) (hT:s.heap.get? tp=some ⟨.type "tuple",none,.seq #[.ref It] 0,#[]⟩) (hI:s.heap.IsListIter It l i) (hl:g l=some {cls:=.type "list",data:=.seq vs nl}) (hv:vs[i]?=none)
  {Q:Option Value→Shared→Prop} {E:Value→Shared→Prop} (hq:∀ s',Aae B s₀ g₀ s' g→(∀ a o,a≠It→s.heap.get? a=some o→s'.heap.get? a=some o)→Q none s') :
  wpAny B.M A (pyNext (.ref Mp)) Q E s:=by
 have hTy:s.TypeIs (.ref Mp) "map":=⟨_,hM,rfl⟩;unfold pyNext;refine wpAny_bind (wpAny_attempt (wpAny_callSpecial?_slot (name:=Str.ofString "__next__") hTy Acl (wpAny_call_entry Acl hTy AeZ ?_ (AeK _))));unfold Builtin.«map.__next__»
 repeat (first
  |(with_reducible refine wpAny_bind (wpAny_field hM rfl rfl ?_))
  |(with_reducible refine wpAny_bind (wpAny_seqItems hT rfl ?_))
  |((with_reducible show wpAny _ _ (Builtin.SmallTypes.nextOf _) _ _ _);refine AsX ?_)
  |wp_step)
 unfold ADC;have hLs:s.heap.IsList l vs:=⟨_,x.inv.get hl,rfl,_,rfl⟩;refine wpAny_nextOf_list_end (by first|exact hh|(show A.in1.handled=none;exact hh)) hI hLs hv fun h' e k he=>?_;refine Adc (id hI) fun oI hoI hcI hdI=>?_;refine Aab he fun oe hoe hce=>?_;have x1:Aae B s₀ g₀ {s with heap:=h'} g:=x.turnE O h0 hg hoI (AaH hcI (by decide)) k rfl rfl;dsimp only;refine wpAny_bind (wpAny_isInstance (T:="StopIteration") (b:=true) ⟨oe,hoe,hce⟩ isSubtype_stop ?_);rw[if_pos rfl];exact wpAny_pure (hq _ x1 fun a o ha e=>k a o ha e)
end
noncomputable def AvA(F:List D→Option D):List D→Option (List D)
 |[]=>some []
 |d :: ds=>(F [d]).bind fun r=>(AvA F ds).bind fun rs=>some (r :: rs)
theorem AfL{α:Type}{l:List α}{i:Nat}{x:α}{r:List α}(h:l.drop i=x :: r):l[i]?=some x∧l.drop (i+1)=r:=by
 refine⟨?_,?_⟩
 ·rw[← List.head?_drop,h];rfl
 ·rw[← List.drop_drop,h];rfl
section
variable{B:Bs}{A:Around}{s₀ s:Shared}{g₀ g:Gh}{n:Nat}
theorem AqB(O:B.Ok){f Mp tp It l S:Addr}{vs:Array Value}{nl:Nat}{F:List D→Option D}{res:Value}(hf:Abw B n (.ref f) F)(hA:AOk n A.in1.in1)(h0:s₀.heap.get? It=none)(h0S:s₀.heap.get? S=none)(hSI:S≠It)(hMI:Mp≠It)(hTI:tp≠It)(hSM:S≠Mp)(hST:S≠tp) :
  ∀ (ds:List D) (i:Nat) (rs:List D) (acc:Array Value) (as:List D) (c:Nat) (s:Shared) (g:Gh),Aae B s₀ g₀ s g→g It=none→s.heap.get? Mp=some ⟨.type "map",none,.fields #[.ref tp,.ref f],#[]⟩→s.heap.get? tp=some ⟨.type "tuple",none,.seq #[.ref It] 0,#[]⟩ →
   s.heap.IsListIter It l i→g l=some {cls:=.type "list",data:=.seq vs nl}→Aar g (vs.toList.drop i) ds→AvA F ds=some rs→s.heap.get? S=some (Abc acc c)→g S=none→Aar g acc.toList as→acc.size+ds.length≤1000 →
   codeAny B.M A (.builtin "list.extend.loop" ⟨[.ref S,.ref Mp,res],[]⟩) (fun r s'=>r=.ok (.ret res)∧∃ g' acc' c',Aae B s₀ g₀ s' g'∧s'.heap.get? S=some (Abc acc' c')∧Aar g' acc'.toList (as++rs)∧g' S=none) s:=by
 intro ds;induction ds with
 |nil=>
  intro i rs acc as c s g x gI hM hT hI hl hd hr hS gS ha hz;have hr:=sj hr;subst hr;refine codeAny_builtin PySem.F.entry_extend_loop ?_;rw[Around.under_plainId PySem.F.plain_extend_loop _];show wpAny _ A.in1 (pyNext (.ref Mp) >>= _) _ _ s;have hv:vs[i]?=none:=by have:=hd.length;simp only[List.length_drop,Array.length_toList,List.length_nil] at this;simp;omega
  refine wpAny_bind (Ay9 (A:=A.in1) O hA.handled x h0 gI hM hT hI hl hv fun s' x' k=>?_);rw[List.append_nil];exact wpAny_pure ⟨rfl,g,acc,c,x',k S _ hSI hS,ha,gS⟩
 |cons d ds ih=>
  intro i rs acc as c s g x gI hM hT hI hl hd hr hS gS ha hz;refine Aab (Aag hr) fun r er hr1=>?_;refine Aab (Aag hr1) fun rs' ers hr2=>?_;have hr2:=sj hr2;subst hr2;refine codeAny_builtin PySem.F.entry_extend_loop ?_;rw[Around.under_plainId PySem.F.plain_extend_loop _];show wpAny _ A.in1 (pyNext (.ref Mp) >>= _) _ _ s
  cases e:vs.toList.drop i with
  |nil=>rw[e] at hd;cases hd using Aar.consE
  |cons v rest=>
   rw[e] at hd
   cases hd using Aar.consE with|cons hv hrest=>?_
   refine Aaz (AfL e) fun e1 e2=>?_;refine wpAny_bind (Avz (A:=A.in1) O hf hA x h0 gI hM hT hI hl (by simpa using e1) hv er fun v' s2 g2 x2 hv' le gI2 hI2 keep=>?_);have hS2:=(keep S _ hSI hS AbT);show wpAny _ A.in1 (updateSeq S (·.push v') >>= _) _ _ _;have hsz:acc.size+(ds.length+1)≤1000:=hz;refine wpAny_bind (wpAny_updateSeq hS2.1 rfl ?_ (by exact AaO (by omega)) (by show(acc.push v').size≤sizeLine+1;rw[Array.size_push];have:=AaO (n:=acc.size) (by omega);omega));have sb:Heap.SameBut S s2.heap (s2.heap.update S (Obj.mapSeq (·.push v'))):=Heap.SameBut.update ..;have x3:Aae B s₀ g₀ {s2 with heap:=s2.heap.update S (Obj.mapSeq (·.push v'))} g2:=x2.turn O h0S (hS2.2 gS) hS2.1 Ada sb rfl rfl;refine Adc (id hI2) fun oJ hoJ hcJ hdJ=>?_;refine wpAny_pure ⟨plainId_quiet PySem.F.plain_extend_loop _,?_⟩;refine codeAny_mono (ih (i+1) rs' (acc.push v') (as++[r]) _ _ g2 x3 gI2 ((sb.2 Mp (Ne.symm hSM)).trans (keep Mp _ hMI hM (Aal rfl)).1) ((sb.2 tp (Ne.symm hST)).trans (keep tp _ hTI hT (Aal rfl)).1)
    ⟨oJ,(sb.2 It (Ne.symm hSI)).trans hoJ,hcJ,hdJ⟩ (le _ _ hl) (by rw[e2];exact hrest.mono le) ers (Heap.get?_update_self _ hS2.1 rfl) (hS2.2 gS) (by rw[Array.toList_push];exact(ha.mono le).append (.cons hv' .nil)) (by rw[Array.size_push];omega)) fun res s' h=>?_
   rw[List.append_assoc] at h;exact h
theorem Anz(O:B.Ok){f Mp tp It l:Addr}{vs:Array Value}{nl:Nat}{F:List D→Option D}{ds rs:List D}(hf:Abw B n (.ref f) F)(hA:AOk n A.in1.in1)(h0:s₀.heap.get? It=none)(hMI:Mp≠It)(hTI:tp≠It)
  (x:Aae B s₀ g₀ s g) (gI:g It=none) (hM:s.heap.get? Mp=some ⟨.type "map",none,.fields #[.ref tp,.ref f],#[]⟩) (hT:s.heap.get? tp=some ⟨.type "tuple",none,.seq #[.ref It] 0,#[]⟩)
  (hI:s.heap.IsListIter It l 0) (hl:g l=some {cls:=.type "list",data:=.seq vs nl}) (hd:Aar g vs.toList ds) (hr:AvA F ds=some rs) (hz:ds.length≤1000) {Q:List Value→Shared→Prop} {E:Value→Shared→Prop}
  (hq:∀ vs' s' g',Aae B s₀ g₀ s' g'→Aar g' vs' rs→Q vs' s'):wpAny B.M A (collect (.ref Mp)) Q E s:=by
 have hTy:∀ {s:Shared},s.heap.get? Mp=some ⟨.type "map",none,.fields #[.ref tp,.ref f],#[]⟩→s.TypeIs (.ref Mp) "map":=fun h=>⟨_,h,rfl⟩;have live:∀ {a:Addr} {o:Obj},s.heap.get? a=some o→a≠s.heap.objs.size:=fun e=>Nat.ne_of_lt (Heap.lt_size e);have hSM:=(live hM).symm;have hST:=(live hT).symm;have hSI:s.heap.objs.size≠It:=by refine Aab hI fun o ho _=>?_;exact(live ho).symm
 have h0S:s₀.heap.get? s.heap.objs.size=none:=x.ext.dead (AaM _);unfold collect;refine wpAny_bind (wpAny_runValue (codeAny_builtin PySem.F.entry_proto_collect ?_));rw[Around.under_plainId PySem.F.plain_proto_collect _];show wpAny _ A.in1 (newList [] >>= fun l=>again (.builtin "list.__iadd__" ⟨[l,.ref Mp],[]⟩)) _ _ s;refine wpAny_bind (wpAny_newObj_type ?_);refine wpAny_pure ⟨plainId_quiet PySem.F.plain_list_iadd _,codeAny_builtin PySem.F.entry_list_iadd ?_⟩;rw[Around.under_plainId PySem.F.plain_list_iadd _];have x1:=x.trans (Aae.open (o:=Abc #[] 0) O x.inv);have k1:∀ a o,s.heap.get? a=some o→(s.heap.push (Abc #[] 0)).get? a=some o:=fun a o e=>Heap.get?_push_of_some _ e;have hM1:=k1 _ _ hM;show wpAny _ A.in1 (Builtin.List.listExtendWith (.ref s.heap.objs.size) (.ref Mp) (.ref s.heap.objs.size)) _ _ _;unfold Builtin.List.listExtendWith;refine wpAny_bind (wpAny_typeOf (hTy hM1) ?_);have h1:Builtin.List.listSameRef (.ref s.heap.objs.size) (.ref Mp)=false:=by simp [Builtin.List.listSameRef,hSM]
 have h2:(Value.type "map" == Value.type "list")=false:=by decide
 have h3:(Value.type "map" == Value.type "tuple")=false:=by decide
 simp only[h1,h2,h3,Bool.or_false,Bool.false_eq_true,if_false];have iter:∀ {Q:Value→Shared→Prop} {E:Value→Shared→Prop} {s:Shared},s.heap.get? Mp=some ⟨.type "map",none,.fields #[.ref tp,.ref f],#[]⟩→Q (.ref Mp) s→wpAny B.M A.in1 (pyIter (.ref Mp)) Q E s:=fun {Q E s} hM hq=>by
  refine wpAny_pyIter_slot (hTy hM) AfK (wpAny_call_entry AfK (hTy hM) AjS ?_ (Ai1 _));show wpAny _ _ (ret (.ref Mp)) _ _ s;exact wpAny_pure ⟨_,rfl,"map",_,hTy hM,Acl.lookup,hq⟩
 refine wpAny_bind (iter hM1 ?_);refine wpAny_bind (wpAny_holding ?_);unfold Builtin.List.listLengthHint;refine wpAny_bind (wpAny_specialOf (hTy hM1) AsW ?_);show wpAny _ A.in1 (specialOf (Value.ref Mp) (Str.ofString "__length_hint__") >>= _) _ _ _;refine wpAny_bind (wpAny_specialOf (hTy hM1) AqA ?_);refine wpAny_pure ?_;show wpAny _ A.in1 (rule "list.extend.makes-room" >>= fun _=>Builtin.List.listTouch (.ref s.heap.objs.size) >>= fun _=>
  again (.builtin "list.extend.loop" ⟨[.ref s.heap.objs.size,.ref Mp,.ref s.heap.objs.size],[]⟩)) _ _ _
 refine wpAny_bind (wpAny_rule ?_);generalize hS0:s.heap.objs.size=S at hSM hST hSI h0S;have hS₁:(s.heap.push (Abc #[] 0)).get? S=some (Abc #[] 0):=by rw[← hS0];exact Heap.get?_push_size _ rfl
 have gS:g S=none:=by rw[← hS0];exact x.inv.fresh
 refine wpAny_bind ?_;show wpAny _ A.in1 (updateSeq S (·.push .none) >>= fun _=>updateSeq S (·.pop)) _ _ _;refine wpAny_bind (wpAny_updateSeq hS₁ rfl ?_);have hS₂:=Heap.get?_update_self (Obj.mapSeq (·.push Value.none)) hS₁ rfl;refine wpAny_updateSeq hS₂ rfl ?_;have hS₃:=Heap.get?_update_self (Obj.mapSeq (·.pop)) hS₂ rfl;have sb1:Heap.SameBut S (s.heap.push (Abc #[] 0)) ((s.heap.push (Abc #[] 0)).update S (Obj.mapSeq (·.push Value.none))):=Heap.SameBut.update ..;have sb2:Heap.SameBut S ((s.heap.push (Abc #[] 0)).update S (Obj.mapSeq (·.push Value.none))) (((s.heap.push (Abc #[] 0)).update S (Obj.mapSeq (·.push Value.none))).update S (Obj.mapSeq (·.pop))):=Heap.SameBut.update ..;have sb:=sb1.trans sb2;have x2:Aae B s₀ g₀ {s with heap:=((s.heap.push (Abc #[] 0)).update S (Obj.mapSeq (·.push Value.none))).update S (Obj.mapSeq (·.pop))} g:=x1.turn O h0S gS hS₁ Ada sb rfl rfl;refine Adc (id hI) fun oI hoI hcI hdI=>?_;refine wpAny_pure ⟨plainId_quiet PySem.F.plain_extend_loop _,codeAny_mono (AqB (A:=A) O (res:=.ref S) hf hA h0 h0S hSI hMI hTI hSM hST ds 0 rs #[] [] _ _ g x2 gI ((sb.2 Mp (Ne.symm hSM)).trans hM1) ((sb.2 tp (Ne.symm hST)).trans (k1 _ _ hT))
  ⟨oI,(sb.2 It (Ne.symm hSI)).trans (k1 _ _ hoI),hcI,hdI⟩ hl hd hr hS₃ gS .nil (by simpa using hz)) fun r s' h=>?_⟩
 obtain⟨rfl,g',acc',c',x3,hS',ha',gS'⟩:=h
 show wpAny _ A (load S >>= _) _ _ s';refine wpAny_bind (wpAny_load hS' ?_);exact wpAny_pure (hq _ s' g' x3 (by simpa using ha'))
end
theorem Ai2{F:List D→Option D}:∀ {ds rs:List D},AvA F ds=some rs→rs.length=ds.length
 |[],rs,h=>by have h:=sj h;subst h;rfl
 |d :: ds,rs,h=>by
  refine Aab (Aag h) fun r _ h1=>?_;refine Aab (Aag h1) fun rs' e h2=>?_;have h2:=sj h2;subst h2;exact congrArg Nat.succ (Ai2 e)
section
variable{B:Bs}{A:Around}{s₀ s:Shared}{g₀ g:Gh}{n:Nat}
theorem AjT(O:B.Ok){f Mp tp It l:Addr}{vs:Array Value}{nl:Nat}{F:List D→Option D}{ds rs:List D}(hf:Abw B n (.ref f) F)(hA:AOk n A.in1.in1.in1)(h0:s₀.heap.get? It=none)(hMI:Mp≠It)(hTI:tp≠It)
  (x:Aae B s₀ g₀ s g) (gI:g It=none) (hM:s.heap.get? Mp=some ⟨.type "map",none,.fields #[.ref tp,.ref f],#[]⟩) (hT:s.heap.get? tp=some ⟨.type "tuple",none,.seq #[.ref It] 0,#[]⟩)
  (hI:s.heap.IsListIter It l 0) (hl:g l=some {cls:=.type "list",data:=.seq vs nl}) (hd:Aar g vs.toList ds) (hr:AvA F ds=some rs) (hz:ds.length≤1000) {Q:Value→Shared→Prop} {E:Value→Shared→Prop}
  (hq:∀ t s' g',Aae B s₀ g₀ s' g'→Den g' (.ref t) (.tup rs)→s'.TypeIs (.ref t) "tuple"→Q (.ref t) s') :
  codeAny B.M A (.call (.builtin "tuple.__new__") ⟨[.type "tuple",.ref Mp],[]⟩) (wants Q E) s:=by
 refine codeAny_of_tree ?_;show wpAny _ A.in1 (do checkBuiltinCall "tuple.__new__" ⟨[.type "tuple",.ref Mp],[]⟩;again (.builtin "tuple.__new__" ⟨[.type "tuple",.ref Mp],[]⟩)) _ _ s;refine wpAny_bind (wpAny_of_eq (PySem.F.newCall_tuple_1 _) (wpAny_pure ⟨plainId_quiet PySem.F.plain_tuple_new _,codeAny_builtin PySem.F.entry_tuple_new ?_⟩));rw[Around.under_plainId PySem.F.plain_tuple_new _];have hsub:=sub_tuple_self;have hinit:=init_tuple_lookup;have hmh:=madeHere_tuple;have hTI':s.TypeIs (.ref Mp) "map":=⟨_,hM,rfl⟩
 wp_walk using wpAny_typeOf hTI',Anz O hf hA h0 hMI hTI x gI hM hT hI hl hd hr hz
 intro vs' s' g' x' hd';show wpAny _ _ (Builtin.Tuple.tupleExact vs'.toArray >>= fun v=>ret v) _ _ _;unfold Builtin.Tuple.tupleExact;have hlen:vs'.length=rs.length:=hd'.length;have hrl:rs.length=ds.length:=Ai2 hr;refine wpAny_bind (wpAny_newObj_type ?_ (by show vs'.toArray.size≤sizeLine;rw[List.size_toArray,hlen,hrl];exact AaO (by omega)));refine wpAny_pure ?_;refine Aab (Adg (B:=B) O x'.inv (vs:=vs'.toArray) (ds:=rs) (by simpa using hd')) fun g2 x2 hd2=>?_;exact hq _ _ g2 (x'.trans x2) hd2 ⟨_,Heap.get?_push_size _ rfl,rfl⟩
theorem AjU(O:B.Ok){f Mp tp It l:Addr}{vs:Array Value}{nl:Nat}{F:List D→Option D}{ds rs:List D}(hf:Abw B n (.ref f) F)(hA:AOk (n+1) A)(h0:s₀.heap.get? It=none)(hMI:Mp≠It)(hTI:tp≠It)
  (x:Aae B s₀ g₀ s g) (gI:g It=none) (hM:s.heap.get? Mp=some ⟨.type "map",none,.fields #[.ref tp,.ref f],#[]⟩) (hT:s.heap.get? tp=some ⟨.type "tuple",none,.seq #[.ref It] 0,#[]⟩)
  (hI:s.heap.IsListIter It l 0) (hl:g l=some {cls:=.type "list",data:=.seq vs nl}) (hd:Aar g vs.toList ds) (hr:AvA F ds=some rs) (hz:ds.length≤1000) {Q:Value→Shared→Prop} {E:Value→Shared→Prop}
  (hq:∀ v s' g',Aae B s₀ g₀ s' g'→Den g' v (.tup rs)→Q v s'):wpAny B.M A (call (.type "tuple") [.ref Mp]) Q E s:=by
 have hA':AOk n A.in1.in1.in1.in1.in1:=hA.to (k:=5) hA.handled (Nat.le_add_right _ _) rfl (by decide);refine callType_codes (Q₁:=fun obj s₁=>s₁.TypeIs obj "tuple"∧Q obj s₁) PySem.F.called_tuple (PySem.F.typeCall_tuple_1 _) PySem.F.entry_object_init
  (AjT O hf ?_ h0 hMI hTI x gI hM hT hI hl hd hr hz fun t s' g' x' hd' hty=>⟨hty,hq _ s' g' x' hd'⟩) fun obj s₁ h₁=>?_
 ·exact hA.to (k:=4) hA.handled (Nat.le_add_right _ _) rfl (by decide)
 ·exact⟨h₁.1,PySem.F.args_object_init_2 obj _,object_init_meets PySem.F.called_tuple.init.lookup PySem.F.called_tuple.made (by decide) B.prog B.w A.in1 _ s₁ ⟨h₁.1,rfl,h₁.2⟩⟩
end
section
variable{prog:Program}{w:World}{A:Around}{E:Value→Shared→Prop}{s:Shared}
theorem AdZ(s:Shared):s.TypeIs (.bool true) "bool":=rfl
theorem Ai3{Q:Int→Shared→Prop}(h:Q 1 {s with toks:=s.toks+1}):wpAny (model prog w) A (pyHash (.bool true)) Q E s:=by
 unfold pyHash;have hv:[Value.bool true].any Value.onHeap=false:=rfl;refine wpAny_bind ?_;rw[cRoomFor,if_neg (by rw[hv];exact Bool.false_ne_true)];refine wpAny_pure ?_;refine wpAny_bind (wpAny_specialOf (AdZ s) PySem.F.slot_bool_hash.lookup ?_);show wpAny _ _ (if (some (Value.builtin "int.__hash__") == some Value.none)=true then _ else _) Q E s;rw[if_neg (by rw[beq_builtin_none];exact Bool.false_ne_true)];refine wpAny_bind (wpAny_specialOf (AdZ s) PySem.F.slot_bool_hash.lookup ?_);show wpAny _ _ (callSpecialIfBoundUnlessNone? (.bool true) "__hash__" _ >>= _) Q E s;refine wpAny_bind (wpAny_callSpecialIfBoundUnlessNone?_slot (AdZ s) PySem.F.slot_bool_hash
  (wpAny_call_entry PySem.F.slot_bool_hash (AdZ s) entry_int_hash (show wpAny _ _ (do ret (← mkInt (rawHash 1))) _ _ s from wpAny_ret_mkInt ?_) (args_int_hash _)))
 have hr:=rawHash_range 1;show wpAny _ _ (if (decide (-(2:Int) ^ 63≤rawHash 1) && decide (rawHash 1<2 ^ 63))=true then _ else _) Q E _;rw[if_pos (by rw[decide_eq_true hr.1,decide_eq_true hr.2];rfl)];exact wpAny_pure h
theorem AnA{Q:Bool→Shared→Prop}(h:Q true s):wpAny (model prog w) A (eqBool (.bool true) (.bool true)) Q E s:=by unfold eqBool;refine wpAny_holding ?_;rw[if_pos (by decide)];exact wpAny_bind (wpAny_rule (wpAny_pure h))
end
noncomputable def ACk(led:Bool):Obj:={cls:=.type "set",data:=.set #[] 0 (.fresh 0 0 led)}
noncomputable def ADD(led:Bool):SetTable:={mask:=7,place:=#[1],dummies:=#[],finger:=0,led,moves:=0,plain:=true}
noncomputable def AqC(led:Bool)(n:Nat):Obj:={cls:=.type "set",data:=.set #[(1,.bool true)] n (ADD led)}
theorem AF1(led:Bool):layNew (SetTable.fresh 0 0 led) #[] 1 (.bool true)=(#[(1,.bool true)],ADD led,false,false):=by induction led using Bool.casesOn<;>rfl
section
variable{prog:Program}{w:World}{A:Around}{E:Value→Shared→Prop}{s:Shared}
theorem AsY{a:Addr}{led:Bool}{Q:Value→Shared→Prop}(ha:s.heap.get? a=some (ACk led))
  (hq:∀ n h',h'.get? a=some (AqC led n)→Heap.SameBut a s.heap h'→Q .none {s with heap:=h',toks:=s.toks+1}) :
  wpAny (model prog w) A (call (.builtin "set.add") [.ref a,.bool true]) Q E s:=by
 have hT:s.TypeIs (.ref a) "set":=⟨_,ha,rfl⟩;refine wpAny_call_entry PySem.F.slot_set_add hT PySem.F.entry_set_add ?_ (PySem.F.args_set_add_2 _ _);unfold Builtin.«set.add» Builtin.Frozenset.oneOther;simp only[List.isEmpty_nil,bind_assoc];unfold Builtin.Frozenset.addrOf setAdd;refine wpAny_bind (wpAny_pure ?_)
 try dsimp only
 refine wpAny_bind (wpAny_pure ?_)
 try dsimp only
 refine wpAny_bind ?_;refine wpAny_holding ?_;refine wpAny_bind (Ai3 ?_);have ha':({s with toks:=s.toks+1}:Shared).heap.get? a=some (ACk led):=ha;unfold setAddHashed
 repeat (first
  |(with_reducible refine wpAny_bind (wpAny_load ha' ?_))
  |wp_step)
 rw[if_pos (by kernel_rfl!)];unfold setAddByScan;rw[AF1 led];unfold setScan;dsimp only;have htf:(!false && (ADD led).tooFull)=false:=by induction led using Bool.casesOn<;>rfl
 have hpl:(ADD led).plain=true:=rfl
 repeat (first
  |(rw[htf])
  |wp_step)
 exact⟨_,rfl,hq _ _ (Heap.get?_update_self _ ha rfl) (Heap.SameBut.update ..)⟩
theorem AsZ{a:Addr}{led:Bool}{n:Nat}{Q:Value→Shared→Prop}(ha:s.heap.get? a=some (AqC led n))(hq:Q .none {s with toks:=s.toks+1}) :
  wpAny (model prog w) A (call (.builtin "set.add") [.ref a,.bool true]) Q E s:=by
 have hT:s.TypeIs (.ref a) "set":=⟨_,ha,rfl⟩;refine wpAny_call_entry PySem.F.slot_set_add hT PySem.F.entry_set_add ?_ (PySem.F.args_set_add_2 _ _);unfold Builtin.«set.add» Builtin.Frozenset.oneOther;simp only[List.isEmpty_nil,bind_assoc];unfold Builtin.Frozenset.addrOf setAdd;refine wpAny_bind (wpAny_pure ?_)
 try dsimp only
 refine wpAny_bind (wpAny_pure ?_)
 try dsimp only
 refine wpAny_bind ?_;refine wpAny_holding ?_;refine wpAny_bind (Ai3 ?_);have ha':({s with toks:=s.toks+1}:Shared).heap.get? a=some (AqC led n):=ha;unfold setAddHashed
 repeat (first
  |(with_reducible refine wpAny_bind (wpAny_load ha' ?_))
  |wp_step)
 rw[if_pos (by kernel_rfl!)];unfold setAddByScan setScan;dsimp only;unfold setScanFrom
 repeat (first
  |(with_reducible refine wpAny_bind (wpAny_load ha' ?_))
  |((with_reducible show wpAny _ _ (eqBool _ _) _ _ _);refine AnA ?_)
  |wp_step)
 exact⟨_,rfl,hq⟩
theorem AjV:entryFor table "set.__iter__"=some Builtin.«frozenset.__iter__»:=
 entryFor_alias (id':="frozenset.__iter__") (by kernel_rfl) (by first|rfl|decide +kernel|(unfold String.splitOn;simp +decide [String.splitOnAux])) (by decide +kernel) (by kernel_rfl)
theorem AvB{a:Addr}{led:Bool}{n:Nat}{Q:Value→Shared→Prop}(ha:s.heap.get? a=some (AqC led n))
  (hq:Q (.ref s.heap.objs.size) {s with heap:=s.heap.push {cls:=.type "set_iterator",data:=.fields #[rawInt 0,rawInt 0,.ref a,rawInt 1,rawInt n]}}):wpAny (model prog w) A (call (.builtin "set.__iter__") [.ref a]) Q E s:=by
 have hT:s.TypeIs (.ref a) "set":=⟨_,ha,rfl⟩;refine wpAny_call_entry PySem.F.slot_set_iter hT AjV ?_ (PySem.F.args_set_iter_1 _);unfold Builtin.«frozenset.__iter__» setDrawn setsByText
 repeat (first
  |(with_reducible refine wpAny_bind (wpAny_load ha ?_))
  |wp_step)
 refine wpAny_askSetting (wpAny_pure (wpAny_pure ?_));rw[if_neg (by intro h;rw[Bool.and_eq_true] at h;exact Bool.noConfusion (show false=true from h.2))]
 repeat (first
  |(with_reducible refine wpAny_bind (wpAny_load ha ?_))
  |wp_step)
 exact⟨_,rfl,hq⟩
noncomputable def sIt(st i:Nat)(a:Value)(n:Nat):Obj:={cls:=.type "set_iterator",data:=.fields #[rawInt st,rawInt i,a,rawInt 1,rawInt n]}
theorem AcG:Slot "set_iterator" "__next__" "set_iterator.__next__":=
 .of (owner:="set_iterator") (n:="__next__") (by rw[typeLookup_type,builtinLookup_eq_fast];kernel_rfl) (by decide +kernel) (by decide +kernel) (by decide +kernel)
  (by first|exact .inl (by decide +kernel)|exact .inr (by decide +kernel)) (by rw[isSubtype_type];kernel_rfl)
theorem AfM:entryFor table "set_iterator.__next__"=some Builtin.«set_iterator.__next__»:=entryFor_of_tree (by kernel_rfl)
theorem AvC:Manifest.owners.lookup (String.ofList ['r','o','t','a','r','e','t','i','_','t','e','s'].reverse)=some Manifest.sig_set_iterator:=by kernel_rfl
theorem Ae0(a:Value):argsOk "set_iterator.__next__" ⟨[a],[]⟩:=by unfold argsOk;rw[signature?_of (id:="set_iterator.__next__") (n:=['_','_','t','x','e','n','_','_']) (o:=['r','o','t','a','r','e','t','i','_','t','e','s']) (by kernel_rfl) AvC];kernel_rfl
theorem Aov(f:Nat→Nat)(e:Int×Value):pickOrder f #[e]=#[e]:=by
 have h:pickOrder f #[e]=(match [e][f 0 % [e].length]? with|some x=>pickOrder.go f 0 1 ([e].eraseIdx (f 0 % [e].length)) (#[].push x)|none=>#[]):=by kernel_rfl!
 rw[h,show f 0 % [e].length=0 from Nat.mod_one _]
 rfl
theorem Aza{a I:Addr}{led:Bool}{n:Nat}{Q:Option Value→Shared→Prop}(ha:s.heap.get? a=some (AqC led n))(hI:s.heap.get? I=some (sIt 0 0 (.ref a) n))(hled:led=!(w.params.followText "set-order"))
  (hq:∀ h',h'.get? I=some (sIt (if w.params.followText "set-order"=true then 0 else 2) 1 (.ref a) n)→Heap.SameBut I s.heap h'→Q (some (.bool true)) {s with heap:=h'}):wpAny (model prog w) A (pyNext (.ref I)) Q E s:=by
 have hT:s.TypeIs (.ref I) "set_iterator":=⟨_,hI,rfl⟩;unfold pyNext;refine wpAny_bind (wpAny_attempt (wpAny_callSpecial?_slot (name:=Str.ofString "__next__") hT AcG (wpAny_call_entry AcG hT AfM ?_ (Ae0 _))));unfold Builtin.«set_iterator.__next__» setNext setsByText
 repeat (first
  |(with_reducible refine wpAny_bind (wpAny_load ha ?_))
  |(with_reducible refine wpAny_bind (wpAny_load hI ?_))
  |wp_step)
 refine wpAny_askSetting (wpAny_pure ?_);dsimp only
 cases hb:w.params.followText "set-order" with
 |true=>
  rw[hb] at hled hq;rw[show(model prog w).w=w from rfl,hb,if_pos rfl,if_neg (by simp)];unfold setWalk setsByText
  repeat (first
   |(with_reducible refine wpAny_bind (wpAny_load ha ?_))
   |(with_reducible refine wpAny_bind (wpAny_askSetting ?_))
   |(with_reducible refine wpAny_askSetting ?_)
   |wp_step)
  dsimp only;rw[show(model prog w).w=w from rfl,hb,if_pos rfl];refine wpAny_bind (wpAny_askSetting (wpAny_pure ?_));rw[Aov];refine wpAny_pure ?_
  try dsimp only
  refine wpAny_bind (wpAny_setField_rec hI (by simp) fun h2 hI2 hs2=>?_);refine wpAny_bind (wpAny_setField_rec hI2 (by simp) fun h3 hI3 hs3=>?_);exact wpAny_pure ⟨_,rfl,wpAny_pure (hq h3 hI3 (hs2.trans hs3))⟩
 |false=>
  rw[hb] at hled hq;subst hled;rw[show(model prog w).w=w from rfl,hb,if_neg (by decide),if_neg (by intro h;exact Bool.noConfusion (show false=true from h))];refine wpAny_bind (wpAny_of_eq (a:=()) rfl (wpAny_pure ?_))
  try dsimp only
  refine wpAny_bind (wpAny_setField_rec hI (by simp) fun h2 hI2 hs2=>?_);refine wpAny_bind (wpAny_setField_rec hI2 (by simp) fun h3 hI3 hs3=>?_);exact wpAny_pure ⟨_,rfl,wpAny_pure (hq h3 hI3 (hs2.trans hs3))⟩
theorem ACl{a I:Addr}{led:Bool}{n:Nat}{Q:Option Value→Shared→Prop}(hh:A.handled=none)(ha:s.heap.get? a=some (AqC led n))(hI:s.heap.get? I=some (sIt (if w.params.followText "set-order"=true then 0 else 2) 1 (.ref a) n))(hled:led=!(w.params.followText "set-order"))
  (hq:∀ h',Heap.ExtBut I s.heap h'→Q none {s with heap:=h'}):wpAny (model prog w) A (pyNext (.ref I)) Q E s:=by
 have hT:s.TypeIs (.ref I) "set_iterator":=⟨_,hI,rfl⟩;unfold pyNext;refine wpAny_bind (wpAny_attempt (wpAny_callSpecial?_slot (name:=Str.ofString "__next__") hT AcG (wpAny_call_entry AcG hT AfM ?_ (Ae0 _))));have tail:∀ h2,Heap.SameBut I s.heap h2→wpAny (model prog w) A.in1 (newExc (.type "StopIteration") [] >>= fun e=>raiseNew (α:=Fin) e) (fun fin s'=>∃ v,fin=Fin.done (Flow.ret v)∧wpAny (model prog w) A (pure (some v)) Q E s')
   (fun e s'=>wpAny (model prog w) A (do
       let __do_lift ← isInstance e (Value.type "StopIteration")
       if __do_lift=true then pure none else throw e) Q E s') {s with heap:=h2}:=fun h2 hs2=>by
  refine wpAny_bind ?_;simp only[newExc,newTuple];refine wpAny_bind (wpAny_newObj_type ?_ (by size_fits));refine wpAny_bind (m:=firstArgMember _ _) (wpAny_of_eq (a:=Value.none) (by first|rfl|(simp only[firstArgMember];rfl)) ?_);refine wpAny_newObj_type ?_ (by size_fits);unfold raiseNew;refine wpAny_bind (wpAny_handled ?_)
  first|rw[show A.in1.handled=none from hh]|rw[hh]
  refine wpAny_bind (wpAny_pure (wpAny_throw ?_));refine wpAny_bind (wpAny_isInstance (T:="StopIteration") (b:=true) ⟨_,Heap.get?_push_size _ rfl,rfl⟩ isSubtype_stop ?_);rw[if_pos rfl];exact wpAny_pure (hq _ ((hs2.extBut.push _).push _))
 unfold Builtin.«set_iterator.__next__» setNext setsByText
 cases hb:w.params.followText "set-order" with
 |true=>
  rw[hb,if_pos rfl] at hI
  repeat (first
   |(with_reducible refine wpAny_bind (wpAny_load ha ?_))
   |(with_reducible refine wpAny_bind (wpAny_load hI ?_))
   |wp_step)
  refine wpAny_askSetting (wpAny_pure ?_);dsimp only;rw[show(model prog w).w=w from rfl,hb,if_pos rfl,if_neg (by simp)];unfold setWalk setsByText
  repeat (first
   |(with_reducible refine wpAny_bind (wpAny_load ha ?_))
   |(with_reducible refine wpAny_bind (wpAny_askSetting ?_))
   |(with_reducible refine wpAny_askSetting ?_)
   |wp_step)
  dsimp only;rw[show(model prog w).w=w from rfl,hb,if_pos rfl];refine wpAny_bind (wpAny_askSetting (wpAny_pure ?_));rw[Aov];refine wpAny_pure ?_
  try dsimp only
  refine wpAny_bind (wpAny_setField_rec hI (by simp) fun h2 hI2 hs2=>?_);exact tail h2 hs2
 |false=>
  rw[hb,if_neg (by decide)] at hI;rw[hb] at hled;subst hled
  repeat (first
   |(with_reducible refine wpAny_bind (wpAny_load ha ?_))
   |(with_reducible refine wpAny_bind (wpAny_load hI ?_))
   |wp_step)
  refine wpAny_askSetting (wpAny_pure ?_);dsimp only;rw[show(model prog w).w=w from rfl,hb,if_neg (by decide),if_neg (by intro h;exact Bool.noConfusion (show false=true from h))];refine wpAny_bind (wpAny_of_eq (a:=()) rfl (wpAny_pure ?_))
  try dsimp only
  refine wpAny_bind (wpAny_setField_rec hI (by simp) fun h2 hI2 hs2=>?_);exact tail h2 hs2
theorem AqD{a:Addr}{led:Bool}{n:Nat}{Q:Value→Shared→Prop}(ha:s.heap.get? a=some (AqC led n))
  (hq:Q (.ref s.heap.objs.size) {s with heap:=s.heap.push (sIt 0 0 (.ref a) n)}):wpAny (model prog w) A (pyIter (.ref a)) Q E s:=by
 have hT:s.TypeIs (.ref a) "set":=⟨_,ha,rfl⟩;refine wpAny_pyIter_slot hT PySem.F.slot_set_iter (wpAny_mono (AvB ha (Q:=fun v s'=>v=.ref s.heap.objs.size∧s'={s with heap:=s.heap.push (sIt 0 0 (.ref a) n)}) ⟨rfl,rfl⟩) (fun v s' h=>?_) fun _ _ e=>e);refine Aaz h fun z1 z2=>?_;subst z1;subst z2;exact⟨"set_iterator",_,⟨_,Heap.get?_push_size _ rfl,rfl⟩,AcG.lookup,hq⟩
theorem AqE{a:Addr}{led:Bool}{n:Nat}{Q:List Value→Shared→Prop}(hh:A.handled=none)(ha:s.heap.get? a=some (AqC led n))(hled:led=!(w.params.followText "set-order"))
  (hQ:∀ h',Heap.ExtBut s.heap.objs.size s.heap h'→Q [.bool true] {s with heap:=h'}):wpAny (model prog w) A (unpackItems (.ref a) 1 none) Q E s:=by
 have hlt:a≠s.heap.objs.size:=Nat.ne_of_lt (Heap.lt_size ha);have hT:s.TypeIs (.ref a) "set":=⟨_,ha,rfl⟩;unfold unpackItems;refine wpAny_bind ?_;unfold notIterableAtAll;refine wpAny_bind (wpAny_specialOf hT PySem.F.slot_set_iter.lookup ?_);refine wpAny_pure ?_;simp only[Bool.false_eq_true,if_false];refine wpAny_bind (wpAny_holding (AqD ha ?_));have ha1:(s.heap.push (sIt 0 0 (.ref a) n)).get? a=some (AqC led n):=Heap.get?_push_of_some _ ha;have hI1:(s.heap.push (sIt 0 0 (.ref a) n)).get? s.heap.objs.size=some (sIt 0 0 (.ref a) n):=Heap.get?_push_size _ rfl;refine wpAny_bind (wpAny_holding ?_);show wpAny _ _ (pyNext (.ref s.heap.objs.size) >>= _) _ _ _;refine wpAny_bind (Aza ha1 hI1 hled fun h2 hI2 hs2=>?_);refine wpAny_bind (wpAny_holding (wpAny_pure (wpAny_pure ?_)));rw[if_neg (by simp)];have ha2:h2.get? a=some (AqC led n):=(hs2.2 a hlt).trans ha1;refine wpAny_bind (wpAny_holding (ACl hh ha2 hI2 hled fun h3 he3=>?_));simp only[Option.isSome_none,Bool.false_eq_true,if_false];exact wpAny_pure (hQ h3 fun b o hb e=>he3 b o hb (hs2.extBut b o hb (Heap.get?_push_of_some _ e)))
theorem Azb{Q:Value→Shared→Prop}(h:Q (.ref s.heap.objs.size) {s with heap:=s.heap.push (ACk (!(w.params.followText "set-order")))}):wpAny (model prog w) A (newSet (.type "set")) Q E s:=by unfold newSet setsByText;refine wpAny_bind (wpAny_bind (wpAny_askSetting (wpAny_pure ?_)));dsimp only;simp only[newObj];exact wpAny_bind (wpAny_alloc (wpAny_pure h))
end
theorem Amj{elt target iter:Expr}{ifs:List Expr}{scope:Scope}{pos:Pos}{it acc:Value}{env:Env} :
  compTurn (.SetComp elt [⟨target,iter,ifs,0⟩] scope pos) 0 it acc env=(standAt iter.pos >>= fun _=>pyNext it >>= fun r=>match r with
   |none=>pure (.done .next)
   |some v=>letOwnedTupleGo target it v >>= fun _=>assign target env v >>= fun _=>
    (forIn ifs true fun c r=>if r=true then do let ok ← isTrue c env (eval c env);pure (ForInStep.yield ok) else pure (ForInStep.yield r)) >>= fun ok=>
    (if ok=true then (eval elt env >>= fun v=>standAt elt.pos >>= fun _=>call (.builtin "set.add") [acc,v] >>= fun _=>pure ()) >>= fun _=>again (.compLoop (.SetComp elt [⟨target,iter,ifs,0⟩] scope pos) 0 it acc env) else again (.compLoop (.SetComp elt [⟨target,iter,ifs,0⟩] scope pos) 0 it acc env))):=by
 unfold compTurn
 rfl
noncomputable def Azc(led:Bool)(_:Gh)(o:Obj)(a:Nat):Prop:=(a=0∧o=ACk led)∨(a=1∧∃ n,o=AqC led n)
section
variable{B:Bs}{A:Around}{s₀ s s':Shared}{g₀ g g':Gh}{own:List Str}{env:Env}{ρ:Rho}
noncomputable def As0(E:Rho→Expr→Option D)(elt:Expr)(ρ:Rho)(_:Nat):Option Nat:=(E ρ elt).bind fun d=>(Ayf d).bind fun b=>if b=true then some 1 else none
theorem As1(O:B.Ok)(hh:A.handled=none){elt target iter:Expr}{ifs:List Expr}{scope:Scope}{pos:Pos}{acc It:Addr}{E:Rho→Expr→Option D}{led:Bool}{R:Result→Shared→Prop}
  (H:∀ ρ,Snd B A s₀ g₀ own env ρ (E ρ)) (HT:∀ ρ,An2 B A s₀ g₀ own env ρ (E ρ)) {ds:List D} {a r:Nat} (C:CS B s₀ g₀ own env acc (Azc led) ρ a s g) (it:AaQ s.heap g It ds) (h0:s₀.heap.get? It=none) (hg:g It=none)
  (hr:AaW own env.scope (fun ρ e=>Aa9 (E ρ) e) target ifs (As0 E elt) ρ ds a=some r) (hR:∀ s5 g5,CS B s₀ g₀ own env acc (Azc led) ρ r s5 g5→R (.ok .next) s5) :
  codeAny B.M A (.compLoop (.SetComp elt [⟨target,iter,ifs,0⟩] scope pos) 0 (.ref It) (.ref acc) env) R s:=by
 refine Acz O hh (fun _ _ _ _ _ h=>h) rfl rfl rfl Amj (fun ρ e b s g F h=>HT ρ e b s g h F) (fun ρ₁ a a' s g C hi Q EE hk=>?_) C it h0 hg hr fun s' g' _ C' _=>hR s' g' C';refine Aab (Aag hi) fun d hd k_1=>?_;refine Aab (Aag k_1) fun b hb k_2=>?_;refine Aaz (Abg k_2) fun ht k_3=>?_;rw[Aoe hb,ht] at hd;have k_3:=sj k_3;subst k_3;refine wpAny_bind (wpAny_bind ((H ρ₁ elt _ s g hd C.F).use fun v s1 g1 x1 hv=>?_));induction hv using Den.boolE;have C1:=C.step (fun _ _ _ _ _ h=>h) x1;refine wpAny_bind (wpAny_standAt (wpAny_bind ?_));refine AnV C1.obj fun o f1 f2 f3 f4 f5 f6=>?_;have done:∀ (s2:Shared) (n:Nat),s2.heap.get? acc=some (AqC led n)→Heap.SameBut acc s1.heap s2.heap→s2.gens=s1.gens→s2.os=s1.os→wpAny B.M A (again (.compLoop (.SetComp elt [⟨target,iter,ifs,0⟩] scope pos) 0 (.ref It) (.ref acc) env)) Q EE s2:=fun s2 n hn sb hg1 ho1=>by
  refine hk s2 g1 x1.le ⟨C1.F.turnE O C1.new.1 C1.new.2 f1 f4 f6 (fun e=>C1.loc (.inl e)) sb.extBut hg1 ho1,⟨_,hn,.inr ⟨rfl,n,rfl⟩,Aal rfl,AaH rfl (by decide),(by intro vs e;injection e),(by intro v e;injection e)⟩,C1.new,C1.loc⟩ fun x o h1 h2 e hn=>?_;have e1:=x1.ext.keep x o e hn;exact⟨(sb.2 x h1).trans e1,x1.shutNone e⟩
 rcases f2 with ⟨rfl,rfl⟩|⟨rfl,n,rfl⟩
 ·refine AsY f1 fun n h' hn sb=>wpAny_pure (done _ n hn sb rfl rfl)
 ·exact AsZ f1 (wpAny_pure (done _ n f1 (Heap.SameBut.refl _ _) rfl rfl))
end
section
variable{B:Bs}{A:Around}{s₀ s s':Shared}{g₀ g g':Gh}{own:List Str}{env:Env}{ρ:Rho}{n:Nat}{T:Tb}
theorem AqF(O:B.Ok)(hh:A.handled=none){st:Stmt}{y:Str}{q q2:Pos}{k2:Nat}{elt target iter:Expr}{ifs:List Expr}{scope:Scope}{pos p:Pos}{E0:Expr→Option D}{E:Rho→Expr→Option D}{x:D}{items:List D}
  (hst:st=.Assign [.Tuple [.Name y q] k2 q2] (.SetComp elt [⟨target,iter,ifs,0⟩] scope pos) p)
  (H0:Snd B A s₀ g₀ own env ρ E0)
  (H:∀ s₁ g₁ own' cenv ρ',Aae B s₀ g₀ s₁ g₁→cenv.scope=relabel scope env→Snd B A s₁ g₁ own' cenv ρ' (E ρ')) (HT:∀ s₁ g₁ own' cenv ρ',Aae B s₀ g₀ s₁ g₁→cenv.scope=relabel scope env→An2 B A s₁ g₁ own' cenv ρ' (E ρ'))
  (hset:Abu iter=true) (hok:Abq scope env.scope=true)
  (hx:E0 iter=some x) (hi:AbK x=some items)
  (hf:AaW (Aak scope.names) (Aaw scope env.scope) (fun ρ e=>Aa9 (E ρ) e) target ifs (As0 E elt) (Aa7 scope ρ) items 0=some 1) (hy:okT own env.scope y=true)
  (F:Fm B s₀ g₀ own env ρ s g):AgV B A s₀ g₀ own env s g (exec st env) (.next ((y,.bool true) :: ρ)):=by
 subst hst;refine wpAny_Assign_stores ?_ rfl rfl;show wpAny _ _ (comprehension (.SetComp elt [⟨target,iter,ifs,0⟩] scope pos) scope env (firstIterPos [⟨target,iter,ifs,0⟩] pos) (newSet (.type "set")) false (eval iter env) none) _ _ _;refine AhC (a0:=0) (out:=1) (P:=fun _ _ _=>True) (ok:=fun _=>Azc (!(B.w.params.followText "set-order"))) (o0:=ACk (!(B.w.params.followText "set-order"))) O ⟨rfl,hset,hok,fun s Q EE h=>Azb h,fun _ _ _=>⟨rfl,rfl⟩,fun _ _=>.inl ⟨rfl,rfl⟩,⟨Aal rfl,AaH rfl (by decide),(fun _ e=>nomatch e),(fun _ e=>nomatch e)⟩,rfl,H0 iter x s g hx F,hi,fun s1 g1 cenv It acc s4 x1 hsc C it h0 hg R hR=>As1 O hh (fun ρ'=>H s1 g1 _ cenv ρ' x1 hsc) (fun ρ'=>HT s1 g1 _ cenv ρ' x1 hsc) C it h0 hg (by rw[hsc,← Abe];exact hf) hR,fun _ _ cenv acc _ g5 _ C=>⟨g5,.val (.ref acc),trivial,C.F.st,.val,C.F.loc.2⟩,fun _ _ _ _ h _=>h⟩ F fun s1 g1 cenv acc s5 g5 x1 C5=>?_;refine Aab C5.F.vars fun m hm _=>?_;refine⟨m,hm,fun h6 hs6=>?_⟩;refine Aht (AgD hm) fun oL hL _ hnt _=>?_;have x6:Aae B s1 g1 {s5 with heap:=h6} g5:=C5.F.st.turn O C5.F.loc.1 C5.F.loc.2 hL hnt hs6 rfl rfl;refine Adc C5.obj fun o f1 f2 _=>?_
 rcases f2 with ⟨h,_⟩|⟨_,nn,rfl⟩
 ·injection h
 have f6:h6.get? acc=some (AqC (!(B.w.params.followText "set-order")) nn):=(hs6.2 _ fun e=>C5.loc (.inl e)).trans f1;show wpAny _ _ (assign (.Tuple [.Name y q] k2 q2) env (.ref acc)) _ _ _;rw[arm_assign_Tuple];refine wpAny_bind (wpAny_standAt ?_);show wpAny _ _ (holding _ (unpackItems (.ref acc) 1 none) >>= fun items=>assignInOrder ([Expr.Name y q].map (assign · env)) items) _ _ _;refine wpAny_bind (wpAny_holding (AqE hh f6 rfl fun h7 hx7=>?_));have keep:∀ a o,h6.get? a=some o→h7.get? a=some o:=fun a o e=>hx7 a o (Nat.ne_of_lt (Heap.lt_size e)) e;have x7:Aae B {s5 with heap:=h6} g5 {s5 with heap:=h7} g5:=⟨g5.le_refl,x6.inv.keeps O keep rfl rfl,.of keep,fun _ _ e=>.inl e⟩;have X:=(x1.trans x6).trans x7;have F7:=F.step X;exact AdJ O (.cons hy .nil) F7 (.cons .bool .nil) fun s8 F8 k8=>⟨g5,AcP.trans X.lets (Oth.lets k8),rfl,F8⟩
end
section
variable{B:Bs}{A:Around}{s₀ s s':Shared}{g₀ g g':Gh}{own:List Str}{env:Env}{ρ:Rho}{n:Nat}{T:Tb}
theorem Ad0{T:String}{first:List Value}{args:List (Bool×Sem Value)}{pos:Pos}{Q E:Value→Shared→Prop}(hp:args.all (fun x=>!x.1)=true)
  (h:wpAny B.M A (spliced args) (fun vs s'=>wpAny B.M A (call (.type T) (first++vs)) Q E s') E s):wpAny B.M A (callWith pos (.type T) first args []) Q E s:=by
 have hn:∀ x∈args,x.1=false:=fun x hx=>(Bool.not_eq_true' _).mp (List.all_eq_true.mp hp x hx);have hplain:(args.any (·.1) || ([]:List (Option Str×Sem Value)).any (·.1.isNone))=false:=by simp only[List.any_nil,Bool.or_false,List.any_eq_false];intro x hx;rw[hn x hx];exact Bool.false_ne_true
 exact callWith_of (P:=fun _=>True) hplain (fun h' _=>⟨.machine,.inr (.inl rfl),.now⟩) (Adh hn (wpAny_mono h (fun vs s' hc=>⟨trivial,hc⟩) fun _ _ e=>e))
theorem AjW(O:B.Ok){e:Expr}{fx y:Str}{q1 q2 q3 q4 p1 p2:Pos}{f:Addr}{Fc:List D→Option D}{ds rs:List D}(he:e=.Call (.Name "tuple" q1) [.Call (.Name "map" q2) [.Name fx q3,.Name y q4] [] p2] [] p1)
  (hf:Abw B n (.ref f) Fc) (hA:AOk (n+1) A) (k1:env.kindOf "tuple"=some .globalImplicit) (k2:env.kindOf "map"=some .globalImplicit) (k3:env.kindOf fx=some .globalImplicit)
  (l1:B.look "tuple"=some (.type "tuple")) (l2:B.look "map"=some (.type "map")) (l3:B.look fx=some (.ref f)) (o3:AbA fx=true) (hy:ρ.lookup y=some (.list ds)) (oy:AbA y=true)
  (hr:AvA Fc ds=some rs) (hz:ds.length≤1000) (F:Fm B s₀ g₀ own env ρ s g):Aaq B A s g (eval e env) fun g' v=>Den g' v (.tup rs):=by
 subst he;refine wpAny_Call_NameR ((F.gname O k1 l1 rfl).use fun fv s1 g1 x1 h1=>?_);subst h1;refine Ad0 rfl ?_;refine Calls.spliced_cons ?_;have F1:=F.step x1;refine wpAny_Call_NameR ((F1.gname O k2 l2 rfl).use fun fv s2 g2 x2 h2=>?_);subst h2;have F2:=F1.step x2;refine Ad0 rfl ?_;refine Calls.spliced_cons ((F2.gname O k3 l3 o3).use fun fv s3 g3 x3 h3=>?_);subst h3;have F3:=F2.step x3;refine Calls.spliced_cons ((F3.name hy oy).use fun lv s4 g4 x4 h4=>?_);induction h4 using Den.listE with|list e1 e2=>?_
 refine wpAny_pure ?_;have X4:=((x1.trans x2).trans x3).trans x4;have F4:=F3.step x4;refine Avy (X4.inv.real _ _ e1) fun h5 keep k1 k2 k3=>wpAny_pure ?_;have x5:Aae B s4 g4 {s4 with heap:=h5} g4:=⟨g4.le_refl,X4.inv.keeps O keep rfl rfl,.of keep,fun _ _ e=>.inl e⟩;have hIn:s4.heap.get? s4.heap.objs.size=none:=AaM _;refine AjU (s₀:=s4) (g₀:=g4) O hf hA hIn (Nat.ne_of_gt (Nat.lt_add_of_pos_right (by decide))) (Nat.succ_ne_self _) x5 X4.inv.fresh k3 k2 ⟨_,k1,rfl,rfl⟩ e1 e2 hr hz fun v s6 g6 x6 hv=>?_;exact⟨g6,X4.trans x6,hv⟩
end
noncomputable def AqG:Nat→List D→List D
 |_,[]=>[]
 |i,d :: ds=>.tup [.int i,d] :: AqG (i+1) ds
section
variable{B:Bs}{A:Around}{s₀ s s':Shared}{g₀ g g':Gh}{own:List Str}{env:Env}{ρ:Rho}{n:Nat}{T:Tb}
theorem Fm.turn2{e it:Addr}{oe oi oe':Obj}(O:B.Ok)(F:Fm B s₀ g₀ own env ρ s g)(he0:s₀.heap.get? e=none)(hi0:s₀.heap.get? it=none)(ge:g e=none)(gi:g it=none)(he:s.heap.get? e=some oe)(hi:s.heap.get? it=some oi)(hne:e≠it)
  (te:¬ AcK oe) (ti:¬ AcK oi) (ce:∀ v,oe.data≠.cell v) (ci:∀ v,oi.data≠.cell v) (le:e≠env.locals) (li:it≠env.locals) (he':s'.heap.get? e=some oe') (hf:oe'.isFreed=false)
  (k:∀ b o,b≠e→b≠it→s.heap.get? b=some o→s'.heap.get? b=some o) (hg:s'.gens=s.gens) (ho:s'.os=s.os):Fm B s₀ g₀ own env ρ s' g:=by
 have sb:Heap.SameBut e s.heap (s.heap.update e fun _=>oe'):=Heap.SameBut.update ..;have F1:Fm B s₀ g₀ own env ρ {s with heap:=s.heap.update e fun _=>oe'} g:=F.turnE O he0 ge he te ce le sb.extBut rfl rfl;refine F1.turnE (ob:=oi) O hi0 gi ((sb.2 it (Ne.symm hne)).trans hi) ti ci li (fun b o hb e1=>?_) hg ho
 by_cases hbe:b=e
 ·subst hbe;rw[Heap.get?_update_self _ he hf] at e1;cases e1;exact he'
 ·exact k b o hbe hb ((sb.2 b hbe).symm.trans e1)
structure EnI(B:Bs)(s₀:Shared)(g₀:Gh)(own:List Str)(env:Env)(En It l:Addr)(ol:Obj)(vs:List Value)(i:Nat)(old:Value)(ρ:Rho)(ds:List D)(s:Shared)(g:Gh):Prop where
 F:Fm B s₀ g₀ own env ρ s g
 hE:IsEnum s.heap En It i old
 hI:s.heap.IsListIter It l i
 hl:g l=some ol
 hd:Aar g (vs.drop i) ds
 gE:g En=none
 gI:g It=none
theorem IsListIter.keep{h h':Heap}{It l:Addr}{i:Nat}(H:h.IsListIter It l i)(k:∀ o,h.get? It=some o→h'.get? It=some o):h'.IsListIter It l i:=
 H.elim fun o e=>⟨o,k o e.1,e.2⟩
theorem EnI.nlE{En It l:Addr}{ol:Obj}{vs:List Value}{i:Nat}{old:Value}{ds:List D}(V:EnI B s₀ g₀ own env En It l ol vs i old ρ ds s g):¬ Loc env own En:=V.F.notLoc V.hE (fun _ e=>nomatch e) (fun _ _ e=>nomatch e)
theorem EnI.it{En It l:Addr}{ol:Obj}{vs:List Value}{i:Nat}{old:Value}{ds:List D}(V:EnI B s₀ g₀ own env En It l ol vs i old ρ ds s g):∃ o,s.heap.get? It=some o∧¬ AcK o∧Abp o∧(∀ v,o.data≠.cell v)∧¬ Loc env own It:=by refine Adc V.hI fun o h1 h2 h3=>?_;have hc:∀ v,o.data≠.cell v:=fun v e=>nomatch h3.symm.trans e;exact⟨o,h1,AaH h2 (by decide),Aal h2,hc,V.F.notLoc h1 hc fun _ _ e=>nomatch h3.symm.trans e⟩
theorem AvD(O:B.Ok)(hh:A.handled=none){es:List Expr}{k2:Nat}{pt:Pos}{body:List Stmt}{En It l:Addr}{BD:Rho→Option Res}{res:Res}{s1:Shared}{g1:Gh}{vs:Array Value}{nl i:Nat}{old:Value}
  (hbody:∀ ρ r s g,BD ρ=some r→Fm B s₀ g₀ own env ρ s g→AgV B A s₀ g₀ own env s g (execs body env) r) {items:List D}
  (F:Fm B s₀ g₀ own env ρ s g) (hE:IsEnum s.heap En It i old) (hI:s.heap.IsListIter It l i) (hl:g l=some {cls:=.type "list",data:=.seq vs nl}) (hd:Aar g (vs.toList.drop i) items)
  (hE0:s₀.heap.get? En=none) (hI0:s₀.heap.get? It=none) (gE:g En=none) (gI:g It=none) (hne:En≠It) (hf:AmY own env.scope (.Tuple es k2 pt) BD (AqG i items) ρ=some res)
  (hE1:s1.heap.get? En=none) (hI1:s1.heap.get? It=none) (L:AcP env own s1 g1 s g) :
  codeAny B.M A (.forLoop (.Tuple es k2 pt) (.ref En) body [] env) (fun r s'=>∃ f,r=.ok f∧∃ g',AcP env own s1 g1 s' g'∧Aui B s₀ g₀ own env res f s' g') s:=by
 refine Arp fun R hR=>An8 (fun items s=>∃ i old ρ g,EnI B s₀ g₀ own env En It l {cls:=.type "list",data:=.seq vs nl} vs.toList i old ρ items s g∧AmY own env.scope (.Tuple es k2 pt) BD (AqG i items) ρ=some res∧AcP env own s1 g1 s g) ?_ ⟨i,old,ρ,g,⟨F,hE,hI,hl,hd,gE,gI⟩,hf,L⟩;clear F hE hI hl hd gE gI hf L;intro items s hJ Q E q0 q1;refine ADO hJ fun i old ρ g V hf L=>?_;have ll:=V.F.inv.real _ _ V.hl;refine AFL V.it fun oI hoI tI ntI cI nlI=>?_;have lets:∀ {h':Heap} {tk:Nat},(∀ b o,b≠En→b≠It→s.heap.get? b=some o→h'.get? b=some o)→AcP env own s1 g1 {s with heap:=h',toks:=tk} g:=fun {h' tk} k=>⟨L.1,fun a o n e t=>by
  refine Aaz (L.2 a o n e t) fun f1 f2=>?_;exact⟨k a o (fun e'=>by rw[e',hE1] at e;exact Aah e) (fun e'=>by rw[e',hI1] at e;exact Aah e) f1,f2⟩⟩
 induction items using List.casesOn with
 |nil=>
  have hx:vs[i]?=none:=Array.getElem?_eq_none (by have:=V.hd.length;rw[List.length_drop,Array.length_toList] at this;exact Nat.le_of_sub_eq_zero this);refine wpAny_pyNext_enum_end hh V.hE V.hI ⟨_,ll,rfl,_,rfl⟩ hx fun h' k=>q0 rfl _ (hR _ _ ⟨_,rfl,g,?_⟩);rw[← sj hf];exact⟨lets (tk:=s.toks) fun b o _ h e=>k b o h e,rfl,V.F.turnE O hI0 V.gI hoI tI cI (fun e=>nlI (.inl e)) k rfl rfl⟩
 |cons d ds=>
  refine Aab (Aag (show(Acy own env.scope (.Tuple es k2 pt) (.tup [.int i,d]) ρ).bind _=some res from hf)) fun ρ₁ hb hf=>?_;refine Aab (Aag hf) fun r hr hf=>?_;have hb:BN own env.scope es [.int i,d] ρ ρ₁:=AfW hb
  obtain⟨v,rest,ev,hv,hrest⟩:∃ v rest,vs.toList.drop i=v :: rest∧Den g v d∧Aar g rest ds:=by
   have hd:=V.hd;generalize vs.toList.drop i=ws at hd;induction hd using Aar.consE with|cons hv hrest=>?_
   exact⟨_,_,rfl,hv,hrest⟩
  refine Aaz (AfL ev) fun e1 e2=>?_;refine wpAny_pyNext_enum_item V.hE V.hI ⟨_,ll,rfl,_,rfl⟩ (by simpa using e1) hne fun h1 heo hI1' ht hz1 k1=>q1 d ds rfl _ _ fun X K E hn hbr hret hX=>?_;refine wpAny_letOwnedTupleGo_enum heo fun h2 hE2 hs2=>?_
  replace hs2:Heap.SameBut En h1 h2:=hs2
  have ht2:h2.get? s.heap.objs.size=some {cls:=.type "tuple",data:=.seq #[.int i s.toks,v]}:=(hs2.2 _ (Nat.ne_of_gt (Heap.lt_size V.hE))).trans ht;refine Ahs (Aea (env:=env) hb) fun a1 a2 a3=>?_;refine wpAny_assign_Tuple hh ⟨_,ht2,rfl,_,rfl⟩ (by rw[a2];rfl) a3 fun h3 hx3=>?_;rw[a1]
  replace hx3:Heap.ExtBut h2.objs.size h2 h3:=hx3
  have keep3:∀ a o,h2.get? a=some o→h3.get? a=some o:=fun a o e=>hx3 a o (Nat.ne_of_lt (Heap.lt_size e)) e;have kk:∀ b o,b≠En→b≠It→s.heap.get? b=some o→h3.get? b=some o:=fun b o h1' h2' e=>keep3 _ _ ((hs2.2 b h1').trans (k1 b o h1' h2' e));have hE3:IsEnum h3 En It ((i:Int)+1) v:=keep3 _ _ hE2;have hI3:h3.IsListIter It l (i+1):=IsListIter.keep hI1' fun o e=>keep3 _ _ ((hs2.2 _ (Ne.symm hne)).trans e);have F3:Fm B s₀ g₀ own env ρ {s with heap:=h3,toks:=s.toks+1} g:=V.F.turn2 O hE0 hI0 V.gE V.gI V.hE hoI hne (AaH rfl (by decide)) tI (fun _ e=>nomatch e) cI (fun e=>V.nlE (.inl e)) (fun e=>nlI (.inl e)) hE3 rfl kk rfl rfl;refine AdJ O hb F3 (.cons .int (.cons hv .nil)) fun s4 F4 k4=>hX s4 ((hbody ρ₁ r s4 g hr F4).use fun f s5 g5 l5 e5=>?_);have L5:=((lets (tk:=s.toks+1) kk).trans (Oth.lets k4)).trans l5;have q1:=l5.2 En _ V.nlE (k4 _ _ V.nlE hE3) (Aal rfl);have hI5:s5.heap.IsListIter It l (i+1)∧g5 It=none:=by refine Adc hI3 fun o e3 e4 e5=>?_;have q2:=l5.2 It _ nlI (k4 _ _ nlI e3) (Aal e4);exact⟨⟨o,q2.1,e4,e5⟩,q2.2 V.gI⟩
  exact AhE hf e5 L5 (fun ρ₂ F5 h=>hn _ ⟨i+1,v,ρ₂,g5,⟨F5,q1.1,hI5.1,l5.1 _ _ V.hl,(e2 ▸ hrest).mono l5.1,q1.2 V.gE,hI5.2⟩,h,L5⟩) (fun h=>hbr _ (hR _ _ ⟨_,rfl,h⟩)) fun v h=>hret v _ (hR _ _ ⟨_,rfl,h⟩)
end
noncomputable def Tc0:Tb:=mkT (AcY [(.builtin "str.startswith",bStartswith)]) Abv
theorem As2{B:Bs}(W:LW B){n:Nat}(s:Shared)(g:Gh):AbO B n Tc0 s g:=Amb W fun v F e=>by
 unfold AcY at e
 cases e1:[(Value.builtin "str.startswith",bStartswith)].find? fun p=>p.1 == v with
 |none=>rw[e1] at e;exact Aah e
 |some p=>
  rw[e1] at e;cases e;have h1:=List.mem_of_find?_eq_some e1;have hv:=List.find?_some e1;have hv:p.1=v:=eq_of_beq hv;simp only[List.mem_cons,List.not_mem_nil,or_false] at h1;subst h1;subst hv;exact⟨.inl ⟨_,rfl⟩,fun A s' g' vs ds r hA x hd hr=>(AdP (n:=n)).run A s' g' vs ds r hA x.inv hd hr⟩
set_option genInjectivity false in
structure Vw where
 tag:Nat
 f:Expr
 a:List Expr
 ks:List (Option Expr)
 s:Str
 n:Nat
 g:List Comprehension
 sc:Scope
 p:Pos
noncomputable def vw0(e:Expr):Vw:=⟨0,e,[],[],"",0,[],default,default⟩
noncomputable def Aa5:Expr→Vw
 |.Call f a [] p=>{vw0 f with tag:=1,a:=a,p:=p}
 |.Attribute v x p=>{vw0 v with tag:=2,s:=x,p:=p}
 |.Name x p=>{vw0 (.Name x p) with tag:=3,s:=x,p:=p}
 |.Tuple l k p=>{vw0 (.Tuple l k p) with tag:=4,a:=l,n:=k,p:=p}
 |.Dict ks l p=>{vw0 (.Dict ks l p) with tag:=5,ks:=ks,a:=l,p:=p}
 |.SetComp e g sc p=>{vw0 e with tag:=6,g:=g,sc:=sc,p:=p}
 |.Constant (.str x) k p=>{vw0 (.Constant (.str x) k p) with tag:=7,s:=x,n:=k,p:=p}
 |e=>vw0 e
noncomputable def back(v:Vw):Expr:=match v.tag with
 |1=>.Call v.f v.a [] v.p
 |2=>.Attribute v.f v.s v.p
 |3=>.Name v.s v.p
 |4=>.Tuple v.a v.n v.p
 |5=>.Dict v.ks v.a v.p
 |6=>.SetComp v.f v.g v.sc v.p
 |7=>.Constant (.str v.s) v.n v.p
 |_=>v.f
theorem Azd(e:Expr):back (Aa5 e)=e:=by
 induction e using PySem.Expr.casesOn with
 |Call f a k p=>cases k<;>rfl
 |Constant c k p=>induction c using PySem.Const.casesOn<;>rfl
 |_=>rfl
theorem Afj{e:Expr}{v:Vw}{n:Nat}(hv:Aa5 e=v)(h:v.tag=n):e=back {v with tag:=n}:=by subst h;subst hv;exact(Azd e).symm
theorem AxA{e:Expr}(h:(Aa5 e).tag=1):e=.Call (Aa5 e).f (Aa5 e).a [] (Aa5 e).p:=Afj rfl h
theorem ACm{e:Expr}(h:(Aa5 e).tag=2):e=.Attribute (Aa5 e).f (Aa5 e).s (Aa5 e).p:=Afj rfl h
theorem Aow{e:Expr}(h:(Aa5 e).tag=3):e=.Name (Aa5 e).s (Aa5 e).p:=Afj rfl h
theorem ACn{e:Expr}(h:(Aa5 e).tag=4):e=.Tuple (Aa5 e).a (Aa5 e).n (Aa5 e).p:=Afj rfl h
theorem ACo{e:Expr}(h:(Aa5 e).tag=5):e=.Dict (Aa5 e).ks (Aa5 e).a (Aa5 e).p:=Afj rfl h
theorem ACp{e:Expr}(h:(Aa5 e).tag=6):e=.SetComp (Aa5 e).f (Aa5 e).g (Aa5 e).sc (Aa5 e).p:=Afj rfl h
theorem ACq{e:Expr}(h:(Aa5 e).tag=7):e=.Constant (.str (Aa5 e).s) (Aa5 e).n (Aa5 e).p:=Afj rfl h
theorem AnB{e f:Expr}{a:List Expr}(h:(Aa5 e).tag=1)(hf:(Aa5 e).f=f)(ha:(Aa5 e).a=a):e=.Call f a [] (Aa5 e).p:=by subst hf;subst ha;exact AxA h
theorem Alh{e:Expr}{x:Str}(h:(Aa5 e).tag=3)(hs:(Aa5 e).s=x):e=.Name x (Aa5 e).p:=by subst hs;exact Aow h
theorem Agt{α:Type}{o:Option α}{d:α}(h:o.isSome=true):o=some (o.getD d):=by
 induction o using Option.casesOn with
 |none=>injection h
 |some _=>rfl
noncomputable def AvE:D→Option Int
 |.int i=>some i
 |_=>none
noncomputable def AqH:D→Option Str
 |.str i=>some i
 |_=>none
noncomputable def Akg:D→Option (List D)
 |.list i=>some i
 |_=>none
theorem AvF{d:D}{i:Int}(h:AvE d=some i):d=.int i:=by induction d using D.casesOn<;>first|exact Aah h|(cases h;rfl)
theorem AvG{d:D}{i:Str}(h:AqH d=some i):d=.str i:=by induction d using D.casesOn<;>first|exact Aah h|(cases h;rfl)
theorem As3{d:D}{i:List D}(h:Akg d=some i):d=.list i:=by induction d using D.casesOn<;>first|exact Aah h|(cases h;rfl)
theorem As4{o:Option D}(h:(o.bind AvE).isSome=true):o=some (.int ((o.bind AvE).getD 0)):=by
 induction o using Option.casesOn with
 |none=>injection h
 |some d=>exact congrArg some (AvF (Agt h))
theorem ACr{o:Option D}(h:(o.bind AqH).isSome=true):o=some (.str ((o.bind AqH).getD "")):=by
 induction o using Option.casesOn with
 |none=>injection h
 |some d=>exact congrArg some (AvG (Agt h))
theorem As5{o:Option D}(h:(o.bind Akg).isSome=true):o=some (.list ((o.bind Akg).getD [])):=by
 induction o using Option.casesOn with
 |none=>injection h
 |some d=>exact congrArg some (As3 (Agt h))
noncomputable def Aeo(e:Expr)(i:Nat):Expr:=(Aa5 e).a.getD i e
theorem AEu{e:Expr}(h:(Aa5 e).a.length=1):(Aa5 e).a=[Aeo e 0]:=ADy h
theorem AEv{e:Expr}(h:(Aa5 e).a.length=2):(Aa5 e).a=[Aeo e 0,Aeo e 1]:=Auc h
theorem ACs{t t' v v':Expr}{q:Pos}(h1:t=t')(h2:v=v'):Stmt.Assign [t] v q=.Assign [t'] v' q:=by subst h1;subst h2;rfl
theorem Aze{c:Comprehension}(h:c.is_async=0):c=⟨c.target,c.iter,c.ifs,0⟩:=by cases c;subst h;rfl
noncomputable def As6(e:Expr):Comprehension:=(Aa5 e).g.getD 0 ⟨e,e,[],0⟩
noncomputable def AFt(own:List Str)(sc:Scope)(ρ:Rho)(t value:Expr):Option Res:=
 if (Aa5 t).tag=4∧(Aa5 t).a.length=1∧(Aa5 (Aeo t 0)).tag=3∧(Aa5 value).tag=6∧(Aa5 value).g.length=1∧(As6 value).is_async=0∧Abu (As6 value).iter=true∧Abq (Aa5 value).sc sc=true∧okT own sc (Aa5 (Aeo t 0)).s=true ∧
  (((ev Tc0 8 sc ρ (As6 value).iter).bind AbK).bind fun items=>AaW (Aak (Aa5 value).sc.names) (Aaw (Aa5 value).sc sc) (fun ρ e=>Aa9 (ev Tc0 8 (Aaw (Aa5 value).sc sc) ρ) e) (As6 value).target (As6 value).ifs (As0 (ev Tc0 8 (Aaw (Aa5 value).sc sc)) (Aa5 value).f) (Aa7 (Aa5 value).sc ρ) items 0)=some 1
 then some (.next (((Aa5 (Aeo t 0)).s,.bool true) :: ρ)) else none
noncomputable def ACt(sc:Scope)(ρ:Rho)(iter:Expr):Option (List D):=(ρ.lookup (Aa5 (Aeo iter 0)).s).bind Akg
noncomputable def AFu(own:List Str)(sc:Scope)(ρ:Rho)(target iter:Expr)(body:List Stmt):Option Res:=
 if (Aa5 target).tag=4∧(Aa5 iter).tag=1∧(Aa5 (Aa5 iter).f).tag=3∧(Aa5 (Aa5 iter).f).s = "enumerate"∧(Aa5 iter).a.length=1∧(Aa5 (Aeo iter 0)).tag=3∧AbA (Aa5 (Aeo iter 0)).s=true∧sc.names.lookup ("enumerate":Str)=some .globalImplicit∧(ACt sc ρ iter).isSome=true
 then AmY own sc (.Tuple (Aa5 target).a (Aa5 target).n (Aa5 target).p) (fun ρ=>ex (Tc0.stm own sc) (ev Tc0 8 sc) own sc 8 ρ body) (AqG 0 ((ACt sc ρ iter).getD [])) ρ else none
noncomputable def ACu(own:List Str)(sc:Scope)(ρ:Rho):Stmt→Option Res
 |.Assign ts value _=>(one ts).bind fun t=>AFt own sc ρ t value
 |.For target iter body orelse _=>emp orelse (AFu own sc ρ target iter body)
 |_=>none
noncomputable def AEw(sc:Scope)(ρ:Rho)(e:Expr):List D:=((ρ.lookup (Aa5 (Aeo (Aeo e 0) 1)).s).bind Akg).getD []
noncomputable def ACv(sc:Scope)(ρ:Rho)(e:Expr):Option D:=
 if (Aa5 e).tag=1∧(Aa5 (Aa5 e).f).tag=3∧(Aa5 (Aa5 e).f).s = "tuple"∧(Aa5 e).a.length=1∧(Aa5 (Aeo e 0)).tag=1∧(Aa5 (Aa5 (Aeo e 0)).f).tag=3∧(Aa5 (Aa5 (Aeo e 0)).f).s = "map"∧(Aa5 (Aeo e 0)).a.length=2∧(Aa5 (Aeo (Aeo e 0) 0)).tag=3∧(Aa5 (Aeo (Aeo e 0) 0)).s = "fspath"∧(Aa5 (Aeo (Aeo e 0) 1)).tag=3∧AbA (Aa5 (Aeo (Aeo e 0) 1)).s=true ∧
  sc.names.lookup ("tuple":Str)=some .globalImplicit∧sc.names.lookup ("map":Str)=some .globalImplicit∧sc.names.lookup ("fspath":Str)=some .globalImplicit∧((ρ.lookup (Aa5 (Aeo (Aeo e 0) 1)).s).bind Akg).isSome=true∧(AEw sc ρ e).length≤1000∧(AvA fspD (AEw sc ρ e)).isSome=true
 then some (.tup ((AvA fspD (AEw sc ρ e)).getD [])) else none
section
variable{B:Bs}{m:Nat}
theorem AvH(W:LW B){A:Around}{own:List Str}{env:Env}{ρ:Rho}{e:Expr}{d:D}{s₀ s:Shared}{g₀ g:Gh}(hA:AOk (m+2) A)(h:ACv env.scope ρ e=some d)(F:Fm B s₀ g₀ own env ρ s g):Aaq B A s g (eval e env) fun g' v=>Den g' v d:=by
 refine Aaz (Abg h) fun q1 h=>?_;refine ADM q1 fun c1 c2 c3 c4 c5 c6 c7 c8 c9 c10 c11 oy k1 k2 k3 hy hz hr=>?_
 cases h
 exact AjW W.O (AnB c1 (Alh c2 c3) ((AEu c4).trans (congrArg (fun x=>[x]) (AnB c5 (Alh c6 c7) ((AEv c8).trans (Ahx (Alh c9 c10) (Aow c11))))))) (Aou (m:=m) W) hA k1 k2 k3 (Abr W "tuple" _ rfl) (Abr W "map" _ rfl) (Abr W "fspath" _ rfl) rfl (As5 hy) oy (Agt hr) hz F
theorem Azf(W:LW B){A:Around}{own:List Str}{env:Env}{ρ:Rho}{t value:Expr}{q:Pos}{r:Res}{s₁ s:Shared}{g₁ g:Gh}(hA:AOk m A)(h:AFt own env.scope ρ t value=some r)(F:Fm B s₁ g₁ own env ρ s g):AgV B A s₁ g₁ own env s g (exec (.Assign [t] value q) env) r:=by
 refine Aaz (Abg h) fun q2 h=>?_;refine ADK q2 fun c1 c2 c3 c4 c5 c6 c7 c8 c9 hf=>?_
 cases h
 refine Aab (Aag hf) fun items hi hf=>?_;refine Aab (Aag hi) fun x hx hi=>?_;have K:∀ s g,AbO B m Tc0 s g:=fun s g=>As2 W s g;refine AqF W.O hA.handled (st:=.Assign [t] value q) (ACs ((ACn c1).trans (congrArg (fun x=>Expr.Tuple x (Aa5 t).n (Aa5 t).p) ((AEu c2).trans (congrArg (fun x=>[x]) (Aow c3))))) ((ACp c4).trans (congrArg (fun x=>Expr.SetComp (Aa5 value).f x (Aa5 value).sc (Aa5 value).p) ((ADy c5).trans (congrArg (fun x=>[x]) (Aze c6)))))) ((AaD W.O (K _ _) hA 8).1 own env ρ)
  (fun s₁ g₁ own' cenv ρ' xx hsc=>?_) (fun s₁ g₁ own' cenv ρ' xx hsc=>?_) c7 c8 hx hi hf c9 F
 ·have:=(AaD W.O (K s₁ g₁) hA 8).1 own' cenv ρ';rw[hsc,← Abe] at this;exact this
 ·have:=(AaD W.O (K s₁ g₁) hA 8).2 own' cenv ρ';rw[hsc,← Abe] at this;exact this
theorem As7{g:Gh}{s:Shared}(I:Inv B s g){a:Addr}(h:s.heap.get? a=none):g a=none:=by
 cases e:g a with
 |none=>rfl
 |some o=>have:=I.real _ _ e;rw[h] at this;exact Aah this
theorem Azg(W:LW B){A:Around}{own:List Str}{env:Env}{ρ:Rho}{target iter:Expr}{body:List Stmt}{q:Pos}{r:Res}{s₁ s:Shared}{g₁ g:Gh}(hA:AOk m A)(h:AFu own env.scope ρ target iter body=some r)(F:Fm B s₁ g₁ own env ρ s g):AgV B A s₁ g₁ own env s g (exec (.For target iter body [] q) env) r:=by
 refine Aaz (Abg h) fun q3 hf=>?_;refine AE9 q3 fun c1 c2 c3 c4 c5 c6 ox k1 hx=>?_;clear h;have ht:=ACn c1;have hx:ρ.lookup (Aa5 (Aeo iter 0)).s=some (.list ((ACt env.scope ρ iter).getD [])):=As5 hx;have hi:=AnB c2 (Alh c3 c4) ((AEu c5).trans (congrArg (fun x=>[x]) (Aow c6)));generalize (ACt env.scope ρ iter).getD []=ds at hf hx;generalize (Aa5 target).a=ta,(Aa5 target).n=tn,(Aa5 target).p=tp at hf ht;clear c1 c2 c3 c4 c5 c6;subst ht;have K:∀ s g,AbO B m Tc0 s g:=fun s g=>As2 W s g;rw[hi];refine AeT fun Q E hQ=>?_;refine wpAny_For (wpAny_Call_NameR ((F.gname W.O k1 (Abr W "enumerate" _ rfl) rfl).use fun fv s2 g2 x2 h2=>?_)) (fun _=>rfl);subst h2;have F2:=F.step x2;refine Ad0 rfl (Calls.spliced_cons ((F2.name hx ox).use fun lv s3 g3 x3 h3=>wpAny_pure ?_));induction h3 using Den.listE with|list e1 e2=>?_
 have X3:=x2.trans x3;have F3:=F.step X3;refine call_enumerate_list (s:=s3) ⟨_,X3.inv.real _ _ e1,rfl,_,rfl⟩ fun h5 hE hI hz keep=>?_;have x5:Aae B s3 g3 {s3 with heap:=h5} g3:=⟨g3.le_refl,X3.inv.keeps W.O keep rfl rfl,.of keep,fun _ _ e=>.inl e⟩;have hIn:s3.heap.get? s3.heap.objs.size=none:=AaM _;have hEn:s3.heap.get? (s3.heap.objs.size+1)=none:=Heap.get?_none_of_le (Nat.le_succ _);refine wpAny_pyIter_enum hE ?_;refine codeAny_mono (AvD (s1:=s3) (g1:=g3) W.O hA.handled (fun ρ r s g hr F=>AbW W.O (K _ _) hA 8 ρ r _ s g hr F) (F3.step x5) hE hI e1 (by simpa using e2) (F3.st.ext.dead hEn) (F3.st.ext.dead hIn) (As7 X3.inv hEn) (As7 X3.inv hIn) (Nat.succ_ne_self _) hf hEn hIn x5.lets) fun rr s' hr=>?_
 obtain⟨f,rfl,g',l,e⟩:=hr
 exact hQ _ _ ⟨g',AcP.trans X3.lets l,e⟩
theorem Azh(W:LW B){A:Around}{own:List Str}{env:Env}{ρ:Rho}{st:Stmt}{r:Res}{s₁ s:Shared}{g₁ g:Gh}(hA:AOk m A)(h:ACu own env.scope ρ st=some r)(F:Fm B s₁ g₁ own env ρ s g):AgV B A s₁ g₁ own env s g (exec st env) r:=by
 induction st using PySem.Stmt.casesOn with
 |Assign ts value q=>
  refine Aab (Aag (show(one ts).bind _=some r from h)) fun t o1 h1=>?_
  obtain rfl:=AdK o1
  exact Azf W hA h1 F
 |For target iter body orelse q=>
  (refine Aaz (Afx h) fun q4 h=>?_;subst q4)
  exact Azg W hA h F
 |_=>exact Aah h
end
noncomputable def Tc:Tb:=⟨fun x=>Axs.lookup x,AcY [(.ref AdV,fspD),(.builtin "isinstance",bIsi),(.builtin "str.startswith",bStartswith),(.builtin "str.split",bSplit),(.builtin "min",bMin),(.builtin "max",bMax),(.builtin "str.join",bJoin)],Abv,ACv,ACu⟩
section
variable{B:Bs}{m:Nat}
theorem AEx(W:LW B)(s:Shared)(g:Gh)(I:Inv B s g):AbO B (m+2) Tc s g where
 glob:=Abr W
 app:=fun v F e=>(AaL (n:=m+2) (fun p hp=>by
  simp only[List.mem_cons,List.not_mem_nil,or_false] at hp
  rcases hp with rfl|rfl|rfl|rfl|rfl|rfl|rfl
  ·exact Aou W
  ·exact Axd
  ·exact AdP
  ·exact An9 W.O
  ·exact Axa W.O
  ·exact Axb W.O
  ·exact Art) v F e).at I
 spec:=fun _ _ _ _ _ _ _ _ hA h F=>AvH W hA h F
 stm:=fun _ _ _ _ _ _ _ _ _ _ hA _ h F=>Azh W hA h F
 meth:=AeH
noncomputable def comD:List D→Option D:=fnD Tc 12 20 ["paths"] Avf AcC
theorem ACw(W:LW B):Abw B (m+3) (.ref AeD) comD:=by have:=Acg (n:=m+2) W.O (k:=12) (m:=20) (Aso W.G) (fun s g I=>AEx W s g I);rw[AhW] at this;exact this
end
end Mine
namespace Mine
open PySem PySem.W PyProof.Rows PySem.W.X
section
variable{B:Bs}{A:Around}{s₀ s s':Shared}{g₀ g g':Gh}{own:List Str}{env:Env}{ρ:Rho}{n:Nat}{T:Tb}
theorem AqI{a b:Str}(hab:a≠b)(v w:Value):merged [] [(a,v),(b,w)]=[(a,v),(b,w)]:=by unfold merged stored;simp [hab]
theorem Ali(O:B.Ok)(hsys:∃ o,B.G.get? sysModules=some o)(K:AbO B n T s₀ g₀)(hA:AOk n A){e v1 v2 ey d0:Expr}{a b z:Str}{c1 c2:Nat}{p1 p2 pd apos pos:Pos}{i1 i2 i0:Int}{k:Nat}
  (he:e=.Call (.Attribute (.Dict [some (.Constant (.str a) c1 p1),some (.Constant (.str b) c2 p2)] [v1,v2] pd) "get" apos) [ey,d0] [] pos) (hab:a≠b) (hl:(apos.endLine == pos.line)=true)
  (h1:ev T k env.scope ρ v1=some (.int i1)) (h2:ev T k env.scope ρ v2=some (.int i2)) (h0:ev T k env.scope ρ d0=some (.int i0)) (hns:Abt d0=true) (hys:Abt ey=true) (hy:ev T k env.scope ρ ey=some (.str z))
  (F:Fm B s₀ g₀ own env ρ s g):Aaq B A s g (eval e env) fun g' v=>Den g' v (.int (if z=a then i1 else if z=b then i2 else i0)):=by
 subst he;have S:=(AaD O K hA k).1 own env ρ;have hb:backTo pos (starEach [ey,d0] env)=[(false,eval ey env),(false,eval d0 env)]:=AaC (by intro e' he';simp at he';rcases he' with rfl|rfl;exact hys;exact hns);refine wpAny_Call_method (T:="dict") (id:="dict.get") (AeQ rfl) (by rw[hb];rfl) hl PySem.F.plainAttrs_dict PySem.F.slot_dict_get PySem.F.type_dict_get ?_;have xo:=Aae.open (o:={cls:=.type "dict",data:=.dict #[]}) O F.inv;have Fo:=F.step xo;have hDo:(s.heap.push {cls:=.type "dict",data:=.dict #[]}).get? s.heap.objs.size=some {cls:=.type "dict",data:=.dict #[]}:=Heap.get?_push_size _ rfl;have gD:g s.heap.objs.size=none:=F.inv.fresh;have sD:s.heap.get? s.heap.objs.size=none:=AaM _;refine wpAny_Dict_walk (knd:=strKind B.prog B.w) rfl rfl (by simp) (by simp) ?_;refine pairTrees_cons_walk (wpAny_Constant_str ?_);have xt1:=Aae.tok Fo.inv (s.toks+1);refine(S _ _ _ g h1 (Fo.step xt1)).useI fun _ s1 g1 x1=>?_;have F1:=(Fo.step xt1).step x1;refine pairTrees_cons_walk (wpAny_Constant_str ?_);have xt2:=Aae.tok F1.inv (s1.toks+1);refine(S _ _ _ g1 h2 (F1.step xt2)).useI fun _ s2 g2 x2=>?_;have F2:=(F1.step xt2).step x2;refine pairTrees_nil_walk ?_;have X2:=(((xo.trans xt1).trans x1).trans xt2).trans x2;have Xo2:=((xt1.trans x1).trans xt2).trans x2;have hD2:s2.heap.get? s.heap.objs.size=some {cls:=.type "dict",data:=.dict #[]}:=Xo2.ext.keep _ _ hDo (Aal rfl);have gD2:g2 s.heap.objs.size=none:=Xo2.shutNone hDo gD;rename_i w2t w1t;refine⟨[(a,.int i1 w2t),(b,.int i2 w1t)],⟨strKind_is _ _ a _,rfl,strKind_is _ _ b _,rfl,trivial⟩,⟨_,#[],0,hD2,⟨rfl,rfl,rfl⟩,rfl,fun _ he=>by simp at he,Pairs.nil,List.nodup_nil⟩,fun h3 hm hsb=>?_⟩;rw[AqI hab] at hm;have x3:Aae B s g {s2 with heap:=h3,toks:=s2.toks+2} g2:=X2.turn O sD gD2 hD2 (AaH rfl (by decide)) hsb rfl rfl;have F3:=F.step x3;refine⟨hm.mapOf.typeIs,hm.mapOf.noDict,?_⟩;rw[hb];refine AbU (g:=g2) (first:=[.ref s.heap.objs.size]) (P:=fun g' vs=>Aar g' vs [.str z,.int i0]) (.inl ⟨_,rfl⟩) (by simp) (Calls.spliced_cons ((S _ _ _ _ hy F3).use fun v4 s4 g4 x4 hv4=>Calls.spliced_cons ((S _ _ _ _ h0 (F3.step x4)).use fun v5 s5 g5 x5 hv5=>wpAny_pure ⟨g5,x4.trans x5,.cons (hv4.mono x5.le) (.cons hv5 .nil)⟩))) fun us s4 g4 x4 hus=>?_;induction hus using Aar.consE with|cons hz hn=>?_
 induction hn using Aar.consE with|cons hi hn=>?_
 induction hn using Aar.nilE;induction hz using Den.strE;induction hi using Den.intE;have hne:(s.heap.objs.size == sysModules)=false:=by
  obtain⟨o,ho⟩:=hsys
  have:=F.inv.real _ _ (F.inv.base _ _ ho);exact beq_eq_false_iff_ne.mpr fun e=>by rw[← e,sD] at this;exact Aah this
 have hm4:s4.heap.MapOf (strKind B.prog B.w) s.heap.objs.size (valueAt [(a,.int i1 w2t),(b,.int i2 w1t)]):=by refine AxT hm.mapOf fun o es ep ho hex r=>?_;exact⟨o,es,ep,x4.ext.keep _ _ ho (Aal hex.1),hex,r⟩
 refine call_meetsIn PySem.F.slot_dict_get hm4.typeIs PySem.F.entry_dict_get (PySem.F.args_dict_get_3 _ _ _) (meets_dict_get_default (knd:=PySem.strKind B.prog B.w) (k:=z) (hkey:=strKind_is _ _ z _) (hd:=hne) (dflt:=_)) ⟨_,hm4,?_⟩;refine⟨g4,(x3.trans x4).trans (Aae.tok x4.inv _),?_⟩;unfold valueAt
 by_cases ha:z=a
 ·subst ha;simp only[List.find?_cons,decide_true,Option.map_some,Option.getD_some,if_true];exact .int
 ·have ha':decide (a=z)=false:=decide_eq_false fun e=>ha e.symm;rw[if_neg ha]
  by_cases hb':z=b
  ·subst hb';simp only[List.find?_cons,ha',decide_true,Option.map_some,Option.getD_some,if_true];exact .int
  ·have hb'':decide (b=z)=false:=decide_eq_false fun e=>hb' e.symm;rw[if_neg hb'];simp only[List.find?_cons,ha',hb'',List.find?_nil,Option.map_none,Option.getD_none];exact .int
end
noncomputable def AxB(e:Expr)(i:Nat):Expr:=((Aa5 e).ks.getD i none).getD e
theorem AEy{e:Expr}(h:(Aa5 e).ks.length=2)(h0:((Aa5 e).ks.getD 0 none).isSome=true)(h1:((Aa5 e).ks.getD 1 none).isSome=true):(Aa5 e).ks=[some (AxB e 0),some (AxB e 1)]:=(Auc h).trans (Ahx (Agt h0) (Agt h1))
theorem Azi{e f f':Expr}{a a':List Expr}{p:Pos}(h:e=.Call f a [] p)(hf:f=f')(ha:a=a'):e=.Call f' a' [] p:=by subst hf;subst ha;exact h
theorem Azj{e f f':Expr}{x y:Str}{p:Pos}(h:e=.Attribute f x p)(hf:f=f')(ha:x=y):e=.Attribute f' y p:=by subst hf;subst ha;exact h
theorem Azk{e:Expr}{k k':List (Option Expr)}{a a':List Expr}{p:Pos}(h:e=.Dict k a p)(hf:k=k')(ha:a=a'):e=.Dict k' a' p:=by subst hf;subst ha;exact h
noncomputable def evI(T:Tb)(sc:Scope)(ρ:Rho)(e:Expr):Option Int:=(ev T 4 sc ρ e).bind AvE
noncomputable def Afk(e:Expr):Expr:=(Aa5 (Aa5 e).f).f
noncomputable def AF2(T:Tb)(sc:Scope)(ρ:Rho)(e:Expr):Int:=
 if ((ev T 4 sc ρ (Aeo e 0)).bind AqH).getD ""=(Aa5 (AxB (Afk e) 0)).s then (evI T sc ρ (Aeo (Afk e) 0)).getD 0 else if ((ev T 4 sc ρ (Aeo e 0)).bind AqH).getD ""=(Aa5 (AxB (Afk e) 1)).s then (evI T sc ρ (Aeo (Afk e) 1)).getD 0 else (evI T sc ρ (Aeo e 1)).getD 0
noncomputable def ACx(T:Tb)(sc:Scope)(ρ:Rho)(e:Expr):Option D:=
 if (Aa5 e).tag=1∧(Aa5 (Aa5 e).f).tag=2∧(Aa5 (Aa5 e).f).s = "get"∧(Aa5 (Afk e)).tag=5∧(Aa5 (Afk e)).ks.length=2∧((Aa5 (Afk e)).ks.getD 0 none).isSome=true∧((Aa5 (Afk e)).ks.getD 1 none).isSome=true∧(Aa5 (AxB (Afk e) 0)).tag=7∧(Aa5 (AxB (Afk e) 1)).tag=7∧(Aa5 (Afk e)).a.length=2∧(Aa5 e).a.length=2∧Abt (Aeo e 0)=true ∧
  (Aa5 (AxB (Afk e) 0)).s≠(Aa5 (AxB (Afk e) 1)).s∧((Aa5 (Aa5 e).f).p.endLine == (Aa5 e).p.line)=true∧Abt (Aeo e 1)=true∧(evI T sc ρ (Aeo (Afk e) 0)).isSome=true∧(evI T sc ρ (Aeo (Afk e) 1)).isSome=true∧(evI T sc ρ (Aeo e 1)).isSome=true∧((ev T 4 sc ρ (Aeo e 0)).bind AqH).isSome=true
 then some (.int (AF2 T sc ρ e)) else none
section
variable{B:Bs}{m:Nat}
theorem AvI(O:B.Ok)(hsys:∃ o,B.G.get? sysModules=some o){n:Nat}{T:Tb}{A:Around}{own:List Str}{env:Env}{ρ:Rho}{e:Expr}{d:D}{s₀ s:Shared}{g₀ g:Gh}(K:AbO B n T s₀ g₀)(hA:AOk n A)(h:ACx T env.scope ρ e=some d)(F:Fm B s₀ g₀ own env ρ s g):Aaq B A s g (eval e env) fun g' v=>Den g' v d:=by
 refine Aaz (Abg h) fun q1 hd=>?_;refine ADN q1 fun c1 c2 c3 c4 c5 c6 c7 c8 c9 c10 c11 hys hab hl hns g1 g2 g0 hy=>?_
 cases hd
 exact Ali O hsys K hA (Azi (AxA c1) (Azj (ACm c2) (Azk (ACo c4) ((AEy c5 c6 c7).trans (Ahx (congrArg some (ACq c8)) (congrArg some (ACq c9)))) (AEv c10)) c3) (AEv c11)) hab hl (As4 g1) (As4 g2) (As4 g0) hns hys (ACr hy) F
end
theorem AfN{a b:D}{c:Bool}(h:eqD a b=some c):AmN .NotEq a b=some (!c):=by unfold AmN;rw[h];rfl
noncomputable def AEz:List (Str×Value):=[("_law_rows",.ref AaZ),("_law_root",.ref Aa0),("_law_leaf",.ref Aa1),("_law_full",.ref Aa2),("_law_text",.ref Aa3),("_law_read",.ref Aa4),("_law_shared",.ref AaE),("_law_twos",.ref AaV),("_law_depths",.ref AaF),("_law_divided",.ref Aas),("_law_worth",.ref AaU),("_law_turns",.ref AaI),("_law_rounds",.ref AaA),("_law_compared",.ref Aav),("_law_in_order",.ref Aao),("_law_goes",.ref Aay),("_law_led",.ref Abb)]
theorem Azl(p:Params):AEz.all (fun q=>Ak9 p q.1 == some q.2)=true:=by kernel_rfl!
theorem As8{B:Bs}(W:LW B)(x:Str)(v:Value)(h:(Axs++AEz).lookup x=some v):B.look x=some v:=by
 have hm:=PySem.mem_of_lookup h
 rcases List.mem_append.mp hm with hm|hm
 ·exact W.gl x v (eq_of_beq (List.all_eq_true.mp (Ant B.w.params) _ hm))
 ·exact W.gl x v (eq_of_beq (List.all_eq_true.mp (Azl B.w.params) _ hm))
noncomputable def mkL(app:Value→Option (List D→Option D)):Tb:=⟨fun x=>(Axs++AEz).lookup x,app,Abv,fun _ _ _=>none,fun _ _ _ _=>none⟩
theorem AbN{B:Bs}(W:LW B){n:Nat}{app:Value→Option (List D→Option D)}(h:∀ v F,app v=some F→Abw B n v F)(s:Shared)(g:Gh)(I:Inv B s g):AbO B n (mkL app) s g where
 glob:=As8 W
 app:=fun v F e=>(h v F e).at I
 spec:=fun _ _ _ _ _ _ _ _ _ e=>by cases e
 stm:=fun _ _ _ _ _ _ _ _ _ _ _ _ e=>by cases e
 meth:=AeH
noncomputable def Phi(a:Addr)(F:List D→Option D)(b:Addr):Option (List D→Option D):=if b=a then some F else none
theorem ACy{B:Bs}{n:Nat}{a:Addr}{F:List D→Option D}(h:Abw B n (.ref a) F):∀ b F',Phi a F b=some F'→Abw B n (.ref b) F':=fun b F' e=>by
 unfold Phi at e
 split at e
 ·rename_i hb;subst hb;cases e;exact h
 ·cases e
section
variable{T:Tb}{n:Nat}{sc sc':Scope}{ρ:Rho}{e elt:Expr}{p:Pos}{g:Comprehension}{rest:List Comprehension}{x:D}{items out:List D}
theorem Afq(he:e=.ListComp elt (g :: rest) sc' p)(hc:(g :: rest).all (fun c=>c.is_async == 0)=true∧Abu g.iter=true∧Abq sc' sc=true)(hx:ev T n sc ρ g.iter=some x)(hi:AbK x=some items)
  (hf:AaW (Aak sc'.names) (Aaw sc' sc) (fun ρ e=>Aa9 (ev T n (Aaw sc' sc) ρ) e) g.target g.ifs (AgW (ev T n (Aaw sc' sc)) (Aak sc'.names) (Aaw sc' sc) elt rest) (Aa7 sc' ρ) items []=some out):ev T (n+1) sc ρ e=some (.list out):=by
 subst he;exact r_0 rfl (ift hc (Aan hx (Aan hi (Aan hf rfl))))
end
theorem AgR{α:Type}{own:List Str}{sc:Scope}{T:Rho→Expr→Option Bool}{target:Expr}{ifs:List Expr}{inner:Rho→α→Option α}{ρ ρ₁:Rho}{d:D}{ds:List D}{a a' r:α}
  (hk:(if (Arh target).all (fun x=>(ρ.lookup x).isNone)=true then Acy own sc target d ρ else none)=some ρ₁) (ht:An1 T ρ₁ ifs=some true) (hi:inner ρ₁ a=some a') (h:AaW own sc T target ifs inner ρ ds a'=some r) :
  AaW own sc T target ifs inner ρ (d :: ds) a=some r:=by
 exact Aan (Aan hk (Aan ht hi)) h
theorem AnC{E:Rho→Expr→Option D}{own:List Str}{sc:Scope}{elt:Expr}{ρ:Rho}{a:List D}{d:D}(h:E ρ elt=some d)(hl:a.length<1000000):AgW E own sc elt [] ρ a=some (a++[d]):=by exact Aan h (ift hl rfl)
theorem ACz{E:Rho→Expr→Option D}{elt:Expr}{ρ:Rho}{a:Nat}(h:E ρ elt=some (.bool true)):As0 E elt ρ a=some 1:=Aan h (Aan rfl (if_pos rfl))
theorem AEA{own:List Str}{sc scope:Scope}{ρ:Rho}{st:Stmt}{y:Str}{q q2 pos p:Pos}{k2:Nat}{elt target iter:Expr}{ifs:List Expr}{x:D}{items:List D}(hst:st=.Assign [.Tuple [.Name y q] k2 q2] (.SetComp elt [⟨target,iter,ifs,0⟩] scope pos) p)
  (hc:Abu iter=true∧Abq scope sc=true∧okT own sc y=true) (hx:ev Tc0 8 sc ρ iter=some x) (hi:AbK x=some items)
  (hf:AaW (Aak scope.names) (Aaw scope sc) (fun ρ e=>Aa9 (ev Tc0 8 (Aaw scope sc) ρ) e) target ifs (As0 (ev Tc0 8 (Aaw scope sc)) elt) (Aa7 scope ρ) items 0=some 1):ACu own sc ρ st=some (.next ((y,.bool true) :: ρ)):=by
 subst hst;exact ift ⟨rfl,rfl,rfl,rfl,rfl,rfl,hc.1,hc.2.1,hc.2.2,Aan (Aan hx hi) hf⟩ rfl
noncomputable def As9:Stmt:=(Avf[3]?).getD AbJ
noncomputable def kS(i:Nat):Stmt:=((tryOf As9)[i]?).getD AbJ
theorem Azm:tryOf As9=[kS 0,kS 1,kS 2,kS 3,kS 4,kS 5,kS 6,kS 7,kS 8]:=by kernel_rfl!
noncomputable def AEB:Expr:=lcElt (Aat (kS 2))
noncomputable def AEC:Scope:=Aaw (lcScope (Aat (kS 2))) AcC
noncomputable def AvJ(l:List D):Option D:=ev Tc 11 AEC [("s",.list l),("curdir",.str ".")] AEB
noncomputable abbrev XC:Rho→Stmt→Option Res:=Tc.stm (Aak AcC.names) AcC
noncomputable abbrev EC(k:Nat):Rho→Expr→Option D:=ev Tc k AcC
theorem ACA(ρ:Rho)(st:Stmt):XC ρ st=ACu (Aak AcC.names) AcC ρ st:=rfl
theorem AED{a b:Str}{la lb fa fb:List D}{r:D}(h1:bSplit [.str a,.str "/"]=some (.list la))(h2:bSplit [.str b,.str "/"]=some (.list lb))(h3:Txt.startswith a "/"=true)(h4:Txt.startswith b "/"=true)
  (h5:AvJ la=some (.list fa)) (h6:AvJ lb=some (.list fb))
  (h:∀ ρ:Rho,ρ.lookup ("sep":Str)=some (.str "/")→ρ.lookup ("isabs":Str)=some (.bool true)→ρ.lookup ("split_paths":Str)=some (.list [.list fa,.list fb])→ρ.lookup ("min":Str)=none→ρ.lookup ("max":Str)=none→ex XC (EC 12) (Aak AcC.names) AcC 13 ρ [kS 3,kS 4,kS 5,kS 6,kS 7,kS 8]=some (.ret r)):comD [.list [.str a,.str b]]=some r:=by
 suffices hs:ex XC (EC 12) (Aak AcC.names) AcC 20 [("paths",.list [.str a,.str b])] Avf=some (.ret r) by
  unfold comD fnD;rw[if_pos (show[("paths":Str)].length=[D.list [D.str a,D.str b]].length from rfl)];show(match ex XC (EC 12) (Aak AcC.names) AcC 20 [("paths",.list [.str a,.str b])] Avf with|some (.ret d)=>some d|some (.next _)=>some .none|_=>none)=_;rw[hs]
 refine AcE (d:=.tup [.str a,.str b]) rfl rfl (.inl rfl) (AsB rfl rfl) (by kernel_rfl!) ?_;refine AcF rfl rfl (AaJ (d:=.bool false) (Asx rfl (Aai rfl) rfl) rfl) (Ab4 rfl) ?_;refine AcF rfl rfl (AaJ (d:=.bool false) ?_ rfl) ?_ ?_ (ρ':=[("curdir",.str "."),("sep",.str "/"),("paths",.tup [.str a,.str b]),("paths",.list [.str a,.str b])])
 ·exact Abs rfl (Aax rfl (AaK rfl rfl (Aai rfl) (Aaa rfl rfl) rfl) (Aax rfl (AeW rfl rfl rfl rfl rfl rfl) (Aam rfl))) rfl
 ·refine AcE (d:=.str "/") rfl rfl (.inl rfl) (Aaa rfl rfl) (by kernel_rfl!) ?_;exact AcE (d:=.str ".") rfl rfl (.inl rfl) (Aaa rfl rfl) (by kernel_rfl!) (Ab4 rfl)
 refine Ay3 rfl rfl ?_;show ex XC (EC 12) (Aak AcC.names) AcC 16 _ (tryOf As9)=_;rw[Azm];refine AcE (rest:=[kS 1,kS 2,kS 3,kS 4,kS 5,kS 6,kS 7,kS 8]) (d:=.list [.list la,.list lb]) rfl rfl (.inr rfl) ?_ (by kernel_rfl!) ?_
 ·refine Afq rfl ⟨rfl,rfl,by kernel_rfl!⟩ (Aai rfl) rfl ?_;refine AgR (ρ₁:=[("path",.str a),("sep",.str "/")]) (by kernel_rfl!) rfl (AnC (d:=.list la) ?_ (by simp)) ?_
  ·exact Adn rfl rfl ⟨rfl,rfl,by decide⟩ (Aai rfl) rfl rfl rfl (Aax rfl (Aai rfl) (Aam rfl)) h1
  refine AgR (ρ₁:=[("path",.str b),("sep",.str "/")]) (by kernel_rfl!) rfl (AnC (d:=.list lb) ?_ (by simp)) rfl;exact Adn rfl rfl ⟨rfl,rfl,by decide⟩ (Aai rfl) rfl rfl rfl (Aax rfl (Aai rfl) (Aam rfl)) h2
 refine ACd (ρ':=("isabs",.bool true) :: [("split_paths",.list [.list la,.list lb]),("curdir",.str "."),("sep",.str "/"),("paths",.tup [.str a,.str b]),("paths",.list [.str a,.str b])]) (rest:=[kS 2,kS 3,kS 4,kS 5,kS 6,kS 7,kS 8]) rfl rfl ?_ ?_
 ·refine ACe rfl ?_ (Ab4 rfl);refine(ACA _ _).trans ?_;refine AEA rfl ?_ (Aai rfl) rfl ?_
  ·exact⟨rfl,by kernel_rfl!,by kernel_rfl!⟩
  refine AgR (ρ₁:=[("p",.str a),("sep",.str "/")]) (by kernel_rfl!) rfl (ACz ?_) ?_
  ·exact Adn rfl rfl ⟨rfl,rfl,by decide⟩ (Aai rfl) rfl rfl rfl (Aax rfl (Aai rfl) (Aam rfl)) (by show some (D.bool _)=_;rw[h3])
  refine AgR (ρ₁:=[("p",.str b),("sep",.str "/")]) (by kernel_rfl!) rfl (ACz ?_) rfl;exact Adn rfl rfl ⟨rfl,rfl,by decide⟩ (Aai rfl) rfl rfl rfl (Aax rfl (Aai rfl) (Aam rfl)) (by show some (D.bool _)=_;rw[h4])
 refine AcE (rest:=[kS 3,kS 4,kS 5,kS 6,kS 7,kS 8]) (d:=.list [.list fa,.list fb]) rfl rfl (.inr rfl) ?_ (by kernel_rfl!) ?_
 ·refine Afq rfl ⟨rfl,rfl,by kernel_rfl!⟩ (Aai rfl) rfl ?_;refine AgR (ρ₁:=[("s",.list la),("curdir",.str ".")]) (by kernel_rfl!) rfl (AnC (d:=.list fa) h5 (by simp)) ?_;exact AgR (ρ₁:=[("s",.list lb),("curdir",.str ".")]) (by kernel_rfl!) rfl (AnC (d:=.list fb) h6 (by simp)) rfl
 exact h _ rfl rfl rfl rfl rfl
noncomputable def AvK(s1 s2:List D):Nat→List D→Option (List D)
 |_,[]=>some s1
 |i,c :: cs=>(Adw (.list s2) (.int i)).bind fun d=>(eqD c d).bind fun b=>
  if b=true then AvK s1 s2 (i+1) cs else (Afs (.list s1) none (some i) none).bind fun y=>Acx y fun x=>some x
noncomputable def AAH:Expr:=tgtOf (kS 6)
noncomputable def AFv:List Stmt:=loopOf (kS 6)
noncomputable abbrev BDc:Rho→Option Res:=fun ρ=>ex (Tc0.stm (Aak AcC.names) AcC) (ev Tc0 8 AcC) (Aak AcC.names) AcC 8 ρ AFv
theorem ACB:kS 6=.For (.Tuple (tupEs AAH) 0 AAH.pos) (.Call (.Name "enumerate" (Acw (iterOf (kS 6)))) [.Name "s1" (AeU 0 (iterOf (kS 6))).pos] [] (iterOf (kS 6)).pos) AFv [] (Abf (kS 6)):=by kernel_rfl!
theorem Aox(i:Int)(c:D)(ρ:Rho):Acy (Aak AcC.names) AcC (.Tuple (tupEs AAH) 0 AAH.pos) (.tup [.int i,c]) ρ=some ((("c":Str),c) :: (("i":Str),D.int i) :: ρ):=by kernel_rfl!
theorem Ata{c d:D}{i:Nat}{ρ:Rho}{s2:List D}(h2:ρ.lookup ("s2":Str)=some (.list s2))(hi:Adw (.list s2) (.int i)=some d)(he:eqD c d=some true) :
  BDc (("c",c) :: ("i",.int i) :: ρ)=some (.next (("c",c) :: ("i",.int i) :: ρ)):=by
 refine AcF rfl rfl (AaJ (d:=.bool false) (Aby rfl rfl (Aai rfl) (AaK rfl rfl (Aej rfl rfl h2) (Aai rfl) hi) (AfN he)) rfl) (Ab4 rfl) (Ab4 rfl)
theorem AqJ{c d:D}{i:Nat}{ρ:Rho}{s1 s2 x:List D}(h1:ρ.lookup ("s1":Str)=some (.list s1))(h2:ρ.lookup ("s2":Str)=some (.list s2))(hi:Adw (.list s2) (.int i)=some d)(he:eqD c d=some false)(hs:Afs (.list s1) none (some i) none=some (.list x)) :
  BDc (("c",c) :: ("i",.int i) :: ρ)=some (.brk (("common",.list x) :: ("c",c) :: ("i",.int i) :: ρ)):=by
 refine Ay4 rfl rfl (AaJ (d:=.bool true) (Aby rfl rfl (Aai rfl) (AaK rfl rfl (Aej rfl rfl h2) (Aai rfl) hi) (AfN he)) rfl) ?_;refine AcE (d:=.list x) rfl rfl (.inl rfl) ?_ (by kernel_rfl!) (AEt rfl rfl);exact AdX rfl (Aej rfl rfl h1) (AbS rfl) (AeX rfl (Aai rfl)) (AbS rfl) hs
theorem Akh{s1 s2 r:List D}:∀ (cs:List D) (i:Nat) (ρ:Rho),ρ.lookup ("s1":Str)=some (.list s1)→ρ.lookup ("s2":Str)=some (.list s2)→ρ.lookup ("common":Str)=some (.list s1)→AvK s1 s2 i cs=some r →
  ∃ ρ',AmY (Aak AcC.names) AcC (.Tuple (tupEs AAH) 0 AAH.pos) BDc (AqG i cs) ρ=some (.next ρ')∧ρ'.lookup ("common":Str)=some (.list r)∧ρ'.lookup ("sep":Str)=ρ.lookup ("sep":Str)∧ρ'.lookup ("isabs":Str)=ρ.lookup ("isabs":Str)
 |[],i,ρ,h1,h2,h3,h=>by
  cases h
  exact⟨ρ,rfl,h3,rfl,rfl⟩
 |c :: cs,i,ρ,h1,h2,h3,h=>by
  refine Aab (Aag h) fun d hi h=>?_;refine Aab (Aag h) fun b he h=>?_
  ·induction b using Bool.casesOn with
   |true=>
    refine Aht (Akh cs (i+1) (("c",c) :: ("i",.int i) :: ρ) h1 h2 h3 h) fun ρ' e1 e2 e3 e4=>?_;exact⟨ρ',Axx (Aox _ _ _) (Ata h2 hi he) e1,e2,e3,e4⟩
   |false=>
    refine Aab (Aag h) fun y hs h=>?_;refine Aab (AaT h) fun x q1 h_1=>?_;subst q1;have h_1:=sj h_1;subst h_1;exact⟨_,AEr (Aox _ _ _) (AqJ h1 h2 hi he hs),rfl,rfl,rfl⟩
theorem ACC{own:List Str}{sc:Scope}{ρ:Rho}{st:Stmt}{es:List Expr}{k2:Nat}{pt q q' p2 pos:Pos}{x:Str}{body:List Stmt}{ds:List D}{r:Res}(hst:st=.For (.Tuple es k2 pt) (.Call (.Name "enumerate" q) [.Name x q'] [] p2) body [] pos)
  (hc:AbA x=true∧sc.names.lookup ("enumerate":Str)=some .globalImplicit) (hx:ρ.lookup x=some (.list ds)) (hf:AmY own sc (.Tuple es k2 pt) (fun ρ=>ex (Tc0.stm own sc) (ev Tc0 8 sc) own sc 8 ρ body) (AqG 0 ds) ρ=some r):ACu own sc ρ st=some r:=by
 subst hst;have e:ACt sc ρ (.Call (.Name "enumerate" q) [.Name x q'] [] p2)=some ds:=Aan hx rfl;refine ift ⟨rfl,rfl,rfl,rfl,rfl,rfl,hc.1,hc.2,by rw[e];rfl⟩ ?_;rw[e];exact hf
theorem AEE{fa fb s1 s2 c:List D}{j:Str}{ρ:Rho}(h1:bMin [.list [.list fa,.list fb]]=some (.list s1))(h2:bMax [.list [.list fa,.list fb]]=some (.list s2))(h3:AvK s1 s2 0 s1=some c)(h4:bJoin [.str "/",.list c]=some (.str j))(h5:j.cps.size≤1000)
  (k1:ρ.lookup ("sep":Str)=some (.str "/")) (k2:ρ.lookup ("isabs":Str)=some (.bool true)) (k3:ρ.lookup ("split_paths":Str)=some (.list [.list fa,.list fb])) (k4:ρ.lookup ("min":Str)=none) (k5:ρ.lookup ("max":Str)=none) :
  ex XC (EC 12) (Aak AcC.names) AcC 13 ρ [kS 3,kS 4,kS 5,kS 6,kS 7,kS 8]=some (.ret (.str ("/"++j))):=by
 refine AcE (rest:=[kS 4,kS 5,kS 6,kS 7,kS 8]) (d:=.list s1) rfl rfl (.inl rfl) (AiU rfl rfl (AeW rfl rfl k4 rfl rfl rfl) rfl (Aax rfl (Aej rfl rfl k3) (Aam rfl)) h1) (by kernel_rfl!) ?_;refine AcE (rest:=[kS 5,kS 6,kS 7,kS 8]) (d:=.list s2) rfl rfl (.inl rfl) (AiU rfl rfl (AeW rfl rfl k5 rfl rfl rfl) rfl (Aax rfl (Aej rfl rfl k3) (Aam rfl)) h2) (by kernel_rfl!) ?_;refine AcE (rest:=[kS 6,kS 7,kS 8]) (d:=.list s1) rfl rfl (.inl rfl) (Aai rfl) (by kernel_rfl!) ?_;refine Aht (Akh (s1:=s1) (s2:=s2) s1 0 (("common",.list s1) :: ("s2",.list s2) :: ("s1",.list s1) :: ρ) rfl rfl rfl h3) fun ρ' e1 e2 e3 e4=>?_;refine ACe (st:=kS 6) (rest:=[kS 7,kS 8]) (ρ':=ρ') rfl ((ACA _ _).trans (ACC ACB ⟨rfl,by kernel_rfl!⟩ rfl e1)) ?_;have k1':ρ'.lookup ("sep":Str)=some (.str "/"):=e3.trans k1;have k2':ρ'.lookup ("isabs":Str)=some (.bool true):=e4.trans k2;refine AcE (rest:=[kS 8]) (d:=.str "/") rfl rfl (.inl rfl) (Asy rfl (AaJ (Aej rfl rfl k2') rfl) (Aej rfl rfl k1')) (by kernel_rfl!) ?_;refine Aco rfl rfl (Aa6 rfl (Aai rfl) (Adn rfl rfl ⟨rfl,rfl,by decide⟩ (Aej rfl rfl k1') rfl rfl rfl (Aax rfl (Aej rfl rfl e2) (Aam rfl)) h4) ?_);refine if_pos ?_;have:(("/":Str)).cps.size=1:=rfl
 omega
noncomputable def AFw(fa fb:List D):Option Str:=(bMin [.list [.list fa,.list fb]]).bind fun x=>Acx x fun s1=>(bMax [.list [.list fa,.list fb]]).bind fun y=>Acx y fun s2=>
 (AvK s1 s2 0 s1).bind fun c=>(bJoin [.str "/",.list c]).bind fun z=>AdH z fun j=>if j.cps.size≤1000 then some ("/"++j) else none
structure Azn(a:Str)(fa:List D):Prop where
 split:∃ la,bSplit [.str a,.str "/"]=some (.list la)∧AvJ la=some (.list fa)
 abs:Txt.startswith a "/"=true
theorem Atb{a b:Str}{fa fb:List D}{r:Str}(ha:Azn a fa)(hb:Azn b fb)(h:AFw fa fb=some r):comD [.list [.str a,.str b]]=some (.str r):=by refine Aab ha.split fun la a1 a2=>?_;refine Aab hb.split fun lb b1 b2=>?_;refine Aab (Aag h) fun x h1 h=>?_;refine Aab (AaT h) fun s1 q1 h_1=>?_;subst q1;refine Aab (Aag h_1) fun y h2 h=>?_;refine Aab (AaT h) fun s2 q1 h_2=>?_;subst q1;refine Aab (Aag h_2) fun c h3 h=>?_;refine Aab (Aag h) fun z h4 h=>?_;refine Aab (AaN h) fun j q1 h_3=>?_;subst q1;refine Aaz (Abg h_3) fun h5 h=>?_;have h:=sj h;subst h;exact AED a1 b1 ha.abs hb.abs a2 b2 fun ρ k1 k2 k3 k4 k5=>AEE h1 h2 h3 h4 h5 k1 k2 k3 k4 k5
noncomputable def AxC:Tb:=mkL (AcY [(.builtin "sum",bSum),(.type "range",bRange)])
noncomputable def rowsD:List D→Option D:=fnD AxC 16 24 ["script"] Aka Akb
theorem Azo{B:Bs}{m:Nat}(W:LW B):Abw B (m+1) (.ref AaZ) rowsD:=by have h:=Acg (n:=m+0) (T:=AxC) W.O (k:=16) (m:=24) (Ajo W.G) (fun s g I=>AbN W (AaL (al (Aoa W.O) (al (Ach W.O) an))) s g I);rw[Aec] at h;exact h
noncomputable def AxD:Tb:=mkL (AcY [(.builtin "sum",bSum)])
noncomputable def rootD:List D→Option D:=fnD AxD 16 24 ["script"] Aqe Aqf
theorem Azp{B:Bs}{m:Nat}(W:LW B):Abw B (m+1) (.ref Aa0) rootD:=by have h:=Acg (n:=m+0) (T:=AxD) W.O (k:=16) (m:=24) (Ajq W.G) (fun s g I=>AbN W (AaL (al (Aoa W.O) an)) s g I);rw[Aed] at h;exact h
noncomputable def AxE:Tb:=mkL (AcY [(.ref Ac5,i2dD),(.builtin "len",bLen),(.ref Ab3,AEg (Phi AeC joiD))])
noncomputable def leafD:List D→Option D:=fnD AxE 16 24 ["rest","root"] Aqg Aqh
theorem Azq{B:Bs}{m:Nat}(W:LW B):Abw B (m+11) (.ref Aa1) leafD:=by have h:=Acg (n:=m+10) (T:=AxE) W.O (k:=16) (m:=24) (Ajs W.G) (fun s g I=>AbN W (AaL (al ((Axw (m:=m) W).up (by omega)) (al Aj5 (al (ACj W (ACy ((ACf (m:=m) W).up (by omega)))) an)))) s g I);rw[Aee] at h;exact h
noncomputable def AxF:Tb:=mkL (AcY [(.type "range",bRange)])
noncomputable def fullD:List D→Option D:=fnD AxF 16 24 ["number","root"] Aqi Aqj
theorem Azr{B:Bs}{m:Nat}(W:LW B):Abw B (m+1) (.ref Aa2) fullD:=by have h:=Acg (n:=m+0) (T:=AxF) W.O (k:=16) (m:=24) (Aju W.G) (fun s g I=>AbN W (AaL (al (Ach W.O) an)) s g I);rw[Aef] at h;exact h
noncomputable def AxG:Tb:=mkL (AcY [(.builtin "str.join",bJoin)])
noncomputable def textD:List D→Option D:=fnD AxG 16 24 ["names"] Aqk Aql
theorem Azs{B:Bs}{m:Nat}(W:LW B):Abw B (m+1) (.ref Aa3) textD:=by have h:=Acg (n:=m+0) (T:=AxG) W.O (k:=16) (m:=24) (Ajw W.G) (fun s g I=>AbN W (AaL (al Art an)) s g I);rw[Aeg] at h;exact h
noncomputable def Aoy:Tb:=mkL (AcY [(.ref AeD,comD)])
noncomputable def sharedD:List D→Option D:=fnD Aoy 16 24 ["one","other"] Al0 Al1
theorem Atc{B:Bs}{m:Nat}(W:LW B):Abw B (m+4) (.ref AaE) sharedD:=by have h:=Acg (n:=m+3) (T:=Aoy) W.O (k:=16) (m:=24) (Ag1 W.G) (fun s g I=>AbN W (AaL (al (ACw W) an)) s g I);rw[Adk] at h;exact h
noncomputable def AxH:Tb:=mkL (AcY [(.builtin "len",bLen)])
noncomputable def twosD:List D→Option D:=fnD AxH 16 24 ["number"] Aqo Aqp
theorem Atd{B:Bs}{m:Nat}(W:LW B):Abw B (m+1) (.ref AaV) twosD:=by have h:=Acg (n:=m+0) (T:=AxH) W.O (k:=16) (m:=24) (AjA W.G) (fun s g I=>AbN W (AaL (al Aj5 an)) s g I);rw[Aei] at h;exact h
noncomputable def Ate:Tb:=mkL (AcY [(.builtin "sum",bSum),(.type "range",bRange)])
noncomputable def worthD:List D→Option D:=fnD Ate 16 24 ["row","x"] AiC AiD
theorem AvL{B:Bs}{m:Nat}(W:LW B):Abw B (m+1) (.ref AaU) worthD:=by have h:=Acg (n:=m+0) (T:=Ate) W.O (k:=16) (m:=24) (AiF W.G) (fun s g I=>AbN W (AaL (al (Aoa W.O) (al (Ach W.O) an))) s g I);rw[AdA] at h;exact h
noncomputable def Atf:Tb:=mkL (AcY [])
noncomputable def turnsD:List D→Option D:=fnD Atf 16 24 ["row"] Anj Ank
theorem Aoz{B:Bs}{m:Nat}(W:LW B):Abw B (m+1) (.ref AaI) turnsD:=by
 have h:=Acg (n:=m+0) (T:=Atf) W.O (k:=16) (m:=24) (AiH W.G) (fun s g I=>AbN W (AaL fun p hp=>by
  cases hp) s g I)
 rw[AdB] at h;exact h
noncomputable def AoA:Tb:=mkL (AcY [])
noncomputable def roundsD:List D→Option D:=fnD AoA 16 24 ["row"] Al3 AeE
theorem Atg{B:Bs}{m:Nat}(W:LW B):Abw B (m+1) (.ref AaA) roundsD:=by
 have h:=Acg (n:=m+0) (T:=AoA) W.O (k:=16) (m:=24) (Ahi W.G) (fun s g I=>AbN W (AaL fun p hp=>by
  cases hp) s g I)
 rw[Adl] at h;exact h
noncomputable def Aki:Tb:=mkL (AcY [])
noncomputable def comparedD:List D→Option D:=fnD Aki 16 24 ["one","other","depths"] AjH AjI
theorem AnD{B:Bs}{m:Nat}(W:LW B):Abw B (m+1) (.ref Aav) comparedD:=by
 have h:=Acg (n:=m+0) (T:=Aki) W.O (k:=16) (m:=24) (AfH W.G) (fun s g I=>AbN W (AaL fun p hp=>by
  cases hp) s g I)
 rw[AcI] at h;exact h
noncomputable def ACD:List (List Str):=[[],["ab"],["a","ab"],["ab","ab"]]
noncomputable def Abz(l:List Str):D:=.list (l.map D.str)
noncomputable def Ath(rt:List Str)(x:Int):List Str:=rt++(List.range 3).map fun (k:Nat)=>if (x / 2 ^ k) % 2=0 then ("a":Str) else "ab"
structure KF(K:Frag)(aC aM f0 f1:Addr):Prop where
 nt:∀ a o,K.lookup a=some o→Abp o
 makes:makesIn K aC=true
 init:findIn K (.ref aC) "__init__"=some (some (.ref f0))
 tf0:typeIn K (.ref f0)=some (.type "function")
 lt:findIn K (.ref aC) "__lt__"=some (some (.ref f1))
 tf1:typeIn K (.ref f1)=some (.type "function")
 sa:findIn K (.ref aC) "__setattr__"=some (some (.builtin "object.__setattr__"))
 plain:plainOver K aC=true
 taker:takerIn K aC "obj"=some (some (.ref aM))
 tM:typeIn K (.ref aM)=some (.type "member_descriptor")
 slot:slotIn K aM aC=some 0
 ga:findIn K (.ref aC) "__getattribute__"=some (some (.builtin "object.__getattribute__"))
 find:∀ od,findObj K aC od "obj"=some (.bind (.builtin "member_descriptor.__get__") (.ref aM))
 gt:findIn K (.ref aC) "__getattr__"=some none
theorem AvM{l:List (Addr×Obj)}{a:Addr}{o:Obj}(e:l.lookup a=some o):(a,o)∈l:=by
 induction l with
 |nil=>exact Aah e
 |cons q r ih=>
  rw[List.lookup_cons] at e
  split at e
  ·rename_i hq;cases e;have:=eq_of_beq hq;subst this;exact .head _
  ·exact .tail _ (ih e)
theorem Azt{h:Heap}{l:List (Addr×Obj)}(hl:∀ p∈l,h.get? p.1=some p.2):Frag.In l h∧∀ p∈l,l.lookup p.1=some p.2:=by
 have h1:Frag.In l h:=by
  intro a o e;induction l with
  |nil=>exact Aah e
  |cons q r ih=>
   rw[List.lookup_cons] at e
   split at e
   ·rename_i hq;cases e;have:=eq_of_beq hq;subst this;exact hl _ (.head _)
   ·exact ih (fun p hp=>hl p (.tail _ hp)) e
 refine⟨h1,fun p hp=>?_⟩
 cases e:l.lookup p.1 with
 |some o=>have:=h1 _ _ e;rw[hl p hp] at this;cases this;rfl
 |none=>
  exfalso;clear h1 hl;induction l with
  |nil=>cases hp
  |cons q r ih=>
   rw[List.lookup_cons] at e
   split at e
   ·injection e
   ·rename_i hq
    rcases List.mem_cons.mp hp with rfl|hp
    ·simp at hq
    ·exact ih hp e
section
variable{K:Frag}{w:World}{aC:Addr}{d:KD}{fd0 fd1:FuncData}
theorem AEF(hn:∀ a o,K.lookup a=some o→Abp o)(kM:K.lookup d.aM=some (AAE aC d.tM))(kC:K.lookup aC=some (Ayl aC d.aN d.b d.tk d.u1))(kN:K.lookup d.aN=some (Aau (d.ents w) 3))
 (k0:K.lookup d.f0=some ⟨.type "function",none,.func fd0,#[]⟩) (k1:K.lookup d.f1=some ⟨.type "function",none,.func fd1,#[]⟩):KF K aC d.aM d.f0 d.f1:=by
 unfold AAE at kM;unfold Ayl at kC;unfold Aau at kN;have init:findIn K (.ref aC) "__init__"=some (some (.ref d.f0)):=by simp only[findIn,kC,alongIn,ownIn,nsIn,kN];kernel_rfl!
 have lt:findIn K (.ref aC) "__lt__"=some (some (.ref d.f1)):=by simp only[findIn,kC,alongIn,ownIn,nsIn,kN];kernel_rfl!
 have obj:findIn K (.ref aC) "obj"=some (some (.ref d.aM)):=by simp only[findIn,kC,alongIn,ownIn,nsIn,kN];kernel_rfl!
 have sa:findIn K (.ref aC) "__setattr__"=some (some (.builtin "object.__setattr__")):=by simp only[findIn,kC,alongIn,ownIn,nsIn,kN];kernel_rfl!
 have ga:findIn K (.ref aC) "__getattribute__"=some (some (.builtin "object.__getattribute__")):=by simp only[findIn,kC,alongIn,ownIn,nsIn,kN];kernel_rfl!
 have gt:findIn K (.ref aC) "__getattr__"=some none:=by simp only[findIn,kC,alongIn,ownIn,nsIn,kN];kernel_rfl!
 have tM:typeIn K (.ref d.aM)=some (.type "member_descriptor"):=congrArg (Option.map fun o:Obj=>o.cls) kM;have tC:typeIn K (.ref aC)=some (.type "type"):=congrArg (Option.map fun o:Obj=>o.cls) kC;have cl:clsIn K aC=some {name:="K",bases:=[.type "object"],mro:=[.ref aC,.type "object"],ns:=d.aN,qualname:="cmp_to_key.<locals>.K",hasDict:=false,slotNames:=["obj"]}:=by simp only[clsIn,kC]
 have sp:specialIn K (.ref aC) "__call__"=some (some (.builtin "type.__call__")):=by simp only[specialIn,tC];kernel_rfl!
 have iT:instIn K (.ref aC) (.type "type")=some true:=by simp only[instIn,tC];kernel_rfl!
 have tk:takesIn K (.ref d.aM)=some true:=by
  have:specialIn K (.ref d.aM) "__set__"=some (some (.builtin "member_descriptor.__set__")):=by simp only[specialIn,tM];kernel_rfl!
  unfold takesIn;rw[this]
 have gM:specialIn K (.ref d.aM) "__get__"=some (some (.builtin "member_descriptor.__get__")):=by simp only[specialIn,tM];kernel_rfl!
 refine⟨hn,?_,init,congrArg (Option.map fun o:Obj=>o.cls) k0,lt,congrArg (Option.map fun o:Obj=>o.cls) k1,sa,?_,?_,tM,?_,ga,fun od=>?_,gt⟩
 ·unfold makesIn;rw[kC];simp only[sp,iT];simp
 ·unfold plainOver;rw[cl];kernel_rfl!
 ·unfold takerIn;rw[obj];show(takesIn K (.ref d.aM)).map _=_;rw[tk];rfl
 ·unfold slotIn recIn;rw[kM,cl];simp
 ·unfold findObj;rw[cl,Option.bind_some,obj,Option.bind_some];dsimp only;rw[gM,Option.bind_some];dsimp only;rw[tk];rfl
end
noncomputable def KAt(h:Heap)(aC f0 f1:Addr):Prop:=∃ K aM,Frag.In K h∧KF K aC aM f0 f1
theorem KAt.ext{h h':Heap}{aC f0 f1:Addr}(k:KAt h aC f0 f1)(x:Ext h h'):KAt h' aC f0 f1:=
 let ⟨K,aM,i,f⟩:=k;⟨K,aM,fun a o e=>x.keep a o (i a o e) (f.nt a o e),f⟩
theorem AFx{α:Type}{P:α→Prop}{a b c d e:α}(h1:P a)(h2:P b)(h3:P c)(h4:P d)(h5:P e):∀ p∈[a,b,c,d,e],P p:=by
 intro p hp;simp only[List.mem_cons,List.not_mem_nil,or_false] at hp
 rcases hp with rfl|rfl|rfl|rfl|rfl<;>assumption
theorem KIs.kAt{B:Bs}{h₀ h:Heap}{s:Shared}{g:Gh}{cm aC:Addr}{d:KD}(I:Inv B s g)(k:KIs d B.w h₀ s g cm aC)(keep:∀ a o,Abp o→(∀ es n,o.data=.dict es n→h₀.get? a=none)→(∀ v,o.data≠.cell v)→s.heap.get? a=some o→h.get? a=some o):KAt h aC d.f0 d.f1:=by
 refine Abm k.k0 fun fd0 m0=>?_;refine Abm k.k1 fun fd1 m1=>?_;have F:=Azt (h:=h) (AFx (P:=fun p=>h.get? p.1=some p.2) (a:=(d.aM,AAE aC d.tM)) (b:=(aC,Ayl aC d.aN d.b d.tk d.u1)) (c:=(d.aN,Aau (d.ents B.w) 3)) (d:=(d.f0,{cls:=.type "function",data:=.func fd0})) (e:=(d.f1,{cls:=.type "function",data:=.func fd1}))
  (keep _ _ (Aal rfl) (fun _ _ e=>nomatch e) (fun _ e=>nomatch e) k.eM) (keep _ _ (Aal rfl) (fun _ _ e=>nomatch e) (fun _ e=>nomatch e) k.eC) (keep _ _ (Aal rfl) (fun _ _ _=>k.en) (fun _ e=>nomatch e) k.eN)
  (keep _ _ (Aal rfl) (fun _ _ e=>nomatch e) (fun _ e=>nomatch e) (I.real _ _ m0.obj)) (keep _ _ (Aal rfl) (fun _ _ e=>nomatch e) (fun _ e=>nomatch e) (I.real _ _ m1.obj)))
 exact⟨_,d.aM,F.1,AEF (fun a o e=>AFx (P:=fun p=>Abp p.2) (Aal rfl) (Aal rfl) (Aal rfl) (Aal rfl) (Aal rfl) _ (AvM e)) (F.2 _ (.head _)) (F.2 _ (.tail _ (.head _))) (F.2 _ (.tail _ (.tail _ (.head _)))) (F.2 _ (.tail _ (.tail _ (.tail _ (.head _))))) (F.2 _ (.tail _ (.tail _ (.tail _ (.tail _ (.head _))))))⟩
theorem IsK.kAt{B:Bs}{h₀:Heap}{s:Shared}{g:Gh}{cm aC:Addr}(I:Inv B s g)(k:IsK B.w h₀ s g cm aC):∃ f0 f1,(∀ h,(∀ a o,Abp o→(∀ es n,o.data=.dict es n→h₀.get? a=none)→(∀ v,o.data≠.cell v)→s.heap.get? a=some o→h.get? a=some o)→KAt h aC f0 f1)∧KFn s g cm 2 f0∧KFn s g cm 3 f1:=
 k.elim fun d k=>⟨d.f0,d.f1,fun h keep=>k.kAt I keep,k.k0,k.k1⟩
end Mine
namespace Mine
open PySem PySem.W PyProof.Rows PySem.W.X PySem.Calls Builtin Builtin.ObjectAttr Builtin.Getset_descriptor
section
variable{B:Bs}{A:Around}{s s':Shared}{g g':Gh}{n:Nat}
theorem Ati(O:B.Ok){a:Addr}{fd:FuncData}{params:Arguments}{xs:List Str}{body:List Stmt}{scope:Scope}{cl:List (Str×Addr)}{σ:Rho}(Md:Af0 s.heap g a fd params (.stmts body) scope cl)(hb:AhI params xs)(hs:Ac4 scope xs=true)(C:Ac3 s.heap g scope.names cl σ)
  {us:List Value} {ds:List D} (hA:AOk (n+1) A) (I:Inv B s g) (hd:Aar g us ds) (hl:xs.length=ds.length) {R:Result→Shared→Prop}
  (h:∀ env s',env.scope=scope→env.code=fd.code→Fm B s g (Aak scope.names) env ((xs.zip ds).reverse++σ) s' g →
   wpAny B.M (A.deeper env) (execs body env) (fun f s''=>R (.ok (.ret (match f with|.ret v=>v|_=>.none))) s'') (fun _ _=>False) s') :
  codeAny B.M A (.call (.ref a) ⟨us,[]⟩) R s:=by
 refine Akr Md.code fun c o _ _ _ hcd=>?_;refine AoR (Adi hs) fun h1 h2 h3 h5=>?_;refine codeAny_call_function hA.dlt (I.get Md.obj) rfl (by rw[Md.scope];exact h3) (by rw[Md.scope];exact h2) Md.body hcd ?_;rw[hb fd us Md.params Md.defs.1 Md.defs.2 (by rw[hd.length,hl])];refine wpAny_pure ?_;rw[Md.glob,Md.clos,Md.blt,Md.scope];refine wpAny_mono (Ahm O I h1 C h5 hl hd (Q:=fun env s'=>s'.heap.NoLimit∧codeAny B.M A (.func body env) R s') fun env s' e1 e2 e3 F=>⟨?_,?_⟩) (fun _ _ h=>h) fun _ _ h=>h.elim
 ·refine Aab O.lim fun mc hmc hno=>?_;exact⟨mc,F.inv.ns hmc,hno⟩
 ·refine codeAny_mono (codeAny_func (R:=fun r s'=>match r with|.ok (.ret v)=>R (.ok (.ret v)) s'|_=>False) (wpAny_mono (h env s' e1 e2 F) (fun f s'' h=>h) fun _ _ h=>h.elim)) fun r s' hr=>?_
  rcases r with e|(v|_|_|_)<;>first|exact hr|exact hr.elim
theorem AOk.type_call{C:Addr}{vs:List Value}(h:AOk (n+1) A):AOk n (A.under (.builtin "type.__call__" ⟨.ref C :: vs,[]⟩)):=
 h.to (k:=1) h.handled (Nat.add_le_add_left (by decide:1≤8) A.depth) rfl (by decide)
theorem Atj(i:Nat)(x y:Str)(hi:(i=2∧x = "self"∧y = "obj")∨(i=3∧x = "self"∧y = "other")):∀ (fd:FuncData) (a b:Value),fd.params=Af4 i→fd.defaults=.none→fd.kwdefaults=.none→bindArgs fd ⟨[a,b],[]⟩=pure [(x,a),(y,b)]:=by
 intro q1;obtain⟨nm,qn,pr,bd,sc,gl,cl,df,kd,dc,pm,an,cd,ct,bt⟩:=q1;intro a b h1 h2 h3;simp only at h1 h2 h3;subst h1 h2 h3
 rcases hi with ⟨rfl,rfl,rfl⟩|⟨rfl,rfl,rfl⟩<;>kernel_rfl!
theorem AvN:AhI (Af4 2) ["self","obj"]:=fun fd vs e1 e2 e3 e4=>L2 (P:=fun vs=>bindArgs fd ⟨vs,[]⟩=pure ([("self":Str),"obj"].zip vs)) e4 fun u v=>Atj 2 "self" "obj" (.inl ⟨rfl,rfl,rfl⟩) fd u v e1 e2 e3
theorem AvO:AhI (Af4 3) ["self","other"]:=fun fd vs e1 e2 e3 e4=>L2 (P:=fun vs=>bindArgs fd ⟨vs,[]⟩=pure ([("self":Str),"other"].zip vs)) e4 fun u v=>Atj 3 "self" "other" (.inr ⟨rfl,rfl,rfl⟩) fd u v e1 e2 e3
theorem AEG:Ac4 (kSc 2) ["self","obj"]=true:=by kernel_rfl!
theorem AEH:Ac4 (kSc 3) ["self","other"]=true:=by kernel_rfl!
theorem Azu:∃ p1 p2 p3 p4,AkD 2=[.Assign [.Attribute (.Name "self" p1) "obj" p2] (.Name "obj" p3) p4]:=⟨_,_,_,_,rfl⟩
theorem AvP:(kSc 2).names=([("self",NameKind.local),("obj",NameKind.local)]:List (Str×NameKind)):=by kernel_rfl!
theorem Alj:(kSc 3).names=([("self",NameKind.local),("other",NameKind.local),("mycmp",NameKind.free)]:List (Str×NameKind)):=by kernel_rfl!
noncomputable def AqK(C dd:Addr)(v:Value):Obj:={cls:=.ref C,dict:=some dd,data:=.plain,slots:=#[some v]}
theorem Ai4{C dd:Addr}{v:Value}:Abp (AqK C dd v):=AcN (by intro vs e;injection e)
theorem AqL{h:Heap}{g:Gh}{names:List (Str×NameKind)}(hn:∀ x,names.lookup x≠some .free):Ac3 h g names [] []:=
 And.intro (fun x e=>absurd e (hn x)) (And.intro (fun x c (e:List.lookup x []=some c)=>by exact Aah e) (fun x d (e:List.lookup x []=some d)=>by exact Aah e))
theorem Azv(x:Str):(kSc 2).names.lookup x≠some .free:=by
 rw[AvP];intro e;simp only[List.lookup_cons,List.lookup_nil] at e
 split at e
 ·cases e
 ·split at e<;>(first|exact Aah e|cases e)
theorem AF3{prog:Program}{w:World}{A:Around}{K:Frag}{C x p:Addr}{R:Result→Shared→Prop}{s:Shared}{ox:Obj}{od:Option Obj}{v:Value}(X:K.In s.heap)(I:InstAt s.heap x ox C od)(hp:slotIn K p C=some 0)
  (h:R (.ok (.ret .none)) {s with heap:=s.heap.update x fun o=>{o with slots:=(o.slots++Array.replicate (1 - o.slots.size) none).setIfInBounds 0 (some v)}}) :
  codeAny (model prog w) A (.call (.builtin "member_descriptor.__set__") ⟨[.ref p,.ref x,v],[]⟩) R s:=by
 refine Aua (slot_of X hp) fun n tn owner behind q=>Aua q fun tb d sl cd q=>AAK q fun ho hc hm hb h0=>?_
 obtain⟨hh,g,dr,t,os⟩:=s
 have T0:=I.type (M:=model prog w);have T1:=looks_mroIn (M:=model prog w) X hm;have T2:Looks (model prog w) hh (Builtin.Slots.slotNamesOf (.ref C)) cd.slotNames:=(looks_clsIn X hc).andThen .now;have hx:=I.at_;dsimp only at ho hx T0 T1;have a0:=looks_field (M:=model prog w) ho 0 (v:=.str n tn) rfl;have a1:=looks_field (M:=model prog w) ho 1 (v:=owner) rfl;have a2:=looks_field (M:=model prog w) ho 3 (v:=.builtin "proto.slot#set") rfl;have a3:=looks_field (M:=model prog w) ho 4 (v:=.int behind tb) rfl;have a4:Looks (model prog w) hh (descrItself (.ref p)) [.ref p]:=((Looks.ld (part:=none) ho).andThen .now).andThen (Looks.of_pure (by kernel_rfl));refine codeAny_call_builtin KF.slot_mset.plain KF.entry_mset (KF.slot_mset.check _ _ _ _ _ _ _ _ ⟨_,ho,rfl⟩ (KF.args_mset _ _ _) ?_);unfold Builtin.«member_descriptor.__set__» descrSet descrStoreThrough descrCheckInstance descrNameAndClass isInstance
 repeat lk
 refine⟨Code.quiet_builtin _ (by decide +kernel),codeAny_builtin KF.entry_slotset ?_⟩;unfold Builtin.«proto.slot#set» Builtin.Slots.target
 repeat lk
 rw[if_neg hb,← h0];refine wpAny_pure (wpAny_bind ?_);unfold setSlotAt;dsimp only;rw[if_neg (by rw[sizeLine_eq];decide)];exact wpAny_updatePart hx (wpAny_pure h)
noncomputable def Alk(h:Heap)(C x:Addr)(v:Value):Prop:=∃ dd o,h.get? x=some (AqK C dd v)∧h.get? dd=some o∧Abp o
theorem Alk.ext{h h':Heap}{C x:Addr}{v:Value}(k:Alk h C x v)(x1:Ext h h'):Alk h' C x v:=
 let ⟨dd,o,e1,e2,e3⟩:=k;⟨dd,o,x1.keep _ _ e1 Ai4,x1.keep _ _ e2 e3,e3⟩
noncomputable def KIn(g:Gh)(C x:Addr)(v:Value):Prop:=∃ dd o,g x=some (AqK C dd v)∧g dd=some o∧Abp o
theorem KIn.mono{C x:Addr}{v:Value}(k:KIn g C x v)(h:g.le g'):KIn g' C x v:=let ⟨dd,o,e1,e2,e3⟩:=k;⟨dd,o,h _ _ e1,h _ _ e2,e3⟩
theorem KIn.inst{C x:Addr}{v:Value}(k:KIn g C x v)(I:Inv B s g):Alk s.heap C x v:=let ⟨dd,o,e1,e2,e3⟩:=k;⟨dd,o,I.real _ _ e1,I.real _ _ e2,e3⟩
theorem ACE(O:B.Ok)(hA:AOk (n+2) A)(I:Inv B s g){aC f0 f1 cm:Addr}(k:KAt s.heap aC f0 f1)(m0:KFn s g cm 2 f0){v:Value}{Q E:Value→Shared→Prop}
  (hq:∀ x s' g',Aae B s g s' g'→KIn g' aC x v→Q (.ref x) s'):wpAny B.M A (call (.ref aC) [v]) Q E s:=by
 refine Ad9 k fun K aM iK kf=>?_;refine Abm m0 fun fd m0=>?_;rw[if_pos rfl] at m0;have hs:s=⟨s.heap,s.gens,s.drawn,s.toks,s.os⟩:=rfl;have x1:=(Aae.open (o:=emptyDict) O I);have x2:=x1.trans (Aae.open (o:=instObj aC s.heap.objs.size) O x1.inv);have hD:((s.heap.push emptyDict).push (instObj aC s.heap.objs.size)).get? s.heap.objs.size=some emptyDict:=Heap.get?_push_of_some _ (Heap.get?_push_size _ rfl);have hX:((s.heap.push emptyDict).push (instObj aC s.heap.objs.size)).get? (s.heap.objs.size+1)=some (instObj aC s.heap.objs.size):=by
  have:=Heap.get?_push_size (h:=s.heap.push emptyDict) (o:=instObj aC s.heap.objs.size) rfl
  rwa [Heap.size_push] at this
 have hXn:s.heap.get? (s.heap.objs.size+1)=none:=Heap.get?_none_of_le (Nat.le_succ _);have hNs:((s.heap.push emptyDict).push (instObj aC s.heap.objs.size)).Ns s.heap.objs.size (fun _=>none):=(Heap.Ns.new s.heap (.type "dict")).keeps fun _ _ e=>Heap.get?_push_of_some _ e;refine wpAny_call ?_;show codeAny B.M A (.call (.ref aC) ⟨[v],[]⟩) _ ⟨s.heap,s.gens,s.drawn,s.toks,s.os⟩;refine make_core (makes_of iK kf.makes) (looks_findIn iK kf.init) (fun self=>bind_fn iK self kf.tf0) (.inl rfl) ?_;refine Ati O (s:=⟨(s.heap.push emptyDict).push (instObj aC s.heap.objs.size),s.gens,s.drawn,s.toks,s.os⟩) (g:=g) (ds:=[.val (.ref (s.heap.objs.size+1)),.val v]) (σ:=[]) (m0.step x2) AvN AEG (AqL Azv) (AOk.type_call hA) x2.inv (.cons .val (.cons .val .nil)) rfl fun env s1 e1 e2 F=>?_;refine Aua Azu fun p1 p2 p3 p4 hb=>?_;rw[hb];refine wpAny_execs_cons ?_;refine plainObj_wpAny_Assign_Attribute ?_ rfl;refine(F.name (x:="obj") rfl rfl).useV fun s2 g2 y2=>?_;refine((F.step y2).name (x:="self") rfl rfl).useV fun s3 g3 y3=>?_;have F3:=(F.step y2).step y3;have X3:=x2.trans F3.st;have iK3:Frag.In K s3.heap:=fun a o e=>X3.ext.keep a o (iK a o e) (kf.nt a o e);have hX3:s3.heap.get? (s.heap.objs.size+1)=some (instObj aC s.heap.objs.size):=F3.st.ext.keep _ _ hX (AcN (by intro vs e;injection e));have hD3:s3.heap.get? s.heap.objs.size=some emptyDict:=F3.st.ext.keep _ _ hD (Aal rfl);have IA:InstAt s3.heap (s.heap.objs.size+1) (instObj aC s.heap.objs.size) aC (some emptyDict):=⟨hX3,rfl,rfl,hD3⟩;refine set_plain iK3 IA kf.sa ?_;refine osa_descr (s:={s3 with toks:=s3.toks+1}) KF.slot_mset iK3 IA kf.plain kf.taker kf.tM ?_;refine AF3 (s:={s3 with toks:=s3.toks+1}) iK3 IA kf.slot ?_;refine wpAny_execs_nil ⟨rfl,?_⟩;have sb:=Heap.SameBut.update s3.heap (s.heap.objs.size+1) (fun o:Obj=>{o with slots:=(o.slots++Array.replicate (1 - o.slots.size) none).setIfInBounds 0 (some v)});have hU:=Heap.get?_update_self (h:=s3.heap) (a:=s.heap.objs.size+1) (fun o:Obj=>{o with slots:=(o.slots++Array.replicate (1 - o.slots.size) none).setIfInBounds 0 (some v)}) hX3 rfl;have gX:g3 (s.heap.objs.size+1)=none:=F3.st.shutNone hX (by
  cases e:g (s.heap.objs.size+1) with
  |none=>rfl
  |some o=>have:=I.real _ _ e;rw[hXn] at this;exact Aah this)
 have x4:Aae B s g _ g3:=X3.turn (s'':={s3 with heap:=s3.heap.update (s.heap.objs.size+1) fun o=>{o with slots:=(o.slots++Array.replicate (1 - o.slots.size) none).setIfInBounds 0 (some v)},toks:=s3.toks+1}) O hXn gX hX3 (Aer (by intro vs e;injection e)) sb rfl rfl;have hdx:s.heap.objs.size≠s.heap.objs.size+1:=Nat.ne_of_lt (Nat.lt_succ_self _);have hD4:(s3.heap.update (s.heap.objs.size+1) fun o=>{o with slots:=(o.slots++Array.replicate (1 - o.slots.size) none).setIfInBounds 0 (some v)}).get? s.heap.objs.size=some emptyDict:=(sb.2 s.heap.objs.size hdx).trans hD3;have x5:=Aae.shut (o:=AqK aC s.heap.objs.size v) x4 hXn hU gX Ai4;have x6:=Aae.shut (o:=emptyDict) x5 (AaM _) hD4 (by rw[Gh.put_other hdx];exact F3.st.shutNone hD I.fresh) (Aal rfl);exact hq _ _ _ x6 ⟨_,_,by rw[Gh.put_other hdx.symm];exact Gh.put_self ..,Gh.put_self ..,Aal rfl⟩
end
end Mine
namespace Mine
open PySem PySem.W PyProof.Rows PySem.W.X PySem.Calls
section
variable{B:Bs}{A:Around}{s₀ s s':Shared}{g₀ g g':Gh}{n:Nat}{own:List Str}{env:Env}{ρ:Rho}{aC f0 f1 cm x y:Addr}{v u:Value}
theorem AxI(k:KAt s.heap aC f0 f1)(hx:Alk s.heap aC x v)(hh:handedIn v=true)(F:Fm B s₀ g₀ own env ρ s g){nm:Str}{p1 p2:Pos}(hl:ρ.lookup nm=some (.val (.ref x)))(ho:AbA nm=true) :
  Aaq B A s g (eval (.Attribute (.Name nm p1) "obj" p2) env) fun _ r=>r=v:=by
 refine Attribute_name ((F.name hl ho).useV fun s1 g1 y1=>?_);refine Ad9 (k.ext y1.ext) fun K aM iK kf=>?_;refine Adf (hx.ext y1.ext) fun dd o e1 e2 e3=>?_;have IA:InstAt s1.heap x (AqK aC dd v) aC (some o):=⟨e1,rfl,rfl,e2⟩;refine get_bind iK IA kf.ga (kf.find _) kf.gt (wpAny_call (slot_get (s:={s1 with toks:=s1.toks+1}) iK IA kf.slot rfl ?_));show wpAny _ _ (handedOut v) _ _ _;rw[handedOut_of hh];exact wpAny_pure ⟨g1,y1.trans (Aae.tok y1.inv _),rfl⟩
theorem AEI{c:Prop}{hd:Decidable c}{α:Type}{x:Option α}{r:α}(h:(if c then x else none)=some r):c∧x=some r:=Abg h
noncomputable def Atk(x y lam:Addr)(c:Int)(ρ:Rho)(e:Expr):Option D:=open Classical in
 if (∃ q0 q1 q2 q3 q4 q5,e=.Call (.Name "mycmp" q0) [.Attribute (.Name "self" q1) "obj" q2,.Attribute (.Name "other" q3) "obj" q4] [] q5)∧ρ.lookup ("mycmp":Str)=some (.val (.ref lam))∧ρ.lookup ("self":Str)=some (.val (.ref x))∧ρ.lookup ("other":Str)=some (.val (.ref y)) then some (.int c) else none
noncomputable def T_K(x y lam:Addr)(c:Int):Tb:=⟨fun _=>none,fun _=>none,fun _ _=>none,fun _=>Atk x y lam c,fun _ _ _ _=>none⟩
theorem ACF(k:KAt s₀.heap aC f0 f1)(hx:Alk s₀.heap aC x v)(hy:Alk s₀.heap aC y u)(h1:handedIn v=true)(h2:handedIn u=true){lam:Addr}{Fn:List D→Option D}(hF:AmO B n s₀ g₀ (.ref lam) Fn){d e:D}(hv:Den g₀ v d)(hu:Den g₀ u e){c:Int}(hr:Fn [d,e]=some (.int c)) :
  AbO B n (T_K x y lam c) s₀ g₀ where
 glob:=fun _ _ e=>by exact Aah e
 app:=fun _ _ e=>by exact Aah e
 stm:=fun _ _ _ _ _ _ _ _ _ _ _ _ e=>by exact Aah e
 meth:=fun _ _ _ e=>by exact Aah e
 spec:=fun A own env ρ ex dd s g hA h F=>by
  change Atk x y lam c ρ ex=some dd at h
  unfold Atk at h;refine Aaz (AEI h) fun qa h'=>?_;refine AoR qa fun he l1 l2 l3=>?_;clear qa
  cases h'
  refine AFb he fun q0 q1 q2 q3 q4 q5 z1=>?_;subst z1;have hb:∀ pos,backTo pos (starEach [.Attribute (.Name "self" q1) "obj" q2,.Attribute (.Name "other" q3) "obj" q4] env)=[(false,eval (.Attribute (.Name "self" q1) "obj" q2) env),(false,eval (.Attribute (.Name "other" q3) "obj" q4) env)]:=fun pos=>AaC (by intro e' he';simp at he';rcases he' with rfl|rfl<;>rfl);refine wpAny_Call_NameR ((F.name l1 (by decide)).useV fun s1 g1 x1=>?_);rw[hb];have X1:=F.st.trans x1;refine(Ab1 (P:=fun g' vs=>Aar g' vs [d,e]) ((hF.step X1).kp) (by simp) (Calls.spliced_cons ((AxI (k.ext X1.ext) (hx.ext X1.ext) h1 (F.step x1) l2 (by decide)).use fun w1 s2 g2 x2 e1=>Calls.spliced_cons ((AxI (k.ext (X1.trans x2).ext) (hy.ext (X1.trans x2).ext) h2 ((F.step x1).step x2) l3 (by decide)).use fun w2 s3 g3 x3 e2=>wpAny_pure ⟨g3,x2.trans x3,?_⟩))) fun us s2 g2 x2 hus=>?_).from x1
  ·exact hF.run A s2 g2 _ _ _ hA (X1.trans x2) hus hr
  ·subst e1 e2;exact .cons (hv.mono ((X1.trans x2).trans x3).le) (.cons (hu.mono ((X1.trans x2).trans x3).le) .nil)
theorem AvQ{lam:Addr}(hc:s.heap.IsCell cm (some (.ref lam))):Ac3 s.heap g (kSc 3).names [(("mycmp":Str),cm)] [(("mycmp":Str),.val (.ref lam))]:=by
 have one:∀ {α:Type} {x:Str} {a b:α},[(("mycmp":Str),a)].lookup x=some b→x = "mycmp"∧a=b:=fun {α x a b} e=>by
  rw[List.lookup_cons] at e
  split at e
  ·rename_i hq;cases e;exact⟨eq_of_beq hq,rfl⟩
  ·exact Aah e
 have hl:∀ {α:Type} {a:α},[(("mycmp":Str),a)].lookup ("mycmp":Str)=some a:=fun {α a}=>by rw[List.lookup_cons];simp
 refine⟨fun z e=>?_,fun z c e=>?_,fun z d e=>?_⟩
 ·have:z = "mycmp":=by
   rw[Alj] at e;simp only[List.lookup_cons,List.lookup_nil] at e
   split at e
   ·cases e
   ·split at e
    ·cases e
    ·split at e
     ·rename_i hq;exact eq_of_beq hq
     ·exact Aah e
  subst this;exact⟨cm,_,hl,hc⟩
 ·refine Aaz (one e) fun _ q2=>?_;subst q2;exact⟨_,hc⟩
 ·refine Aaz (one e) fun q3 q4=>?_;subst q3;subst q4;exact⟨by rw[Alj];decide,by rw[Alj];kernel_rfl!,cm,_,hl,hc,.val⟩
theorem AvR{c:Int}{lam:Addr}{ρ:Rho}{q0 q1 q2 q3 q4 q5:Pos}(hm:ρ.lookup ("mycmp":Str)=some (.val (.ref lam)))(hs:ρ.lookup ("self":Str)=some (.val (.ref x)))(ho:ρ.lookup ("other":Str)=some (.val (.ref y))) :
  Atk x y lam c ρ (.Call (.Name "mycmp" q0) [.Attribute (.Name "self" q1) "obj" q2,.Attribute (.Name "other" q3) "obj" q4] [] q5)=some (.int c):=by
 exact if_pos ⟨⟨_,_,_,_,_,_,rfl⟩,hm,hs,ho⟩
theorem AvS{c:Int}{lam:Addr}{sc:Scope}{ρ:Rho}{e:Expr}:(T_K x y lam c).spec sc ρ e=Atk x y lam c ρ e:=rfl
theorem Azw{c:Int}{lam:Addr}{own:List Str}:ex ((T_K x y lam c).stm own (kSc 3)) (ev (T_K x y lam c) 8 (kSc 3)) own (kSc 3) 8 ([(("other":Str),.val (.ref y)),("self",.val (.ref x)),("mycmp",.val (.ref lam))]:Rho) (AkD 3)=some (.ret (.bool (decide (c<0)))):=by refine Aco rfl rfl (Aby (a:=.int c) (b:=.int 0) rfl rfl (AsB rfl ?_) (Aaa rfl rfl) rfl);exact AvS.trans (AvR rfl rfl rfl)
theorem AF4(O:B.Ok)(hA:AOk (n+2) A)(I:Inv B s g)(k:KAt s.heap aC f0 f1)(m1:KFn s g cm 3 f1)(hx:Alk s.heap aC x v)(hy:Alk s.heap aC y u)(h1:handedIn v=true)(h2:handedIn u=true){lam:Addr}(hc:s.heap.IsCell cm (some (.ref lam)))
  {Fn:List D→Option D} (hF:AmO B n s g (.ref lam) Fn) {d e:D} (hv:Den g v d) (hu:Den g u e) {c:Int} (hr:Fn [d,e]=some (.int c)) :
  Aaq B A s g (keyLt' oneType' (.ref x) (.ref y)) fun _ b=>b=decide (c<0):=by
 have k':=k;have hx':=hx;refine Ad9 k fun K aM iK kf=>?_;refine Adf hx fun dd o e1 e2 e3=>?_;refine Abm m1 fun fd m1=>?_;rw[if_neg (by decide)] at m1;have IA:InstAt s.heap x (AqK aC dd v) aC (some o):=⟨e1,rfl,rfl,e2⟩;have hu':A.units<cLine:=Nat.lt_of_le_of_lt (Nat.le_add_right _ 60) hA.units_lt;rw[keyLt'_oneType,oneLt'_eq];simp only[if_true];refine wpAny_bind (wpAny_cRoomFor hu' ?_);refine wpAny_bind (ifBound_K iK IA kf.lt (by unfold isFn;rw[kf.tf1];exact beq_self_eq_true _) ?_);have hA1:AOk (n+1) A:=hA.le (by omega);refine AiV O m1 AvO AEH (AvQ hc) hA1 I (ds:=[.val (.ref x),.val (.ref y)]) (.cons .val (.cons .val .nil)) rfl fun env s1 e4 e5 F=>?_;have F':Fm B s g (Aak (kSc 3).names) env ([(("other":Str),.val (.ref y)),("self",.val (.ref x)),("mycmp",.val (.ref lam))]:Rho) s1 g:=F;refine wpAny_mono (Acj O (ACF k' hx' hy h1 h2 hF hv hu hr) hA1.deeper F' (by rw[e4];exact Azw)) (fun f s2 hf=>?_) fun _ _ z=>z.elim;refine Aab hf fun g2 x2 hd=>?_
 cases f with
 |ret w=>cases hd using Den.boolE;exact wpAny_truthy_bool ⟨g2,x2,rfl⟩
 |_=>cases hd using Den.boolE
end
noncomputable def kgo{α:Type}(ans:Nat→Nat→Bool)(n:Nat):KasT α→Option α
 |.ret a=>some a
 |.ask i j k=>if Nat.blt i n && Nat.blt j n then kgo ans n (k (ans i j)) else none
theorem Atl{α:Type}{ans:Nat→Nat→Bool}{n:Nat}{cmp:Nat→Nat→(Bool→Shared→Prop)→Shared→Prop}{P:Shared→Prop}(hc:∀ i j s (C:Bool→Shared→Prop),i<n→j<n→P s→(∀ s',P s'→C (ans i j) s')→cmp i j C s) :
  ∀ (t:KasT α) (s:Shared) (a:α) (Q:α→Shared→Prop),kgo ans n t=some a→P s→(∀ s',P s'→Q a s')→t.kasWp cmp Q s
 |.ret a,s,b,Q,h,hp,hq=>by cases h;exact hq s hp
 |.ask i j k,s,b,Q,h,hp,hq=>by
  refine Aaz (Abg h) fun hb h1=>?_;have hb:=Bool.and_eq_true_iff.mp hb;exact hc i j s _ (Nat.blt_eq.mp hb.1) (Nat.blt_eq.mp hb.2) hp fun s' hp'=>Atl hc (k (ans i j)) s' b Q h1 hp' hq
section
variable{B:Bs}{A:Around}{s₀ s s' s'':Shared}{g₀ g g':Gh}{n m:Nat}
theorem Ab5{vs:Array Value}{c:Nat}:Abp (seqObj "list" vs c):=Aal rfl
theorem Ai5{vs:Array Value}{c:Nat}:¬ AcK (seqObj "list" vs c):=AaH rfl (by decide)
structure Abj(s₀:Shared)(s:Shared)(g:Gh)(a:Addr)(vs:Array Value):Prop where
 has:∃ c,s.heap.get? a=some (seqObj "list" vs c)
 new:s₀.heap.get? a=none
 out:g a=none
theorem Abj.step{a:Addr}{vs:Array Value}(o:Abj s₀ s g a vs)(x:Aae B s g s' g'):Abj s₀ s' g' a vs:=
 let ⟨c,e⟩:=o.has;⟨⟨c,x.ext.keep _ _ e Ab5⟩,o.new,x.shutNone e o.out⟩
theorem Abj.made(O:B.Ok)(x:Aae B s₀ g₀ s g){vs:Array Value}:Aae B s₀ g₀ {s with heap:=s.heap.push (seqObj "list" vs 0)} g∧Abj s₀ {s with heap:=s.heap.push (seqObj "list" vs 0)} g s.heap.objs.size vs:=
 ⟨x.trans (Aae.open O x.inv),⟨_,Heap.get?_push_size _ rfl⟩,x.ext.dead (AaM _),x.inv.fresh⟩
theorem Abj.turn(O:B.Ok){a b:Addr}{vs us:Array Value}{f:Array Value→Array Value}(x:Aae B s₀ g₀ s g)(o:Abj s₀ s g a vs)(q:Abj s₀ s g b us)(hab:a≠b) :
  Aae B s₀ g₀ {s with heap:=s.heap.update a (Obj.mapSeq f)} g∧Abj s₀ {s with heap:=s.heap.update a (Obj.mapSeq f)} g a (f vs)∧Abj s₀ {s with heap:=s.heap.update a (Obj.mapSeq f)} g b us:=by
 refine Abm o.has fun c e=>?_;refine Abm q.has fun c' e'=>?_;have sb:=Heap.SameBut.update s.heap a (Obj.mapSeq f);exact⟨x.turn O o.new o.out e Ai5 sb rfl rfl,⟨⟨_,get?_update_seq e f⟩,o.new,o.out⟩,⟨⟨c',(sb.2 b hab.symm).trans e'⟩,q.new,q.out⟩⟩
theorem AOk.in2(h:AOk (n+1) A):AOk n A.in1.in1:=h.to (k:=2) h.handled (Nat.le_add_right _ _) rfl (by decide)
theorem Azx(O:B.Ok){a kS:Addr}{ks:List Value}{st:SortSt}{c:Nat}{out:List Value}(x:Aae B s₀ g₀ s g)(oa:Abj s₀ s g a #[])(hc:s.heap.get? a=some (seqObj "list" #[] c))(ok:Abj s₀ s g kS ks.toArray)(hak:a≠kS)
  (hk:ks.length<64) (ho:out.length<64) (hout:(arrOf st).map (·.2)=out.toArray) (hf:failedOf st=none) {P:PySem.Fin→Shared→Prop} {E:Value→Shared→Prop}
  (hq:∀ s' g',Aae B s₀ g₀ s' g'→Abj s₀ s' g' a out.toArray→P (.done (.ret .none)) s'):wpAny B.M A (ksk_tail a false c (.ref kS) st) P E s:=by
 refine Abm ok.has fun ck ek=>?_;have t1:=Abj.turn O (f:=fun _=>#[]) x ok oa hak.symm;have e1:(s.heap.update kS (Obj.mapSeq fun _=>(#[]:Array Value))).get? a=some (seqObj "list" #[] c):=((Heap.SameBut.update s.heap kS (Obj.mapSeq fun _=>(#[]:Array Value))).2 a hak).trans hc;unfold ksk_tail;rw[hout];refine wpAny_bind (listUpdate_at ek rfl ?_ (by rw[List.size_toArray,sizeLine_eq];omega) (Nat.zero_le _));refine wpAny_bind (wpAny_letGo ?_);refine wpAny_bind (seqEpoch_at e1 rfl ?_);have t2:=Abj.turn O (f:=fun _=>out.toArray) t1.1 t1.2.2 t1.2.1 hak;refine wpAny_bind (listUpdate_at e1 rfl ?_ (Nat.zero_le _) (by show out.length≤_;rw[sizeLine_eq];omega));rw[hf];simp only[bne_self_eq_false,Bool.false_eq_true,if_false];exact wpAny_pure (hq _ _ t2.1 t2.2.1)
end
noncomputable def Amk(key:Gh→Value→Value→Prop)(g:Gh)(ks vs:List Value):Prop:=ks.length=vs.length∧∀ i,i<vs.length→key g (ks.getD i Value.none) (vs.getD i Value.none)
section
variable{B:Bs}{A:Around}{s₀ s s' s'':Shared}{g₀ g g':Gh}{n m:Nat}{key:Gh→Value→Value→Prop}
theorem Amk.snoc{ks vs:List Value}{k v:Value}(hm:∀ g g' x v,g.le g'→key g x v→key g' x v)(h:Amk key g ks vs)(hg:g.le g')(hk:key g' k v):Amk key g' (ks++[k]) (vs++[v]):=by
 refine⟨by simp [h.1],fun i hi=>?_⟩
 by_cases hl:i<vs.length
 ·have hl':i<ks.length:=by rw[h.1];exact hl
  have:=hm _ _ _ _ hg (h.2 i hl);simpa [List.getD,List.getElem?_append,hl,hl'] using this
 ·have e:i=vs.length:=by simp at hi;omega
  have e':i=ks.length:=by rw[h.1];exact e
  have h1:(ks++[k]).getD i Value.none=k:=by rw[e'];simp [List.getD]
  have h2:(vs++[v]).getD i Value.none=v:=by rw[e];simp [List.getD]
  rw[h1,h2];exact hk
theorem Abj.turn1(O:B.Ok){a:Addr}{vs:Array Value}{f:Array Value→Array Value}(x:Aae B s₀ g₀ s g)(o:Abj s₀ s g a vs) :
  Aae B s₀ g₀ {s with heap:=s.heap.update a (Obj.mapSeq f)} g∧Abj s₀ {s with heap:=s.heap.update a (Obj.mapSeq f)} g a (f vs):=by
 refine Abm o.has fun c e=>?_;have sb:=Heap.SameBut.update s.heap a (Obj.mapSeq f);exact⟨x.turn O o.new o.out e Ai5 sb rfl rfl,⟨⟨_,get?_update_seq e f⟩,o.new,o.out⟩⟩
theorem Atm(hm:∀ g g' x v,g.le g'→key g x v→key g' x v){a kS:Addr}{c:Nat}{vs:List Value}{body:Value→PUnit→Sem (ForInStep PUnit)}
  (hb:∀ v s g ks,v∈vs→Aae B s₀ g₀ s g→s.heap.get? a=some (seqObj "list" #[] c)→g a=none→Abj s₀ s g kS (List.toArray ks)→ks.length<vs.length →
   wpAny B.M A (body v ⟨⟩) (fun r s'=>r=.yield ⟨⟩∧∃ g' k,Aae B s₀ g₀ s' g'∧g.le g'∧s'.heap.get? a=some (seqObj "list" #[] c)∧g' a=none∧Abj s₀ s' g' kS (List.toArray (ks++[k]))∧key g' k v) (fun _ _=>False) s) :
  ∀ (r done ks:List Value) (s:Shared) (g:Gh),done++r=vs→Aae B s₀ g₀ s g→s.heap.get? a=some (seqObj "list" #[] c)→g a=none→Abj s₀ s g kS (List.toArray ks)→Amk key g ks done →
   wpAny B.M A (forIn r PUnit.unit body) (fun _ s'=>∃ g' ks',Aae B s₀ g₀ s' g'∧s'.heap.get? a=some (seqObj "list" #[] c)∧g' a=none∧Abj s₀ s' g' kS (List.toArray ks')∧Amk key g' ks' vs) (fun _ _=>False) s
 |[],done,ks,s,g,e,x,ha,ga,ok,hk=>by
  rw[List.forIn_nil];rw[List.append_nil] at e;subst e;exact wpAny_pure ⟨g,ks,x,ha,ga,ok,hk⟩
 |v :: r,done,ks,s,g,e,x,ha,ga,ok,hk=>by
  rw[List.forIn_cons];refine wpAny_bind (wpAny_mono (hb v s g ks (by rw[← e];simp) x ha ga ok (by rw[hk.1,← e];simp)) (fun q s' h=>?_) fun _ _ h=>h)
  obtain⟨rfl,g',k,x',hle,ha',ga',ok',hk'⟩:=h
  exact Atm hm hb r (done++[v]) (ks++[k]) s' g' (by rw[← e];simp) x' ha' ga' ok' (hk.snoc hm hle hk')
theorem Azy(O:B.Ok)(hA:AOk m A){q a:Addr}{vs:List Value}(x:Aae B s₀ g₀ s g)(oa:Abj s₀ s g a vs.toArray)(h2:2≤vs.length)(h64:vs.length<64){T:Value}{ans:Nat→Nat→Bool}{p:Array Nat}
  (hm:∀ g g' x v,g.le g'→key g x v→key g' x v)
  (hmk:∀ A' v s g,AOk m A'→v∈vs→Aae B s₀ g₀ s g→∀ (Q E:Value→Shared→Prop),(∀ x s' g',Aae B s g s' g'→key g' x v→Q x s')→wpAny B.M A' (call (.ref q) [v]) Q E s)
  (hty:∀ s g x v,Inv B s g→key g x v→Looks B.M s.heap (typeOf x) T) (hT1:(T != Value.type "tuple")=true) (hT2:(T == T)=true)
  (hlt:∀ A' s g i j x y,AOk m A'→Aae B s₀ g₀ s g→i<vs.length→j<vs.length→key g x (vs.getD i Value.none)→key g y (vs.getD j Value.none)→Aaq B A' s g (keyLt' oneType' x y) fun _ b=>b=ans i j)
  (hp:kgo ans vs.length (kas_sort vs.length)=some p) {P:PySem.Fin→Shared→Prop} {E:Value→Shared→Prop}
  (hq:∀ s' g',Aae B s₀ g₀ s' g'→Abj s₀ s' g' a (List.toArray (p.toList.map fun i=>vs.getD i Value.none))→P (.done (.ret .none)) s') :
  wpAny B.M A (ksk_tree a (.ref q) false) P E s:=by
 refine Abm oa.has fun c0 e0=>?_;unfold ksk_tree;refine wpAny_bind (listItems_at e0 rfl ?_);have t1:=Abj.turn1 O (f:=fun _=>#[]) x oa;refine wpAny_bind (listUpdate_at e0 rfl ?_ (by rw[List.size_toArray,sizeLine_eq];exact szl h64 (by decide)) (Nat.zero_le _));refine Abm t1.2.has fun c1 e1=>?_;refine wpAny_bind (seqEpoch_at e1 rfl ?_);refine wpAny_bind (wpAny_newTuple ?_ (by show vs.length≤_;rw[sizeLine_eq];exact szl h64 (by decide)));have t2:=Aae.open (o:={cls:=.type "tuple",data:=.seq vs.toArray.toList.toArray}) O t1.1.inv;have o2:=t1.2.step t2;refine wpAny_bind (wpAny_newList ?_ (Nat.zero_le _));have t3:=Abj.made O (t1.1.trans t2) (vs:=#[]);have o3:=o2.step (Aae.open (o:=seqObj "list" #[] 0) O t2.inv);have e3:=(Aae.open (o:=seqObj "list" #[] 0) O t2.inv).ext.keep _ _ (t2.ext.keep _ _ e1 Ab5) Ab5;refine wpAny_holding ?_;have hne:a≠((s.heap.update a (Obj.mapSeq fun _=>#[])).push {cls:=.type "tuple",data:=.seq vs.toArray.toList.toArray}).objs.size:=Nat.ne_of_lt (Heap.lt_size (t2.ext.keep _ _ e1 Ab5));unfold ksk_rest;refine wpAny_bind (wpAny_rule ?_);rw[List.forIn_toArray];refine wpAny_bind (wpAny_mono (Atm (a:=a) (c:=c1) (kS:=((s.heap.update a (Obj.mapSeq fun _=>#[])).push {cls:=.type "tuple",data:=.seq vs.toArray.toList.toArray}).objs.size) (vs:=vs) hm (fun v s4 g4 ks hv x4 ha4 ga4 ok4 hl4=>?_) vs [] [] _ g rfl t3.1 e3 o3.out t3.2 ⟨rfl,fun i hi=>absurd hi (Nat.not_lt_zero _)⟩) (fun _ s5 h5=>?_) fun _ _ z=>z.elim)
 ·refine wpAny_bind (wpAny_attempt (hmk _ v s4 g4 hA hv x4 _ _ fun k s5 g5 x5 hk=>?_));have ok5:=ok4.step x5;have oa5:Abj s₀ s5 g5 a #[]:=(Abj.mk ⟨c1,ha4⟩ oa.new ga4).step x5;refine Abm ok5.has fun ck ek=>?_;have ha5:=x5.ext.keep _ _ ha4 Ab5;have t6:=Abj.turn O (f:=(·.push k)) (x4.trans x5) ok5 oa5 hne.symm;dsimp only;refine wpAny_bind (listUpdate_at ek rfl ?_ (by rw[List.size_toArray,sizeLine_eq];exact szl (Nat.lt_trans hl4 h64) (by decide)) (Nat.le_trans (Nat.le_of_eq (Array.size_push ..)) (by rw[List.size_toArray,sizeLine_eq];exact szl (Nat.lt_of_le_of_lt hl4 h64) (by decide))));have ea:(List.toArray ks).push k=List.toArray (ks++[k]):=by simp
  refine wpAny_pure ⟨rfl,g5,k,t6.1,x5.le,?_,t6.2.2.out,by rw[← ea];exact t6.2.1,hk⟩;exact((Heap.SameBut.update s5.heap _ (Obj.mapSeq (·.push k))).2 a hne).trans ha5
 ·obtain⟨g5,ks,x5,ha5,ga5,ok5,hk5⟩:=h5
  refine Abm ok5.has fun ck ek=>?_;dsimp only;refine wpAny_bind (listItems_at ek rfl ?_);have hn2:¬ vs.toArray.size<2:=by rw[List.size_toArray];exact Nat.not_lt.mpr h2
  have hl:ks.length=vs.length:=hk5.1;unfold ksk_end
  try dsimp only
  simp only[Bool.false_eq_true,if_false];rw[if_neg hn2,if_neg hn2];refine wpAny_bind (kas_kind (T:=T) (by rw[hl];exact h2) (fun v hv=>?_) hT1 hT2 ?_)
  ·obtain⟨i,hi,rfl⟩:=List.mem_iff_getElem.mp hv
   have:=hk5.2 i (by rw[← hl];exact hi);rw[show ks.getD i Value.none=ks[i] by simp [hi]] at this;exact hty _ _ _ _ x5.inv this
  ·refine wpAny_bind (wpAny_mono (kat_run (G:=fun p' s'=>p'=p∧∃ g',Aae B s5 g5 s' g') (Q:=fun st' s'=>arrOf st'=p.map (kas_item (ks.toArray.zip vs.toArray))∧failedOf st'=none∧p.size=vs.length∧∃ g',Aae B s5 g5 s' g') hl h2 h64 (fun p' st' s' a1 a2 a3 a4=>by obtain⟨rfl,a4⟩:=a4;exact⟨a2,a3,a1,a4⟩)
    (Atl (P:=fun s'=>∃ g',Aae B s5 g5 s' g') (ans:=ans) (n:=vs.length) (fun i j s6 C hi hj hP hC=>?_) _ s5 p _ hp ⟨g5,Aae.refl x5.inv⟩ fun s' hs'=>⟨rfl,hs'⟩)) (fun r s6 h6=>?_) fun _ _ z=>z)
   ·obtain⟨g6,x6⟩:=hP
    exact(hlt _ s6 g6 i j _ _ hA (x5.trans x6) hi hj (hm _ _ _ _ x6.le (hk5.2 i hi)) (hm _ _ _ _ x6.le (hk5.2 j hj))).use fun b s7 g7 x7 hb=>by subst hb;exact hC s7 ⟨g7,x6.trans x7⟩
   ·obtain⟨⟨⟩,st'⟩:=r
    obtain⟨har,hf,hsz,g6,x6⟩:=h6
    have oa6:Abj s₀ s6 g6 a #[]:=(Abj.mk ⟨c1,ha5⟩ oa.new ga5).step x6;refine Azx O (x5.trans x6) oa6 (x6.ext.keep _ _ ha5 Ab5) (ok5.step x6) hne (by rw[hk5.1];exact h64) (by rw[List.length_map,Array.length_toList,hsz];exact h64) (kat_snds hl har) hf hq
theorem AqM(O:B.Ok)(hA:AOk (m+1) A)(I₀:Inv B s₀ g₀){l q:Addr}{vs:List Value}(hl:s₀.heap.IsList l vs.toArray)(h2:2≤vs.length)(h64:vs.length<64){T:Value}{ans:Nat→Nat→Bool}{p:Array Nat}
  (hm:∀ g g' x v,g.le g'→key g x v→key g' x v)
  (hmk:∀ A' v s g,AOk m A'→v∈vs→Aae B s₀ g₀ s g→∀ (Q E:Value→Shared→Prop),(∀ x s' g',Aae B s g s' g'→key g' x v→Q x s')→wpAny B.M A' (call (.ref q) [v]) Q E s)
  (hty:∀ s g x v,Inv B s g→key g x v→Looks B.M s.heap (typeOf x) T) (hT1:(T != Value.type "tuple")=true) (hT2:(T == T)=true)
  (hlt:∀ A' s g i j x y,AOk m A'→Aae B s₀ g₀ s g→i<vs.length→j<vs.length→key g x (vs.getD i Value.none)→key g y (vs.getD j Value.none)→Aaq B A' s g (keyLt' oneType' x y) fun _ b=>b=ans i j)
  (hp:kgo ans vs.length (kas_sort vs.length)=some p) {Q E:Value→Shared→Prop}
  (hq:∀ D s' g',Aae B s₀ g₀ s' g'→Abj s₀ s' g' D (List.toArray (p.toList.map fun i=>vs.getD i Value.none))→Q (.ref D) s') :
  wpAny B.M A (call (.builtin "sorted") [.ref l] [(Str.ofString "key",.ref q)]) Q E s₀:=by
 refine call_function_entry_kw kind_sorted plain_sorted entry_sorted (ksk_s1 _ _) ?_;unfold Builtin.«sorted»;refine wpAny_bind (m:=checkCount "sorted" 1 1 _) (wpAny_pure ?_);refine wpAny_bind (collect_list hl ?_ (by rw[sizeLine_eq];exact szl h64 (by decide)));have t0:=Abj.made O (Aae.refl I₀) (vs:=#[]);have t1:=Abj.turn1 O (f:=(·++vs.toArray)) t0.1 t0.2;refine wpAny_bind (wpAny_newList ?_ (by rw[sizeLine_eq];exact szl h64 (by decide)));have t2:=Abj.made O t1.1 (vs:=vs.toArray);refine Abm t2.2.has fun c2 e2=>?_;refine wpAny_bind (wpAny_holding (wpAny_call_entry_kw slot_list_sort ⟨_,e2,rfl⟩ entry_list_sort ?body (ksk_l1 _ _)))
 case body=>
  show wpAny B.M A.in1.in1 (Builtin.«list.sort» ⟨[.ref _],[(Str.ofString "key",.ref q)]⟩) _ _ _;rw[ksk_t1];exact Azy O hA.in2 t2.1 t2.2 h2 h64 hm hmk hty hT1 hT2 hlt hp fun s' g' x' o'=>⟨_,rfl,wpAny_pure ⟨_,rfl,hq _ s' g' x' o'⟩⟩
end
noncomputable def tpD(p:Int×Int):D:=.tup [.int p.1,.int p.2]
noncomputable def ltP(p q:Int×Int):Bool:=if p.1=q.1 then (if p.2=q.2 then false else decide (p.2<q.2)) else decide (p.1<q.1)
section
variable{B:Bs}{A:Around}{s₀ s s' s'':Shared}{g₀ g g':Gh}{n m:Nat}
theorem AvT{l:List Value}{a b:Int}(h:Aar g l [.int a,.int b]):∃ t u,l=[.int a t,.int b u]:=by
 induction h using Aar.consE with|cons h1 h=>?_
 induction h using Aar.consE with|cons h2 h=>?_
 induction h using Aar.nilE;induction h1 using Den.intE;induction h2 using Den.intE;exact⟨_,_,rfl⟩
theorem Alm{x:Value}{p:Int×Int}(h:Den g x (tpD p)):∃ ad vs n t u,x=.ref ad∧g ad=some {cls:=.type "tuple",data:=.seq vs n}∧vs.toList=[.int p.1 t,.int p.2 u]:=by
 unfold tpD at h;induction h using Den.tupE with|tup e d=>?_
 refine Aw3 (AvT d) fun t u hl=>?_;exact⟨_,_,_,t,u,rfl,e,hl⟩
theorem Azz(I:Inv B s g){x y:Value}{p q:Int×Int}(hx:Den g x (tpD p))(hy:Den g y (tpD q)):Aaq B A s g (keyLt' (tuples' true) x y) fun _ r=>r=ltP p q:=by
 refine ADP (Alm hx) fun ax vs n t1 t2 q1 ex lx=>?_;subst q1;refine ADP (Alm hy) fun ay us k t3 t4 q2 ey ly=>?_;subst q2;have sx:vs.size=2:=by rw[← Array.length_toList,lx];rfl
 have sy:us.size=2:=by rw[← Array.length_toList,ly];rfl
 refine kat_lt (I.real _ _ ex) rfl (I.real _ _ ey) rfl ?_;rw[lx,ly,sx,sy];refine kat_cons (wpAny_eqBool_int ?_);unfold ltP
 by_cases h1:p.1=q.1
 ·rw[if_pos h1,show(p.1 == q.1)=true from by rw[h1];exact beq_self_eq_true _];refine kat_yes (kat_cons (wpAny_eqBool_int ?_))
  by_cases h2:p.2=q.2
  ·rw[if_pos h2,show(p.2 == q.2)=true from by rw[h2];exact beq_self_eq_true _];exact kat_yes (kat_nil ⟨g,Aae.refl I,rfl⟩)
  ·rw[if_neg h2,show(p.2 == q.2)=false from beq_eq_false_iff_ne.mpr h2];refine kat_no ?_;show wpAny _ _ (oneLt' false _ _) _ _ _;exact kat_one _ _ (PyProof.Rows.lt_int ⟨g,Aae.refl I,rfl⟩)
 ·rw[if_neg h1,show(p.1 == q.1)=false from beq_eq_false_iff_ne.mpr h1];refine kat_no ?_;show wpAny _ _ (oneLt' true _ _) _ _ _;exact oneLt_int ⟨g,Aae.refl I,rfl⟩
theorem Atn(I:Inv B s g):∀ {vs:List Value} {ps:List (Int×Int)},Aar g vs (ps.map tpD)→∃ fs,KatTups s.heap vs fs∧fs.length=vs.length∧∀ v∈fs,∃ i t,v=.int i t
 |[],ps,h=>⟨[],KatTups.nil,rfl,fun v hv=>by cases hv⟩
 |v :: vs,[],h=>by cases h using Aar.nilE
 |v :: vs,p :: ps,h=>by
  cases h using Aar.consE with|cons h1 h=>?_
  refine Adc (Atn I h) fun fs k hl hi=>?_;refine ADP (Alm h1) fun ad us n t u q3 e hu=>?_;subst q3;refine⟨.int p.1 t :: fs,KatTups.cons (I.real _ _ e) rfl rfl (by rw[← Array.getElem?_toList,hu];rfl) k,by simp [hl],fun v hv=>?_⟩
  rcases List.mem_cons.mp hv with rfl|hv
  ·exact⟨_,_,rfl⟩
  ·exact hi v hv
theorem Aml{vs:List Value}{ps:List (Int×Int)}(h:Aar g vs (ps.map tpD)){i:Nat}(hi:i<ps.length):Den g (vs.getD i Value.none) (tpD (ps.getD i (0,0))):=by refine Aab (h.get (i:=i) (d:=tpD ps[i]) (by simp [hi])) fun v e hv=>?_;rw[show vs.getD i Value.none=v by simp [e],show ps.getD i (0,0)=ps[i] by simp [hi]];exact hv
theorem AzA(O:B.Ok){a:Addr}{vs:List Value}{ps:List (Int×Int)}{p:Array Nat}(x:Aae B s₀ g₀ s g)(oa:Abj s₀ s g a vs.toArray)(hd:Aar g vs (ps.map tpD))(h2:2≤vs.length)(h64:vs.length<64)
  (hp:kgo (fun i j=>ltP (ps.getD i (0,0)) (ps.getD j (0,0))) vs.length (kas_sort vs.length)=some p) {P:PySem.Fin→Shared→Prop} {E:Value→Shared→Prop}
  (hq:∀ s' g',Aae B s₀ g₀ s' g'→Abj s₀ s' g' a (List.toArray (p.toList.map fun i=>vs.getD i Value.none))→P (.done (.ret .none)) s') :
  wpAny B.M A (Builtin.«list.sort» ⟨[.ref a],[]⟩) P E s:=by
 have hlen:ps.length=vs.length:=by have:=hd.length;simpa using this.symm
 refine Abm oa.has fun c0 e0=>?_;rw[list_sort_plain];refine wpAny_bind (listItems_at e0 rfl ?_);have t1:=Abj.turn1 O (f:=fun _=>#[]) x oa;refine wpAny_bind (listUpdate_at e0 rfl ?_ (by rw[List.size_toArray,sizeLine_eq];exact szl h64 (by decide)) (Nat.zero_le _));refine Abm t1.2.has fun c1 e1=>?_;refine wpAny_bind (seqEpoch_at e1 rfl ?_);refine wpAny_bind (wpAny_newTuple ?_ (by show vs.length≤_;rw[sizeLine_eq];exact szl h64 (by decide)));have t2:=Aae.open (o:={cls:=.type "tuple",data:=.seq vs.toArray.toList.toArray}) O t1.1.inv;have o2:=t1.2.step t2;refine wpAny_bind (wpAny_newList ?_ (Nat.zero_le _));have t3:=Aae.open (o:=seqObj "list" #[] 0) O t2.inv;have x3:=(t1.1.trans t2).trans t3;have o3:=o2.step t3;have e3:=t3.ext.keep _ _ (t2.ext.keep _ _ e1 Ab5) Ab5;refine wpAny_holding ?_;have hn2:¬ vs.toArray.size<2:=by rw[List.size_toArray];exact Nat.not_lt.mpr h2
 rw[if_neg hn2,if_neg hn2];refine Adc (Atn x3.inv hd) fun fs kt hfl hfi=>?_;refine wpAny_bind (kat_kind (T:=.type "int") kt (by rw[hfl];exact Nat.lt_of_lt_of_le (by decide) h2) (fun v hv=>by refine Aw3 (hfi v hv) fun i t q4=>?_;subst q4;exact Looks.of_pure rfl) (by decide) ?_);refine wpAny_bind (wpAny_mono (kat_run (ks:=vs) (vs:=vs) (G:=fun p' s'=>p'=p∧∃ g',Aae B _ g s' g') (Q:=fun st' s'=>arrOf st'=p.map (kas_item (vs.toArray.zip vs.toArray))∧failedOf st'=none∧p.size=vs.length∧∃ g',Aae B _ g s' g') rfl h2 h64 (fun p' st' s' a1 a2 a3 a4=>by obtain⟨rfl,a4⟩:=a4;exact⟨a2,a3,a1,a4⟩)
  (Atl (P:=fun s'=>∃ g',Aae B _ g s' g') (n:=vs.length) (fun i j s6 C hi hj hP hC=>?_) _ _ p _ hp ⟨g,Aae.refl x3.inv⟩ fun s' hs'=>⟨rfl,hs'⟩)) (fun r s6 h6=>?_) fun _ _ z=>z)
 ·obtain⟨g6,x6⟩:=hP
  exact(Azz x6.inv ((Aml hd (by rw[hlen];exact hi)).mono x6.le) ((Aml hd (by rw[hlen];exact hj)).mono x6.le)).use fun b s7 g7 x7 hb=>by subst hb;exact hC s7 ⟨g7,x6.trans x7⟩
 ·obtain⟨⟨⟩,st'⟩:=r
  obtain⟨har,hf,hsz,g6,x6⟩:=h6
  have oa6:=o3.step x6;have e6:=x6.ext.keep _ _ e3 Ab5;dsimp only at har hf ⊢;rw[kat_snds rfl har];refine wpAny_bind (seqEpoch_at e6 rfl ?_);have t7:=Abj.turn1 O (f:=fun _=>List.toArray (p.toList.map fun i=>vs.getD i Value.none)) (x3.trans x6) oa6;refine wpAny_bind (listUpdate_at e6 rfl ?_ (Nat.zero_le _) (by show(List.toArray (p.toList.map fun i=>vs.getD i Value.none)).size≤_;rw[List.size_toArray,List.length_map,Array.length_toList,hsz,sizeLine_eq];exact szl h64 (by decide)));rw[hf];simp only[bne_self_eq_false,Bool.false_eq_true,if_false];exact wpAny_pure (hq _ _ t7.1 t7.2)
theorem Amm(O:B.Ok)(I₀:Inv B s₀ g₀){l:Addr}{vs:List Value}{ps:List (Int×Int)}{p:Array Nat}(hl:s₀.heap.IsList l vs.toArray)(hd:Aar g₀ vs (ps.map tpD))(h2:2≤vs.length)(h64:vs.length<64)
  (hp:kgo (fun i j=>ltP (ps.getD i (0,0)) (ps.getD j (0,0))) vs.length (kas_sort vs.length)=some p) {Q E:Value→Shared→Prop}
  (hq:∀ D s' g',Aae B s₀ g₀ s' g'→Abj s₀ s' g' D (List.toArray (p.toList.map fun i=>vs.getD i Value.none))→Q (.ref D) s') :
  wpAny B.M A (call (.builtin "sorted") [.ref l]) Q E s₀:=by
 refine Calls.call_function_entry kind_sorted plain_sorted entry_sorted (args_sorted1 _) ?_;unfold Builtin.«sorted»;refine wpAny_bind (m:=checkCount "sorted" 1 1 _) (wpAny_pure ?_);refine wpAny_bind (collect_list hl ?_ (by rw[sizeLine_eq];exact szl h64 (by decide)));have t0:=Abj.made O (Aae.refl I₀) (vs:=#[]);have t1:=Abj.turn1 O (f:=(·++vs.toArray)) t0.1 t0.2;refine wpAny_bind (wpAny_newList ?_ (by rw[sizeLine_eq];exact szl h64 (by decide)));have t2:=Abj.made O t1.1 (vs:=vs.toArray);refine Abm t2.2.has fun c2 e2=>?_;refine wpAny_bind (wpAny_holding (wpAny_call_entry slot_list_sort ⟨_,e2,rfl⟩ entry_list_sort ?body (args_list_sort _)))
 case body=>
  exact AzA O t2.1 t2.2 hd h2 h64 hp fun s' g' x' o'=>⟨_,rfl,wpAny_pure ⟨_,rfl,hq _ s' g' x' o'⟩⟩
end
section
variable{B:Bs}{A:Around}{s₀ s s':Shared}{g₀ g g':Gh}{n m:Nat}
structure AnE(s:Shared)(g:Gh)(lam aC:Addr):Prop where
 k:∃ f0 f1 cm,KAt s.heap aC f0 f1∧KFn s g cm 2 f0∧KFn s g cm 3 f1∧s.heap.IsCell cm (some (.ref lam))
theorem AnE.step{lam aC:Addr}(k:AnE s g lam aC)(x:Aae B s g s' g'):AnE s' g' lam aC:=
 let ⟨f0,f1,cm,k1,⟨fd0,k2⟩,⟨fd1,k3⟩,k4⟩:=k;⟨f0,f1,cm,k1.ext x.ext,⟨fd0,k2.step x⟩,⟨fd1,k3.step x⟩,AcO k4 x.ext⟩
theorem Agu{vs:List Value}{ds:List D}(h:Aar g vs ds)(i:Nat):Den g (vs.getD i Value.none) (ds.getD i .none):=by
 by_cases hi:i<ds.length
 ·refine Aab (h.get (i:=i) (d:=ds[i]) (by simp [hi])) fun v e hv=>?_;rw[show vs.getD i Value.none=v by simp [e],show ds.getD i .none=ds[i] by simp [hi]];exact hv
 ·have hv:¬ i<vs.length:=by rw[h.length];exact hi
  rw[show vs.getD i Value.none=Value.none by simp [Nat.le_of_not_lt hv],show ds.getD i .none=D.none by simp [Nat.le_of_not_lt hi]];exact .none
theorem Ai6{vs:List Value}{ds:List D}(h:Aar g vs ds):∀ l:List Nat,Aar g (l.map fun i=>vs.getD i Value.none) (l.map fun i=>ds.getD i .none)
 |[]=>.nil
 |i :: l=>.cons (Agu h i) (Ai6 h l)
theorem Abj.shut{a:Addr}{vs:List Value}{ds:List D}(x:Aae B s₀ g₀ s g)(o:Abj s₀ s g a (List.toArray vs))(hd:Aar g vs ds):∃ g',Aae B s₀ g₀ s g'∧Den g' (.ref a) (.list ds):=by refine Abm o.has fun c e=>?_;refine⟨g.put a (seqObj "list" (List.toArray vs) c),Aae.shut x o.new e o.out Ab5,.list (Gh.put_self ..) (hd.mono (Gh.le_put _ o.out))⟩
theorem AoB{v:Value}{ds:List D}(h:Den g v (.list ds)):∃ a vs n,v=.ref a∧g a=some {cls:=.type "list",data:=.seq (List.toArray vs) n}∧Aar g vs ds:=by
 induction h using Den.listE with|list e d=>?_
 exact⟨_,_,_,rfl,by rw[Array.toArray_toList];exact e,d⟩
theorem Akj{v:Value}{l:List D}(h:Den g v (.tup l)):handedIn v=true:=by induction h using Den.tupE;rfl
theorem AvU(O:B.Ok)(hA:AOk (m+3) A)(I:Inv B s g){lam aC:Addr}(km:AnE s g lam aC){Fn:List D→Option D}(hF:AmO B m s g (.ref lam) Fn){v:Value}{ds:List D}(hv:Den g v (.list ds))(h2:2≤ds.length)(h64:ds.length<64)
  (ht:∀ i,i<ds.length→∃ l,ds.getD i .none=.tup l) {ans:Nat→Nat→Bool} {p:Array Nat} (hans:∀ i j,i<ds.length→j<ds.length→∃ c,Fn [ds.getD i .none,ds.getD j .none]=some (.int c)∧ans i j=decide (c<0))
  (hp:kgo ans ds.length (kas_sort ds.length)=some p):Aaq B A s g (call (.builtin "sorted") [v] [(Str.ofString "key",.ref aC)]) fun g' r=>Den g' r (.list (p.toList.map fun i=>ds.getD i .none)):=by
 refine AxT (AoB hv) fun a vs n q1 e dl=>?_;subst q1;have hlen:vs.length=ds.length:=dl.length;refine AqM (m:=m+2) (key:=fun g x v=>∃ xr,x=.ref xr∧KIn g aC xr v) (T:=.ref aC) (ans:=ans) (p:=p) O hA I ⟨_,I.real _ _ e,rfl,_,rfl⟩ (by rw[hlen];exact h2) (by rw[hlen];exact h64) ?_ ?_ ?_ rfl (beq_self_eq_true _) ?_ (by rw[hlen];exact hp) ?_
 ·intro g g' x v hg q2;refine Aab q2 fun xr z1 k=>?_;subst z1;exact⟨xr,rfl,k.mono hg⟩
 ·intro A' v s1 g1 hA' hv' x1 Q E hQ;refine AAM ((km.step x1).k) fun f0 f1 cm k1 k2 k3 k4=>?_;exact ACE O hA' x1.inv k1 k2 fun x s2 g2 x2 ki=>hQ _ s2 g2 x2 ⟨x,rfl,ki⟩
 ·intro s1 g1 x v I1 q3;obtain⟨xr,rfl,dd,o,k,_⟩:=q3;exact(Looks.ld (I1.real _ _ k)).andThen .now
 ·intro A' s1 g1 i j x y hA' x1 hi hj q4;refine Aab q4 fun xr z3 kx=>?_;subst z3;intro q5;refine Aab q5 fun yr z4 ky=>?_;subst z4;rw[hlen] at hi hj;refine AAM ((km.step x1).k) fun f0 f1 cm k1 k2 k3 k4=>?_;have di:=(Agu dl i).mono x1.le;have dj:=(Agu dl j).mono x1.le;refine Aab (hans i j hi hj) fun c hc ha=>?_;refine Abm (ht i hi) fun li ei=>?_;refine Abm (ht j hj) fun lj ej=>?_;rw[ha];exact AF4 O hA' x1.inv k1 k3 (kx.inst x1.inv) (ky.inst x1.inv) (Akj (by rw[ei] at di;exact di)) (Akj (by rw[ej] at dj;exact dj)) k4 (hF.step x1) di dj hc
 ·intro D s1 g1 x1 o1;refine Aab (Abj.shut x1 o1 (Ai6 (dl.mono x1.le) p.toList)) fun g2 x2 hd=>?_;exact⟨g2,x2,hd⟩
noncomputable def AxJ(d:D):Option (Int×Int):=(ADV d).bind fun p=>Acf p.1 fun a=>Acf p.2 fun b=>some (a,b)
theorem Ato{d:D}{p:Int×Int}(h:AxJ d=some p):d=tpD p:=by refine Aab (Aag h) fun q e k_1=>?_;refine Aab (Aap k_1) fun a q1 k_2=>?_;refine Aab (Aap k_2) fun b q2 k_3=>?_;rw[← sj k_3,Arf e,q1,q2];rfl
noncomputable def AfO:List D→Option (List (Int×Int))
 |[]=>some []
 |d :: ds=>(AxJ d).bind fun p=>(AfO ds).bind fun ps=>some (p :: ps)
theorem AgS:∀ {ds:List D} {ps:List (Int×Int)},AfO ds=some ps→ds=ps.map tpD
 |[],ps,h=>by cases h;rfl
 |d :: ds,ps,h=>by
  refine Aab (Aag h) fun p h1 k_1=>?_;refine Aab (Aag k_1) fun ps' h2 k_2=>?_;rw[← sj k_2,List.map_cons,← AgS h2,Ato h1]
noncomputable def sortD:List D→Option D:=fn1 fun a=>Acx a fun ds=>(AfO ds).bind fun ps=>
 if 2≤ds.length∧ds.length<64 then (kgo (fun i j=>ltP (ps.getD i (0,0)) (ps.getD j (0,0))) ds.length (kas_sort ds.length)).map fun p=>.list (p.toList.map fun i=>ds.getD i .none) else none
theorem Atp(O:B.Ok):Abw B n (.builtin "sorted") sortD:=by
 refine⟨.inl ⟨_,rfl⟩,fun A s g vs ds r hA I hd hr=>?_⟩;refine Aab (AlL hr) fun a0 q1 k_1=>?_;subst q1;refine Aab (AaT k_1) fun ds q2 ka=>?_;subst q2;refine Aab (Aag ka) fun ps hps k_2=>?_;refine Aaz (Abg k_2) fun hc hr=>?_;refine Aab (Option.map_eq_some_iff.mp hr) fun p hp q6=>?_;subst q6;induction hd using Aar.consE with|cons h1 hd=>?_
 induction hd using Aar.nilE;refine AxT (AoB h1) fun a vs n q7 e dl=>?_;subst q7;have hlen:vs.length=ds.length:=dl.length;have hm:=AgS hps;refine Amm (ps:=ps) (p:=p) O I ⟨_,I.real _ _ e,rfl,_,rfl⟩ (by rw[← hm];exact dl) (by rw[hlen];exact hc.1) (by rw[hlen];exact hc.2) (by rw[hlen];exact hp) fun D s1 g1 x1 o1=>?_;refine Aab (Abj.shut x1 o1 (Ai6 (dl.mono x1.le) p.toList)) fun g2 x2 hd=>?_;exact⟨g2,x2,hd⟩
end
noncomputable def Atq:Stmt:=((Aac (nth AkF))[1]?).getD AbJ
noncomputable def Atr:Expr:=Aat kSt
theorem AvV:Aac (nth AkF)=[kSt,Atq]:=by kernel_rfl!
theorem ACG:kSt=.ClassDef "K" [.Name "object" Atr.pos] [] (Aac kSt) [] [] AfA none "K" ["obj"] (Abf kSt):=by kernel_rfl!
theorem AoC:Ads AfA Asb=true:=by kernel_rfl!
theorem AvW(env:Env):clos env AfA.names []=[(("mycmp":Str),(env.cells.lookup ("mycmp":Str)).getD 0)]:=by kernel_rfl!
theorem AzB:okT (Aak Asb.names) Asb "K"=true:=by kernel_rfl!
theorem Ats:Asb.names=([("mycmp",NameKind.cell),("K",NameKind.local),("object",NameKind.globalImplicit)]:List (Str×NameKind)):=by kernel_rfl!
theorem AzC:∃ p q,Atq=.Return (some (.Name "K" p)) q:=⟨_,_,rfl⟩
section
variable{M:Model}{A:Around}{E:Value→Shared→Prop}{s:Shared}
theorem Ai7{f:Value}{x:Sem Value}{Q:Args→Shared→Prop}(h:wpAny M A x (fun v s'=>Q ⟨[v],[]⟩ s') E s):wpAny M A (evalArgs f false [(false,x)] []) Q E s:=by unfold evalArgs;show wpAny M A (spliced [(false,x)] >>= _) Q E s;refine wpAny_bind (Calls.spliced_cons (wpAny_mono h (fun v s' h'=>?_) fun _ _ x=>x));refine wpAny_pure ?_;exact wpAny_holding (wpAny_bind (wpAny_pure (wpAny_bind (wpAny_pure (wpAny_pure h')))))
theorem AnF{f:Value}{x y:Sem Value}{k:Str}{Q:Args→Shared→Prop}(h:wpAny M A x (fun v s1=>wpAny M A y (fun u s2=>Q ⟨[v],[(k,u)]⟩ s2) E s1) E s):wpAny M A (evalArgs f true [(false,x)] [(some k,y)]) Q E s:=by unfold evalArgs;show wpAny M A (spliced [(false,x)] >>= _) Q E s;refine wpAny_bind (Calls.spliced_cons (wpAny_mono h (fun v s1 h1=>?_) fun _ _ x=>x));refine wpAny_pure (wpAny_holding ?_);show wpAny M A (evalAll [y] >>= _) Q E s1;refine wpAny_bind (evalAll_cons (wpAny_mono h1 (fun u s2 h2=>evalAll_nil ?_) fun _ _ x=>x));exact wpAny_bind (wpAny_pure (wpAny_pure h2))
end
section
variable{B:Bs}{A:Around}{s s':Shared}{g g':Gh}{n m:Nat}
noncomputable def ACH(s s' s'':Shared):Prop:=∀ a o,Abp o→((∃ es n,o.data=.dict es n)∨(∃ v,o.data=.cell v)→s.heap.get? a=none)→s'.heap.get? a=some o→s''.heap.get? a=some o
theorem Af0.keepK{s1:Shared}{a:Addr}{fd:FuncData}{params:Arguments}{body:FuncBody}{scope:Scope}{cl:List (Str×Addr)}(m:Af0 s'.heap g a fd params body scope cl)(k:ACH s s' s1):Af0 s1.heap g a fd params body scope cl:=by
 refine Akr m.code fun c' o' e1 e2 e3 e4=>?_;have e5:s1.heap.get? c'=some o':=by
  refine k c' o' e3 (fun h=>?_) e2;rw[e1] at e4;refine Aw4 e4 fun c₂ o₂ vs t f1 f2 f3 _=>?_
  cases f1;rw[e2] at f2;cases f2
  rcases h with ⟨es,n,h⟩|⟨v,h⟩<;>rw[f3] at h<;>(first|(injection h;done)|cases h)
 refine⟨m.obj,⟨c',o',e1,e5,e3,?_⟩,m.params,m.body,m.scope,m.glob,m.blt,m.clos,m.defs⟩;rw[e1] at e4 ⊢;exact AbB e4 e2 e5
theorem AvX(W:LW B)(hA:AOk (n+2) A)(I:Inv B s g){lam:Addr}{Q E:Value→Shared→Prop}(hq:∀ aC s' g',Aae B s g s' g'→(∀ s'',ACH s s' s''→AnE s'' g' lam aC)→Q (.ref aC) s'):wpAny B.M A (call (.ref Adr) [.ref lam]) Q E s:=by
 have D0:=AlY W.G;refine Af1 (n:=n+1) W.O D0.to0 D0.scope hA I ?_;rw[D0.bind [.ref lam] rfl];refine wpAny_pure ⟨g,[.ref lam],[.val (.ref lam)],Aae.refl I,rfl,.cons .val .nil,rfl,fun env s1 e1 e2 e3 F=>?_⟩;have hA':AOk (n+1) (A.deeper env):=hA.deeper;rw[Ae5] at e1;rw[Ae5,← e1] at F;rw[show Aac (nth AkF)=[kSt,Atq] from AvV];refine wpAny_execs_cons ?_;rw[ACG,arm_exec_ClassDef];refine Adf (F.cells "mycmp" (.inl (by unfold Env.kindOf;rw[e1];kernel_rfl!))) fun cm cv c1 c2 c3=>?_;refine Aab (c3 (.val (.ref lam)) rfl) fun v' q1 c4=>?_;subst q1;induction c4 using Den.valE;refine Abm W.cls.nm fun bm bmO=>?_;refine Aab W.cls.st fun mc hmc hno=>?_;refine Ad9 (Afi (a:=Adr) W (ABH B.w.params)) fun c P hcd hmem=>?_;refine wpAny_bind (wpAny_pure (wpAny_bind (wpAny_standAt (wpAny_bind ?_))));unfold buildClassGuard;rw[F.blt];refine wpAny_bind (wpAny_nsGet (F.inv.ns W.O.b) ?_);rw[W.cls.bc];refine wpAny_pure (wpAny_bind (wpAny_holding ?_));refine wpAny_bind ?_;show wpAny _ _ (evalArgs (.builtin "__build_class__") false (backTo _ (starEach [.Name "object" Atr.pos] env)) []) _ _ _;rw[AaC (es:=[.Name "object" Atr.pos]) (by intro e he;rcases List.mem_cons.mp he with rfl|he;rfl;cases he)];refine Ai7 ((F.gname W.O (by unfold Env.kindOf;rw[e1];kernel_rfl!) W.cls.obj rfl).use fun ov s2 g2 x2 ho=>?_);subst ho;have F2:=F.step x2;refine wpAny_bind (wpAny_standAt (wpAny_holding ?_));have hq0:qualnameIn env "K" "K" = "cmp_to_key.<locals>.K":=by
  unfold qualnameIn;have:(env.kindOf ("K":Str) == some NameKind.globalExplicit)=false:=by unfold Env.kindOf;rw[e1];kernel_rfl!
  rw[this,if_neg Bool.false_ne_true,e3,ABG];rfl
 rw[hq0];refine Aaz (Ac9 F2 (scope:=AfA) (fun x hx=>(AaR AoC x hx).1) (fun x hx=>by unfold Env.kindOf;rw[e1];exact(AaR AoC x hx).2)) fun hcl _=>?_;rw[AvW,c1] at hcl;refine AsG W.O W.bm W.TT W.cls F2.inv (e2.trans hcd) hmem F.glob F.blt hcl AFW bmO hA'.dlt AEf hmc hno fun aC s3 g3 x3 k=>?_;have F3:=F2.step x3;refine Adf (k.kAt F3.inv) fun f0 f1 kk k0 k1=>?_;refine wpAny_bind (Ab0 (show decorate ((([]:List Value).zip (([]:List Expr).map (·.pos))).reverse) (.ref aC)=pure (.ref aC) from rfl) ?_);refine wpAny_bind (wpAny_standAt (wpAny_bind (wpAny_bindName ?_)));refine F3.store W.O (Abi (by rw[e1];exact AzB)) (d:=.val (.ref aC)) .val fun s4 F4 oth=>wpAny_pure ?_;refine wpAny_execs_cons ?_;refine Aw3 AzC fun p q hr=>?_;rw[hr];refine wpAny_Return_some ((F4.name (x:="K") rfl rfl).useV fun s5 g5 x5=>?_);have Fx:=F4.step x5;refine hq aC s5 g5 Fx.st fun s6 kp=>⟨f0,f1,cm,kk s6.heap (fun a o hn hd hc e=>kp a o hn (fun h=>?_) (x5.ext.keep a o (oth a o (fun hl=>?_) e) hn)),?_,?_,?_⟩
 ·rcases h with ⟨es,n,h⟩|⟨v,h⟩
  ·exact F2.st.ext.dead (hd es n h)
  ·exact absurd h (hc v)
 ·rcases hl with rfl|⟨x,hx,e4⟩
  ·refine Aab F3.vars fun m3 h3 _=>?_;refine AjZ h3 fun o3 ho3 _ _ es n3 hdat=>?_;rw[e] at ho3;cases ho3;refine Aab F2.vars fun m2 h2 _=>?_;refine Aab (AgD h2) fun o2 ho2 _=>?_;rw[hd es n3 hdat] at ho2;exact Aah ho2
  ·refine Adf (F3.own x hx) fun cc v d1 q2 _=>?_;obtain⟨o3,ho3,hdat⟩:=q2;rw[e4] at d1;cases d1;rw[e] at ho3;cases ho3;exact hc _ hdat
 ·obtain⟨fd,m⟩:=k0
  exact⟨fd,((m.oth F3 oth).step x5).keepK kp⟩
 ·obtain⟨fd,m⟩:=k1
  exact⟨fd,((m.oth F3 oth).step x5).keepK kp⟩
 ·refine Adf (Fx.cells "mycmp" (.inl (by unfold Env.kindOf;rw[e1];kernel_rfl!))) fun c' v d1 d2 d3=>?_;refine Aab (d3 (.val (.ref lam)) rfl) fun v' q3 d4=>?_;subst q3;induction d4 using Den.valE;rw[c1] at d1;cases d1;refine Akr (Fx.own "mycmp" (by rw[e1];exact Afr.mpr (by rw[show Aad (nth AkF)=Asb from rfl,Ats];exact .head _))) fun c2' v2 q1 q2 q3 _=>?_;rw[c1] at q1;cases q1
  obtain⟨oc,ho,hdat⟩:=d2
  exact⟨oc,kp _ _ (AcN fun vs e=>by rw[hdat] at e;injection e) (fun _=>q3) ho,hdat⟩
end
noncomputable def Aq6(T:Tb)(k:Nat)(lsc:Scope)(x y:Str)(body:Expr)(σ:Rho)(ds:List D):Option D:=if [x,y].length=ds.length then ev T k lsc (([x,y].zip ds).reverse++σ) body else none
section
variable{B:Bs}{A:Around}{s₀ s s':Shared}{g₀ g g':Gh}{m n:Nat}{own:List Str}{env:Env}{ρ:Rho}{T:Tb}
theorem AnG(W:LW B)(K:AbO B n T s₀ g₀)(hA:AOk (n+2) A)(F:Fm B s₀ g₀ own env ρ s g){c P:Addr}(hcode:env.code=.ref c)(hm:(c,P)∈tabsL){args:Arguments}{body e2 e3:Expr}{lsc:Scope}{lp q pos:Pos}{x y:Str}
  (hn:Ac8 lp.line lp.col=env.qual++"<lambda>") (hdf:defaultsOf args env=([],[])) (hbd:AhI args [x,y]) (hsc:Ac4 lsc [x,y]=true) (hfr:Ads lsc env.scope=true) (hk:env.scope.names.lookup ("reduce":Str)=some .globalImplicit) {k kl:Nat} {sq init r:D} {items:List D}
  (h2:ev T k env.scope ρ e2=some sq) (h3:ev T k env.scope ρ e3=some init) (hs2:Abt e2=true) (hs3:Abt e3=true) (hp:Aol init=true) (hi:AbK sq=some items) (hr:Anr (Aq6 T kl lsc x y body (Aa7 lsc ρ)) init items=some r) :
  Aaq B A s g (eval (.Call (.Name "reduce" q) [.Lambda args body lsc lp,e2,e3] [] pos) env) fun g' v=>Den g' v r:=by
 have EV:=(AaD W.O K (hA.le (Nat.le_add_right n 2)) k).1 own env ρ;refine wpAny_Call_NameR ((F.gname W.O (x:="reduce") (v:=.ref Ab3) hk (Abr W "reduce" _ rfl) rfl).use fun fv s1 g1 x1 hf=>?_);subst hf;have F1:=F.step x1;rw[AaC (es:=[.Lambda args body lsc lp,e2,e3]) (by
  intro e he;simp only[List.mem_cons,List.not_mem_nil,or_false] at he
  rcases he with rfl|rfl|rfl
  ·rfl
  ·exact hs2
  ·exact hs3)]
 obtain⟨oc,hoc,hdc⟩:=(Ay7 W).d0.obj
 obtain⟨hcl,C⟩:=Ac9 F1 (scope:=lsc) (fun x hx=>(AaR hfr x hx).1) (fun x hx=>(AaR hfr x hx).2)
 refine callWith_of (P:=fun h=>∃ o fd,h.get? Ab3=some o∧o.data=.func fd) rfl (fun h hp=>?_) (Calls.evalArgs_plain (Calls.spliced_cons (kla_eval hdf (Am7 W.O W.bm W.TT F1.inv hcl F1.glob hcode hm hn fun a fd s2 g2 x2 M2=>Calls.spliced_cons ((EV _ _ _ _ h2 (F1.step x2)).use fun v2 s3 g3 x3 hv2=>Calls.spliced_cons ((EV _ _ _ _ h3 ((F1.step x2).step x3)).use fun v3 s4 g4 x4 hv3=>wpAny_pure ⟨⟨oc,_,x4.inv.get (x4.inv.base _ _ hoc),hdc⟩,?_⟩))))))
 ·obtain⟨o,fd,h1,h2⟩:=hp
  refine⟨.frame,.inl rfl,?_⟩;unfold keeperOf;refine(Looks.ld (part:=none) h1).andThen ?_;rw[h2];exact .now
 have F4:=((F1.step x2).step x3).step x4;have M4:=M2.step (x3.trans x4);have C4:=C.step ((x2.trans x3).trans x4);have hF:AmO B (n+1) s4 g4 (.ref a) (Aq6 T kl lsc x y body (Aa7 lsc ρ)):=by
  refine⟨.inr (.inr ⟨a,_,fd,rfl,M4.obj,rfl⟩),fun A s' g' vs ds r hA x hd hr=>?_⟩;unfold Aq6 at hr
  split at hr
  ·rename_i hl;refine Arx W.O (M4.step x) hbd hsc (C4.step x) hA x.inv hd hl fun env' s5 e5 e6 F5=>?_;exact(AaD W.O (K.step (F4.st.trans x)) hA.deeper kl).1 _ env' _ _ r s5 g' (by rw[e5];exact hr) F5
  ·cases hr
 exact(AiT W.O (Ay7 W) hF hA x4.inv rfl (hv2.mono x4.le) hv3 hp hi hr).from (((x1.trans x2).trans x3).trans x4)
end
end Mine
namespace Mine
open PySem PySem.W PyProof.Rows
theorem AAI{c:Prop}{hd:Decidable c}{α:Type}{x:Option α}{r:α}(h:(if c then x else none)=some r):c∧x=some r:=Abg h
noncomputable def AqN(x:Str):List Str→List Value→Option Value
 |k :: ks,v :: vs=>if x=k then some v else AqN x ks vs
 |_,_=>none
theorem AvY{g:Gh}{x:Str}{vs:List Value}{ds:List D}(h:Aar g vs ds):∀ {ks:List Str} {d:D},Ahy x ks ds=some d→∃ v,AqN x ks vs=some v∧Den g v d:=by
 induction h using Aar.ind with
 |nil=>intro ks d e;cases ks<;>exact Aah e
 |cons h1 h2 ih=>
  intro ks d e;induction ks using List.casesOn with
  |nil=>exact Aah e
  |cons k ks=>
   by_cases hx:x=k
   ·have e:=(if_pos hx).symm.trans (show(if x=k then some _ else Ahy x ks _)=some d from e)
    cases e
    exact⟨_,if_pos hx,h1⟩
   ·have e:=(if_neg hx).symm.trans (show(if x=k then some _ else Ahy x ks _)=some d from e);refine Aab (ih e) fun v e1 e2=>⟨v,(if_neg hx).trans e1,e2⟩
section
variable{prog:Program}{w:World}
theorem Amn(prog:Program)(w:World){hf:Str→Int}(x:Str){ks:List Str}{vs:List Value}{es:List DictEntry}(h:Abx hf ks vs es):(es.find? fun e=>(strKind prog w).is x e.key).map (·.val)=AqN x ks vs:=by
 induction h with
 |nil=>rfl
 |@cons k t e ks vs es h1 _ _ ih=>
  have hk:(strKind prog w).is x e.key=decide (x=k):=KeyKind.is_eq_decide (by rw[h1];exact strKind_is _ _ k t) x;rw[List.find?_cons,hk];show _=(if x=k then some e.val else AqN x ks vs)
  by_cases hx:x=k
  ·rw[decide_eq_true hx,if_pos hx];rfl
  ·rw[decide_eq_false hx,if_neg hx];exact ih
theorem Amo{ks:List Str}{vs:List Value}{es:List DictEntry}(h:Abx (hashStr w) ks vs es):∀ e∈es,∃ k,(strKind prog w).is k e.key=true∧e.hash=(strKind prog w).hash k:=by
 induction h with
 |nil=>exact fun _ he=>nomatch he
 |@cons k t e ks vs es h1 h2 _ ih=>
  intro e' he;exact(List.mem_cons.mp he).elim (fun q=>⟨k,by rw[q,h1];exact strKind_is _ _ k t,by rw[q];exact h2⟩) fun he=>ih e' he
theorem AnH{h:Heap}{a:Addr}{es:Array DictEntry}{n:Nat}{ks:List Str}{vs:List Value}(ho:h.get? a=some {cls:=.type "dict",data:=.dict es n})(he:Abx (hashStr w) ks vs es.toList) :
  h.MapOf (strKind prog w) a fun x=>AqN x ks vs:=by
 refine⟨_,es,n,ho,⟨rfl,rfl,rfl⟩,rfl,fun e hm=>Amo he e (Array.mem_toList_iff.mpr hm),fun x=>?_⟩;show findBy _ _ _=AqN x ks vs;rw[← Amn prog w x he];unfold findBy;rw[← Array.find?_toList]
theorem AqO{es:List DictEntry}{kvs:List (Str×Value)}(h:Pairs (strKind prog w) es kvs)(hk:∀ e∈es,∃ k,(strKind prog w).is k e.key=true∧e.hash=(strKind prog w).hash k):Abx (hashStr w) (kvs.map (·.1)) (kvs.map (·.2)) es:=by
 induction h with
 |nil=>exact .nil
 |cons h1 h2 _ ih=>
  refine Aab (hk _ (.head _)) fun k e1 e2=>?_;refine Abm (Value.isStrOf_shape h1) fun t h1'=>?_;have:=Abx.cons h1' (by rw[e2,(strKind prog w).inj _ _ _ e1 h1];rfl) (ih fun e he=>hk e (.tail _ he));rw[h2] at this;exact this
end
section
variable{B:Bs}{A:Around}{s₀ s s':Shared}{g₀ g g':Gh}{own:List Str}{env:Env}{ρ:Rho}{n:Nat}{T:Tb}
theorem Att(I:Inv B s g){o i:Value}{ks:List Str}{ds:List D}{x:Str}{r:D}{value slice:Expr}(ha:Den g o (.dict (hashStr B.w) ks ds))(hb:Den g i (.str x))(h:Ahy x ks ds=some r)
  (hs:subscripted slice false o i=operate [o,i] (getItem o i)):Aaq B A s g (subscriptTail value slice o i) fun g' v=>Den g' v r:=by
 induction hb using Den.strE;induction ha using Den.dictE with|dict h1 h2 h3=>?_
 refine Aab (AvY h3 h) fun v e1 e2=>?_;exact tail_any ⟨_,I.get h1,rfl⟩ slot_dict_getitem.lookup (wpAny_getItem_of (knd:=strKind B.prog B.w) (strKind_is _ _ x _) (AnH (I.get h1) h2) e1 ⟨g,Aae.tok I _,e2⟩) hs
noncomputable def ACI(hf:Str→Int)(a:D)(x:Str):Option D:=match a with
 |.dict hf' ks ds=>open Classical in if hf'=hf then Ahy x ks ds else none
 |_=>none
theorem AvZ{hf:Str→Int}{a:D}{x:Str}{r:D}(h:ACI hf a x=some r):∃ ks ds,a=.dict hf ks ds∧Ahy x ks ds=some r:=by
 induction a using D.casesOn with
 |dict hf' ks ds=>refine Aaz (AAI h) fun e h=>⟨ks,ds,by rw[e],h⟩
 |_=>exact Aah h
noncomputable def AzD(hf:Str→Int)(E:Scope→Rho→Expr→Option D)(sc:Scope)(ρ:Rho)(e:Expr):Option D:=
 if Nat.beq (Agz e) 14=true∧AeO (Aub e)=true then (E sc ρ (AoS e)).bind fun a=>(E sc ρ (Aub e)).bind fun b=>AdH b fun x=>ACI hf a x else none
noncomputable def Afl(hf:Str→Int)(T:Tb)(k:Nat):Tb:={T with spec:=AzD hf (ev T k)}
theorem Atu{e:Expr}(h:Nat.beq (Agz e) 14=true):∃ p,e=.Subscript (AoS e) (Aub e) p:=by
 revert h;induction e using Expr.casesOn<;>first|exact fun _=>⟨_,rfl⟩|exact Bool.noConfusion
theorem Agv(O:B.Ok)(K:AbO B n T s₀ g₀)(k:Nat):AbO B n (Afl (hashStr B.w) T k) s₀ g₀ where
 glob:=K.glob
 app:=K.app
 stm:=K.stm
 meth:=K.meth
 spec:=fun A own env ρ e d s g hA h F=>by
  refine Aaz (Abg h) fun hc h=>?_;refine Aab (Aag h) fun a ha h=>?_;refine Aab (Aag h) fun b hb h=>?_;refine Aab (AaN h) fun x q h8=>?_;refine Ad9 (AvZ h8) fun ks ds q2 h9=>?_;subst q;subst q2;refine Abm (Atu hc.1) fun p q=>?_;rw[q];have H:=(AaD O K hA k).1 own env ρ;exact Subscript_ ((H _ _ s g ha F).use fun o s1 g1 x1 ho=>(H _ _ s1 g1 hb (F.step x1)).use fun i s2 g2 x2 hi=>(Att x2.inv (ho.mono x2.le) hi h9 (Aeb hc.2)).from (x1.trans x2))
theorem Amp{sc:Scope}{e v i:Expr}{p:Pos}{hf:Str→Int}{k m:Nat}{ks:List Str}{ds:List D}{x:Str}{d:D}(he:e=.Subscript v i p)(hn:AeO i=true)(h1:ev (Afl hf T k) m sc ρ v=some (.dict hf ks ds))(h2:ev (Afl hf T k) m sc ρ i=some (.str x))
  (h3:ev T k sc ρ v=some (.dict hf ks ds)) (h4:ev T k sc ρ i=some (.str x)) (h:Ahy x ks ds=some d):ev (Afl hf T k) (m+1) sc ρ e=some d:=by
 subst he;refine r_0 rfl (ADY ((if_pos hn).trans ?_) ((if_pos ⟨rfl,hn⟩).trans (Aan h3 (Aan h4 ((if_pos rfl).trans h)))));rw[h1,h2];rfl
noncomputable def Ai8(B:Bs)(g:Gh)(o:Obj)(a:List (Str×D)):Prop:=∃ kvs:List (Str×Value),o.IsDictOf (strKind B.prog B.w) kvs∧kvs.map (·.1)=a.map (·.1)∧Aar g (kvs.map (·.2)) (a.map (·.2))
theorem Afm:∀ (g g':Gh) (o:Obj) (a:List (Str×D)),g.le g'→Ai8 B g o a→Ai8 B g' o a:=fun _ _ _ _ hle ⟨kvs,h1,h2,h3⟩=>⟨kvs,h1,h2,h3.mono hle⟩
theorem Amq{o:Obj}{kvs:List (Str×Value)}(h:o.IsDictOf (strKind B.prog B.w) kvs):∃ es n,o={cls:=.type "dict",data:=.dict es n}∧Abx (hashStr B.w) (kvs.map (·.1)) (kvs.map (·.2)) es.toList:=by
 refine AAD h fun es ep h1 h2 h3 h4 _=>?_
 obtain⟨c,d,dt,sl⟩:=o
 obtain⟨e1,e2,e3⟩:=h1
 dsimp only at e1 e2 e3 h2;subst e1;subst e2;subst e3;subst h2;exact⟨es,ep,rfl,AqO h4 fun e he=>h3 e (Array.mem_toList_iff.mp he)⟩
theorem Amr{es:Array DictEntry}{n:Nat}:ADA {cls:=.type "dict",data:=.dict es n}:=⟨Aal rfl,AaH rfl (by decide),(fun _ e=>nomatch e),(fun _ e=>nomatch e)⟩
theorem AqP{out:List (Str×D)}(g:Gh)(a:Addr)(o:Obj)(hg:g a=none)(h:Ai8 B g o out):Den (g.put a o) (.ref a) (.dict (hashStr B.w) (out.map (·.1)) (out.map (·.2))):=by refine Adc h fun kvs h1 h2 h3=>?_;refine Ad9 (Amq h1) fun es n e1 e2=>?_;subst e1;rw[h2] at e2;exact .dict (Gh.put_self ..) e2 (h3.mono (Gh.le_put _ hg))
theorem AjX{kx vx target iter:Expr}{ifs:List Expr}{scope:Scope}{pos:Pos}{it:Value}{acc:Addr}{env:Env} :
  compTurn (.DictComp kx vx [⟨target,iter,ifs,0⟩] scope pos) 0 it (.ref acc) env=(standAt iter.pos >>= fun _=>pyNext it >>= fun r=>match r with
   |none=>pure (.done .next)
   |some v=>letOwnedTupleGo target it v >>= fun _=>assign target env v >>= fun _=>
    (forIn ifs true fun c r=>if r=true then do let ok ← isTrue c env (eval c env);pure (ForInStep.yield ok) else pure (ForInStep.yield r)) >>= fun ok=>
    (if ok=true then (eval kx env >>= fun kv=>holding [kv] (eval vx env) >>= fun vv=>standAt {kx.pos with endLine:=vx.pos.endLine,endCol:=vx.pos.endCol} >>= fun _=>holding [kv,vv] (dictSet acc kv vv)) >>= fun _=>again (.compLoop (.DictComp kx vx [⟨target,iter,ifs,0⟩] scope pos) 0 it (.ref acc) env) else again (.compLoop (.DictComp kx vx [⟨target,iter,ifs,0⟩] scope pos) 0 it (.ref acc) env))):=by
 unfold compTurn
 rfl
noncomputable def Akk(E:Rho→Expr→Option D)(kx vx:Expr)(ρ:Rho)(a:List (Str×D)):Option (List (Str×D)):=(E ρ kx).bind fun k=>AdH k fun x=>(E ρ vx).bind fun d=>if (a.any fun q=>q.1 == x)=false∧a.length<1000000 then some (a++[(x,d)]) else none
theorem AqQ(O:B.Ok)(hh:A.handled=none){kx vx target iter:Expr}{ifs:List Expr}{scope:Scope}{pos:Pos}{acc It:Addr}{E:Rho→Expr→Option D}{R:Result→Shared→Prop}
  (H:∀ ρ,Snd B A s₀ g₀ own env ρ (E ρ)) (HT:∀ ρ,An2 B A s₀ g₀ own env ρ (E ρ)) {ds:List D} {a r:List (Str×D)} (C:CS B s₀ g₀ own env acc (Ai8 B) ρ a s g) (it:AaQ s.heap g It ds) (h0:s₀.heap.get? It=none) (hg:g It=none)
  (hr:AaW own env.scope (fun ρ e=>Aa9 (E ρ) e) target ifs (Akk E kx vx) ρ ds a=some r) (hR:∀ s5 g5,CS B s₀ g₀ own env acc (Ai8 B) ρ r s5 g5→R (.ok .next) s5) :
  codeAny B.M A (.compLoop (.DictComp kx vx [⟨target,iter,ifs,0⟩] scope pos) 0 (.ref It) (.ref acc) env) R s:=by
 refine Acz O hh Afm rfl rfl rfl AjX (fun ρ e b s g F h=>HT ρ e b s g h F) (fun ρ₁ a a' s g C hi Q EE hk=>?_) C it h0 hg hr fun s' g' _ C' _=>hR s' g' C';refine Aab (Aag hi) fun k hkx hi=>?_;refine Aab (AaN hi) fun x q hi=>?_;subst q;refine Aab (Aag hi) fun d hvx hi=>?_;refine Aaz (Abg hi) fun hc hi=>?_;refine wpAny_bind (wpAny_bind ((H ρ₁ kx _ s g hkx C.F).use fun kv s1 g1 x1 hkv=>?_));induction hkv using Den.strE;have C1:=C.step Afm x1;refine wpAny_bind (wpAny_holding ((H ρ₁ vx _ s1 g1 hvx C1.F).use fun vv s2 g2 x2 hvv=>?_));have C2:=C1.step Afm x2;refine wpAny_bind (wpAny_standAt (wpAny_holding ?_));refine Adc C2.obj fun o f1 f2 f3=>?_;refine Adc f2 fun kvs h1 h2 h3=>?_;have hl:kvs.length=a.length:=by have:=congrArg List.length h2;rwa [List.length_map,List.length_map] at this
 have hany:¬ (kvs.any fun kv=>decide (kv.1=x))=true:=fun h=>by
  refine Aab (List.any_eq_true.mp h) fun kv hm he=>?_;have hm':x∈a.map (·.1):=by rw[← h2];exact List.mem_map.mpr ⟨kv,hm,of_decide_eq_true he⟩
  refine Aab (List.mem_map.mp hm') fun q hq e=>?_;have:=List.any_eq_false.mp hc.1 q hq;exact this (beq_iff_eq.mpr e)
 refine wpAny_dictSet_pairs (strKind_is _ _ x _) (Heap.dictOf_iff.mpr ⟨o,f1,h1⟩) (fun h' hD sb=>?_) (by rw[hl];exact AaO (Nat.le_of_lt hc.2));refine Aab (Heap.dictOf_iff.mp hD) fun o' ho' hI=>?_;rw[stored,if_neg hany] at hI;have hn':ADA o':=by refine Ad9 (Amq hI) fun es n e _=>?_;rw[e];exact Amr
 refine hk _ g2 (x1.le.trans x2.le) ⟨C2.F.turnE O C2.new.1 C2.new.2 f1 f3.2.1 f3.2.2.2 (fun e=>C2.loc (.inl e)) sb.extBut rfl rfl,⟨o',ho',⟨_,hI,?_,?_⟩,hn'⟩,C2.new,C2.loc⟩ fun y oy q1 q2 e hn=>?_
 ·rw[← sj hi,List.map_append,List.map_append,h2];rfl
 ·rw[← sj hi,List.map_append,List.map_append];exact h3.append (.cons hvv .nil)
 ·have e2:=(x1.trans x2).ext.keep y oy e hn;exact⟨(sb.2 y q1).trans e2,(x1.trans x2).shutNone e⟩
theorem Av0(s:Shared)(Q EE:Value→Shared→Prop)(h:Q (.ref s.heap.objs.size) {s with heap:=s.heap.push {cls:=.type "dict",data:=.dict #[]}}):wpAny B.M A newDict Q EE s:=wpAny_bind (wpAny_alloc (wpAny_pure h))
theorem AzE(g:Gh):Ai8 B g {cls:=.type "dict",data:=.dict #[]} []:=⟨[],⟨#[],0,⟨rfl,rfl,rfl⟩,rfl,fun _ he=>by simp at he,Pairs.nil,List.nodup_nil⟩,rfl,.nil⟩
theorem AoD(O:B.Ok)(hA:AOk n A)(K:AbO B n T s₀ g₀){kx vx target iter:Expr}{ifs:List Expr}{scope:Scope}{pos:Pos}{x:D}{items:List D}{out:List (Str×D)}{k:Nat}
  (hset:Abu iter=true) (hok:Abq scope env.scope=true) (hx:Aaq B A s g (eval iter env) fun g' v=>Den g' v x) (hi:AbK x=some items)
  (hf:AaW (Aak scope.names) (Aaw scope env.scope) (fun ρ e=>Aa9 (ev T k (Aaw scope env.scope) ρ) e) target ifs (Akk (ev T k (Aaw scope env.scope)) kx vx) (Aa7 scope ρ) items []=some out) :
  Cmp B A s₀ g₀ env ρ s g (.DictComp kx vx [⟨target,iter,ifs,0⟩] scope pos) scope iter newDict (fun _=>Ai8 B) out (fun _ _ d=>d=.dict (hashStr B.w) (out.map (·.1)) (out.map (·.2))) target ifs [] {cls:=.type "dict",data:=.dict #[]} [] x items:=
 ⟨rfl,hset,hok,Av0,fun _ _ _=>⟨rfl,rfl⟩,fun _=>AzE,Amr,rfl,hx,hi,fun s1 g1 cenv It acc s4 x1 hsc C it h0 hg R hR=>
  AqQ O hA.handled (fun ρ'=>by have:=(AaD O (K.step x1) hA k).1 (Aak scope.names) cenv ρ';rw[hsc,← Abe] at this;exact this) (fun ρ'=>by have:=(AaD O (K.step x1) hA k).2 (Aak scope.names) cenv ρ';rw[hsc,← Abe] at this;exact this) C it h0 hg (by rw[hsc,← Abe];exact hf) hR,fun _ _ _ _ _ _ _ C=>C.shutG AqP,fun _ _ _ _ h _=>h⟩
end
theorem Ad1:∀ {l:List D} {xs:List Str},Ac2 l=some xs→l.length=xs.length
 |[],xs,h=>by cases h;rfl
 |d :: l,xs,h=>by
  refine Aab (AaN h) fun x q h=>?_;refine Aab (Aag h) fun ys e h=>?_
  cases h;exact congrArg (·+1) (Ad1 e)
theorem Akl{l:List (Str×Tok)}:StrsAre (strValues l) (l.map (·.1)):=by
 induction l with
 |nil=>exact .nil
 |cons p l ih=>exact .cons p.1 p.2 ih
theorem Av1{g:Gh}{vs:List Value}{xs:List Str}(h:StrsAre vs xs):Aar g vs (xs.map D.str):=by
 induction h with
 |nil=>exact .nil
 |cons y t _ ih=>exact .cons .str ih
theorem Atv{x y:Str}(h:x.cps.toList=y.cps.toList):x=y:=by
 obtain⟨⟨a⟩⟩:=x;obtain⟨⟨b⟩⟩:=y
 have h:a=b:=h;rw[h]
theorem Av2{vs:List Value}{xs:List Str}(h:StrsAre vs xs)(i:Nat)(hi:i<vs.length):∃ x t,vs[i]=.str x t∧xs[i]?=some x:=by
 induction h generalizing i with
 |nil=>exact absurd hi (Nat.not_lt_zero _)
 |cons y t _ ih=>
  induction i using Nat.casesAuxOn with
  |zero=>exact⟨y,t,rfl,rfl⟩
  |succ i=>exact ih i (Nat.lt_of_succ_lt_succ hi)
noncomputable def ACJ(x:Str):Value→Bool
 |.str y _=>y.cps.toList == x.cps.toList
 |_=>false
noncomputable def bIndex:List D→Option D:=fn2 fun a b=>Acx a fun l=>AdH b fun x=>(Ac2 l).bind fun xs=>if xs.length<1000000 then (xs.findIdx? (fun y=>y.cps.toList == x.cps.toList)).map (fun (j:Nat)=>D.int j) else none
noncomputable def leS(a b:Str):Bool:=!Spec.ltCps b.cps.toList a.cps.toList
noncomputable def Agw(xs:List Str):List Str:=xs.mergeSort leS
noncomputable def bSortS:List D→Option D:=fn1 fun a=>Acx a fun l=>(Ac2 l).bind fun xs=>if xs.length<64 then some (.list ((Agw xs).map D.str)) else none
theorem Ai9(a b c:Str)(h1:leS a b=true)(h2:leS b c=true):leS a c=true:=by unfold leS at *;rw[ltCps_eq] at *;simp only[Bool.not_eq_true',decide_eq_false_iff_not] at *;exact fun h=>h1 (List.lt_of_le_of_lt (List.not_lt.mp h2) h)
theorem Av3(a b:Str)(h1:leS a b=true)(h2:leS b a=true):a=b:=by unfold leS at *;rw[ltCps_eq] at *;simp only[Bool.not_eq_true',decide_eq_false_iff_not] at *;exact Atv (List.le_antisymm (List.not_lt.mp h1) (List.not_lt.mp h2))
theorem Ams(a b:Str):(leS a b || leS b a)=true:=by
 unfold leS;rw[ltCps_eq,ltCps_eq]
 by_cases h:b.cps.toList<a.cps.toList
 ·rw[decide_eq_false (List.lt_asymm h)];exact Bool.or_true _
 ·rw[decide_eq_false h];rfl
theorem Aja:∀ (p:Str) (l:List Str),risingS p l=true→(p :: l).Pairwise fun a b=>leS a b=true
 |p,[],_=>List.pairwise_singleton _ _
 |p,x :: r,h=>by
  have h:=Bool.and_eq_true_iff.mp (show(leS p x && risingS x r)=true from h);have ih:=Aja x r h.2;refine List.pairwise_cons.mpr ⟨fun y hy=>?_,ih⟩;exact(List.mem_cons.mp hy).elim (fun e=>e ▸ h.1) fun hy=>Ai9 _ _ _ h.1 ((List.pairwise_cons.mp ih).1 y hy)
theorem AnI:∀ (l:List Str),sortedS l=true→l.Pairwise fun a b=>leS a b=true
 |[],_=>.nil
 |x :: r,h=>Aja x r h
theorem AcZ(xs:List Str):(Agw xs).Perm xs:=List.mergeSort_perm _ _
theorem Akm{xs ys:List Str}(h1:ys.Perm xs)(h2:ys.Pairwise fun a b=>leS a b=true):ys=Agw xs:=
 List.Perm.eq_of_pairwise (fun a b _ _=>Av3 a b) h2 (List.pairwise_mergeSort Ai9 Ams xs) (h1.trans (AcZ xs).symm)
theorem Av4{xs ys:List Str}(h:xs.Perm ys):Agw xs=Agw ys:=Akm ((AcZ xs).trans h) (List.pairwise_mergeSort Ai9 Ams xs)
section
variable{B:Bs}{n:Nat}
theorem Av5:Abw B n (.builtin "list.index") bIndex:=Aj4 (.inl ⟨_,rfl⟩) fun A s g u w a b r hA I h1 h2 h=>by
 refine Aab (AaT h) fun l q1 k1=>?_;subst q1;refine Aab (AaN k1) fun x q2 k2=>?_;subst q2;refine Aab (Aag k2) fun xs e k3=>?_;refine Aaz (Abg k3) fun hl k4=>?_;refine Aab (Option.map_eq_some_iff.mp k4) fun j hj q3=>?_;subst q3;induction h2 using Den.strE;induction h1 using Den.listE with|list e1 e2=>?_
 rename_i t a vs m;refine Aab (AcA e2 e) fun l e3 e4=>?_;have hS:StrsAre vs.toList xs:=by rw[e3,← e4];exact Akl
 have hlen:vs.size=xs.length:=by have:=e2.length;have h2:=Ad1 e;rw[Array.length_toList] at this;rw[this,h2]
 refine Aab (List.findIdx?_eq_some_iff_getElem.mp hj) fun hjl hit hno=>?_;have val:∀ i (hi:i<vs.size),∃ t,vs[i]=.str (xs[i]'(hlen ▸ hi)) t:=fun i hi=>by
  refine Ad9 (Av2 hS i (by rw[Array.length_toList];exact hi)) fun y t h1 h2=>?_;rw[List.getElem?_eq_getElem (hlen ▸ hi)] at h2;exact⟨t,by rw[sj h2];exact h1⟩
 show wpAny _ _ (call (.builtin "list.index") [.ref a,.str x t]) _ _ _;refine call_meets PySem.F.slot_list_index ⟨_,I.get e1,rfl⟩ PySem.F.entry_list_index (PySem.F.args_list_index_2 _ _) (MeetsSeq.list_index a vs m (.str x t) (ACJ x) (fun y hy=>?_) j (hlen ▸ hjl) (by omega) ?_ (fun i hi hij=>?_)) ⟨I.get e1,⟨g,Aae.tok I _,.int⟩⟩
 ·refine Abm (Array.mem_iff_getElem.mp hy) fun i q=>?_;refine Abm q fun hi e5=>?_;refine Abm (val i hi) fun t' e6=>?_;rw[← e5,e6];exact SeqRoads2.EqGives.str _ _ _ _
 ·refine Abm (val j (hlen ▸ hjl)) fun t' e6=>?_;rw[e6];exact hit
 ·refine Abm (val i hi) fun t' e6=>?_;rw[e6];exact Bool.eq_false_iff.mpr (hno i hij)
theorem Av6(O:B.Ok):Abw B n (.builtin "sorted") bSortS:=AgI (.inl ⟨_,rfl⟩) fun A s g u a r hA I h1 h=>by
 refine Aab (AaT h) fun l q1 k1=>?_;subst q1;refine Aab (Aag k1) fun xs e k2=>?_;refine Aaz (Abg k2) fun hl k3=>?_;rw[← sj k3];induction h1 using Den.listE with|list e1 e2=>?_
 rename_i a vs m;refine Aab (AcA e2 e) fun l e3 e4=>?_;have hS:StrsAre vs.toList xs:=by rw[e3,← e4];exact Akl
 refine sorted_strs (vs:=vs.toList) ⟨_,I.get e1,rfl,_,rfl⟩ hS (by rw[e2.length,Ad1 e];exact hl) fun out ss hs hp hso=>?_;refine Abm (sortedAll_at s.heap vs.toList out) fun c hc=>?_;have keep:∀ b o,s.heap.get? b=some o→(sortedAll s.heap vs.toList out).get? b=some o:=fun b o hb=>sortedAll_old hb;have x0:Aae B s g {s with heap:=sortedAll s.heap vs.toList out} g:=⟨g.le_refl,I.keeps O keep rfl rfl,.of keep,fun _ _ e=>.inl e⟩;have hn:s.heap.get? (s.heap.objs.size+1)=none:=by
  cases q:s.heap.get? (s.heap.objs.size+1) with
  |none=>rfl
  |some o=>exact absurd (Heap.lt_size q) (Nat.not_lt.mpr (Nat.le_succ _))
 have hg:g (s.heap.objs.size+1)=none:=by
  cases q:g (s.heap.objs.size+1) with
  |none=>rfl
  |some o=>have:=I.real _ _ q;rw[hn] at this;exact Aah this
 refine⟨_,x0.shut hn hc hg (Aal rfl),.list (Gh.put_self ..) ?_⟩;rw[← Akm hp (AnI _ hso)];exact Av1 hs
end
section
variable{B:Bs}{A:Around}{s₀ s s' s'':Shared}{g₀ g g' g'':Gh}{own:List Str}{env:Env}{ρ ρ':Rho}{n k:Nat}{T:Tb}{Ls:List Addr}{us us':List (List D)}
structure OM(B:Bs)(s₀:Shared)(g₀:Gh)(own:List Str)(env:Env)(Ls:List Addr)(ρ:Rho)(us:List (List D))(s:Shared)(g:Gh):Prop where
 F:Fm B s₀ g₀ own env ρ s g
 has:∀ i a,Ls[i]?=some a→∃ vs,AeI s.heap a vs∧Aar g vs.toList (us.getD i [])
 nog:∀ a∈Ls,g a=none
noncomputable def Av7(env:Env)(own:List Str)(Ls:List Addr)(s:Shared)(g:Gh)(s':Shared)(g':Gh):Prop:=g.le g'∧∀ x o,¬ Loc env own x→x ∉ Ls→s.heap.get? x=some o→Abp o→s'.heap.get? x=some o∧(g x=none→g' x=none)
theorem Av7.trans(x:Av7 env own Ls s g s' g')(y:Av7 env own Ls s' g' s'' g''):Av7 env own Ls s g s'' g'':=⟨x.1.trans y.1,fun a o h1 h2 e hn=>by
 refine Aaz (x.2 a o h1 h2 e hn) fun e1 q1=>?_;refine Aaz (y.2 a o h1 h2 e1 hn) fun e2 q2=>?_;exact⟨e2,fun h=>q2 (q1 h)⟩⟩
theorem AcP.m(x:AcP env own s g s' g'):Av7 env own Ls s g s' g':=⟨x.1,fun a o h1 _ e hn=>x.2 a o h1 e hn⟩
noncomputable abbrev Aln(B:Bs)(s₀:Shared)(g₀:Gh)(own:List Str)(env:Env)(Ls:List Addr)(ρ:Rho)(us:List (List D))(s:Shared)(g:Gh)(f:Flow)(s':Shared):Prop:=f=.next∧∃ g',Av7 env own Ls s g s' g'∧OM B s₀ g₀ own env Ls ρ us s' g'
theorem OM.lets(C:OM B s₀ g₀ own env Ls ρ us s g)(F:Fm B s₀ g₀ own env ρ' s' g')(l:AcP env own s g s' g'):OM B s₀ g₀ own env Ls ρ' us s' g':=by
 refine⟨F,fun i a hi=>?_,fun a ha=>?_⟩
 ·refine Aab (C.has i a hi) fun vs h1 h2=>?_;refine Abm (id h1) fun c e=>?_;exact⟨vs,⟨c,(l.2 a _ (C.F.notL h1) e AbT).1⟩,h2.mono l.1⟩
 ·refine Abm (List.getElem?_of_mem ha) fun i hi=>?_;refine Aab (C.has i a hi) fun vs h1 _=>?_;refine Abm (id h1) fun c e=>?_;exact(l.2 a _ (C.F.notL h1) e AbT).2 (C.nog a ha)
theorem OM.step(C:OM B s₀ g₀ own env Ls ρ us s g)(x:Aae B s g s' g'):OM B s₀ g₀ own env Ls ρ us s' g':=C.lets (C.F.step x) x.lets
theorem OM.weaken(C:OM B s₀ g₀ own env Ls ρ us s g)(h:∀ x d,ρ'.lookup x=some d→ρ.lookup x=some d):OM B s₀ g₀ own env Ls ρ' us s g:=⟨C.F.weaken h,C.has,C.nog⟩
theorem OM.ex{body:List Stmt}{m:Nat}(O:B.Ok)(K:AbO B n T s₀ g₀)(hA:AOk n A)(C:OM B s₀ g₀ own env Ls ρ us s g)(h:Mine.ex (T.stm own env.scope) (ev T k env.scope) own env.scope m ρ body=some (.next ρ')) :
  wpAny B.M A (execs body env) (Aln B s₀ g₀ own env Ls ρ' us s g) (fun _ _=>False) s:=by
 refine(AbW O K hA m ρ _ body s g h C.F).use fun f s1 g1 l1 en=>?_;refine Aaz en fun z F1=>?_;exact⟨z,g1,l1.m,C.lets F1 l1⟩
theorem OM.store{st:Stmt}{o i e:Expr}{p1 p2:Pos}{d:D}{r:Nat}{a:Addr}{j:Int}(O:B.Ok)(K:AbO B n T s₀ g₀)(hA:AOk n A)(C:OM B s₀ g₀ own env Ls ρ us s g)(hnd:Ls.Nodup)(h0:∀ a∈Ls,s₀.heap.get? a=none)(hl:us.length=Ls.length)
  (hst:st=.Assign [.Subscript o i p1] e p2) (hsw:swapsWith e (some (.Subscript o i p1)) p2.line env=pure false)
  (he:ev T k env.scope ρ e=some d) (ho:ev T k env.scope ρ o=some (.val (.ref a))) (hi:ev T k env.scope ρ i=some (.int j)) (ha:Ls[r]?=some a) (hj0:0≤j) (hj1:j<1000000) (hj:j.toNat<(us.getD r []).length) :
  wpAny B.M A (exec st env) (Aln B s₀ g₀ own env Ls ρ (us.set r ((us.getD r []).set j.toNat d)) s g) (fun _ _=>False) s:=by
 subst hst;have EV:=(AaD O K hA k).1 own env ρ;refine wpAny_Assign_Subscript ((EV _ _ _ _ he C.F).use fun v s1 g1 x1 hv=>(EV _ _ _ _ ho (C.F.step x1)).use fun ov s2 g2 x2 hov=>(EV _ _ _ _ hi ((C.F.step x1).step x2)).use fun iv s3 g3 x3 hiv=>?_) hsw;induction hov using Den.valE;induction hiv using Den.intE;have x:=(x1.trans x2).trans x3;have C3:=C.step x;have hm:a∈Ls:=List.mem_of_getElem? ha;refine Aab (C3.has r a ha) fun vs q1 q2=>?_;have hz:vs.size=(us.getD r []).length:=by rw[← Array.length_toList];exact q2.length
 refine AiW q1 hj0 (Int.lt_trans hj1 (by decide)) (by omega) fun s4 p4=>⟨rfl,g3,⟨x.le,fun y oy h1 h2 ey hn=>?_⟩,C3.F.turnL O q1 (h0 a hm) (C3.nog a hm) p4,fun i' a' hi'=>?_,C3.nog⟩
 ·have e1:=x.ext.keep y oy ey hn;exact⟨p4.keep (fun e=>h2 (e ▸ hm)) e1,x.shutNone ey⟩
 ·have hr:r<us.length:=by rw[hl];exact(List.getElem?_eq_some_iff.mp ha).1
  by_cases hr':i'=r
  ·subst hr';rw[ha] at hi';cases hi';refine⟨_,p4.has,?_⟩;rw[List.getD_eq_getElem?_getD,List.getElem?_set_self hr,Array.toList_setIfInBounds];exact q2.set (hv.mono (x2.le.trans x3.le))
  ·refine Aab (C3.has i' a' hi') fun vs' t1 t2=>?_;have hne:a'≠a:=fun e=>hr' (by
    subst e;exact(List.getElem?_inj (List.getElem?_eq_some_iff.mp hi').1 hnd).mp (hi'.trans ha.symm))
   refine⟨vs',?_,?_⟩
   ·refine Abm t1 fun c ec=>⟨c,p4.keep hne ec⟩
   ·rw[List.getD_eq_getElem?_getD,List.getElem?_set_ne (fun e=>hr' e.symm),← List.getD_eq_getElem?_getD];exact t2
theorem OM.for(O:B.Ok)(hh:A.handled=none){α:Type}{target:Expr}{body:List Stmt}{It:Addr}(rh:α→Rho)(uu:α→List (List D))(nx:D→α→Option α)
  (hbody:∀ d x x' ρ₁ s g,nx d x=some x'→Acy own env.scope target d (rh x)=some ρ₁→OM B s₀ g₀ own env Ls ρ₁ (uu x) s g→wpAny B.M A (execs body env) (Aln B s₀ g₀ own env Ls (rh x') (uu x') s g) (fun _ _=>False) s)
  (hb:∀ d x x',nx d x=some x'→∃ ρ₁,Acy own env.scope target d (rh x)=some ρ₁) (h0:s₀.heap.get? It=none) (hL:It ∉ Ls) (hl0:∀ a∈Ls,s₀.heap.get? a=none) {items:List D} {x y:α} {s:Shared} {g:Gh}
  (C:OM B s₀ g₀ own env Ls (rh x) (uu x) s g) (it:AaQ s.heap g It items) (hg:g It=none) (hf:items.foldlM (fun x d=>nx d x) x=some y) {s1:Shared} {g1:Gh} (h1:s1.heap.get? It=none) (L:Av7 env own Ls s1 g1 s g) :
  codeAny B.M A (.forLoop target (.ref It) body [] env) (fun r s'=>∃ f,r=.ok f∧Aln B s₀ g₀ own env Ls (rh y) (uu y) s1 g1 f s') s:=by
 refine Arp fun R hR=>An8 (fun items s=>∃ x g,OM B s₀ g₀ own env Ls (rh x) (uu x) s g∧AaQ s.heap g It items∧g It=none∧items.foldlM (fun x d=>nx d x) x=some y∧Av7 env own Ls s1 g1 s g) ?_ ⟨x,g,C,it,hg,hf,L⟩;clear C it hg hf L;intro items s hJ Q E q0 q1;refine AAD hJ fun x g C it hg hf L=>?_;have keepIt:∀ (s2:Shared),Heap.ExtBut It s.heap s2.heap→s2.gens=s.gens→s2.os=s.os→OM B s₀ g₀ own env Ls (rh x) (uu x) s2 g∧Av7 env own Ls s1 g1 s2 g:=fun s2 kk e1 e2=>by
  refine AnV it.noTabby fun oi ho ht hnt hc hd _=>?_;refine⟨⟨C.F.turnE O h0 hg ho ht hc (fun e=>C.F.notLoc ho hc hd (.inl e)) kk e1 e2,fun i a hi=>?_,C.nog⟩,L.1,fun a o n1 n2 e t=>?_⟩
  ·refine Aab (C.has i a hi) fun vs t1 t2=>?_;refine Abm t1 fun c ec=>⟨vs,⟨c,kk a _ (fun e=>hL (e ▸ List.mem_of_getElem? hi)) ec⟩,t2⟩
  ·refine Aaz (L.2 a o n1 n2 e t) fun f1 f2=>?_;exact⟨kk a o (by intro e';subst e';rw[h1] at e;exact Aah e) f1,f2⟩
 induction items using List.casesOn with
 |nil=>
  have hf:=sj (show some x=some y from hf);subst hf;refine Ahl C.F.inv hh it fun h' kk=>q0 rfl _ (hR _ _ ⟨_,rfl,rfl,g,?_⟩);exact⟨(keepIt {s with heap:=h'} kk rfl rfl).2,(keepIt {s with heap:=h'} kk rfl rfl).1⟩
 |cons d ds=>
  refine Aab (Aag (show(nx d x).bind (fun x'=>ds.foldlM (fun x d=>nx d x) x')=some y from hf)) fun x' hx hf=>?_;refine Abm (hb d x x' hx) fun ρ₁ hb=>?_;refine Aeu C.F.inv it fun v h' tk hv it' kk=>q1 d ds rfl v _ fun X K E hn hbr hret hX=>?_;refine Aaz (keepIt {s with heap:=h',toks:=tk} kk.extBut rfl rfl) fun C' L'=>?_;refine Akv it' (Aca O hh C'.F hv hb fun s2 F2 k2=>hX s2 ?_);have C2:=C'.lets F2 (Oth.lets k2);have i2:=it'.oth C'.F k2;refine AeT fun Q' E' hQ'=>wpAny_mono (hbody d x x' ρ₁ s2 g hx hb C2) (fun f s3 h3=>hQ' _ _ ?_) fun _ _ h=>h.elim;refine Aaz h3 fun z h4=>?_;subst z;refine Aab h4 fun g3 l3 C3=>(hn s3 ⟨x',g3,C3,?_,?_,hf,(L'.trans (Oth.lets k2).m).trans l3⟩).1
  ·refine AnV i2.noTabby fun oi ho ht hnt hc hd _=>?_;exact i2.keep l3.1 fun o e _=>by rw[ho] at e;cases e;exact(l3.2 It oi (F2.notLoc ho hc hd) hL ho hnt).1
  ·refine AnV i2.noTabby fun oi ho ht hnt hc hd _=>?_;exact(l3.2 It oi (F2.notLoc ho hc hd) hL ho hnt).2 hg
theorem OM.alive(C:OM B s₀ g₀ own env Ls ρ us s g){a:Addr}(ha:a∈Ls):∃ o,s.heap.get? a=some o:=by refine Abm (List.getElem?_of_mem ha) fun i hi=>?_;refine Aab (C.has i a hi) fun vs h1 _=>?_;exact Abm h1 fun c e=>⟨_,e⟩
theorem OM.stFor(O:B.Ok)(K:AbO B n T s₀ g₀)(hA:AOk n A){α:Type}{st:Stmt}{target iter:Expr}{body:List Stmt}{p:Pos}(rh:α→Rho)(uu:α→List (List D))(nx:D→α→Option α)(hst:st=.For target iter body [] p)(hns:Abu iter=true)
  (hbody:∀ d x x' ρ₁ s g,nx d x=some x'→Acy own env.scope target d (rh x)=some ρ₁→OM B s₀ g₀ own env Ls ρ₁ (uu x) s g→wpAny B.M A (execs body env) (Aln B s₀ g₀ own env Ls (rh x') (uu x') s g) (fun _ _=>False) s)
  (hb:∀ d x x',nx d x=some x'→∃ ρ₁,Acy own env.scope target d (rh x)=some ρ₁) (hl0:∀ a∈Ls,s₀.heap.get? a=none) {xv:D} {items:List D} {x y:α}
  (C:OM B s₀ g₀ own env Ls (rh x) (uu x) s g) (hx:ev T k env.scope (rh x) iter=some xv) (hi:AbK xv=some items) (hf:items.foldlM (fun x d=>nx d x) x=some y) :
  wpAny B.M A (exec st env) (Aln B s₀ g₀ own env Ls (rh y) (uu y) s g) (fun _ _=>False) s:=by
 subst hst;refine AeT fun Q E hQ=>wpAny_For (((AaD O K hA k).1 own env _ _ _ _ _ hx C.F).use fun v s1 g1 x1 hv=>AdI O x1.inv hv hi fun o x2 it2=>codeAny_mono (OM.for (s1:=s1) (g1:=g1) O hA.handled rh uu nx hbody hb ((C.F.st.trans x1).ext.dead (AaM _)) (fun h=>?_) hl0 ((C.step x1).step x2) it2 x1.inv.fresh hf (AaM _) x2.lets.m) fun rr s' hr=>?_) (AdM hns)
 ·refine Abm ((C.step x1).alive h) fun o ho=>?_;rw[AaM] at ho;exact Aah ho
 ·refine Aab hr fun f z h=>?_;subst z;refine Aaz h fun z h5=>?_;subst z;refine Aab h5 fun g' l C'=>?_;exact hQ _ _ ⟨rfl,g',x1.lets.m.trans l,C'⟩
theorem AoE:∀ {Ls:List Addr} {us:List (List D)} {g:Gh},Aae B s₀ g₀ s g→Ls.Nodup→(∀ a∈Ls,s₀.heap.get? a=none∧g a=none)→(∀ i a,Ls[i]?=some a→∃ vs,AeI s.heap a vs∧Aar g vs.toList (us.getD i []))→us.length=Ls.length →
  ∃ g',Aae B s₀ g₀ s g'∧g.le g'∧Aar g' (Ls.map Value.ref) (us.map D.list)
 |[],[],g,x,_,_,_,_=>⟨g,x,g.le_refl,.nil⟩
 |a :: Ls,u :: us,g,x,hn,h0,hh,hl=>by
  refine Aab (hh 0 a rfl) fun vs h1 h2=>?_;refine Abm h1 fun c e=>?_;have hn':=List.nodup_cons.mp hn;have ha:=h0 a (.head _);have hle:=Gh.le_put (Abc vs c) ha.2;refine Adc (AoE (us:=us) (x.shut ha.1 e ha.2 AbT) hn'.2 (fun b hb=>⟨(h0 b (.tail _ hb)).1,(Gh.put_other fun q=>hn'.1 (by rw[← q];exact hb)).trans (h0 b (.tail _ hb)).2⟩) (fun i b hi=>Aab (hh (i+1) b hi) fun vs t1 t2=>⟨vs,t1,t2.mono hle⟩) (Nat.succ.inj hl)) fun g' x' le' hd=>?_;exact⟨g',x',hle.trans le',.cons (.list (le' _ _ (Gh.put_self ..)) (h2.mono (hle.trans le'))) hd⟩
end
noncomputable def Atw(c:List D)(s1:Shared)(g:Gh)(o:Obj)(k:Nat):Prop:=∃ as:List Addr,(∃ n,o={cls:=.type "list",data:=.seq (as.map Value.ref).toArray n})∧as.length=k∧as.Nodup∧∀ a∈as,s1.heap.get? a=none∧∃ vs n,g a=some (Abc vs n)∧Aar (fun _=>none) vs.toList c
noncomputable def AF5(c:List D)(k:Nat)(s s':Shared)(g:Gh)(d:D):Prop:=∃ as:List Addr,d=.list (as.map fun a=>.val (.ref a))∧as.length=k∧as.Nodup∧∀ a∈as,s.heap.get? a=none∧g a=none∧∃ vs,AeI s'.heap a vs∧Aar (fun _=>none) vs.toList c
noncomputable def AzF(_:Rho)(k:Nat):Option Nat:=if k<1000000 then some (k+1) else none
noncomputable def Gh.less(g:Gh)(as:List Addr):Gh:=open Classical in fun a=>if a∈as then none else g a
theorem Gh.less_in{g:Gh}{as:List Addr}{a:Addr}(h:a∈as):g.less as a=none:=if_pos h
theorem Gh.less_out{g:Gh}{as:List Addr}{a:Addr}(h:a ∉ as):g.less as a=g a:=if_neg h
theorem Gh.less_some{g:Gh}{as:List Addr}{a:Addr}{o:Obj}(h:g.less as a=some o):g a=some o:=by
 by_cases q:a∈as
 ·rw[Gh.less_in q] at h;exact Aah h
 ·rw[Gh.less_out q] at h;exact h
section
variable{B:Bs}{A:Around}{s₀ s s':Shared}{g₀ g g':Gh}{own:List Str}{env:Env}{ρ:Rho}{n:Nat}{T:Tb}
theorem Aae.less{as:List Addr}(I:Inv B s g)(x:Aae B s g s' g')(h:∀ a∈as,s.heap.get? a=none):Aae B s g s' (g'.less as):=by
 have ho:∀ a o,g a=some o→g'.less as a=some o:=fun a o e=>(Gh.less_out fun q=>by
  have:=I.real a o e;rw[h a q] at this;exact Aah this).trans (x.le a o e)
 exact⟨ho,⟨fun a o e=>ho a o (I.base a o e),fun a o e=>x.inv.real a o (Gh.less_some e),fun a o e=>x.inv.nt a o (Gh.less_some e),x.inv.tb,x.inv.gens,x.inv.os⟩,x.ext,fun a o e=>x.new a o (Gh.less_some e)⟩
theorem Av8{g:Gh}(as:List Addr):Aar g (as.map Value.ref) (as.map fun a=>D.val (.ref a)):=by
 induction as with
 |nil=>exact .nil
 |cons a as ih=>exact .cons .val ih
theorem Atx(O:B.Ok)(K:AbO B n T s₀ g₀)(hA:AOk n A){e l r:Expr}{p:Pos}{k:Nat}{c:List D}{m:Int}(he:e=.BinOp l .Mult r p)(h1:ev T k env.scope ρ l=some (.list c))(h2:ev T k env.scope ρ r=some (.int m))(hm:0≤m∧m≤1000)(hc:c.length≤1000)(hf:∀ g vs,Aar g vs c→Aar (fun _=>none) vs c)
  (F:Fm B s₀ g₀ own env ρ s g) {Q E:Value→Shared→Prop} (hq:∀ s' g' vs,Aae B s g s' g'→Aar (fun _=>none) vs.toList (List.replicate m.toNat c).flatten→Q (.ref s'.heap.objs.size) {s' with heap:=s'.heap.push (Abc vs 0)}):wpAny B.M A (eval e env) Q E s:=by
 subst he;have H:=(AaD O K hA k).1 own env ρ;refine wpAny_BinOp ((H _ _ s g h1 F).use fun va s1 g1 x1 ha=>(H _ _ s1 g1 h2 (F.step x1)).use fun vb s2 g2 x2 hb=>?_);induction hb using Den.intE;have ha:=ha.mono x2.le;induction ha using Den.listE with|list e1 e2=>?_
 rename_i t a vs nn;have hl:vs.size=c.length:=by rw[← Array.length_toList];exact e2.length
 have hmm:vs.size*m.toNat≤1000*1000:=Nat.mul_le_mul (hl ▸ hc) (by omega);refine Aes (x2.inv.get e1) (by omega) (by omega) (Nat.le_trans hmm (by decide)) (hq s2 g2 _ (x1.trans x2) ?_);have hv:=hf _ _ e2
 by_cases h0:vs.isEmpty=true
 ·have hc0:c=[]:=List.eq_nil_of_length_eq_zero (by rw[← hl];exact Array.isEmpty_iff_size_eq_zero.mp h0);rw[if_pos h0,hc0];have:∀ j:Nat,(List.replicate j ([]:List D)).flatten=[]:=fun j=>by induction j with|zero=>rfl|succ j ih=>exact ih
  rw[this];exact .nil
 ·rw[if_neg h0];have gen:∀ (j:Nat) (x:Array Value) (y:List D),Aar (fun _=>none) x.toList y→Aar (fun _=>none) (List.foldl (fun x1 x2=>x1++x2) x (List.replicate j vs)).toList (y++(List.replicate j c).flatten):=fun j=>by
   induction j with
   |zero=>intro x y h;rw[show(List.replicate 0 c).flatten=[] from rfl,List.append_nil];exact h
   |succ j ih=>
    intro x y h;rw[List.replicate_succ,List.replicate_succ,List.flatten_cons,← List.append_assoc];exact ih _ _ (by rw[Array.toList_append];exact h.append hv)
  exact gen m.toNat #[] [] .nil
theorem Agx{c:List D}{s1:Shared}:∀ (g g':Gh) (o:Obj) (k:Nat),g.le g'→Atw c s1 g o k→Atw c s1 g' o k:=fun _ _ _ _ hle ⟨as,h1,h2,h3,h4⟩=>⟨as,h1,h2,h3,fun a ha=>⟨(h4 a ha).1,(h4 a ha).2.elim fun vs h=>h.elim fun n h=>⟨vs,n,hle _ _ h.1,h.2⟩⟩⟩
noncomputable abbrev AxK(B:Bs)(A:Around)(s1:Shared)(g1:Gh)(own:List Str)(cenv:Env)(c:List D)(elt:Expr)(Ok:Rho→Prop):Prop:=
 ∀ ρ' s g,Ok ρ'→Fm B s1 g1 own cenv ρ' s g→∀ (Q E:Value→Shared→Prop),(∀ s' g' vs,Aae B s g s' g'→Aar (fun _=>none) vs.toList c→Q (.ref s'.heap.objs.size) {s' with heap:=s'.heap.push (Abc vs 0)})→wpAny B.M A (eval elt cenv) Q E s
theorem Aty(O:B.Ok)(hh:A.handled=none){elt target iter:Expr}{scope:Scope}{pos:Pos}{acc It:Addr}{c:List D}{R:Result→Shared→Prop}(helt:AxK B A s₀ g₀ own env c elt fun _=>True)
  {ds:List D} {a r:Nat} (C:CS B s₀ g₀ own env acc (Atw c s₀) ρ a s g) (it:AaQ s.heap g It ds) (h0:s₀.heap.get? It=none) (hg:g It=none)
  (hr:AaW own env.scope (fun _ _=>none) target [] AzF ρ ds a=some r) (hR:∀ s5 g5,CS B s₀ g₀ own env acc (Atw c s₀) ρ r s5 g5→R (.ok .next) s5) :
  codeAny B.M A (.compLoop (.ListComp elt [⟨target,iter,[],0⟩] scope pos) 0 (.ref It) (.ref acc) env) R s:=by
 refine Acz O hh Agx rfl rfl rfl (Aft rfl rfl) (fun ρ e b s g F h=>Aah h) (fun ρ₁ a a' s g C hi Q EE hk=>?_) C it h0 hg hr fun s' g' _ C' _=>hR s' g' C';refine Aaz (Abg hi) fun hlen hi=>?_;refine wpAny_bind (wpAny_bind (helt ρ₁ s g trivial C.F _ _ fun s1 g1 vs x1 hv=>?_));have C1:=C.step Agx x1;have x2:=Aae.alloc (o:=Abc vs 0) O x1.inv rfl (Aal rfl);have C2:=C1.step Agx x2;refine Adc C1.obj fun o f1 f2 _=>?_;refine Aht f2 fun as q1 q2 q3 q4=>?_;refine Abm q1 fun nn eo=>?_;subst eo;have f1':=Heap.get?_push_of_some (Abc vs 0) f1;have hsz:(as.map Value.ref).toArray.size=a:=by rw[List.size_toArray,List.length_map,q2]
 refine wpAny_bind (wpAny_list_append_plain ⟨nn,f1'⟩ (fun h' hp hs=>wpAny_pure (hk _ _ (x1.le.trans x2.le) ?_ fun y oy t1 t2 t3 tn=>⟨(hs.2 y t1).trans ((x1.trans x2).ext.keep y oy t3 tn),(x1.trans x2).shutNone t3⟩)) (by rw[hsz];exact AaO (Nat.le_of_lt hlen)));refine Abm hp fun n' hp=>?_;refine⟨C2.F.turnE O C2.new.1 C2.new.2 f1' (AaH rfl (by decide)) (fun _ e=>nomatch e) (fun e=>C2.loc (.inl e)) hs.extBut rfl rfl,⟨_,hp,⟨as++[s1.heap.objs.size],⟨n',?_⟩,?_,?_,fun b hb=>?_⟩,AhD⟩,C2.new,C2.loc⟩
 ·rw[List.map_append];show _=({cls:=.type "list",data:=.seq (as.map Value.ref++[Value.ref s1.heap.objs.size]).toArray n'}:Obj);rw[← List.push_toArray]
 ·rw[← sj hi,List.length_append,q2];rfl
 ·refine List.nodup_append.mpr ⟨q3,List.nodup_cons.mpr ⟨List.not_mem_nil,List.nodup_nil⟩,fun b hb b' hb' e=>?_⟩;rw[List.mem_singleton.mp hb'] at e;refine Ad9 (q4 b hb).2 fun vs' n2 e1 _=>?_;have e3:=x1.inv.real _ _ e1;rw[e,AaM] at e3;exact Aah e3
 ·refine(List.mem_append.mp hb).elim (fun hb=>⟨(q4 b hb).1,Ad9 (q4 b hb).2 fun vs' n2 e1 e2=>⟨vs',n2,x2.le _ _ e1,e2⟩⟩) fun hb=>?_;rw[List.mem_singleton.mp hb];exact⟨(C.F.st.trans x1).ext.dead (AaM _),vs,0,Gh.put_self ..,hv⟩
theorem AzG(O:B.Ok)(hA:AOk n A){elt target iter:Expr}{scope:Scope}{pos:Pos}{x:D}{items:List D}{m:Nat}{c:List D}
  (hset:Abu iter=true) (hok:Abq scope env.scope=true) (hx:Aaq B A s g (eval iter env) fun g' v=>Den g' v x) (hi:AbK x=some items)
  (helt:∀ s1 g1 cenv,Aae B s₀ g₀ s1 g1→cenv.scope=relabel scope env→AxK B A s1 g1 (Aak scope.names) cenv c elt fun _=>True)
  (hf:AaW (Aak scope.names) (Aaw scope env.scope) (fun _ _=>none) target [] AzF (Aa7 scope ρ) items 0=some m) :
  Cmp B A s₀ g₀ env ρ s g (.ListComp elt [⟨target,iter,[],0⟩] scope pos) scope iter (newList []) (Atw c) m (AF5 c m s) target [] [] {cls:=.type "list",data:=.seq ([]:List Value).toArray} 0 x items:=
 ⟨rfl,hset,hok,An3,fun _ _ _=>⟨rfl,rfl⟩,fun _ _=>⟨[],⟨_,rfl⟩,rfl,List.nodup_nil,fun _ h=>nomatch h⟩,AhD,rfl,hx,hi,fun s1 g1 cenv It acc s4 x1 hsc C it h0 hg R hR=>
  Aty O hA.handled (helt s1 g1 cenv x1 hsc) C it h0 hg (by rw[hsc,← Abe];exact hf) hR,
   fun s1 g1 cenv acc s5 g5 x1 C=>by
  refine Adc C.obj fun o f1 f2 f3=>?_;refine Aht f2 fun as q1 q2 q3 q4=>?_;refine Abm q1 fun nn eo=>?_;subst eo;have hs:=C.F.st.shut C.new.1 f1 C.new.2 f3.1;have hacc:acc ∉ as:=fun h=>by
   refine Ad9 (q4 acc h).2 fun vs' n2 e1 _=>?_;rw[C.new.2] at e1;exact Aah e1
  refine⟨_,.list (as.map fun a=>.val (.ref a)),⟨as,rfl,q2,q3,fun a ha=>⟨x1.ext.dead (q4 a ha).1,Gh.less_in ha,?_⟩⟩,hs.less x1.inv (as:=as) fun a ha=>(q4 a ha).1,?_,?_⟩
  ·refine Ad9 (q4 a ha).2 fun vs' n2 e1 e2=>⟨vs',⟨n2,C.F.st.inv.real _ _ e1⟩,e2⟩
  ·exact .list ((Gh.less_out hacc).trans (Gh.put_self ..)) (by rw[List.toList_toArray];exact Av8 as)
  ·by_cases h:cenv.locals∈as
   ·exact Gh.less_in h
   ·exact(Gh.less_out h).trans ((Gh.put_other fun e=>C.loc (.inl e.symm)).trans C.F.loc.2),
   fun s1 s2 g d h hk=>by
  refine Aht h fun as q1 q2 q3 q4=>?_;exact⟨as,q1,q2,q3,fun a ha=>⟨(q4 a ha).1,(q4 a ha).2.1,Aab (q4 a ha).2.2 fun vs t1 t2=>⟨vs,Abm t1 fun c ec=>⟨c,hk _ _ _ ec⟩,t2⟩⟩⟩⟩
end
end Mine
namespace Mine
open PySem PySem.W PyProof.Rows PySem.W.X
noncomputable def gC(e:Expr):Comprehension:=((AAN e)[0]?).getD ⟨e,e,[],0⟩
noncomputable def dS(i:Nat):Stmt:=(AgM[i]?).getD AbJ
noncomputable def dF:Stmt:=((loopOf (dS 1))[0]?).getD AbJ
noncomputable def dB(i:Nat):Stmt:=((loopOf dF)[i]?).getD AbJ
noncomputable def dLC:Expr:=Aat (dS 0)
noncomputable abbrev Alo:Scope:=Al2
theorem Av9:AgM=[dS 0,dS 1,dS 2]:=by kernel_rfl!
theorem ACK:dS 0=.Assign [.Name "depths" (AaG (dS 0)).pos] (.ListComp (lcElt dLC) [⟨(gC dLC).target,(gC dLC).iter,[],0⟩] (Acs dLC) dLC.pos) (Abf (dS 0)):=by kernel_rfl!
theorem AzH:lcElt dLC=.BinOp (binL (lcElt dLC)) .Mult (binR (lcElt dLC)) (lcElt dLC).pos:=by kernel_rfl!
theorem ACL:dS 1=.For (AaG (dS 1)) (iterOf (dS 1)) [dF] [] (Abf (dS 1)):=by kernel_rfl!
theorem AEJ:dF=.For (AaG dF) (iterOf dF) [dB 0,dB 1,dB 2] [] (Abf dF):=by kernel_rfl!
theorem ACM:dB 1=.Assign [.Subscript (AoS (AaG (dB 1))) (Aub (AaG (dB 1))) (AaG (dB 1)).pos] (Aat (dB 1)) (Abf (dB 1)):=by kernel_rfl!
theorem ACN:dB 2=.Assign [.Subscript (AoS (AaG (dB 2))) (Aub (AaG (dB 2))) (AaG (dB 2)).pos] (Aat (dB 2)) (Abf (dB 2)):=by kernel_rfl!
theorem ACO:Abq (Acs dLC) Alo=true:=by kernel_rfl!
noncomputable def Alp:Tb:=mkL (AcY [(.builtin "len",bLen),(.builtin "str.split",bSplit),(.type "range",bRange)])
noncomputable def Alq(n:Nat):Nat:=if n % 4=0 then 2 else if n % 2=0 then 1 else 0
noncomputable def ACP:List Str→Str
 |[]=>""
 |[x]=>x
 |x :: y :: l=>x++"/"++ACP (y :: l)
noncomputable def Ad2(l:List Str):Str:="/"++ACP l
noncomputable def Abk(i:Nat):List Str:=ACD.getD i []
noncomputable def Aep(i:Nat)(x:Int):List Str:=Ath (Abk i) x
noncomputable def Abl(i r:Nat):Str:=Ad2 (Aep i (r:Int))
noncomputable def Amt(i r s:Nat):List Str:=(Aep i (r:Int)).take ((Abk i).length+Alq (r - s))
noncomputable def tri(f:Nat→Nat→D):D:=.list ((List.range 8).map fun r=>.list ((List.range r).map fun s=>f r s))
noncomputable def Alr(i:Nat):D:=tri fun r s=>.tup [.str (Ad2 (Amt i r s)),.list [.str (Abl i r),.str (Abl i s)]]
noncomputable def AFy(i r s:Nat)(X:D):Option D:=ev Alp 16 Alo [("s",.int s),("r",.int r),("depths",X),("above",.int (Abk i).length),("told",Alr i)] (Aat (dB 0))
theorem AzI(X:D):(List.range 4).all (fun i=>(List.range 8).all fun r=>(List.range r).all fun s=>(AFy i r s X).bind Ard == some (Alq (r - s):Int))=true:=by kernel_rfl!
theorem Ajb{n:Nat}{p:Nat→Bool}(h:(List.range n).all p=true){i:Nat}(hi:i<n):p i=true:=List.all_eq_true.mp h i (List.mem_range.mpr hi)
theorem AzJ{i r s:Nat}(hi:i<4)(hr:r<8)(hs:s<r)(X:D):AFy i r s X=some (.int (Alq (r - s):Int)):=by have h:=eq_of_beq (Ajb (Ajb (Ajb (AzI X) hi) hr) hs);refine Aab (Aag h) fun d e1 e2=>?_;rw[e1,Adq e2]
noncomputable def AzK(us:List (List D))(r s:Nat)(d:D):List (List D):=us.set r ((us.getD r []).set s d)
noncomputable def sq8(us:List (List D)):Bool:=Nat.beq us.length 8 && us.all fun l=>Nat.beq l.length 8
noncomputable def nxI(r:Nat)(d:D)(us:List (List D)):Option (List (List D)):=Acf d fun j=>if 0≤j∧j.toNat<r∧sq8 us=true then some (AzK (AzK us r j.toNat (.int (Alq (r - j.toNat):Int))) j.toNat r (.int (Alq (r - j.toNat):Int))) else none
noncomputable def AmP(n:Nat):List D:=(List.range n).map fun (j:Nat)=>.int (j:Int)
noncomputable def nxO(d:D)(us:List (List D)):Option (List (List D)):=Acf d fun j=>if 0≤j∧j.toNat<8 then (AmP j.toNat).foldlM (fun us d=>nxI j.toNat d us) us else none
noncomputable def us0:List (List D):=List.replicate 8 (List.replicate 8 (.int 3))
noncomputable def Amu(r s:Nat):Nat:=if r=s then 3 else if r<s then Alq (s - r) else Alq (r - s)
noncomputable def depM:List (List D):=(List.range 8).map fun r=>(List.range 8).map fun s=>.int (Amu r s:Int)
theorem Awa:(AmP 8).foldlM (fun us d=>nxO d us) us0=some depM:=by kernel_rfl!
noncomputable def ADE(i:Nat)(ds:List D):Option D:=open Classical in if ds=[Alr i,.int (Abk i).length] then some (.list (depM.map D.list)) else none
theorem AxL{us:List (List D)}(h:sq8 us=true){r:Nat}(hr:r<8):us.length=8∧(us.getD r []).length=8:=by have h:=Bool.and_eq_true_iff.mp h;have hl:=Nat.eq_of_beq_eq_true h.1;refine⟨hl,?_⟩;rw[List.getD_eq_getElem?_getD,List.getElem?_eq_getElem (by rw[hl];exact hr)];exact Nat.eq_of_beq_eq_true (List.all_eq_true.mp h.2 _ (List.getElem_mem _))
theorem Awb{us:List (List D)}{r s:Nat}{d:D}(j:Nat):((AzK us r s d).getD j []).length=(us.getD j []).length:=by
 unfold AzK;simp only[List.getD_eq_getElem?_getD]
 by_cases h:r=j
 ·subst h
  by_cases hl:r<us.length
  ·rw[List.getElem?_set_self hl];exact List.length_set ..
  ·rw[List.set_eq_of_length_le (Nat.not_lt.mp hl)]
 ·rw[List.getElem?_set_ne h]
section
variable{B:Bs}{A:Around}{s₀ s s':Shared}{g₀ g g':Gh}{n m:Nat}{own:List Str}{env:Env}
noncomputable abbrev rhD(i:Nat)(as:List Addr):Rho:=[("depths",.list (as.map fun a=>.val (.ref a))),("above",.int (Abk i).length),("told",Alr i)]
theorem AoF{as:List Addr}(hl:as.length=8){r:Nat}(hr:r<8):∃ a,as[r]?=some a∧Adw (.list (as.map fun a=>.val (.ref a))) (.int (r:Int))=some (.val (.ref a)):=by refine⟨as[r]'(by omega),List.getElem?_eq_getElem _,Aek (Int.natCast_nonneg r) (by rw[List.length_map,hl];decide) ?_⟩;rw[Int.toNat_natCast,List.getElem?_map,List.getElem?_eq_getElem (by omega)];rfl
theorem Awc(W:LW B)(K:AbO B n Alp s₀ g₀)(hA:AOk n A)(e1:env.scope=Alo){as:List Addr}(hl:as.length=8)(hnd:as.Nodup)(h0:∀ a∈as,s₀.heap.get? a=none){i r j:Nat}(hi:i<4)(hr:r<8)(hj:j<r){us:List (List D)}(hq:sq8 us=true)
  (C:OM B s₀ g₀ (Aak env.scope.names) env as (("s",.int (j:Int)) :: ("r",.int (r:Int)) :: rhD i as) us s g) :
  wpAny B.M A (execs [dB 0,dB 1,dB 2] env) (Aln B s₀ g₀ (Aak env.scope.names) env as (("r",.int (r:Int)) :: rhD i as) (AzK (AzK us r j (.int (Alq (r - j):Int))) j r (.int (Alq (r - j):Int))) s g) (fun _ _=>False) s:=by
 have hj8:j<8:=Nat.lt_trans hj hr;have q:=AxL hq hr;have q':=AxL hq hj8;refine Aab (AoF hl hr) fun ar har hir=>?_;refine Aab (AoF hl hj8) fun aj haj hij=>?_;refine Ack (xs:=[dB 0]) (wpAny_mono (OM.ex (k:=16) (m:=8) (T:=Alp) (ρ':=("depth",.int (Alq (r - j):Int)) :: ("s",.int (j:Int)) :: ("r",.int (r:Int)) :: rhD i as) W.O K hA C ?_) (fun f s1 h1=>?_) fun _ _ h=>h.elim)
 ·rw[e1];exact AcE (d:=.int (Alq (r - j):Int)) rfl rfl (.inl rfl) (AzJ hi hr hj _) (by kernel_rfl!) (Ab4 rfl)
 refine Aaz h1 fun z h2=>?_;subst z;refine Aab h2 fun g1 l1 C1=>?_;refine wpAny_execs_cons (wpAny_mono (OM.store (k:=16) (T:=Alp) (r:=r) (d:=.int (Alq (r - j):Int)) (a:=ar) (j:=(j:Int)) W.O K hA C1 hnd h0 (by rw[q.1,hl]) ACM rfl (by rw[e1];exact Aai rfl) (by rw[e1];exact AaK rfl rfl (Aai rfl) (Aai rfl) hir) (by rw[e1];exact Aai rfl) har (Int.natCast_nonneg j) (by omega) (by rw[q.2];exact hj8)) (fun f s2 h3=>?_) fun _ _ h=>h.elim);refine Aaz h3 fun z h4=>?_;subst z;refine Aab h4 fun g2 l2 C2=>?_;refine wpAny_execs_cons (wpAny_mono (OM.store (k:=16) (T:=Alp) (r:=j) (d:=.int (Alq (r - j):Int)) (a:=aj) (j:=(r:Int)) W.O K hA C2 hnd h0 (by rw[List.length_set,q.1,hl]) ACN rfl (by rw[e1];exact Aai rfl) (by rw[e1];exact AaK rfl rfl (Aai rfl) (Aai rfl) hij) (by rw[e1];exact Aai rfl) haj (Int.natCast_nonneg r) (by omega) (by show r<((AzK us r j _).getD j []).length;rw[Awb,q'.2];exact hr)) (fun f s3 h5=>?_) fun _ _ h=>h.elim);refine Aaz h5 fun z h6=>?_;subst z;refine Aab h6 fun g3 l3 C3=>?_;refine wpAny_execs_nil ⟨rfl,g3,(l1.trans l2).trans l3,C3.weaken fun x d hx=>?_⟩;have hne:x≠"depth"∧x≠"s":=by
  refine⟨?_,?_⟩ <;>
  ·intro e;subst e;exact Aah (show(none:Option D)=some d from hx)
 rw[Aaf,if_neg hne.1,Aaf,if_neg hne.2];exact hx
theorem Acm(n:Nat)(h:n≤1000000):AbK (.rng 0 (n:Int))=some (AmP n):=by
 refine(if_pos ⟨by decide,by decide,by omega,by omega⟩).trans ?_;rw[Int.sub_zero,Int.toNat_natCast];have gen:∀ (k:Nat) (a:Nat),AeP (a:Int) k=(List.range' a k).map fun (j:Nat)=>D.int (j:Int):=fun k=>by
  induction k with
  |zero=>exact fun _=>rfl
  |succ k ih=>intro a;exact congrArg (D.int (a:Int) :: ·) (ih (a+1))
 unfold AmP;rw[List.range_eq_range'];exact congrArg some (gen n 0)
theorem Amv(ρ:Rho)(d:D):Acy (Aak Alo.names) Alo (AaG (dS 1)) d ρ=some ((("r":Str),d) :: ρ):=by kernel_rfl!
theorem Amw(ρ:Rho)(d:D):Acy (Aak Alo.names) Alo (AaG dF) d ρ=some ((("s":Str),d) :: ρ):=by kernel_rfl!
theorem Awd:Abu (iterOf (dS 1))=true:=by kernel_rfl!
theorem Awe:Abu (iterOf dF)=true:=by kernel_rfl!
theorem Awf:Abu (gC dLC).iter=true:=by kernel_rfl!
theorem Atz(W:LW B)(K:AbO B n Alp s₀ g₀)(hA:AOk n A)(e1:env.scope=Alo){as:List Addr}(hl:as.length=8)(hnd:as.Nodup)(h0:∀ a∈as,s₀.heap.get? a=none){i r:Nat}(hi:i<4)(hr:r<8){us us':List (List D)}(hf:(AmP r).foldlM (fun us d=>nxI r d us) us=some us')
  (C:OM B s₀ g₀ (Aak env.scope.names) env as (("r",.int (r:Int)) :: rhD i as) us s g) :
  wpAny B.M A (execs [dF] env) (Aln B s₀ g₀ (Aak env.scope.names) env as (rhD i as) us' s g) (fun _ _=>False) s:=by
 refine wpAny_execs_cons (wpAny_mono (OM.stFor (k:=16) (T:=Alp) (xv:=.rng 0 (r:Int)) W.O K hA (fun _=>(("r":Str),D.int (r:Int)) :: rhD i as) id (fun d us=>nxI r d us) AEJ Awe (fun d x x' ρ₁ s g hx hb C=>?_) (fun d x x' hx=>⟨_,by rw[e1];exact Amw _ d⟩) h0 C ?_ (Acm r (by omega)) hf) (fun f s1 h1=>?_) fun _ _ h=>h.elim)
 ·refine Aab (Aap hx) fun j q hx=>?_;subst q;refine Aaz (Abg hx) fun hc hx=>?_;rw[e1,Amw] at hb;rw[← sj hx];rw[← sj hb,show j=((j.toNat:Nat):Int) from(Int.toNat_of_nonneg hc.1).symm] at C;exact Awc W K hA e1 hl hnd h0 hi hr hc.2.1 hc.2.2 C
 ·rw[e1];exact Abs rfl (Aax rfl (Aai rfl) (Aam rfl)) rfl
 ·refine Aaz h1 fun z h2=>?_;subst z;refine Aab h2 fun g1 l1 C1=>?_;refine wpAny_execs_nil ⟨rfl,g1,l1,C1.weaken fun x d hx=>?_⟩;have hne:x≠"r":=by intro e;subst e;exact Aah (show(none:Option D)=some d from hx)
  rw[Aaf,if_neg hne];exact hx
theorem AoG{g:Gh}:∀ {as:List Addr} {vs:List Value},Aar g vs (as.map fun a=>D.val (.ref a))→vs=as.map Value.ref
 |[],vs,h=>by induction h using Aar.nilE;rfl
 |a :: as,vs,h=>by
  induction h using Aar.consE with|cons h1 h2=>?_
  induction h1 using Den.valE;rw[AoG h2];rfl
theorem AtA{g:Gh}{vs:List Value}(h:Aar g vs [D.int 3]):Aar (fun _=>none) vs [D.int 3]:=by
 induction h using Aar.consE with|cons h1 h=>?_
 induction h using Aar.nilE;induction h1 using Den.intE;exact .cons .int .nil
theorem AzL(σ:Rho):AaW (Aak (Acs dLC).names) (Aaw (Acs dLC) Alo) (fun _ _=>none) (gC dLC).target [] AzF (Aa7 (Acs dLC) []) (AmP 8) 0=some 8:=by kernel_rfl!
theorem Awg(a b:D):Aa7 (Acs dLC) [("above",a),("told",b)]=[]:=by kernel_rfl!
theorem AzM{i:Nat}(hi:i<8):us0.getD i []=(List.replicate 8 [D.int 3]).flatten:=by unfold us0;rw[List.getD_eq_getElem?_getD,List.getElem?_replicate,if_pos hi];rfl
theorem AtB(W:LW B){i:Nat}(hi:i<4):Abw B (m+2) (.ref AaF) (ADE i):=by
 have D0:=(Ag3 W.G);refine Aab D0.obj fun o ho hdat=>?_;refine⟨.inr (.inr ⟨_,o,_,rfl,ho,hdat⟩),fun A s g vs ds r hA I hd hr=>?_⟩;unfold ADE at hr;refine Aaz (AAI hr) fun he hr'=>?_
 cases hr';subst he
 refine AhF W.O D0 hA I hd rfl fun env s1 e1 e2 e3 F=>?_;have hA':AOk (m+1) (A.deeper env):=hA.deeper;rw[Aci] at e1;rw[Aci,show(Aad (nth AbC))=env.scope from e1.symm] at F;have F:Fm B s g (Aak env.scope.names) env [("above",.int (Abk i).length),("told",Alr i)] s1 g:=F;have K:AbO B (m+1) Alp s g:=AbN W (AaL (al Aj5 (al (An9 W.O) (al (Ach W.O) an)))) s g I;rw[show Aac (nth AbC)=[dS 0,dS 1,dS 2] from Av9];refine wpAny_execs_cons ?_;rw[ACK];refine wpAny_mono (AeA W.O hA'.handled (pe:=firstIterPos [⟨(gC dLC).target,(gC dLC).iter,[],0⟩] dLC.pos) ⟨_,rfl⟩ rfl (fun _=>rfl)
  (AzG (n:=m+1) (m:=8) (c:=(List.replicate 8 [D.int 3]).flatten) (x:=.rng 0 8) W.O hA' Awf (by rw[e1];exact ACO) ?_ (Acm 8 (by decide)) (fun s3 g3 cenv x3 hsc ρ' s4 g4 _ F4 Q E hq=>Atx (k:=8) (c:=[.int 3]) (m:=8) W.O (K.step x3) hA' AzH ?_ ?_ (by decide) (by decide) (fun _ _ h=>AtA h) F4 hq) (by rw[e1,Awg];exact AzL [])) (by rw[e1];kernel_rfl!) F) (fun f s2 h=>?_) fun _ _ h=>h.elim
 ·exact(AaD W.O K hA' 8).1 _ env _ _ _ _ _ (by rw[e1];exact Abs rfl (Aax rfl (Aaa rfl rfl) (Aam rfl)) rfl) F
 ·exact AgO rfl (Aax rfl (Aaa rfl rfl) (Aam rfl)) (by decide)
 ·exact Aaa rfl rfl
 refine Akr h fun g2 d hP l2 z F2=>?_;subst z;refine Aht hP fun as q1 hl hnd q4=>?_;subst q1;have h0:∀ a∈as,s.heap.get? a=none:=fun a ha=>F.st.ext.dead (q4 a ha).1;have C2:OM B s g (Aak env.scope.names) env as (rhD i as) us0 s2 g2:=⟨F2,fun j a hj=>by
  refine Aab (q4 a (List.mem_of_getElem? hj)).2.2 fun vs t1 t2=>⟨vs,t1,?_⟩;rw[AzM (by rw[← hl];exact(List.getElem?_eq_some_iff.mp hj).1)];exact t2.mono fun _ _ h=>Aah h,fun a ha=>(q4 a ha).2.1⟩
 dsimp only;refine wpAny_execs_cons (wpAny_mono (OM.stFor (k:=16) (T:=Alp) (xv:=.rng 0 8) W.O K hA' (fun _=>rhD i as) id (fun d us=>nxO d us) ACL Awd (fun d x x' ρ₁ s g hx hb C=>?_) (fun d x x' hx=>⟨_,by rw[e1];exact Amv _ d⟩) h0 C2 ?_ (Acm 8 (by decide)) Awa) (fun f s3 h3=>?_) fun _ _ h=>h.elim)
 ·refine Aab (Aap hx) fun j q hx=>?_;subst q;refine Aaz (Abg hx) fun hc hx=>?_;rw[e1,Amv] at hb;rw[← sj hb,show j=((j.toNat:Nat):Int) from(Int.toNat_of_nonneg hc.1).symm] at C;exact Atz W K hA' e1 hl hnd h0 hi hc.2 hx C
 ·rw[e1];exact Abs rfl (Aax rfl (Aaa rfl rfl) (Aam rfl)) rfl
 refine Aaz h3 fun z h4=>?_;subst z;refine Aab h4 fun g3 l3 C3=>?_;dsimp only;refine wpAny_execs_cons ?_;rw[show dS 2=.Return (some (.Name "depths" (Aat (dS 2)).pos)) (Abf (dS 2)) by kernel_rfl!];refine wpAny_Return_some ((C3.F.name (x:="depths") rfl rfl).use fun v s5 g5 x5 hv=>?_);have C5:=C3.step x5;refine Adc (AoE C5.F.st hnd (fun a ha=>⟨h0 a ha,C5.nog a ha⟩) C5.has (by rw[hl];rfl)) fun g6 x6 le6 hd6=>?_;refine⟨g6,x6,?_⟩;induction hv using Den.listE with|list t1 t2=>?_
 refine .list (le6 _ _ t1) ?_;have hvs:=AoG t2;rw[hvs];exact hd6
end
end Mine
namespace Mine
open PySem PySem.W PyProof.Rows PySem.W.X PySem.Calls
theorem AFz{z:Int}(h0:0≤z)(h:z.natAbs<2 ^ 40):(AyZ z 8).isSome=true:=by
 unfold AyZ;dsimp only;have hb:Builtin.Int.intBits z≤40∧z<2 ^ Builtin.Int.intBits z:=by
  unfold Builtin.Int.intBits
  by_cases hz:z=0
  ·subst hz;exact⟨by decide,by decide⟩
  ·rw[if_neg (by simpa using hz)];have hn:z.natAbs≠0:=fun e=>hz (Int.natAbs_eq_zero.mp e);refine⟨(Nat.log2_lt hn).mpr h,?_⟩;have h1:=Nat.lt_log2_self (n:=z.natAbs);rw[← Int.natAbs_of_nonneg h0]
   exact_mod_cast h1
 have h8:Builtin.Int.intBits 8=4:=by decide
 rw[h8];unfold Aor;generalize Builtin.Int.intBits z=b at hb;have hk:=(by decide +kernel:∀ b:Nat,b<41→((((b:Nat):Int)+((4:Nat):Int) - 1).fdiv ((4:Nat):Int)).toNat≤10∧b≤4*((((b:Nat):Int)+((4:Nat):Int) - 1).fdiv ((4:Nat):Int)).toNat) b (Nat.lt_succ_of_le hb.1);generalize ((((b:Nat):Int)+((4:Nat):Int) - 1).fdiv ((4:Nat):Int)).toNat=k at hk;rw[if_pos ⟨h0,by decide,by decide,by decide,by decide,by decide,by omega,by omega,Int.lt_of_lt_of_le hb.2 (by exact_mod_cast Nat.pow_le_pow_right (by decide) hk.2)⟩];rfl
theorem AFA{w:Int}(h:w.natAbs<2 ^ 40):idmD [.int w,.int 8]=some (.tup [.int (w.fdiv 8),.int (w.fmod 8)]):=by
 show AAG w 8=_;unfold AAG;dsimp only;simp only[show ¬ (8:Int)<0 from by decide,if_false];refine if_pos ⟨by decide,?_⟩
 by_cases hw:w<0
 ·rw[if_pos hw,AeJ];exact AFz (Int.le_sub_one_of_lt (Int.neg_pos_of_neg hw)) (Nat.lt_trans (Int.ofNat_lt.mp (by rw[Int.natAbs_of_nonneg (Int.le_sub_one_of_lt (Int.neg_pos_of_neg hw)),Int.ofNat_natAbs_of_nonpos (Int.le_of_lt hw)];exact Int.sub_lt_self _ (by decide))) h)
 ·rw[if_neg hw];exact AFz (Int.not_lt.mp hw) h
noncomputable def vE:Expr:=Aat (((Aac (nth Abd))[0]?).getD AbJ)
noncomputable def vR:Expr:=AlA vE
noncomputable def vL:Expr:=AlA vR
theorem Awh:Aac (nth Abd)=[.Return (some (.Call (.Name "int_divmod" (Acw vE)) [vR,AeU 1 vE] [] vE.pos)) (Abf (((Aac (nth Abd))[0]?).getD AbJ))]:=by kernel_rfl!
theorem AEK:vR=.Call (.Name "reduce" (Acw vR)) [.Lambda (AbI vL) (lamBody vL) (Acs vL) vL.pos,AeU 1 vR,AeU 2 vR] [] vR.pos:=by kernel_rfl!
theorem Aho:Abt vR=true∧Abt (AeU 1 vE)=true∧Abt (AeU 1 vR)=true∧Abt (AeU 2 vR)=true:=⟨by kernel_rfl!,by kernel_rfl!,by kernel_rfl!,by kernel_rfl!⟩
theorem AqR:∀ (fd:FuncData) (a b:Value),fd.params=AbI vL→fd.defaults=.none→fd.kwdefaults=.none→bindArgs fd ⟨[a,b],[]⟩=pure [(("worth":Str),a),("part",b)]:=by
 intro q1;obtain⟨nm,qn,pr,bd,sc,gl,cl,df,kd,dc,pm,an,cd,ct,bt⟩:=q1;intro a b h1 h2 h3;simp only at h1 h2 h3;subst h1 h2 h3
 kernel_rfl!
theorem AtC:AhI (AbI vL) ["worth","part"]:=fun fd vs e1 e2 e3 e4=>L2 (P:=fun vs=>bindArgs fd ⟨vs,[]⟩=pure ([("worth":Str),"part"].zip vs)) e4 fun u v=>AqR fd u v e1 e2 e3
theorem ACQ:Ac4 (Acs vL) ["worth","part"]=true:=by kernel_rfl!
theorem AzN:Ads (Acs vL) s_law_divided=true:=by kernel_rfl!
theorem Awi(env:Env):defaultsOf (AbI vL) env=([],[]):=by kernel_rfl!
theorem ACR:Ac8 vL.pos.line vL.pos.col = "_law_divided.<locals>.<lambda>":=by kernel_rfl!
theorem ACS(p:Params):(Aaj p Aas).qualname = "_law_divided":=by kernel_rfl!
theorem ACT(p:Params):(tabsL.any fun q=>(Aaj p Aas).code == .ref q.1)=true:=by kernel_rfl!
theorem Awj(x row:D):Aa7 (Acs vL) [("x",x),("row",row)]=[(("x":Str),x)]:=by kernel_rfl!
noncomputable def T_v:Tb:=mkL (AcY [])
theorem AEL{w x c:Int}{M:Nat}(hw:w.natAbs≤M)(hx:x.natAbs≤20)(hc:c.natAbs≤4):(w*x+c).natAbs≤M*20+4:=
 Nat.le_trans (Int.natAbs_add_le _ _) (Nat.add_le_add (by rw[Int.natAbs_mul];exact Nat.mul_le_mul hw hx) hc)
theorem Awk{w x c:Int}(hw:w.natAbs<2 ^ 64)(hx:x.natAbs<2 ^ 64):Aq6 T_v 8 (Acs vL) "worth" "part" (lamBody vL) [("x",.int x)] [.int w,.int c]=some (.int (w*x+c)):=by refine(if_pos rfl).trans ?_;exact Aa6 rfl (Aa6 rfl (Aai rfl) (Aai rfl) (AsD ⟨hw,hx⟩)) (Aai rfl) rfl
noncomputable def small(c:Int):Bool:=decide (c.natAbs≤4)
noncomputable def AfP(x:Int)(cs:List Int):Int:=cs.foldl (fun w c=>w*x+c) 0
theorem Ajc{x:Int}(hx:x.natAbs≤20):∀ (cs:List Int) (w:Int) (M:Nat),(∀ c∈cs,c.natAbs≤4)→w.natAbs≤M→M*21 ^ cs.length+4*21 ^ cs.length<2 ^ 40 →
  Anr (Aq6 T_v 8 (Acs vL) "worth" "part" (lamBody vL) [("x",.int x)]) (.int w) (cs.map D.int)=some (.int (cs.foldl (fun w c=>w*x+c) w))∧(cs.foldl (fun w c=>w*x+c) w).natAbs<2 ^ 40
 |[],w,M,_,hw,hM=>⟨rfl,by simp at hM ⊢;omega⟩
 |c :: cs,w,M,hc,hw,hM=>by
  have h1:=AEL hw hx (hc c (.head _));rw[List.length_cons,Nat.pow_succ] at hM;have hp:1≤21 ^ cs.length:=Nat.one_le_pow _ _ (by decide);have hM':M≤M*(21 ^ cs.length*21):=Nat.le_mul_of_pos_right _ (Nat.mul_pos hp (by decide));have ih:=Ajc hx cs (w*x+c) (M*20+4) (fun c hc'=>hc c (.tail _ hc')) h1 (by
   refine Nat.lt_of_le_of_lt ?_ hM;generalize 21 ^ cs.length=P;have:(M*20+4)*P=M*P*20+4*P:=by rw[Nat.add_mul,Nat.mul_right_comm]
   have e2:M*(P*21)=M*P*21:=(Nat.mul_assoc ..).symm;rw[this,e2];generalize M*P=Q;rw[Nat.add_assoc,← Nat.mul_add,← Nat.mul_two];exact Nat.add_le_add (Nat.mul_le_mul_left _ (by decide)) (Nat.mul_le_mul_left _ (Nat.mul_le_mul_left _ (by decide))))
  refine⟨Aan (Awk (Nat.lt_of_le_of_lt hw (Nat.lt_of_le_of_lt (Nat.le_trans hM' (Nat.le_add_right _ _)) (Nat.lt_trans hM (by decide)))) (Nat.lt_of_le_of_lt hx (by decide))) ih.1,ih.2⟩
noncomputable def dividedD:List D→Option D:=fn2 fun a b=>Acx a fun l=>Acf b fun x=>(Ab2 l).bind fun cs=>
 if cs.length=5∧cs.all small=true∧x.natAbs≤20 then some (.tup [.int ((AfP x cs.reverse).fdiv 8),.int ((AfP x cs.reverse).fmod 8)]) else none
theorem AtD{l:List D}(h:l.length=5):Afs (.list l) none none (some (-1))=some (.list l.reverse):=by
 match l,h with
 |[a,b,c,d,e],_=>kernel_rfl!
section
variable{B:Bs}{m:Nat}
theorem AqS(W:LW B):Abw B (m+16) (.ref Aas) dividedD:=by
 have D0:=(Agg W.G);refine Aab D0.obj fun o ho hdat=>?_;refine⟨.inr (.inr ⟨_,o,_,rfl,ho,hdat⟩),fun A s g vs ds r hA I hd hr=>?_⟩;refine Ad9 (AgH hr) fun a b q1 hr=>?_;subst q1;refine Aab (AaT hr) fun l q1 hr=>?_;subst q1;refine Aab (Aap hr) fun x q1 hr=>?_;subst q1;refine Aab (Aag hr) fun cs hcs hr=>?_;refine Aaz (Abg hr) fun hc hr=>?_;have hr:=sj hr;subst hr;have hl:=Ags hcs;have hlen:l.length=5:=by rw[hl,List.length_map];exact hc.1
 have hbound:∀ c∈cs.reverse,c.natAbs≤4:=fun c h=>of_decide_eq_true (List.all_eq_true.mp hc.2.1 c (List.mem_reverse.mp h));have HF:=Ajc hc.2.2 cs.reverse 0 0 hbound (Nat.le_refl 0) (by rw[List.length_reverse,hc.1];decide);refine AhF W.O D0 hA I hd rfl fun env s1 e1 e2 e3 F=>?_;have hA':AOk (m+15) (A.deeper env):=hA.deeper;rw[Ab8] at e1;rw[Ab8,show(Aad (nth Abd))=env.scope from e1.symm] at F;have F:Fm B s g (Aak env.scope.names) env [("x",.int x),("row",.list l)] s1 g:=F;have e1:env.scope=s_law_divided:=e1;have K:∀ m,AbO B m T_v s g:=fun m=>AbN W (AaL fun p hp=>by cases hp) s g I;rw[Awh];refine Ad9 (Afi (a:=Aas) W (ACT B.w.params)) fun c P hcd hmem=>?_;refine wpAny_execs_cons (wpAny_Return_some (wpAny_Call_NameR ((F.gname W.O (x:="int_divmod") (v:=.ref Ac6) (by unfold Env.kindOf;rw[e1];kernel_rfl!) (Abr W "int_divmod" _ rfl) rfl).use fun fv s2 g2 x2 hf=>?_)));subst hf;have F2:=F.step x2;rw[AaC (es:=[vR,AeU 1 vE]) (by
  intro e he;simp only[List.mem_cons,List.not_mem_nil,or_false] at he
  rcases he with rfl|rfl
  ·exact Aho.1
  ·exact Aho.2.1)]
 have hred:Aaq B (A.deeper env) s2 g2 (eval vR env) fun g' v=>Den g' v (.int (AfP x cs.reverse)):=by
  rw[AEK];refine AnG (n:=m+13) (T:=T_v) (k:=8) (kl:=8) (sq:=.list l.reverse) (init:=.int 0) (items:=l.reverse) W (K _) hA' F2 (e2.trans hcd) hmem ?_ (Awi env) AtC ACQ (by rw[e1];exact AzN) (by rw[e1];kernel_rfl!) ?_ ?_ Aho.2.2.1 Aho.2.2.2 rfl rfl ?_
  ·rw[e3,ACS];exact ACR
  ·rw[e1];exact AdX rfl (Aai rfl) (AbS rfl) (AbS rfl) (AeX rfl (Asx rfl (Aaa rfl rfl) rfl)) (AtD hlen)
  ·exact Aaa rfl rfl
  ·rw[Awj,hl,← List.map_reverse];exact HF.1
 refine wpAny_mono (Ab1 (P:=fun g' vs=>Aar g' vs [.int (AfP x cs.reverse),.int 8]) (P':=fun g' v=>Den g' v (.tup [.int ((AfP x cs.reverse).fdiv 8),.int ((AfP x cs.reverse).fmod 8)])) (((AsT (m:=0) W).at F2.inv).kp) (by simp)
  (Calls.spliced_cons (hred.use fun v3 s3 g3 x3 hv3=>Calls.spliced_cons (((AaD W.O (K (m+15)) hA' 8).1 _ env _ _ (.int 8) _ _ (Aaa rfl rfl) (F2.step x3)).use fun v4 s4 g4 x4 hv4=>wpAny_pure ⟨g4,x3.trans x4,.cons (hv3.mono x4.le) (.cons hv4 .nil)⟩))) fun us s4 g4 x4 hus=>?_) (fun v s5 h=>?_) fun _ _ h=>h
 ·exact(AsT (m:=m+1) W).run _ s4 g4 us _ _ hA' x4.inv hus (AFA HF.2)
 ·refine Aab h fun g5 x5 hv=>⟨g5,(F2.st).trans x5,hv⟩
end
noncomputable def Amx(c0 c1 c2 c3 r:Nat):Nat:=(c0+c1*r+c2*(r*(r - 1))+c3*(r*(r - 1)*(r - 2))) % 8
noncomputable def R8:List Nat:=[0,1,2,3,4,5,6,7]
noncomputable def gl(c0 c1 c2 c3:Nat):List Nat:=R8.map (Amx c0 c1 c2 c3)
noncomputable def atN(l:List Nat)(r:Nat):Nat:=l.getD r 0
noncomputable def AFB:List (List Nat):=R8.map fun r=>R8.map (Amu r)
noncomputable def dAt(r s:Nat):Nat:=atN (AFB.getD r []) s
noncomputable def AjY(c1 c2 c3:Nat):Bool:=Nat.beq (c1 % 2) 1 && (Nat.beq (c2 % 2) 0 && Nat.beq (c3 % 2) 0)
noncomputable def AfQ(c0 c1 c2 c3:Nat):Bool:=Nat.beq (c0 % 2) 1 && (Nat.beq (c1 % 4) 1 && (Nat.beq (c2 % 2) 0 && Nat.beq (c3 % 4) 0))
noncomputable def low(r:Nat):List Nat:=List.range r
noncomputable def AF6(l:List Nat)(t:Bool):Bool:=
 R8.all (fun r=>(low r).all fun s=>Nat.ble (dAt r s) (dAt (atN l r) (atN l s))) && (R8.all (fun r=>(low r).all fun s=>Nat.beq (dAt r s) (dAt (atN l r) (atN l s))) == t)
noncomputable def AtE(l:List Nat):List Nat:=l.map (atN l)
noncomputable def AF7(l:List Nat)(t:Bool):Bool:=(R8.all fun r=>Nat.beq (atN (AtE (AtE (AtE l))) r) r) == t
noncomputable def AqT(l:List Nat):Nat→Nat→List Nat
 |0,_=>[]
 |n+1,x=>x :: AqT l n (atN l x)
noncomputable def ADF(x:Nat):List Nat→List Nat
 |[]=>[x]
 |y :: l=>cond (Nat.ble x y) (x :: y :: l) (y :: ADF x l)
noncomputable def Awl:List Nat→List Nat
 |[]=>[]
 |x :: l=>ADF x (Awl l)
noncomputable def AF8(l:List Nat)(t:Bool):Bool:=R8.all fun st=>let o:=AqT l 8 st;cond t (Awl o == R8 && R8.all fun k=>(low k).all fun m=>Nat.beq (dAt (atN o k) (atN o m)) (Alq (k - m))) (R8.any fun j=>!(o.any fun x=>Nat.beq x j))
noncomputable def Abn(x:Nat):Nat:=atN [0,4,2,6,1,5,3,7] x
noncomputable def an1(l:List Nat)(i j:Nat):Bool:=Nat.blt (Abn (atN l i)) (Abn (atN l j))
noncomputable def an2(l:List Nat)(i j:Nat):Bool:=cond (Nat.beq (Abn (atN l i)) (Abn (atN l j))) (Nat.blt i j) (Nat.blt (Abn (atN l i)) (Abn (atN l j)))
noncomputable def AFC(x y:Option (Array Nat)):Bool:=x.elim false fun p=>y.elim false fun q=>p.toList == q.toList && (Nat.ble p.toList.length 8 && p.toList.all fun i=>Nat.blt i 8)
noncomputable def AFD(l:List Nat):Bool:=AFC (kgo (an1 l) 8 (kas_sort 8)) (kgo (an2 l) 8 (kas_sort 8))
noncomputable def chk(c0 c1 c2 c3:Nat):Bool:=let l:=gl c0 c1 c2 c3;AF6 l (AjY c1 c2 c3) && (AF7 l (AjY c1 c2 c3) && (AF8 l (AfQ c0 c1 c2 c3) && AFD l))
noncomputable def AeL(c0:Nat):Bool:=R8.all fun c1=>(List.range 4).all fun c2=>(List.range 4).all fun c3=>chk c0 c1 c2 c3
theorem ck0:AeL 0=true:=by kernel_rfl
theorem ck1:AeL 1=true:=by kernel_rfl
theorem ck2:AeL 2=true:=by kernel_rfl
theorem ck3:AeL 3=true:=by kernel_rfl
theorem ck4:AeL 4=true:=by kernel_rfl
theorem ck5:AeL 5=true:=by kernel_rfl
theorem ck6:AeL 6=true:=by kernel_rfl
theorem ck7:AeL 7=true:=by kernel_rfl
theorem AtF(x:Nat)(l:List Nat):(ADF x l).Perm (x :: l):=by
 induction l with
 |nil=>exact .refl _
 |cons y l ih=>
  show(cond (Nat.ble x y) (x :: y :: l) (y :: ADF x l)).Perm (x :: y :: l)
  cases Nat.ble x y with
  |true=>exact .refl _
  |false=>exact(ih.cons y).trans (.swap x y l)
theorem AqU(l:List Nat):(Awl l).Perm l:=by
 induction l with
 |nil=>exact .refl _
 |cons x l ih=>exact(AtF x _).trans (ih.cons x)
theorem AmQ{p:Nat→Bool}(h:R8.all p=true){i:Nat}(hi:i<8):p i=true:=List.all_eq_true.mp h i (List.mem_range.mpr hi)
theorem AzO:R8.all AeL=true:=by show(AeL 0 && (AeL 1 && (AeL 2 && (AeL 3 && (AeL 4 && (AeL 5 && (AeL 6 && (AeL 7 && true))))))))=true;rw[ck0,ck1,ck2,ck3,ck4,ck5,ck6,ck7];rfl
theorem ACU{c0 c1 c2 c3:Nat}(h0:c0<8)(h1:c1<8)(h2:c2<4)(h3:c3<4):chk c0 c1 c2 c3=true:=Ajb (Ajb (AmQ (AmQ AzO h0) h1) h2) h3
structure Row5 where
 a0:Int
 a1:Int
 a2:Int
 a3:Int
 a4:Int
noncomputable def Row5.l(a:Row5):List Int:=[a.a0,a.a1,a.a2,a.a3,a.a4]
noncomputable def Row5.c0(a:Row5):Nat:=(a.a0 % 8).toNat
noncomputable def Row5.c1(a:Row5):Nat:=((a.a1+a.a2+a.a3+a.a4) % 8).toNat
noncomputable def Row5.c2(a:Row5):Nat:=((a.a2+3*a.a3+7*a.a4) % 4).toNat
noncomputable def Row5.c3(a:Row5):Nat:=((a.a3+6*a.a4) % 4).toNat
noncomputable def Row5.w(a:Row5)(x:Int):Int:=AfP x a.l.reverse
theorem ADG(a:Row5)(x:Int):a.w x=((((0*x+a.a4)*x+a.a3)*x+a.a2)*x+a.a1)*x+a.a0:=rfl
theorem AEM(a:Row5)(x:Int):a.a0*x ^ 0+(a.a1*x ^ 1+(a.a2*x ^ 2+(a.a3*x ^ 3+(a.a4*x ^ 4+0))))=a.w x:=by rw[ADG];grind
theorem ACV(a:Row5)(x:Int):a.w x=a.a0+(a.a1+a.a2+a.a3+a.a4)*x+(a.a2+3*a.a3+7*a.a4)*(x*(x - 1))+(a.a3+6*a.a4)*(x*(x - 1)*(x - 2))+a.a4*(x*(x - 1)*(x - 2)*(x - 3)):=by rw[ADG];grind
theorem hm{p p' x y c:Int}(h1:p % 8=p' % 8)(h2:x % 8=y % 8):(p*x+c) % 8=(p'*y+c) % 8:=by rw[Int.add_emod,Int.mul_emod,h1,h2,← Int.mul_emod,← Int.add_emod]
theorem AEN(a:Row5){x y:Int}(h:x % 8=y % 8):a.w x % 8=a.w y % 8:=by rw[ADG,ADG];exact hm (hm (hm (hm (hm rfl h) h) h) h) h
theorem AzP(A0 A1 A2 A3 A4 f1 g2 g3 g4:Int):(A0+A1*f1+A2*(2*g2)+A3*(2*g3)+A4*(8*g4)) % 8=(A0 % 8+A1 % 8*f1+A2 % 4*(2*g2)+A3 % 4*(2*g3)) % 8:=by
 have e0:=Int.emod_add_mul_ediv A0 8;have e1:=Int.emod_add_mul_ediv A1 8;have e2:=Int.emod_add_mul_ediv A2 4;have e3:=Int.emod_add_mul_ediv A3 4;generalize A0 % 8=r0,A1 % 8=r1,A2 % 4=r2,A3 % 4=r3,A0 / 8=q0,A1 / 8=q1,A2 / 4=q2,A3 / 4=q3 at *;have:A0+A1*f1+A2*(2*g2)+A3*(2*g3)+A4*(8*g4)=(r0+r1*f1+r2*(2*g2)+r3*(2*g3))+8*(q0+q1*f1+q2*g2+q3*g3+A4*g4):=by subst e0;subst e1;subst e2;subst e3;grind
 rw[this,Int.add_mul_emod_self_left]
noncomputable def g2N(r:Nat):Nat:=atN [0,0,1,3,6,10,15,21] r
noncomputable def g3N(r:Nat):Nat:=atN [0,0,0,3,12,30,60,105] r
noncomputable def g4N(r:Nat):Nat:=atN [0,0,0,0,3,15,45,105] r
theorem AEO:∀ r:Nat,r<8→((r:Int)*((r:Int) - 1)=2*(g2N r:Int)∧(r:Int)*((r:Int) - 1)*((r:Int) - 2)=2*(g3N r:Int)∧(r:Int)*((r:Int) - 1)*((r:Int) - 2)*((r:Int) - 3)=8*(g4N r:Int))∧r*(r - 1)=2*g2N r∧r*(r - 1)*(r - 2)=2*g3N r:=by decide +kernel
theorem AzQ(a:Row5){r:Nat}(hr:r<8):a.w (r:Int) % 8=(Amx a.c0 a.c1 a.c2 a.c3 r:Int):=by
 refine Ahs (AEO r hr) fun h1 h2 h3=>?_;rw[ACV,h1.2.2,h1.2.1,h1.1,AzP];unfold Amx;rw[h3,h2];unfold Row5.c0 Row5.c1 Row5.c2 Row5.c3
 push_cast
 rw[Int.toNat_of_nonneg (Int.emod_nonneg _ (by decide)),Int.toNat_of_nonneg (Int.emod_nonneg _ (by decide)),Int.toNat_of_nonneg (Int.emod_nonneg _ (by decide)),Int.toNat_of_nonneg (Int.emod_nonneg _ (by decide))]
theorem tn(x:Int){m n:Nat}(h:n ∣ m)(hm:0<m):(x % (m:Int)).toNat % n=(x % (n:Int)).toNat:=by rw[← Int.toNat_natCast n,← Int.toNat_emod (Int.emod_nonneg _ (Int.natCast_ne_zero.2 (Nat.pos_iff_ne_zero.1 hm))) (Int.natCast_nonneg n),Int.emod_emod_of_dvd _ (Int.natCast_dvd_natCast.2 h),Int.toNat_natCast]
theorem tlt(x:Int){n:Nat}(h:0<n):(x % (n:Int)).toNat<n:=
 (Int.toNat_lt (Int.emod_nonneg _ (Int.natCast_ne_zero.2 (Nat.pos_iff_ne_zero.1 h)))).2 (Int.emod_lt_of_pos _ (Int.natCast_pos.2 h))
theorem Awm(a:Row5):a.c0<8∧a.c1<8∧a.c2<4∧a.c3<4:=⟨tlt _ (n:=8) (by decide),tlt _ (n:=8) (by decide),tlt _ (n:=4) (by decide),tlt _ (n:=4) (by decide)⟩
noncomputable def Aeq(a:Row5):Bool:=decide (a.a1 % 2=1) && (decide ((a.a2+a.a4) % 2=0) && decide (a.a3 % 2=0))
noncomputable def Acp(a:Row5):Bool:=decide (a.a0 % 2=1) && (decide (a.a1 % 2=1) && (decide ((a.a3 - 2*a.a2) % 4=0) && decide ((a.a4 - a.a1 - a.a2+1) % 4=0)))
theorem ca{n p p' q q':Int}(h:p % n=p' % n)(k:q % n=q' % n):(p+q) % n=(p'+q') % n:=by rw[Int.add_emod,h,k,← Int.add_emod]
theorem cb{n p p' q q':Int}(h:p % n=p' % n)(k:q % n=q' % n):(p - q) % n=(p' - q') % n:=by rw[Int.sub_emod,h,k,← Int.sub_emod]
theorem cm{n p p':Int}(k:Int)(h:p % n=p' % n):(k*p) % n=(k*p') % n:=by rw[Int.mul_emod,h,← Int.mul_emod]
noncomputable def Row5.q(a:Row5):Row5:=⟨a.a0 % 4,a.a1 % 4,a.a2 % 4,a.a3 % 4,a.a4 % 4⟩
theorem q4(x:Int):x % 4=x % 4 % 4:=(Int.emod_emod_of_dvd _ (Int.dvd_refl 4)).symm
theorem q2(x:Int):x % 2=x % 4 % 2:=(Int.emod_emod_of_dvd _ (by decide)).symm
theorem lt4(x:Int):∃ r:Nat,r<4∧x % 4=(r:Int):=⟨(x % 4).toNat,tlt x (n:=4) (by decide),(Int.toNat_of_nonneg (Int.emod_nonneg _ (by decide))).symm⟩
theorem Awn(x1 x2 x3:Int):AjY (x1 % 8).toNat (x2 % 4).toNat (x3 % 4).toNat=(Nat.beq (x1 % 2).toNat 1 && (Nat.beq (x2 % 2).toNat 0 && Nat.beq (x3 % 2).toNat 0)):=by unfold AjY;rw[show(x1 % 8).toNat % 2=(x1 % 2).toNat from tn x1 (m:=8) (n:=2) (by decide) (by decide),show(x2 % 4).toNat % 2=(x2 % 2).toNat from tn x2 (m:=4) (n:=2) (by decide) (by decide),show(x3 % 4).toNat % 2=(x3 % 2).toNat from tn x3 (m:=4) (n:=2) (by decide) (by decide)]
theorem AtG(x0 x1 x2 x3:Int):AfQ (x0 % 8).toNat (x1 % 8).toNat (x2 % 4).toNat (x3 % 4).toNat=(Nat.beq (x0 % 2).toNat 1 && (Nat.beq (x1 % 4).toNat 1 && (Nat.beq (x2 % 2).toNat 0 && Nat.beq (x3 % 4).toNat 0))):=by unfold AfQ;rw[show(x0 % 8).toNat % 2=(x0 % 2).toNat from tn x0 (m:=8) (n:=2) (by decide) (by decide),show(x1 % 8).toNat % 4=(x1 % 4).toNat from tn x1 (m:=8) (n:=4) (by decide) (by decide),show(x2 % 4).toNat % 2=(x2 % 2).toNat from tn x2 (m:=4) (n:=2) (by decide) (by decide),show(x3 % 4).toNat % 4=(x3 % 4).toNat from tn x3 (m:=4) (n:=4) (by decide) (by decide)]
theorem Awo:∀ r0:Nat,r0<4→∀ r1:Nat,r1<4→∀ r2:Nat,r2<4→∀ r3:Nat,r3<4→∀ r4:Nat,r4<4→(AjY (Row5.c1 ⟨r0,r1,r2,r3,r4⟩) (Row5.c2 ⟨r0,r1,r2,r3,r4⟩) (Row5.c3 ⟨r0,r1,r2,r3,r4⟩)=Aeq ⟨r0,r1,r2,r3,r4⟩)∧(AfQ (Row5.c0 ⟨r0,r1,r2,r3,r4⟩) (Row5.c1 ⟨r0,r1,r2,r3,r4⟩) (Row5.c2 ⟨r0,r1,r2,r3,r4⟩) (Row5.c3 ⟨r0,r1,r2,r3,r4⟩)=Acp ⟨r0,r1,r2,r3,r4⟩):=by decide +kernel
theorem ACW(a:Row5):(AjY a.q.c1 a.q.c2 a.q.c3=Aeq a.q)∧(AfQ a.q.c0 a.q.c1 a.q.c2 a.q.c3=Acp a.q):=by unfold Row5.q;refine Aab (lt4 a.a0) fun r0 h0 e0=>Aab (lt4 a.a1) fun r1 h1 e1=>Aab (lt4 a.a2) fun r2 h2 e2=>Aab (lt4 a.a3) fun r3 h3 e3=>Aab (lt4 a.a4) fun r4 h4 e4=>?_;rw[e0,e1,e2,e3,e4];exact Awo r0 h0 r1 h1 r2 h2 r3 h3 r4 h4
theorem AzR(a:Row5):AjY a.c1 a.c2 a.c3=Aeq a:=by have h:AjY a.q.c1 a.q.c2 a.q.c3=Aeq a.q:=(ACW a).1;unfold Aeq Row5.c1 Row5.c2 Row5.c3 at h ⊢;rw[Awn] at h ⊢;rw[ca (ca (ca (q2 a.a1) (q2 a.a2)) (q2 a.a3)) (q2 a.a4),ca (ca (q2 a.a2) (cm 3 (q2 a.a3))) (cm 7 (q2 a.a4)),ca (q2 a.a3) (cm 6 (q2 a.a4)),ca (q2 a.a2) (q2 a.a4),q2 a.a1,q2 a.a3];exact h
theorem Awp(a:Row5):AfQ a.c0 a.c1 a.c2 a.c3=Acp a:=by have h:AfQ a.q.c0 a.q.c1 a.q.c2 a.q.c3=Acp a.q:=(ACW a).2;unfold Acp Row5.c0 Row5.c1 Row5.c2 Row5.c3 at h ⊢;rw[AtG] at h ⊢;rw[ca (ca (ca (q4 a.a1) (q4 a.a2)) (q4 a.a3)) (q4 a.a4),ca (ca (q2 a.a2) (cm 3 (q2 a.a3))) (cm 7 (q2 a.a4)),ca (q4 a.a3) (cm 6 (q4 a.a4)),cb (q4 a.a3) (cm 2 (q4 a.a2)),ca (cb (cb (q4 a.a4) (q4 a.a1)) (q4 a.a2)) (rfl:(1:Int) % 4=1 % 4),q2 a.a0,q2 a.a1];exact h
section
variable{own:List Str}{sc:Scope}{T0:Rho→Expr→Option Bool}{t elt:Expr}{E:Rho→Expr→Option D}{ρ:Rho}{h:Nat→D}{ρ1:Nat→Rho}
theorem AbD{f:Nat→D}:∀ (L:List Nat) (acc:List D),(∀ i∈L,AoY own sc t ρ (h i)=some (ρ1 i)∧E (ρ1 i) elt=some (f i))→acc.length+L.length<1000000→AaW own sc T0 t [] (AgW E own sc elt []) ρ (L.map h) acc=some (acc++L.map f):=by
 intro L;induction L with
 |nil=>intro acc _ _;show some acc=some (acc++[]);rw[List.append_nil]
 |cons i L ih=>
  intro acc hE hl;rw[List.length_cons] at hl;refine Aan (Aan (hE i (.head _)).1 (Aan rfl (AnC (own:=own) (sc:=sc) (hE i (.head _)).2 (by omega)))) ?_;rw[ih (acc++[f i]) (fun j hj=>hE j (.tail _ hj)) (by rw[List.length_append,List.length_singleton];omega),List.append_assoc];rfl
theorem AxM{g2:Comprehension}{M:Nat→List Nat}{h2:Nat→D}{ρ2:Nat→Nat→Rho}{f:Nat→Nat→D}(hg:g2.is_async=0∧Abu g2.iter=true)(hi:g2.ifs=[]):∀ (L:List Nat) (acc:List D),
  (∀ i∈L,AoY own sc t ρ (h i)=some (ρ1 i)∧(E (ρ1 i) g2.iter).bind AbK=some ((M i).map h2)∧∀ j∈M i,AoY own sc g2.target (ρ1 i) (h2 j)=some (ρ2 i j)∧E (ρ2 i j) elt=some (f i j)) →
  acc.length+(L.map fun i=>(M i).length).sum<1000000→AaW own sc T0 t [] (AgW E own sc elt [g2]) ρ (L.map h) acc=some (acc++(L.map fun i=>(M i).map (f i)).flatten):=by
 intro L;induction L with
 |nil=>intro acc _ _;show some acc=some (acc++[]);rw[List.append_nil]
 |cons i L ih=>
  intro acc hE hl;rw[List.map_cons,List.sum_cons] at hl;refine Ahs (hE i (.head _)) fun b1 b2 b3=>?_;refine Aab (Aag b2) fun x e1 e2=>?_;refine Aan (Aan b1 (Aan rfl (show AgW E own sc elt [g2] (ρ1 i) acc=some (acc++(M i).map (f i)) from ift hg (Aan e1 (Aan e2 ?_))))) ?_
  ·rw[hi];exact AbD (M i) acc b3 (by omega)
  ·rw[ih _ (fun j hj=>hE j (.tail _ hj)) (by rw[List.length_append,List.length_map];omega),List.append_assoc];rfl
end
noncomputable def Ad3(k:Nat)(d:D):Prop:=∃ p,pyD d=some p∧p.canLay0=true∧p.depth≤k∧PyData.eqv p p=true
theorem AdD(i:Int):Ad3 0 (.int i):=⟨.int i,rfl,rfl,Nat.le_refl 0,beq_self_eq_true i⟩
theorem AdE{x:Str}(h:PyData.canLay0 (.str x)=true):Ad3 0 (.str x):=⟨.str x,rfl,h,Nat.le_refl 0,beq_self_eq_true x⟩
theorem Ajd{k:Nat}:∀ {l:List D},(∀ d∈l,Ad3 k d)→∃ ps,Auf l=some ps∧PyData.canLayAll0 ps=true∧PyData.depthAll ps≤k∧PyData.eqvAll ps ps=true
 |[],_=>⟨[],by simp only[Auf],by simp only[PyData.canLayAll0],Nat.zero_le _,by simp only[PyData.eqvAll]⟩
 |d :: l,h=>by
  refine Aht (Ajd fun d hd=>h d (.tail _ hd)) fun ps e1 e2 e3 e4=>?_;refine Aht (h d (.head _)) fun p f1 f2 f3 f4=>?_;exact⟨p :: ps,Aan f1 (Aan e1 rfl),by simp only[PyData.canLayAll0,f2,e2,Bool.and_self],by simp only[PyData.depthAll];exact Nat.max_le.mpr ⟨f3,e3⟩,by simp only[PyData.eqvAll,f4,e4,Bool.and_self]⟩
theorem AbY{k:Nat}{l:List D}(h:∀ d∈l,Ad3 k d):Ad3 (k+1) (.list l):=by refine Aht (Ajd h) fun ps e1 e2 e3 e4=>?_;exact⟨.list ps,Aan e1 rfl,by simp only[PyData.canLay0,e2],by simp only[PyData.depth];omega,by simp only[PyData.eqv,e4]⟩
theorem AfR{k:Nat}{l:List D}(h:∀ d∈l,Ad3 k d):Ad3 (k+1) (.tup l):=by refine Aht (Ajd h) fun ps e1 e2 e3 e4=>?_;exact⟨.tuple ps,Aan e1 rfl,by simp only[PyData.canLay0,e2],by simp only[PyData.depth];omega,by simp only[PyData.eqv,e4]⟩
theorem Ad4{k:Nat}{d:D}(h:Ad3 k d)(hk:k≤60):eqD d d=some true:=by refine Aht h fun p e1 e2 e3 e4=>?_;exact Aan e1 (Aan e1 (ift ⟨e2,e2,Nat.le_trans e3 hk⟩ (by rw[e4])))
theorem AnJ:∀ {a:List Str},(∀ x∈a,PyData.canLay0 (.str x)=true)→Auf (a.map D.str)=some (a.map PyData.str)∧PyData.canLayAll0 (a.map PyData.str)=true∧PyData.depthAll (a.map PyData.str)=0
 |[],_=>⟨by simp only[List.map_nil,Auf],by simp only[List.map_nil,PyData.canLayAll0],by simp only[List.map_nil,PyData.depthAll]⟩
 |x :: a,h=>by
  refine Ahs (AnJ fun y hy=>h y (.tail _ hy)) fun e1 e2 e3=>?_;exact⟨Aan rfl (Aan e1 rfl),by simp only[List.map_cons,PyData.canLayAll0,h x (.head _),e2,Bool.and_self],by simp only[List.map_cons,PyData.depthAll,PyData.depth,e3,Nat.max_self]⟩
theorem AoH:∀ (a b:List Str),PyData.eqvAll (a.map PyData.str) (b.map PyData.str)=(a == b)
 |[],[]=>by simp only[List.map_nil,PyData.eqvAll];rfl
 |[],y :: b=>by simp only[List.map_nil,List.map_cons,PyData.eqvAll];rfl
 |x :: a,[]=>by simp only[List.map_nil,List.map_cons,PyData.eqvAll];rfl
 |x :: a,y :: b=>by
  simp only[List.map_cons,PyData.eqvAll,PyData.eqv,AoH a b]
  rfl
theorem AoI{a b:List Str}(ha:∀ x∈a,PyData.canLay0 (.str x)=true)(hb:∀ x∈b,PyData.canLay0 (.str x)=true):eqD (.list (a.map D.str)) (.list (b.map D.str))=some (a == b):=by refine Ahs (AnJ ha) fun e1 e2 e3=>?_;refine Ahs (AnJ hb) fun f1 f2 f3=>?_;exact Aan (Aan e1 rfl) (Aan (Aan f1 rfl) (ift ⟨by simp only[PyData.canLay0,e2],by simp only[PyData.canLay0,f2],by simp only[PyData.depth,e3];omega⟩ (by simp only[PyData.eqv,AoH])))
theorem Als{α:Type}{ans ans':Nat→Nat→Bool}{n:Nat}(h:∀ i j,i<n→j<n→ans i j=ans' i j)(t:KasT α):kgo ans n t=kgo ans' n t:=by
 induction t with
 |ret a=>rfl
 |ask i j k ih=>
  show(if (Nat.blt i n && Nat.blt j n)=true then kgo ans n (k (ans i j)) else none)=(if (Nat.blt i n && Nat.blt j n)=true then kgo ans' n (k (ans' i j)) else none)
  cases hb:(Nat.blt i n && Nat.blt j n) with
  |false=>rfl
  |true=>
   simp only[Bool.and_eq_true,Nat.blt_eq] at hb;rw[if_pos rfl,if_pos rfl,h i j hb.1 hb.2];exact ih _
noncomputable def oS(i:Nat):Stmt:=((Aac (nth AaY))[i]?).getD AbJ
noncomputable def AfS:Expr:=AlA (Aat (oS 0))
noncomputable abbrev s_ord:Scope:=AjJ
theorem ACX:Aac (nth AaY)=[oS 0,oS 1,oS 2,oS 3]:=by kernel_rfl!
theorem AF9:oS 0=.Assign [.Name "key" (AaG (oS 0)).pos] (.Call (.Name "cmp_to_key" (Acw (Aat (oS 0)))) [AfS] [] (Aat (oS 0)).pos) (Abf (oS 0)):=by kernel_rfl!
theorem ACY:AfS=.Lambda (AbI AfS) (lamBody AfS) (Acs AfS) AfS.pos:=by kernel_rfl!
noncomputable def oIt:Expr:=Aat (oS 1)
noncomputable def oX:Expr:=AlA oIt
noncomputable def kw0:Keyword:=((ADR oIt)[0]?).getD ⟨none,oIt,⟨0,0,0,0⟩⟩
theorem AGa:oS 1=.Assign [.Name "leaves" (AaG (oS 1)).pos] (.Call (.Name "sorted" (Acw oIt)) [oX] [⟨some "key",.Name "key" kw0.value.pos,kw0.pos⟩] oIt.pos) (Abf (oS 1)):=by kernel_rfl!
theorem AzS:Abt oX=true:=by kernel_rfl!
theorem ACZ:Ac4 (Acs AfS) ["one","other"]=true:=by kernel_rfl!
theorem Alt:Ads (Acs AfS) s_ord=true:=by kernel_rfl!
theorem Awq(env:Env):defaultsOf (AbI AfS) env=([],[]):=by kernel_rfl!
theorem AqV:∀ (fd:FuncData) (a b:Value),fd.params=AbI AfS→fd.defaults=.none→fd.kwdefaults=.none→bindArgs fd ⟨[a,b],[]⟩=pure [(("one":Str),a),("other",b)]:=by
 intro q1;obtain⟨nm,qn,pr,bd,sc,gl,cl,df,kd,dc,pm,an,cd,ct,bt⟩:=q1;intro a b h1 h2 h3;simp only at h1 h2 h3;subst h1 h2 h3
 kernel_rfl!
theorem AtH:AhI (AbI AfS) ["one","other"]:=fun fd vs e1 e2 e3 e4=>L2 (P:=fun vs=>bindArgs fd ⟨vs,[]⟩=pure ([("one":Str),"other"].zip vs)) e4 fun u v=>AqV fd u v e1 e2 e3
noncomputable def Ahp:D:=.list (depM.map D.list)
noncomputable def AC0:Tb:=mkL (AcY [(.ref Aav,comparedD)])
noncomputable def lamD:List D→Option D:=Aq6 AC0 8 (Acs AfS) "one" "other" (lamBody AfS) [("depths",Ahp)]
noncomputable def AFE(a b:Nat):Option Int:=(comparedD [.int (a:Int),.int (b:Int),Ahp]).bind Ard
theorem AzT:(R8.all fun a=>R8.all fun b=>(AFE a b).elim false fun c=>decide (c<0) == Nat.blt (Abn a) (Abn b))=true:=by kernel_rfl!
theorem AC1{a b:Nat}(ha:a<8)(hb:b<8):∃ c,comparedD [.int (a:Int),.int (b:Int),Ahp]=some (.int c)∧decide (c<0)=Nat.blt (Abn a) (Abn b):=by
 have h:=AmQ (AmQ AzT ha) hb
 cases e:AFE a b with
 |none=>rw[e] at h;exact Bool.noConfusion h
 |some c=>
  rw[e] at h;refine Aab (Aag e) fun d e1 e2=>?_;exact⟨c,by rw[e1,Adq e2],eq_of_beq h⟩
theorem Awr{a b:Int}{i j c:Int}(h:comparedD [.int a,.int b,Ahp]=some (.int c)):lamD [.tup [.int a,.int i],.tup [.int b,.int j]]=some (.int c):=by unfold lamD Aq6;rw[if_pos (show[("one":Str),"other"].length=[D.tup [.int a,.int i],D.tup [.int b,.int j]].length from rfl)];exact(Abs rfl (Aax rfl (AaK rfl rfl (Aai rfl) (Aaa rfl rfl) rfl) (Aax rfl (AaK rfl rfl (Aai rfl) (Aaa rfl rfl) rfl) (Aax rfl (Aai rfl) (Aam rfl)))) h)
theorem Aws(a b:D):Aa7 (Acs AfS) [("key",a),("depths",Ahp),("goals",b)]=[(("depths":Str),Ahp)]:=by kernel_rfl!
theorem AC2:Ac8 AfS.pos.line AfS.pos.col = "_law_in_order.<locals>.<lambda>":=ABB
section
variable{B:Bs}{A:Around}{s₀ s s':Shared}{g₀ g g':Gh}{m n:Nat}{own:List Str}{env:Env}{ρ:Rho}
theorem AC3(W:LW B)(F:Fm B s₀ g₀ own env ρ s g)(e1:env.scope=s_ord)(hρ:Aa7 (Acs AfS) ρ=[(("depths":Str),Ahp)]){a:Addr}{fd:FuncData}(Md:Af0 s.heap g a fd (AbI AfS) (.expr (lamBody AfS)) (Acs AfS) (clos env (Acs AfS).names [])):AmO B (m+2) s g (.ref a) lamD:=by refine Aaz (Ac9 F (scope:=Acs AfS) (fun x hx=>(AaR Alt x hx).1) (fun x hx=>by unfold Env.kindOf;rw[e1];exact(AaR Alt x hx).2)) fun _ C=>?_;rw[hρ] at C;refine⟨.inr (.inr ⟨a,_,fd,rfl,Md.obj,rfl⟩),fun A s1 g1 vs ds r hA x hd hr=>?_⟩;unfold lamD Aq6 at hr;refine Aaz (Abg hr) fun hl hr=>?_;refine Arx W.O (Md.step x) AtH ACZ (C.step x) hA x.inv hd hl fun env s2 e1 e2 F=>?_;exact(AaD W.O (n:=m+1) (T:=AC0) (AbN W (AaL (al (AnD (m:=m) W) an)) s1 g1 x.inv) hA.deeper 8).1 _ env _ _ r s2 g1 (by rw[e1];exact hr) F
theorem Awt(W:LW B)(F:Fm B s₀ g₀ own env ρ s g)(e1:env.scope=s_ord)(e2:env.code=(Aaj B.w.params Aao).code)(e3:env.qual=(Aaj B.w.params Aao).qualname++".<locals>."){Q E:Value→Shared→Prop}
  (hq:∀ a fd s' g',Aae B s g s' g'→Af0 s'.heap g' a fd (AbI AfS) (.expr (lamBody AfS)) (Acs AfS) (clos env (Acs AfS).names [])→Q (.ref a) s'):wpAny B.M A (eval AfS env) Q E s:=by
 refine Ad9 (Afi (a:=Aao) W (AiR B.w.params)) fun c P hcd hmem=>?_;refine Aaz (Ac9 F (scope:=Acs AfS) (fun x hx=>(AaR Alt x hx).1) (fun x hx=>by unfold Env.kindOf;rw[e1];exact(AaR Alt x hx).2)) fun hcl _=>?_;rw[ACY];refine kla_eval (Awq env) ?_;refine Am7 W.O W.bm W.TT F.inv hcl F.glob (e2.trans hcd) hmem ?_ fun a fd s' g' x M=>hq a fd s' g' x M;rw[e3,AiQ];exact AC2
end
noncomputable def Alu(f:Nat→Nat):List D:=R8.map fun r=>.int (f r:Int)
noncomputable def Ad5(f:Nat→Nat):List D:=R8.map fun r=>.tup [.int (f r:Int),.int (r:Int)]
theorem r8{i:Nat}(hi:i<8):R8[i]?=some i:=(List.getElem?_range hi:(List.range 8)[i]?=some i)
theorem Ab6(f:Nat→Nat){i:Nat}(hi:i<8):Adw (.list (Alu f)) (.int (i:Int))=some (.int (f i:Int)):=by refine Aek (Int.natCast_nonneg i) (show 8≤1000000 by decide) ?_;unfold Alu;rw[Int.toNat_natCast,List.getElem?_map,r8 hi];rfl
theorem AeM(f:Nat→Nat){i:Nat}(hi:i<8):(Ad5 f).getD i .none=.tup [.int (f i:Int),.int (i:Int)]:=by unfold Ad5;rw[List.getD_eq_getElem?_getD,List.getElem?_map,r8 hi];rfl
theorem in8{i:Nat}(h:i∈R8):i<8:=List.mem_range.mp (show i∈List.range 8 from h)
noncomputable def Awu:Tb:=mkL (AcY [(.builtin "sorted",sortD),(.type "range",bRange)])
noncomputable def AtI:List D:=Alu Abn
noncomputable abbrev AEP(aC:Addr)(f:Nat→Nat):Rho:=[("key",.val (.ref aC)),("depths",Ahp),("goals",.list (Alu f))]
noncomputable def oR:Expr:=Aat (oS 3)
noncomputable def oR2:Expr:=cmpR oR
noncomputable def oX2:Expr:=AlA (gC oR2).iter
theorem AtJ:Abq (Acs oX) s_ord=true:=by kernel_rfl!
theorem AC4:Abq (Acs (leftOf oR)) s_ord=true:=by kernel_rfl!
theorem AzU:Abq (Acs oR2) s_ord=true:=by kernel_rfl!
theorem AzV:Abq (Acs oX2) s_ord=true:=by kernel_rfl!
theorem AGb(aC:Addr)(f:Nat→Nat):ev Awu 12 s_ord (AEP aC f) oX=some (.list (Ad5 f)):=by refine Afq (x:=.rng 0 8) (items:=R8.map fun (r:Nat)=>.int (r:Int)) rfl ⟨rfl,rfl,AtJ⟩ (Abs rfl (Aax rfl (Aaa rfl rfl) (Aam rfl)) rfl) rfl ?_;refine AbD (ρ1:=fun i=>[("r",.int (i:Int)),("goals",.list (Alu f))]) (f:=fun r=>.tup [.int (f r:Int),.int (r:Int)]) R8 [] (fun i hi=>⟨by kernel_rfl!,?_⟩) (by decide);exact Afg rfl (Aax rfl (AaK rfl rfl (Aai rfl) (Aai rfl) (Ab6 f (in8 hi))) (Aax rfl (Aai rfl) (Aam rfl))) (by simp)
theorem Awv{x y:Option (Array Nat)}(h:AFC x y=true):∃ P Q,x=some P∧y=some Q∧P.toList=Q.toList∧P.toList.length≤8∧∀ i∈P.toList,i<8:=by
 induction x using Option.casesOn with
 |none=>exact Bool.noConfusion h
 |some P=>induction y using Option.casesOn with
  |none=>exact Bool.noConfusion h
  |some Q=>
   have h:(P.toList == Q.toList && (Nat.ble P.toList.length 8 && P.toList.all fun i=>Nat.blt i 8))=true:=h;have h1:=Bool.and_eq_true_iff.mp h;have h2:=Bool.and_eq_true_iff.mp h1.2;exact⟨P,Q,rfl,rfl,eq_of_beq h1.1,Nat.le_of_ble_eq_true h2.1,fun i hi=>Nat.blt_eq.mp (List.all_eq_true.mp h2.2 i hi)⟩
noncomputable def AtK(f:Nat→Nat):List (Int×Int):=R8.map fun r=>((f r:Int),(r:Int))
theorem Amy(f:Nat→Nat){i:Nat}(hi:i<8):(AtK f).getD i (0,0)=((f i:Int),(i:Int)):=by unfold AtK;rw[List.getD_eq_getElem?_getD,List.getElem?_map,r8 hi];rfl
theorem Aww(f:Nat→Nat):AfO (Ad5 f)=some (AtK f):=by kernel_rfl!
noncomputable def an3(f:Nat→Nat)(i j:Nat):Bool:=cond (Nat.beq (f i) (f j)) (Nat.blt i j) (Nat.blt (f i) (f j))
theorem AtL(i j:Nat):decide ((i:Int)<(j:Int))=Nat.blt i j:=by
 by_cases h:i<j
 ·rw[Nat.blt_eq.mpr h];exact decide_eq_true (Int.ofNat_lt.mpr h)
 ·rw[show Nat.blt i j=false from Bool.eq_false_iff.mpr fun e=>h (Nat.blt_eq.mp e)];exact decide_eq_false fun e=>h (Int.ofNat_lt.mp e)
theorem AC5(f:Nat→Nat)(i j:Nat):ltP ((f i:Int),(i:Int)) ((f j:Int),(j:Int))=an3 f i j:=by
 unfold ltP an3;dsimp only;rw[AtL,AtL]
 by_cases he:f i=f j
 ·rw[if_pos (congrArg Nat.cast he),he,Nat.beq_refl];show _=Nat.blt i j
  by_cases h:(i:Int)=j
  ·rw[if_pos h,Int.ofNat_inj.mp h];exact(Bool.eq_false_iff.mpr fun e=>Nat.lt_irrefl _ (Nat.blt_eq.mp e)).symm
  ·rw[if_neg h]
 ·rw[if_neg fun e=>he (Int.ofNat_inj.mp e)]
  cases hb:Nat.beq (f i) (f j) with
  |false=>rfl
  |true=>exact absurd (Nat.eq_of_beq_eq_true hb) he
theorem AqW(f:Nat→Nat){Q:Array Nat}(hQ:kgo (an3 f) 8 (kas_sort 8)=some Q):sortD [.list (Ad5 f)]=some (.list (Q.toList.map fun i=>(Ad5 f).getD i .none)):=by show((AfO (Ad5 f)).bind fun ps=>if 2≤(Ad5 f).length∧(Ad5 f).length<64 then (kgo (fun i j=>ltP (ps.getD i (0,0)) (ps.getD j (0,0))) (Ad5 f).length (kas_sort (Ad5 f).length)).map fun p=>D.list (p.toList.map fun i=>(Ad5 f).getD i .none) else none)=_;rw[Aww];show(if 2≤8∧8<64 then (kgo (fun i j=>ltP ((AtK f).getD i (0,0)) ((AtK f).getD j (0,0))) 8 (kas_sort 8)).map fun p=>D.list (p.toList.map fun i=>(Ad5 f).getD i .none) else none)=_;rw[if_pos ⟨by decide,by decide⟩,Als (ans':=an3 f) (fun i j hi hj=>by rw[Amy f hi,Amy f hj];exact AC5 f i j),hQ];rfl
theorem Awx(aC:Addr)(f:Nat→Nat)(hf:∀ r,f r<8){P Q:Array Nat}(hQ:kgo (an3 fun r=>Abn (f r)) 8 (kas_sort 8)=some Q)(hPQ:P.toList=Q.toList)(hl:P.toList.length≤8)(h8:∀ i∈P.toList,i<8) :
  ex (Awu.stm (Aak s_ord.names) s_ord) (ev Awu 16 s_ord) (Aak s_ord.names) s_ord 20 (("leaves",.list (P.toList.map fun i=>(Ad5 f).getD i .none)) :: AEP aC f) [oS 2,oS 3]=some (.ret (.bool true)):=by
 refine AcE (rest:=[oS 3]) (d:=.list AtI) rfl rfl (.inl rfl) (by kernel_rfl!) (by kernel_rfl!) ?_;have hlen:([]:List D).length+P.toList.length<1000000:=Nat.lt_of_le_of_lt (Nat.le_trans (Nat.le_of_eq (Nat.zero_add _)) hl) (by decide);refine Aco (rest:=[]) rfl rfl (Aby (a:=.list (P.toList.map fun (i:Nat)=>D.int (i:Int))) (b:=.list (P.toList.map fun (i:Nat)=>D.int (i:Int))) (q:=true) rfl rfl ?_ ?_ (Ad4 (k:=1) (AbY fun d hd=>?_) (by decide)))
 ·refine Afq (x:=.list (P.toList.map fun i=>(Ad5 f).getD i .none)) rfl ⟨rfl,rfl,AC4⟩ (Aai rfl) rfl (AbD (ρ1:=fun i=>[("r",.int (i:Int)),("goal",.int (f i:Int))]) (f:=fun (i:Nat)=>D.int (i:Int)) P.toList [] (fun i hi=>?_) hlen);rw[AeM f (h8 i hi)];exact⟨by kernel_rfl!,Aai rfl⟩
 ·rw[hPQ] at h8 hlen ⊢;refine Afq (x:=.list (Q.toList.map fun i=>(Ad5 fun r=>Abn (f r)).getD i .none)) rfl ⟨rfl,rfl,AzU⟩ (Abs rfl (Aax rfl (d:=.list (Ad5 fun r=>Abn (f r))) ?_ (Aam rfl)) (AqW _ hQ)) rfl (AbD (ρ1:=fun i=>[("r",.int (i:Int)),("place",.int (Abn (f i):Int))]) (f:=fun (i:Nat)=>D.int (i:Int)) Q.toList [] (fun i hi=>?_) hlen)
  ·refine Afq (x:=.rng 0 8) (items:=R8.map fun (r:Nat)=>.int (r:Int)) rfl ⟨rfl,rfl,AzV⟩ (Abs rfl (Aax rfl (Aaa rfl rfl) (Aam rfl)) rfl) rfl ?_;refine AbD (ρ1:=fun i=>[("r",.int (i:Int)),("turned",.list AtI),("goals",.list (Alu f))]) (f:=fun r=>.tup [.int (Abn (f r):Int),.int (r:Int)]) R8 [] (fun i hi=>⟨by kernel_rfl!,?_⟩) (by decide);exact Afg rfl (Aax rfl (AaK rfl rfl (Aai rfl) (AaK rfl rfl (Aai rfl) (Aai rfl) (Ab6 f (in8 hi))) (Ab6 Abn (hf i))) (Aax rfl (Aai rfl) (Aam rfl))) (by simp)
  ·rw[AeM _ (h8 i hi)];exact⟨by kernel_rfl!,Aai rfl⟩
 ·refine Aab (List.mem_map.mp hd) fun i _ e=>?_;rw[← e];exact AdD _
section
variable{B:Bs}{A:Around}{s₀ s s':Shared}{g₀ g g':Gh}{m n:Nat}{own:List Str}{env:Env}{ρ:Rho}
theorem Awy(W:LW B)(hA:AOk (m+8) A)(F:Fm B s₀ g₀ own env ρ s g)(e1:env.scope=s_ord){lam aC:Addr}(km:AnE s g lam aC)(hF:AmO B (m+5) s g (.ref lam) lamD)(hk:ρ.lookup ("key":Str)=some (.val (.ref aC))){ds:List D}{q1 q2 q3 pos:Pos}
  (hX:∀ s1 g1,Fm B s₀ g₀ own env ρ s1 g1→Aaq B A s1 g1 (eval oX env) fun g' v=>Den g' v (.list ds)) (h2:2≤ds.length) (h64:ds.length<64) (ht:∀ i,i<ds.length→∃ l,ds.getD i .none=.tup l) {ans:Nat→Nat→Bool} {p:Array Nat}
  (hans:∀ i j,i<ds.length→j<ds.length→∃ c,lamD [ds.getD i .none,ds.getD j .none]=some (.int c)∧ans i j=decide (c<0)) (hp:kgo ans ds.length (kas_sort ds.length)=some p) :
  Aaq B A s g (eval (.Call (.Name "sorted" q1) [oX] [⟨some "key",.Name "key" q2,q3⟩] pos) env) fun g' r=>Den g' r (.list (p.toList.map fun i=>ds.getD i .none)):=by
 show wpAny B.M A (do callWith pos (← eval (.Name "sorted" q1) env) [] (backTo pos (starEach [oX] env)) (backToKw pos (keywordEach [⟨some "key",.Name "key" q2,q3⟩] env))) _ _ s;refine wpAny_bind ((F.gname W.O (x:="sorted") (v:=.builtin "sorted") (by unfold Env.kindOf;rw[e1];kernel_rfl!) (Abr W "sorted" _ rfl) rfl).use fun fv s1 g1 x1 hf=>?_);subst hf;have F1:=F.step x1;rw[AaC (es:=[oX]) (by intro e he;rcases List.mem_cons.mp he with rfl|he;exact AzS;cases he)];refine callWith_of (P:=fun _=>True) rfl (fun h _=>⟨.machine,.inr (.inl rfl),.now⟩) ?_;show wpAny B.M A (evalArgs (.builtin "sorted") true [(false,eval oX env)] [(some "key",eval (.Name "key" q2) env >>= fun v=>standAt pos >>= fun _=>pure v)]) _ _ s1;refine AnF ((hX s1 g1 F1).use fun v s2 g2 x2 hv=>?_);refine wpAny_bind (((F1.step x2).name hk (by decide)).useV fun s3 g3 x3=>?_);refine wpAny_bind (wpAny_standAt (wpAny_pure ⟨trivial,?_⟩));have x:=(x1.trans x2).trans x3;exact(AvU W.O hA x.inv (km.step x) (hF.step x) (hv.mono x3.le) h2 h64 ht hans hp).from x
theorem Awz(W:LW B)(s:Shared)(g:Gh)(I:Inv B s g):AbO B m Awu s g:=AbN W (AaL (al (Atp W.O) (al (Ach W.O) an))) s g I
noncomputable def an4(f:Nat→Nat)(i j:Nat):Bool:=Nat.blt (Abn (f i)) (Abn (f j))
theorem AwA(W:LW B)(hA:AOk (m+10) A)(I:Inv B s g){vs:List Value}{f:Nat→Nat}(hf:∀ r,f r<8)(hd:Aar g vs [.list (Alu f),Ahp]){P Q:Array Nat}(hP:kgo (an4 f) 8 (kas_sort 8)=some P)(hQ:kgo (an3 fun r=>Abn (f r)) 8 (kas_sort 8)=some Q)(hPQ:P.toList=Q.toList)(hl:P.toList.length≤8)(h8:∀ i∈P.toList,i<8) :
  Aaq B A s g (call (.ref Aao) vs) fun g' v=>Den g' v (.bool true):=by
 have D0:=Adm W.G;refine AhF W.O D0 hA I hd rfl fun env s1 e1 e2 e3 F=>AeT fun QQ EE hPost=>?_;rw[AbZ] at e1;rw[AbZ,← e1] at F;have F:Fm B s g (Aak env.scope.names) env [("depths",Ahp),("goals",.list (Alu f))] s1 g:=F;have e1:env.scope=s_ord:=e1;have hA':AOk (m+9) (A.deeper env):=hA.deeper;have hA8:AOk (m+8) (A.deeper env):=hA'.le (Nat.add_le_add_left (by decide) _);have K:=Awz (m:=m+8) W s g I;rw[show Aac (nth AaY)=[oS 0,oS 1,oS 2,oS 3] from ACX];refine wpAny_execs_cons ?_;rw[AF9];refine Acc rfl (wpAny_Call_NameR ((F.gname W.O (x:="cmp_to_key") (v:=.ref Adr) (by unfold Env.kindOf;rw[e1];kernel_rfl!) (Abr W "cmp_to_key" _ rfl) rfl).use fun fv s2 g2 x2 hf2=>?_));subst hf2;have F2:=F.step x2;rw[AaC (es:=[AfS]) (by intro e he;rcases List.mem_cons.mp he with rfl|he;(rw[ACY];rfl);cases he)];refine Aab ((AlY W.G).obj) fun oc hoc hdc=>?_;refine callWith_of (P:=fun h=>∃ o fd,h.get? Adr=some o∧o.data=.func fd) rfl (fun h hp=>?_) (Calls.evalArgs_plain (Calls.spliced_cons (Awt W F2 e1 e2 e3 fun lam fd s3 g3 x3 M3=>wpAny_pure ⟨⟨oc,_,x3.inv.get (x3.inv.base _ _ hoc),hdc⟩,?_⟩)))
 ·refine Ad9 hp fun o fd h1 h2=>?_;refine⟨.frame,.inl rfl,?_⟩;unfold keeperOf;refine(Looks.ld (part:=none) h1).andThen ?_;rw[h2];exact .now
 have F3:=F2.step x3;refine AvX (n:=m+6) W hA8 x3.inv fun aC s4 g4 x4 kmk=>?_;have F4:=F3.step x4;refine F4.store W.O (Abi (by rw[e1];kernel_rfl!)) (d:=.val (.ref aC)) .val fun s5 F5 oth=>?_;have F5:Fm B s g (Aak env.scope.names) env (AEP aC f) s5 g4:=F5;have km:AnE s5 g4 lam aC:=kmk s5 fun a o hn hdd e=>oth a o (fun hl=>by
  rcases hl with rfl|⟨x,hx,e4⟩
  ·refine Aab F4.vars fun m4 h4 _=>?_;refine AjZ h4 fun o4 ho4 _ _ es n4 hdat=>?_;rw[e] at ho4;cases ho4;refine Aab F3.vars fun m3 h3 _=>?_;refine Aab (AgD h3) fun o3 ho3 _=>?_;rw[hdd (.inl ⟨es,n4,hdat⟩)] at ho3;exact Aah ho3
  ·refine Adf (F4.own x hx) fun cc v d1 q1 _=>?_;refine Aab q1 fun o4 ho4 hdat=>?_;rw[e4] at d1;cases d1;rw[e] at ho4;cases ho4;refine Adf (F3.own x hx) fun cc v d1 q2 _=>?_;refine Aab q2 fun o3 ho3 _=>?_;rw[e4] at d1;cases d1;rw[hdd (.inr ⟨_,hdat⟩)] at ho3;exact Aah ho3) e
 have hlam:AmO B (m+5) s5 g4 (.ref lam) lamD:=AC3 (m:=m+3) W F5 e1 (Aws _ _) ((M3.step x4).oth F4 oth);refine wpAny_execs_cons ?_;rw[AGa];have hds:∀ i,i<(Ad5 f).length→i<8:=fun i h=>h;refine Acc rfl ((Awy (m:=m) W hA8 F5 e1 km hlam rfl (ds:=Ad5 f) (ans:=an4 f) (p:=P) (fun s1 g1 F1=>(AaD W.O K hA8 12).1 _ env _ _ _ s1 g1 (by rw[e1];exact AGb aC f) F1) (show 2≤8 by decide) (show 8<64 by decide) (fun i hi=>⟨_,AeM f (hds i hi)⟩) (fun i j hi hj=>?_) hP).use fun v s6 g6 x6 hv=>?_)
 ·rw[AeM f (hds i hi),AeM f (hds j hj)];refine Aab (AC1 (hf i) (hf j)) fun c c1 c2=>?_;exact⟨c,Awr c1,c2.symm⟩
 refine(F5.step x6).store W.O (Abi (by rw[e1];kernel_rfl!)) hv fun s7 F7 _=>?_;refine wpAny_mono (Acj W.O K hA8 F7 (k:=16) (m:=20) (r:=.bool true) ?_) hPost fun _ _ h=>h.elim;rw[e1];exact Awx aC f hf hQ hPQ hl h8
end
noncomputable def dcV:Expr→Expr
 |.DictComp _ v _ _ _=>v
 |e=>e
noncomputable def dcS(hf:Str→Int)(T:Tb)(k:Nat)(sc:Scope)(ρ:Rho)(e:Expr):Option D:=if Nat.beq (Agz e) 9=true then (one (ep e).g).bind fun c=>if c.is_async=0∧Abu c.iter=true∧Abq (ep e).s sc=true then
  (ev T k sc ρ c.iter).bind fun x=>(AbK x).bind fun items=>(AaW (Aak (ep e).s.names) (Aaw (ep e).s sc) (fun ρ e'=>Aa9 (ev T k (Aaw (ep e).s sc) ρ) e') c.target c.ifs (Akk (ev T k (Aaw (ep e).s sc)) (ep e).a (dcV e)) (Aa7 (ep e).s ρ) items []).bind fun kd=>some (.dict hf (kd.map (·.1)) (kd.map (·.2))) else none else none
noncomputable def AoJ(hf:Str→Int)(T:Tb)(k:Nat):Tb:={T with spec:=dcS hf T k}
theorem AwB{e:Expr}(h:Nat.beq (Agz e) 9=true):e=.DictComp (ep e).a (dcV e) (ep e).g (ep e).s (ep e).p:=by
 revert h;induction e using Expr.casesOn<;>first|exact fun _=>rfl|exact Bool.noConfusion
section
variable{B:Bs}{A:Around}{s₀ s s':Shared}{g₀ g g':Gh}{own:List Str}{env:Env}{ρ:Rho}{n:Nat}{T:Tb}
theorem AnK(O:B.Ok)(K:AbO B n T s₀ g₀)(k:Nat):AbO B n (AoJ (hashStr B.w) T k) s₀ g₀ where
 glob:=K.glob
 app:=K.app
 stm:=K.stm
 meth:=K.meth
 spec:=fun A own env ρ e d s g hA h F=>by
  refine Aaz (Abg h) fun h9 h=>?_;refine Aab (Aag h) fun c hc h=>?_;refine Aaz (Abg h) fun hh h=>?_;refine Aab (Aag h) fun x hx h=>?_;refine Aab (Aag h) fun items hi h=>?_;refine Aab (Aag h) fun kd hkd h=>?_;rw[← sj h];have hs:=AwB h9;rw[AdK hc,Arn hh.1] at hs;generalize (ep e).a=kx,dcV e=vx,(ep e).s=scope,(ep e).p=pos at hs hh hkd;subst hs;refine wpAny_mono (AfZ (p:=firstIterPos [⟨c.target,c.iter,c.ifs,0⟩] pos) O rfl (AoD O hA K hh.2.1 hh.2.2 ((AaD O K hA k).1 own env ρ _ _ _ _ hx F) hi hkd) F) (fun v s' h=>?_) fun _ _ h=>h;exact Aab h fun g' x h=>Aab h fun d e hd=>⟨g',x,e ▸ hd⟩
end
theorem AxN{own:List Str}{sc:Scope}{T0:Rho→Expr→Option Bool}{t kx vx:Expr}{E:Rho→Expr→Option D}{ρ:Rho}{h:Nat→D}{ρ1:Nat→Rho}{key:Nat→Str}{val:Nat→D}:∀ (L:List Nat) (acc:List (Str×D)),
  (∀ i∈L,AoY own sc t ρ (h i)=some (ρ1 i)∧E (ρ1 i) kx=some (.str (key i))∧E (ρ1 i) vx=some (val i))→(acc.map (·.1)++L.map key).Nodup→acc.length+L.length<1000000 →
  AaW own sc T0 t [] (Akk E kx vx) ρ (L.map h) acc=some (acc++L.map fun i=>(key i,val i)):=by
 intro L;induction L with
 |nil=>intro acc _ _ _;show some acc=some (acc++[]);rw[List.append_nil]
 |cons i L ih=>
  intro acc hE hn hl;rw[List.length_cons] at hl;refine Ahs (hE i (.head _)) fun b1 b2 b3=>?_;have hany:(acc.any fun q=>q.1 == key i)=false:=List.any_eq_false.mpr fun q hq e=>by
   have h1:=List.nodup_append.mp hn;exact h1.2.2 q.1 (List.mem_map.mpr ⟨q,hq,rfl⟩) (key i) (.head _) (eq_of_beq e)
  refine Aan (Aan b1 (Aan rfl (show Akk E kx vx (ρ1 i) acc=some (acc++[(key i,val i)]) from Aan b2 (show(E (ρ1 i) vx).bind _=_ from Aan b3 (ift ⟨hany,by omega⟩ rfl))))) ?_;rw[ih (acc++[(key i,val i)]) (fun j hj=>hE j (.tail _ hj)) (by rw[List.map_append,List.append_assoc];exact hn) (by rw[List.length_append,List.length_singleton];omega),List.append_assoc];rfl
theorem Amz{p:Nat→Str}{F:Nat→D}{j:Nat}:∀ (L:List Nat),j∈L→(∀ i∈L,p j=p i→j=i)→Ahy (p j) (L.map p) (L.map F)=some (F j)
 |[],h,_=>nomatch h
 |i :: L,h,hp=>by
  show(if p j=p i then some (F i) else Ahy (p j) (L.map p) (L.map F))=some (F j)
  by_cases e:p j=p i
  ·rw[if_pos e,hp i (.head _) e]
  ·rw[if_neg e];exact Amz L ((List.mem_cons.mp h).elim (fun q=>absurd (congrArg p q) e) id) fun i hi=>hp i (.tail _ hi)
theorem Aje{F:List D→Option D}{W:Nat→D}{N:Nat}(h:∀ k d,k<N→F [W k,d]=some (W (k+1))):∀ (items:List D) (k:Nat),k+items.length≤N→Anr F (W k) items=some (W (k+items.length))
 |[],_,_=>rfl
 |d :: items,k,hk=>by
  rw[List.length_cons] at hk ⊢;exact Aan (h k d (by omega)) (by rw[Aje h items (k+1) (by omega),Nat.add_assoc,Nat.add_comm 1])
theorem AfT{lt:D→D→Option Bool}{r:Int→Int→Prop}(hlt:∀ i j:Int,∃ c,lt (.int i) (.int j)=some c∧(c=true→r i j)∧(c=false→r j i))(rr:∀ i,r i i)(rt:∀ i j k,r i j→r j k→r i k) :
  ∀ (l:List Int) (b:Int),∃ m,Am8 lt (.int b) (l.map D.int)=some (.int m)∧m∈b :: l∧∀ y∈b :: l,r m y
 |[],b=>⟨b,rfl,.head _,fun y hy=>by rw[List.mem_singleton.mp hy];exact rr b⟩
 |x :: l,b=>by
  refine Adc (hlt x b) fun c e1 e2 e3=>?_
  cases c with
  |true=>
   refine Adc (AfT hlt rr rt l x) fun m h1 h2 h3=>⟨m,Aan e1 h1,.tail _ h2,fun y hy=>?_⟩;refine(List.mem_cons.mp hy).elim (fun q=>?_) (h3 y);rw[q];exact rt _ _ _ (h3 x (.head _)) (e2 rfl)
  |false=>
   refine Adc (AfT hlt rr rt l b) fun m h1 h2 h3=>⟨m,Aan e1 h1,(List.mem_cons.mp h2).elim (fun q=>q ▸ .head _) fun q=>.tail _ (.tail _ q),fun y hy=>?_⟩;refine(List.mem_cons.mp hy).elim (fun q=>q ▸ h3 b (.head _)) fun hy=>(List.mem_cons.mp hy).elim (fun q=>?_) fun hy=>h3 y (.tail _ hy);rw[q];exact rt _ _ _ (h3 b (.head _)) (e3 rfl)
theorem AwC(x:Int)(l:List Int):∃ m,bMin [.list ((x :: l).map D.int)]=some (.int m)∧m∈x :: l∧∀ y∈x :: l,m≤y:=
 AfT (lt:=ltD) (r:=fun i j=>i≤j) (fun i j=>⟨decide (i<j),rfl,fun h=>Int.le_of_lt (of_decide_eq_true h),fun h=>Int.not_lt.mp (of_decide_eq_false h)⟩) Int.le_refl (fun _ _ _=>Int.le_trans) l x
theorem AwD(x:Int)(l:List Int):∃ m,bMax [.list ((x :: l).map D.int)]=some (.int m)∧m∈x :: l∧∀ y∈x :: l,y≤m:=
 AfT (lt:=fun a b=>ltD b a) (r:=fun i j=>j≤i) (fun i j=>⟨decide (j<i),rfl,fun h=>Int.le_of_lt (of_decide_eq_true h),fun h=>Int.not_lt.mp (of_decide_eq_false h)⟩) Int.le_refl (fun _ _ _ h1 h2=>Int.le_trans h2 h1) l x
theorem AoK:∀ {l:List D},(∀ d∈l,d=.bool true)→bAll [.list l]=some (.bool true):=by
 intro l h;have:∃ bs:List Bool,AhL l=some bs∧bs.all id=true:=by
  induction l with
  |nil=>exact⟨[],rfl,rfl⟩
  |cons d l ih=>
   refine Aab (ih fun d hd=>h d (.tail _ hd)) fun bs e1 e2=>?_;refine⟨true :: bs,?_,e2⟩;rw[h d (.head _)];exact Aan rfl (Aan e1 rfl)
 refine Aab this fun bs e1 e2=>?_;show(AhL l).bind (fun xs=>some (D.bool (xs.all id)))=_;rw[e1];show some (D.bool (bs.all id))=_;rw[e2]
noncomputable def it(f:Nat→Nat)(x:Nat):Nat→Nat
 |0=>x
 |k+1=>f (it f x k)
noncomputable def sq(f:Nat→Nat):Nat→Nat→Nat
 |0,r=>f r
 |j+1,r=>sq f j (sq f j r)
theorem AmA{f:Nat→Nat}(hf:∀ r,f r<8){x:Nat}(hx:x<8):∀ k,it f x k<8
 |0=>hx
 |_+1=>hf _
theorem AwE{f:Nat→Nat}(hf:∀ r,f r<8):∀ j r,sq f j r<8
 |0,r=>hf r
 |j+1,r=>AwE hf j _
theorem AtM(f:Nat→Nat)(x:Nat):∀ k,it f x (k+1)=it f (f x) k
 |0=>rfl
 |k+1=>congrArg f (AtM f x k)
theorem Ael(f:Nat→Nat){r:Nat}(hr:r<8):atN (R8.map f) r=f r:=by unfold atN;rw[List.getD_eq_getElem?_getD,List.getElem?_map,r8 hr];rfl
theorem AEQ{r s:Nat}(hr:r<8)(hs:s<8):dAt r s=Amu r s:=by unfold dAt AFB;rw[List.getD_eq_getElem?_getD,List.getElem?_map,r8 hr];exact Ael (Amu r) hs
theorem Alv{f:Nat→Nat}(hf:∀ r,f r<8):∀ (n x:Nat),x<8→AqT (R8.map f) n x=(List.range n).map (it f x)
 |0,_,_=>rfl
 |n+1,x,hx=>by
  show x :: AqT (R8.map f) n (atN (R8.map f) x)=_;rw[Ael f hx,Alv hf n (f x) (hf x),List.range_succ_eq_map,List.map_cons,List.map_map];exact congrArg (x :: ·) (List.map_congr_left fun k _=>(AtM f x k).symm)
theorem AeS(f:Nat→Nat)(hf:∀ r,f r<8):AtE (R8.map f)=R8.map fun r=>f (f r):=by unfold AtE;rw[List.map_map];exact List.map_congr_left fun r _=>Ael f (hf r)
structure Ad6(f:Nat→Nat)(t rd:Bool):Prop where
 lt:∀ r,f r<8
 up:∀ r s,r<8→s<r→Amu r s≤Amu (f r) (f s)
 all:(t=true ↔ ∀ r s,r<8→s<r→Amu r s=Amu (f r) (f s))
 eight:(t=true ↔ ∀ r,r<8→sq f 3 r=r)
 perm:rd=true→∀ st,st<8→((List.range 8).map (it f st)).Perm R8∧∀ k m,k<8→m<k→Amu (it f st k) (it f st m)=Alq (k - m)
 miss:rd=false→∀ st,st<8→∃ j,j<8∧∀ k,k<8→it f st k≠j
 ord:∃ P Q,kgo (an4 f) 8 (kas_sort 8)=some P∧kgo (an3 fun r=>Abn (f r)) 8 (kas_sort 8)=some Q∧P.toList=Q.toList∧P.toList.length≤8∧∀ i∈P.toList,i<8
theorem AeN{p:Nat→Nat→Bool}(h:(R8.all fun r=>(low r).all fun s=>p r s)=true){r s:Nat}(hr:r<8)(hs:s<r):p r s=true:=Ajb (AmQ h hr) hs
theorem AzW{p:Nat→Nat→Bool}:(R8.all fun r=>(low r).all fun s=>p r s)=true ↔ ∀ r s,r<8→s<r→p r s=true:=
 ⟨fun h r s hr hs=>AeN h hr hs,fun h=>List.all_eq_true.mpr fun r hr=>List.all_eq_true.mpr fun s hs=>h r s (in8 hr) (List.mem_range.mp hs)⟩
theorem AtN{a b:Bool}(h:(a == b)=true):b=true ↔ a=true:=by rw[eq_of_beq h]
theorem AwF{c0 c1 c2 c3:Nat}(h0:c0<8)(h1:c1<8)(h2:c2<4)(h3:c3<4):Ad6 (Amx c0 c1 c2 c3) (AjY c1 c2 c3) (AfQ c0 c1 c2 c3):=by
 have h:=ACU h0 h1 h2 h3;have hf:∀ r,Amx c0 c1 c2 c3 r<8:=fun r=>Nat.mod_lt _ (by decide);unfold chk gl at h;generalize Amx c0 c1 c2 c3=f at h hf;generalize AjY c1 c2 c3=t at h;generalize AfQ c0 c1 c2 c3=rd at h;dsimp only at h;have a:=Bool.and_eq_true_iff.mp h;have b:=Bool.and_eq_true_iff.mp a.2;have c:=Bool.and_eq_true_iff.mp b.2;have a1:=Bool.and_eq_true_iff.mp a.1;have dd:∀ r s,r<8→s<r→dAt r s=Amu r s∧dAt (atN (R8.map f) r) (atN (R8.map f) s)=Amu (f r) (f s):=fun r s hr hs=>by
  rw[Ael f hr,Ael f (Nat.lt_trans hs hr)];exact⟨AEQ hr (Nat.lt_trans hs hr),AEQ (hf r) (hf s)⟩
 refine⟨hf,fun r s hr hs=>?_,(AtN a1.2).trans (AzW.trans ⟨fun q r s hr hs=>?_,fun q r s hr hs=>?_⟩),(AtN b.1).trans ⟨fun q r hr=>?_,fun q=>?_⟩,fun q st hst=>?_,fun q st hst=>?_,?_⟩
 ·have:=AeN a1.1 hr hs;rw[(dd r s hr hs).1,(dd r s hr hs).2] at this;exact Nat.le_of_ble_eq_true this
 ·have:=q r s hr hs;rw[(dd r s hr hs).1,(dd r s hr hs).2] at this;exact Nat.eq_of_beq_eq_true this
 ·rw[(dd r s hr hs).1,(dd r s hr hs).2,q r s hr hs];exact Nat.beq_refl _
 ·have:=AmQ q hr;rw[AeS f hf,AeS _ fun r=>hf _,AeS _ fun r=>hf _,Ael _ hr] at this;exact Nat.eq_of_beq_eq_true this
 ·rw[AeS f hf,AeS _ fun r=>hf _,AeS _ fun r=>hf _];refine List.all_eq_true.mpr fun r hr=>?_;rw[Ael _ (in8 hr)];have e:=q r (in8 hr);show Nat.beq (sq f 3 r) r=true;rw[e];exact Nat.beq_refl _
 ·subst q;have h:=Bool.and_eq_true_iff.mp (show(Awl (AqT (R8.map f) 8 st) == R8 && _)=true from AmQ c.1 hst);rw[Alv hf 8 st hst] at h;refine⟨(AqU _).symm.trans (by rw[eq_of_beq h.1]),fun k m hk hm=>?_⟩;have h2:=AeN h.2 hk hm;have e1:∀ j,j<8→atN ((List.range 8).map (it f st)) j=it f st j:=fun j hj=>Ael (it f st) hj;rw[e1 k hk,e1 m (Nat.lt_trans hm hk),AEQ (AmA hf hst k) (AmA hf hst m)] at h2;exact Nat.eq_of_beq_eq_true h2
 ·subst q;have h:=List.any_eq_true.mp (show(R8.any fun j=>!((AqT (R8.map f) 8 st).any fun x=>Nat.beq x j))=true from AmQ c.1 hst);refine Aab h fun j hj h=>⟨j,in8 hj,fun k hk e=>?_⟩;rw[Alv hf 8 st hst] at h;have h:=Bool.not_eq_true' _ ▸ h;have:=List.any_eq_false.mp h (it f st k) (List.mem_map.mpr ⟨k,List.mem_range.mpr hk,rfl⟩);rw[e] at this;exact this (Nat.beq_refl j)
 ·refine Awv ?_;have h:=c.2;unfold AFD at h;rw[Als (ans':=an4 f) (fun i j hi hj=>by unfold an1 an4;rw[Ael f hi,Ael f hj]),Als (ans:=an2 _) (ans':=an3 fun r=>Abn (f r)) (fun i j hi hj=>by unfold an2 an3;rw[Ael f hi,Ael f hj])] at h;exact h
theorem Akn{T:Tb}{k m:Nat}{params:List Str}{body:List Stmt}{sc:Scope}{ds:List D}{d:D}(hl:params.length=ds.length)(h:ex (T.stm (Aak sc.names) sc) (ev T k sc) (Aak sc.names) sc m (params.zip ds).reverse body=some (.ret d)):fnD T k m params body sc ds=some d:=by unfold fnD;rw[if_pos hl,h]
theorem AqX{E:Expr→Option D}{e e2:Expr}{es r:List Expr}{p q:Bool}(he:es=e :: e2 :: r)(h:E e=some (.bool p))(h2:AfX .And E (e2 :: r)=some (.bool q)):AfX .And E es=some (.bool (p && q)):=by
 cases p with
 |true=>exact Anx he h rfl h2
 |false=>exact AsU he h rfl
theorem AtO(x:Int):x.fmod 2=x % 2:=Int.fmod_eq_emod_of_nonneg _ (by decide)
theorem AzX(x:Int):x.fmod 4=x % 4:=Int.fmod_eq_emod_of_nonneg _ (by decide)
theorem AtP(x:Int):x.fmod 8=x % 8:=Int.fmod_eq_emod_of_nonneg _ (by decide)
noncomputable abbrev Row5.v(a:Row5):D:=.list [.int a.a0,.int a.a1,.int a.a2,.int a.a3,.int a.a4]
theorem Ako(a:Row5):turnsD [a.v]=some (.bool (Aeq a)):=by unfold Aeq;rw[← AtO,← AtO,← AtO];refine Akn rfl (Aco rfl rfl (AeY rfl (AqX rfl (Aby rfl rfl (Aa6 rfl (AaK rfl rfl (Aai rfl) (Aaa rfl rfl) rfl) (Aaa rfl rfl) (Afh (by decide))) (Aaa rfl rfl) (Adt _ _)) (AqX rfl (Aby rfl rfl (Aa6 rfl (Aa6 rfl (AaK rfl rfl (Aai rfl) (Aaa rfl rfl) rfl) (AaK rfl rfl (Aai rfl) (Aaa rfl rfl) rfl) rfl) (Aaa rfl rfl) (Afh (by decide))) (Aaa rfl rfl) (Adt _ _)) (Ald rfl (Aby rfl rfl (Aa6 rfl (AaK rfl rfl (Aai rfl) (Aaa rfl rfl) rfl) (Aaa rfl rfl) (Afh (by decide))) (Aaa rfl rfl) (Adt _ _)))))))
theorem AwG:okT (Aak AeE.names) AeE "twice"=true:=by kernel_rfl!
theorem Afn(a:Row5)(h:a.a2.natAbs<2 ^ 64):roundsD [a.v]=some (.bool (Acp a)):=by unfold Acp;rw[← AtO,← AtO,← AzX,← AzX];refine Akn rfl (AcE (d:=.bool (decide ((a.a3 - 2*a.a2).fmod 4=0))) rfl rfl (.inl rfl) (Aby rfl rfl (Aa6 rfl (Aa6 rfl (AaK rfl rfl (Aai rfl) (Aaa rfl rfl) rfl) (Aa6 rfl (Aaa rfl rfl) (AaK rfl rfl (Aai rfl) (Aaa rfl rfl) rfl) (AsD ⟨by decide,h⟩)) rfl) (Aaa rfl rfl) (Afh (by decide))) (Aaa rfl rfl) (Adt _ _)) AwG ?_);refine Aco rfl rfl (AeY rfl (AqX rfl (Aby rfl rfl (Aa6 rfl (AaK rfl rfl (Aai rfl) (Aaa rfl rfl) rfl) (Aaa rfl rfl) (Afh (by decide))) (Aaa rfl rfl) (Adt _ _)) (AqX rfl (Aby rfl rfl (Aa6 rfl (AaK rfl rfl (Aai rfl) (Aaa rfl rfl) rfl) (Aaa rfl rfl) (Afh (by decide))) (Aaa rfl rfl) (Adt _ _)) (AqX rfl (Aai rfl) (Ald rfl (Aby rfl rfl (Aa6 rfl (Aa6 rfl (Aa6 rfl (Aa6 rfl (AaK rfl rfl (Aai rfl) (Aaa rfl rfl) rfl) (AaK rfl rfl (Aai rfl) (Aaa rfl rfl) rfl) rfl) (AaK rfl rfl (Aai rfl) (Aaa rfl rfl) rfl) rfl) (Aaa rfl rfl) rfl) (Aaa rfl rfl) (Afh (by decide))) (Aaa rfl rfl) (Adt _ _)))))))
theorem AtQ:(R8.all fun k=>(low k).all fun m=>(twosD [.int ((k:Int) - (m:Int))]).bind Ard == some (Alq (k - m):Int))=true:=by kernel_rfl!
theorem AtR{k m:Nat}(hk:k<8)(hm:m<k):twosD [.int ((k:Int) - (m:Int))]=some (.int (Alq (k - m):Int)):=by have h:=eq_of_beq (AeN AtQ hk hm);refine Aab (Aag h) fun d e1 e2=>?_;rw[e1,Adq e2]
noncomputable def gS(i:Nat):Stmt:=(Akc[i]?).getD AbJ
noncomputable abbrev s_goe:Scope:=Aqq
theorem AwH:Akc=[gS 0,gS 1]++([gS 2]++([gS 3]++([gS 4]++[gS 5,gS 6,gS 7,gS 8]))):=by kernel_rfl!
noncomputable def AgT(p:Nat→Str):List D:=R8.map fun r=>.str (p r)
noncomputable abbrev rhG(a:Row5)(f:Nat→Nat)(p:Nat→Str)(st:Nat):Rho:=[("start",.int (st:Int)),("depths",Ahp),("paths",.list (AgT p)),("goals",.list (Alu f)),("row",a.v)]
noncomputable def ADH:Tb:=mkL (AcY [(.builtin "min",bMin),(.builtin "max",bMax),(.ref AaI,turnsD),(.type "range",bRange)])
noncomputable def gr0:Expr:=Aat (gS 0)
theorem AzY:Abq (Acs gr0) s_goe=true:=by kernel_rfl!
noncomputable def AnL(f:Nat→Nat)(r s:Nat):Int:=(Amu (f r) (f s):Int) - (Amu r s:Int)
noncomputable def AmB(f:Nat→Nat):List Int:=(R8.map fun r=>(low r).map fun s=>AnL f r s).flatten
theorem AnM{r:Nat}(hr:r<8):Adw Ahp (.int (r:Int))=some (.list (R8.map fun s=>.int (Amu r s:Int))):=by refine Aek (Int.natCast_nonneg r) (show 8≤1000000 by decide) ?_;rw[Int.toNat_natCast];unfold depM;rw[List.getElem?_map,List.getElem?_map,show(List.range 8)[r]?=some r from r8 hr];rfl
theorem AtS(a:Row5){f:Nat→Nat}(hf:∀ r,f r<8)(p:Nat→Str)(st:Nat):ev ADH 16 s_goe (rhG a f p st) gr0=some (.list ((AmB f).map D.int)):=by
 refine Afq (x:=.rng 0 8) (items:=R8.map fun (r:Nat)=>.int (r:Int)) rfl ⟨rfl,rfl,AzY⟩ (Abs rfl (Aax rfl (Aaa rfl rfl) (Aam rfl)) rfl) rfl ?_;refine(AxM (h2:=fun (j:Nat)=>D.int (j:Int)) (M:=fun r=>List.range r) (f:=fun r s=>D.int (AnL f r s)) (ρ1:=fun r=>("r",.int (r:Int)) :: Aa7 (Acs gr0) (rhG a f p st)) (ρ2:=fun r s=>("s",.int (s:Int)) :: ("r",.int (r:Int)) :: Aa7 (Acs gr0) (rhG a f p st)) ⟨rfl,rfl⟩ rfl R8 [] (fun r hr=>⟨by kernel_rfl!,?_,fun s hs=>⟨by kernel_rfl!,?_⟩⟩) ?_).trans ?_
 ·exact Aan (Abs rfl (Aax rfl (Aai rfl) (Aam rfl)) rfl) (Acm r (by have:=in8 hr;omega))
 ·have hr:=in8 hr;have hs:=Nat.lt_trans (List.mem_range.mp hs) hr;exact Aa6 rfl (AaK rfl rfl (AaK rfl rfl (Aai rfl) (AaK rfl rfl (Aai rfl) (Aai rfl) (Ab6 f hr)) (AnM (hf r))) (AaK rfl rfl (Aai rfl) (Aai rfl) (Ab6 f hs)) (Ab6 (Amu (f r)) (hf s))) (AaK rfl rfl (AaK rfl rfl (Aai rfl) (Aai rfl) (AnM hr)) (Aai rfl) (Ab6 (Amu r) hs)) rfl
 ·decide
 ·kernel_rfl!
theorem AwI(a b:Bool):eqD (.bool a) (.bool b)=some (a == b):=Aan rfl (Aan rfl (ift ⟨rfl,rfl,Nat.zero_le _⟩ rfl))
theorem AnN{a b:Bool}(h:a=b):AmN .NotEq (.bool a) (.bool b)=some false:=by subst h;rw[AfN (AwI a a),beq_self_eq_true];rfl
theorem Alw{f:Nat→Nat}{y:Int}:y∈AmB f ↔ ∃ r s,r<8∧s<r∧y=AnL f r s:=by
 unfold AmB
 constructor
 ·intro h;refine Aab (List.mem_flatten.mp h) fun l hl hy=>?_;refine Aab (List.mem_map.mp hl) fun r hr e=>?_;subst e;refine Aab (List.mem_map.mp hy) fun s hs e=>?_;exact⟨r,s,in8 hr,List.mem_range.mp hs,e.symm⟩
 ·intro h;refine Adf h fun r s hr hs e=>?_;exact List.mem_flatten.mpr ⟨_,List.mem_map.mpr ⟨r,List.mem_range.mpr hr,rfl⟩,List.mem_map.mpr ⟨s,List.mem_range.mpr hs,e.symm⟩⟩
theorem AC6{a:Row5}{f:Nat→Nat}{rd:Bool}(C:Ad6 f (Aeq a) rd)(p:Nat→Str)(st:Nat) :
  ex (ADH.stm (Aak s_goe.names) s_goe) (ev ADH 16 s_goe) (Aak s_goe.names) s_goe 20 (rhG a f p st) [gS 0,gS 1]=some (.next (("grows",.list ((AmB f).map D.int)) :: rhG a f p st)):=by
 refine AcE (rest:=[gS 1]) (d:=.list ((AmB f).map D.int)) rfl rfl (.inr rfl) (AtS a C.lt p st) (by kernel_rfl!) ?_
 obtain⟨x,l,hg⟩:∃ x l,AmB f=x :: l:=⟨_,_,rfl⟩
 refine Adc (AwC x l) fun mn m1 m2 m3=>?_;refine Adc (AwD x l) fun mx q1 q2 q3=>?_;rw[← hg] at m1 m2 m3 q1 q2 q3;have h0:∀ y∈AmB f,0≤y:=fun y hy=>by
  refine Adf (Alw.mp hy) fun r s hr hs e=>?_;have:=C.up r s hr hs;rw[e];unfold AnL;omega
 have hmx:decide (mx=0)=Aeq a:=by
  rw[Bool.eq_iff_iff,decide_eq_true_iff,C.all]
  constructor
  ·intro e r s hr hs;have hy:AnL f r s∈AmB f:=Alw.mpr ⟨r,s,hr,hs,rfl⟩;have h1:=q3 _ hy;have h2:=h0 _ hy;unfold AnL at h1 h2;omega
  ·intro h;refine Adf (Alw.mp q2) fun r s hr hs e=>?_;rw[e];unfold AnL;rw[h r s hr hs];omega
 refine AcF (rest:=[]) rfl rfl (AaJ (d:=.bool false) (AeY rfl (Aot rfl (Aby rfl rfl (Abs rfl (Aax rfl (Aai rfl) (Aam rfl)) m1) (Aaa rfl rfl) (Ama (Int.not_lt.mpr (h0 _ m2)))) rfl
  (Ald rfl (Aby rfl rfl (Aby rfl rfl (Abs rfl (Aax rfl (Aai rfl) (Aam rfl)) q1) (Aaa rfl rfl) (Adt _ _)) (Abs rfl (Aax rfl (Aai rfl) (Aam rfl)) (Ako a)) (AnN hmx))))) rfl) (Ab4 rfl) (Ab4 rfl)
noncomputable def gDC:Expr:=Aat (gS 2)
theorem AC7:gS 2=.Assign [.Name "leads" (AaG (gS 2)).pos] (.DictComp (ep gDC).a (dcV gDC) [⟨(gC gDC).target,(gC gDC).iter,[],0⟩] (Acs gDC) gDC.pos) (Abf (gS 2)):=by kernel_rfl!
theorem AzZ:Abq (Acs gDC) s_goe=true:=by kernel_rfl!
theorem AC8:Abu (gC gDC).iter=true:=by kernel_rfl!
noncomputable def T_r:Tb:=mkL (AcY [(.type "range",bRange)])
noncomputable def Alz(hf:Str→Int)(p:Nat→Str)(t:Nat→Nat):D:=.dict hf (R8.map p) (R8.map fun r=>.str (p (t r)))
structure Afo(p:Nat→Str):Prop where
 inj:∀ i j,i<8→j<8→p i=p j→i=j
 lay:∀ i,i<8→PyData.canLay0 (.str (p i))=true
theorem Afo.nodup{p:Nat→Str}(P:Afo p):(R8.map p).Nodup:=by refine List.pairwise_map.mpr (List.Pairwise.imp_of_mem (R:=fun a b:Nat=>a≠b) (fun ha hb h e=>h (P.inj _ _ (in8 ha) (in8 hb) e)) (show R8.Nodup by decide))
theorem Ad7(p:Nat→Str){i:Nat}(hi:i<8):Adw (.list (AgT p)) (.int (i:Int))=some (.str (p i)):=by refine Aek (Int.natCast_nonneg i) (show 8≤1000000 by decide) ?_;unfold AgT;rw[Int.toNat_natCast,List.getElem?_map,r8 hi];rfl
theorem AxO{B:Bs}{n:Nat}(W:LW B)(s:Shared)(g:Gh)(I:Inv B s g):AbO B n T_r s g:=AbN W (AaL (al (Ach W.O) an)) s g I
section
variable{B:Bs}{A:Around}{s₀ s s':Shared}{g₀ g g':Gh}{m n:Nat}{env:Env}
theorem AqY(W:LW B)(K:AbO B n T_r s₀ g₀)(hA:AOk n A)(e1:env.scope=s_goe){a:Row5}{f:Nat→Nat}(hf:∀ r,f r<8){p:Nat→Str}(P:Afo p){st:Nat}{G:D}
  (F:Fm B s₀ g₀ (Aak env.scope.names) env (("grows",G) :: rhG a f p st) s g) :
  wpAny B.M A (exec (gS 2) env) (fun fl s'=>fl=.next∧∃ g',Fm B s₀ g₀ (Aak env.scope.names) env (("leads",Alz (hashStr B.w) p f) :: ("grows",G) :: rhG a f p st) s' g') (fun _ _=>False) s:=by
 rw[AC7];refine wpAny_mono (AeA W.O hA.handled (pe:=firstIterPos [⟨(gC gDC).target,(gC gDC).iter,[],0⟩] gDC.pos) ⟨_,rfl⟩ rfl (fun _=>rfl) (AoD (k:=16) (x:=.rng 0 8) (items:=R8.map fun (r:Nat)=>.int (r:Int)) (out:=R8.map fun r=>(p r,.str (p (f r)))) W.O hA K AC8 (by rw[e1];exact AzZ) ?_ rfl ?_) (by rw[e1];kernel_rfl!) F) (fun fl s' h=>?_) fun _ _ h=>h.elim
 ·exact(AaD W.O K hA 8).1 _ env _ _ _ _ _ (by rw[e1];exact Abs rfl (Aax rfl (Aaa rfl rfl) (Aam rfl)) rfl) F
 ·rw[e1];refine AxN (key:=p) (val:=fun r=>.str (p (f r))) (ρ1:=fun r=>("r",.int (r:Int)) :: Aa7 (Acs gDC) (("grows",G) :: rhG a f p st)) R8 [] (fun r hr=>⟨by kernel_rfl!,?_,?_⟩) P.nodup (by decide)
  ·exact AaK rfl rfl (Aai rfl) (Aai rfl) (Ad7 p (in8 hr))
  ·exact AaK rfl rfl (Aai rfl) (AaK rfl rfl (Aai rfl) (Aai rfl) (Ab6 f (in8 hr))) (Ad7 p (hf r))
 ·refine Akr h fun g' d hd _ hfl F'=>⟨hfl,g',?_⟩;rw[hd,List.map_map,List.map_map] at F';exact F'
end
noncomputable def gE:Expr:=Aat (gS 3)
noncomputable def gW:Expr:=Aat (gS 4)
noncomputable def l1:Expr:=AlA gE
noncomputable def l2:Expr:=AlA gW
theorem AC9:gS 3=.Assign [.Name "eight" (AaG (gS 3)).pos] (.Call (.Name "reduce" (Acw gE)) [.Lambda (AbI l1) (lamBody l1) (Acs l1) l1.pos,AeU 1 gE,AeU 2 gE] [] gE.pos) (Abf (gS 3)):=by kernel_rfl!
theorem ADa:gS 4=.Assign [.Name "stops" (AaG (gS 4)).pos] (.Call (.Name "reduce" (Acw gW)) [.Lambda (AbI l2) (lamBody l2) (Acs l2) l2.pos,AeU 1 gW,AeU 2 gW] [] gW.pos) (Abf (gS 4)):=by kernel_rfl!
theorem Ahq:(Abt (AeU 1 gE)=true∧Abt (AeU 2 gE)=true)∧Abt (AeU 1 gW)=true∧Abt (AeU 2 gW)=true:=⟨⟨by kernel_rfl!,by kernel_rfl!⟩,by kernel_rfl!,by kernel_rfl!⟩
theorem AtT:∀ (fd:FuncData) (a b:Value),fd.params=AbI l1→fd.defaults=.none→fd.kwdefaults=.none→bindArgs fd ⟨[a,b],[]⟩=pure [(("table":Str),a),("k",b)]:=by
 intro q1;obtain⟨nm,qn,pr,bd,sc,gl,cl,df,kd,dc,pm,an,cd,ct,bt⟩:=q1;intro a b h1 h2 h3;simp only at h1 h2 h3;subst h1 h2 h3
 kernel_rfl!
theorem AtU:∀ (fd:FuncData) (a b:Value),fd.params=AbI l2→fd.defaults=.none→fd.kwdefaults=.none→bindArgs fd ⟨[a,b],[]⟩=pure [(("walk":Str),a),("k",b)]:=by
 intro q1;obtain⟨nm,qn,pr,bd,sc,gl,cl,df,kd,dc,pm,an,cd,ct,bt⟩:=q1;intro a b h1 h2 h3;simp only at h1 h2 h3;subst h1 h2 h3
 kernel_rfl!
theorem AwJ:AhI (AbI l1) ["table","k"]:=fun fd vs e1 e2 e3 e4=>L2 (P:=fun vs=>bindArgs fd ⟨vs,[]⟩=pure ([("table":Str),"k"].zip vs)) e4 fun u v=>AtT fd u v e1 e2 e3
theorem AwK:AhI (AbI l2) ["walk","k"]:=fun fd vs e1 e2 e3 e4=>L2 (P:=fun vs=>bindArgs fd ⟨vs,[]⟩=pure ([("walk":Str),"k"].zip vs)) e4 fun u v=>AtU fd u v e1 e2 e3
theorem AER:Ac4 (Acs l1) ["table","k"]=true:=by kernel_rfl!
theorem AES:Ac4 (Acs l2) ["walk","k"]=true:=by kernel_rfl!
theorem ADb:Ads (Acs l1) s_goe=true:=by kernel_rfl!
theorem ADc:Ads (Acs l2) s_goe=true:=by kernel_rfl!
theorem Az0(env:Env):defaultsOf (AbI l1) env=([],[]):=by kernel_rfl!
theorem Az1(env:Env):defaultsOf (AbI l2) env=([],[]):=by kernel_rfl!
theorem AET:Ac8 l1.pos.line l1.pos.col = "_law_goes.<locals>.<lambda>":=by kernel_rfl!
theorem AEU:Ac8 l2.pos.line l2.pos.col = "_law_goes.<locals>.<lambda>":=by kernel_rfl!
theorem AxP(p:Params):(Aaj p Aay).qualname = "_law_goes":=by kernel_rfl!
theorem AxQ(p:Params):(tabsL.any fun q=>(Aaj p Aay).code == .ref q.1)=true:=by kernel_rfl!
noncomputable abbrev rhL(L G:D)(a:Row5)(f:Nat→Nat)(p:Nat→Str)(st:Nat):Rho:=("leads",L) :: ("grows",G) :: rhG a f p st
theorem Az2(L G:D)(a:Row5)(f:Nat→Nat)(p:Nat→Str)(st:Nat):Aa7 (Acs l1) (rhL L G a f p st)=[(("paths":Str),.list (AgT p))]:=by kernel_rfl!
theorem Az3(E L G:D)(a:Row5)(f:Nat→Nat)(p:Nat→Str)(st:Nat):Aa7 (Acs l2) (("eight",E) :: rhL L G a f p st)=[(("leads":Str),L)]:=by kernel_rfl!
noncomputable def T1(hf:Str→Int):Tb:=Afl hf T_r 8
noncomputable def T2(hf:Str→Int):Tb:=Afl hf (T1 hf) 8
noncomputable def T3(hf:Str→Int):Tb:=AoJ hf (T2 hf) 8
theorem AmC{p:Nat→Str}(P:Afo p)(t:Nat→Nat){j:Nat}(hj:j<8):Ahy (p j) (R8.map p) (R8.map fun r=>.str (p (t r)))=some (.str (p (t j))):=
 Amz (F:=fun r=>.str (p (t r))) R8 (List.mem_range.mpr hj) fun i hi e=>P.inj _ _ hj (in8 hi) e
theorem Az4:Abq (Acs (lamBody l1)) (Acs l1)=true:=by kernel_rfl!
theorem ADd{hf:Str→Int}{T:Tb}{k:Nat}{sc:Scope}{ρ:Rho}{e:Expr}{c:Comprehension}{x:D}{items:List D}{kd:List (Str×D)}(h9:Nat.beq (Agz e) 9=true)(hg:one (ep e).g=some c)(hc:c.is_async=0∧Abu c.iter=true∧Abq (ep e).s sc=true)(hif:c.ifs=[])(hx:ev T k sc ρ c.iter=some x)(hi:AbK x=some items)
  (hk:AaW (Aak (ep e).s.names) (Aaw (ep e).s sc) (fun ρ e'=>Aa9 (ev T k (Aaw (ep e).s sc) ρ) e') c.target [] (Akk (ev T k (Aaw (ep e).s sc)) (ep e).a (dcV e)) (Aa7 (ep e).s ρ) items []=some kd):dcS hf T k sc ρ e=some (.dict hf (kd.map (·.1)) (kd.map (·.2))):=
 ift h9 (Aan hg (ift hc (Aan hx (Aan hi (Aan (by rw[hif];exact hk) rfl)))))
theorem ADe:Nat.beq (Agz (lamBody l1)) 9=true:=by kernel_rfl!
theorem ADf:one (ep (lamBody l1)).g=some (gC (lamBody l1)):=by kernel_rfl!
theorem ADg:(gC (lamBody l1)).ifs=[]:=by kernel_rfl!
theorem ADh:Abu (gC (lamBody l1)).iter=true:=by kernel_rfl!
theorem AEV:(gC (lamBody l1)).is_async=0:=by kernel_rfl!
theorem Az5(hf:Str→Int){p:Nat→Str}(P:Afo p){t:Nat→Nat}(ht:∀ r,t r<8)(d:D):Aq6 (T3 hf) 10 (Acs l1) "table" "k" (lamBody l1) [("paths",.list (AgT p))] [Alz hf p t,d]=some (Alz hf p fun r=>t (t r)):=by
 unfold Aq6;rw[if_pos (show[("table":Str),"k"].length=[Alz hf p t,d].length from rfl)];refine AsB rfl ?_;show dcS hf (T2 hf) 8 (Acs l1) [("k",d),("table",Alz hf p t),("paths",.list (AgT p))] (lamBody l1)=_;refine((ADd (T:=T2 hf) (k:=8) (x:=.list (AgT p)) (items:=AgT p) (kd:=R8.map fun r=>(p r,.str (p (t (t r))))) ADe ADf ⟨AEV,ADh,Az4⟩ ADg (Aai rfl) rfl ?_).trans ?_)
 ·refine AxN (key:=p) (val:=fun r=>.str (p (t (t r)))) (ρ1:=fun r=>[("path",.str (p r)),("table",Alz hf p t)]) R8 [] (fun r hr=>⟨by kernel_rfl!,Aai rfl,?_⟩) P.nodup (by decide);have hr:=in8 hr;exact Amp rfl rfl (Aai rfl) (Amp rfl rfl (Aai rfl) (Aai rfl) (Aai rfl) (Aai rfl) (AmC P t hr)) (Aai rfl) (Amp rfl rfl (Aai rfl) (Aai rfl) (Aai rfl) (Aai rfl) (AmC P t hr)) (AmC P t (ht r))
 ·rw[List.map_map,List.map_map];rfl
noncomputable def Afp(p:Nat→Str)(f:Nat→Nat)(st k:Nat):D:=.list ((List.range (k+1)).map fun j=>.str (p (it f st j)))
theorem AtV{l:List D}{d:D}(h:l.length<1000000):Adw (.list (l++[d])) (.int (-1))=some d:=by refine(if_pos ⟨by rw[List.length_append,List.length_singleton];exact Int.neg_le_neg (Int.ofNat_le.mpr (Nat.le_add_left 1 _)),by rw[List.length_append,List.length_singleton];exact h⟩).trans ?_;unfold Aw5;rw[if_pos (by decide),List.length_append,List.length_singleton,show((-1:Int)+((l.length+1:Nat):Int)).toNat=l.length by rw[Int.natCast_succ,Int.add_comm (l.length:Int),Int.neg_add_cancel_left];rfl,List.getElem?_append_right (Nat.le_refl _),Nat.sub_self];rfl
theorem AmD(p:Nat→Str)(f:Nat→Nat)(st:Nat){k:Nat}(hk:k<7):Adw (Afp p f st k) (.int (-1))=some (.str (p (it f st k))):=by unfold Afp;rw[List.range_succ,List.map_append];exact AtV (by rw[List.length_map,List.length_range];omega)
theorem Az6(hf:Str→Int){p:Nat→Str}(P:Afo p){f:Nat→Nat}(hlt:∀ r,f r<8){st:Nat}(hst:st<8){k:Nat}(hk:k<7)(d:D):Aq6 (T1 hf) 10 (Acs l2) "walk" "k" (lamBody l2) [("leads",Alz hf p f)] [Afp p f st k,d]=some (Afp p f st (k+1)):=by unfold Aq6;rw[if_pos (show[("walk":Str),"k"].length=[Afp p f st k,d].length from rfl)];refine Aa6 rfl (Aai rfl) (AgO rfl (Aax rfl (Amp (x:=p (it f st k)) rfl rfl (Aai rfl) (AaK rfl rfl (Aai rfl) (Asx rfl (Aaa rfl rfl) rfl) (AmD p f st hk)) (Aai rfl) (AaK rfl rfl (Aai rfl) (Asx rfl (Aaa rfl rfl) rfl) (AmD p f st hk)) (AmC P f (AmA hlt hst k))) (Aam rfl)) (show 1≤1000000 by decide)) ?_;refine(if_pos (show((List.range (k+1)).map fun j=>D.str (p (it f st j))).length+1≤1000000 by rw[List.length_map,List.length_range];omega)).trans ?_;unfold Afp;rw[List.range_succ (n:=k+1),List.map_append];rfl
section
variable{B:Bs}{A:Around}{s₀ s s':Shared}{g₀ g g':Gh}{m n:Nat}{env:Env}
theorem ADi(W:LW B)(I:Inv B s g):AbO B n (T1 (hashStr B.w)) s g:=Agv W.O (AxO W s g I) 8
theorem AEW(W:LW B)(I:Inv B s g):AbO B n (T3 (hashStr B.w)) s g:=AnK W.O (Agv W.O (ADi W I) 8) 8
theorem AqZ(W:LW B)(I₀:Inv B s₀ g₀)(hA:AOk (n+2) A)(e1:env.scope=s_goe)(e2:env.code=(Aaj B.w.params Aay).code)(e3:env.qual=(Aaj B.w.params Aay).qualname++".<locals>."){a:Row5}{f:Nat→Nat}(hf:∀ r,f r<8){p:Nat→Str}(P:Afo p){st:Nat}{G:D}
  (F:Fm B s₀ g₀ (Aak env.scope.names) env (rhL (Alz (hashStr B.w) p f) G a f p st) s g) :
  wpAny B.M A (exec (gS 3) env) (fun fl s'=>fl=.next∧∃ g',Fm B s₀ g₀ (Aak env.scope.names) env (("eight",Alz (hashStr B.w) p (sq f 3)) :: rhL (Alz (hashStr B.w) p f) G a f p st) s' g') (fun _ _=>False) s:=by
 rw[AC9];refine Ad9 (Afi (a:=Aay) W (AxQ B.w.params)) fun c P' hcd hmem=>?_;refine Acc rfl ((AnG (n:=n) (T:=T3 (hashStr B.w)) (k:=8) (kl:=10) (sq:=.rng 0 3) (init:=Alz (hashStr B.w) p f) (items:=AmP 3) (r:=Alz (hashStr B.w) p (sq f 3)) W (AEW W I₀) hA F (e2.trans hcd) hmem ?_ (Az0 env) AwJ AER (by rw[e1];exact ADb) (by rw[e1];kernel_rfl!) ?_ ?_ Ahq.1.1 Ahq.1.2 rfl rfl ?_).use fun v s1 g1 x1 hv=>(F.step x1).store W.O (Abi (by rw[e1];kernel_rfl!)) hv fun s2 F2 _=>⟨rfl,g1,F2⟩)
 ·rw[e3,AxP];exact AET
 ·rw[e1];exact Abs rfl (Aax rfl (Aaa rfl rfl) (Aam rfl)) rfl
 ·exact Aai rfl
 ·rw[Az2];exact Aje (W:=fun k=>Alz (hashStr B.w) p (sq f k)) (N:=3) (fun k d _=>Az5 _ P (AwE hf k) d) (AmP 3) 0 (by decide)
theorem Aq0(W:LW B)(I₀:Inv B s₀ g₀)(hA:AOk (n+2) A)(e1:env.scope=s_goe)(e2:env.code=(Aaj B.w.params Aay).code)(e3:env.qual=(Aaj B.w.params Aay).qualname++".<locals>."){a:Row5}{f:Nat→Nat}(hf:∀ r,f r<8){p:Nat→Str}(P:Afo p){st:Nat}(hst:st<8){G E:D}
  (F:Fm B s₀ g₀ (Aak env.scope.names) env (("eight",E) :: rhL (Alz (hashStr B.w) p f) G a f p st) s g) :
  wpAny B.M A (exec (gS 4) env) (fun fl s'=>fl=.next∧∃ g',Fm B s₀ g₀ (Aak env.scope.names) env (("stops",Afp p f st 7) :: ("eight",E) :: rhL (Alz (hashStr B.w) p f) G a f p st) s' g') (fun _ _=>False) s:=by
 rw[ADa];refine Ad9 (Afi (a:=Aay) W (AxQ B.w.params)) fun c P' hcd hmem=>?_;refine Acc rfl ((AnG (n:=n) (T:=T1 (hashStr B.w)) (k:=8) (kl:=10) (sq:=.rng 0 7) (init:=Afp p f st 0) (items:=AmP 7) (r:=Afp p f st 7) W (ADi W I₀) hA F (e2.trans hcd) hmem ?_ (Az1 env) AwK AES (by rw[e1];exact ADc) (by rw[e1];kernel_rfl!) ?_ ?_ Ahq.2.1 Ahq.2.2 rfl rfl ?_).use fun v s1 g1 x1 hv=>(F.step x1).store W.O (Abi (by rw[e1];kernel_rfl!)) hv fun s2 F2 _=>⟨rfl,g1,F2⟩)
 ·rw[e3,AxP];exact AEU
 ·rw[e1];exact Abs rfl (Aax rfl (Aaa rfl rfl) (Aam rfl)) rfl
 ·rw[e1];exact AgO rfl (Aax rfl (AaK rfl rfl (Aai rfl) (Aai rfl) (Ad7 p hst)) (Aam rfl)) (show 1≤1000000 by decide)
 ·rw[Az3];exact Aje (W:=fun k=>Afp p f st k) (N:=7) (fun k d hk=>Az6 _ P hf hst hk d) (AmP 7) 0 (by decide)
end
noncomputable def AEX(ty:String)(x:Str):Option String:=if (ty == "list" && x == "index")=true then some "list.index" else Abv ty x
noncomputable def AFF:Tb:={mkL (AcY [(.builtin "sorted",bSortS),(.ref AaI,turnsD),(.ref AaA,roundsD),(.builtin "list.index",bIndex),(.type "range",bRange),(.builtin "all",bAll),(.ref AaV,twosD)]) with meth:=AEX}
noncomputable def AFG(hf:Str→Int):Tb:=Afl hf AFF 8
theorem Az7{B:Bs}{n:Nat}(W:LW B)(s:Shared)(g:Gh)(I:Inv B s g):AbO B (n+1) AFF s g:=by
 have K:AbO B (n+1) (mkL (AcY [(.builtin "sorted",bSortS),(.ref AaI,turnsD),(.ref AaA,roundsD),(.builtin "list.index",bIndex),(.type "range",bRange),(.builtin "all",bAll),(.ref AaV,twosD)])) s g:=AbN W (AaL (al (Av6 W.O) (al (Aoz W) (al (Atg W) (al Av5 (al (Ach W.O) (al (Axc W.O) (al (Atd W) an)))))))) s g I;refine⟨K.glob,K.app,K.spec,K.stm,fun ty nm id h=>?_⟩;have h:(if (ty == "list" && nm == "index")=true then some "list.index" else Abv ty nm)=some id:=h
 by_cases hc:(ty == "list" && nm == "index")=true
 ·rw[if_pos hc] at h;have h1:=Bool.and_eq_true_iff.mp hc;rw[eq_of_beq h1.1,eq_of_beq h1.2,← sj h];exact⟨PySem.F.plainAttrs_list,PySem.F.slot_list_index,PySem.F.type_list_index⟩
 ·rw[if_neg hc] at h;exact AeH ty nm id h
theorem Agy:∀ (xs:List Str),Ac2 (xs.map D.str)=some xs
 |[]=>rfl
 |x :: xs=>Aan (Agy xs) rfl
noncomputable def Ajf(p:Nat→Str)(f:Nat→Nat)(st:Nat):List Str:=(List.range 8).map fun j=>p (it f st j)
theorem AtW(p:Nat→Str)(f:Nat→Nat)(st:Nat):Afp p f st 7=.list ((Ajf p f st).map D.str):=by unfold Afp Ajf;rw[List.map_map];rfl
theorem AmE(xs:List Str)(h:xs.length<64):bSortS [.list (xs.map D.str)]=some (.list ((Agw xs).map D.str)):=by show(Ac2 (xs.map D.str)).bind (fun xs=>if xs.length<64 then some (D.list ((Agw xs).map D.str)) else none)=_;rw[Agy];exact if_pos h
theorem ADj{p:Nat→Str}(P:Afo p){x:Nat}(hx:x<8):bIndex [.list (AgT p),.str (p x)]=some (.int (x:Int)):=by
 show(Ac2 ((R8.map p).map D.str)).bind (fun xs=>if xs.length<1000000 then (xs.findIdx? (fun y=>y.cps.toList == (p x).cps.toList)).map (fun (j:Nat)=>D.int j) else none)=_;rw[Agy];show(if (R8.map p).length<1000000 then ((R8.map p).findIdx? (fun y=>y.cps.toList == (p x).cps.toList)).map (fun (j:Nat)=>D.int j) else none)=_;rw[if_pos (show(R8.map p).length<1000000 by show 8<1000000;decide)];have hget:∀ j (hj:j<(R8.map p).length),(R8.map p)[j]=p j:=fun j hj=>by
  have h8:j<8:=hj;have:=List.getElem?_eq_getElem hj;rw[List.getElem?_map,r8 h8] at this;exact(sj this).symm
 have hx':x<(R8.map p).length:=hx;rw[List.findIdx?_eq_some_iff_getElem.mpr ⟨hx',by rw[hget x hx'];exact beq_self_eq_true _,fun j hj e=>by
  rw[hget j (Nat.lt_trans hj hx')] at e;exact absurd (P.inj _ _ (Nat.lt_trans hj hx) hx (Atv (eq_of_beq e))) (Nat.ne_of_lt hj)⟩];rfl
section
variable{a:Row5}{f:Nat→Nat}{p:Nat→Str}{st:Nat}
theorem AwL(C:Ad6 f (Aeq a) (Acp a))(P:Afo p):((R8.map fun r=>p (sq f 3 r)) == R8.map p)=Aeq a:=by
 rw[Bool.eq_iff_iff,beq_iff_eq,C.eight]
 constructor
 ·intro h r hr;have:=congrArg (fun l:List Str=>l[r]?) h;simp only[List.getElem?_map,r8 hr,Option.map_some,Option.some.injEq] at this;exact P.inj _ _ (AwE C.lt 3 r) hr this
 ·intro h;exact List.map_congr_left fun r hr=>congrArg p (h r (in8 hr))
theorem Az8(C:Ad6 f (Aeq a) (Acp a))(P:Afo p)(hst:st<8):(Agw (Ajf p f st) == Agw (R8.map p))=Acp a:=by
 cases h:Acp a with
 |true=>
  have hp:(Ajf p f st).Perm (R8.map p):=by have:=(C.perm h st hst).1.map p;rw[List.map_map] at this;exact this
  rw[Av4 hp];exact beq_self_eq_true _
 |false=>
  refine Aab (C.miss h st hst) fun j hj hm=>beq_eq_false_iff_ne.mpr fun e=>?_;have hp:(Ajf p f st).Perm (R8.map p):=(AcZ _).symm.trans (e ▸ AcZ _);have hin:p j∈Ajf p f st:=hp.mem_iff.mpr (List.mem_map.mpr ⟨j,List.mem_range.mpr hj,rfl⟩);refine Aab (List.mem_map.mp hin) fun k hk e=>?_;exact hm k (List.mem_range.mp hk) (P.inj _ _ (AmA C.lt hst k) hj e)
noncomputable abbrev rhS(hf:Str→Int)(G:D)(a:Row5)(f:Nat→Nat)(p:Nat→Str)(st:Nat):Rho:=("stops",Afp p f st 7) :: ("eight",Alz hf p (sq f 3)) :: rhL (Alz hf p f) G a f p st
theorem ADk(hf:Str→Int){G:D}(C:Ad6 f (Aeq a) (Acp a))(P:Afo p)(hst:st<8)(ha:a.a2.natAbs<2 ^ 64) :
  ex ((AFG hf).stm (Aak s_goe.names) s_goe) (ev (AFG hf) 16 s_goe) (Aak s_goe.names) s_goe 20 (rhS hf G a f p st) [gS 5,gS 6,gS 7,gS 8]=some (.ret (.bool true)):=by
 have hw:(Ajf p f st).length=8:=by unfold Ajf;rw[List.length_map,List.length_range]
 have lw:∀ x∈Ajf p f st,PyData.canLay0 (.str x)=true:=fun x hx=>by
  refine Aab (List.mem_map.mp hx) fun k _ e=>?_;rw[← e];exact P.lay _ (AmA C.lt hst k)
 have lp:∀ x∈R8.map p,PyData.canLay0 (.str x)=true:=fun x hx=>by
  refine Aab (List.mem_map.mp hx) fun k hk e=>?_;rw[← e];exact P.lay _ (in8 hk)
 have l8:∀ x∈R8.map (fun r=>p (sq f 3 r)),PyData.canLay0 (.str x)=true:=fun x hx=>by
  refine Aab (List.mem_map.mp hx) fun k hk e=>?_;rw[← e];exact P.lay _ (AwE C.lt 3 k)
 have q1:eqD (.list (R8.map fun r=>.str (p (sq f 3 r)))) (.list (AgT p))=some (Aeq a):=(AoI l8 lp).trans (congrArg some (AwL C P));have q2:eqD (.list ((Agw (Ajf p f st)).map D.str)) (.list ((Agw (R8.map p)).map D.str))=some (Acp a):=(AoI (fun x hx=>lw x ((AcZ _).mem_iff.mp hx)) fun x hx=>lp x ((AcZ _).mem_iff.mp hx)).trans (congrArg some (Az8 C P hst));have s1:bSortS [Afp p f st 7]=some (.list ((Agw (Ajf p f st)).map D.str)):=by rw[AtW];exact AmE _ (by rw[hw];decide)
 have s2:bSortS [.list (AgT p)]=some (.list ((Agw (R8.map p)).map D.str)):=AmE (R8.map p) (show 8<64 by decide);refine AcF (rest:=[gS 6,gS 7,gS 8]) rfl rfl (AaJ (d:=.bool false) (AeY rfl (Aot (a:=.bool false) rfl (Aby (q:=false) rfl rfl (Aby (q:=Aeq a) rfl rfl (Afq (x:=.list (AgT p)) rfl ⟨rfl,rfl,by kernel_rfl!⟩ (Aai rfl) rfl ?_) (Aai rfl) q1) (Abs rfl (Aax rfl (Aai rfl) (Aam rfl)) (Ako a)) (AnN rfl)) rfl
  (Ald rfl (Aby (q:=false) rfl rfl (Aby (q:=Acp a) rfl rfl (Abs rfl (Aax rfl (Aai rfl) (Aam rfl)) s1) (Abs rfl (Aax rfl (Aai rfl) (Aam rfl)) s2) q2) (Abs rfl (Aax rfl (Aai rfl) (Aam rfl)) (Afn a ha)) (AnN rfl))))) rfl) (Ab4 rfl) ?_
 ·refine AbD (ρ1:=fun r=>[("path",.str (p r)),("eight",Alz hf p (sq f 3))]) (f:=fun r=>.str (p (sq f 3 r))) R8 [] (fun r hr=>⟨by kernel_rfl!,?_⟩) (by decide);exact Amp rfl rfl (Aai rfl) (Aai rfl) (Aai rfl) (Aai rfl) (AmC P (sq f 3) (in8 hr))
 refine AcE (rest:=[gS 7,gS 8]) (d:=.list (Alu (it f st))) rfl rfl (.inr rfl) (Afq (x:=Afp p f st 7) rfl ⟨rfl,rfl,by kernel_rfl!⟩ (Aai rfl) rfl ?_) (by kernel_rfl!) ?_
 ·refine AbD (h:=fun j=>.str (p (it f st j))) (ρ1:=fun j=>[("stop",.str (p (it f st j))),("paths",.list (AgT p))]) (f:=fun j=>.int (it f st j:Int)) R8 [] (fun j hj=>⟨by kernel_rfl!,?_⟩) (by decide);exact Adn (id:="list.index") rfl rfl ⟨rfl,rfl,by decide⟩ (Aai rfl) rfl (by kernel_rfl!) rfl (Aax rfl (Aai rfl) (Aam rfl)) (ADj P (AmA C.lt hst j))
 cases hrd:Acp a with
 |false=>
  refine AcF (rest:=[gS 8]) rfl rfl (AaJ (d:=.bool false) (Abs rfl (Aax rfl (Aai rfl) (Aam rfl)) ((Afn a ha).trans (by rw[hrd]))) rfl) (Ab4 rfl) ?_;exact Aco rfl rfl (Aaa rfl rfl)
 |true=>
  have pl:∀ k:Nat,k<8→Adw (.list (Alu (it f st))) (.int (k:Int))=some (.int (it f st k:Int)):=fun k hk=>Ab6 (it f st) hk;refine Akd (rest:=[gS 8]) rfl rfl (AaJ (d:=.bool true) (Abs rfl (Aax rfl (Aai rfl) (Aam rfl)) ((Afn a ha).trans (by rw[hrd]))) rfl) ?_;refine Aco rfl rfl (AiU (F:=bAll) (ds:=[.list ((R8.map fun k=>(low k).map fun m=>D.bool true).flatten)]) rfl rfl (AeW rfl rfl rfl rfl rfl rfl) rfl (Aax rfl (Afq (x:=.rng 0 8) (items:=R8.map fun (r:Nat)=>.int (r:Int)) rfl ⟨rfl,rfl,by kernel_rfl!⟩ (Abs rfl (Aax rfl (Aaa rfl rfl) (Aam rfl)) rfl) rfl ?_) (Aam rfl)) (AoK fun d hd=>?_))
  ·refine AxM (h2:=fun (j:Nat)=>D.int (j:Int)) (M:=low) (f:=fun k m=>D.bool true) (ρ1:=fun k=>[("k",.int (k:Int)),("places",.list (Alu (it f st))),("depths",Ahp)]) (ρ2:=fun k m=>[("m",.int (m:Int)),("k",.int (k:Int)),("places",.list (Alu (it f st))),("depths",Ahp)]) ⟨rfl,rfl⟩ rfl R8 [] (fun k hk=>⟨by kernel_rfl!,?_,fun m hm=>⟨by kernel_rfl!,?_⟩⟩) (by decide)
   ·exact Aan (Abs rfl (Aax rfl (Aai rfl) (Aam rfl)) rfl) (Acm k (by have:=in8 hk;omega))
   ·have hk:=in8 hk;have hm:=List.mem_range.mp hm;have hm8:=Nat.lt_trans hm hk;exact Aby rfl rfl (AaK rfl rfl (AaK rfl rfl (Aai rfl) (AaK rfl rfl (Aai rfl) (Aai rfl) (pl k hk)) (AnM (AmA C.lt hst k))) (AaK rfl rfl (Aai rfl) (Aai rfl) (pl m hm8)) (Ab6 (Amu (it f st k)) (AmA C.lt hst m))) (Abs rfl (Aax rfl (Aa6 rfl (Aai rfl) (Aai rfl) rfl) (Aam rfl)) (AtR hk hm)) (AsC (by rw[(C.perm hrd st hst).2 k m hk hm]))
  ·refine Aab (List.mem_flatten.mp hd) fun l hl hy=>?_;refine Aab (List.mem_map.mp hl) fun k _ e=>?_;subst e;exact Aab (List.mem_map.mp hy) fun m _ e=>e.symm
end
noncomputable def Az9(a:Row5)(f:Nat→Nat)(p:Nat→Str)(st:Nat)(ds:List D):Option D:=open Classical in if ds=[a.v,.list (Alu f),.list (AgT p),Ahp,.int (st:Int)] then some (.bool true) else none
noncomputable def AEY(f:Nat→Nat)(ds:List D):Option D:=open Classical in if ds=[.list (Alu f),Ahp] then some (.bool true) else none
section
variable{B:Bs}{m:Nat}{a:Row5}{f:Nat→Nat}{p:Nat→Str}{st:Nat}
theorem AAa(W:LW B)(C:Ad6 f (Aeq a) (Acp a))(P:Afo p)(hst:st<8)(ha:a.a2.natAbs<2 ^ 64):Abw B (m+4) (.ref Aay) (Az9 a f p st):=by
 have D0:=(AjL W.G);refine Aab D0.obj fun o ho hdat=>?_;refine⟨.inr (.inr ⟨_,o,_,rfl,ho,hdat⟩),fun A s g vs ds r hA I hd hr=>?_⟩;unfold Az9 at hr;refine Aaz (AAI hr) fun he hr'=>?_
 cases hr';subst he
 refine AhF W.O D0 hA I hd rfl fun env s1 e1 e2 e3 F=>AeT fun QQ EE hPost=>?_;have hA':AOk (m+3) (A.deeper env):=hA.deeper;rw[AcH] at e1;rw[AcH,show(Aad (nth AbG))=env.scope from e1.symm] at F;have F:Fm B s g (Aak env.scope.names) env (rhG a f p st) s1 g:=F;have e1:env.scope=s_goe:=e1;have K1:AbO B (m+3) ADH s g:=AbN W (AaL (al (Axa W.O) (al (Axb W.O) (al (Aoz W) (al (Ach W.O) an))))) s g I;have W1:=AC6 C p st;rw[← e1] at W1;rw[show Aac (nth AbG)=[gS 0,gS 1]++([gS 2]++([gS 3]++([gS 4]++[gS 5,gS 6,gS 7,gS 8]))) from AwH];refine Ack ((AbW W.O K1 hA' 20 _ _ _ s1 g W1 F).use fun fl s2 g2 l2 en=>?_);refine Aaz en fun z F2=>?_;subst z;refine wpAny_execs_cons (wpAny_mono (AqY W (AxO W s g I) hA' e1 C.lt P F2) (fun fl s3 h=>?_) fun _ _ h=>h.elim);refine Aaz h fun z h3=>?_;subst z;refine Abm h3 fun g3 F3=>?_;refine wpAny_execs_cons (wpAny_mono (AqZ (n:=m+1) W I hA' e1 e2 e3 C.lt P F3) (fun fl s4 h=>?_) fun _ _ h=>h.elim);refine Aaz h fun z h4=>?_;subst z;refine Abm h4 fun g4 F4=>?_;refine wpAny_execs_cons (wpAny_mono (Aq0 (n:=m+1) W I hA' e1 e2 e3 C.lt P hst F4) (fun fl s5 h=>?_) fun _ _ h=>h.elim);refine Aaz h fun z h5=>?_;subst z;refine Abm h5 fun g5 F5=>?_;refine wpAny_mono (Acj W.O (Agv W.O (Az7 (n:=m+2) W s g I) 8) hA' F5 (k:=16) (m:=20) (r:=.bool true) ?_) hPost fun _ _ h=>h.elim;rw[e1];exact ADk (hashStr B.w) C P hst ha
theorem ADl(W:LW B){t rd:Bool}(C:Ad6 f t rd):Abw B (m+10) (.ref Aao) (AEY f):=by
 refine Aab ((Adm W.G).obj) fun o ho hdat=>?_;refine⟨.inr (.inr ⟨_,o,_,rfl,ho,hdat⟩),fun A s g vs ds r hA I hd hr=>?_⟩;unfold AEY at hr;refine Aaz (AAI hr) fun he hr'=>?_
 cases hr';subst he
 obtain⟨P,Q,h1,h2,h3,h4,h5⟩:=C.ord
 exact AwA W hA I C.lt hd h1 h2 h3 h4 h5
end
noncomputable def eS(i:Nat):Stmt:=(Al4[i]?).getD AbJ
noncomputable def eB:Stmt:=((loopOf (eS 4))[0]?).getD AbJ
noncomputable abbrev s_led:Scope:=Asp
theorem AwM:Al4=[eS 0,eS 1,eS 2]++([eS 3]++([eS 4]++[eS 5])):=by kernel_rfl!
theorem ADm:eS 3=.Assign [.Name "goals" (AaG (eS 3)).pos] (.BinOp (binL (Aat (eS 3))) .Mult (binR (Aat (eS 3))) (Aat (eS 3)).pos) (Abf (eS 3)):=by kernel_rfl!
theorem ADn:eS 4=.For (AaG (eS 4)) (iterOf (eS 4)) [eB] [] (Abf (eS 4)):=by kernel_rfl!
theorem AEZ:eB=.Assign [.Subscript (AoS (AaG eB)) (Aub (AaG eB)) (AaG eB).pos] (Aat eB) (Abf eB):=by kernel_rfl!
theorem AAb:Abq (Acs (Aat (eS 0))) s_led=true:=by kernel_rfl!
theorem AAc:Abq (Acs (Aat (eS 1))) s_led=true:=by kernel_rfl!
theorem AAd:Abq (Acs (cmpR (testOf (eS 2)))) s_led=true:=by kernel_rfl!
noncomputable def AE0:Tb:=mkL (AcY [(.ref Aas,dividedD),(.ref AaU,worthD)])
noncomputable def Row5.ok(a:Row5):Prop:=a.a0.natAbs≤4∧a.a1.natAbs≤4∧a.a2.natAbs≤4∧a.a3.natAbs≤4∧a.a4.natAbs≤4
theorem Row5.small(a:Row5)(h:a.ok):a.l.all small=true:=by show(decide _ && (decide _ && (decide _ && (decide _ && (decide _ && true)))))=true;rw[decide_eq_true h.1,decide_eq_true h.2.1,decide_eq_true h.2.2.1,decide_eq_true h.2.2.2.1,decide_eq_true h.2.2.2.2];rfl
theorem AmF{a:Row5}(h:a.ok){x:Int}(hx:x.natAbs≤20):dividedD [a.v,.int x]=some (.tup [.int ((a.w x).fdiv 8),.int ((a.w x).fmod 8)]):=by show(Ab2 (a.l.map D.int)).bind (fun cs=>if cs.length=5∧cs.all Mine.small=true∧x.natAbs≤20 then some (D.tup [.int ((AfP x cs.reverse).fdiv 8),.int ((AfP x cs.reverse).fmod 8)]) else none)=_;rw[show Ab2 (a.l.map D.int)=some a.l from rfl];exact if_pos ⟨rfl,a.small h,hx⟩
theorem Akp{l:List D}{xs:List Int}(h:Ab2 l=some xs):bSum [.list l]=some (.int xs.sum):=Aan h rfl
noncomputable def wE:Expr:=AlA (Aat ((AiC[0]?).getD AbJ))
theorem AwN:Abq (Acs wE) AiD=true:=by kernel_rfl!
noncomputable def AAe(a:Row5)(k:Nat):Int:=a.l.getD k 0
theorem AtX(a:Row5){k:Nat}(hk:k<5):Adw a.v (.int (k:Int))=some (.int (AAe a k)):=by refine Aek (Int.natCast_nonneg k) (show 5≤1000000 by decide) ?_;show((List.range 5).map fun k=>D.int (AAe a k))[(k:Int).toNat]?=_;rw[Int.toNat_natCast,List.getElem?_map,List.getElem?_range hk];rfl
theorem Aq1{a:Row5}(h:a.ok){k:Nat}(hk:k<5):(AAe a k).natAbs≤4:=by
 have:=List.all_eq_true.mp (a.small h) (AAe a k) (by
  unfold AAe;rw[List.getD_eq_getElem?_getD,List.getElem?_eq_getElem (show k<a.l.length from hk)];exact List.getElem_mem _)
 exact of_decide_eq_true this
theorem AtY{x:Int}(hx:x.natAbs≤20){k:Nat}(hk:k<5):(x ^ k).natAbs<2 ^ 64:=by rw[Int.natAbs_pow];exact Nat.lt_of_le_of_lt (Nat.le_trans (Nat.pow_le_pow_left hx k) (Nat.pow_le_pow_right (by decide) (Nat.le_of_lt hk))) (show 20 ^ 5<2 ^ 64 by decide)
theorem Aq2{a:Row5}(h:a.ok){x:Int}(hx:x.natAbs≤20):worthD [a.v,.int x]=some (.int (a.w x)):=by rw[← AEM];refine Akn rfl (Aco rfl rfl (AiU (F:=bSum) (ds:=[.list ((List.range 5).map fun k=>.int (AAe a k*x ^ k))]) rfl rfl (AeW rfl rfl rfl rfl rfl rfl) rfl (Aax rfl (Afq (x:=.rng 0 5) (items:=AmP 5) rfl ⟨rfl,rfl,AwN⟩ (Abs rfl (Aax rfl (Aaa rfl rfl) (Aam rfl)) rfl) rfl ?_) (Aam rfl)) (Akp (xs:=[a.a0*x ^ 0,a.a1*x ^ 1,a.a2*x ^ 2,a.a3*x ^ 3,a.a4*x ^ 4]) rfl)));refine AbD (ρ1:=fun k=>[("k",.int (k:Int)),("x",.int x),("row",a.v)]) (f:=fun k=>.int (AAe a k*x ^ k)) (List.range 5) [] (fun k hk=>⟨by kernel_rfl!,?_⟩) (by decide);have hk:=List.mem_range.mp hk;refine Aa6 rfl (AaK rfl rfl (Aai rfl) (Aai rfl) (AtX a hk)) (Aa6 rfl (Aai rfl) (Aai rfl) (if_pos ⟨Int.natCast_nonneg k,by omega,Nat.lt_of_le_of_lt hx (by decide)⟩)) ?_;rw[Int.toNat_natCast];exact AsD ⟨Nat.lt_of_le_of_lt (Aq1 h hk) (by decide),AtY hx hk⟩
noncomputable def xV(b:Int):List D:=R8.map fun (j:Nat)=>.int (b+(j:Int))
noncomputable abbrev rhE(a:Row5)(p:Nat→Str)(st:Nat)(b:Int):Rho:=[("start",.int (st:Int)),("depths",Ahp),("paths",.list (AgT p)),("numbers",.list (xV b)),("row",a.v)]
noncomputable def AnO(a:Row5)(b:Int):D:=.list (R8.map fun (j:Nat)=>.tup [.int ((a.w (b+(j:Int))).fdiv 8),.int ((a.w (b+(j:Int))).fmod 8)])
noncomputable def ADo(a:Row5)(b:Int):D:=.list (R8.map fun (j:Nat)=>.int (a.w (b+(j:Int))))
theorem AE1{a:Row5}(h:a.ok)(p:Nat→Str)(st:Nat){b:Int}(hb:∀ j:Nat,j<8→(b+(j:Int)).natAbs≤20) :
  ex (AE0.stm (Aak s_led.names) s_led) (ev AE0 16 s_led) (Aak s_led.names) s_led 20 (rhE a p st b) [eS 0,eS 1,eS 2]=some (.next (("worths",ADo a b) :: ("pairs",AnO a b) :: rhE a p st b)):=by
 refine AcE (rest:=[eS 1,eS 2]) (d:=AnO a b) rfl rfl (.inr rfl) (Afq (x:=.list (xV b)) rfl ⟨rfl,rfl,AAb⟩ (Aai rfl) rfl (AbD (ρ1:=fun j=>[("x",.int (b+(j:Int))),("row",a.v)]) (f:=fun (j:Nat)=>.tup [.int ((a.w (b+(j:Int))).fdiv 8),.int ((a.w (b+(j:Int))).fmod 8)]) R8 [] (fun j hj=>⟨by kernel_rfl!,?_⟩) (by decide))) (by kernel_rfl!) ?_
 ·exact Abs rfl (Aax rfl (Aai rfl) (Aax rfl (Aai rfl) (Aam rfl))) (AmF h (hb j (in8 hj)))
 refine AcE (rest:=[eS 2]) (d:=ADo a b) rfl rfl (.inr rfl) (Afq (x:=.list (xV b)) rfl ⟨rfl,rfl,AAc⟩ (Aai rfl) rfl (AbD (ρ1:=fun j=>[("x",.int (b+(j:Int))),("row",a.v)]) (f:=fun (j:Nat)=>.int (a.w (b+(j:Int)))) R8 [] (fun j hj=>⟨by kernel_rfl!,?_⟩) (by decide))) (by kernel_rfl!) ?_
 ·exact Abs rfl (Aax rfl (Aai rfl) (Aax rfl (Aai rfl) (Aam rfl))) (Aq2 h (hb j (in8 hj)))
 refine AcF (rest:=[]) rfl rfl (AaJ (d:=.bool false) (Aby (a:=AnO a b) (b:=AnO a b) (q:=false) rfl rfl (Aai rfl) (Afq (x:=ADo a b) rfl ⟨rfl,rfl,AAd⟩ (Aai rfl) rfl (AbD (h:=fun (j:Nat)=>.int (a.w (b+(j:Int)))) (ρ1:=fun j=>[("worth",.int (a.w (b+(j:Int))))]) (f:=fun (j:Nat)=>.tup [.int ((a.w (b+(j:Int))).fdiv 8),.int ((a.w (b+(j:Int))).fmod 8)]) R8 [] (fun j hj=>⟨by kernel_rfl!,?_⟩) (by decide))) (AfN (Ad4 (k:=2) (AbY fun d hd=>?_) (by decide)))) rfl) (Ab4 rfl) (Ab4 rfl)
 ·exact Afg rfl (Aax rfl (Aa6 rfl (Aai rfl) (Aaa rfl rfl) (AsE ⟨by decide,by decide⟩)) (Aax rfl (Aa6 rfl (Aai rfl) (Aaa rfl rfl) (Afh (by decide))) (Aam rfl))) (show 2≤1000000 by decide)
 ·refine Aab (List.mem_map.mp hd) fun j _ e=>?_;rw[← e];exact AfR fun d hd=>(List.mem_cons.mp hd).elim (fun q=>q ▸ AdD _) fun hd=>by rw[List.mem_singleton.mp hd];exact AdD _
noncomputable def nxE(c:Nat)(f:Nat→Nat)(d:D)(us:List (List D)):Option (List (List D)):=Acf d fun j=>if 0≤j∧j.toNat<8∧Nat.beq us.length 1=true∧Nat.beq (us.getD 0 []).length 8=true then some (us.set 0 ((us.getD 0 []).set ((c+j.toNat) % 8) (.int (f ((c+j.toNat) % 8):Int)))) else none
theorem AwO(f:Nat→Nat):R8.map (fun c=>(AmP 8).foldlM (fun us d=>nxE c f d us) [List.replicate 8 (D.int 0)])=R8.map fun _=>some [Alu f]:=by kernel_rfl!
theorem AAf(f:Nat→Nat){c:Nat}(hc:c<8):(AmP 8).foldlM (fun us d=>nxE c f d us) [List.replicate 8 (D.int 0)]=some [Alu f]:=by have:=congrArg (fun l:List (Option (List (List D)))=>l[c]?) (AwO f);simp only[List.getElem?_map,r8 hc,Option.map_some,Option.some.injEq] at this;exact this
noncomputable abbrev rhX(La:Addr)(a:Row5)(p:Nat→Str)(st:Nat)(b:Int):Rho:=("goals",.val (.ref La)) :: ("worths",ADo a b) :: ("pairs",AnO a b) :: rhE a p st b
theorem AoL(ρ:Rho)(d:D):Acy (Aak s_led.names) s_led (AaG (eS 4)) d ρ=some ((("k":Str),d) :: ρ):=by kernel_rfl!
theorem AAg:Abu (iterOf (eS 4))=true:=by kernel_rfl!
theorem ADp(b:Int){j:Nat}(hj:j<8):Adw (.list (xV b)) (.int (j:Int))=some (.int (b+(j:Int))):=by refine Aek (Int.natCast_nonneg j) (show 8≤1000000 by decide) ?_;unfold xV;rw[Int.toNat_natCast,List.getElem?_map,r8 hj];rfl
theorem AtZ(a:Row5)(b:Int){j:Nat}(hj:j<8):Adw (AnO a b) (.int (j:Int))=some (.tup [.int ((a.w (b+(j:Int))).fdiv 8),.int ((a.w (b+(j:Int))).fmod 8)]):=by refine Aek (Int.natCast_nonneg j) (show 8≤1000000 by decide) ?_;rw[Int.toNat_natCast,List.getElem?_map,r8 hj];rfl
theorem At0{b:Int}{c:Nat}(hc:b % 8=(c:Int))(j:Nat):(b+(j:Int)) % 8=(((c+j) % 8:Nat):Int):=by
 rw[Int.add_emod,hc]
 push_cast
 rw[Int.add_emod_emod]
noncomputable def AGc(a:Row5)(f:Nat→Nat)(p:Nat→Str)(st:Nat):Tb:=mkL (AcY [(.ref Aay,Az9 a f p st),(.ref Aao,AEY f)])
noncomputable def AFH(a:Row5)(p:Nat→Str)(st:Nat)(b:Int)(ds:List D):Option D:=open Classical in if ds=[a.v,.list (xV b),.list (AgT p),Ahp,.int (st:Int)] then some (.bool true) else none
noncomputable def ADI:Tb:=mkL (AcY [(.type "range",bRange)])
section
variable{B:Bs}{A:Around}{s₀ s s':Shared}{g₀ g g':Gh}{m n:Nat}{env:Env}{a:Row5}{f:Nat→Nat}{p:Nat→Str}{st:Nat}{b:Int}
theorem AwP(W:LW B)(K:AbO B n ADI s₀ g₀)(hA:AOk n A)(e1:env.scope=s_led){La:Addr}(h0:s₀.heap.get? La=none)(hfa:∀ x:Int,(a.w x).fmod 8=(f (x % 8).toNat:Int)){c:Nat}(hc:b % 8=(c:Int)){j:Nat}(hj:j<8){us:List (List D)}(h1:us.length=1)(h8:(us.getD 0 []).length=8)
  (C:OM B s₀ g₀ (Aak env.scope.names) env [La] (("k",.int (j:Int)) :: rhX La a p st b) us s g) :
  wpAny B.M A (execs [eB] env) (Aln B s₀ g₀ (Aak env.scope.names) env [La] (rhX La a p st b) (us.set 0 ((us.getD 0 []).set ((c+j) % 8) (.int (f ((c+j) % 8):Int)))) s g) (fun _ _=>False) s:=by
 have hi:(b+(j:Int)).fmod 8=(((c+j) % 8:Nat):Int):=by rw[AtP];exact At0 hc j
 have hv:(a.w (b+(j:Int))).fmod 8=(f ((c+j) % 8):Int):=by rw[hfa,At0 hc j,Int.toNat_natCast]
 refine wpAny_execs_cons (wpAny_mono (OM.store (k:=16) (T:=ADI) (r:=0) (a:=La) (d:=.int (f ((c+j) % 8):Int)) (j:=(((c+j) % 8:Nat):Int)) W.O K hA C (List.nodup_cons.mpr ⟨List.not_mem_nil,List.nodup_nil⟩) (fun x hx=>by rw[List.mem_singleton.mp hx];exact h0) (by rw[h1];rfl) AEZ rfl ?_ (by rw[e1];exact Aai rfl) ?_ rfl (Int.natCast_nonneg _) (by omega) (by rw[h8];exact Nat.mod_lt _ (by decide))) (fun fl s1 h=>?_) fun _ _ h=>h.elim)
 ·rw[e1];exact AaK rfl rfl (AaK rfl rfl (Aai rfl) (Aai rfl) (AtZ a b hj)) (Aaa rfl rfl) (congrArg (fun x=>some (D.int x)) hv)
 ·rw[e1];exact Aa6 rfl (AaK rfl rfl (Aai rfl) (Aai rfl) (ADp b hj)) (Aaa rfl rfl) ((Afh (by decide)).trans (congrArg (fun x=>some (D.int x)) hi))
 refine Aaz h fun z h2=>?_;subst z;refine Aab h2 fun g1 l1 C1=>?_;refine wpAny_execs_nil ⟨rfl,g1,l1,C1.weaken fun x d hx=>?_⟩;have hne:x≠"k":=by intro e;subst e;exact Aah (show(none:Option D)=some d from hx)
 rw[Aaf,if_neg hne];exact hx
theorem AxR(W:LW B)(ha:a.ok)(hb:∀ j:Nat,j<8→(b+(j:Int)).natAbs≤20)(hfa:∀ x:Int,(a.w x).fmod 8=(f (x % 8).toNat:Int))(C:Ad6 f (Aeq a) (Acp a))(P:Afo p)(hst:st<8):Abw B (m+17) (.ref Abb) (AFH a p st b):=by
 have D0:=(Ak5 W.G);refine Aab D0.obj fun o ho hdat=>?_;refine⟨.inr (.inr ⟨_,o,_,rfl,ho,hdat⟩),fun A s g vs ds r hA I hd hr=>?_⟩;unfold AFH at hr;refine Aaz (AAI hr) fun he hr'=>?_
 cases hr';subst he
 refine AhF W.O D0 hA I hd rfl fun env s1 e1 e2 e3 F=>AeT fun QQ EE hPost=>?_;have hA':AOk (m+16) (A.deeper env):=hA.deeper;rw[Ac7] at e1;rw[Ac7,show(Aad (nth AcD))=env.scope from e1.symm] at F;have F:Fm B s g (Aak env.scope.names) env (rhE a p st b) s1 g:=F;have e1:env.scope=s_led:=e1;have K1:AbO B (m+16) AE0 s g:=AbN W (AaL (al (AqS W) (al ((AvL (m:=m) W).up (by omega)) an))) s g I;have K4:AbO B (m+16) ADI s g:=AbN W (AaL (al (Ach W.O) an)) s g I;have K5:AbO B (m+16) (AGc a f p st) s g:=AbN W (AaL (al ((AAa (m:=m) W C P hst (Nat.lt_of_le_of_lt ha.2.2.1 (by decide))).up (by omega)) (al ((ADl (m:=m) W C).up (by omega)) an))) s g I
 obtain⟨c,hc8,hc⟩:∃ c:Nat,c<8∧b % 8=(c:Int):=⟨(b % 8).toNat,eml b (n:=8) (by decide),emn b (by decide)⟩
 have W1:=AE1 ha p st hb;rw[← e1] at W1;rw[show Aac (nth AcD)=[eS 0,eS 1,eS 2]++([eS 3]++([eS 4]++[eS 5])) from AwM];refine Ack ((AbW W.O K1 hA' 20 _ _ _ s1 g W1 F).use fun fl s2 g2 l2 en=>?_);refine Aaz en fun z F2=>?_;subst z;refine wpAny_execs_cons ?_;rw[ADm];refine Acc rfl (Atx (k:=8) (c:=[.int 0]) (m:=8) W.O K4 hA' rfl (AgO rfl (Aax rfl (Aaa rfl rfl) (Aam rfl)) (by decide)) (Aaa rfl rfl) (by decide) (by decide) (fun g vs h=>?_) F2 fun s3 g3 vs x3 hvs=>?_)
 ·induction h using Aar.consE with|cons h1 h=>?_
  induction h using Aar.nilE;induction h1 using Den.intE;exact .cons .int .nil
 have F3:=F2.step x3;have x4:=Aae.open (o:=Abc vs 0) W.O F3.inv;have F4:=F3.step x4;have hLa:(s3.heap.push (Abc vs 0)).get? s3.heap.objs.size=some (Abc vs 0):=Heap.get?_push_size _ rfl;have sLa:s.heap.get? s3.heap.objs.size=none:=F3.st.ext.dead (AaM _);have gLa:g3 s3.heap.objs.size=none:=F3.inv.fresh;generalize s3.heap.objs.size=La at hLa sLa gLa;refine F4.store W.O (Abi (by rw[e1];kernel_rfl!)) (.val (v:=.ref La)) fun s5 F5 k5=>?_;have C5:OM B s g (Aak env.scope.names) env [La] (rhX La a p st b) [List.replicate 8 (D.int 0)] s5 g3:=⟨F5,fun i x hi=>by
  cases i with
  |zero=>
   cases hi
   exact⟨vs,⟨0,k5 La _ (F4.notL ⟨0,hLa⟩) hLa⟩,hvs.mono fun _ _ h=>Aah h⟩
  |succ i=>exact Aah hi,fun x hx=>by rw[List.mem_singleton.mp hx];exact gLa⟩
 refine wpAny_execs_cons (wpAny_mono (OM.stFor (k:=16) (T:=ADI) (xv:=.rng 0 8) W.O K4 hA' (fun _=>rhX La a p st b) id (fun d us=>nxE c f d us) ADn AAg (fun d x x' ρ₁ s g hx hbd C=>?_) (fun d x x' hx=>⟨_,by rw[e1];exact AoL _ d⟩) (fun x hx=>by rw[List.mem_singleton.mp hx];exact sLa) C5 ?_ (Acm 8 (by decide)) (AAf f hc8)) (fun fl s6 h=>?_) fun _ _ h=>h.elim)
 ·refine Aab (Aap hx) fun j q hx=>?_;subst q;refine Aaz (Abg hx) fun hh hx=>?_;rw[e1,AoL] at hbd;rw[← sj hx];rw[← sj hbd,show j=((j.toNat:Nat):Int) from(Int.toNat_of_nonneg hh.1).symm] at C;exact AwP W K4 hA' e1 sLa hfa hc hh.2.1 (Nat.eq_of_beq_eq_true hh.2.2.1) (Nat.eq_of_beq_eq_true hh.2.2.2) C
 ·rw[e1];exact Abs rfl (Aax rfl (Aaa rfl rfl) (Aam rfl)) rfl
 refine Aaz h fun z h6=>?_;subst z;refine Aab h6 fun g6 l6 C6=>?_;dsimp only;refine Aab (C6.has 0 La rfl) fun vs6 t1 t2=>?_;refine Abm t1 fun cc ec=>?_;have F7:=C6.F.shutL (ρ':=("goals",.list (Alu f)) :: ("worths",ADo a b) :: ("pairs",AnO a b) :: rhE a p st b) ec sLa (C6.nog La (.head _)) (show Aar g6 vs6.toList (Alu f) from t2) (fun y d hy=>by
  rw[Aaf] at hy ⊢
  by_cases h:y = "goals"
  ·rw[if_pos h] at hy ⊢;cases hy;exact .inr ⟨rfl,rfl⟩
  ·rw[if_neg h] at hy ⊢;exact .inl hy)
 refine wpAny_mono (Acj W.O K5 hA' F7 (k:=16) (m:=20) (r:=.bool true) ?_) hPost fun _ _ h=>h.elim;rw[e1];exact Aco rfl rfl (AeY rfl (AqX (p:=true) rfl (Abs rfl (Aax rfl (Aai rfl) (Aax rfl (Aai rfl) (Aax rfl (Aai rfl) (Aax rfl (Aai rfl) (Aax rfl (Aai rfl) (Aam rfl)))))) (if_pos rfl)) (Ald rfl (Abs rfl (Aax rfl (Aai rfl) (Aax rfl (Aai rfl) (Aam rfl))) (if_pos rfl)))))
end
noncomputable def T_z:Tb:=mkL (AcY [])
noncomputable def AxS:Tb:={mkL (AcY [(.type "range",bRange),(.ref Aen,splD),(.ref Ade,d2iD)]) with spec:=ACx T_z}
noncomputable def readD:List D→Option D:=fnD AxS 16 24 ["path"] Aqm Aqn
theorem ADq{B:Bs}{n:Nat}(W:LW B)(s:Shared)(g:Gh)(I:Inv B s g):AbO B n T_z s g:=AbN W (AaL fun p hp=>by cases hp) s g I
theorem AAh{B:Bs}{m:Nat}(W:LW B):Abw B (m+13) (.ref Aa4) readD:=by
 have h:=Acg (n:=m+12) (T:=AxS) W.O (k:=16) (m:=24) (Ajy W.G) (fun s g I=>by
  have K:AbO B (m+12) (mkL (AcY [(.type "range",bRange),(.ref Aen,splD),(.ref Ade,d2iD)])) s g:=AbN W (AaL (al (Ach W.O) (al ((ACg (m:=m) W).up (by omega)) (al ((Axv (m:=m) W).up (by omega)) an)))) s g I;exact⟨K.glob,K.app,fun _ _ _ _ _ _ _ _ hA h F=>AvI W.O W.cls.sys ((ADq (n:=m+12) W s g I)) hA h F,K.stm,K.meth⟩)
 rw[Aeh] at h;exact h
noncomputable def AAi:D→Option Str
 |.str x=>some x
 |_=>none
theorem At1{d:D}{x:Str}(h:AAi d=some x):d=.str x:=by
 revert h;induction d using D.casesOn<;>first|exact fun h=>congrArg D.str (sj h)|exact Aah
noncomputable def AE2(x:Str):Option (Str×Int):=(readD [.str x]).bind fun d=>(ADV d).bind fun p=>(AAi p.1).bind fun a=>(Ard p.2).bind fun b=>some (a,b)
noncomputable def ADr(d:D):Option (List Str):=Acx d Ac2
noncomputable def R4:List Nat:=[0,1,2,3]
theorem AAj:(R4.all fun i=>R8.all fun r=>(bSplit [.str (Abl i r),.str "/"]).bind ADr == some (("":Str) :: Aep i r))=true:=by kernel_rfl
theorem AAk:(R4.all fun i=>R8.all fun r=>(AvJ ((("":Str) :: Aep i r).map D.str)).bind ADr == some (Aep i r))=true:=by kernel_rfl!
theorem AAl:(R4.all fun i=>R8.all fun r=>Txt.startswith (Abl i r) "/")=true:=by kernel_rfl!
theorem AAm:(R4.all fun i=>R8.all fun r=>(low r).all fun s=>AFw ((Aep i r).map D.str) ((Aep i s).map D.str) == some (Ad2 (Amt i r s)))=true:=by kernel_rfl!
theorem AAn:(R4.all fun i=>R8.all fun r=>(leafD [.int (r:Int),Abz (Abk i)]).bind AAi == some (Abl i r))=true:=by kernel_rfl!
theorem AwQ:(R4.all fun i=>R8.all fun r=>AE2 (Abl i r) == some (Ad2 (Abk i),(r:Int)))=true:=by kernel_rfl!
theorem AwR:(R4.all fun i=>(textD [Abz (Abk i)]).bind AAi == some (Ad2 (Abk i)))=true:=by kernel_rfl!
theorem AwS:(R4.all fun i=>R8.all fun r=>(low r).all fun s=>(textD [Abz (Amt i r s)]).bind AAi == some (Ad2 (Amt i r s)))=true:=by kernel_rfl!
theorem AAo:(R4.all fun i=>(List.range 41).all fun t=>(fullD [.int ((t:Int) - 20),Abz (Abk i)]).bind ADr == some (Aep i ((t:Int) - 20)))=true:=by kernel_rfl!
theorem AwT:(R4.all fun i=>R8.all fun r=>(textD [Abz (Aep i (r:Int))]).bind AAi == some (Abl i r))=true:=by kernel_rfl!
theorem AAp:(R4.all fun i=>R8.all fun r=>(low r).all fun s=>(Afs (Abz (Aep i (r:Int))) none (some (((Abk i).length:Int)+(Alq (r - s):Int))) none).bind ADr == some (Amt i r s))=true:=by kernel_rfl!
theorem AAq:(R4.all fun i=>R8.all fun r=>PyData.canLay0 (.str (Abl i r)) && (R8.all fun s=>(Abl i r == Abl i s) == Nat.beq r s))=true:=by kernel_rfl!
theorem At2:(R4.all fun i=>PyData.canLay0 (.str (Ad2 (Abk i))) && (R8.all fun r=>(low r).all fun s=>PyData.canLay0 (.str (Ad2 (Amt i r s)))))=true:=by kernel_rfl!
theorem AwU:(R4.all fun i=>(Abk i).all fun x=>PyData.canLay0 (.str x))=true:=by kernel_rfl!
theorem in4{i:Nat}(h:i<4){q:Nat→Bool}(hq:R4.all q=true):q i=true:=List.all_eq_true.mp hq i (List.mem_range.mpr h)
theorem Akq:∀ {l:List D} {xs:List Str},Ac2 l=some xs→l=xs.map D.str
 |[],xs,h=>by cases h;rfl
 |d :: l,xs,h=>by
  refine Aab (AaN h) fun x q h=>?_;refine Aab (Aag h) fun ys e h=>?_
  cases h;rw[q,Akq e];rfl
theorem Alx{o:Option D}{xs:List Str}(h:(o.bind ADr == some xs)=true):o=some (Abz xs):=by refine Aab (Aag (eq_of_beq h)) fun d e h=>?_;refine Aab (AaT h) fun l q h=>?_;rw[e,q,Akq h];rfl
theorem Aly{o:Option D}{x:Str}(h:(o.bind AAi == some x)=true):o=some (.str x):=by refine Aab (Aag (eq_of_beq h)) fun d e h=>?_;rw[e,At1 h]
section
variable{i:Nat}(hi:i<4)
include hi
theorem AAr{r:Nat}(hr:r<8):leafD [.int (r:Int),Abz (Abk i)]=some (.str (Abl i r)):=Aly (AmQ (in4 hi AAn) hr)
theorem AnP{x:Int}(hx:x.natAbs≤20):fullD [.int x,Abz (Abk i)]=some (Abz (Aep i x)):=by have h0:0≤x+20:=Int.add_le_add_right (AAP hx).1 20;have h:=Ajb (in4 hi AAo) (i:=(x+20).toNat) ((Int.toNat_lt h0).mpr (Int.lt_of_le_of_lt (Int.add_le_add_right (AAP hx).2 20) (by decide)));have e:(((x+20).toNat:Nat):Int) - 20=x:=(congrArg (· - 20) (Int.toNat_of_nonneg h0)).trans (Int.add_sub_cancel x 20);rw[e] at h;exact Alx h
theorem At3{r:Nat}(hr:r<8):textD [Abz (Aep i (r:Int))]=some (.str (Abl i r)):=Aly (AmQ (in4 hi AwT) hr)
theorem AAs:textD [Abz (Abk i)]=some (.str (Ad2 (Abk i))):=Aly (in4 hi AwR)
theorem AAt{r s:Nat}(hr:r<8)(hs:s<r):textD [Abz (Amt i r s)]=some (.str (Ad2 (Amt i r s))):=Aly (AeN (in4 hi AwS) hr hs)
theorem ADs{r s:Nat}(hr:r<8)(hs:s<r):Afs (Abz (Aep i (r:Int))) none (some (((Abk i).length:Int)+(Alq (r - s):Int))) none=some (Abz (Amt i r s)):=Alx (AeN (in4 hi AAp) hr hs)
theorem AAu{r:Nat}(hr:r<8):readD [.str (Abl i r)]=some (.tup [.str (Ad2 (Abk i)),.int (r:Int)]):=by
 have h:=eq_of_beq (AmQ (in4 hi AwQ) hr);refine Aab (Aag h) fun d e h=>?_;refine Aab (Aag h) fun q e2 h=>?_;refine Aab (Aag h) fun a e3 h=>?_;refine Aab (Aag h) fun b e4 h=>?_
 cases h
 rw[e,Arf e2,At1 e3,Adq e4]
theorem AoM{r:Nat}(hr:r<8):Azn (Abl i r) ((Aep i r).map D.str):=by exact⟨⟨_,Alx (AmQ (in4 hi AAj) hr),Alx (AmQ (in4 hi AAk) hr)⟩,AmQ (in4 hi AAl) hr⟩
theorem Ahr:Afo (Abl i):=by have h:=fun r hr=>Bool.and_eq_true_iff.mp (AmQ (in4 hi AAq) (i:=r) hr);exact⟨fun r s hr hs e=>Nat.eq_of_beq_eq_true ((eq_of_beq (AmQ (h r hr).2 hs)).symm.trans (by rw[e];exact beq_self_eq_true _)),fun r hr=>(h r hr).1⟩
end
theorem AnQ{a b r:Str}(h:comD [.list [.str a,.str b]]=some (.str r)):sharedD [.str a,.str b]=some (.tup [.str r,.list [.str a,.str b]]):=
 Akn rfl (AcE (d:=.list [.str a,.str b]) rfl rfl (.inl rfl) (AgO rfl (Aax rfl (Aai rfl) (Aax rfl (Aai rfl) (Aam rfl))) (show 2≤1000000 by decide)) (by kernel_rfl!)
  (AcE (d:=.str r) rfl rfl (.inl rfl) (Abs rfl (Aax rfl (Aai rfl) (Aam rfl)) h) (by kernel_rfl!)
   (Aco rfl rfl (Afg rfl (Aax rfl (Aai rfl) (Aax rfl (Aai rfl) (Aam rfl))) (show 2≤1000000 by decide)))))
theorem At4{i:Nat}(hi:i<4){r s:Nat}(hr:r<8)(hs:s<r):sharedD [.str (Abl i r),.str (Abl i s)]=some (.tup [.str (Ad2 (Amt i r s)),.list [.str (Abl i r),.str (Abl i s)]]):=
 AnQ (Atb (AoM hi hr) (AoM hi (Nat.lt_trans hs hr)) (eq_of_beq (AeN (in4 hi AAm) hr hs)))
noncomputable def Ahj(t:Int):Nat:=((t+1) % 4).toNat
theorem AoN(t:Int):Ahj t<4:=by exact eml (t+1) (n:=4) (by decide)
theorem AmG{sc:List D}{xs:List Int}(h:Ab2 sc=some xs):rootD [.list sc]=some (Abz (Abk (Ahj xs.sum))):=by
 refine Akn rfl (Aco rfl rfl (AaK (a:=.list [Abz (Abk 0),Abz (Abk 1),Abz (Abk 2),Abz (Abk 3)]) (b:=.int (Ahj xs.sum:Int)) rfl rfl (by kernel_rfl!) (Aa6 (a:=.int (xs.sum+1)) rfl (Aa6 rfl (Abs rfl (Aax rfl (Aai rfl) (Aam rfl)) (Akp h)) (Aaa rfl rfl) rfl) (Aaa rfl rfl) ((Afh (by decide)).trans (congrArg (fun x=>some (D.int x)) ?_))) (Aek (Int.natCast_nonneg _) (show 4≤1000000 by decide) ?_)))
 ·unfold Ahj;rw[AzX];exact emn _ (by decide)
 ·rw[Int.toNat_natCast];show(R4.map fun j=>Abz (Abk j))[Ahj xs.sum]?=_;rw[List.getElem?_map,show R4[Ahj xs.sum]?=some (Ahj xs.sum) from(List.getElem?_range (AoN _):(List.range 4)[Ahj xs.sum]?=some (Ahj xs.sum))];rfl
theorem AmH{l:List D}{xs:List Int}(h:Ab2 l=some xs):∀ is:List Nat,∃ ys,Ab2 (is.filterMap (l[·]?))=some ys:=by
 have hm:=Ags h;intro is;induction is with
 |nil=>exact⟨[],rfl⟩
 |cons i is ih=>
  refine Abm ih fun ys hy=>?_
  cases hd:l[i]? with
  |none=>rw[List.filterMap_cons_none (by exact hd)];exact⟨ys,hy⟩
  |some d=>
   rw[List.filterMap_cons_some (by exact hd)];rw[hm,List.getElem?_map] at hd;refine Aab (Option.map_eq_some_iff.mp hd) fun x hx q1=>?_;subst q1;exact⟨x :: ys,Aan hy rfl⟩
noncomputable def AmI(k:Nat):Nat:=atN [7,1,5,2,5,5,6,5,3,7] k
noncomputable def AFI(l:List D)(k:Nat):Int:=((Ab2 (AoV l (some (k:Int)) none (some 10))).getD []).sum
noncomputable def AoO(l:List D)(k:Nat):Int:=(AFI l k+(AmI k:Int)).fmod 8 - 4
noncomputable def rwE:Expr:=Aat ((Aka[1]?).getD AbJ)
theorem AAv:Abq (Acs rwE) Akb=true:=by kernel_rfl!
noncomputable def AnR(l:List D):Row5:=⟨AoO l 0,AoO l 1,AoO l 2,AoO l 3,AoO l 4⟩
noncomputable def AnS(l:List D):Row5:=⟨AoO l 5,AoO l 6,AoO l 7,AoO l 8,AoO l 9⟩
theorem AbH(l:List D)(k:Nat):(AoO l k).natAbs≤4:=by unfold AoO;rw[AtP];exact AFe (n:=4) (Int.sub_le_sub_right (Int.emod_nonneg _ (by decide)) 4) (Int.sub_le_sub_right (Int.le_of_lt (Int.emod_lt_of_pos _ (by decide))) 4)
theorem At5(l:List D):(AnR l).ok∧(AnS l).ok:=⟨⟨AbH l 0,AbH l 1,AbH l 2,AbH l 3,AbH l 4⟩,AbH l 5,AbH l 6,AbH l 7,AbH l 8,AbH l 9⟩
noncomputable def R10:List Nat:=List.range 10
theorem At6{l:List D}{xs:List Int}(h:Ab2 l=some xs)(hl:l.length≤1000000):rowsD [.list l]=some (.list [(AnR l).v,(AnS l).v]):=by
 refine Akn rfl (AcE (d:=.list (R10.map fun k=>.int (AmI k:Int))) rfl rfl (.inl rfl) (by kernel_rfl!) (by kernel_rfl!) ?_);refine AcE (d:=.list (R10.map fun k=>.int (AoO l k))) rfl rfl (.inr rfl) (Afq (x:=.rng 0 10) (items:=R10.map fun (k:Nat)=>.int (k:Int)) rfl ⟨rfl,rfl,AAv⟩ (Abs rfl (Aax rfl (Aaa rfl rfl) (Aam rfl)) rfl) rfl ?_) (by kernel_rfl!) ?_
 ·refine AbD (ρ1:=fun k=>("k",.int (k:Int)) :: Aa7 (Acs rwE) [("starts",.list (R10.map fun k=>.int (AmI k:Int))),("script",.list l)]) (f:=fun k=>.int (AoO l k)) R10 [] (fun k hk=>⟨by kernel_rfl!,?_⟩) (by decide);have hk:k<10:=List.mem_range.mp hk;refine Abm (AmH h (sliceRange (sliceBounds (some (k:Int)) none (some 10) l.length).1 (sliceBounds (some (k:Int)) none (some 10) l.length).2.1 (sliceBounds (some (k:Int)) none (some 10) l.length).2.2)) fun ys hy=>?_;have hs:AFI l k=ys.sum:=congrArg (fun o:Option (List Int)=>(o.getD []).sum) hy;have s0:Afs (.list l) (some (k:Int)) none (some 10)=some (.list (AoV l (some (k:Int)) none (some 10))):=if_pos ⟨by decide,hl⟩;have hst:Adw (.list (R10.map fun k=>.int (AmI k:Int))) (.int (k:Int))=some (.int (AmI k:Int)):=by refine Aek (Int.natCast_nonneg k) (show 10≤1000000 by decide) ?_;rw[Int.toNat_natCast,List.getElem?_map,show R10[k]?=some k from List.getElem?_range hk];rfl
  refine Aa6 rfl (Aa6 rfl (Aa6 rfl (Abs (d:=.int ys.sum) rfl (Aax rfl (AdX rfl (Aai rfl) (AeX rfl (Aai rfl)) (AbS rfl) (AeX rfl (Aaa rfl rfl)) s0) (Aam rfl)) (Akp hy)) (AaK rfl rfl (Aai rfl) (Aai rfl) hst) rfl) (Aaa rfl rfl) (Afh (by decide))) (Aaa rfl rfl) ?_;rw[← hs];rfl
 refine Aco rfl rfl (AgO rfl (Aax rfl (d:=(AnR l).v) (AdX rfl (Aai rfl) (AbS rfl) (AeX rfl (Aaa rfl rfl)) (AbS rfl) (by kernel_rfl!)) (Aax rfl (d:=(AnS l).v) (AdX rfl (Aai rfl) (AeX rfl (Aaa rfl rfl)) (AbS rfl) (AbS rfl) (by kernel_rfl!)) (Aam rfl))) (show 2≤1000000 by decide))
noncomputable def zS(i:Nat):Stmt:=((Aac (nth AgN))[i]?).getD AbJ
noncomputable abbrev s_l:Scope:=ABy
theorem AwV:Aac (nth AgN)=[zS 0,zS 1,zS 2,zS 3,zS 4,zS 5,zS 6,zS 7,zS 8,zS 9,zS 10,zS 11,zS 12,zS 13,zS 14]:=by kernel_rfl!
theorem AgU:∀ (n:Nat) (x:Int),AeP x n=(List.range n).map fun (j:Nat)=>D.int (x+(j:Int))
 |0,_=>rfl
 |n+1,x=>by
  show D.int x :: AeP (x+1) n=_;rw[AgU n (x+1),List.range_succ_eq_map,List.map_cons,List.map_map];refine(congrArg (· :: _) (show D.int x=D.int (x+(0:Nat)) by rw[Int.natCast_zero,Int.add_zero])).trans (congrArg (_ :: ·) (List.map_congr_left fun j _=>?_));show D.int (x+1+(j:Int))=D.int (x+((j+1:Nat):Int));rw[Int.natCast_add,Int.add_assoc,Int.add_comm 1];rfl
theorem AAw(x:Int){p m:Int}(hp:p≠0)(e:p*(2*m)=8):x / p % 2=x % 8 / p % 2:=by have h:=Int.emod_add_mul_ediv x 8;generalize x % 8=r,x / 8=q at h ⊢;rw[← h,← e,Int.mul_assoc,Int.add_mul_ediv_left _ _ hp,Int.mul_assoc,Int.add_mul_emod_self_left]
theorem AwW(i:Nat)(x:Int):Aep i x=Aep i (((x % 8).toNat:Nat):Int):=by
 unfold Aep Ath;refine congrArg (Abk i++·) (List.map_congr_left fun k hk=>?_);have e:∀ k:Nat,k<3→(x / 2 ^ k) % 2=((((x % 8).toNat:Nat):Int) / 2 ^ k) % 2:=fun k hk=>by
  rw[Int.toNat_of_nonneg (Int.emod_nonneg x (by decide))]
  match k,hk with
  |0,_=>exact AAw x (m:=4) (by decide) (by decide)
  |1,_=>exact AAw x (m:=2) (by decide) (by decide)
  |2,_=>exact AAw x (m:=1) (by decide) (by decide)
 rw[e k (List.mem_range.mp hk)]
noncomputable def ADt(a a':Row5)(p:Nat→Str)(st:Nat)(b:Int)(ds:List D):Option D:=open Classical in if ds=[a.v,.list (xV b),.list (AgT p),Ahp,.int (st:Int)]∨ds=[a'.v,.list (xV b),.list (AgT p),Ahp,.int (st:Int)] then some (.bool true) else none
noncomputable def AnT(i:Nat)(a a':Row5)(st:Nat)(b:Int):Tb:=mkL (AcY [(.builtin "sum",bSum),(.type "range",bRange),(.builtin "len",bLen),(.builtin "all",bAll),(.ref Ac6,idmD),(.ref Aa0,rootD),(.ref Aa1,leafD),(.ref Aa3,textD),(.ref Aa2,fullD),(.ref Aa4,readD),(.ref AaE,sharedD),(.ref AaV,twosD),(.ref AaF,ADE i),(.ref AaZ,rowsD),(.ref Abb,ADt a a' (Abl i) st b)])
noncomputable def rj(b:Int)(j:Nat):Nat:=((b+(j:Int)) % 8).toNat
theorem AwX(b:Int)(j:Nat):rj b j<8:=tlt _ (n:=8) (by decide)
theorem ADu(b:Int)(j:Nat):(b+(j:Int)).fmod 8=(rj b j:Int):=by unfold rj;rw[AtP,Int.toNat_of_nonneg (Int.emod_nonneg _ (by decide))]
theorem ADv{i:Nat}(hi:i<4)(b:Int)(j:Nat):textD [Abz (Aep i (b+(j:Int)))]=some (.str (Abl i (rj b j))):=by rw[AwW];exact At3 hi (AwX b j)
noncomputable def dvV(b:Int):D:=.list (R8.map fun (j:Nat)=>.tup [.int ((b+(j:Int)).fdiv 8),.int ((b+(j:Int)).fmod 8)])
noncomputable def lfV(i:Nat)(b:Int):D:=.list (R8.map fun j=>.str (Abl i (rj b j)))
noncomputable def rdV(i:Nat)(b:Int):D:=.list (R8.map fun j=>.tup [.str (Ad2 (Abk i)),.int (rj b j:Int)])
noncomputable abbrev rhA(i:Nat)(b M:Int)(sc:List D):Rho:=[("leaves",lfV i b),("divided",dvV b),("root",Abz (Abk i)),("numbers",.list (xV b)),("middle",.int M),("script",.list sc)]
theorem m20{M:Int}(h:-16≤M∧M≤15){j:Nat}(hj:j<8):(M - 4+(j:Int)).natAbs≤20:=
 AFe (n:=20) (Int.le_trans (Int.sub_le_sub_right h.1 4) (Int.le_add_of_nonneg_right (Int.natCast_nonneg j))) (Int.le_trans (Int.add_le_add (Int.sub_le_sub_right h.2 4) (Int.ofNat_le.mpr (Nat.le_of_lt hj))) (by decide))
theorem ADw(M:Int)(h:-16≤M∧M≤15):AbK (.rng (M - 4) (M+4))=some (R8.map fun (j:Nat)=>.int (M - 4+(j:Int))):=by refine(if_pos ⟨Int.le_trans (by decide) (Int.sub_le_sub_right h.1 4),Int.le_trans (Int.sub_le_sub_right h.2 4) (by decide),Int.le_trans (by decide) (Int.add_le_add_right h.1 4),Int.le_trans (Int.add_le_add_right h.2 4) (by decide)⟩).trans ?_;rw[show M+4 - (M - 4)=8 by omega,show(8:Int).toNat=8 from rfl,AgU];rfl
section
variable{i:Nat}(hi:i<4)(a a':Row5)(st:Nat)
include hi
theorem AE3{M:Int}(hM:-16≤M∧M≤15){sc:List D}{xs ys:List Int}(hx:Ab2 sc=some xs)(hr:Ahj xs.sum=i)(hy:Ab2 (AoV sc none none (some 3))=some ys)(hs:(ys.sum+16).fmod 32 - 16=M)(hl:sc.length≤1000000) :
  ex ((AnT i a a' st (M - 4)).stm (Aak s_l.names) s_l) (ev (AnT i a a' st (M - 4)) 16 s_l) (Aak s_l.names) s_l 30 [("script",.list sc)] [zS 0,zS 1,zS 2,zS 3,zS 4,zS 5]=some (.next (rhA i (M - 4) M sc)):=by
 have root:rootD [.list sc]=some (Abz (Abk i)):=by rw[AmG hx,hr]
 have hb:∀ j:Nat,j<8→(M - 4+(j:Int)).natAbs≤20:=fun j hj=>m20 hM hj;refine AcE (rest:=[zS 1,zS 2,zS 3,zS 4,zS 5]) (d:=.int M) rfl rfl (.inl rfl) (Aa6 (a:=.int ((ys.sum+16).fmod 32)) rfl (Aa6 rfl (Aa6 rfl (Abs (d:=.int ys.sum) rfl (Aax rfl (AdX rfl (Aai rfl) (AbS rfl) (AbS rfl) (AeX rfl (Aaa rfl rfl)) (if_pos ⟨by decide,hl⟩)) (Aam rfl)) (Akp hy)) (Aaa rfl rfl) rfl) (Aaa rfl rfl) (Afh (by decide))) (Aaa rfl rfl) (congrArg (fun x=>some (D.int x)) hs)) (by kernel_rfl!) ?_;refine AcE (rest:=[zS 2,zS 3,zS 4,zS 5]) (d:=.list (xV (M - 4))) rfl rfl (.inr rfl) (Afq (x:=.rng (M - 4) (M+4)) rfl ⟨rfl,rfl,by kernel_rfl!⟩ (Abs rfl (Aax rfl (Aa6 rfl (Aai rfl) (Aaa rfl rfl) rfl) (Aax rfl (Aa6 rfl (Aai rfl) (Aaa rfl rfl) rfl) (Aam rfl))) rfl) (ADw M hM) (AbD (ρ1:=fun j=>[("x",.int (M - 4+(j:Int)))]) (f:=fun (j:Nat)=>.int (M - 4+(j:Int))) R8 [] (fun j hj=>⟨by kernel_rfl!,Aai rfl⟩) (by decide))) (by kernel_rfl!) ?_;generalize M - 4=b at hb ⊢;refine AcE (rest:=[zS 3,zS 4,zS 5]) (d:=Abz (Abk i)) rfl rfl (.inl rfl) (Abs rfl (Aax rfl (Aai rfl) (Aam rfl)) root) (by kernel_rfl!) ?_;refine AcE (rest:=[zS 4,zS 5]) (d:=dvV b) rfl rfl (.inr rfl) (Afq (x:=.list (xV b)) rfl ⟨rfl,rfl,by kernel_rfl!⟩ (Aai rfl) rfl (AbD (ρ1:=fun j=>[("x",.int (b+(j:Int)))]) (f:=fun (j:Nat)=>.tup [.int ((b+(j:Int)).fdiv 8),.int ((b+(j:Int)).fmod 8)]) R8 [] (fun j hj=>⟨by kernel_rfl!,?_⟩) (by decide))) (by kernel_rfl!) ?_
 ·exact Abs rfl (Aax rfl (Aai rfl) (Aax rfl (Aaa rfl rfl) (Aam rfl))) (AFA (Nat.lt_of_le_of_lt (hb j (in8 hj)) (by decide)))
 refine AcF (rest:=[zS 5]) rfl rfl (AaJ (d:=.bool false) (Aby (a:=dvV b) (b:=dvV b) (q:=false) rfl rfl (Aai rfl) (Afq (x:=.list (xV b)) rfl ⟨rfl,rfl,by kernel_rfl!⟩ (Aai rfl) rfl (AbD (ρ1:=fun j=>[("x",.int (b+(j:Int)))]) (f:=fun (j:Nat)=>.tup [.int ((b+(j:Int)).fdiv 8),.int ((b+(j:Int)).fmod 8)]) R8 [] (fun j hj=>⟨by kernel_rfl!,?_⟩) (by decide))) (AfN (Ad4 (k:=2) (AbY fun d hd=>?_) (by decide)))) rfl) (Ab4 rfl) ?_
 ·exact Afg rfl (Aax rfl (Aa6 rfl (Aai rfl) (Aaa rfl rfl) (AsE ⟨by decide,by decide⟩)) (Aax rfl (Aa6 rfl (Aai rfl) (Aaa rfl rfl) (Afh (by decide))) (Aam rfl))) (show 2≤1000000 by decide)
 ·refine Aab (List.mem_map.mp hd) fun j _ e=>?_;rw[← e];exact AfR fun d hd=>(List.mem_cons.mp hd).elim (fun q=>q ▸ AdD _) fun hd=>by rw[List.mem_singleton.mp hd];exact AdD _
 refine AcE (rest:=[]) (d:=lfV i b) rfl rfl (.inr rfl) (Afq (x:=dvV b) rfl ⟨rfl,rfl,by kernel_rfl!⟩ (Aai rfl) rfl (AbD (h:=fun (j:Nat)=>.tup [.int ((b+(j:Int)).fdiv 8),.int ((b+(j:Int)).fmod 8)]) (ρ1:=fun j=>[("pair",.tup [.int ((b+(j:Int)).fdiv 8),.int ((b+(j:Int)).fmod 8)]),("root",Abz (Abk i))]) (f:=fun j=>.str (Abl i (rj b j))) R8 [] (fun j hj=>⟨by kernel_rfl!,?_⟩) (by decide))) (by kernel_rfl!) (Ab4 rfl);exact Abs (ds:=[.int (rj b j:Int),Abz (Abk i)]) rfl (Aax rfl (AaK rfl rfl (Aai rfl) (Aaa rfl rfl) (congrArg (fun x=>some (D.int x)) (ADu b j))) (Aax rfl (Aai rfl) (Aam rfl))) (AAr hi (AwX b j))
end
theorem Aq3{k:Nat}{f:Nat→Str}{L:List Nat}(h:∀ j∈L,PyData.canLay0 (.str (f j))=true):∀ d∈L.map (fun j=>D.str (f j)),Ad3 0 d:=fun d hd=>by
 refine Aab (List.mem_map.mp hd) fun j hj e=>?_;rw[← e];exact AdE (h j hj)
theorem Ajg{k:Nat}{x y:D}(hx:Ad3 k x)(hy:Ad3 k y):∀ d∈[x,y],Ad3 k d:=fun d hd=>(List.mem_cons.mp hd).elim (fun q=>q ▸ hx) fun hd=>by rw[List.mem_singleton.mp hd];exact hy
theorem Ad3.up{k:Nat}{d:D}(h:Ad3 k d):Ad3 (k+1) d:=by refine Aht h fun p e1 e2 e3 e4=>⟨p,e1,e2,Nat.le_succ_of_le e3,e4⟩
noncomputable def AwY(i:Nat):D:=tri fun r s=>Abz (Amt i r s)
theorem AwZ(f:Nat→Nat→D){r:Nat}(hr:r<8):Adw (tri f) (.int (r:Int))=some (.list ((List.range r).map fun s=>f r s)):=by refine Aek (Int.natCast_nonneg r) (show 8≤1000000 by decide) ?_;rw[Int.toNat_natCast,List.getElem?_map,List.getElem?_range hr];rfl
theorem Aw0(f:Nat→D){r s:Nat}(hr:r<8)(hs:s<r):Adw (.list ((List.range r).map f)) (.int (s:Int))=some (f s):=by refine Aek (Int.natCast_nonneg s) (by rw[List.length_map,List.length_range];omega) ?_;rw[Int.toNat_natCast,List.getElem?_map,List.getElem?_range hs];rfl
theorem AoP{i:Nat}(hi:i<4):bLen [Abz (Abk i)]=some (.int ((Abk i).length:Int)):=by
 have h:(R4.all fun i=>(bLen [Abz (Abk i)]).bind Ard == some ((Abk i).length:Int))=true:=by kernel_rfl!
 refine Aab (Aag (eq_of_beq (in4 hi h))) fun d e1 e2=>?_;rw[e1,Adq e2]
section
variable{i:Nat}(hi:i<4)(a a':Row5)(st:Nat)
include hi
theorem Aq4:Ad3 4 (Alr i):=by refine AbY fun d hd=>?_;refine Aab (List.mem_map.mp hd) fun r hr e=>?_;rw[← e];refine AbY fun d hd=>?_;refine Aab (List.mem_map.mp hd) fun s hs e=>?_;rw[← e];have hr:=List.mem_range.mp hr;have hs:=List.mem_range.mp hs;have P:=Ahr hi;have lc:=AeN (Bool.and_eq_true_iff.mp (in4 hi At2)).2 hr hs;exact AfR (Ajg (AdE lc).up (AbY (Ajg (AdE (P.lay r hr)) (AdE (P.lay s (Nat.lt_trans hs hr))))))
noncomputable abbrev rhB(i:Nat)(b M:Int)(sc:List D):Rho:=("depths",Ahp) :: ("cuts",AwY i) :: ("told",Alr i) :: ("paths",.list (AgT (Abl i))) :: rhA i b M sc
theorem AE4{M b:Int}(hb:∀ j:Nat,j<8→(b+(j:Int)).natAbs≤20){sc:List D}{xs:List Int}(hx:Ab2 sc=some xs)(hr:Ahj xs.sum=i) :
  ex ((AnT i a a' st b).stm (Aak s_l.names) s_l) (ev (AnT i a a' st b) 16 s_l) (Aak s_l.names) s_l 30 (rhA i b M sc) [zS 6,zS 7,zS 8,zS 9,zS 10,zS 11,zS 12]=some (.next (rhB i b M sc)):=by
 have root:rootD [.list sc]=some (Abz (Abk i)):=by rw[AmG hx,hr]
 have P:=Ahr hi;have lr:=in4 hi AwU;have lt:=(Bool.and_eq_true_iff.mp (in4 hi At2)).1;have pr:Ad3 1 (Abz (Abk i)):=AbY fun d hd=>by
  refine Aab (List.mem_map.mp hd) fun x hx e=>?_;rw[← e];exact AdE (List.all_eq_true.mp lr x hx)
 have pl:Ad3 1 (lfV i b):=AbY (Aq3 (k:=0) fun j _=>P.lay _ (AwX b j));have pd:Ad3 2 (rdV i b):=AbY fun d hd=>by
  refine Aab (List.mem_map.mp hd) fun j _ e=>?_;rw[← e];exact AfR (Ajg (AdE lt) (AdD _))
 have cell:∀ {T:Tb} {m:Nat} {sc:Scope} {ρ:Rho},True:=trivial;refine AcF (rest:=[zS 7,zS 8,zS 9,zS 10,zS 11,zS 12]) rfl rfl (AaJ (d:=.bool false) (AeY rfl (Aot (a:=.bool false) rfl (Aby (a:=lfV i b) (b:=lfV i b) (q:=false) rfl rfl (Aai rfl) (Afq (x:=.list (xV b)) rfl ⟨rfl,rfl,by kernel_rfl!⟩ (Aai rfl) rfl (AbD (ρ1:=fun j=>[("x",.int (b+(j:Int))),("script",.list sc)]) (f:=fun j=>.str (Abl i (rj b j))) R8 [] (fun j hj=>⟨by kernel_rfl!,?_⟩) (by decide))) (AfN (Ad4 pl (by decide)))) rfl
  (Ald rfl (Aby (a:=Abz (Abk i)) (b:=Abz (Abk i)) (q:=false) rfl rfl (Aai rfl) (Abs rfl (Aax rfl (Aai rfl) (Aam rfl)) root) (AfN (Ad4 pr (by decide))))))) rfl) (Ab4 rfl) ?_
 ·exact Abs rfl (Aax rfl (Abs rfl (Aax rfl (Aai rfl) (Aax rfl (Abs rfl (Aax rfl (Aai rfl) (Aam rfl)) root) (Aam rfl))) (AnP hi (hb j (in8 hj)))) (Aam rfl)) (ADv hi b j)
 refine AcF (rest:=[zS 8,zS 9,zS 10,zS 11,zS 12]) rfl rfl (AaJ (d:=.bool false) (Aby (a:=rdV i b) (b:=rdV i b) (q:=false) rfl rfl (Afq (x:=lfV i b) rfl ⟨rfl,rfl,by kernel_rfl!⟩ (Aai rfl) rfl (AbD (h:=fun j=>.str (Abl i (rj b j))) (ρ1:=fun j=>[("leaf",.str (Abl i (rj b j)))]) (f:=fun j=>.tup [.str (Ad2 (Abk i)),.int (rj b j:Int)]) R8 [] (fun j hj=>⟨by kernel_rfl!,?_⟩) (by decide)))
  (Afq (x:=.list (xV b)) rfl ⟨rfl,rfl,by kernel_rfl!⟩ (Aai rfl) rfl (AbD (ρ1:=fun j=>[("x",.int (b+(j:Int))),("root",Abz (Abk i))]) (f:=fun j=>.tup [.str (Ad2 (Abk i)),.int (rj b j:Int)]) R8 [] (fun j hj=>⟨by kernel_rfl!,?_⟩) (by decide))) (AfN (Ad4 pd (by decide)))) rfl) (Ab4 rfl) ?_
 ·exact Abs rfl (Aax rfl (Aai rfl) (Aam rfl)) (AAu hi (AwX b j))
 ·exact Afg rfl (Aax rfl (Abs rfl (Aax rfl (Aai rfl) (Aam rfl)) (AAs hi)) (Aax rfl (Aa6 rfl (Aai rfl) (Aaa rfl rfl) ((Afh (by decide)).trans (congrArg (fun x=>some (D.int x)) (ADu b j)))) (Aam rfl))) (show 2≤1000000 by decide)
 refine AcE (rest:=[zS 9,zS 10,zS 11,zS 12]) (d:=.list (AgT (Abl i))) rfl rfl (.inr rfl) (Afq (x:=.rng 0 8) (items:=R8.map fun (r:Nat)=>.int (r:Int)) rfl ⟨rfl,rfl,by kernel_rfl!⟩ (Abs rfl (Aax rfl (Aaa rfl rfl) (Aam rfl)) rfl) rfl (AbD (ρ1:=fun r=>[("r",.int (r:Int)),("root",Abz (Abk i))]) (f:=fun r=>.str (Abl i r)) R8 [] (fun r hr=>⟨by kernel_rfl!,?_⟩) (by decide))) (by kernel_rfl!) ?_
 ·have hr:=in8 hr;exact Abs rfl (Aax rfl (Abs rfl (Aax rfl (Aai rfl) (Aax rfl (Aai rfl) (Aam rfl))) (AnP hi (by omega))) (Aam rfl)) (At3 hi hr)
 refine AcE (rest:=[zS 10,zS 11,zS 12]) (d:=Alr i) rfl rfl (.inr rfl) (Afq (x:=.rng 0 8) (items:=R8.map fun (r:Nat)=>.int (r:Int)) rfl ⟨rfl,rfl,by kernel_rfl!⟩ (Abs rfl (Aax rfl (Aaa rfl rfl) (Aam rfl)) rfl) rfl (AbD (ρ1:=fun r=>[("r",.int (r:Int)),("paths",.list (AgT (Abl i)))]) (f:=fun r=>.list ((List.range r).map fun s=>.tup [.str (Ad2 (Amt i r s)),.list [.str (Abl i r),.str (Abl i s)]])) R8 [] (fun r hr=>⟨by kernel_rfl!,?_⟩) (by decide))) (by kernel_rfl!) ?_
 ·have hr:=in8 hr;refine Afq (x:=.rng 0 (r:Int)) (items:=AmP r) rfl ⟨rfl,rfl,by kernel_rfl!⟩ (Abs rfl (Aax rfl (Aai rfl) (Aam rfl)) rfl) (Acm r (by omega)) (AbD (ρ1:=fun s=>[("s",.int (s:Int)),("r",.int (r:Int)),("paths",.list (AgT (Abl i)))]) (f:=fun s=>.tup [.str (Ad2 (Amt i r s)),.list [.str (Abl i r),.str (Abl i s)]]) (List.range r) [] (fun s hs=>⟨by kernel_rfl!,?_⟩) (by rw[List.length_range];show 0+r<1000000;omega));have hs:=List.mem_range.mp hs;exact Abs rfl (Aax rfl (AaK rfl rfl (Aai rfl) (Aai rfl) (Ad7 _ hr)) (Aax rfl (AaK rfl rfl (Aai rfl) (Aai rfl) (Ad7 _ (Nat.lt_trans hs hr))) (Aam rfl))) (At4 hi hr hs)
 refine AcE (rest:=[zS 11,zS 12]) (d:=AwY i) rfl rfl (.inr rfl) (Afq (x:=.rng 0 8) (items:=R8.map fun (r:Nat)=>.int (r:Int)) rfl ⟨rfl,rfl,by kernel_rfl!⟩ (Abs rfl (Aax rfl (Aaa rfl rfl) (Aam rfl)) rfl) rfl (AbD (ρ1:=fun r=>[("r",.int (r:Int)),("root",Abz (Abk i))]) (f:=fun r=>.list ((List.range r).map fun s=>Abz (Amt i r s))) R8 [] (fun r hr=>⟨by kernel_rfl!,?_⟩) (by decide))) (by kernel_rfl!) ?_
 ·have hr:=in8 hr;refine Afq (x:=.rng 0 (r:Int)) (items:=AmP r) rfl ⟨rfl,rfl,by kernel_rfl!⟩ (Abs rfl (Aax rfl (Aai rfl) (Aam rfl)) rfl) (Acm r (by omega)) (AbD (ρ1:=fun s=>[("s",.int (s:Int)),("r",.int (r:Int)),("root",Abz (Abk i))]) (f:=fun s=>Abz (Amt i r s)) (List.range r) [] (fun s hs=>⟨by kernel_rfl!,?_⟩) (by rw[List.length_range];show 0+r<1000000;omega));have hs:=List.mem_range.mp hs;exact AdX rfl (Abs rfl (Aax rfl (Aai rfl) (Aax rfl (Aai rfl) (Aam rfl))) (AnP hi (x:=(r:Int)) (by omega))) (AbS rfl) (AeX rfl (Aa6 rfl (Abs rfl (Aax rfl (Aai rfl) (Aam rfl)) (AoP hi)) (Abs rfl (Aax rfl (Aa6 rfl (Aai rfl) (Aai rfl) rfl) (Aam rfl)) (AtR hr hs)) rfl)) (AbS rfl) (ADs hi hr hs)
 refine AcF (rest:=[zS 12]) rfl rfl (AaJ (d:=.bool false) (Aby (a:=Alr i) (b:=Alr i) (q:=false) rfl rfl (Aai rfl) (Afq (x:=.rng 0 8) (items:=R8.map fun (r:Nat)=>.int (r:Int)) rfl ⟨rfl,rfl,by kernel_rfl!⟩ (Abs rfl (Aax rfl (Aaa rfl rfl) (Aam rfl)) rfl) rfl (AbD (ρ1:=fun r=>[("r",.int (r:Int)),("cuts",AwY i),("paths",.list (AgT (Abl i)))]) (f:=fun r=>.list ((List.range r).map fun s=>.tup [.str (Ad2 (Amt i r s)),.list [.str (Abl i r),.str (Abl i s)]])) R8 [] (fun r hr=>⟨by kernel_rfl!,?_⟩) (by decide))) (AfN (Ad4 (Aq4 hi) (by decide)))) rfl) (Ab4 rfl) ?_
 ·have hr:=in8 hr;refine Afq (x:=.rng 0 (r:Int)) (items:=AmP r) rfl ⟨rfl,rfl,by kernel_rfl!⟩ (Abs rfl (Aax rfl (Aai rfl) (Aam rfl)) rfl) (Acm r (by omega)) (AbD (ρ1:=fun s=>[("s",.int (s:Int)),("r",.int (r:Int)),("cuts",AwY i),("paths",.list (AgT (Abl i)))]) (f:=fun s=>.tup [.str (Ad2 (Amt i r s)),.list [.str (Abl i r),.str (Abl i s)]]) (List.range r) [] (fun s hs=>⟨by kernel_rfl!,?_⟩) (by rw[List.length_range];show 0+r<1000000;omega));have hs:=List.mem_range.mp hs;exact Afg rfl (Aax rfl (Abs rfl (Aax rfl (AaK rfl rfl (AaK rfl rfl (Aai rfl) (Aai rfl) (AwZ _ hr)) (Aai rfl) (Aw0 _ hr hs)) (Aam rfl)) (AAt hi hr hs)) (Aax rfl (AgO rfl (Aax rfl (AaK rfl rfl (Aai rfl) (Aai rfl) (Ad7 _ hr)) (Aax rfl (AaK rfl rfl (Aai rfl) (Aai rfl) (Ad7 _ (Nat.lt_trans hs hr))) (Aam rfl))) (show 2≤1000000 by decide)) (Aam rfl))) (show 2≤1000000 by decide)
 exact AcE (rest:=[]) (d:=Ahp) rfl rfl (.inl rfl) (Abs (F:=ADE i) rfl (Aax rfl (Aai rfl) (Aax rfl (Abs rfl (Aax rfl (Aai rfl) (Aam rfl)) (AoP hi)) (Aam rfl))) (if_pos rfl)) (by kernel_rfl!) (Ab4 rfl)
end
theorem AmJ(a:Row5):Ad6 (Amx a.c0 a.c1 a.c2 a.c3) (Aeq a) (Acp a):=by refine AoR (Awm a) fun h0 h1 h2 h3=>?_;rw[← AzR,← Awp];exact AwF h0 h1 h2 h3
theorem AoQ(a:Row5)(x:Int):(a.w x).fmod 8=(Amx a.c0 a.c1 a.c2 a.c3 (x % 8).toNat:Int):=by rw[AtP,← AzQ a (show(x % 8).toNat<8 from eml x (n:=8) (by decide))];refine AEN a ?_;rw[Int.toNat_of_nonneg (Int.emod_nonneg x (by decide)),Int.emod_emod]
noncomputable def stN(t:Int):Nat:=(t % 8).toNat
theorem AE5(i:Nat){b M:Int}{sc:List D}{xs:List Int}(hx:Ab2 sc=some xs)(hl:sc.length≤1000000) :
  ex ((AnT i (AnR sc) (AnS sc) (stN xs.sum) b).stm (Aak s_l.names) s_l) (ev (AnT i (AnR sc) (AnS sc) (stN xs.sum) b) 16 s_l) (Aak s_l.names) s_l 30 (rhB i b M sc) [zS 13,zS 14]=some (.ret (.bool true)):=by
 have hst:AmM .Mod (.int xs.sum) (.int 8)=some (.int (stN xs.sum:Int)):=(Afh (by decide)).trans (congrArg (fun x=>some (D.int x)) (by unfold stN;rw[AtP];exact emn _ (by decide)));refine AcE (rest:=[zS 14]) (d:=.list [(AnR sc).v,(AnS sc).v]) rfl rfl (.inl rfl) (Abs rfl (Aax rfl (Aai rfl) (Aam rfl)) (At6 hx hl)) (by kernel_rfl!) ?_;refine Aco rfl rfl (Abs (F:=bAll) (ds:=[.list [.bool true,.bool true]]) rfl (Aax rfl (Afq (x:=.list [(AnR sc).v,(AnS sc).v]) rfl ⟨rfl,rfl,by kernel_rfl!⟩ (Aai rfl) rfl ?_) (Aam rfl)) (AoK fun d hd=>(List.mem_cons.mp hd).elim id fun hd=>List.mem_singleton.mp hd));refine AgR (ρ₁:=[("row",(AnR sc).v),("depths",Ahp),("paths",.list (AgT (Abl i))),("numbers",.list (xV b)),("script",.list sc)]) (by kernel_rfl!) rfl (AnC (d:=.bool true) (Abs (F:=ADt (AnR sc) (AnS sc) (Abl i) (stN xs.sum) b) rfl (Aax rfl (Aai rfl) (Aax rfl (Aai rfl) (Aax rfl (Aai rfl) (Aax rfl (Aai rfl) (Aax rfl (Aa6 rfl (Abs rfl (Aax rfl (Aai rfl) (Aam rfl)) (Akp hx)) (Aaa rfl rfl) hst) (Aam rfl)))))) (if_pos (.inl rfl))) (by decide)) ?_;exact AgR (ρ₁:=[("row",(AnS sc).v),("depths",Ahp),("paths",.list (AgT (Abl i))),("numbers",.list (xV b)),("script",.list sc)]) (by kernel_rfl!) rfl (AnC (d:=.bool true) (Abs (F:=ADt (AnR sc) (AnS sc) (Abl i) (stN xs.sum) b) rfl (Aax rfl (Aai rfl) (Aax rfl (Aai rfl) (Aax rfl (Aai rfl) (Aax rfl (Aai rfl) (Aax rfl (Aa6 rfl (Abs rfl (Aax rfl (Aai rfl) (Aam rfl)) (Akp hx)) (Aaa rfl rfl) hst) (Aam rfl)))))) (if_pos (.inr rfl))) (by decide)) rfl
section
variable{B:Bs}{A:Around}{s s':Shared}{g g':Gh}
theorem AAx(W:LW B){m:Nat}{i:Nat}(hi:i<4)(sc:List D)(t:Int){b:Int}(hb:∀ j:Nat,j<8→(b+(j:Int)).natAbs≤20):Abw B (m+17) (.ref Abb) (ADt (AnR sc) (AnS sc) (Abl i) (stN t) b):=by have hst:stN t<8:=eml t (n:=8) (by decide);refine(AxR W (At5 sc).1 hb (AoQ _) (AmJ _) (Ahr hi) hst).alt (AxR W (At5 sc).2 hb (AoQ _) (AmJ _) (Ahr hi) hst) fun ds r hr=>?_;refine Aaz (AAI (show ADt (AnR sc) (AnS sc) (Abl i) (stN t) b ds=some r from hr)) fun h he=>?_;exact h.elim (fun h=>.inl ((if_pos h).trans he)) fun h=>.inr ((if_pos h).trans he)
theorem Aw1(W:LW B){i:Nat}(hi:i<4)(sc:List D)(t:Int){b:Int}(hb:∀ j:Nat,j<8→(b+(j:Int)).natAbs≤20)(s:Shared)(g:Gh)(I:Inv B s g):AbO B 30 (AnT i (AnR sc) (AnS sc) (stN t) b) s g:=AbN W (AaL (al (Aoa W.O) (al (Ach W.O) (al Aj5 (al (Axc W.O) (al ((AsT (m:=0) W).up (by decide)) (al ((Azp (m:=0) W).up (by decide)) (al ((Azq (m:=0) W).up (by decide)) (al ((Azs (m:=0) W).up (by decide)) (al ((Azr (m:=0) W).up (by decide)) (al ((AAh (m:=0) W).up (by decide)) (al ((Atc (m:=0) W).up (by decide)) (al ((Atd (m:=0) W).up (by decide)) (al ((AtB (m:=0) W hi).up (by decide)) (al ((Azo (m:=0) W).up (by decide)) (al ((AAx (m:=0) W hi sc t hb).up (by decide)) an)))))))))))))))) s g I
theorem At7(W:LW B)(hA:AOk 31 A)(I:Inv B s g){v:Value}{sc:List D}{xs:List Int}(hd:Den g v (.list sc))(hx:Ab2 sc=some xs)(hlen:sc.length≤1000000) :
  wpAny B.M A (call (.ref AcJ) [v]) (fun r s'=>∃ g',Aae B s g s' g'∧r=.bool true) (fun _ _=>False) s:=by
 refine Abm (AmH hx (sliceRange (sliceBounds none none (some 3) sc.length).1 (sliceBounds none none (some 3) sc.length).2.1 (sliceBounds none none (some 3) sc.length).2.2)) fun ys hy=>?_
 obtain⟨M,hM0,hM⟩:∃ M,(ys.sum+16).fmod 32 - 16=M∧(-16≤M∧M≤15):=⟨_,rfl,by rw[Int.fmod_eq_emod_of_nonneg _ (by decide)];exact⟨Int.sub_le_sub_right (Int.emod_nonneg _ (by decide)) 16,Int.sub_le_sub_right (Int.le_of_lt_add_one (show _<(31:Int)+1 from Int.emod_lt_of_pos _ (by decide))) 16⟩⟩
 have hi:=AoN xs.sum;generalize hr:Ahj xs.sum=i at hi;have hb:∀ j:Nat,j<8→(M - 4+(j:Int)).natAbs≤20:=fun j hj=>m20 hM hj;have W1:=AE3 hi (AnR sc) (AnS sc) (stN xs.sum) hM hx hr hy hM0 hlen;have W2:=AE4 hi (AnR sc) (AnS sc) (stN xs.sum) (M:=M) hb hx hr;have W3:=AE5 i (b:=M - 4) (M:=M) hx hlen;have hg:Aaq B A s g (call (.ref AcJ) [v]) fun g' r=>Den g' r (.bool true):=by refine AhF (n:=30) W.O (Aqs W.G) hA I (.cons hd .nil) rfl fun env s1 e1 e2 e3 F=>AeT fun QQ EE hPost=>?_;rw[AeF] at e1;rw[AeF,← e1] at F;have e1:env.scope=s_l:=e1;have F:Fm B s g (Aak env.scope.names) env [("script",.list sc)] s1 g:=F;have hA':AOk 30 (A.deeper env):=hA.deeper;have K:=Aw1 W hi sc xs.sum hb s g I;rw[show Aac (nth AgN)=[zS 0,zS 1,zS 2,zS 3,zS 4,zS 5]++([zS 6,zS 7,zS 8,zS 9,zS 10,zS 11,zS 12]++[zS 13,zS 14]) from AwV];rw[← e1] at W1 W2 W3;refine Ack ((AbW W.O K hA' 30 _ _ _ s1 g W1 F).use fun f s2 g2 l2 en=>?_);refine Aaz en fun z1 F2=>?_;subst z1;refine Ack ((AbW W.O K hA' 30 _ _ _ s2 g2 W2 F2).use fun f s3 g3 l3 en=>?_);refine Aaz en fun z1 F3=>?_;subst z1;exact wpAny_mono (Acj W.O K hA' F3 (k:=16) (m:=30) W3) hPost fun _ _ h=>h.elim
 refine wpAny_mono hg (fun r s' h=>Aab h fun g' x hr=>⟨g',x,?_⟩) fun _ _ h=>h;induction hr using Den.boolE
 rfl
end
theorem Aq5{K:Frag}{h:Heap}{a:Addr}{m:Str→Option Value}{n:Str}(X:K.In h)(G:h.Ns a m)(e:nsIn K a n=some none):m n=none:=by
 refine AAM G fun o es ep ho hd _ hf=>?_
 cases q:K.lookup a with
 |none=>unfold nsIn at e;rw[q] at e;exact Aah e
 |some o'=>
  have:=X _ _ q;rw[ho] at this
  cases this
  unfold nsIn at e;rw[q] at e
  obtain⟨c,d,dt,sl⟩:=o
  dsimp only at hd;subst hd;dsimp only at e
  split at e
  ·cases e
  ·rename_i he;rw[← hf];unfold nsFind findBy;rw[← Array.find?_toList,he]
   rfl
theorem AAy(p:Params):((nsIn (hpL p) mainGlobals "__name__").bind id).isSome=true:=by kernel_rfl!
theorem Aw2(p:Params):((hpL p).lookup sysModules).isSome=true:=by kernel_rfl!
theorem AAz:sysModules ∉ tabA:=by decide
theorem AAA(p:Params):nsIn (hpL p) cStatics "thirdparty.any"=some none:=by kernel_rfl!
theorem AAB:bootBuiltins "__build_class__"=some (.builtin "__build_class__"):=by kernel_rfl!
section
variable{prog p:Program}{w:World}{s₁:Shared}{mg mb:Str→Option Value}{loose:List Str}{mean:ExcName→Option Value}
theorem AE6(KX:(hpL w.params).In s₁.heap)(T:Top p loose mean mg mb s₁.heap):LW (mkB prog w s₁ mg mb tabsL Ac8):=by
 have hT:TabsAt tabsL s₁.heap:=AlR KX (Ar0 w.params);have gl:∀ x v,Ak9 w.params x=some v→(mkB prog w s₁ mg mb tabsL Ac8).look x=some v:=fun x v h=>by
  unfold Ak9 at h;show(mg x).or (mb x)=some v
  split at h
  ·rename_i v' e
   cases h
   rw[mg_of KX T.g e];rfl
  ·rename_i e
   split at h
   ·exact Aah h
   ·rename_i hx;rw[mg_none_of KX T.g e,T.builtins x (fun e'=>hx (by rw[e'];exact beq_self_eq_true _))];exact h
  ·exact Aah h
 refine⟨AA6 hT T,AA7 hT T,Auq,ArF KX,gl,?_,?_,?_,?_,?_⟩
 ·exact(T.builtins _ (by decide)).trans AAB
 ·exact gl "object" _ (eq_of_beq (List.all_eq_true.mp (Ant w.params) (("object":Str),Value.type "object") (by unfold Axs;simp)))
 ·refine Abm (Option.isSome_iff_exists.mp (AAy w.params)) fun v hv=>?_;refine Aab (Option.bind_eq_some_iff.mp hv) fun q e1 e2=>?_;have e2:q=some v:=e2;subst e2;exact⟨v,mg_of KX T.g e1⟩
 ·refine Abm (Option.isSome_iff_exists.mp (Aw2 w.params)) fun o ho=>?_;exact⟨o,(ArF (prog:=prog) (mg:=mg) (mb:=mb) (names:=Ac8) (tabs:=tabsL) KX).inG _ _ ho AAz⟩
 ·refine Aab T.nolimit fun mc hmc _=>?_;exact⟨mc,ghost_ns hT hmc,Aq5 KX hmc (AAA w.params)⟩
theorem AnU(xs:List Int):Ab2 (xs.map D.int)=some xs:=by
 induction xs with
 |nil=>rfl
 |cons x xs ih=>exact Aan ih rfl
theorem AmK{P:Params}{h:Heap}{v:Value}{i:Int}(x:Well P h v (.int i)):∃ t,v=.int i t:=by cases x;exact⟨_,rfl⟩
theorem AmL{P:Params}{h:Heap}{vs:List Value}(x:WellAll P h vs []):vs=[]:=by cases x;rfl
theorem At8{P:Params}{h:Heap}{g:Gh}(xs:List Int):∀ vs:List Value,WellAll P h vs (xs.map WData.int)→Aar g vs (xs.map D.int):=by
 induction xs with
 |nil=>intro vs x;rw[AmL x];exact .nil
 |cons y ys ih=>
  intro vs x;refine Adf (wellAll_cons_inv x) fun v vs' e x1 x2=>?_;refine Abm (AmK x1) fun t q=>?_;rw[e,q];exact .cons .int (ih vs' x2)
theorem AE7:AOk 31 callerA:=⟨rfl,by decide,by decide⟩
theorem AAC(KX:(hpL w.params).In s₁.heap)(T:Top p loose mean mg mb s₁.heap)(hg:s₁.gens=#[]){l:Addr}{xs:List Int}(hW:Well w.params s₁.heap (.ref l) (.list (xs.map WData.int)))(hlen:xs.length≤63)
  {c:ClaimW} {cl:Str→Option Addr} {args:List WData} (hn:∀ cls,c.raises args cls=false) (hp:c.post args (.bool true) args=true) {E:Value→Shared→Prop} :
  wpAny (model prog w) callerA (call (.ref 291) [.ref l]) (fun v s'=>GoodWG c cl mean args s₁ (.ok (.ret v)) s') E s₁:=by
 have hT:TabsAt tabsL s₁.heap:=AlR KX (Ar0 w.params);have W:=AE6 (prog:=prog) KX T;have I:=Ayj (prog:=prog) (w:=w) (mg:=mg) (mb:=mb) (names:=Ac8) hT hg
 cases hW with|list ho hw=>?_
 have hG:=ghost_get hT ho (fun q=>by cases q);refine wpAny_mono (At7 W AE7 I (sc:=xs.map D.int) (xs:=xs) (.list hG (At8 _ _ hw)) (AnU xs) (by rw[List.length_map];omega)) (fun v s' h=>?_) fun _ _ z=>z.elim;refine Aab h fun g' x z1=>?_;subst z1;exact Ayk hT x hn hp
end
end Mine
open Mine PySem PySem.W PyProof.Rows PySem.W.X
theorem PySem.Challenge.cw_qw0061_01_holds : PySem.Challenge.rw_qw0061_01.Holds := by
 exact Mine.hd (by
 k_fill
 intro w s₀ s₁ mg mb G Y fa o pm cd doc dV kV ho hd hcd hD hmg hg args vals as hpre hlay hrd hwl hlo;have KX:=kIn_of Y;have X:=(Ground.X G).1;have V:=(Ground.X G).2;refine Ground.open G ?_;intro T B D TE TW
 wrow_args hpre hlay hrd hwl hlo
 all_goals (
  x_fa T KX hmg)
 rename_i xs hs hlay0 hL1 hr1 hl2 w4 w3 w2 w1 w0 hL ra hW r0 hI hr hc1 hc2;refine AAC KX T hg (xs:=xs) ?_ (by omega) ?_ ?_
 ·have e:ofPy (PyData.list (xs.map PyData.int))=WData.list (xs.map WData.int):=by
   simp only[ofPy,ofPys_eq,List.map_map]
   congr 1
  rw[← e];exact hW
 ·intro cls;rfl
 ·kernel_rfl!)

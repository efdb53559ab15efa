import PyProof.Rows.All
import Wide.All
import OpenK.AllK
import Wide.FinOn
import PyProof.Rows.RaiseClass
import KE.KSuperObj
import PyProof.EqKinds
import PyProof.EnumStmt
import PyProof.EnumMake
import PyProof.StationsW
import PyProof.Rows.FactsExc_ZeroDivisionError
import KE.KSortTup
import Lean
import PySem.Challenge.RW_qw0061_02
set_option Elab.async false
set_option genInjectivity false
set_option genSizeOf false
set_option maxRecDepth 100000
set_option maxHeartbeats 0
set_option linter.unusedVariables false
set_option pp.deepTerms false
set_option pp.deepTerms.threshold 6
open PySem PySem.W PyProof.Rows
namespace Mine
noncomputable def AdX(i:Nat):Stmt:=(PySem.Challenge.rw_qw0061_02.row.prog.main.body[i]?).getD (.Pass default)
noncomputable def vw:Program:={PySem.Challenge.rw_qw0061_02.row.prog with main:={PySem.Challenge.rw_qw0061_02.row.prog.main with body:=[AdX 0,AdX 2,AdX 3,AdX 4,AdX 5,AdX 6,AdX 7,AdX 8,AdX 10,AdX 11,AdX 14,AdX 16,AdX 18,AdX 19,AdX 21,AdX 23,AdX 25,AdX 26,AdX 27,AdX 28,AdX 30,AdX 31,AdX 32,AdX 33,AdX 34,AdX 35,AdX 36,AdX 37,AdX 38,AdX 39,AdX 40,AdX 41,AdX 42,AdX 43,AdX 44,AdX 45,AdX 46,AdX 47,AdX 48,AdX 49]}}
theorem ABL:OpenLaw.wellSaid PySem.Challenge.rw_qw0061_02=true:=by kernel_rfl
noncomputable def vwX(s:Shared):Bool:=xlAt vw [] s && recOk (RowW.records PySem.Challenge.rw_qw0061_02.row.toRowW) s
theorem ADs(s:Shared)(e:vwX s=true):XL vw [] (s.heap.nsMap mainGlobals) s.heap:=xl_of s (Bool.and_eq_true_iff.mp e).1
theorem vwR(s:Shared)(e:vwX s=true):RecFacts (RowW.records PySem.Challenge.rw_qw0061_02.row.toRowW) s.heap:=recFacts_of (Bool.and_eq_true_iff.mp e).2
theorem vwB:PySem.Challenge.rw_qw0061_02.row.prog.bare:=⟨rfl,rfl,rfl,rfl,rfl,by decide +kernel⟩
local macro_rules | `(tactic| k_head) => `(tactic| x_head)
local macro_rules | `(tactic| o_law) => `(tactic| refine holds_law ABL fun said => ?_)
theorem AyY(H:Hook){d:DefRec}{kwd:List (Str×Expr)}(said:PySem.Challenge.rw_qw0061_02.row.wellSaid=true)(hdef:defOf vw PySem.Challenge.rw_qw0061_02.row.name=some (d,kwd))(hp:PySem.Challenge.rw_qw0061_02.row.prog.theDef PySem.Challenge.rw_qw0061_02.row.name=some (d.params,d.body,d.scope))(hk:kwWritten? d.params.kwonlyargs d.params.kw_defaults=some kwd)
  (hl:LeftO PySem.Challenge.rw_qw0061_02.row.prog vw [Str.ofString "_initial_missing",Str.ofString "reduce"] vwX H.obs H.val 3684) (hw:PySem.Challenge.rw_qw0061_02.row.toRowW.promised) (hc:WalkO vw [Str.ofString "_initial_missing",Str.ofString "reduce"] (XL vw []) H.says PySem.Challenge.rw_qw0061_02.row.toRowW d kwd fun f vs=>PySem.call f vs):PySem.Challenge.rw_qw0061_02.row.Holds:=
 holds_open hl H.of H.keeps ADs XL.keeps hdef hp hk vwR (by rfl) said (by decide +kernel) vwB hw hc
set_option hygiene false
local macro_rules | `(tactic| o_head $H) => `(tactic| (refine AyY $H (by assumption) (by rfl) (by rfl) (by rfl) ?hl ?hw ?hc; case hl => (intro w; kernel_rfl)))
set_option hygiene true
open_top hd for PySem.Challenge.rw_qw0061_02
end Mine
namespace Mine
open PySem
universe u u1 u2 u3 u4 u5 u6 u7 u8 u9 u10
theorem Aah{α:Type u}{r:α}{P:Prop}(h:none=some r):P:=by cases h
theorem sj{α:Type u}{a b:α}(h:some a=some b):a=b:=Option.some.inj h
theorem Abs{c:Prop}[Decidable c]{α:Type u}{x:Option α}{r:α}(h:(if c then x else none)=some r):c∧x=some r:=by
 by_cases hc:c
 ·rw[if_pos hc] at h;exact⟨hc,h⟩
 ·rw[if_neg hc] at h;exact Aah h
theorem AaG {P0 P1:Prop}{G:Prop}(h:P0∧P1)(k:P0→P1→G):G:=k  h.1 h.2
theorem AjX {P0 P1 P2:Prop}{G:Prop}(h:P0∧P1∧P2)(k:P0→P1→P2→G):G:=k  h.1 h.2.1 h.2.2
theorem Aoa {P0 P1 P2 P3:Prop}{G:Prop}(h:P0∧P1∧P2∧P3)(k:P0→P1→P2→P3→G):G:=k  h.1 h.2.1 h.2.2.1 h.2.2.2
theorem Awh {P0 P1 P2 P3 P4:Prop}{G:Prop}(h:P0∧P1∧P2∧P3∧P4)(k:P0→P1→P2→P3→P4→G):G:=k  h.1 h.2.1 h.2.2.1 h.2.2.2.1 h.2.2.2.2
theorem ADt {P0 P1 P2 P3 P4 P5:Prop}{G:Prop}(h:P0∧P1∧P2∧P3∧P4∧P5)(k:P0→P1→P2→P3→P4→P5→G):G:=k  h.1 h.2.1 h.2.2.1 h.2.2.2.1 h.2.2.2.2.1 h.2.2.2.2.2
theorem ACY {P0 P1 P2 P3 P4 P5 P6 P7:Prop}{G:Prop}(h:P0∧P1∧P2∧P3∧P4∧P5∧P6∧P7)(k:P0→P1→P2→P3→P4→P5→P6→P7→G):G:=k  h.1 h.2.1 h.2.2.1 h.2.2.2.1 h.2.2.2.2.1 h.2.2.2.2.2.1 h.2.2.2.2.2.2.1 h.2.2.2.2.2.2.2
theorem ACZ {P0 P1 P2 P3 P4 P5 P6 P7 P8:Prop}{G:Prop}(h:P0∧P1∧P2∧P3∧P4∧P5∧P6∧P7∧P8)(k:P0→P1→P2→P3→P4→P5→P6→P7→P8→G):G:=k  h.1 h.2.1 h.2.2.1 h.2.2.2.1 h.2.2.2.2.1 h.2.2.2.2.2.1 h.2.2.2.2.2.2.1 h.2.2.2.2.2.2.2.1 h.2.2.2.2.2.2.2.2
theorem ABM {P0 P1 P2 P3 P4 P5 P6 P7 P8 P9:Prop}{G:Prop}(h:P0∧P1∧P2∧P3∧P4∧P5∧P6∧P7∧P8∧P9)(k:P0→P1→P2→P3→P4→P5→P6→P7→P8→P9→G):G:=k  h.1 h.2.1 h.2.2.1 h.2.2.2.1 h.2.2.2.2.1 h.2.2.2.2.2.1 h.2.2.2.2.2.2.1 h.2.2.2.2.2.2.2.1 h.2.2.2.2.2.2.2.2.1 h.2.2.2.2.2.2.2.2.2
theorem AyZ {P0 P1 P2 P3 P4 P5 P6 P7 P8 P9 P10:Prop}{G:Prop}(h:P0∧P1∧P2∧P3∧P4∧P5∧P6∧P7∧P8∧P9∧P10)(k:P0→P1→P2→P3→P4→P5→P6→P7→P8→P9→P10→G):G:=k  h.1 h.2.1 h.2.2.1 h.2.2.2.1 h.2.2.2.2.1 h.2.2.2.2.2.1 h.2.2.2.2.2.2.1 h.2.2.2.2.2.2.2.1 h.2.2.2.2.2.2.2.2.1 h.2.2.2.2.2.2.2.2.2.1 h.2.2.2.2.2.2.2.2.2.2
theorem ABN {P0 P1 P2 P3 P4 P5 P6 P7 P8 P9 P10 P11 P12 P13 P14:Prop}{G:Prop}(h:P0∧P1∧P2∧P3∧P4∧P5∧P6∧P7∧P8∧P9∧P10∧P11∧P12∧P13∧P14)(k:P0→P1→P2→P3→P4→P5→P6→P7→P8→P9→P10→P11→P12→P13→P14→G):G:=k  h.1 h.2.1 h.2.2.1 h.2.2.2.1 h.2.2.2.2.1 h.2.2.2.2.2.1 h.2.2.2.2.2.2.1 h.2.2.2.2.2.2.2.1 h.2.2.2.2.2.2.2.2.1 h.2.2.2.2.2.2.2.2.2.1 h.2.2.2.2.2.2.2.2.2.2.1 h.2.2.2.2.2.2.2.2.2.2.2.1 h.2.2.2.2.2.2.2.2.2.2.2.2.1 h.2.2.2.2.2.2.2.2.2.2.2.2.2.1 h.2.2.2.2.2.2.2.2.2.2.2.2.2.2
theorem ABO {P0 P1 P2 P3 P4 P5 P6 P7 P8 P9 P10 P11 P12 P13 P14 P15 P16 P17:Prop}{G:Prop}(h:P0∧P1∧P2∧P3∧P4∧P5∧P6∧P7∧P8∧P9∧P10∧P11∧P12∧P13∧P14∧P15∧P16∧P17)(k:P0→P1→P2→P3→P4→P5→P6→P7→P8→P9→P10→P11→P12→P13→P14→P15→P16→P17→G):G:=k  h.1 h.2.1 h.2.2.1 h.2.2.2.1 h.2.2.2.2.1 h.2.2.2.2.2.1 h.2.2.2.2.2.2.1 h.2.2.2.2.2.2.2.1 h.2.2.2.2.2.2.2.2.1 h.2.2.2.2.2.2.2.2.2.1 h.2.2.2.2.2.2.2.2.2.2.1 h.2.2.2.2.2.2.2.2.2.2.2.1 h.2.2.2.2.2.2.2.2.2.2.2.2.1 h.2.2.2.2.2.2.2.2.2.2.2.2.2.1 h.2.2.2.2.2.2.2.2.2.2.2.2.2.2.1 h.2.2.2.2.2.2.2.2.2.2.2.2.2.2.2.1 h.2.2.2.2.2.2.2.2.2.2.2.2.2.2.2.2.1 h.2.2.2.2.2.2.2.2.2.2.2.2.2.2.2.2.2
theorem ABP {P0 P1 P2 P3 P4 P5 P6 P7 P8 P9 P10 P11 P12 P13 P14 P15 P16 P17 P18:Prop}{G:Prop}(h:P0∧P1∧P2∧P3∧P4∧P5∧P6∧P7∧P8∧P9∧P10∧P11∧P12∧P13∧P14∧P15∧P16∧P17∧P18)(k:P0→P1→P2→P3→P4→P5→P6→P7→P8→P9→P10→P11→P12→P13→P14→P15→P16→P17→P18→G):G:=k  h.1 h.2.1 h.2.2.1 h.2.2.2.1 h.2.2.2.2.1 h.2.2.2.2.2.1 h.2.2.2.2.2.2.1 h.2.2.2.2.2.2.2.1 h.2.2.2.2.2.2.2.2.1 h.2.2.2.2.2.2.2.2.2.1 h.2.2.2.2.2.2.2.2.2.2.1 h.2.2.2.2.2.2.2.2.2.2.2.1 h.2.2.2.2.2.2.2.2.2.2.2.2.1 h.2.2.2.2.2.2.2.2.2.2.2.2.2.1 h.2.2.2.2.2.2.2.2.2.2.2.2.2.2.1 h.2.2.2.2.2.2.2.2.2.2.2.2.2.2.2.1 h.2.2.2.2.2.2.2.2.2.2.2.2.2.2.2.2.1 h.2.2.2.2.2.2.2.2.2.2.2.2.2.2.2.2.2.1 h.2.2.2.2.2.2.2.2.2.2.2.2.2.2.2.2.2.2
theorem Abo{α:Sort u1}{P0:α→Prop}{G:Prop}(h:∃ x1,P0 x1)(k:∀ x1,P0 x1→G):G:=h.elim fun x1 h=>k x1 h
theorem Aaf{α:Sort u1}{P0 P1:α→Prop}{G:Prop}(h:∃ x1,P0 x1∧P1 x1)(k:∀ x1,P0 x1→P1 x1→G):G:=h.elim fun x1 h=>k x1 h.1 h.2
theorem Aew{α:Sort u1}{P0 P1 P2:α→Prop}{G:Prop}(h:∃ x1,P0 x1∧P1 x1∧P2 x1)(k:∀ x1,P0 x1→P1 x1→P2 x1→G):G:=h.elim fun x1 h=>k x1 h.1 h.2.1 h.2.2
theorem Amu{α:Sort u1}{P0 P1 P2 P3:α→Prop}{G:Prop}(h:∃ x1,P0 x1∧P1 x1∧P2 x1∧P3 x1)(k:∀ x1,P0 x1→P1 x1→P2 x1→P3 x1→G):G:=h.elim fun x1 h=>k x1 h.1 h.2.1 h.2.2.1 h.2.2.2
theorem ADu{α:Sort u1}{P0 P1 P2 P3 P4:α→Prop}{G:Prop}(h:∃ x1,P0 x1∧P1 x1∧P2 x1∧P3 x1∧P4 x1)(k:∀ x1,P0 x1→P1 x1→P2 x1→P3 x1→P4 x1→G):G:=h.elim fun x1 h=>k x1 h.1 h.2.1 h.2.2.1 h.2.2.2.1 h.2.2.2.2
theorem Amv{α:Sort u1}{P0 P1 P2 P3 P4 P5:α→Prop}{G:Prop}(h:∃ x1,P0 x1∧P1 x1∧P2 x1∧P3 x1∧P4 x1∧P5 x1)(k:∀ x1,P0 x1→P1 x1→P2 x1→P3 x1→P4 x1→P5 x1→G):G:=h.elim fun x1 h=>k x1 h.1 h.2.1 h.2.2.1 h.2.2.2.1 h.2.2.2.2.1 h.2.2.2.2.2
theorem Avs{α:Sort u1}{β:Sort u2}{P0:α→β→Prop}{G:Prop}(h:∃ x1 x2,P0 x1 x2)(k:∀ x1 x2,P0 x1 x2→G):G:=h.elim fun x1 h=>h.elim fun x2 h=>k x1 x2 h
theorem Afx{α:Sort u1}{β:Sort u2}{P0 P1:α→β→Prop}{G:Prop}(h:∃ x1 x2,P0 x1 x2∧P1 x1 x2)(k:∀ x1 x2,P0 x1 x2→P1 x1 x2→G):G:=h.elim fun x1 h=>h.elim fun x2 h=>k x1 x2 h.1 h.2
theorem Adp{α:Sort u1}{β:Sort u2}{P0 P1 P2:α→β→Prop}{G:Prop}(h:∃ x1 x2,P0 x1 x2∧P1 x1 x2∧P2 x1 x2)(k:∀ x1 x2,P0 x1 x2→P1 x1 x2→P2 x1 x2→G):G:=h.elim fun x1 h=>h.elim fun x2 h=>k x1 x2 h.1 h.2.1 h.2.2
theorem Alo{α:Sort u1}{β:Sort u2}{P0 P1 P2 P3:α→β→Prop}{G:Prop}(h:∃ x1 x2,P0 x1 x2∧P1 x1 x2∧P2 x1 x2∧P3 x1 x2)(k:∀ x1 x2,P0 x1 x2→P1 x1 x2→P2 x1 x2→P3 x1 x2→G):G:=h.elim fun x1 h=>h.elim fun x2 h=>k x1 x2 h.1 h.2.1 h.2.2.1 h.2.2.2
theorem Ay0{α:Sort u1}{β:Sort u2}{P0 P1 P2 P3 P4:α→β→Prop}{G:Prop}(h:∃ x1 x2,P0 x1 x2∧P1 x1 x2∧P2 x1 x2∧P3 x1 x2∧P4 x1 x2)(k:∀ x1 x2,P0 x1 x2→P1 x1 x2→P2 x1 x2→P3 x1 x2→P4 x1 x2→G):G:=h.elim fun x1 h=>h.elim fun x2 h=>k x1 x2 h.1 h.2.1 h.2.2.1 h.2.2.2.1 h.2.2.2.2
theorem AC0{α:Sort u1}{β:Sort u2}{P0 P1 P2 P3 P4 P5:α→β→Prop}{G:Prop}(h:∃ x1 x2,P0 x1 x2∧P1 x1 x2∧P2 x1 x2∧P3 x1 x2∧P4 x1 x2∧P5 x1 x2)(k:∀ x1 x2,P0 x1 x2→P1 x1 x2→P2 x1 x2→P3 x1 x2→P4 x1 x2→P5 x1 x2→G):G:=h.elim fun x1 h=>h.elim fun x2 h=>k x1 x2 h.1 h.2.1 h.2.2.1 h.2.2.2.1 h.2.2.2.2.1 h.2.2.2.2.2
theorem AC1{α:Sort u1}{β:Sort u2}{γ:Sort u3}{P0:α→β→γ→Prop}{G:Prop}(h:∃ x1 x2 x3,P0 x1 x2 x3)(k:∀ x1 x2 x3,P0 x1 x2 x3→G):G:=h.elim fun x1 h=>h.elim fun x2 h=>h.elim fun x3 h=>k x1 x2 x3 h
theorem Avt{α:Sort u1}{β:Sort u2}{γ:Sort u3}{P0 P1:α→β→γ→Prop}{G:Prop}(h:∃ x1 x2 x3,P0 x1 x2 x3∧P1 x1 x2 x3)(k:∀ x1 x2 x3,P0 x1 x2 x3→P1 x1 x2 x3→G):G:=h.elim fun x1 h=>h.elim fun x2 h=>h.elim fun x3 h=>k x1 x2 x3 h.1 h.2
theorem Avu{α:Sort u1}{β:Sort u2}{γ:Sort u3}{P0 P1 P2:α→β→γ→Prop}{G:Prop}(h:∃ x1 x2 x3,P0 x1 x2 x3∧P1 x1 x2 x3∧P2 x1 x2 x3)(k:∀ x1 x2 x3,P0 x1 x2 x3→P1 x1 x2 x3→P2 x1 x2 x3→G):G:=h.elim fun x1 h=>h.elim fun x2 h=>h.elim fun x3 h=>k x1 x2 x3 h.1 h.2.1 h.2.2
theorem Ay1{α:Sort u1}{β:Sort u2}{γ:Sort u3}{P0 P1 P2 P3:α→β→γ→Prop}{G:Prop}(h:∃ x1 x2 x3,P0 x1 x2 x3∧P1 x1 x2 x3∧P2 x1 x2 x3∧P3 x1 x2 x3)(k:∀ x1 x2 x3,P0 x1 x2 x3→P1 x1 x2 x3→P2 x1 x2 x3→P3 x1 x2 x3→G):G:=h.elim fun x1 h=>h.elim fun x2 h=>h.elim fun x3 h=>k x1 x2 x3 h.1 h.2.1 h.2.2.1 h.2.2.2
theorem AC2{α:Sort u1}{β:Sort u2}{γ:Sort u3}{P0 P1 P2 P3 P4:α→β→γ→Prop}{G:Prop}(h:∃ x1 x2 x3,P0 x1 x2 x3∧P1 x1 x2 x3∧P2 x1 x2 x3∧P3 x1 x2 x3∧P4 x1 x2 x3)(k:∀ x1 x2 x3,P0 x1 x2 x3→P1 x1 x2 x3→P2 x1 x2 x3→P3 x1 x2 x3→P4 x1 x2 x3→G):G:=h.elim fun x1 h=>h.elim fun x2 h=>h.elim fun x3 h=>k x1 x2 x3 h.1 h.2.1 h.2.2.1 h.2.2.2.1 h.2.2.2.2
theorem AsY{α:Sort u1}{β:Sort u2}{γ:Sort u3}{δ:Sort u4}{P0:α→β→γ→δ→Prop}{G:Prop}(h:∃ x1 x2 x3 x4,P0 x1 x2 x3 x4)(k:∀ x1 x2 x3 x4,P0 x1 x2 x3 x4→G):G:=h.elim fun x1 h=>h.elim fun x2 h=>h.elim fun x3 h=>h.elim fun x4 h=>k x1 x2 x3 x4 h
theorem ABQ{α:Sort u1}{β:Sort u2}{γ:Sort u3}{δ:Sort u4}{P0 P1 P2:α→β→γ→δ→Prop}{G:Prop}(h:∃ x1 x2 x3 x4,P0 x1 x2 x3 x4∧P1 x1 x2 x3 x4∧P2 x1 x2 x3 x4)(k:∀ x1 x2 x3 x4,P0 x1 x2 x3 x4→P1 x1 x2 x3 x4→P2 x1 x2 x3 x4→G):G:=h.elim fun x1 h=>h.elim fun x2 h=>h.elim fun x3 h=>h.elim fun x4 h=>k x1 x2 x3 x4 h.1 h.2.1 h.2.2
theorem Avv{α:Sort u1}{β:Sort u2}{γ:Sort u3}{δ:Sort u4}{P0 P1 P2 P3:α→β→γ→δ→Prop}{G:Prop}(h:∃ x1 x2 x3 x4,P0 x1 x2 x3 x4∧P1 x1 x2 x3 x4∧P2 x1 x2 x3 x4∧P3 x1 x2 x3 x4)(k:∀ x1 x2 x3 x4,P0 x1 x2 x3 x4→P1 x1 x2 x3 x4→P2 x1 x2 x3 x4→P3 x1 x2 x3 x4→G):G:=h.elim fun x1 h=>h.elim fun x2 h=>h.elim fun x3 h=>h.elim fun x4 h=>k x1 x2 x3 x4 h.1 h.2.1 h.2.2.1 h.2.2.2
theorem ABR{α:Sort u1}{β:Sort u2}{γ:Sort u3}{δ:Sort u4}{ε:Sort u5}{P0 P1 P2:α→β→γ→δ→ε→Prop}{G:Prop}(h:∃ x1 x2 x3 x4 x5,P0 x1 x2 x3 x4 x5∧P1 x1 x2 x3 x4 x5∧P2 x1 x2 x3 x4 x5)(k:∀ x1 x2 x3 x4 x5,P0 x1 x2 x3 x4 x5→P1 x1 x2 x3 x4 x5→P2 x1 x2 x3 x4 x5→G):G:=h.elim fun x1 h=>h.elim fun x2 h=>h.elim fun x3 h=>h.elim fun x4 h=>h.elim fun x5 h=>k x1 x2 x3 x4 x5 h.1 h.2.1 h.2.2
theorem ADv{α:Sort u1}{β:Sort u2}{γ:Sort u3}{δ:Sort u4}{ε:Sort u5}{P0 P1 P2 P3 P4:α→β→γ→δ→ε→Prop}{G:Prop}(h:∃ x1 x2 x3 x4 x5,P0 x1 x2 x3 x4 x5∧P1 x1 x2 x3 x4 x5∧P2 x1 x2 x3 x4 x5∧P3 x1 x2 x3 x4 x5∧P4 x1 x2 x3 x4 x5)(k:∀ x1 x2 x3 x4 x5,P0 x1 x2 x3 x4 x5→P1 x1 x2 x3 x4 x5→P2 x1 x2 x3 x4 x5→P3 x1 x2 x3 x4 x5→P4 x1 x2 x3 x4 x5→G):G:=h.elim fun x1 h=>h.elim fun x2 h=>h.elim fun x3 h=>h.elim fun x4 h=>h.elim fun x5 h=>k x1 x2 x3 x4 x5 h.1 h.2.1 h.2.2.1 h.2.2.2.1 h.2.2.2.2
theorem ADw{α:Sort u1}{β:Sort u2}{γ:Sort u3}{δ:Sort u4}{ε:Sort u5}{P0 P1 P2 P3 P4 P5 P6:α→β→γ→δ→ε→Prop}{G:Prop}(h:∃ x1 x2 x3 x4 x5,P0 x1 x2 x3 x4 x5∧P1 x1 x2 x3 x4 x5∧P2 x1 x2 x3 x4 x5∧P3 x1 x2 x3 x4 x5∧P4 x1 x2 x3 x4 x5∧P5 x1 x2 x3 x4 x5∧P6 x1 x2 x3 x4 x5)(k:∀ x1 x2 x3 x4 x5,P0 x1 x2 x3 x4 x5→P1 x1 x2 x3 x4 x5→P2 x1 x2 x3 x4 x5→P3 x1 x2 x3 x4 x5→P4 x1 x2 x3 x4 x5→P5 x1 x2 x3 x4 x5→P6 x1 x2 x3 x4 x5→G):G:=h.elim fun x1 h=>h.elim fun x2 h=>h.elim fun x3 h=>h.elim fun x4 h=>h.elim fun x5 h=>k x1 x2 x3 x4 x5 h.1 h.2.1 h.2.2.1 h.2.2.2.1 h.2.2.2.2.1 h.2.2.2.2.2.1 h.2.2.2.2.2.2
theorem ABS{α:Sort u1}{β:Sort u2}{γ:Sort u3}{δ:Sort u4}{ε:Sort u5}{ζ:Sort u6}{P0:α→β→γ→δ→ε→ζ→Prop}{G:Prop}(h:∃ x1 x2 x3 x4 x5 x6,P0 x1 x2 x3 x4 x5 x6)(k:∀ x1 x2 x3 x4 x5 x6,P0 x1 x2 x3 x4 x5 x6→G):G:=h.elim fun x1 h=>h.elim fun x2 h=>h.elim fun x3 h=>h.elim fun x4 h=>h.elim fun x5 h=>h.elim fun x6 h=>k x1 x2 x3 x4 x5 x6 h
theorem AC3{α:Sort u1}{β:Sort u2}{γ:Sort u3}{δ:Sort u4}{ε:Sort u5}{ζ:Sort u6}{P0 P1 P2 P3 P4 P5:α→β→γ→δ→ε→ζ→Prop}{G:Prop}(h:∃ x1 x2 x3 x4 x5 x6,P0 x1 x2 x3 x4 x5 x6∧P1 x1 x2 x3 x4 x5 x6∧P2 x1 x2 x3 x4 x5 x6∧P3 x1 x2 x3 x4 x5 x6∧P4 x1 x2 x3 x4 x5 x6∧P5 x1 x2 x3 x4 x5 x6)(k:∀ x1 x2 x3 x4 x5 x6,P0 x1 x2 x3 x4 x5 x6→P1 x1 x2 x3 x4 x5 x6→P2 x1 x2 x3 x4 x5 x6→P3 x1 x2 x3 x4 x5 x6→P4 x1 x2 x3 x4 x5 x6→P5 x1 x2 x3 x4 x5 x6→G):G:=h.elim fun x1 h=>h.elim fun x2 h=>h.elim fun x3 h=>h.elim fun x4 h=>h.elim fun x5 h=>h.elim fun x6 h=>k x1 x2 x3 x4 x5 x6 h.1 h.2.1 h.2.2.1 h.2.2.2.1 h.2.2.2.2.1 h.2.2.2.2.2
set_option genInjectivity false in
structure EP where
 tag:Nat
 a:Expr
 b:Expr
 l:List Expr
 o:List (Option Expr)
 g:List Comprehension
 s:Scope
 r:Arguments
 k:List Keyword
 x:Str
 n:Nat
 p:Pos
noncomputable def AhO:Scope:=⟨.module,[],false,false,[]⟩
noncomputable def AhP:Arguments:=⟨[],[],none,[],[],none,[]⟩
noncomputable def ep0(t:Nat)(a b:Expr)(l:List Expr)(p:Pos):EP:=⟨t,a,b,l,[],[],AhO,AhP,[],"",0,p⟩
noncomputable def epX(t:Nat)(e:Expr)(x:Str)(n:Nat)(p:Pos):EP:=⟨t,e,e,[],[],[],AhO,AhP,[],x,n,p⟩
noncomputable def epC(t:Nat)(a:Expr)(l:List Expr)(o:List (Option Expr))(g:List Comprehension)(s:Scope)(r:Arguments)(k:List Keyword)(p:Pos):EP:=⟨t,a,a,l,o,g,s,r,k,"",0,p⟩
noncomputable def ep(e:Expr):EP:=match e with
 |.BinOp l _ r p=>ep0 2 l r [] p
 |.UnaryOp _ a p=>ep0 3 a a [] p
 |.Lambda r b s p=>epC 4 b [] [] [] s r [] p
 |.Dict o l p=>epC 5 e l o [] AhO AhP [] p
 |.Set l _ p=>ep0 6 e e l p
 |.ListComp a g s p=>epC 7 a [] [] g s AhP [] p
 |.SetComp a g s p=>epC 8 a [] [] g s AhP [] p
 |.DictComp a v g s p=>epC 9 a [v] [] g s AhP [] p
 |.Compare l _ rs p=>ep0 10 l l rs p
 |.Call f l k p=>epC 11 f l [] [] AhO AhP k p
 |.Attribute a x p=>epX 13 a x 0 p
 |.Subscript a b p=>ep0 14 a b [] p
 |.Starred a p=>ep0 15 a a [] p
 |.Name x p=>epX 16 e x 0 p
 |.List l p=>ep0 17 e e l p
 |.Tuple l n p=>⟨18,e,e,l,[],[],AhO,AhP,[],"",n,p⟩
 |.Slice _ _ _ p=>ep0 19 e e [] p
 |.IfExp t c o p=>ep0 20 t c [o] p
 |e=>ep0 0 e e [] ⟨0,0,0,0⟩
noncomputable def AjY(e:Expr):Nat:=(ep e).tag
set_option genInjectivity false in
structure SP where
 a:Expr
 b:Expr
 t:List Stmt
 h:List ExceptHandler
 s:Scope
 r:Arguments
noncomputable def cn0:Expr:=.Constant .none 0 ⟨0,0,0,0⟩
noncomputable def sp0(a b:Expr)(t:List Stmt):SP:=⟨a,b,t,[],AhO,AhP⟩
noncomputable def spx:Option Expr→SP
 |some e=>sp0 e cn0 []
 |none=>sp0 cn0 cn0 []
noncomputable def sp:Stmt→SP
 |.FunctionDef _ r b _ _ _ s _ _ _=>⟨cn0,cn0,b,[],s,r⟩
 |.ClassDef _ l _ b _ _ s _ _ _ _=>⟨l.getD 0 cn0,cn0,b,[],s,AhP⟩
 |.Return v _=>spx v
 |.Assign ts v _=>sp0 v (ts.getD 0 cn0) []
 |.For t i b _ _=>sp0 i t b
 |.While t b _ _=>sp0 t cn0 b
 |.If t b _ _=>sp0 t cn0 b
 |.Raise e _ _=>spx e
 |.Try b h _ _ _=>⟨cn0,cn0,b,h,AhO,AhP⟩
 |.Expr e _=>sp0 e cn0 []
 |_=>sp0 cn0 cn0 []
noncomputable def AbL(e:Expr):Bool:=!Nat.beq (AjY e) 15
noncomputable def AcA(e:Expr):Bool:=!Nat.beq (AjY e) 6
noncomputable def AhJ(e:Expr):Bool:=!Nat.beq (AjY e) 19
noncomputable def Akn(e:Expr):Bool:=!(Nat.beq (AjY e) 11 && (Nat.beq (AjY (ep e).a) 16 && ((ep e).l.isEmpty && (ep e).k.isEmpty)))
noncomputable def ABT(e:Expr):Bool:=Nat.beq (AjY e) 7
noncomputable def AgW(e:Expr):Bool:=Nat.beq (AjY e) 7 || (Nat.beq (AjY e) 8 || Nat.beq (AjY e) 9)
noncomputable def Awi(e:Expr):Bool:=Nat.beq (AjY e) 17 || Nat.beq (AjY e) 18
noncomputable def AdE(e:Expr):Bool:=Nat.beq (AjY e) 16
noncomputable def AhQ(e:Expr):Bool:=Nat.beq (AjY e) 11 || (Nat.beq (AjY e) 4 || (Nat.beq (AjY e) 5 || (Nat.beq (AjY e) 9 || Nat.beq (AjY e) 8)))
noncomputable def Aae(s:Stmt):List Stmt:=(sp s).t
noncomputable def Aad(s:Stmt):Scope:=(sp s).s
noncomputable def Aqd(s:Stmt):Arguments:=(sp s).r
noncomputable def AbH(s:Stmt):Expr:=(sp s).b
noncomputable def Aaj(s:Stmt):Expr:=(sp s).a
noncomputable def AsZ(e:Expr):Expr:=(ep e).l.getD 0 e
noncomputable def AdY(e:Expr):List Expr:=(ep e).l
noncomputable def Ac7(e:Expr):Pos:=(ep (ep e).a).p
noncomputable abbrev exprOf:=Aaj
noncomputable abbrev thenOf:=Aae
noncomputable abbrev loopOf:=Aae
noncomputable abbrev tryOf:=Aae
noncomputable abbrev iterOf:=Aaj
noncomputable abbrev testOf:=Aaj
noncomputable abbrev raiseOf:=Aaj
noncomputable abbrev tstE:=Aaj
noncomputable abbrev tgtOf:=AbH
noncomputable def As0(e:Expr):Expr:=(ep e).a
noncomputable def ABU(e:Expr):Expr:=(ep e).b
noncomputable abbrev binL:=As0
noncomputable abbrev binR:=ABU
noncomputable abbrev attrOf:=As0
noncomputable abbrev attrO:=As0
noncomputable abbrev lcElt:=As0
noncomputable abbrev lamBody:=As0
noncomputable abbrev leftOf:=As0
noncomputable abbrev unOf:=As0
noncomputable def AcX(e:Expr):Scope:=(ep e).s
noncomputable abbrev lcScope:=AcX
noncomputable abbrev tupEs:=AdY
noncomputable abbrev cmpR:=AsZ
noncomputable def Ay2(e:Expr):List Comprehension:=(ep e).g
noncomputable def Agj(e:Expr):Arguments:=(ep e).r
noncomputable def ABV(e:Expr):List Keyword:=(ep e).k
theorem AgX{e:Expr}(h:AdE e=true):e=.Name (ep e).x (ep e).p:=by
 revert h;induction e using Expr.casesOn<;>first|exact fun _=>rfl|exact Bool.noConfusion
noncomputable def Aqe(e:Expr):Bool:=Nat.beq (AjY e) 18
theorem Awj{e:Expr}(h:Aqe e=true):e=.Tuple (ep e).l (ep e).n (ep e).p:=by
 revert h;induction e using Expr.casesOn<;>first|exact fun _=>rfl|exact Bool.noConfusion
theorem Aak{α β:Type}{x:Option α}{f:α→Option β}{r:β}(h:x.bind f=some r):∃ a,x=some a∧f a=some r:=by
 cases x with
 |none=>exact Aah h
 |some a=>exact⟨a,rfl,h⟩
theorem Aau{α β:Type}{x:Option α}{f:α→Option β}{a:α}{r:β}(h1:x=some a)(h2:f a=some r):x.bind f=some r:=by subst h1;exact h2
theorem ift{c:Prop}[Decidable c]{α:Type}{x:Option α}{r:α}(h1:c)(h2:x=some r):(if c then x else none)=some r:=by rw[if_pos h1];exact h2
theorem ABz{α:Type}{l:List α}{d:α}(h:l.length=1):l=[l.getD 0 d]:=by
 induction l using List.casesOn with
 |nil=>exact Nat.noConfusion h
 |cons x l=>induction l using List.casesOn with
  |nil=>rfl
  |cons _ _=>exact Nat.noConfusion (Nat.succ.inj h)
theorem As1{α:Type}{l:List α}{d:α}(h:l.length=2):l=[l.getD 0 d,l.getD 1 d]:=by
 induction l using List.casesOn with
 |nil=>exact Nat.noConfusion h
 |cons x l=>exact congrArg (x :: ·) (ABz (d:=d) (Nat.succ.inj h))
theorem ADx{α:Type}{l:List α}{d:α}(h:l.length=3):l=[l.getD 0 d,l.getD 1 d,l.getD 2 d]:=by
 induction l using List.casesOn with
 |nil=>exact Nat.noConfusion h
 |cons x l=>exact congrArg (x :: ·) (As1 (d:=d) (Nat.succ.inj h))
theorem AhR{α:Type}{a a' b b':α}(h1:a=a')(h2:b=b'):[a,b]=[a',b']:=by subst h1;subst h2;rfl
end Mine
namespace Mine
open PySem PySem.W PyProof.Rows
inductive D where
 |none
 |bool (b:Bool)
 |int (i:Int)
 |str (s:Str)
 |tup (l:List D)
 |list (l:List D)
 |dict (hf:Str→Int) (ks:List Str) (vs:List D)
 |rng (lo hi:Int)
 |val (v:Value)
 deriving Inhabited
noncomputable abbrev Gh:=Addr→Option Obj
noncomputable def Gh.le(g g':Gh):Prop:=∀ a o,g a=some o→g' a=some o
theorem Gh.le_refl(g:Gh):g.le g:=fun _ _ h=>h
theorem Gh.le.trans{g g' g'':Gh}(h:g.le g')(h':g'.le g''):g.le g'':=fun a o e=>h' a o (h a o e)
inductive AdF(hf:Str→Int):List Str→List Value→List DictEntry→Prop
 |nil:AdF hf [] [] []
 |cons {k:Str} {t:Tok} {e:DictEntry} {ks:List Str} {vs:List Value} {es:List DictEntry}:e.key=.str k t→e.hash=hf k→AdF hf ks vs es→AdF hf (k :: ks) (e.val :: vs) (e :: es)
mutual
inductive Den(g:Gh):Value→D→Prop
 |none:Den g .none .none
 |bool {b:Bool}:Den g (.bool b) (.bool b)
 |int {i:Int} {t:Tok}:Den g (.int i t) (.int i)
 |str {s:Str} {t:Tok}:Den g (.str s t) (.str s)
 |tup {a:Addr} {vs:Array Value} {n:Nat} {ds:List D}:g a=some {cls:=.type "tuple",data:=.seq vs n}→Aav g vs.toList ds→Den g (.ref a) (.tup ds)
 |list {a:Addr} {vs:Array Value} {n:Nat} {ds:List D}:g a=some {cls:=.type "list",data:=.seq vs n}→Aav g vs.toList ds→Den g (.ref a) (.list ds)
 |dict {a:Addr} {es:Array DictEntry} {n:Nat} {hf:Str→Int} {ks:List Str} {vs:List Value} {ds:List D}:g a=some {cls:=.type "dict",data:=.dict es n} →
   AdF hf ks vs es.toList→Aav g vs ds→Den g (.ref a) (.dict hf ks ds)
 |rng {a:Addr} {lo hi:Int} {t1 t2 t3:Tok}:g a=some {cls:=.type "range",data:=.fields #[.int lo t1,.int hi t2,.int 1 t3]}→Den g (.ref a) (.rng lo hi)
 |val {v:Value}:Den g v (.val v)
inductive Aav(g:Gh):List Value→List D→Prop
 |nil:Aav g [] []
 |cons {v:Value} {d:D} {vs:List Value} {ds:List D}:Den g v d→Aav g vs ds→Aav g (v :: vs) (d :: ds)
end
theorem Den.both{g:Gh}{P:Value→D→Prop}{Q:List Value→List D→Prop}(h1:P .none .none)(h2:∀ {b},P (.bool b) (.bool b))(h3:∀ {i t},P (.int i t) (.int i))(h4:∀ {s t},P (.str s t) (.str s))
  (h5:∀ {a vs n ds},g a=some {cls:=.type "tuple",data:=.seq vs n}→Q vs.toList ds→P (.ref a) (.tup ds)) (h6:∀ {a vs n ds},g a=some {cls:=.type "list",data:=.seq vs n}→Q vs.toList ds→P (.ref a) (.list ds))
  (h7:∀ {a es n hf ks vs ds},g a=some {cls:=.type "dict",data:=.dict es n}→AdF hf ks vs es.toList→Q vs ds→P (.ref a) (.dict hf ks ds))
  (h8:∀ {a lo hi t1 t2 t3},g a=some {cls:=.type "range",data:=.fields #[.int lo t1,.int hi t2,.int 1 t3]}→P (.ref a) (.rng lo hi)) (h9:∀ {v},P v (.val v))
  (q1:Q [] []) (q2:∀ {v d vs ds},P v d→Q vs ds→Q (v :: vs) (d :: ds)):(∀ {v d},Den g v d→P v d)∧(∀ {vs ds},Aav g vs ds→Q vs ds):=
 ⟨fun h=>Den.rec (motive_1:=fun v d _=>P v d) (motive_2:=fun vs ds _=>Q vs ds) h1 h2 h3 h4 (fun e _ q=>h5 e q) (fun e _ q=>h6 e q) (fun e e' _ q=>h7 e e' q) (fun e=>h8 e) h9 q1 (fun _ _ p q=>q2 p q) h,
   fun h=>Aav.rec (motive_1:=fun v d _=>P v d) (motive_2:=fun vs ds _=>Q vs ds) h1 h2 h3 h4 (fun e _ q=>h5 e q) (fun e _ q=>h6 e q) (fun e e' _ q=>h7 e e' q) (fun e=>h8 e) h9 q1 (fun _ _ p q=>q2 p q) h⟩
theorem Den.monos{g g':Gh}(hle:g.le g'):(∀ {v d},Den g v d→Den g' v d)∧(∀ {vs ds},Aav g vs ds→Aav g' vs ds):=
 Den.both (P:=Den g') (Q:=Aav g') .none .bool .int .str (fun e h=>.tup (hle _ _ e) h) (fun e h=>.list (hle _ _ e) h) (fun e e' h=>.dict (hle _ _ e) e' h) (fun e=>.rng (hle _ _ e)) .val .nil .cons
theorem Den.mono{g g':Gh}(hle:g.le g'){v:Value}{d:D}(h:Den g v d):Den g' v d:=(Den.monos hle).1 h
theorem Aav.mono{g g':Gh}(hle:g.le g'){vs:List Value}{ds:List D}(h:Aav g vs ds):Aav g' vs ds:=(Den.monos hle).2 h
theorem Aav.ind{g:Gh}{motive:(vs:List Value)→(ds:List D)→Aav g vs ds→Prop}(nil:motive [] [] .nil)(cons:∀ {v d vs ds} (h1:Den g v d) (h2:Aav g vs ds),motive vs ds h2→motive (v :: vs) (d :: ds) (.cons h1 h2)){vs:List Value}{ds:List D}(h:Aav g vs ds):motive vs ds h:=
 Aav.rec (motive_1:=fun _ _ _=>True) (motive_2:=motive) trivial trivial trivial trivial (fun _ _ _=>trivial) (fun _ _ _=>trivial) (fun _ _ _ _=>trivial) (fun _=>trivial) trivial nil (fun h1 h2 _ q=>cons h1 h2 q) h
noncomputable def AC4(g:Gh)(P:Value→Prop):D→Prop
 |.none=>P .none
 |.bool b=>P (.bool b)
 |.int i=>∀ t,P (.int i t)
 |.str x=>∀ t,P (.str x t)
 |.tup ds=>∀ a vs n,g a=some {cls:=.type "tuple",data:=.seq vs n}→Aav g vs.toList ds→P (.ref a)
 |.list ds=>∀ a vs n,g a=some {cls:=.type "list",data:=.seq vs n}→Aav g vs.toList ds→P (.ref a)
 |.dict hf ks ds=>∀ a es n vs,g a=some {cls:=.type "dict",data:=.dict es n}→AdF hf ks vs es.toList→Aav g vs ds→P (.ref a)
 |.rng lo hi=>∀ a t1 t2 t3,g a=some {cls:=.type "range",data:=.fields #[.int lo t1,.int hi t2,.int 1 t3]}→P (.ref a)
 |.val w=>P w
theorem Den.byD{g:Gh}{P:Value→Prop}{v:Value}{d:D}(h:Den g v d):AC4 g P d→P v:=
 Den.casesOn (motive_1:=fun v d _=>AC4 g P d→P v) h id id (fun k=>k _) (fun k=>k _) (fun h1 h2 k=>k _ _ _ h1 h2) (fun h1 h2 k=>k _ _ _ h1 h2) (fun h1 h2 h3 k=>k _ _ _ _ h1 h2 h3) (fun h1 k=>k _ _ _ _ h1) id
theorem Den.noneE{g:Gh}{motive:(v:Value)→Den g v .none→Prop}(none:motive .none .none){v:Value}(h:Den g v .none):motive v h:=h.byD (P:=fun v=>∀ h:Den g v .none,motive v h) (fun _=>none) h
theorem Den.boolE{g:Gh}{b:Bool}{motive:(v:Value)→Den g v (.bool b)→Prop}(bool:motive (.bool b) .bool){v:Value}(h:Den g v (.bool b)):motive v h:=h.byD (P:=fun v=>∀ h:Den g v (.bool b),motive v h) (fun _=>bool) h
theorem Den.intE{g:Gh}{i:Int}{motive:(v:Value)→Den g v (.int i)→Prop}(int:∀ {t},motive (.int i t) .int){v:Value}(h:Den g v (.int i)):motive v h:=h.byD (P:=fun v=>∀ h:Den g v (.int i),motive v h) (fun _ _=>int) h
theorem Den.strE{g:Gh}{x:Str}{motive:(v:Value)→Den g v (.str x)→Prop}(str:∀ {t},motive (.str x t) .str){v:Value}(h:Den g v (.str x)):motive v h:=h.byD (P:=fun v=>∀ h:Den g v (.str x),motive v h) (fun _ _=>str) h
theorem Den.valE{g:Gh}{w:Value}{motive:(v:Value)→Den g v (.val w)→Prop}(val:motive w .val){v:Value}(h:Den g v (.val w)):motive v h:=h.byD (P:=fun v=>∀ h:Den g v (.val w),motive v h) (fun _=>val) h
theorem Den.tupE{g:Gh}{ds:List D}{motive:(v:Value)→Den g v (.tup ds)→Prop}(tup:∀ {a vs n} (h1:g a=some {cls:=.type "tuple",data:=.seq vs n}) (h2:Aav g vs.toList ds),motive (.ref a) (.tup h1 h2)){v:Value}(h:Den g v (.tup ds)):motive v h:=h.byD (P:=fun v=>∀ h:Den g v (.tup ds),motive v h) (fun _ _ _ h1 h2 _=>tup h1 h2) h
theorem Den.listE{g:Gh}{ds:List D}{motive:(v:Value)→Den g v (.list ds)→Prop}(list:∀ {a vs n} (h1:g a=some {cls:=.type "list",data:=.seq vs n}) (h2:Aav g vs.toList ds),motive (.ref a) (.list h1 h2)){v:Value}(h:Den g v (.list ds)):motive v h:=h.byD (P:=fun v=>∀ h:Den g v (.list ds),motive v h) (fun _ _ _ h1 h2 _=>list h1 h2) h
noncomputable def Ay3(g:Gh)(P:List Value→Prop):List D→Prop
 |[]=>P []
 |d :: ds=>∀ v vs,Den g v d→Aav g vs ds→P (v :: vs)
theorem Aav.byL{g:Gh}{P:List Value→Prop}{vs:List Value}{ds:List D}(h:Aav g vs ds):Ay3 g P ds→P vs:=
 Aav.casesOn (motive_2:=fun vs ds _=>Ay3 g P ds→P vs) h id (fun h1 h2 k=>k _ _ h1 h2)
theorem Aav.consE{g:Gh}{d:D}{ds:List D}{motive:(vs:List Value)→Aav g vs (d :: ds)→Prop}(cons:∀ {v vs} (h1:Den g v d) (h2:Aav g vs ds),motive (v :: vs) (.cons h1 h2)){vs:List Value}(h:Aav g vs (d :: ds)):motive vs h:=h.byL (P:=fun vs=>∀ h:Aav g vs (d :: ds),motive vs h) (fun _ _ h1 h2 _=>cons h1 h2) h
theorem Aav.nilE{g:Gh}{motive:(vs:List Value)→Aav g vs []→Prop}(nil:motive [] .nil){vs:List Value}(h:Aav g vs []):motive vs h:=h.byL (P:=fun vs=>∀ h:Aav g vs [],motive vs h) (fun _=>nil) h
theorem Aav.length{g:Gh}{vs:List Value}{ds:List D}(h:Aav g vs ds):vs.length=ds.length:=by
 induction h using Aav.ind with
 |nil=>rfl
 |cons _ _ ih=>exact congrArg (·+1) ih
theorem Aav.append{g:Gh}{vs vs':List Value}{ds ds':List D}(h:Aav g vs ds)(h':Aav g vs' ds'):Aav g (vs++vs') (ds++ds'):=by
 induction h using Aav.ind with
 |nil=>exact h'
 |cons h1 _ ih=>exact .cons h1 ih
theorem Aav.get{g:Gh}{vs:List Value}{ds:List D}(h:Aav g vs ds){i:Nat}{d:D}(e:ds[i]?=some d):∃ v,vs[i]?=some v∧Den g v d:=by
 induction h using Aav.ind generalizing i with
 |nil=>exact Aah e
 |cons h1 _ ih=>
  induction i using Nat.casesAuxOn with
  |zero=>exact sj e ▸ ⟨_,rfl,h1⟩
  |succ i=>exact ih e
theorem Aav.reverse{g:Gh}{vs:List Value}{ds:List D}(h:Aav g vs ds):Aav g vs.reverse ds.reverse:=by
 induction h using Aav.ind with
 |nil=>exact .nil
 |cons h1 _ ih=>rw[List.reverse_cons,List.reverse_cons];exact ih.append (.cons h1 .nil)
noncomputable def AcL(o:Obj):Prop:=(∃ vs,o.data=.fields vs)∧(o.cls=.none∨o.cls=.type "code")
noncomputable def Abv(o:Obj):Prop:=¬ (o.cls=.none∧∃ vs,o.data=.fields vs)
structure Ext(h h':Heap):Prop where
 keep:∀ a o,h.get? a=some o→Abv o→h'.get? a=some o
 live:∀ a o,h.get? a=some o→∃ o',h'.get? a=some o'
theorem Ext.refl(h:Heap):Ext h h:=⟨fun _ _ e _=>e,fun _ o e=>⟨o,e⟩⟩
theorem Ext.trans{h h' h'':Heap}(x:Ext h h')(y:Ext h' h''):Ext h h'':=⟨fun a o e n=>y.keep a o (x.keep a o e n) n,fun a o e=>let ⟨o',e'⟩:=x.live a o e;y.live a o' e'⟩
theorem Ext.of{h h':Heap}(k:∀ a o,h.get? a=some o→h'.get? a=some o):Ext h h':=⟨fun a o e _=>k a o e,fun a o e=>⟨o,k a o e⟩⟩
theorem Ext.push(h:Heap)(o:Obj):Ext h (h.push o):=.of fun _ _ e=>Heap.get?_push_of_some _ e
theorem Ext.dead{h h':Heap}{a:Addr}(x:Ext h h')(e:h'.get? a=none):h.get? a=none:=by
 cases q:h.get? a with
 |none=>rfl
 |some o=>refine Abo (x.live a o q) fun o' e'=>?_;rw[e] at e';exact Aah e'
theorem Ext.butE{h₀ h h':Heap}{b:Addr}(x:Ext h₀ h)(hb:h₀.get? b=none)(s:Heap.ExtBut b h h'):Ext h₀ h':=by
 have ne:∀ a o,h₀.get? a=some o→a≠b:=by intro a o e q1;subst q1;rw[hb] at e;exact Aah e
 exact⟨fun a o e n=>s a o (ne a o e) (x.keep a o e n),fun a o e=>let ⟨o',e'⟩:=x.live a o e;⟨o',s a o' (ne a o e) e'⟩⟩
theorem Aap{o:Obj}{n:String}(h:o.cls=.type n):Abv o:=fun e=>by rw[h] at e;cases e.1
theorem Acr{o:Obj}(h:∀ vs,o.data≠.fields vs):Abv o:=fun ⟨_,vs,e⟩=>h vs e
theorem Aex{o:Obj}(h:∀ vs,o.data≠.fields vs):¬ AcL o:=fun ⟨⟨vs,e⟩,_⟩=>h vs e
theorem AaU{o:Obj}{n:String}(h:o.cls=.type n)(hn:n≠"code"):¬ AcL o:=fun ⟨_,e⟩=>by rw[h] at e;rcases e with e|e<;>(first|(injection e;done)|cases e);exact hn rfl
structure Bs where
 prog:Program
 w:World
 G:Heap
 mg:Str→Option Value
 mb:Str→Option Value
 os:OsState
 tb:Heap→Prop
structure Bs.Ok(B:Bs):Prop where
 g:B.G.Ns mainGlobals B.mg
 b:B.G.Ns builtinsNs B.mb
 lim:B.G.NoLimit
 tb:∀ h h',B.tb h→(∀ a o,h.get? a=some o→AcL o→h'.get? a=some o)→B.tb h'
structure Inv(B:Bs)(s:Shared)(g:Gh):Prop where
 base:∀ a o,B.G.get? a=some o→g a=some o
 real:∀ a o,g a=some o→s.heap.get? a=some o
 nt:∀ a o,g a=some o→Abv o∨B.G.get? a=some o
 tb:B.tb s.heap
 gens:s.gens=#[]
 os:s.os=B.os
structure AOk(n:Nat)(A:Around):Prop where
 handled:A.handled=none
 depth:A.depth+8*n≤990
 units:A.units+100*n≤9800
theorem szl{n N:Nat}(h:n<64)(hN:64≤N):n≤N:=Nat.le_trans (Nat.le_of_lt h) hN
theorem nle{a a' c n N:Nat}(h:a+c*(n+1)≤N)(ha:a'≤a+c):a'+c*n≤N:=
 Nat.le_trans (Nat.add_le_add_right ha _) (Nat.le_trans (Nat.le_of_eq ((Nat.add_assoc a c _).trans (congrArg (a+·) (Nat.add_comm c _)))) h)
theorem AOk.to{n k:Nat}{A A':Around}(h:AOk (n+1) A)(hh:A'.handled=none)(hd:A'.depth≤A.depth+8)(hu:A'.units=A.units+k)(hk:k≤100):AOk n A':=⟨hh,nle h.depth hd,nle h.units (hu ▸ Nat.add_le_add_left hk _)⟩
noncomputable abbrev Bs.M(B:Bs):Model:=model B.prog B.w
structure Aag(B:Bs)(s:Shared)(g:Gh)(s':Shared)(g':Gh):Prop where
 le:g.le g'
 inv:Inv B s' g'
 ext:Ext s.heap s'.heap
 new:∀ a o,g' a=some o→g a=some o∨s.heap.get? a=none
section
variable{B:Bs}{s s' s'':Shared}{g g' g'':Gh}
theorem Aag.refl(I:Inv B s g):Aag B s g s g:=⟨g.le_refl,I,Ext.refl _,fun _ _ e=>.inl e⟩
theorem Aag.trans(x:Aag B s g s' g')(y:Aag B s' g' s'' g''):Aag B s g s'' g'':=
 ⟨x.le.trans y.le,y.inv,x.ext.trans y.ext,fun a o e=>(y.new a o e).elim (x.new a o) fun h=>.inr (x.ext.dead h)⟩
end
noncomputable def Aaq{α:Type}(B:Bs)(A:Around)(s:Shared)(g:Gh)(t:Sem α)(P:Gh→α→Prop):Prop:=
 wpAny B.M A t (fun a s'=>∃ g',Aag B s g s' g'∧P g' a) (fun _ _=>False) s
section
variable{α β:Type}{B:Bs}{A:Around}{s:Shared}{g:Gh}
theorem Aaq.mono{t:Sem α}{P P':Gh→α→Prop}(h:Aaq B A s g t P)(hp:∀ g' a,P g' a→P' g' a):Aaq B A s g t P':=
 wpAny_mono h (fun a _ ⟨g',h1,h4⟩=>⟨g',h1,hp g' a h4⟩) fun _ _ h=>h
theorem Aaq.pure{a:α}{P:Gh→α→Prop}(I:Inv B s g)(h:P g a):Aaq B A s g (Pure.pure a) P:=wpAny_pure ⟨g,Aag.refl I,h⟩
theorem Aaq.from{s':Shared}{g':Gh}{t:Sem α}{P:Gh→α→Prop}(x:Aag B s g s' g')(h:Aaq B A s' g' t P) :
  wpAny B.M A t (fun a s''=>∃ g'',Aag B s g s'' g''∧P g'' a) (fun _ _=>False) s':=
 wpAny_mono h (fun _ _ ⟨g'',h1,h4⟩=>⟨g'',x.trans h1,h4⟩) fun _ _ h=>h
theorem Aaq.use{t:Sem α}{P:Gh→α→Prop}{Q:α→Shared→Prop}{E:Value→Shared→Prop}(h:Aaq B A s g t P)
  (k:∀ a s' g',Aag B s g s' g'→P g' a→Q a s'):wpAny B.M A t Q E s:=
 wpAny_mono h (fun a s' ⟨g',h1,h4⟩=>k a s' g' h1 h4) fun _ _ h=>h.elim
theorem Aaq.useI{i:Int}{t:Sem Value}{Q:Value→Shared→Prop}{E:Value→Shared→Prop}(h:Aaq B A s g t fun g' v=>Den g' v (.int i))(k:∀ tk s' g',Aag B s g s' g'→Q (.int i tk) s'):wpAny B.M A t Q E s:=
 h.use fun v s' g' x hv=>by induction hv using Den.intE;exact k _ s' g' x
theorem Aaq.useV{w:Value}{t:Sem Value}{Q:Value→Shared→Prop}{E:Value→Shared→Prop}(h:Aaq B A s g t fun g' v=>Den g' v (.val w))(k:∀ s' g',Aag B s g s' g'→Q w s'):wpAny B.M A t Q E s:=
 h.use fun v s' g' x hv=>by induction hv using Den.valE;exact k s' g' x
theorem Aaq.bind{t:Sem α}{k:α→Sem β}{P:Gh→α→Prop}{P':Gh→β→Prop}(h:Aaq B A s g t P)
  (hk:∀ a s' g',Aag B s g s' g'→P g' a→Aaq B A s' g' (k a) P'):Aaq B A s g (t >>= k) P':=
 wpAny_bind (h.use fun a s' g' h1 h4=>(hk a s' g' h1 h4).from h1)
end
noncomputable def Gh.put(g:Gh)(a:Addr)(o:Obj):Gh:=fun b=>if b=a then some o else g b
theorem Gh.put_self(g:Gh)(a:Addr)(o:Obj):g.put a o a=some o:=if_pos rfl
theorem Gh.put_other{g:Gh}{a b:Addr}{o:Obj}(h:b≠a):g.put a o b=g b:=if_neg h
theorem Gh.le_put{g:Gh}{a:Addr}(o:Obj)(h:g a=none):g.le (g.put a o):=fun b o' e=>by
 unfold Gh.put
 by_cases hb:b=a
 ·subst hb;rw[h] at e;exact Aah e
 ·rw[if_neg hb];exact e
theorem Inv.fresh{B:Bs}{s:Shared}{g:Gh}(I:Inv B s g):g s.heap.objs.size=none:=by
 cases h:g s.heap.objs.size with
 |none=>rfl
 |some o=>exact absurd (Heap.lt_size (I.real _ _ h)) (Nat.lt_irrefl _)
theorem Aa1(h:Heap):h.get? h.objs.size=none:=by
 cases e:h.get? h.objs.size with
 |none=>rfl
 |some o=>exact absurd (Heap.lt_size e) (Nat.lt_irrefl _)
theorem Inv.keeps{B:Bs}{s s':Shared}{g:Gh}(O:B.Ok)(I:Inv B s g)(k:∀ a o,s.heap.get? a=some o→s'.heap.get? a=some o)(hg:s'.gens=s.gens)(ho:s'.os=s.os):Inv B s' g:=
 ⟨I.base,fun a o e=>k a o (I.real a o e),I.nt,O.tb _ _ I.tb fun a o e _=>k a o e,hg.trans I.gens,ho.trans I.os⟩
theorem Inv.tok{B:Bs}{s:Shared}{g:Gh}(I:Inv B s g)(t:Nat):Inv B {s with toks:=t} g:=⟨I.base,I.real,I.nt,I.tb,I.gens,I.os⟩
theorem Aag.tok{B:Bs}{s:Shared}{g:Gh}(I:Inv B s g)(t:Nat):Aag B s g {s with toks:=t} g:=⟨g.le_refl,I.tok t,Ext.refl _,fun _ _ e=>.inl e⟩
theorem Aag.open{B:Bs}{s:Shared}{g:Gh}{o:Obj}(O:B.Ok)(I:Inv B s g):Aag B s g {s with heap:=s.heap.push o} g:=
 ⟨g.le_refl,I.keeps O (fun _ _ e=>Heap.get?_push_of_some _ e) rfl rfl,Ext.push _ _,fun _ _ e=>.inl e⟩
theorem Aag.alloc{B:Bs}{s:Shared}{g:Gh}{o:Obj}(O:B.Ok)(I:Inv B s g)(hf:o.isFreed=false)(hn:Abv o):Aag B s g {s with heap:=s.heap.push o} (g.put s.heap.objs.size o):=by
 refine⟨Gh.le_put o I.fresh,⟨fun a o' e=>Gh.le_put o I.fresh a o' (I.base a o' e),fun a o' e=>?_,fun a o' e=>?_,O.tb _ _ I.tb fun a o' e _=>Heap.get?_push_of_some _ e,I.gens,I.os⟩,Ext.push _ _,fun a o' e=>?_⟩
 ·unfold Gh.put at e
  by_cases h:a=s.heap.objs.size
  ·subst h;rw[if_pos rfl] at e;cases e;exact Heap.get?_push_size _ hf
  ·rw[if_neg h] at e;exact Heap.get?_push_of_some _ (I.real a o' e)
 ·unfold Gh.put at e
  by_cases h:a=s.heap.objs.size
  ·subst h;rw[if_pos rfl] at e;cases e;exact .inl hn
  ·rw[if_neg h] at e;exact I.nt a o' e
 ·unfold Gh.put at e
  by_cases h:a=s.heap.objs.size
  ·exact .inr (h ▸ Aa1 _)
  ·rw[if_neg h] at e;exact .inl e
theorem Aag.shut{B:Bs}{s s':Shared}{g g':Gh}{a:Addr}{o:Obj}(x:Aag B s g s' g')(ha:s.heap.get? a=none)(ho:s'.heap.get? a=some o)(hg:g' a=none)(hn:Abv o):Aag B s g s' (g'.put a o):=by
 refine⟨x.le.trans (Gh.le_put o hg),⟨fun b o' e=>Gh.le_put o hg b o' (x.inv.base b o' e),fun b o' e=>?_,fun b o' e=>?_,x.inv.tb,x.inv.gens,x.inv.os⟩,x.ext,fun b o' e=>?_⟩
 ·unfold Gh.put at e
  by_cases h:b=a
  ·subst h;rw[if_pos rfl] at e;cases e;exact ho
  ·rw[if_neg h] at e;exact x.inv.real b o' e
 ·unfold Gh.put at e
  by_cases h:b=a
  ·subst h;rw[if_pos rfl] at e;cases e;exact .inl hn
  ·rw[if_neg h] at e;exact x.inv.nt b o' e
 ·unfold Gh.put at e
  by_cases h:b=a
  ·subst h;exact .inr ha
  ·rw[if_neg h] at e;exact x.new b o' e
theorem Inv.but{B:Bs}{s s':Shared}{g:Gh}{b:Addr}{ob:Obj}(O:B.Ok)(I:Inv B s g)(hb:g b=none)(hob:s.heap.get? b=some ob)(hn:¬ AcL ob)
  (k:∀ a o,a≠b→s.heap.get? a=some o→s'.heap.get? a=some o) (hg:s'.gens=s.gens) (ho:s'.os=s.os):Inv B s' g:=by
 refine⟨I.base,fun a o e=>k a o ?_ (I.real a o e),I.nt,O.tb _ _ I.tb fun a o e h=>k a o ?_ e,hg.trans I.gens,ho.trans I.os⟩
 ·intro q2;subst q2;rw[hb] at e;exact Aah e
 ·intro q3;subst q3;rw[hob] at e;cases e;exact hn h
theorem Aag.turnE{B:Bs}{s s' s'':Shared}{g g':Gh}{b:Addr}{ob:Obj}(O:B.Ok)(x:Aag B s g s' g')(hnew:s.heap.get? b=none)(hb:g' b=none)(hob:s'.heap.get? b=some ob)(hn:¬ AcL ob)
  (k:Heap.ExtBut b s'.heap s''.heap) (hg:s''.gens=s'.gens) (ho:s''.os=s'.os):Aag B s g s'' g':=
 ⟨x.le,x.inv.but O hb hob hn k hg ho,x.ext.butE hnew k,x.new⟩
theorem Aag.turn{B:Bs}{s s' s'':Shared}{g g':Gh}{b:Addr}{ob:Obj}(O:B.Ok)(x:Aag B s g s' g')(hnew:s.heap.get? b=none)(hb:g' b=none)(hob:s'.heap.get? b=some ob)(hn:¬ AcL ob)
  (k:Heap.SameBut b s'.heap s''.heap) (hg:s''.gens=s'.gens) (ho:s''.os=s'.os):Aag B s g s'' g':=x.turnE O hnew hb hob hn k.extBut hg ho
theorem AgY{h:Heap}{c:Addr}{v:Option Value}(x:h.IsCell c v):∃ o,h.get? c=some o∧Abv o∧¬ AcL o∧o.data=.cell v:=by refine Aaf x fun o ho hd=>?_;exact⟨o,ho,Acr fun vs e=>(by rw[hd] at e;injection e),Aex fun vs e=>(by rw[hd] at e;injection e),hd⟩
theorem AcY{h h':Heap}{c:Addr}{v:Option Value}(x:h.IsCell c v)(e:Ext h h'):h'.IsCell c v:=by refine Amu (AgY x) fun o ho hn _ hd=>?_;exact⟨o,e.keep c o ho hn,hd⟩
theorem Afy{h:Heap}{a:Addr}{m:Str→Option Value}(x:h.Ns a m):∃ o,h.get? a=some o∧Abv o∧¬ AcL o∧∃ es n,o.data=.dict es n:=by refine Avu x fun o es ep ho hd _=>?_;exact⟨o,ho,Acr fun vs e=>(by rw[hd] at e;injection e),Aex fun vs e=>(by rw[hd] at e;injection e),es,ep,hd⟩
theorem AgZ{h:Heap}{a:Addr}{m:Str→Option Value}(x:h.Ns a m){P:Prop}(k:∀ o,h.get? a=some o→Abv o→¬ AcL o→∀ es n,o.data=.dict es n→P):P:=by
 obtain⟨o,h1,h2,h3,es,n,h4⟩:=Afy x
 exact k o h1 h2 h3 es n h4
theorem Avw{h h':Heap}{a:Addr}{m:Str→Option Value}(x:h.Ns a m)(e:Ext h h'):h'.Ns a m:=by refine Avu x fun o es ep ho hd r=>?_;exact⟨o,es,ep,e.keep a o ho (Acr fun vs e=>(by rw[hd] at e;injection e)),hd,r⟩
theorem Agk{h:Heap}{a c:Addr}{m:Str→Option Value}{v:Option Value}(x:h.Ns a m)(y:h.IsCell c v):a≠c:=by intro q1;subst q1;refine AgZ x fun o ho _ _ es n hd=>?_;refine Aaf y fun o' ho' hd'=>?_;rw[ho] at ho';cases ho';rw[hd] at hd';injection hd'
structure Fm(B:Bs)(s₀:Shared)(g₀:Gh)(own:List Str)(env:Env)(ρ:List (Str×D))(s:Shared)(g:Gh):Prop where
 st:Aag B s₀ g₀ s g
 kind:env.scope.kind=.function
 glob:env.globals=mainGlobals
 blt:env.builtins=builtinsNs
 vars:∃ m,s.heap.Ns env.locals m∧∀ x d,ρ.lookup x=some d→env.kindOf x=some .local→∃ v,m x=some v∧Den g v d
 cells:∀ x,(env.kindOf x=some .cell∨env.kindOf x=some .free)→∃ c v,env.cells.lookup x=some c∧s.heap.IsCell c v∧∀ d,ρ.lookup x=some d→∃ v',v=some v'∧Den g v' d
 kinds:∀ x d,ρ.lookup x=some d→env.kindOf x=some .local∨env.kindOf x=some .cell∨env.kindOf x=some .free
 loc:s₀.heap.get? env.locals=none∧g env.locals=none
 own:∀ x∈own,∃ c v,env.cells.lookup x=some c∧s.heap.IsCell c v∧s₀.heap.get? c=none∧g c=none∧∀ y c',env.cells.lookup y=some c'→y≠x→c'≠c
noncomputable def AbB(x:Str):Bool:=!(x == ("__debug__":Str)) && !(x == ("__classdict__":Str))
theorem Ako{x:Str}(h:AbB x=true):(x == ("__debug__":Str))=false:=by unfold AbB at h;simp only[Bool.and_eq_true,Bool.not_eq_true'] at h;exact h.1
theorem As2{x:Str}(h:AbB x=true):(x == ("__classdict__":Str))=false:=by unfold AbB at h;simp only[Bool.and_eq_true,Bool.not_eq_true'] at h;exact h.2
section
variable{B:Bs}{A:Around}{s₀ s s':Shared}{g₀ g g':Gh}{own:List Str}{env:Env}{ρ:List (Str×D)}
theorem Aag.shutNone{a:Addr}{o:Obj}(x:Aag B s g s' g')(ha:s.heap.get? a=some o)(h:g a=none):g' a=none:=by
 cases e:g' a with
 |none=>rfl
 |some o=>
  rcases x.new a o e with h'|h'
  ·rw[h] at h';exact Aah h'
  ·rw[ha] at h';injection h'
theorem Fm.step(F:Fm B s₀ g₀ own env ρ s g)(x:Aag B s g s' g'):Fm B s₀ g₀ own env ρ s' g':=by
 refine Aaf F.vars fun m hm hv=>?_;refine⟨F.st.trans x,F.kind,F.glob,F.blt,⟨m,Avw hm x.ext,fun y d e k=>?_⟩,fun y hy=>?_,F.kinds,⟨F.loc.1,(let ⟨_,ho,_⟩:=Afy hm;x.shutNone ho F.loc.2)⟩,fun y hy=>?_⟩
 ·refine Aaf (hv y d e k) fun v e1 e2=>?_;exact⟨v,e1,e2.mono x.le⟩
 ·refine Adp (F.cells y hy) fun c v e1 e2 e3=>?_;refine⟨c,v,e1,AcY e2 x.ext,fun d hd=>?_⟩;refine Aaf (e3 d hd) fun v' e4 e5=>?_;exact⟨v',e4,e5.mono x.le⟩
 ·refine Ay0 (F.own y hy) fun c v e1 e2 e3 e4 e5=>?_;exact⟨c,v,e1,AcY e2 x.ext,e3,(let ⟨_,ho,_⟩:=e2;x.shutNone ho e4),e5⟩
theorem Fm.inv(F:Fm B s₀ g₀ own env ρ s g):Inv B s g:=F.st.inv
theorem Fm.loadName(F:Fm B s₀ g₀ own env ρ s g){x:Str}{d:D}(hx:ρ.lookup x=some d)(hok:AbB x=true):Aaq B A s g (loadName env x) fun g' v=>Den g' v d:=by
 rcases F.kinds x d hx with hk|hk|hk
 ·refine Aaf F.vars fun m hm hv=>?_;refine Aaf (hv x d hx hk) fun v e1 e2=>?_;exact wpAny_loadName_local F.kind hk hm e1 ⟨g,Aag.refl F.inv,e2⟩
 ·refine Adp (F.cells x (.inl hk)) fun c v e1 e2 e3=>?_;refine Aaf (e3 d hx) fun v' q2 e5=>?_;subst q2;exact wpAny_loadName_cell F.kind hk e1 e2 ⟨g,Aag.refl F.inv,e5⟩
 ·refine Adp (F.cells x (.inr hk)) fun c v e1 e2 e3=>?_;refine Aaf (e3 d hx) fun v' q3 e5=>?_;subst q3;exact wpAny_loadName_free F.kind hk e1 e2 ⟨g,Aag.refl F.inv,e5⟩ (As2 hok)
theorem Fm.name(F:Fm B s₀ g₀ own env ρ s g){x:Str}{d:D}{pos:Pos}(hx:ρ.lookup x=some d)(hok:AbB x=true):Aaq B A s g (eval (.Name x pos) env) fun g' v=>Den g' v d:=
 wpAny_Name (F.loadName hx hok) (Ako hok)
noncomputable def Bs.look(B:Bs)(x:Str):Option Value:=(B.mg x).or (B.mb x)
theorem Inv.ns{a:Addr}{m:Str→Option Value}(I:Inv B s g)(h:B.G.Ns a m):s.heap.Ns a m:=by refine Avt h fun o es ep ho r=>?_;exact⟨o,es,ep,I.real _ _ (I.base _ _ ho),r⟩
theorem Fm.gname(O:B.Ok)(F:Fm B s₀ g₀ own env ρ s g){x:Str}{v:Value}{pos:Pos}(hk:env.kindOf x=some .globalImplicit)(hv:B.look x=some v)(hok:AbB x=true) :
  Aaq B A s g (eval (.Name x pos) env) fun _ v'=>v'=v:=by
 refine wpAny_Name ?_ (Ako hok);rw[loadName_read F.kind hk];unfold loadGlobal;rw[F.glob,F.blt];refine wpAny_bind (wpAny_nsGet (F.inv.ns O.g) ?_);unfold Bs.look at hv
 cases e:B.mg x with
 |some v'=>
  rw[e] at hv
  cases hv
  exact wpAny_pure ⟨g,Aag.refl F.inv,rfl⟩
 |none=>
  rw[e] at hv;refine wpAny_bind (wpAny_nsGet (F.inv.ns O.b) ?_);have hv:B.mb x=some v:=hv;rw[hv];exact wpAny_pure ⟨g,Aag.refl F.inv,rfl⟩
noncomputable def Loc(env:Env)(own:List Str)(a:Addr):Prop:=a=env.locals∨∃ x∈own,env.cells.lookup x=some a
theorem Aab{x y:Str}{d:D}:((x,d) :: ρ).lookup y=if y=x then some d else ρ.lookup y:=by
 rw[List.lookup_cons]
 by_cases h:y=x
 ·subst h;simp
 ·have:(y == x)=false:=beq_eq_false_iff_ne.mpr h;simp [h,this]
theorem Fm.store(O:B.Ok)(F:Fm B s₀ g₀ own env ρ s g){x:Str}{v:Value}{d:D}{Q:Unit→Shared→Prop}{E:Value→Shared→Prop}(hx:env.kindOf x=some .local∨(env.kindOf x=some .cell∧x∈own))(hd:Den g v d)
  (h:∀ s',Fm B s₀ g₀ own env ((x,d) :: ρ) s' g→(∀ a o,¬ Loc env own a→s.heap.get? a=some o→s'.heap.get? a=some o)→Q () s'):wpAny B.M A (storeName env x v) Q E s:=by
 refine Aaf F.vars fun m hm hv=>?_
 rcases hx with hk|⟨hk,ho⟩
 ·refine wpAny_storeName_local hk hm (fun h' hn hs=>h _ ?_ (fun a o hl e=>(hs.2 a fun e'=>hl (.inl e')).trans e)) (by rw[F.kind];rfl);refine Amu (Afy hm) fun oL hL _ hnt _=>?_;refine⟨F.st.turn O F.loc.1 F.loc.2 hL hnt hs rfl rfl,F.kind,F.glob,F.blt,⟨_,hn,fun y e ey ky=>?_⟩,fun y hy=>?_,fun y e ey=>?_,F.loc,fun y hy=>?_⟩
  ·rw[Aab] at ey
   by_cases hyx:y=x
   ·rw[if_pos hyx] at ey ⊢;cases ey;exact⟨v,rfl,hd⟩
   ·rw[if_neg hyx] at ey ⊢;exact hv y e ey ky
  ·refine Adp (F.cells y hy) fun c u e1 e2 e3=>?_;refine⟨c,u,e1,e2.sameBut hs (Agk hm e2).symm,fun e ey=>?_⟩;rw[Aab] at ey
   by_cases hyx:y=x
   ·subst hyx;rw[hk] at hy;rcases hy with hy|hy<;>cases hy
   ·rw[if_neg hyx] at ey;exact e3 e ey
  ·rw[Aab] at ey
   by_cases hyx:y=x
   ·subst hyx;exact .inl hk
   ·rw[if_neg hyx] at ey;exact F.kinds y e ey
  ·refine Adp (F.own y hy) fun c u e1 e2 r=>?_;exact⟨c,u,e1,e2.sameBut hs (Agk hm e2).symm,r⟩
 ·refine Ay0 (F.own x ho) fun c u e1 e2 e3 e4 e5=>?_;refine wpAny_storeName_cell F.kind hk e1 e2 fun h' hc hs=>h _ ?_ (fun a o hl e=>(hs.2 a fun e'=>hl (.inr ⟨x,ho,e' ▸ e1⟩)).trans e);refine Amu (AgY e2) fun oC hC _ hnt _=>?_;refine⟨F.st.turn O e3 e4 hC hnt hs rfl rfl,F.kind,F.glob,F.blt,⟨m,hm.sameBut hs (Agk hm e2),fun y e ey ky=>?_⟩,fun y hy=>?_,fun y e ey=>?_,F.loc,fun y hy=>?_⟩
  ·rw[Aab] at ey
   by_cases hyx:y=x
   ·subst hyx;rw[hk] at ky;cases ky
   ·rw[if_neg hyx] at ey;exact hv y e ey ky
  ·by_cases hyx:y=x
   ·subst hyx;refine⟨c,some v,e1,hc,fun e ey=>?_⟩;rw[Aab,if_pos rfl] at ey
    cases ey;exact⟨v,rfl,hd⟩
   ·refine Adp (F.cells y hy) fun c' u' f1 f2 f3=>?_;refine⟨c',u',f1,f2.sameBut hs (e5 y c' f1 hyx),fun e ey=>?_⟩;rw[Aab,if_neg hyx] at ey;exact f3 e ey
  ·rw[Aab] at ey
   by_cases hyx:y=x
   ·subst hyx;exact .inr (.inl hk)
   ·rw[if_neg hyx] at ey;exact F.kinds y e ey
  ·by_cases hyx:y=x
   ·subst hyx;exact⟨c,some v,e1,hc,e3,e4,e5⟩
   ·refine Adp (F.own y hy) fun c' u' f1 f2 r=>?_;exact⟨c',u',f1,f2.sameBut hs (e5 y c' f1 hyx),r⟩
theorem Fm.notLoc(F:Fm B s₀ g₀ own env ρ s g){a:Addr}{o:Obj}(ho:s.heap.get? a=some o)(h1:∀ v,o.data≠.cell v)(h2:∀ es n,o.data≠.dict es n):¬ Loc env own a:=by
 rintro(rfl|⟨x,hx,e⟩)
 ·refine Aaf F.vars fun m hm _=>?_;refine AgZ hm fun o' ho' _ _ es n hd=>?_;rw[ho] at ho';cases ho';exact h2 _ _ hd
 ·refine Adp (F.own x hx) fun c v e1 q4 _=>?_;refine Aaf q4 fun o' ho' hd=>?_;rw[e] at e1;cases e1;rw[ho] at ho';cases ho';exact h1 _ hd
end
theorem Abu:∀ (names:List (Str×NameKind)) (n:Nat) (acc:List (Str×Addr)),cellsFrom n names acc=cellsFrom n names []++acc
 |[],n,acc=>rfl
 |(x,k) :: r,n,acc=>by
  unfold cellsFrom
  split
  ·rw[Abu r (n+1) ((x,n) :: acc),Abu r (n+1) [(x,n)],List.append_assoc];rfl
  ·exact Abu r n acc
theorem AdG{α:Type}:∀ {l:List (Str×α)} {x:Str} {c:α},(x,c)∈l→(l.lookup x).isSome=true
 |(k,v) :: r,x,c,h=>by
  rw[List.lookup_cons]
  cases hb:x == k with
  |true=>rfl
  |false=>
   rcases List.mem_cons.mp h with e|h
   ·cases e;simp at hb
   ·exact AdG h
theorem AdZ:∀ (names:List (Str×NameKind)) (n:Nat) {x:Str},(x,NameKind.cell)∈names→∃ c,(x,c)∈cellsFrom n names []
 |(y,k) :: r,n,x,h=>by
  unfold cellsFrom
  split
  ·rw[Abu]
   rcases List.mem_cons.mp h with e|h
   ·cases e;exact⟨n,List.mem_append_right _ (.head _)⟩
   ·refine Abo (AdZ r (n+1) h) fun c hc=>?_;exact⟨c,List.mem_append_left _ hc⟩
  ·rename_i hk
   rcases List.mem_cons.mp h with e|h
   ·cases e;simp at hk
   ·exact AdZ r n h
theorem Ady:∀ (names:List (Str×NameKind)) (n:Nat) {x:Str} {c:Addr},(x,c)∈cellsFrom n names []→(x,NameKind.cell)∈names
 |[],n,x,c,h=>by simp [cellsFrom] at h
 |(y,k) :: r,n,x,c,h=>by
  unfold cellsFrom at h
  split at h
  ·rename_i hk;rw[Abu] at h
   rcases List.mem_append.mp h with h|h
   ·exact List.mem_cons_of_mem _ (Ady r (n+1) h)
   ·simp only[List.mem_singleton] at h;cases h;have:k=.cell:=by simpa using hk
    subst this;exact .head _
  ·exact List.mem_cons_of_mem _ (Ady r n h)
theorem Adz{α:Type}:∀ (l l':List (Str×α)) (x:Str),(l++l').lookup x=(l.lookup x).or (l'.lookup x)
 |[],l',x=>by simp
 |(k,v) :: r,l',x=>by
  rw[List.cons_append,List.lookup_cons,List.lookup_cons]
  cases x == k with
  |true=>rfl
  |false=>exact Adz r l' x
noncomputable def Aam(names:List (Str×NameKind)):List Str:=(names.filter (·.2 == .cell)).map (·.1)
theorem Aey{names:List (Str×NameKind)}{x:Str}:x∈Aam names ↔ (x,NameKind.cell)∈names:=by
 unfold Aam;simp only[List.mem_map,List.mem_filter,beq_iff_eq]
 constructor
 ·intro q1;refine Aaf q1 fun z1 z2 z3=>?_;obtain⟨y,k⟩:=z1;obtain⟨h1,h2⟩:=z2;subst z3;dsimp only at h2;subst h2;exact h1
 ·intro h;exact⟨(x,.cell),⟨h,rfl⟩,rfl⟩
section
variable{B:Bs}{A:Around}{s:Shared}{g:Gh}
theorem Ant(O:B.Ok)(I:Inv B s g){names:List (Str×NameKind)}{cl:List (Str×Addr)}{env:Env}{ρ:List (Str×D)}{cls:Value}
  (hL:env.locals=s.heap.objs.size) (hc:env.cells=cellsFrom (s.heap.objs.size+1) names cl) (hk:env.scope.kind=.function) (hg:env.globals=mainGlobals) (hb:env.builtins=builtinsNs)
  (hcells:∀ x,(env.kindOf x=some .cell∨env.kindOf x=some .free)→(x,NameKind.cell)∈names∨∃ c v,cl.lookup x=some c∧s.heap.IsCell c v)
  (hold:∀ x c,cl.lookup x=some c→c<s.heap.objs.size)
  (hρ:∀ x d,ρ.lookup x=some d→(x,NameKind.cell) ∉ names∧(env.kindOf x=some .cell∨env.kindOf x=some .free)∧∃ c v,cl.lookup x=some c∧s.heap.IsCell c (some v)∧Den g v d) :
  Fm B s g (Aam names) env ρ {s with heap:=pushCells (s.heap.push {cls,data:=.dict #[]}) names} g:=by
 have keep:∀ a o,s.heap.get? a=some o→(pushCells (s.heap.push {cls,data:=.dict #[]}) names).get? a=some o:=fun a o e=>pushCells_keeps _ _ _ _ (Heap.get?_push_of_some _ e);have ok:=cellsFrom_ok names (s.heap.push {cls,data:=.dict #[]}) (s.heap.objs.size+1) [] ⟨fun _ _ hm=>(nomatch hm),List.Pairwise.nil⟩ (by rw[Heap.size_push];exact Nat.le_refl _);rw[Heap.size_push] at ok;have hc':env.cells=cellsFrom (s.heap.objs.size+1) names []++cl:=by rw[hc,Abu]
 have newl:∀ x,(x,NameKind.cell)∈names→∃ c,(cellsFrom (s.heap.objs.size+1) names []).lookup x=some c∧env.cells.lookup x=some c:=fun x hx=>by
  refine Abo (AdZ names (s.heap.objs.size+1) hx) fun c hm=>?_;refine Abo (Option.isSome_iff_exists.mp (AdG hm)) fun c' e=>?_;exact⟨c',e,by rw[hc',Adz,e];rfl⟩
 have oldl:∀ x,(x,NameKind.cell) ∉ names→env.cells.lookup x=cl.lookup x:=fun x hx=>by
  rw[hc',Adz]
  cases e:(cellsFrom (s.heap.objs.size+1) names []).lookup x with
  |none=>rfl
  |some c=>exact absurd (Ady _ _ (PySem.mem_of_lookup e)) hx
 refine⟨⟨g.le_refl,I.keeps O keep rfl rfl,.of keep,fun _ _ e=>.inl e⟩,hk,hg,hb,⟨fun _=>none,?_,fun x d e k=>?_⟩,fun x hx=>?_,fun x d e=>?_,⟨?_,?_⟩,fun x hx=>?_⟩
 ·rw[hL];exact(Heap.Ns.new s.heap cls).keeps (pushCells_keeps _ _)
 ·refine AjX (hρ x d e) fun _ h _=>?_;rw[k] at h;rcases h with h|h<;>cases h
 ·by_cases hn:(x,NameKind.cell)∈names
  ·refine Aaf (newl x hn) fun c e1 e2=>?_;refine⟨c,none,e2,(ok.empty x c (PySem.mem_of_lookup e1)).1,fun d hd=>?_⟩;exact absurd hn (hρ x d hd).1
  ·rcases hcells x hx with h|⟨c,v,e1,e2⟩
   ·exact absurd h hn
   ·refine⟨c,v,by rw[oldl x hn];exact e1,e2.keeps keep,fun d hd=>?_⟩
    obtain⟨_,_,c',v',f1,f2,f3⟩:=hρ x d hd
    rw[e1] at f1;cases f1;refine Aaf e2 fun o ho hd=>?_;refine Aaf f2 fun o' ho' hd'=>?_;rw[ho] at ho';cases ho';rw[hd] at hd';cases hd';exact⟨v',rfl,f3⟩
 ·refine AjX (hρ x d e) fun _ h _=>?_;exact .inr h
 ·rw[hL];exact Aa1 _
 ·rw[hL];exact I.fresh
 ·have hn:=Aey.mp hx;refine Aaf (newl x hn) fun c e1 e2=>?_;have em:=ok.empty x c (PySem.mem_of_lookup e1);refine⟨c,none,e2,em.1,?_,?_,fun y c' hy hyx=>?_⟩
  ·cases e:s.heap.get? c with
   |none=>rfl
   |some o=>exact absurd (Heap.lt_size e) (Nat.not_lt.mpr (Nat.le_of_succ_le em.2))
  ·cases e:g c with
   |none=>rfl
   |some o=>exact absurd (Heap.lt_size (I.real c o e)) (Nat.not_lt.mpr (Nat.le_of_succ_le em.2))
  ·by_cases hny:(y,NameKind.cell)∈names
   ·refine Aaf (newl y hny) fun c'' f1 f2=>?_;rw[hy] at f2;cases f2;intro q2;subst q2;exact hyx (name_of_addr ok.apart (PySem.mem_of_lookup f1) (PySem.mem_of_lookup e1))
   ·rw[oldl y hny] at hy;intro q3;subst q3;exact absurd (hold y c' hy) (Nat.not_lt.mpr (Nat.le_of_succ_le em.2))
theorem Fm.binds{s₀:Shared}{g₀:Gh}{own:List Str}{env:Env}(O:B.Ok)(f:Str×Value→PUnit→Sem (ForInStep PUnit))(hf:∀ n v u,f (n,v) u=(do storeName env n v;pure (.yield ⟨⟩))) :
  ∀ (xs:List Str) (vs:List Value) (ds:List D) (ρ:List (Str×D)) (s:Shared) (Q:PUnit→Shared→Prop),Fm B s₀ g₀ own env ρ s g→Aav g vs ds→xs.length=ds.length →
   (∀ x∈xs,env.kindOf x=some .local∨(env.kindOf x=some .cell∧x∈own)) →
   (∀ s',Fm B s₀ g₀ own env ((xs.zip ds).reverse++ρ) s' g→Q ⟨⟩ s')→wpAny B.M A (forIn (xs.zip vs) ⟨⟩ f) Q (fun _ _=>False) s
 |[],_,_,ρ,s,Q,F,_,_,_,h=>by rw[List.zip_nil_left,List.forIn_nil];exact wpAny_pure (h s (by simpa using F))
 |x :: xs,_,_,ρ,s,Q,F,.nil,hl,_,_=>by simp at hl
 |x :: xs,_,_,ρ,s,Q,F,.cons (d:=d) hd hr,hl,hk,h=>by
  rw[List.zip_cons_cons,List.forIn_cons,hf];refine wpAny_bind (wpAny_bind (F.store O (hk x (.head _)) hd fun s' F' _=>wpAny_pure ?_));refine Fm.binds O f hf xs _ _ _ s' Q F' hr (by simpa using hl) (fun y hy=>hk y (.tail _ hy)) fun s'' F''=>h s'' ?_;simpa using F''
theorem Aqf(O:B.Ok)(I:Inv B s g){scope:Scope}{qual:Str}{func:Option Addr}{code:Value}{xs:List Str}{vs:List Value}{ds:List D}{Q:Env→Shared→Prop}
  (hk:scope.kind=.function) (hfree:∀ x,scope.names.lookup x≠some .free) (hx:∀ x∈xs,scope.names.lookup x=some .local∨scope.names.lookup x=some .cell) (hl:xs.length=ds.length) (hv:Aav g vs ds)
  (h:∀ env s',env.scope=scope→env.code=code→env.qual=qual→Fm B s g (Aam scope.names) env (xs.zip ds).reverse s' g→Q env s') :
  wpAny B.M A (newFunctionEnv scope mainGlobals [] (xs.zip vs) qual func code none builtinsNs) Q (fun _ _=>False) s:=by
 simp only[newFunctionEnv,Option.isSome_none,Bool.false_eq_true,if_false];refine wpAny_bind (wpAny_alloc ?_);refine wpAny_bind (wpAny_layCells _ (fun name kind cells=>by cases hkc:kind == NameKind.cell<;>simp) _ _ _ _ ?_);rw[show({s with heap:=s.heap.push {cls:=.type "frame",data:=.dict #[]}}:Shared).heap.objs.size=s.heap.objs.size+1 from Heap.size_push ..];have kf:∀ x,scope.names.lookup x=some .cell→(x,NameKind.cell)∈scope.names:=fun x e=>PySem.mem_of_lookup e;have F:=Ant (names:=scope.names) (cl:=[]) (ρ:=[]) (cls:=.type "frame") (env:=newEnv scope s.heap.objs.size mainGlobals (cellsFrom (s.heap.objs.size+1) scope.names []) qual func code none builtinsNs) O I rfl rfl hk rfl rfl
  (fun x e=>e.elim (fun e=>.inl (kf x e)) fun e=>absurd e (hfree x)) (fun _ _ e=>by exact Aah e) (fun _ _ e=>by exact Aah e)
 refine wpAny_bind ?_;refine Fm.binds O _ (fun _ _ _=>rfl) xs vs ds [] _ _ F hv hl (fun x hxx=>?_) fun s' F'=>wpAny_pure (h _ s' rfl rfl rfl (by rw[List.append_nil] at F';exact F'))
 rcases hx x hxx with e|e
 ·exact .inl e
 ·exact .inr ⟨e,Aey.mpr (kf x e)⟩
end
noncomputable def Aci{α:Type}(d:D)(f:Int→Option α):Option α:=match d with
 |.int i=>f i
 |_=>none
noncomputable def Ad0{α:Type}(d:D)(f:Str→Option α):Option α:=match d with
 |.str i=>f i
 |_=>none
noncomputable def Adq{α:Type}(d:D)(f:List D→Option α):Option α:=match d with
 |.list i=>f i
 |_=>none
theorem Aas{α:Type}{d:D}{f:Int→Option α}{r:α}(h:Aci d f=some r):∃ i,d=.int i∧f i=some r:=by induction d using D.casesOn<;>first|exact Aah h|exact⟨_,rfl,h⟩
theorem AaY{α:Type}{d:D}{f:Str→Option α}{r:α}(h:Ad0 d f=some r):∃ i,d=.str i∧f i=some r:=by induction d using D.casesOn<;>first|exact Aah h|exact⟨_,rfl,h⟩
theorem Abd{α:Type}{d:D}{f:List D→Option α}{r:α}(h:Adq d f=some r):∃ i,d=.list i∧f i=some r:=by induction d using D.casesOn<;>first|exact Aah h|exact⟨_,rfl,h⟩
noncomputable def AC5(op:Operator)(a b:Int):Option D:=match op with
 |.Add=>some (.int (a+b))
 |.Sub=>some (.int (a - b))
 |.Mult=>if a.natAbs<2 ^ 64∧b.natAbs<2 ^ 64 then some (.int (a*b)) else none
 |.FloorDiv=>if b≠0∧b.natAbs<1073741824 then some (.int (a.fdiv b)) else none
 |.Mod=>if b≠0 then some (.int (a.fmod b)) else none
 |.Pow=>if 0≤b∧b≤100∧a.natAbs<2 ^ 64 then some (.int (a ^ b.toNat)) else none
 |.LShift=>if 0≤b∧b≤1000000∧a.natAbs<2 ^ 64 then some (.int (a*2 ^ b.toNat)) else none
 |.RShift=>if 0≤b then some (.int (a.fdiv (2 ^ b.toNat))) else none
 |.BitAnd=>some (.int (Builtin.bitAnd a b))
 |.BitOr=>some (.int (Builtin.bitOr a b))
 |.BitXor=>some (.int (Builtin.bitXor a b))
 |_=>none
noncomputable def ADy(op:Operator)(a:Str)(d:D):Option D:=match op with
 |.Add=>Ad0 d fun b=>if a.cps.size+b.cps.size≤1000000 then some (.str (a++b)) else none
 |.Mult=>Aci d fun n=>if a.cps.size≤1000∧-1000000≤n∧n≤1000 then some (.str (Txt.mul a n)) else none
 |_=>none
noncomputable def ABW(op:Operator)(a:List D)(d:D):Option D:=match op with
 |.Add=>Adq d fun b=>if a.length+b.length≤1000000 then some (.list (a++b)) else none
 |.Mult=>Aci d fun n=>if a.length*n.toNat≤1000000∧n≤1000000∧-1000000≤n then some (.list (List.replicate n.toNat a).flatten) else none
 |_=>none
noncomputable def Amr(op:Operator)(x y:D):Option D:=match x with
 |.int a=>Aci y fun b=>AC5 op a b
 |.str a=>ADy op a y
 |.list a=>ABW op a y
 |_=>none
theorem AaL{n:Nat}(h:n≤1000000):n≤sizeLine:=Nat.le_trans h (by decide)
theorem As3{x:Str}{n:Int}(h1:x.cps.size≤1000)(h2:-1000000≤n)(h3:n≤1000):MulOk x n:=by
 have hx:x.length≤1000:=h1;refine⟨by simp only[Bool.or_eq_false_iff,decide_eq_false_iff_not];omega,fun h _=>?_,fun _ _=>?_⟩
 ·have h4:(1000:Int)≤(2 ^ 63 - 1) / n:=by rw[Int.le_ediv_iff_mul_le (by omega)];omega
  omega
 ·have:x.length*n.toNat≤1000*1000:=Nat.mul_le_mul hx (by omega);show decide (_ > sizeLine)=false;have:=AaL this;simp only[decide_eq_false_iff_not];omega
section
variable{B:Bs}{A:Around}{s:Shared}{g:Gh}
theorem Inv.get{a:Addr}{o:Obj}(I:Inv B s g)(h:g a=some o):s.heap.get? a=some o:=I.real a o h
theorem Acs(O:B.Ok)(I:Inv B s g){vs:Array Value}{ds:List D}(h:Aav g vs.toList ds) :
  ∃ g',Aag B s g {s with heap:=s.heap.push {cls:=.type "list",data:=.seq vs}} g'∧Den g' (.ref s.heap.objs.size) (.list ds):=
 ⟨_,Aag.alloc O I rfl (Aap rfl),.list (Gh.put_self ..) (h.mono (Gh.le_put _ I.fresh))⟩
theorem AcB(O:B.Ok)(I:Inv B s g){vs:Array Value}{ds:List D}(h:Aav g vs.toList ds) :
  ∃ g',Aag B s g {s with heap:=s.heap.push {cls:=.type "tuple",data:=.seq vs}} g'∧Den g' (.ref s.heap.objs.size) (.tup ds):=
 ⟨_,Aag.alloc O I rfl (Aap rfl),.tup (Gh.put_self ..) (h.mono (Gh.le_put _ I.fresh))⟩
theorem Alp{A:Around}{E:Value→Shared→Prop}{Q:Value→Shared→Prop}{prog:Program}{w:World}{l b:Addr}{vs ws:Array Value}(hl:s.heap.IsList l vs)(hb:s.heap.IsList b ws)
  (h:Q (.ref s.heap.objs.size) {s with heap:=s.heap.push {cls:=.type "list",data:=.seq (vs++ws)}}) (hsz:vs.size+ws.size≤sizeLine) :
  wpAny (model prog w) A (binaryOp .Add (.ref l) (.ref b)) Q E s:=by
 obtain⟨⟨cls,dd,data,sl⟩,ho,hc,n,hd⟩:=id hl
 obtain⟨⟨cls2,dd2,data2,sl2⟩,ho2,hc2,n2,hd2⟩:=id hb
 simp only at hc hd hc2 hd2;subst hc hd hc2 hd2;exact concat_meets ⟨_,ho,rfl⟩ ⟨_,ho2,rfl⟩ noFill_list_add seq_list_add PySem.F.slot_list_add PySem.F.entry_list_add (PySem.F.args_list_add_2 _ _) (list_addW l b vs ws n n2 dd dd2 sl sl2 hsz) ⟨ho,ho2,h⟩
theorem Ag0{A:Around}{E:Value→Shared→Prop}{Q:Value→Shared→Prop}{prog:Program}{w:World}{l:Addr}{items:Array Value}{k:Nat}{x:Int}{u:Tok}
  (hl:s.heap.get? l=some {cls:=.type "list",dict:=none,data:=.seq items k,slots:=#[]})
  (hlo:-(2 ^ 63:Int)≤x) (hhi:x<2 ^ 63) (hsz:items.size*x.toNat≤2 ^ 24)
  (h:Q (.ref s.heap.objs.size) {s with heap:=s.heap.push {cls:=.type "list",data:=.seq (List.foldl (fun x1 x2=>x1++x2) #[] (List.replicate (if items.isEmpty=true then 0 else x.toNat) items))}}) :
  wpAny (model prog w) A (binaryOp .Mult (.ref l) (.int x u)) Q E s:=
 wpAny_binaryOp_repeat_ref (T:="list") (U:="int") (by decide) ⟨_,hl,rfl⟩ (fun s'=>typeIs_int s' x u) noFill_list_mul F.fills_int_mul F.slot_int_rmul repeat_list F.slot_int_index.lookup
  (call_meets F.slot_int_rmul (typeIs_int s x u) F.entry_int_rmul (F.args_int_rmul_2 _ _) (int___rmul___int_list x u l items k)
   ⟨hl,rfl,⟨_,hl,rfl⟩,call_meets F.slot_list_mul ⟨_,hl,rfl⟩ F.entry_list_mul (F.args_list_mul_2 _ _)
    (AutoListH.list___mul___list_int_3 l items k x u (by simp [Builtin.List.listFitsIndex];omega) (by omega) (by simp [Builtin.List.listTooLong,sizeLine];omega))
    ⟨hl,h⟩⟩)
theorem Ab6(items:Array Value):∀ (l:List (Array Value)) (acc:Array Value),(l.foldl (fun x1 x2=>x1++x2) acc).toList=acc.toList++(l.map Array.toList).flatten
 |[],acc=>by simp
 |x :: r,acc=>by rw[List.foldl_cons,Ab6 items r];simp
theorem Aav.flattenRep{g:Gh}{vs:List Value}{ds:List D}(h:Aav g vs ds):∀ n,Aav g (List.replicate n vs).flatten (List.replicate n ds).flatten
 |0=>.nil
 |n+1=>by simp only[List.replicate_succ,List.flatten_cons];exact h.append (h.flattenRep n)
theorem Aez{α:Type}(n:Nat):(List.replicate n ([]:List α)).flatten=[]:=by induction n with
 |zero=>rfl
 |succ n ih=>simp [List.replicate_succ]
theorem Anu{a:Int}(h:a.natAbs<2 ^ 64):Builtin.Int.intBits a≤64:=intBits_le_64 (Int.neg_lt_of_neg_lt (Int.lt_of_le_of_lt (Int.natAbs_neg a ▸ Int.le_natAbs) (Int.ofNat_lt.mpr h))) (Int.lt_of_le_of_lt Int.le_natAbs (Int.ofNat_lt.mpr h))
theorem Aqg(I:Inv B s g){op:Operator}{a b:Int}{t u:Tok}{r:D}(h:AC5 op a b=some r) :
  Aaq B A s g (binaryOp op (.int a t) (.int b u)) fun g' v=>Den g' v r:=by
 cases op with
 |Add=>cases h;exact add_int ⟨g,Aag.tok I _,Den.int⟩
 |Sub=>cases h;exact sub_int ⟨g,Aag.tok I _,Den.int⟩
 |Mult=>refine AaG (Abs h) fun hsz h=>?_;cases h;exact mul_int ⟨g,Aag.tok I _,Den.int⟩ (IntMulOk.of_left (Anu hsz.1))
 |FloorDiv=>refine AaG (Abs h) fun hsz h=>?_;cases h;exact floordiv_int hsz.1 ⟨g,Aag.tok I _,Den.int⟩ (.inl (PyProof.noPylong_small hsz.2))
 |Mod=>refine AaG (Abs h) fun hsz h=>?_;cases h;exact mod_int hsz ⟨g,Aag.tok I _,Den.int⟩
 |Pow=>
  refine AaG (Abs h) fun hsz h=>?_;cases h;refine pow_int hsz.1 ?_ ⟨g,Aag.tok I _,Den.int⟩;have h1:((Builtin.Int.intBits a:Nat):Int)≤64:=Int.ofNat_le.mpr (Anu hsz.2.2);have h2:((Builtin.Int.intBits a:Nat):Int)*b≤64*b:=Int.mul_le_mul_of_nonneg_right h1 hsz.1
  omega
 |LShift=>refine AaG (Abs h) fun hsz h=>?_;cases h;exact lshift_int_small hsz.1 hsz.2.1 hsz.2.2 ⟨g,Aag.tok I _,Den.int⟩
 |RShift=>refine AaG (Abs h) fun hsz h=>?_;cases h;exact rshift_int hsz ⟨g,Aag.tok I _,Den.int⟩
 |BitAnd=>cases h;exact and_int ⟨g,Aag.tok I _,Den.int⟩
 |BitOr=>cases h;exact or_int ⟨g,Aag.tok I _,Den.int⟩
 |BitXor=>cases h;exact xor_int ⟨g,Aag.tok I _,Den.int⟩
 |Div=>exact Aah h
 |MatMult=>exact Aah h
theorem Alq(O:B.Ok)(I:Inv B s g){op:Operator}{va vb:Value}{a b r:D}(ha:Den g va a)(hb:Den g vb b)(h:Amr op a b=some r) :
  Aaq B A s g (binaryOp op va vb) fun g' v=>Den g' v r:=by
 induction a using D.casesOn with
 |int a=>
  (refine Aaf (Aas h) fun b q1 h=>?_;subst q1)
  induction ha using Den.intE;induction hb using Den.intE;exact Aqg I h
 |str a=>
  induction ha using Den.strE
  cases op with
  |Add=>
   (refine Aaf (AaY h) fun b q2 h=>?_;subst q2)
   refine AaG (Abs h) fun hsz h=>?_
   cases h;induction hb using Den.strE;exact add_str (fun t' tk=>⟨g,Aag.tok I _,Den.str⟩) (AaL hsz)
  |Mult=>
   (refine Aaf (Aas h) fun b q3 h=>?_;subst q3)
   refine AaG (Abs h) fun hsz h=>?_
   cases h;induction hb using Den.intE;exact SB.mul (As3 hsz.1 hsz.2.1 hsz.2.2) fun t' k=>⟨g,Aag.tok I _,Den.str⟩
  |_=>exact Aah h
 |list a=>
  induction ha using Den.listE with|list h1 h2=>?_
  cases op with
  |Add=>
   (refine Aaf (Abd h) fun b q4 h=>?_;subst q4)
   refine AaG (Abs h) fun hsz h=>?_
   cases h
   induction hb using Den.listE with|list h3 h4=>?_
   refine Alp ⟨_,I.get h1,rfl,_,rfl⟩ ⟨_,I.get h3,rfl,_,rfl⟩ (Acs O I (by rw[Array.toList_append];exact h2.append h4)) (AaL ?_);have e1:=h2.length;have e2:=h4.length;simp only[Array.length_toList] at e1 e2;omega
  |Mult=>
   (refine Aaf (Aas h) fun b q5 h=>?_;subst q5)
   refine AaG (Abs h) fun hsz h=>?_
   cases h;induction hb using Den.intE
   have e1:=h2.length;simp only[Array.length_toList] at e1;refine Ag0 (I.get h1) (by omega) (by omega) (by rw[e1];exact Nat.le_trans hsz.1 (by decide)) (Acs O I ?_);rw[Ab6 #[]];simp only[Array.toList_empty,List.nil_append,List.map_replicate]
   split
   ·rename_i hem;have:‹Array Value›.toList=[]:=by simpa using hem
    rw[this] at h2
    cases h2
    rw[Aez];exact .nil
   ·exact h2.flattenRep _
  |_=>exact Aah h
 |_=>exact Aah h
end
mutual
noncomputable def pyD:D→Option PyData
 |.none=>some .none
 |.bool b=>some (.bool b)
 |.int i=>some (.int i)
 |.str x=>some (.str x)
 |.tup l=>(Awk l).bind fun l=>some (.tuple l)
 |.list l=>(Awk l).bind fun l=>some (.list l)
 |.dict _ _ _=>none
 |.rng _ _=>none
 |.val _=>none
noncomputable def Awk:List D→Option (List PyData)
 |[]=>some []
 |d :: r=>(pyD d).bind fun p=>(Awk r).bind fun ps=>some (p :: ps)
end
noncomputable def AyR:D→Option Int
 |.int i=>some i
 |_=>none
theorem AhS{d:D}{i:Int}(h:AyR d=some i):d=.int i:=by
 revert h;induction d using D.casesOn<;>first|exact fun h=>congrArg D.int (sj h)|exact Aah
section
variable{B:Bs}{A:Around}{s:Shared}{g:Gh}
theorem Aob(I:Inv B s g):(∀ {v d},Den g v d→∀ p,pyD d=some p→∃ as,Reads s.heap v p as)∧(∀ {vs ds},Aav g vs ds→∀ ps,Awk ds=some ps→∃ as,ReadsAll s.heap vs ps as):=by
 refine Den.both (P:=fun v d=>∀ p,pyD d=some p→∃ as,Reads s.heap v p as) (Q:=fun vs ds=>∀ ps,Awk ds=some ps→∃ as,ReadsAll s.heap vs ps as) ?_ ?_ ?_ ?_ ?_ ?_ (fun _ _ _ _ h=>Aah h) (fun _ _ h=>Aah h) (fun _ h=>Aah h) ?_ ?_
 ·exact fun _ h=>sj h ▸ ⟨_,.none⟩
 ·exact fun _ h=>sj h ▸ ⟨_,.bool _⟩
 ·exact fun _ h=>sj h ▸ ⟨_,.int _ _⟩
 ·exact fun _ h=>sj h ▸ ⟨_,.str _ _⟩
 ·intro a vs n ds e q p h;refine Aaf (Aak h) fun ps e1 h=>?_;rw[← sj h];exact(q ps e1).elim fun as q=>⟨_,.tuple (I.get e) rfl rfl q⟩
 ·intro a vs n ds e q p h;refine Aaf (Aak h) fun ps e1 h=>?_;rw[← sj h];exact(q ps e1).elim fun as q=>⟨_,.list (I.get e) rfl rfl q⟩
 ·exact fun _ h=>sj h ▸ ⟨_,.nil⟩
 ·intro v d vs ds q1 q2 p h;refine Aaf (Aak h) fun p1 e1 h=>?_;refine Aaf (Aak h) fun ps e2 h=>?_;rw[← sj h];exact(q1 p1 e1).elim fun as q=>(q2 ps e2).elim fun bs r=>⟨_,.cons q r⟩
theorem Anv(I:Inv B s g){v:Value}{d:D}{p:PyData}(hd:Den g v d)(h:pyD d=some p):∃ as,Reads s.heap v p as:=(Aob I).1 hd p h
noncomputable def eqD(a b:D):Option Bool:=(pyD a).bind fun p=>(pyD b).bind fun q=>if p.canLay0=true∧q.canLay0=true∧p.depth≤60 then some (PyData.eqv p q) else none
noncomputable def Alr(f:Int→Int→Bool)(a b:D):Option Bool:=(AyR a).bind fun i=>(AyR b).bind fun j=>some (f i j)
noncomputable def Ams(op:CmpOp)(a b:D):Option Bool:=match op with
 |.Eq=>eqD a b
 |.NotEq=>(eqD a b).bind fun c=>some (!c)
 |.Lt=>Alr (fun i j=>decide (i<j)) a b
 |.Gt=>Alr (fun i j=>decide (j<i)) a b
 |.LtE=>Alr (fun i j=>decide (i≤j)) a b
 |.GtE=>Alr (fun i j=>decide (j≤i)) a b
 |_=>none
theorem nlt{k:Int}{n:Nat}(h:¬ k<0)(hl:k.toNat<n)(hn:n≤1000000):k<2 ^ 63:=Int.lt_of_lt_of_le ((Int.toNat_lt (Int.not_lt.mp h)).mp hl) (Int.le_trans (Int.ofNat_le.mpr hn) (by decide))
theorem AOk.units_lt{n:Nat}(hA:AOk n A):A.units+60<cLine:=Nat.lt_of_le_of_lt (Nat.add_le_add_right (Nat.le_trans (Nat.le_add_right _ _) hA.units) 60) (show 9800+60<9900 by decide)
structure EqR(A:Around)(s:Shared)(va vb:Value)(c:Bool)(p q:PyData)(as bs:List Addr):Prop where
 r1:Reads s.heap va p as
 r2:Reads s.heap vb q bs
 l1:p.canLay0=true
 l2:q.canLay0=true
 hu:A.units+min p.depth q.depth<cLine
 e:c=PyData.eqv p q
theorem Anw{n:Nat}(hA:AOk n A)(I:Inv B s g){va vb:Value}{a b:D}{c:Bool}(ha:Den g va a)(hb:Den g vb b)(h:eqD a b=some c):∃ p q as bs,EqR A s va vb c p q as bs:=by refine Aaf (Aak h) fun p e1 h=>?_;refine Aaf (Aak h) fun q e2 h=>?_;refine AaG (Abs h) fun hc h=>?_;refine Abo (Anv I ha e1) fun as r1=>?_;refine Abo (Anv I hb e2) fun bs r2=>?_;exact⟨p,q,as,bs,r1,r2,hc.1,hc.2.1,Nat.lt_of_le_of_lt (Nat.add_le_add_left (Nat.le_trans (Nat.min_le_left _ _) hc.2.2) _) hA.units_lt,(sj h).symm⟩
theorem AhK{op:CmpOp}{f:Int→Int→Bool}(H:∀ i j t u,Aaq B A s g (compareOp op (.int i t) (.int j u)) fun _ v=>v=.bool (f i j)){va vb:Value}{a b:D}{c:Bool}(ha:Den g va a)(hb:Den g vb b)(h:Alr f a b=some c) :
  Aaq B A s g (compareOp op va vb) fun _ v=>v=.bool c:=by
 refine Aaf (Aak h) fun i e1 h=>?_;refine Aaf (Aak h) fun j e2 h=>?_;rw[AhS e1] at ha;rw[AhS e2] at hb;rw[← sj h];induction ha using Den.intE;induction hb using Den.intE;exact H _ _ _ _
theorem Als{n:Nat}(hA:AOk n A)(I:Inv B s g){op:CmpOp}{va vb:Value}{a b:D}{c:Bool}(ha:Den g va a)(hb:Den g vb b)(h:Ams op a b=some c) :
  Aaq B A s g (compareOp op va vb) fun _ v=>v=.bool c:=by
 induction op using CmpOp.casesOn with
 |Eq=>
  refine AsY (Anw hA I ha hb h) fun p q as bs r=>?_;rw[r.e];exact SeqAt.compareEq_reads r.r1 r.r2 r.l1 r.l2 r.hu ⟨g,Aag.refl I,rfl⟩
 |NotEq=>
  refine Aaf (Aak h) fun c' e h=>?_;refine AsY (Anw hA I ha hb e) fun p q as bs r=>?_;rw[← sj h,r.e];exact SeqAt.compareNe_reads r.r1 r.r2 r.l1 r.l2 r.hu ⟨g,Aag.refl I,rfl⟩
 |Lt=>exact AhK (fun _ _ _ _=>lt_int ⟨g,Aag.refl I,rfl⟩) ha hb h
 |Gt=>exact AhK (fun _ _ _ _=>gt_int ⟨g,Aag.refl I,rfl⟩) ha hb h
 |LtE=>exact AhK (fun _ _ _ _=>le_int ⟨g,Aag.refl I,rfl⟩) ha hb h
 |GtE=>exact AhK (fun _ _ _ _=>ge_int ⟨g,Aag.refl I,rfl⟩) ha hb h
 |_=>exact Aah h
noncomputable def Acb:D→Option Bool
 |.none=>some false
 |.bool b=>some b
 |.int i=>some (i != 0)
 |.str x=>if x.cps.size≤1000000 then some ((x.cps.size:Int) != 0) else none
 |.list l=>if l.length≤1000000 then some (!l.isEmpty) else none
 |.tup l=>if l.length≤1000000 then some (!l.isEmpty) else none
 |_=>none
theorem AjZ{vs:Array Value}{ds:List D}(h:Aav g vs.toList ds):vs.isEmpty=ds.isEmpty:=by
 have e:=h.length;simp only[Array.length_toList] at e;induction ds using List.casesOn with
 |nil=>simp at e;simp [e]
 |cons d r=>
  simp at e;have:vs≠#[]:=by intro q1;subst q1;simp at e
  simp [this]
theorem Afa(I:Inv B s g){v:Value}{d:D}{c:Bool}(hd:Den g v d)(h:Acb d=some c):Aaq B A s g (truthy v) fun _ b=>b=c:=by
 induction d using D.casesOn with
 |none=>rw[← sj h];induction hd using Den.noneE;exact truthy_none ⟨g,Aag.refl I,rfl⟩
 |bool b=>rw[← sj h];induction hd using Den.boolE;exact wpAny_truthy_bool ⟨g,Aag.refl I,rfl⟩
 |int i=>rw[← sj h];induction hd using Den.intE;exact truthy_int ⟨g,Aag.refl I,rfl⟩
 |str x=>
  refine AaG (Abs h) fun hs h=>?_;rw[← sj h];induction hd using Den.strE;refine P.truthy_str ?_ ⟨g,Aag.tok I _,rfl⟩;exact Int.not_le.mpr (Int.lt_of_le_of_lt (Int.ofNat_le.mpr hs) (by decide))
 |list l=>
  refine AaG (Abs h) fun hs h=>?_;rw[← sj h];induction hd using Den.listE with|list h1 h2=>?_
  exact wpAny_truthy_list ⟨_,I.get h1,rfl,_,rfl⟩ (by have:=h2.length;rw[Array.length_toList] at this;rw[this];exact Int.lt_of_le_of_lt (Int.ofNat_le.mpr hs) (by decide)) ⟨g,Aag.tok I _,by rw[AjZ h2]⟩
 |tup l=>
  refine AaG (Abs h) fun hs h=>?_;rw[← sj h];induction hd using Den.tupE with|tup h1 h2=>?_
  exact truthy_tuple ⟨_,I.get h1,rfl,_,rfl⟩ (by have:=h2.length;rw[Array.length_toList] at this;rw[this];exact Int.lt_of_le_of_lt (Int.ofNat_le.mpr hs) (by decide)) ⟨g,Aag.tok I _,by rw[AjZ h2]⟩
 |_=>exact Aah h
noncomputable def unD(op:UnaryOp)(d:D):Option D:=match op with
 |.Not=>(Acb d).bind fun c=>some (.bool (!c))
 |.USub=>(AyR d).bind fun i=>some (.int (-i))
 |.Invert=>(AyR d).bind fun i=>some (.int (Builtin.bitNot i))
 |_=>none
theorem As4(I:Inv B s g){op:UnaryOp}{v:Value}{a r:D}(hd:Den g v a)(h:unD op a=some r):Aaq B A s g (unaryOp op v) fun g' v'=>Den g' v' r:=by
 induction op using UnaryOp.casesOn with
 |Not=>
  refine Aaf (Aak h) fun c e h=>?_;rw[← sj h];exact not_of ((Afa I hd e).use fun b s' g' x e'=>⟨g',x,by rw[e'];exact .bool⟩)
 |USub=>
  refine Aaf (Aak h) fun i e h=>?_;rw[← sj h];rw[AhS e] at hd;induction hd using Den.intE;exact neg_int ⟨g,Aag.tok I _,.int⟩
 |Invert=>
  refine Aaf (Aak h) fun i e h=>?_;rw[← sj h];rw[AhS e] at hd;induction hd using Den.intE;exact invert_int ⟨g,Aag.tok I _,.int⟩
 |_=>exact Aah h
noncomputable def Aqh:Const→Option D
 |.none=>some .none
 |.bool b=>some (.bool b)
 |.int i=>some (.int i)
 |.str x=>some (.str x)
 |_=>none
theorem Afb(I:Inv B s g){env:Env}{c:Const}{k:Nat}{pos:Pos}{d:D}(h:Aqh c=some d):Aaq B A s g (eval (.Constant c k pos) env) fun g' v=>Den g' v d:=by
 induction c using Const.casesOn with
 |none=>rw[← sj h];exact wpAny_pure ⟨g,Aag.refl I,.none⟩
 |bool b=>rw[← sj h];exact wpAny_pure ⟨g,Aag.refl I,.bool⟩
 |int i=>rw[← sj h];exact wpAny_mkInt ⟨g,Aag.tok I _,.int⟩
 |str x=>rw[← sj h];exact wpAny_mkText ⟨g,Aag.tok I _,.str⟩
 |_=>exact Aah h
noncomputable def Awl(k:Int)(n:Nat):Nat:=if k<0 then (k+n).toNat else k.toNat
noncomputable def atD(l:List D)(k:Int):Option D:=if -(l.length:Int)≤k∧l.length≤1000000 then l[Awl k l.length]? else none
noncomputable def ABX(k:Int):D→Option D
 |.list l=>atD l k
 |.tup l=>atD l k
 |_=>none
noncomputable def AdA(a b:D):Option D:=(AyR b).bind fun k=>ABX k a
theorem AhT{l:List D}{i:Nat}{d:D}(h:l[i]?=some d):i<l.length:=(List.getElem?_eq_some_iff.mp h).1
theorem Aoc(I:Inv B s g){o i:Value}{a b r:D}{value slice:Expr}(ha:Den g o a)(hb:Den g i b)(h:AdA a b=some r)
  (hs:subscripted slice false o i=operate [o,i] (getItem o i)):Aaq B A s g (subscriptTail value slice o i) fun g' v=>Den g' v r:=by
 refine Aaf (Aak h) fun k ek h=>?_;rw[AhS ek] at hb;induction hb using Den.intE;clear ek;induction a using D.casesOn with
 |list l=>
  refine AaG (Abs h) fun hc h=>?_;induction ha using Den.listE with|list h1 h2=>?_
  refine Aaf (h2.get h) fun v e hv=>?_;have hlt:=AhT h;have e1:=h2.length;rw[Array.length_toList] at e1;refine tail_any ⟨_,I.get h1,rfl⟩ slot_list_getitem.lookup ?_ hs;unfold Awl at e hlt
  by_cases hk:k<0
  ·rw[if_pos hk] at e hlt;refine wpAny_getItem_list_neg ⟨_,I.get h1,rfl,_,rfl⟩ hk (by rw[e1];exact hc.1) (Int.le_trans (Int.le_trans (by decide) (Int.neg_le_neg (Int.ofNat_le.mpr hc.2))) hc.1) (x:=v) ?_ ⟨g,Aag.refl I,hv⟩;rw[e1];simpa using e
  ·rw[if_neg hk] at e hlt;exact wpAny_getItem_list ⟨_,I.get h1,rfl,_,rfl⟩ (Int.not_lt.mp hk) (nlt hk hlt hc.2) (x:=v) (by simpa using e) ⟨g,Aag.refl I,hv⟩
 |tup l=>
  refine AaG (Abs h) fun hc h=>?_;induction ha using Den.tupE with|tup h1 h2=>?_
  refine Aaf (h2.get h) fun v e hv=>?_;have hlt:=AhT h;have e1:=h2.length;rw[Array.length_toList] at e1;refine tail_any ⟨_,I.get h1,rfl⟩ slot_tuple_getitem.lookup ?_ hs;refine getItem_tuple ⟨_,I.get h1,rfl,_,rfl⟩ (Int.le_trans (Int.le_trans (by decide) (Int.neg_le_neg (Int.ofNat_le.mpr hc.2))) hc.1) ?_ (j:=Awl k l.length) ?_ (x:=v) (by simpa using e) ⟨g,Aag.refl I,hv⟩
  ·by_cases hk:k<0
   ·exact Int.lt_trans hk (by decide)
   ·unfold Awl at hlt;rw[if_neg hk] at hlt;exact nlt hk hlt hc.2
  ·rw[e1];unfold seqIndex? Awl;unfold Awl at hlt;have hc1:=hc.1
   by_cases hk:k<0
   ·rw[if_pos hk] at hlt;rw[if_pos hk,if_pos hk,if_pos (Bool.and_eq_true_iff.mpr ⟨decide_eq_true (by omega),decide_eq_true (by omega)⟩)]
   ·rw[if_neg hk] at hlt;rw[if_neg hk,if_neg hk,if_pos (Bool.and_eq_true_iff.mpr ⟨decide_eq_true (Int.not_lt.mp hk),decide_eq_true ((Int.toNat_lt (Int.not_lt.mp hk)).mp hlt)⟩)]
 |_=>exact Aah h
end
noncomputable def Akp(l:List D)(lo hi st:Option Int):List D:=
 (sliceRange (sliceBounds lo hi st l.length).1 (sliceBounds lo hi st l.length).2.1 (sliceBounds lo hi st l.length).2.2).filterMap (l[·]?)
noncomputable def AcC:D→Option Int→Option Int→Option Int→Option D
 |.list l,lo,hi,st=>if st≠some 0∧l.length≤1000000 then some (.list (Akp l lo hi st)) else none
 |.str x,lo,hi,none=>if x.cps.size≤1000000 then some (.str (Txt.slice x lo hi)) else none
 |_,_,_,_=>none
section
variable{B:Bs}{A:Around}{s:Shared}{g:Gh}
theorem Aav.pick{vs:List Value}{ds:List D}(h:Aav g vs ds):∀ is:List Nat,Aav g (is.filterMap (vs[·]?)) (is.filterMap (ds[·]?))
 |[]=>.nil
 |i :: is=>by
  have e:=h.length
  cases hd:ds[i]? with
  |none=>
   have:vs[i]?=none:=by rw[List.getElem?_eq_none_iff] at hd ⊢;omega
   rw[List.filterMap_cons_none (by exact this),List.filterMap_cons_none (by exact hd)];exact h.pick is
  |some d=>
   refine Aaf (h.get hd) fun v hv hvd=>?_;rw[List.filterMap_cons_some (by exact hv),List.filterMap_cons_some (by exact hd)];exact .cons hvd (h.pick is)
theorem Aj0{v:Value}{o:Option Int}(h:IsPart v o):∃ l:Option (Int×Tok),v=partValue l∧l.map (·.1)=o:=by
 cases h with
 |none=>exact⟨none,rfl,rfl⟩
 |int i t=>exact⟨some (i,t),rfl,rfl⟩
theorem Amw(O:B.Ok)(I:Inv B s g){o vl vu vst:Value}{a r:D}{lo hi st:Option Int}{value:Expr}{step le ue:Option Expr}{p:Pos}(ha:Den g o a)
  (pl:IsPart vl lo) (pu:IsPart vu hi) (ps:IsPart vst st) (h:AcC a lo hi st=some r) :
  wpAny B.M A (subscriptTail value (.Slice le ue step p) o (.ref s.heap.objs.size)) (fun v s'=>∃ g',Aag B s g s' g'∧Den g' v r) (fun _ _=>False) {s with heap:=s.heap.push {cls:=.type "slice",data:=.fields #[vl,vu,vst]}}:=by
 have x:=Aag.open (o:={cls:=.type "slice",data:=.fields #[vl,vu,vst]}) O I;have hops:∃ ops:Value→List Value,∀ i,subscripted (.Slice le ue step p) false o i=operate (ops i) (getItem o i):=by
  induction step using Option.casesOn with
  |none=>exact⟨fun i=>[i,o],fun _=>rfl⟩
  |some e=>exact⟨fun i=>[o,i],fun _=>rfl⟩
 obtain⟨ops,hops⟩:=hops
 cases ha with
 |list h1 h2=>
  rename_i vs n l;refine AaG (Abs h) fun hc h=>?_
  ·have h:=sj h;subst h;have e1:=h2.length;simp only[Array.length_toList] at e1;refine tail_any ⟨_,x.inv.get h1,rfl⟩ slot_list_getitem.lookup ?_ (hops _);refine wpAny_getItem_list_slice ⟨_,x.inv.get h1,rfl,_,rfl⟩ (Heap.IsSliceOf.new ..) pl pu ps hc.1 ?_ (by rw[e1];exact AaL hc.2);refine Aaf (Acs (B:=B) (g:=g) O x.inv (vs:=slicePick vs lo hi st) (ds:=Akp l lo hi st) (by
    unfold slicePick Akp;rw[e1];have:=h2.pick (sliceRange (sliceBounds lo hi st l.length).1 (sliceBounds lo hi st l.length).2.1 (sliceBounds lo hi st l.length).2.2);simpa using this)) fun g' y hd=>?_
   exact⟨g',x.trans y,hd⟩
 |str=>
  rename_i y t;induction st using Option.casesOn with
  |some c=>exact Aah h
  |none=>
   refine AaG (Abs h) fun hc h=>?_
   ·have h:=sj h;subst h;refine Aaf (Aj0 pl) fun l q1 q2=>?_;subst q1;subst q2;refine Aaf (Aj0 pu) fun u q3 q4=>?_;subst q3;subst q4
    cases ps
    refine tail_any (typeIs_str _ _ _) F.slot_str_getitem.lookup ?_ (hops _);refine wpAny_getItem_str_slice (l:=l) (u:=u) (st:=none) ⟨_,Heap.get?_push_size _ rfl,rfl,rfl⟩ rfl ?_;have hle:=Txt.slice_le y (l.map (·.1)) (u.map (·.1));unfold sliceMade
    by_cases hn:(((Option.map (·.1) (none:Option (Int×Tok))).getD 1 == 1 && (slicePicked y l u none).length == y.length)=true)
    ·have e:Txt.slice y (l.map (·.1)) (u.map (·.1))=y:=if_pos hn;rw[if_pos hn,e];exact⟨g,x,.str⟩
    ·have e:Txt.slice y (l.map (·.1)) (u.map (·.1))=⟨((slicePicked y l u none).filterMap (y.cps[·]?)).toArray⟩:=if_neg hn;rw[if_neg hn,e];rw[e] at hle;exact⟨Nat.le_trans hle (AaL hc),g,x.trans (Aag.tok x.inv _),.str⟩
 |_=>exact Aah h
noncomputable def Kp(g:Gh)(f:Value):Prop:=(∃ id,f=.builtin id)∨(∃ T,f=.type T)∨∃ a o fd,f=.ref a∧g a=some o∧o.data=.func fd
theorem Kp.mono{g g':Gh}{f:Value}(k:Kp g f)(h:g.le g'):Kp g' f:=by
 rcases k with k|k|⟨a,o,fd,e,e1,e2⟩
 ·exact .inl k
 ·exact .inr (.inl k)
 ·exact .inr (.inr ⟨a,o,fd,e,h a o e1,e2⟩)
structure AbC(B:Bs)(n:Nat)(f:Value)(F:List D→Option D):Prop where
 kp:Kp B.G.get? f
 run:∀ (A:Around) (s:Shared) (g:Gh) (vs:List Value) (ds:List D) (r:D),AOk n A→Inv B s g→Aav g vs ds→F ds=some r→Aaq B A s g (call f vs) fun g' v=>Den g' v r
structure Amx(B:Bs)(n:Nat)(s₀:Shared)(g₀:Gh)(f:Value)(F:List D→Option D):Prop where
 kp:Kp g₀ f
 run:∀ (A:Around) (s:Shared) (g:Gh) (vs:List Value) (ds:List D) (r:D),AOk n A→Aag B s₀ g₀ s g→Aav g vs ds→F ds=some r→Aaq B A s g (call f vs) fun g' v=>Den g' v r
theorem AbC.at{n:Nat}{f:Value}{F:List D→Option D}(h:AbC B n f F)(I:Inv B s g):Amx B n s g f F:=
 ⟨h.kp.mono fun a o e=>I.base a o e,fun A s' g' vs ds r hA x hd hr=>h.run A s' g' vs ds r hA x.inv hd hr⟩
theorem Amx.step{n:Nat}{s':Shared}{g':Gh}{f:Value}{F:List D→Option D}(h:Amx B n s g f F)(x:Aag B s g s' g'):Amx B n s' g' f F:=
 ⟨h.kp.mono x.le,fun A s2 g2 vs ds r hA y hd hr=>h.run A s2 g2 vs ds r hA (x.trans y) hd hr⟩
theorem AcD{M:Model}{E:Value→Shared→Prop}{f:Value}{args:List (Bool×Sem Value)}{Q:Args→Shared→Prop}(hn:∀ x∈args,x.1=false)
  (h:wpAny M A (spliced args) (fun vs s'=>Q ⟨vs,[]⟩ s') E s):wpAny M A (evalArgs f true args []) Q E s:=by
 induction args using List.casesOn with
 |nil=>
  unfold evalArgs;show wpAny M A (spliced [] >>= _) Q E s;refine wpAny_bind (wpAny_mono h (fun vs s' h'=>?_) fun _ _ x=>x);exact wpAny_holding (wpAny_bind (wpAny_pure (wpAny_bind (wpAny_pure (wpAny_pure h')))))
 |cons x rest=>
  obtain⟨b,t⟩:=x
  have:b=false:=hn (b,t) (.head _);subst this;exact Calls.evalArgs_plain h
theorem Acv{f:Value}{first:List Value}{args:List (Bool×Sem Value)}{pos:Pos}{P:Gh→List Value→Prop}{P':Gh→Value→Prop}(k:Kp g f)(hn:∀ x∈args,x.1=false)
  (h:Aaq B A s g (spliced args) P) (hc:∀ vs s' g',Aag B s g s' g'→P g' vs→Aaq B A s' g' (call f (first++vs)) P') :
  Aaq B A s g (callWith pos f first args []) P':=by
 have hplain:(args.any (·.1) || ([]:List (Option Str×Sem Value)).any (·.1.isNone))=false:=by simp only[List.any_nil,Bool.or_false,List.any_eq_false];intro x hx;rw[hn x hx];exact Bool.false_ne_true
 refine callWith_of (P:=fun h=>(∃ id,f=.builtin id)∨(∃ T,f=.type T)∨∃ a o fd,f=.ref a∧h.get? a=some o∧o.data=.func fd) hplain (fun h' hp=>?_) (AcD hn (h.use fun vs s' g' x hp=>⟨?_,(hc vs s' g' x hp).from x⟩))
 ·rcases hp with ⟨id,rfl⟩|⟨T,rfl⟩|⟨a,o,fd,rfl,e1,e2⟩
  ·exact⟨.machine,.inr (.inl rfl),.now⟩
  ·exact⟨.machine,.inr (.inl rfl),.now⟩
  ·refine⟨.frame,.inl rfl,?_⟩;unfold keeperOf;refine(Looks.ld (part:=none) e1).andThen ?_;rw[e2];exact .now
 ·rcases k.mono x.le with k|k|⟨a,o,fd,e,e1,e2⟩
  ·exact .inl k
  ·exact .inr (.inl k)
  ·exact .inr (.inr ⟨a,o,fd,e,x.inv.get e1,e2⟩)
end
theorem Akq{e:Expr}{rest:List Expr}{env:Env}(h:AbL e=true):starEach (e :: rest) env=(false,eval e env) :: starEach rest env:=by induction e using PySem.Expr.casesOn<;>first|rfl|exact Bool.noConfusion h
theorem Aaw{pos:Pos}{env:Env}:∀ {es:List Expr},(∀ e∈es,AbL e=true)→backTo pos (starEach es env)=es.map fun e=>(false,eval e env)
 |[],_=>rfl
 |e :: rest,h=>by
  rw[Akq (h e (.head _))];show(false,_) :: backTo pos (starEach rest env)=_;rw[Aaw fun e' he=>h e' (.tail _ he)]
  rfl
noncomputable def Afz(x:Int):Nat→List D
 |0=>[]
 |n+1=>.int x :: Afz (x+1) n
noncomputable def Acq:D→Option (List D)
 |.list l=>some l
 |.tup l=>some l
 |.rng lo hi=>if -1000000≤lo∧lo≤1000000∧-1000000≤hi∧hi≤1000000 then some (Afz lo (hi - lo).toNat) else none
 |_=>none
inductive AaN(h:Heap)(g:Gh)(I:Addr):List D→Prop
 |list {l:Addr} {i:Nat} {vs:Array Value} {n:Nat} {ds:List D}:h.IsListIter I l i→g l=some {cls:=.type "list",data:=.seq vs n}→Aav g (vs.toList.drop i) ds→AaN h g I ds
 |tup {l:Addr} {i:Nat} {vs:Array Value} {n:Nat} {ds:List D}:h.IsTupleIter I l i→g l=some {cls:=.type "tuple",data:=.seq vs n}→Aav g (vs.toList.drop i) ds→AaN h g I ds
 |rng {x left:Int} {ds:List D}:IsRangeIter h I x left 1→ds=Afz x left.toNat→AaN h g I ds
section
variable{B:Bs}{A:Around}{s:Shared}{g:Gh}
theorem AaN.obj{h:Heap}{I:Addr}{ds:List D}(it:AaN h g I ds):∃ o vs n,h.get? I=some o∧o.data=.fields vs∧o.cls=.type n∧n≠"code":=by
 cases it with
 |list h1 _ _=>refine Aew h1 fun o e1 e2 e3=>?_;exact⟨o,_,_,e1,e3,e2,by decide⟩
 |tup h1 _ _=>refine Aew h1 fun o e1 e2 e3=>?_;exact⟨o,_,_,e1,e3,e2,by decide⟩
 |rng h1 _=>exact⟨_,_,_,h1,rfl,rfl,by decide⟩
theorem AaN.keep{h h':Heap}{g':Gh}{I:Addr}{ds:List D}(it:AaN h g I ds)(hle:g.le g')(k:∀ o,h.get? I=some o→Abv o→h'.get? I=some o):AaN h' g' I ds:=by
 refine Ay1 it.obj fun o vs n ho hd hc _=>?_;have hn:Abv o:=Aap hc
 cases it with
 |list h1 h2 h3=>refine Aew h1 fun o' e1 e2 e3=>?_;rw[ho] at e1;cases e1;exact .list ⟨o,k o ho hn,e2,e3⟩ (hle _ _ h2) (h3.mono hle)
 |tup h1 h2 h3=>refine Aew h1 fun o' e1 e2 e3=>?_;rw[ho] at e1;cases e1;exact .tup ⟨o,k o ho hn,e2,e3⟩ (hle _ _ h2) (h3.mono hle)
 |rng h1 h2=>have h1':h.get? I=_:=h1;rw[h1'] at ho;cases ho;exact .rng (k _ h1' hn) h2
theorem AaN.noTabby{h:Heap}{I:Addr}{ds:List D}(it:AaN h g I ds):∃ o,h.get? I=some o∧¬ AcL o∧Abv o∧(∀ v,o.data≠.cell v)∧(∀ es n,o.data≠.dict es n)∧(∀ vs n,o.data≠.seq vs n):=by refine Ay1 it.obj fun o vs n ho hd hc hn=>?_;exact⟨o,ho,AaU hc hn,Aap hc,(by intro v e;rw[hd] at e;injection e),(by intro _ _ e;rw[hd] at e;injection e),(by intro _ _ e;rw[hd] at e;injection e)⟩
theorem AeA(I:Inv B s g){It:Addr}{d:D}{ds:List D}(it:AaN s.heap g It (d :: ds)){Q:Option Value→Shared→Prop}{E:Value→Shared→Prop}
  (h:∀ v h' tk,Den g v d→AaN h' g It ds→Heap.SameBut It s.heap h'→Q (some v) {s with heap:=h',toks:=tk}):wpAny B.M A (pyNext (.ref It)) Q E s:=by
 cases it with
 |list h1 h2 h3=>
  rename_i l i vs n
  cases e:vs.toList.drop i with
  |nil=>rw[e] at h3;cases h3 using Aav.consE
  |cons v rest=>
   rw[e] at h3
   cases h3 using Aav.consE with|cons hv hr=>?_
   have hx:vs[i]?=some v:=by
    have:(vs.toList.drop i)[0]?=some v:=by rw[e];rfl
    rw[List.getElem?_drop] at this;simpa using this
   refine wpAny_pyNext_list_item h1 ⟨_,I.get h2,rfl,_,rfl⟩ hx fun h' hi hs=>h v h' s.toks hv (.list hi h2 ?_) hs;have:vs.toList.drop (i+1)=rest:=by rw[← List.drop_drop,e];rfl
   rw[this];exact hr
 |tup h1 h2 h3=>
  rename_i l i vs n
  cases e:vs.toList.drop i with
  |nil=>rw[e] at h3;cases h3 using Aav.consE
  |cons v rest=>
   rw[e] at h3
   cases h3 using Aav.consE with|cons hv hr=>?_
   have hx:vs[i]?=some v:=by
    have:(vs.toList.drop i)[0]?=some v:=by rw[e];rfl
    rw[List.getElem?_drop] at this;simpa using this
   refine wpAny_pyNext_tuple_item h1 ⟨_,I.get h2,rfl,_,rfl⟩ hx fun h' hi hs=>h v h' s.toks hv (.tup hi h2 ?_) hs;have:vs.toList.drop (i+1)=rest:=by rw[← List.drop_drop,e];rfl
   rw[this];exact hr
 |rng h1 h2=>
  rename_i x left
  cases e:left.toNat with
  |zero=>rw[e] at h2;injection h2
  |succ n=>
   rw[e] at h2
   cases h2
   refine wpAny_pyNext_range_item h1 (by omega) fun h' hi hs=>h _ h' _ .int (.rng hi ?_) hs;have:(left - 1).toNat=n:=by rw[Int.pred_toNat,e];rfl
   rw[this]
theorem AhL(I:Inv B s g){It:Addr}(hh:A.handled=none)(it:AaN s.heap g It []){Q:Option Value→Shared→Prop}{E:Value→Shared→Prop}
  (h:∀ h',Heap.ExtBut It s.heap h'→Q none {s with heap:=h'}):wpAny B.M A (pyNext (.ref It)) Q E s:=by
 cases it with
 |list h1 h2 h3=>
  rename_i l i vs n;have hl:=h3.length;simp only[List.length_drop,Array.length_toList,List.length_nil] at hl;exact wpAny_pyNext_list_end hh h1 ⟨_,I.get h2,rfl,_,rfl⟩ (by simp;omega) h
 |tup h1 h2 h3=>
  rename_i l i vs n;have hl:=h3.length;simp only[List.length_drop,Array.length_toList,List.length_nil] at hl;exact wpAny_pyNext_tuple_end hh h1 ⟨_,I.get h2,rfl,_,rfl⟩ (by simp;omega) h
 |rng h1 h2=>
  rename_i x left
  cases e:left.toNat with
  |zero=>exact wpAny_pyNext_range_end hh h1 (by omega) h
  |succ n=>rw[e] at h2;injection h2
theorem AhU{It:Addr}{ds:List D}(it:AaN s.heap g It ds){Q:Value→Shared→Prop}{E:Value→Shared→Prop}(h:Q (.ref It) s):wpAny B.M A (pyIter (.ref It)) Q E s:=by
 cases it with
 |list h1 h2 h3=>exact wpAny_pyIter_listiter h1 h
 |tup h1 h2 h3=>exact wpAny_pyIter_tupleiter h1 h
 |rng h1 h2=>exact wpAny_pyIter_rangeiter h1 h
theorem ABY{x:Int}(h0:-1000000≤x)(h1:x≤1000000):-2 ^ 63≤x∧x<2 ^ 63:=⟨Int.le_trans (by decide) h0,Int.lt_of_le_of_lt h1 (by decide)⟩
theorem Aod(lo hi:Int):(if lo<hi then (hi - lo - 1) / 1+1 else 0)=((hi - lo).toNat:Int):=by
 by_cases h:lo<hi
 ·rw[if_pos h,Int.ediv_one,Int.sub_add_cancel,Int.toNat_of_nonneg (Int.sub_nonneg_of_le (Int.le_of_lt h))]
 ·rw[if_neg h,Int.toNat_of_nonpos (Int.sub_nonpos_of_le (Int.not_lt.mp h))];rfl
theorem Ad1(O:B.Ok)(I:Inv B s g){v:Value}{d:D}{ds:List D}(hd:Den g v d)(hi:Acq d=some ds){Q:Value→Shared→Prop}{E:Value→Shared→Prop}
  (h:∀ o,Aag B s g {s with heap:=s.heap.push o} g→AaN (s.heap.push o) g s.heap.objs.size ds→Q (.ref s.heap.objs.size) {s with heap:=s.heap.push o}):wpAny B.M A (pyIter v) Q E s:=by
 cases hd with
 |list h1 h2=>
  have hi:=sj hi;subst hi;exact wpAny_pyIter_list ⟨_,I.get h1,rfl,_,rfl⟩ (h _ (Aag.open O I) (.list ⟨_,Heap.get?_push_size _ rfl,rfl,rfl⟩ h1 (by simpa using h2)))
 |tup h1 h2=>
  have hi:=sj hi;subst hi;exact wpAny_pyIter_tuple ⟨_,I.get h1,rfl,_,rfl⟩ (h _ (Aag.open O I) (.tup ⟨_,Heap.get?_push_size _ rfl,rfl,rfl⟩ h1 (by simpa using h2)))
 |rng h1=>
  rename_i a lo hi' t1 t2 t3;refine AaG (Abs hi) fun hc hi=>?_
  ·have hi:=sj hi;subst hi;have hs:Builtin.Range.rangeSize lo hi' 1=((hi' - lo).toNat:Int):=by unfold Builtin.Range.rangeSize;simp only[show(1:Int) > 0 by decide,if_true];exact Aod lo hi'
   refine wpAny_pyIter_range (I.get h1) ?_ (h _ (Aag.open O I) (.rng (x:=lo) (left:=Builtin.Range.rangeSize lo hi' 1) (Heap.get?_push_size _ rfl) ?_))
   ·unfold Builtin.Range.small Builtin.Range.rangeFitsLong;rw[hs];simp only[Bool.and_eq_true,Bool.or_eq_true,decide_eq_true_eq,show(1:Int) > 0 by decide,if_true];refine⟨⟨⟨⟨ABY hc.1 hc.2.1,ABY hc.2.2.1 hc.2.2.2⟩,by decide⟩,Int.le_trans (by decide) (Int.natCast_nonneg _),?_⟩,.inr ?_⟩
    ·exact Int.lt_of_le_of_lt (Int.ofNat_le.mpr (show(hi' - lo).toNat≤2000000 from Int.toNat_le.mpr (Int.sub_le_sub hc.2.2.2 hc.1))) (by decide)
    ·rw[show(1:Int) - 1=0 from rfl,Int.add_zero];exact ABY hc.2.2.1 hc.2.2.2
   ·rw[hs,Int.toNat_natCast]
 |_=>exact Aah hi
end
noncomputable abbrev Rho:=List (Str×D)
noncomputable def okT(own:List Str)(sc:Scope)(x:Str):Bool:=match sc.names.lookup x with
 |some .local=>true
 |some .cell=>own.contains x
 |_=>false
noncomputable def Anx(e:Expr):Str:=(ep e).x
noncomputable def Aj1(own:List Str)(sc:Scope):List Expr→List D→Rho→Option Rho
 |[],[],ρ=>some ρ
 |e :: es,d :: ds,ρ=>if AdE e=true∧okT own sc (Anx e)=true then Aj1 own sc es ds ((Anx e,d) :: ρ) else none
 |_,_,_=>none
noncomputable def Awm:D→Option (List D)
 |.tup ds=>some ds
 |_=>none
theorem Akr{d:D}{ds:List D}(h:Awm d=some ds):d=.tup ds:=by
 revert h;induction d using D.casesOn<;>first|exact fun h=>congrArg D.tup (sj h)|exact Aah
noncomputable def ABA:Value→Option Addr
 |.ref a=>some a
 |_=>none
theorem Amy{v:Value}{a:Addr}(h:ABA v=some a):v=.ref a:=by induction v using Value.casesOn<;>first|exact congrArg Value.ref (sj h)|exact Aah h
noncomputable def Ay4(d:D):Option (D×D):=(Awm d).bind fun l=>if l.length=2 then some (l.getD 0 .none,l.getD 1 .none) else none
theorem Aks{d:D}{p:D×D}(h:Ay4 d=some p):d=.tup [p.1,p.2]:=by refine Aaf (Aak h) fun l e k_1=>?_;refine AaG (Abs k_1) fun h1 h2=>?_;rw[Akr e,← sj h2];exact congrArg D.tup (As1 h1)
noncomputable def Ac8(own:List Str)(sc:Scope)(t:Expr)(d:D)(ρ:Rho):Option Rho:=
 if AdE t=true then (if okT own sc (Anx t)=true then some ((Anx t,d) :: ρ) else none) else if Aqe t=true then (Awm d).bind fun ds=>Aj1 own sc (ep t).l ds ρ else none
noncomputable def nmO(e:Expr):Option Str:=if AdE e=true then some (Anx e) else none
noncomputable def Aj2(t:Expr):List Str:=if AdE t=true then [Anx t] else if Aqe t=true then (ep t).l.filterMap nmO else []
inductive BN(own:List Str)(sc:Scope):List Expr→List D→Rho→Rho→Prop
 |nil {ρ:Rho}:BN own sc [] [] ρ ρ
 |cons {x:Str} {p:Pos} {es:List Expr} {d:D} {ds:List D} {ρ ρ':Rho} (ok:okT own sc x=true) (h:BN own sc es ds ((x,d) :: ρ) ρ'):BN own sc (.Name x p :: es) (d :: ds) ρ ρ'
theorem Agl{own:List Str}{sc:Scope}{es:List Expr}{ds:List D}{ρ ρ':Rho}(h:Aj1 own sc es ds ρ=some ρ'):BN own sc es ds ρ ρ':=by
 induction es generalizing ds ρ with
 |nil=>induction ds using List.casesOn with
  |nil=>exact sj h ▸ .nil
  |cons d ds=>exact Aah h
 |cons e es ih=>induction ds using List.casesOn with
  |nil=>exact Aah h
  |cons d ds=>
   (refine AaG (Abs h) fun q1 h=>?_;refine AaG q1 fun hn ho=>?_)
   rw[AgX hn];exact .cons ho (ih h)
theorem Aj3{own:List Str}{sc:Scope}{x:Str}{p:Pos}{d:D}{ρ:Rho}(h:okT own sc x=true):Ac8 own sc (.Name x p) d ρ=some ((x,d) :: ρ):=(if_pos rfl).trans (if_pos h)
inductive BT(own:List Str)(sc:Scope)(ρ:Rho):Expr→D→Rho→Prop
 |name {x:Str} {p:Pos} {d:D} (ok:okT own sc x=true):BT own sc ρ (.Name x p) d ((x,d) :: ρ)
 |tup {es:List Expr} {k:Nat} {p:Pos} {ds:List D} {ρ':Rho} (h:BN own sc es ds ρ ρ'):BT own sc ρ (.Tuple es k p) (.tup ds) ρ'
theorem AhV{own:List Str}{sc:Scope}{t:Expr}{d:D}{ρ ρ':Rho}(h:Ac8 own sc t d ρ=some ρ'):BT own sc ρ t d ρ':=by
 unfold Ac8 at h
 by_cases hn:AdE t=true
 ·rw[if_pos hn] at h;refine AaG (Abs h) fun ho h=>?_;rw[AgX hn,← sj h];exact .name ho
 ·rw[if_neg hn] at h;refine AaG (Abs h) fun ht h=>?_
  obtain⟨ds,e,h⟩:∃ ds,Awm d=some ds∧Aj1 own sc (ep t).l ds ρ=some ρ':=by
   cases e:Awm d with
   |none=>rw[e] at h;exact Aah h
   |some ds=>rw[e] at h;exact⟨ds,rfl,h⟩
  rw[Awj ht,Akr e];exact .tup (Agl h)
section
variable{B:Bs}{A:Around}{s₀ s s':Shared}{g₀ g g':Gh}{own:List Str}{env:Env}{ρ:Rho}
noncomputable def Oth(env:Env)(own:List Str)(h h':Heap):Prop:=∀ a o,¬ Loc env own a→h.get? a=some o→h'.get? a=some o
theorem Oth.trans{h h' h'':Heap}(x:Oth env own h h')(y:Oth env own h' h''):Oth env own h h'':=fun a o n e=>y a o n (x a o n e)
theorem Abl(h:okT own env.scope x=true):env.kindOf x=some .local∨(env.kindOf x=some .cell∧x∈own):=by
 unfold okT at h;unfold Env.kindOf;generalize env.scope.names.lookup x=o at h ⊢
 cases o with
 |none=>exact Bool.noConfusion h
 |some k=>induction k using NameKind.casesOn<;>first|exact .inl rfl|exact .inr ⟨rfl,List.contains_iff_mem.mp h⟩|exact Bool.noConfusion h
theorem Fm.weaken{ρ':Rho}(F:Fm B s₀ g₀ own env ρ s g)(h:∀ x d,ρ'.lookup x=some d→ρ.lookup x=some d):Fm B s₀ g₀ own env ρ' s g:=by refine Aaf F.vars fun m hm hv=>?_;refine⟨F.st,F.kind,F.glob,F.blt,⟨m,hm,fun x d e k=>hv x d (h x d e) k⟩,fun x hx=>?_,fun x d e=>F.kinds x d (h x d e),F.loc,F.own⟩;refine Adp (F.cells x hx) fun c v e1 e2 e3=>?_;exact⟨c,v,e1,e2,fun d e=>e3 d (h x d e)⟩
theorem Fm.rebase{s₁:Shared}{g₁:Gh}(F:Fm B s₀ g₀ own env ρ s g)(x:Aag B s₁ g₁ s₀ g₀):Fm B s₁ g₁ own env ρ s g:=
 ⟨x.trans F.st,F.kind,F.glob,F.blt,F.vars,F.cells,F.kinds,⟨x.ext.dead F.loc.1,F.loc.2⟩,fun y hy=>by
  refine Alo (F.own y hy) fun c v e1 e2 e3 r=>?_;exact⟨c,v,e1,e2,x.ext.dead e3,r⟩⟩
theorem Fm.turnE{b:Addr}{ob:Obj}(O:B.Ok)(F:Fm B s₀ g₀ own env ρ s g)(hb0:s₀.heap.get? b=none)(hb:g b=none)(hob:s.heap.get? b=some ob)(hn:¬ AcL ob)
  (h1:∀ v,ob.data≠.cell v) (h2:b≠env.locals) (k:Heap.ExtBut b s.heap s'.heap) (hg:s'.gens=s.gens) (ho:s'.os=s.os):Fm B s₀ g₀ own env ρ s' g:=by
 refine Aaf F.vars fun m hm hv=>?_;have cne:∀ {c v},s.heap.IsCell c v→c≠b:=by intro c v q2;refine Aaf q2 fun o e1 e2=>?_;intro q3;subst q3;rw[hob] at e1;cases e1;exact h1 _ e2
 have cell:∀ {c v},s.heap.IsCell c v→s'.heap.IsCell c v:=fun {c v} x=>by
  have:=cne x;refine Aaf x fun o e1 e2=>?_;exact⟨o,k c o this e1,e2⟩
 refine⟨F.st.turnE O hb0 hb hob hn k hg ho,F.kind,F.glob,F.blt,⟨m,hm.extBut k (Ne.symm h2),hv⟩,fun x hx=>?_,F.kinds,F.loc,fun x hx=>?_⟩
 ·refine Adp (F.cells x hx) fun c v e1 e2 e3=>?_;exact⟨c,v,e1,cell e2,e3⟩
 ·refine Adp (F.own x hx) fun c v e1 e2 r=>?_;exact⟨c,v,e1,cell e2,r⟩
theorem Aej{own:List Str}{sc:Scope}{es:List Expr}{ds:List D}{ρ ρ':Rho}(h:BN own sc es ds ρ ρ') :
  (assignEach es env).map (·.2)=es.map (assign · env)∧(assignEach es env).length=ds.length∧(assignEach es env).findIdx? (·.1)=none:=by
 induction h with
 |nil=>exact⟨rfl,rfl,rfl⟩
 |cons _ _ ih=>
  refine⟨congrArg (List.cons _) ih.1,congrArg (·+1) ih.2.1,?_⟩;show List.findIdx? _ ((false,_) :: assignEach _ env)=none;rw[List.findIdx?_cons,if_neg (fun e=>Bool.noConfusion e),ih.2.2];rfl
theorem Ad2(O:B.Ok){es:List Expr}{ds:List D}{ρ ρ':Rho}(h:BN own env.scope es ds ρ ρ'):∀ {vs:List Value} {s:Shared} {Q:Unit→Shared→Prop} {E:Value→Shared→Prop},
  Fm B s₀ g₀ own env ρ s g→Aav g vs ds→(∀ s',Fm B s₀ g₀ own env ρ' s' g→Oth env own s.heap s'.heap→Q () s') →
  wpAny B.M A (assignInOrder (es.map (assign · env)) vs) Q E s:=by
 induction h with
 |nil=>
  intro vs s Q E F hd hq;induction hd using Aav.nilE;exact wpAny_pure (hq _ F fun _ _ _ e=>e)
 |cons ok _ ih=>
  intro vs s Q E F hd hq;induction hd using Aav.consE with|cons hd hr=>?_
  exact wpAny_bind (wpAny_holding (wpAny_assign_Name (F.store O (Abl ok) hd fun s' F' k=>ih F' hr fun s'' F'' k'=>hq s'' F'' (Oth.trans k k'))))
theorem Acc(O:B.Ok)(hh:A.handled=none){t:Expr}{v:Value}{d:D}{ρ':Rho}{Q:Unit→Shared→Prop}{E:Value→Shared→Prop}(F:Fm B s₀ g₀ own env ρ s g)(hd:Den g v d)
  (h:Ac8 own env.scope t d ρ=some ρ') (hq:∀ s',Fm B s₀ g₀ own env ρ' s' g→Oth env own s.heap s'.heap→Q () s'):wpAny B.M A (assign t env v) Q E s:=by
 replace h:=AhV h
 induction h using BT.casesOn with
 |name ok=>exact wpAny_assign_Name (F.store O (Abl ok) hd hq)
 |tup h=>
  induction hd using Den.tupE with|tup h1 h2=>?_
  refine AjX (Aej (env:=env) h) fun e1 e2 e3=>?_;refine wpAny_assign_Tuple hh ⟨_,F.inv.get h1,rfl,_,rfl⟩ (e2.trans (h2.length.symm.trans Array.length_toList)) e3 fun h' hx=>?_;rw[e1];have keep:∀ a o,s.heap.get? a=some o→h'.get? a=some o:=fun a o e=>hx a o (Nat.ne_of_lt (Heap.lt_size e)) e;exact Ad2 O h (F.step ⟨g.le_refl,F.inv.keeps O keep rfl rfl,.of keep,fun _ _ e=>.inl e⟩) h2 fun s' F' k=>hq s' F' fun a o n e=>k a o n (keep a o e)
end
section
variable{α:Type}{B:Bs}{A:Around}{s₀ s s':Shared}{g₀ g g':Gh}{own:List Str}{env:Env}{ρ:Rho}
structure CS{α:Type}(B:Bs)(s₀:Shared)(g₀:Gh)(own:List Str)(env:Env)(acc:Addr)(ok:Gh→Obj→α→Prop)(ρ:Rho)(a:α)(s:Shared)(g:Gh):Prop where
 F:Fm B s₀ g₀ own env ρ s g
 obj:∃ o,s.heap.get? acc=some o∧ok g o a∧Abv o∧¬ AcL o∧(∀ vs,o.data≠.fields vs)∧(∀ v,o.data≠.cell v)
 new:s₀.heap.get? acc=none∧g acc=none
 loc:¬ Loc env own acc
theorem CS.step{acc:Addr}{ok:Gh→Obj→α→Prop}{a:α}(hok:∀ g g' o a,g.le g'→ok g o a→ok g' o a)(C:CS B s₀ g₀ own env acc ok ρ a s g)(x:Aag B s g s' g'):CS B s₀ g₀ own env acc ok ρ a s' g':=by refine Amu C.obj fun o e1 e2 e3 r=>?_;exact⟨C.F.step x,⟨o,x.ext.keep acc o e1 e3,hok _ _ _ _ x.le e2,e3,r⟩,⟨C.new.1,x.shutNone e1 C.new.2⟩,C.loc⟩
theorem CS.iter{acc:Addr}{ok:Gh→Obj→α→Prop}{a:α}(O:B.Ok)(C:CS B s₀ g₀ own env acc ok ρ a s g){It:Addr}{ds:List D}(it:AaN s.heap g It ds)(h0:s₀.heap.get? It=none)(hg:g It=none)
  (k:Heap.ExtBut It s.heap s'.heap) (e1:s'.gens=s.gens) (e2:s'.os=s.os):CS B s₀ g₀ own env acc ok ρ a s' g:=by
 refine Amv it.noTabby fun oi ho ht _ hc hd _=>?_;refine Amv C.obj fun o f1 f2 f3 f4 f5 f6=>?_;refine Avu it.obj fun _ _ _ ho' hf _=>?_;rw[ho] at ho';cases ho';have ne:acc≠It:=by intro q1;subst q1;rw[ho] at f1;cases f1;exact f5 _ hf
 have nl:It≠env.locals:=fun e=>C.F.notLoc ho hc hd (.inl e);exact⟨C.F.turnE O h0 hg ho ht hc nl k e1 e2,⟨o,k acc o ne f1,f2,f3,f4,f5,f6⟩,C.new,C.loc⟩
theorem Akt{It:Addr}{ds:List D}{t:Expr}{v:Value}(it:AaN s.heap g It ds){Q:Unit→Shared→Prop}{E:Value→Shared→Prop}(h:Q () s):wpAny B.M A (letOwnedTupleGo t (.ref It) v) Q E s:=by
 obtain⟨o,n,vs,e1,e2,e3,e4⟩:∃ o n vs,s.heap.get? It=some o∧o.cls=.type n∧o.data=.fields vs∧(["enumerate","zip","dict_itemiterator","dict_reverseitemiterator","odict_iterator","itertools.zip_longest","itertools.pairwise"].contains n)=false:=by
  cases it with
  |list h1 _ _=>refine Aew h1 fun o e1 e2 e3=>?_;exact⟨o,_,_,e1,e2,e3,by decide⟩
  |tup h1 _ _=>refine Aew h1 fun o e1 e2 e3=>?_;exact⟨o,_,_,e1,e2,e3,by decide⟩
  |rng h1 _=>exact⟨_,_,_,h1,rfl,rfl,by decide⟩
 obtain⟨c,di,dt,sl⟩:=o
 dsimp only at e2 e3;subst e2 e3;have key:∀ a:Addr,wpAny B.M A (load It >>= fun o=>match o.cls,o.data with
   |.type n,.fields vs=>if ["enumerate","zip","dict_itemiterator","dict_reverseitemiterator","odict_iterator","itertools.zip_longest","itertools.pairwise"].contains n && vs[0]? == some (rawInt a) then rule "for.unpacks-the-owned-tuple" >>= fun _=>updateField It 0 .none else pure ()
   |_,_=>pure ()) Q E s:=fun a=>wpAny_bind (wpAny_load e1 (by dsimp only;rw[e4];exact wpAny_pure h))
 induction t using Expr.casesOn with
 |Tuple=>induction v using Value.casesOn<;>first|exact key _|exact wpAny_pure h
 |List=>induction v using Value.casesOn<;>first|exact key _|exact wpAny_pure h
 |_=>exact wpAny_pure h
noncomputable def ADz(x:Option Bool):Bool→Option Bool
 |true=>x
 |false=>some false
noncomputable def Any(T:Rho→Expr→Option Bool)(ρ:Rho):List Expr→Option Bool
 |[]=>some true
 |c :: cs=>(T ρ c).bind (ADz (Any T ρ cs))
theorem Aj4{M:Model}{E:Value→Shared→Prop}{Q:Bool→Shared→Prop}:∀ (ifs:List Expr),Q false s →
  wpAny M A (forIn ifs false fun c r=>if r=true then do let ok ← isTrue c env (eval c env);pure (ForInStep.yield ok) else pure (ForInStep.yield r)) Q E s
 |[],h=>by rw[List.forIn_nil];exact wpAny_pure h
 |c :: cs,h=>by
  rw[List.forIn_cons];simp only[Bool.false_eq_true,if_false];exact wpAny_bind (wpAny_pure (Aj4 cs h))
theorem Amz{T:Rho→Expr→Option Bool}(HT:∀ ρ e b s g,Fm B s₀ g₀ own env ρ s g→T ρ e=some b→Aaq B A s g (isTrue e env (eval e env)) fun _ r=>r=b)
  {ifs:List Expr} {ok:Bool} {s:Shared} {g:Gh} (F:Fm B s₀ g₀ own env ρ s g) (h:Any T ρ ifs=some ok) :
  Aaq B A s g (forIn ifs true fun c r=>if r=true then do let ok ← isTrue c env (eval c env);pure (ForInStep.yield ok) else pure (ForInStep.yield r)) fun _ r=>r=ok:=by
 induction ifs generalizing s g with
 |nil=>cases h;rw[List.forIn_nil];exact Aaq.pure F.inv rfl
 |cons c cs ih=>
  refine Aaf (Aak h) fun b e h=>?_;rw[List.forIn_cons,if_pos rfl];refine Aaq.bind (Aaq.bind (HT ρ c b s g F e) (P':=fun _ r=>r=ForInStep.yield b) fun r s' g' x hr=>by subst hr;exact Aaq.pure x.inv rfl) fun r s' g' x hr=>?_;subst hr;induction b using Bool.casesOn with
  |true=>exact ih (F.step x) h
  |false=>cases h;exact Aj4 cs ⟨g',Aag.refl x.inv,rfl⟩
noncomputable def Ay5(own:List Str)(sc:Scope)(target:Expr)(ρ:Rho)(d:D):Option Rho:=if (Aj2 target).all (fun x=>(ρ.lookup x).isNone)=true then Ac8 own sc target d ρ else none
noncomputable def ifO:Bool→Option α→α→Option α
 |true,x,_=>x
 |false,_,a=>some a
noncomputable def As5(own:List Str)(sc:Scope)(T:Rho→Expr→Option Bool)(target:Expr)(ifs:List Expr)(inner:Rho→α→Option α)(ρ:Rho)(d:D)(a:α):Option α:=
 (Ay5 own sc target ρ d).bind fun ρ₁=>(Any T ρ₁ ifs).bind fun ok=>ifO ok (inner ρ₁ a) a
noncomputable def Abi(own:List Str)(sc:Scope)(T:Rho→Expr→Option Bool)(target:Expr)(ifs:List Expr)(inner:Rho→α→Option α)(ρ:Rho):List D→α→Option α
 |[],a=>some a
 |d :: ds,a=>(As5 own sc T target ifs inner ρ d a).bind (Abi own sc T target ifs inner ρ ds)
theorem BN.keeps{sc:Scope}{es:List Expr}{ds:List D}{ρ ρ':Rho}(h:BN own sc es ds ρ ρ'){x:Str}{d:D}(hx:x ∉ es.filterMap nmO)(e:ρ.lookup x=some d):ρ'.lookup x=some d:=by
 induction h with
 |nil=>exact e
 |cons _ _ ih=>
  have hx:=not_or.mp (mt List.mem_cons.mpr hx);exact ih hx.2 ((Aab).trans ((if_neg hx.1).trans e))
theorem AmA{sc:Scope}{t:Expr}{d:D}{ρ ρ':Rho}(h:Ac8 own sc t d ρ=some ρ')(x:Str)(dd:D)(hx:x ∉ Aj2 t)(hl:ρ.lookup x=some dd):ρ'.lookup x=some dd:=by
 replace h:=AhV h
 induction h using BT.casesOn with
 |name ok=>exact(Aab).trans ((if_neg (fun e=>hx (by rw[e];exact .head _))).trans hl)
 |tup h=>exact h.keeps hx hl
theorem Alt{c:Code}{tr:Sem Fin}{R:Result→Shared→Prop}(hA:A.under c=A)(hden:B.M.den c=tr.onRaise (fun x=>do noteFrame x env;theTreesLotGoes x))
  (h:∀ (Q:Fin→Shared→Prop) (E:Value→Shared→Prop),(∀ f s',R (.ok f) s'→Q (.done f) s')→(∀ c' s',c'.quiet=true→codeAny B.M A c' R s'→Q (.again c') s')→wpAny B.M A tr Q E s):codeAny B.M A c R s:=by
 refine codeAny_of_tree ?_;rw[hden,hA];exact wpAny_noted (h _ _ (fun _ _ h=>h) fun _ _ a b=>⟨a,b⟩)
noncomputable def KB1(env:Env)(own:List Str)(acc:Addr)(s:Shared)(g:Gh)(s':Shared)(g':Gh):Prop:=∀ x o,x≠acc→¬ Loc env own x→s.heap.get? x=some o→Abv o→s'.heap.get? x=some o∧(g x=none→g' x=none)
noncomputable def KB2(env:Env)(own:List Str)(It acc:Addr)(s:Shared)(g:Gh)(s':Shared)(g':Gh):Prop:=∀ x o,x≠It→x≠acc→¬ Loc env own x→s.heap.get? x=some o→Abv o→s'.heap.get? x=some o∧(g x=none→g' x=none)
theorem CS.weak{acc:Addr}{ok:Gh→Obj→α→Prop}{a:α}{sc:Scope}{target:Expr}{d:D}{ρ₁:Rho}(C:CS B s₀ g₀ own env acc ok ρ₁ a s g)(hb:Ay5 own sc target ρ d=some ρ₁):CS B s₀ g₀ own env acc ok ρ a s g:=by refine AaG (Abs hb) fun hfr hb=>?_;refine⟨C.F.weaken fun x dd hx=>AmA hb x dd (fun hm=>?_) hx,C.obj,C.new,C.loc⟩;have:=List.all_eq_true.mp hfr x hm;rw[hx] at this;exact Bool.noConfusion this
theorem CS.oth{acc:Addr}{ok:Gh→Obj→α→Prop}{a:α}{ρ₁:Rho}(C:CS B s₀ g₀ own env acc ok ρ a s g)(F:Fm B s₀ g₀ own env ρ₁ s' g)(k:Oth env own s.heap s'.heap):CS B s₀ g₀ own env acc ok ρ₁ a s' g:=by refine Aaf C.obj fun o f1 f2=>?_;exact⟨F,⟨o,k acc o C.loc f1,f2⟩,C.new,C.loc⟩
theorem CS.ne{acc It:Addr}{ok:Gh→Obj→α→Prop}{a:α}{ds:List D}(C:CS B s₀ g₀ own env acc ok ρ a s g)(it:AaN s.heap g It ds):It≠acc:=by intro e;subst e;refine Avu it.obj fun _ _ _ ho' hf _=>?_;refine Amv C.obj fun o f1 _ _ _ f5 _=>?_;rw[ho'] at f1;cases f1;exact f5 _ hf
theorem AaN.kb{acc It:Addr}{ok:Gh→Obj→α→Prop}{a:α}{ds:List D}(it:AaN s.heap g It ds)(C:CS B s₀ g₀ own env acc ok ρ a s g)(hg:g It=none)(l:g.le g')(k:KB1 env own acc s g s' g'):AaN s'.heap g' It ds∧g' It=none:=by refine Amv it.noTabby fun oi ho _ hnt hc hd hsq=>?_;have kk:=k It oi (C.ne it) (C.F.notLoc ho hc hd) ho hnt;exact⟨it.keep l fun o e _=>by rw[ho] at e;cases e;exact kk.1,kk.2 hg⟩
theorem AaN.oth{It:Addr}{ds:List D}(it:AaN s.heap g It ds)(F:Fm B s₀ g₀ own env ρ s g)(k:Oth env own s.heap s'.heap):AaN s'.heap g It ds:=it.keep g.le_refl fun o e _=>k It o (by
  refine Amv it.noTabby fun oi ho _ _ hc hd _=>?_;exact F.notLoc ho hc hd) e
theorem AeB(O:B.Ok)(hh:A.handled=none){c:Code}{tr:Sem Fin}{It acc:Addr}{target:Expr}{ifs:List Expr}{p:Pos}{body:Sem Fin}{T:Rho→Expr→Option Bool}{inner:Rho→α→Option α}{ok:Gh→Obj→α→Prop}
  (hok:∀ g g' o a,g.le g'→ok g o a→ok g' o a) (hq:c.quiet=true) (hA:A.under c=A) (hden:B.M.den c=tr.onRaise (fun x=>do noteFrame x env;theTreesLotGoes x))
  (hturn:tr=(standAt p >>= fun _=>pyNext (.ref It) >>= fun r=>match r with
   |none=>pure (.done .next)
   |some v=>letOwnedTupleGo target (.ref It) v >>= fun _=>assign target env v >>= fun _=>
    (forIn ifs true fun c r=>if r=true then do let ok ← isTrue c env (eval c env);pure (ForInStep.yield ok) else pure (ForInStep.yield r)) >>= fun ok=>
    (if ok=true then body else again c)))
  (HT:∀ ρ e b s g,Fm B s₀ g₀ own env ρ s g→T ρ e=some b→Aaq B A s g (isTrue e env (eval e env)) fun _ r=>r=b)
  (hbody:∀ ρ₁ a a' s g,CS B s₀ g₀ own env acc ok ρ₁ a s g→inner ρ₁ a=some a' →
   ∀ (Q:Fin→Shared→Prop) (E:Value→Shared→Prop),(∀ s' g',g.le g'→CS B s₀ g₀ own env acc ok ρ₁ a' s' g'→KB1 env own acc s g s' g'→wpAny B.M A (again c) Q E s')→wpAny B.M A body Q E s) {ds:List D} {r:α} :
  ∀ {a:α} {s:Shared} {g:Gh} {R:Result→Shared→Prop},CS B s₀ g₀ own env acc ok ρ a s g→AaN s.heap g It ds→s₀.heap.get? It=none→g It=none→Abi own env.scope T target ifs inner ρ ds a=some r →
  (∀ s' g',g.le g'→CS B s₀ g₀ own env acc ok ρ r s' g'→KB2 env own It acc s g s' g'→R (.ok .next) s')→codeAny B.M A c R s:=by
 induction ds with
 |nil=>
  intro a s g R C it h0 hg hr hR
  cases hr
  refine Alt hA hden fun Q E q1 q2=>?_;rw[hturn];exact wpAny_bind (wpAny_standAt (wpAny_bind (AhL C.F.inv hh it fun h' k=>wpAny_pure (q1 _ _ (hR _ g g.le_refl (C.iter O it h0 hg k rfl rfl) fun x o h1 _ _ e _=>⟨k x o h1 e,id⟩)))))
 |cons d ds ih=>
  intro a s g R C it h0 hg hr hR;refine Aaf (Aak hr) fun a' ha hr=>?_;refine Aaf (Aak ha) fun ρ₁ hb ha=>?_;refine Aaf (Aak ha) fun tk htk ha=>?_;refine Alt hA hden fun Q E q1 q2=>?_;rw[hturn];refine wpAny_bind (wpAny_standAt (wpAny_bind (AeA C.F.inv it fun v h' tk' hv it' k=>?_)));have C1:CS B s₀ g₀ own env acc ok ρ a {s with heap:=h',toks:=tk'} g:=C.iter O it h0 hg k.extBut rfl rfl;refine wpAny_bind (Akt it' (wpAny_bind (Acc O hh C1.F hv (Abs hb).2 fun s2 F2 k2=>wpAny_bind ((Amz HT F2 htk).use fun okv s3 g3 x3 hokv=>?_))));have it2:=it'.oth C1.F k2;have C3:=(C1.oth F2 k2).step hok x3;have it3:AaN s3.heap g3 It ds:=it2.keep x3.le fun o e n=>x3.ext.keep It o e n;have hg3:g3 It=none:=by refine Aaf it2.noTabby fun oi ho _=>?_;exact x3.shutNone ho hg
  have fin:∀ {s4:Shared} {g4:Gh},g3.le g4→CS B s₀ g₀ own env acc ok ρ₁ a' s4 g4→KB1 env own acc s3 g3 s4 g4→codeAny B.M A c R s4:=fun {s4 g4} hle C4 k4=>
   ih (C4.weak hb) (it3.kb C3 hg3 hle k4).1 h0 (it3.kb C3 hg3 hle k4).2 hr fun s5 g5 l5 C5 k5=>hR s5 g5 ((x3.le.trans hle).trans l5) C5 fun x o h1 h2 h3 hx hn=>by
    have e2:=k2 x o h3 ((k.2 x h1).trans hx);have e4:=k4 x o h2 h3 (x3.ext.keep x o e2 hn) hn;have e5:=k5 x o h1 h2 h3 e4.1 hn;exact⟨e5.1,fun hgx=>e5.2 (e4.2 (x3.shutNone e2 hgx))⟩
  subst hokv;clear hturn hR;induction okv using Bool.casesOn with
  |false=>
   rw[if_neg (fun e=>Bool.noConfusion e)];exact wpAny_pure (q2 _ _ hq (fin g3.le_refl (sj ha ▸ C3) fun x o _ _ e _=>⟨e,id⟩))
  |true=>
   rw[if_pos rfl];exact hbody ρ₁ a a' s3 g3 C3 ha _ _ fun s4 g4 l4 C4 k4=>wpAny_pure (q2 _ _ hq (fin l4 C4 k4))
end
inductive Res where
 |next (ρ:Rho)
 |brk (ρ:Rho)
 |cont (ρ:Rho)
 |ret (d:D)
section
variable{B:Bs}{A:Around}{s₀ s s':Shared}{g₀ g g':Gh}{own:List Str}{env:Env}{ρ:Rho}
noncomputable def Adm(env:Env)(own:List Str)(s:Shared)(g:Gh)(s':Shared)(g':Gh):Prop:=
 g.le g'∧∀ x o,¬ Loc env own x→s.heap.get? x=some o→Abv o→s'.heap.get? x=some o∧(g x=none→g' x=none)
theorem Adm.refl:Adm env own s g s g:=⟨g.le_refl,fun _ _ _ e _=>⟨e,id⟩⟩
theorem Adm.trans{s'':Shared}{g'':Gh}(x:Adm env own s g s' g')(y:Adm env own s' g' s'' g''):Adm env own s g s'' g'':=
 ⟨x.1.trans y.1,fun a o n e t=>by
  refine AaG (x.2 a o n e t) fun e1 h1=>?_;refine AaG (y.2 a o n e1 t) fun e2 h2=>?_;exact⟨e2,fun h=>h2 (h1 h)⟩⟩
theorem Aag.lets(x:Aag B s g s' g'):Adm env own s g s' g':=⟨x.le,fun _ _ _ e n=>⟨x.ext.keep _ _ e n,x.shutNone e⟩⟩
theorem Oth.lets(x:Oth env own s.heap s'.heap):Adm env own s g s' g:=⟨g.le_refl,fun a o n e _=>⟨x a o n e,id⟩⟩
noncomputable def As6(B:Bs)(s₀:Shared)(g₀:Gh)(own:List Str)(env:Env)(res:Res)(f:Flow)(s':Shared)(g':Gh):Prop:=match res with
 |.next ρ=>f=.next∧Fm B s₀ g₀ own env ρ s' g'
 |.brk ρ=>f=.brk∧Fm B s₀ g₀ own env ρ s' g'
 |.cont ρ=>f=.cont∧Fm B s₀ g₀ own env ρ s' g'
 |.ret d=>∃ v,f=.ret v∧Aag B s₀ g₀ s' g'∧Den g' v d
noncomputable def Ahg(B:Bs)(A:Around)(s₀:Shared)(g₀:Gh)(own:List Str)(env:Env)(s:Shared)(g:Gh)(t:Sem Flow)(res:Res):Prop:=
 wpAny B.M A t (fun f s'=>∃ g',Adm env own s g s' g'∧As6 B s₀ g₀ own env res f s' g') (fun _ _=>False) s
theorem Ahg.from{t:Sem Flow}{res:Res}(x:Adm env own s g s' g')(h:Ahg B A s₀ g₀ own env s' g' t res) :
  wpAny B.M A t (fun f s''=>∃ g'',Adm env own s g s'' g''∧As6 B s₀ g₀ own env res f s'' g'') (fun _ _=>False) s':=
 wpAny_mono h (fun _ _ ⟨g'',h1,h2⟩=>⟨g'',x.trans h1,h2⟩) fun _ _ h=>h
theorem Ahg.use{t:Sem Flow}{res:Res}{Q:Flow→Shared→Prop}{EE:Value→Shared→Prop}(h:Ahg B A s₀ g₀ own env s g t res)
  (k:∀ f s' g',Adm env own s g s' g'→As6 B s₀ g₀ own env res f s' g'→Q f s'):wpAny B.M A t Q EE s:=
 wpAny_mono h (fun f s' ⟨g',h1,h2⟩=>k f s' g' h1 h2) fun _ _ h=>h.elim
end
structure Tb where
 glob:Str→Option Value
 app:Value→Option (List D→Option D)
 meth:String→Str→Option String
 spec:Scope→Rho→Expr→Option D
 stm:List Str→Scope→Rho→Stmt→Option Res
noncomputable def tyD:D→Option String
 |.int _=>some "int"
 |.str _=>some "str"
 |.list _=>some "list"
 |.tup _=>some "tuple"
 |.dict _ _ _=>some "dict"
 |_=>none
noncomputable def evL(E:Expr→Option D):List Expr→Option (List D)
 |[]=>some []
 |e :: es=>if AbL e=true then (E e).bind fun d=>(evL E es).bind fun ds=>some (d :: ds) else none
noncomputable def Aku:BoolOp→Bool
 |.And=>false
 |.Or=>true
noncomputable def AhW(op:BoolOp)(E:Expr→Option D):List Expr→Option D
 |[]=>none
 |[x]=>E x
 |x :: rest=>(E x).bind fun d=>(Acb d).bind fun b=>if b=Aku op then some d else AhW op E rest
noncomputable def Abc(E:Expr→Option D)(e:Expr):Option Bool:=match E e with
 |some d=>Acb d
 |none=>none
noncomputable def Akv(E:Expr→Option D):Option Expr→Option (Option Int)
 |none=>some none
 |some e=>match E e with
  |some (.int i)=>some (some i)
  |_=>none
noncomputable def AfA(E:Rho→Expr→Option D)(own:List Str)(sc:Scope)(elt:Expr):List Comprehension→Rho→List D→Option (List D)
 |[],ρ,a=>(E ρ elt).bind fun d=>if a.length<1000000 then some (a++[d]) else none
 |g :: rest,ρ,a=>if g.is_async=0∧AcA g.iter=true then (E ρ g.iter).bind fun x=>(Acq x).bind fun items=>Abi own sc (fun ρ e=>Abc (E ρ) e) g.target g.ifs (AfA E own sc elt rest) ρ items a
  else none
noncomputable def AaA(scope sc:Scope):Scope:=
 {scope with names:=scope.names.map fun (n,k)=>if (k == .free && sc.kind == .function && sc.names.lookup n == some .cell) then (n,.cell) else (n,k)}
noncomputable def AbD(scope sc:Scope):Bool:=
 decide (scope.kind=.function) && scope.names.all (fun (n,k)=>match k with
  |.local=>scope.names.lookup n == some .local
  |.free=>scope.names.lookup n == some .free && (sc.names.lookup n == some .cell || sc.names.lookup n == some .free)
  |_=>scope.names.lookup n == some k)
noncomputable def Abt(scope:Scope)(ρ:Rho):Rho:=ρ.filter fun p=>scope.names.lookup p.1 == some .free
noncomputable def one{α:Type}:List α→Option α
 |[x]=>some x
 |_=>none
noncomputable def AC6:Value→Option D
 |.int i _=>some (.int i)
 |v=>some (.val v)
noncomputable def Awn(T:Tb)(sc:Scope)(ρ:Rho)(x:Str):Option D:=if AbB x=true then (match ρ.lookup x with
  |some d=>some d
  |none=>if sc.names.lookup x=some .globalImplicit then (T.glob x).bind AC6 else none) else none
noncomputable def ABZ(E:Expr→Option D)(l:Expr)(ops:List CmpOp)(rs:List Expr):Option D:=
 (one ops).bind fun op=>(one rs).bind fun r=>if AcA r=true then (E l).bind fun a=>(E r).bind fun b=>(Ams op a b).bind fun c=>some (.bool c) else none
noncomputable def Aqi(E:Expr→Option D)(v:Expr):Expr→Option D
 |.Slice l u st _=>(E v).bind fun a=>(Akv E l).bind fun lo=>(Akv E u).bind fun hi=>(Akv E st).bind fun st=>AcC a lo hi st
 |_=>none
noncomputable def AC7(E:Expr→Option D)(v i:Expr):Option D:=if AhJ i=true then (E v).bind fun a=>(E i).bind fun b=>AdA a b else Aqi E v i
noncomputable def Ay6(T:Tb)(E:Expr→Option D)(o:Expr)(name:Str)(apos:Pos)(args:List Expr)(pos:Pos):Option D:=
 if Akn o=true∧(apos.endLine == pos.line)=true∧args.length<29 then (E o).bind fun d=>(tyD d).bind fun ty=>(T.meth ty name).bind fun id=>(T.app (.builtin id)).bind fun F=>(evL E args).bind fun ds=>F (d :: ds) else none
noncomputable def Awo:D→Option Value
 |.val v=>some v
 |_=>none
noncomputable def AB0(T:Tb)(E:Expr→Option D)(f:Expr)(args:List Expr)(pos:Pos):Option D:=match f with
 |.Attribute o name apos=>Ay6 T E o name apos args pos
 |.Name f p=>(E (.Name f p)).bind fun d=>(Awo d).bind fun v=>(T.app v).bind fun F=>(evL E args).bind fun ds=>F ds
 |_=>none
noncomputable def lcE(ih:Scope→Rho→Expr→Option D)(sc:Scope)(ρ:Rho)(elt:Expr)(gs:List Comprehension)(sc':Scope):Option D:=match gs with
 |[]=>none
 |g :: rest=>if (g :: rest).all (fun c=>c.is_async == 0)=true∧AcA g.iter=true∧AbD sc' sc=true then (ih sc ρ g.iter).bind fun x=>(Acq x).bind fun items=>
   (Abi (Aam sc'.names) (AaA sc' sc) (fun ρ e=>Abc (ih (AaA sc' sc) ρ) e) g.target g.ifs (AfA (ih (AaA sc' sc)) (Aam sc'.names) (AaA sc' sc) elt rest) (Abt sc' ρ) items []).bind fun out=>some (.list out)
  else none
noncomputable def ifE(E:Expr→Option D)(a b:Expr):Bool→Option D
 |true=>E a
 |false=>E b
noncomputable def orD(a b:Option D):Option D:=match a with
 |some d=>some d
 |none=>b
theorem Ay7{a b:Option D}{d:D}(h:a=some d):orD a b=some d:=by rw[h];rfl
theorem As7{a b:Option D}{d:D}(h:orD a b=some d):a=some d∨b=some d:=by
 cases a with
 |none=>exact .inr h
 |some x=>exact .inl h
noncomputable def AmB(T:Tb)(ih:Scope→Rho→Expr→Option D)(sc:Scope)(ρ:Rho):Expr→Option D
 |.Constant c _ _=>Aqh c
 |.Name x _=>Awn T sc ρ x
 |.BinOp l op r _=>(ih sc ρ l).bind fun a=>(ih sc ρ r).bind fun b=>Amr op a b
 |.UnaryOp op x _=>(ih sc ρ x).bind fun a=>unD op a
 |.BoolOp op vs _=>AhW op (ih sc ρ) vs
 |.Compare l ops rs _=>ABZ (ih sc ρ) l ops rs
 |.IfExp t a b _=>(Abc (ih sc ρ) t).bind (ifE (ih sc ρ) a b)
 |.Tuple es _ _=>(evL (ih sc ρ) es).bind fun ds=>if ds.length≤1000000 then some (.tup ds) else none
 |.List es _=>(evL (ih sc ρ) es).bind fun ds=>if ds.length≤1000000 then some (.list ds) else none
 |.Subscript v i p=>orD (AC7 (ih sc ρ) v i) (T.spec sc ρ (.Subscript v i p))
 |.Call f args [] pos=>AB0 T (ih sc ρ) f args pos
 |.ListComp elt gs sc' _=>lcE ih sc ρ elt gs sc'
 |_=>none
theorem AeT{α:Type}{l:List α}{x:α}(h:one l=some x):l=[x]:=by
 match l,h with
 |[y],h=>cases h;rfl
 |[],h=>exact Aah h
 |_ :: _ :: _,h=>exact Aah h
theorem Aoe{d:D}{v:Value}(h:Awo d=some v):d=.val v:=by induction d using D.casesOn<;>first|exact Aah h|(cases h;rfl)
noncomputable def Ae4(T:Tb)(ih:Scope→Rho→Expr→Option D)(sc:Scope)(ρ:Rho)(e:Expr):Option D:=match (if AhQ e=true then T.spec sc ρ e else none) with
 |some d=>some d
 |none=>AmB T ih sc ρ e
noncomputable def ev(T:Tb):Nat→Scope→Rho→Expr→Option D
 |0=>fun _ _ _=>none
 |n+1=>Ae4 T (ev T n)
structure Acw(B:Bs)(n:Nat)(T:Tb)(s₀:Shared)(g₀:Gh):Prop where
 glob:∀ x v,T.glob x=some v→B.look x=some v
 app:∀ v F,T.app v=some F→Amx B n s₀ g₀ v F
 spec:∀ A own env ρ e d s g,AOk n A→T.spec env.scope ρ e=some d→Fm B s₀ g₀ own env ρ s g→Aaq B A s g (eval e env) fun g' v=>Den g' v d
 stm:∀ A own env ρ st r s₁ g₁ s g,AOk n A→Aag B s₀ g₀ s g→T.stm own env.scope ρ st=some r→Fm B s₁ g₁ own env ρ s g→Ahg B A s₁ g₁ own env s g (exec st env) r
 meth:∀ ty nm id,T.meth ty nm=some id→PlainAttrs ty∧Slot ty nm id∧typeOf (.builtin id)=pure (.type "method_descriptor")
theorem Acw.step{B:Bs}{n:Nat}{T:Tb}{s₀ s:Shared}{g₀ g:Gh}(K:Acw B n T s₀ g₀)(x:Aag B s₀ g₀ s g):Acw B n T s g:=
 ⟨K.glob,fun v F h=>(K.app v F h).step x,fun A own env ρ e d s' g' hA h F=>K.spec A own env ρ e d s' g' hA h (F.rebase x),fun A own env ρ st r s₁ g₁ s' g' hA x1 h F=>K.stm A own env ρ st r s₁ g₁ s' g' hA (x.trans x1) h F,K.meth⟩
noncomputable def Snd(B:Bs)(A:Around)(s₀:Shared)(g₀:Gh)(own:List Str)(env:Env)(ρ:Rho)(E:Expr→Option D):Prop:=
 ∀ e d s g,E e=some d→Fm B s₀ g₀ own env ρ s g→Aaq B A s g (eval e env) fun g' v=>Den g' v d
noncomputable def Aof(B:Bs)(A:Around)(s₀:Shared)(g₀:Gh)(own:List Str)(env:Env)(ρ:Rho)(E:Expr→Option D):Prop:=
 ∀ e b s g,Abc E e=some b→Fm B s₀ g₀ own env ρ s g→Aaq B A s g (isTrue e env (eval e env)) fun _ r=>r=b
section
variable{B:Bs}{A:Around}{s₀ s s':Shared}{g₀ g g':Gh}{own:List Str}{env:Env}{ρ:Rho}{E:Expr→Option D}
theorem Aqj{v:Value}{d:D}{T:String}(I:Inv B s g)(hd:Den g v d)(h:tyD d=some T):s.TypeIs v T∧∀ a,v=.ref a→∃ ob,s.heap.get? a=some ob∧ob.dict=none:=by
 cases hd<;>(first|exact Aah h|have h:=sj h;subst h)
 ·exact⟨typeIs_int _ _ _,fun a e=>by injection e⟩
 ·exact⟨typeIs_str _ _ _,fun a e=>by injection e⟩
 ·rename_i h1 h2;exact⟨⟨_,I.get h1,rfl⟩,fun a e=>by cases e;exact⟨_,I.get h1,rfl⟩⟩
 ·rename_i h1 h2;exact⟨⟨_,I.get h1,rfl⟩,fun a e=>by cases e;exact⟨_,I.get h1,rfl⟩⟩
 ·rename_i h1 h2 h3;exact⟨⟨_,I.get h1,rfl⟩,fun a e=>by cases e;exact⟨_,I.get h1,rfl⟩⟩
theorem AcZ:∀ {es:List Expr} {ds:List D},evL E es=some ds→∀ e∈es,AbL e=true
 |[],_,_,e,he=>by cases he
 |x :: es,ds,h,e,he=>by
  refine AaG (Abs h) fun hn h1=>?_;refine Aaf (Aak h1) fun d _ h2=>?_;refine Aaf (Aak h2) fun ds' e2 _=>?_;exact(List.mem_cons.mp he).elim (fun q=>q ▸ hn) fun he=>AcZ e2 e he
theorem AbU(H:Snd B A s₀ g₀ own env ρ E):∀ {es:List Expr} {ds:List D} {s:Shared} {g:Gh},evL E es=some ds→Fm B s₀ g₀ own env ρ s g →
  Aaq B A s g (spliced (es.map fun e=>(false,eval e env))) fun g' vs=>Aav g' vs ds
 |[],_,s,g,h,F=>by have h:=sj h;subst h;exact Aaq.pure F.inv .nil
 |e :: es,ds,s,g,h,F=>by
  refine AaG (Abs h) fun _ h1=>?_;refine Aaf (Aak h1) fun d e1 h2=>?_;refine Aaf (Aak h2) fun ds' e2 h3=>?_;have h3:=sj h3;subst h3;refine Calls.spliced_cons ((H e d s g e1 F).use fun v s1 g1 x1 hv=>?_);exact(AbU H e2 (F.step x1)).use fun vs s2 g2 x2 hvs=>⟨g2,x1.trans x2,.cons (hv.mono x2.le) hvs⟩
theorem Ag1:∀ (es:List Expr),evalEach es env=es.map (eval · env)
 |[]=>rfl
 |e :: es=>by show _ :: evalEach es env=_;rw[Ag1 es];rfl
theorem AeC(H:Snd B A s₀ g₀ own env ρ E){op:BoolOp}{pos:Pos}:∀ {es:List Expr} {d:D} {s:Shared} {g:Gh},AhW op E es=some d→Fm B s₀ g₀ own env ρ s g →
  Aaq B A s g (boolOp pos op (es.map (eval · env))) fun g' v=>Den g' v d
 |[],_,s,g,h,F=>Aah h
 |[x],d,s,g,h,F=>H x d s g h F
 |x :: y :: rest,d,s,g,h,F=>by
  refine Aaf (Aak h) fun dx e1 h=>?_
  ·refine Aaf (Aak h) fun b e2 h=>?_
   ·show Aaq B A s g (eval x env >>= fun v=>standAt pos >>= fun _=>holding [v] (truthy v) >>= fun t=>match op,t with
     |.And,false|.Or,true=>pure v
     |_,_=>boolOp pos op ((y :: rest).map (eval · env))) _
    refine Aaq.bind (H x dx s g e1 F) fun v s1 g1 x1 hv=>?_;refine Aaq.bind (P:=fun _ _=>True) (wpAny_standAt ⟨g1,Aag.refl x1.inv,trivial⟩) fun _ s2 g2 x2 _=>?_;refine Aaq.bind (wpAny_holding (Afa x2.inv (hv.mono x2.le) e2)) fun t s3 g3 x3 ht=>?_;subst ht;have F3:=((F.step x1).step x2).step x3;have hv3:=(hv.mono x2.le).mono x3.le
    cases op<;>induction t using Bool.casesOn
    ·rw[if_pos (show false=Aku .And from rfl)] at h;rw[← sj h];exact Aaq.pure x3.inv hv3
    ·rw[if_neg (show ¬ true=Aku .And from Bool.noConfusion)] at h;exact AeC H h F3
    ·rw[if_neg (show ¬ false=Aku .Or from Bool.noConfusion)] at h;exact AeC H h F3
    ·rw[if_pos (show true=Aku .Or from rfl)] at h;rw[← sj h];exact Aaq.pure x3.inv hv3
theorem Ad3(H:Aof B A s₀ g₀ own env ρ E){op:BoolOp}:∀ {es:List Expr} {d:D} {b:Bool} {s:Shared} {g:Gh},AhW op E es=some d→Acb d=some b→Fm B s₀ g₀ own env ρ s g →
  Aaq B A s g (allTrue op es env) fun _ r=>r=b
 |[],_,_,s,g,h,_,F=>Aah h
 |[x],d,b,s,g,h,hb,F=>by
  have h:E x=some d:=h;have hT:Abc E x=some b:=by unfold Abc;rw[h];exact hb
  cases op with
  |And=>
   refine wpAny_allTrue_And_cons ((H x b s g hT F).use fun r s1 g1 x1 e=>?_);subst e;induction r using Bool.casesOn
   ·exact⟨g1,x1,rfl⟩
   ·refine wpAny_allTrue_And_nil ?_;exact⟨g1,x1,rfl⟩
  |Or=>
   refine wpAny_allTrue_Or_cons ((H x b s g hT F).use fun r s1 g1 x1 e=>?_);subst e;induction r using Bool.casesOn
   ·refine wpAny_allTrue_Or_nil ?_;exact⟨g1,x1,rfl⟩
   ·exact⟨g1,x1,rfl⟩
 |x :: y :: rest,d,b,s,g,h,hb,F=>by
  refine Aaf (Aak h) fun dx e1 h=>?_
  ·refine Aaf (Aak h) fun c e2 h=>?_
   ·have hT:Abc E x=some c:=by unfold Abc;rw[e1];exact e2
    cases op with
    |And=>
     refine wpAny_allTrue_And_cons ((H x c s g hT F).use fun r s1 g1 x1 e=>?_);subst e;induction r using Bool.casesOn
     ·rw[if_pos (show false=Aku .And from rfl)] at h;rw[← sj h,e2] at hb;exact⟨g1,x1,sj hb⟩
     ·rw[if_neg (show ¬ true=Aku .And from Bool.noConfusion)] at h;simp only[if_true];exact(Ad3 H h hb (F.step x1)).from x1
    |Or=>
     refine wpAny_allTrue_Or_cons ((H x c s g hT F).use fun r s1 g1 x1 e=>?_);subst e;induction r using Bool.casesOn
     ·rw[if_neg (show ¬ false=Aku .Or from Bool.noConfusion)] at h;simp only[Bool.false_eq_true,if_false];exact(Ad3 H h hb (F.step x1)).from x1
     ·rw[if_pos (show true=Aku .Or from rfl)] at h;rw[← sj h,e2] at hb;exact⟨g1,x1,sj hb⟩
theorem AhX{op:CmpOp}{r:Expr}(h:AcA r=true):behindInMarks op r=false:=by induction r using PySem.Expr.casesOn<;>first|rfl|exact Bool.noConfusion h
theorem Afc{e:Expr}(h:AcA e=true)(x:Value):foldedSetIterable e env x=pure x:=by induction e using PySem.Expr.casesOn<;>first|rfl|exact Bool.noConfusion h
theorem Agm(H:Snd B A s₀ g₀ own env ρ E){oe:Option Expr}{oi:Option Int}(h:Akv E oe=some oi)(F:Fm B s₀ g₀ own env ρ s g):Aaq B A s g (evalPart oe env) fun _ v=>IsPart v oi:=by
 induction oe using Option.casesOn with
 |none=>cases sj h;exact wpAny_evalPart_none ⟨g,Aag.refl F.inv,.none⟩
 |some e=>
  have h:(match E e with|some (.int i)=>some (some i)|_=>none)=some oi:=h;generalize e1:E e=o at h
  cases o with
  |none=>exact Aah h
  |some d=>
   induction d using D.casesOn<;>first
    |(cases sj h;exact wpAny_evalPart_some ((H e _ s g e1 F).use fun v s1 g1 x1 hv=>by induction hv using Den.intE;exact⟨g1,x1,.int _ _⟩))
    |exact Aah h
end
theorem Akw{elt target iter:Expr}{ifs:List Expr}{gens:List Comprehension}{scope:Scope}{pos:Pos}{depth:Nat}{it acc:Value}{env:Env}(hg:gens[depth]?=some ⟨target,iter,ifs,0⟩)(hg':gens[depth+1]?=none) :
  compTurn (.ListComp elt gens scope pos) depth it acc env=(standAt iter.pos >>= fun _=>pyNext it >>= fun r=>match r with
   |none=>pure (.done .next)
   |some v=>letOwnedTupleGo target it v >>= fun _=>assign target env v >>= fun _=>
    (forIn ifs true fun c r=>if r=true then do let ok ← isTrue c env (eval c env);pure (ForInStep.yield ok) else pure (ForInStep.yield r)) >>= fun ok=>
    (if ok=true then (eval elt env >>= fun x=>call (.builtin "list.append") [acc,x] >>= fun _=>pure ()) >>= fun _=>again (.compLoop (.ListComp elt gens scope pos) depth it acc env) else again (.compLoop (.ListComp elt gens scope pos) depth it acc env))):=by
 unfold compTurn;dsimp only;rw[hg];dsimp only;rw[hg']
 rfl
theorem Akx{elt target iter target' iter':Expr}{ifs ifs':List Expr}{gens:List Comprehension}{scope:Scope}{pos:Pos}{depth:Nat}{it acc:Value}{env:Env}(hg:gens[depth]?=some ⟨target,iter,ifs,0⟩)(hg':gens[depth+1]?=some ⟨target',iter',ifs',0⟩) :
  compTurn (.ListComp elt gens scope pos) depth it acc env=(standAt iter.pos >>= fun _=>pyNext it >>= fun r=>match r with
   |none=>pure (.done .next)
   |some v=>letOwnedTupleGo target it v >>= fun _=>assign target env v >>= fun _=>
    (forIn ifs true fun c r=>if r=true then do let ok ← isTrue c env (eval c env);pure (ForInStep.yield ok) else pure (ForInStep.yield r)) >>= fun ok=>
    (if ok=true then (eval iter' env >>= fun x=>standAt iter'.pos >>= fun _=>foldedSetIterable iter' env x >>= fun x=>holding [x] (pyIter x) >>= fun i=>runOwn (.compStart (.ListComp elt gens scope pos) (depth+1) i acc env) env >>= fun _=>again (.compLoop (.ListComp elt gens scope pos) depth it acc env)) else again (.compLoop (.ListComp elt gens scope pos) depth it acc env))):=by
 unfold compTurn;dsimp only;rw[hg];dsimp only;rw[hg']
 rfl
section
variable{B:Bs}{A:Around}{s₀ s s':Shared}{g₀ g g':Gh}{own:List Str}{env:Env}{ρ:Rho}
noncomputable def AeD(g:Gh)(o:Obj)(a:List D):Prop:=∃ vs n,o={cls:=.type "list",data:=.seq vs n}∧Aav g vs.toList a∧a.length≤1000000
theorem Ac9:∀ (g g':Gh) (o:Obj) (a:List D),g.le g'→AeD g o a→AeD g' o a:=fun _ _ _ _ hle ⟨vs,n,e,h,hl⟩=>⟨vs,n,e,h.mono hle,hl⟩
noncomputable abbrev Avx(B:Bs)(A:Around)(e:Expr)(depth:Nat)(it acc:Value)(env:Env):Prop:=A.under (.compStart e depth it acc env)=A∧B.M.den (.compStart e depth it acc env)=(compStart e depth it acc env).onRaise fun x=>do noteFrame x env;standAt theWindowsPlace
theorem AeE{e:Expr}{target iter:Expr}{ifs:List Expr}{depth:Nat}{It:Addr}{acc:Value}{ds:List D}{R:Result→Shared→Prop}
  (hs:Avx B A e depth (.ref It) acc env) (hg:(clausesOf e)[depth]?=some ⟨target,iter,ifs,0⟩) (it:AaN s.heap g It ds) (h:codeAny B.M A (.compLoop e depth (.ref It) acc env) R s) :
  codeAny B.M A (.compStart e depth (.ref It) acc env) R s:=by
 refine codeAny_of_tree ?_;rw[hs.1,hs.2];refine wpAny_notedAt ?_;unfold compStart;rw[hg];simp only[Option.elim,bne_self_eq_false,Bool.false_eq_true,if_false];refine wpAny_bind (wpAny_askSetting (wpAny_ite ?_))
 split
 ·exact wpAny_pure ⟨rfl,h⟩
 ·exact wpAny_bind (wpAny_rule (wpAny_bind (wpAny_standAt (wpAny_bind (AhU it (wpAny_pure ⟨rfl,h⟩))))))
theorem Aqk{E:Expr→Option D}(H:Snd B A s₀ g₀ own env ρ E){acc:Addr}{elt:Expr}{a a':List D}(C:CS B s₀ g₀ own env acc AeD ρ a s g)(hi:((E elt).bind fun d=>if a.length<1000000 then some (a++[d]) else none)=some a')(O:B.Ok){c:Code}{Q:Fin→Shared→Prop}{EE:Value→Shared→Prop}
  (hk:∀ s' g',g.le g'→CS B s₀ g₀ own env acc AeD ρ a' s' g'→KB1 env own acc s g s' g'→wpAny B.M A (again c) Q EE s') :
  wpAny B.M A ((eval elt env >>= fun x=>call (.builtin "list.append") [.ref acc,x] >>= fun _=>pure ()) >>= fun _=>again c) Q EE s:=by
 refine Aaf (Aak hi) fun d hd hi=>?_;refine AaG (Abs hi) fun hlen hi=>?_;refine wpAny_bind (wpAny_bind ((H elt d s g hd C.F).use fun v s1 g1 x1 hv=>?_));have C1:=C.step Ac9 x1;refine Amv C1.obj fun o f1 q1 f3 f4 f5 f6=>?_;refine Adp q1 fun vs n eo hvs hl=>?_;rw[eo] at f1 f4;have hvl:=Array.length_toList.symm.trans hvs.length;refine wpAny_bind (wpAny_list_append_plain ⟨n,f1⟩ (fun h' hp hs=>wpAny_pure (hk _ g1 x1.le ?_ fun x o h1 h2 e hn=>⟨(hs.2 x h1).trans (x1.ext.keep x o e hn),x1.shutNone e⟩)) (by rw[hvl];exact AaL hl));refine Abo hp fun n' hp=>?_;refine⟨C1.F.turnE O C1.new.1 C1.new.2 f1 f4 (fun _ e=>nomatch e) (fun e=>C1.loc (.inl e)) hs.extBut rfl rfl,⟨_,hp,⟨_,_,rfl,?_,?_⟩,Aap rfl,AaU rfl (by decide),(fun _ e=>nomatch e),fun _ e=>nomatch e⟩,C1.new,C1.loc⟩
 ·rw[Array.toList_push,← sj hi];exact hvs.append (.cons hv .nil)
 ·rw[← sj hi,List.length_append];exact hlen
theorem Aql(O:B.Ok)(hh:A.handled=none){elt:Expr}{gens:List Comprehension}{scope:Scope}{pos:Pos}{acc:Addr}{E:Rho→Expr→Option D}(hall:∀ c∈gens,c.is_async=0)
  (H:∀ ρ,Snd B A s₀ g₀ own env ρ (E ρ)) (HT:∀ ρ,Aof B A s₀ g₀ own env ρ (E ρ)) :
  ∀ (rest:List Comprehension) (depth:Nat) (target iter:Expr) (ifs:List Expr),gens.drop depth=⟨target,iter,ifs,0⟩ :: rest→∀ {It:Addr} {ρ:Rho} {ds:List D} {a r:List D} {s:Shared} {g:Gh} {R:Result→Shared→Prop},
  CS B s₀ g₀ own env acc AeD ρ a s g→AaN s.heap g It ds→s₀.heap.get? It=none→g It=none →
  Abi own env.scope (fun ρ e=>Abc (E ρ) e) target ifs (AfA E own env.scope elt rest) ρ ds a=some r→(∀ s' g',g.le g'→CS B s₀ g₀ own env acc AeD ρ r s' g'→KB2 env own It acc s g s' g'→R (.ok .next) s') →
  codeAny B.M A (.compLoop (.ListComp elt gens scope pos) depth (.ref It) (.ref acc) env) R s:=by
 intro rest;induction rest with
 |nil=>
  intro depth target iter ifs hdrop It ρ ds a r s g R C it h0 hg hr hR;have hg0:gens[depth]?=some ⟨target,iter,ifs,0⟩:=by rw[← List.head?_drop,hdrop];rfl
  have hg1:gens[depth+1]?=none:=by rw[← List.head?_drop,← List.drop_drop,hdrop];rfl
  exact AeB O hh Ac9 rfl rfl rfl (Akw hg0 hg1) (fun ρ e b s g F h=>HT ρ e b s g h F) (fun ρ₁ a a' s g C hi Q EE hk=>Aqk (H ρ₁) C hi O hk) C it h0 hg hr hR
 |cons g' rest ih=>
  intro depth target iter ifs hdrop It ρ ds a r s g R C it h0 hg hr hR
  obtain⟨target',iter',ifs',as'⟩:=g'
  have hg0:gens[depth]?=some ⟨target,iter,ifs,0⟩:=by rw[← List.head?_drop,hdrop];rfl
  have hdrop1:gens.drop (depth+1)=⟨target',iter',ifs',as'⟩ :: rest:=by rw[← List.drop_drop,hdrop];rfl
  have has:as'=0:=hall ⟨target',iter',ifs',as'⟩ (List.mem_of_mem_drop (i:=depth+1) (by rw[hdrop1];exact .head _));subst has;have hg1:gens[depth+1]?=some ⟨target',iter',ifs',0⟩:=by rw[← List.head?_drop,hdrop1];rfl
  refine AeB O hh Ac9 rfl rfl rfl (Akx hg0 hg1) (fun ρ e b s g F h=>HT ρ e b s g h F) (fun ρ₁ a a' s g C hi Q EE hk=>?_) C it h0 hg hr hR;refine AaG (Abs (show(if _ then _ else none)=some a' from hi)) fun hns hi=>?_;refine Aaf (Aak hi) fun x hx hi=>?_;refine Aaf (Aak hi) fun items hit hi=>?_;refine wpAny_bind ((H ρ₁ iter' x s g hx C.F).use fun v s1 g1 x1 hv=>?_);have C1:=C.step Ac9 x1;refine wpAny_bind (wpAny_standAt (wpAny_bind (wpAny_of_eq (Afc hns.2 v) (wpAny_bind (wpAny_holding (Ad1 O x1.inv hv hit fun o x2 it2=>?_))))));refine wpAny_bind (wpAny_runOwn (AeE ⟨rfl,rfl⟩ hg1 it2 (ih (depth+1) target' iter' ifs' hdrop1 (C1.step Ac9 x2) it2 (C1.F.st.ext.dead (Aa1 _)) x1.inv.fresh hi fun s3 g3 l3 C3 k3=>hk s3 g3 (x1.le.trans l3) C3 fun y o h1 h2 e hn=>?_)));have e1:=x1.ext.keep y o e hn;have e3:=k3 y o (Nat.ne_of_lt (Heap.lt_size e1)) h1 h2 (x2.ext.keep y o e1 hn) hn;exact⟨e3.1,fun hgy=>e3.2 (x1.shutNone e hgy)⟩
noncomputable def clos(env:Env):List (Str×NameKind)→List (Str×Addr)→List (Str×Addr)
 |[],acc=>acc
 |(n,k) :: r,acc=>if k == .free then clos env r ((n,(env.cells.lookup n).getD 0) :: acc) else clos env r acc
theorem Ad4(f:Str×NameKind→List (Str×Addr)→Sem (ForInStep (List (Str×Addr))))
  (hf:∀ n k cs,f (n,k) cs=if k == .free then (do let a ← cellOf env n;pure (.yield ((n,a) :: cs))) else pure (.yield cs)) :
  ∀ (names:List (Str×NameKind)) (acc:List (Str×Addr)),(∀ n,(n,NameKind.free)∈names→∃ c,env.cells.lookup n=some c)→forIn names acc f=(pure (clos env names acc):Sem _)
 |[],acc,_=>by rw[List.forIn_nil];rfl
 |(n,k) :: r,acc,h=>by
  rw[List.forIn_cons,hf];show _=pure (if (k == NameKind.free)=true then clos env r ((n,(env.cells.lookup n).getD 0) :: acc) else clos env r acc)
  by_cases hk:(k == NameKind.free)=true
  ·have hk':k=.free:=by simpa using hk
   subst hk';refine Abo (h n (.head _)) fun c hc=>?_;rw[if_pos hk,if_pos hk];unfold cellOf;rw[hc];exact Ad4 f hf r _ fun n' hn=>h n' (.tail _ hn)
  ·rw[if_neg hk,if_neg hk];exact Ad4 f hf r acc fun n' hn=>h n' (.tail _ hn)
theorem AfB{scope:Scope}(h:∀ n,(n,NameKind.free)∈scope.names→∃ c,env.cells.lookup n=some c):closureFor scope env=pure (clos env scope.names []):=by
 unfold closureFor;refine Eq.trans (congrArg (fun m=>m >>= fun cs=>pure cs) (Ad4 (env:=env) _ ?_ scope.names [] h)) rfl;intro n k cs
 cases k<;>rfl
theorem Ad5:∀ (names:List (Str×NameKind)) (acc:List (Str×Addr)) {x:Str} {c:Addr},(clos env names acc).lookup x=some c→acc.lookup x=some c∨((x,NameKind.free)∈names∧c=(env.cells.lookup x).getD 0)
 |[],acc,x,c,h=>.inl h
 |(n,k) :: r,acc,x,c,h=>by
  have h:(if (k == NameKind.free)=true then clos env r ((n,(env.cells.lookup n).getD 0) :: acc) else clos env r acc).lookup x=some c:=h
  split at h
  ·rename_i hk;have hk':k=.free:=by simpa using hk
   subst hk'
   rcases Ad5 r _ h with h|h
   ·rw[List.lookup_cons] at h
    cases hx:x == n with
    |true=>rw[hx] at h;cases h;have:=eq_of_beq hx;subst this;exact .inr ⟨.head _,rfl⟩
    |false=>rw[hx] at h;exact .inl h
   ·exact .inr ⟨.tail _ h.1,h.2⟩
  ·rcases Ad5 r _ h with h|h
   ·exact .inl h
   ·exact .inr ⟨.tail _ h.1,h.2⟩
theorem AfC:∀ (names:List (Str×NameKind)) (acc:List (Str×Addr)) {x:Str},((x,NameKind.free)∈names∨(acc.lookup x).isSome=true)→((clos env names acc).lookup x).isSome=true
 |[],acc,x,h=>by rcases h with h|h;cases h;exact h
 |(n,k) :: r,acc,x,h=>by
  show((if (k == NameKind.free)=true then clos env r ((n,(env.cells.lookup n).getD 0) :: acc) else clos env r acc).lookup x).isSome=true
  split
  ·rename_i hk;have hk':k=.free:=by simpa using hk
   subst hk';refine AfC r _ ?_
   rcases h with h|h
   ·rcases List.mem_cons.mp h with e|h
    ·cases e;right;rw[List.lookup_cons];simp
    ·exact .inl h
   ·right;rw[List.lookup_cons];cases x == n<;>first|rfl|exact h
  ·rename_i hk;refine AfC r _ ?_
   rcases h with h|h
   ·rcases List.mem_cons.mp h with e|h
    ·cases e;simp at hk
    ·exact .inl h
   ·exact .inr h
end
section
variable{B:Bs}{A:Around}{s₀ s s':Shared}{g₀ g g':Gh}{own:List Str}{env:Env}{ρ:Rho}
theorem AeF(f:Str→NameKind→NameKind):∀ (names:List (Str×NameKind)) (x:Str),(names.map fun p=>(p.1,f p.1 p.2)).lookup x=(names.lookup x).map (f x)
 |[],x=>rfl
 |(n,k) :: r,x=>by
  rw[List.map_cons,List.lookup_cons,List.lookup_cons]
  cases h:x == n with
  |true=>have:=eq_of_beq h;subst this;rfl
  |false=>exact AeF f r x
theorem Ajn(scope:Scope)(env:Env)(x:Str):(relabel scope env).names.lookup x=(scope.names.lookup x).map fun k=>if (k == .free && env.scope.kind == .function && env.kindOf x == some .cell) then .cell else k:=by
 have:=AeF (fun n k=>if (k == .free && env.scope.kind == .function && env.kindOf n == some .cell) then .cell else k) scope.names x;rw[← this];unfold relabel;dsimp only
 congr 1
 apply List.map_congr_left;intro q1;obtain⟨n,k⟩:=q1;intro _;dsimp only
 split<;>rfl
theorem Abz(scope:Scope)(env:Env):AaA scope env.scope=relabel scope env:=rfl
theorem Ag2{scope sc:Scope}(h:AbD scope sc=true):scope.kind=.function∧(∀ n k,(n,k)∈scope.names→scope.names.lookup n=some k)∧(∀ n,(n,NameKind.free)∈scope.names→sc.names.lookup n=some .cell∨sc.names.lookup n=some .free):=by
 unfold AbD at h;rw[Bool.and_eq_true] at h;refine AaG h fun h1 h2=>?_;refine⟨of_decide_eq_true h1,fun n k hm=>?_,fun n hm=>?_⟩
 ·have:=List.all_eq_true.mp h2 (n,k) hm;induction k using NameKind.casesOn<;>first|exact eq_of_beq this|exact eq_of_beq (Bool.and_eq_true_iff.mp this).1
 ·have:=List.all_eq_true.mp h2 (n,.free) hm;exact(Bool.or_eq_true_iff.mp (Bool.and_eq_true_iff.mp this).2).imp eq_of_beq eq_of_beq
theorem AcN(scope:Scope):∀ (ρ:Rho) {x:Str} {d:D},(Abt scope ρ).lookup x=some d→scope.names.lookup x=some .free∧ρ.lookup x=some d
 |[],x,d,h=>by exact Aah h
 |(n,e) :: r,x,d,h=>by
  unfold Abt at h;rw[List.filter_cons] at h
  split at h
  ·rename_i hn;rw[List.lookup_cons] at h ⊢
   cases hx:x == n with
   |true=>
    rw[hx] at h;cases h;have:=eq_of_beq hx;subst this;exact⟨by simpa using hn,rfl⟩
   |false=>rw[hx] at h;exact AcN scope r h
  ·rename_i hn;have ih:=AcN scope r h;refine⟨ih.1,?_⟩;rw[List.lookup_cons]
   cases hx:x == n with
   |true=>
    have:=eq_of_beq hx;subst this;exact absurd ih.1 (by simpa using hn)
   |false=>exact ih.2
theorem Aqm(O:B.Ok)(F:Fm B s₀ g₀ own env ρ s g){scope:Scope}(hok:AbD scope env.scope=true){Q:Env→Shared→Prop}{E:Value→Shared→Prop}
  (h:∀ cenv s',cenv.scope=relabel scope env→(∀ a o,s.heap.get? a=some o→s'.heap.get? a=some o)→Fm B s g (Aam scope.names) cenv (Abt scope ρ) s' g→∀ c0:Env,{c0 with scope:=relabel scope env}=cenv→c0.locals=cenv.locals→Q c0 s') :
  closureFor scope env=pure (clos env scope.names [])∧wpAny B.M A (newFunctionEnv scope env.globals (clos env scope.names []) [] env.qual none .none (some env)) Q E s:=by
 refine AjX (Ag2 hok) fun hk huniq hfree=>?_;have cells:∀ n,(n,NameKind.free)∈scope.names→∃ c v,env.cells.lookup n=some c∧s.heap.IsCell c v∧∀ d,ρ.lookup n=some d→∃ v',v=some v'∧Den g v' d:=fun n hn=>F.cells n (hfree n hn);have hcl:∀ x c,(clos env scope.names []).lookup x=some c→(x,NameKind.free)∈scope.names∧env.cells.lookup x=some c:=fun x c e=>by
  rcases Ad5 _ _ e with e|⟨e1,e2⟩
  ·exact Aah e
  ·refine Afx (cells x e1) fun c' v e3 _=>?_;rw[e3] at e2;exact⟨e1,by rw[e3];exact congrArg some e2.symm⟩
 have hcl':∀ x,(x,NameKind.free)∈scope.names→∃ c v,(clos env scope.names []).lookup x=some c∧s.heap.IsCell c v∧∀ d,ρ.lookup x=some d→∃ v',v=some v'∧Den g v' d:=fun x hx=>by
  refine Abo (Option.isSome_iff_exists.mp (AfC (env:=env) scope.names [] (.inl hx))) fun c e=>?_;refine AaG (hcl x c e) fun _ e2=>?_;refine Adp (cells x hx) fun c' v e3 e4 e5=>?_;rw[e2] at e3;cases e3;exact⟨c,v,e,e4,e5⟩
 refine⟨AfB fun n hn=>(cells n hn).imp fun c ⟨_,e,_⟩=>e,?_⟩;simp only[newFunctionEnv,Option.isSome_some,if_true];refine wpAny_bind (wpAny_alloc ?_);refine wpAny_bind (wpAny_layCells _ (fun name kind cells=>by cases hkc:kind == NameKind.cell<;>simp) _ _ _ _ ?_);rw[show({s with heap:=s.heap.push {cls:=.type "dict",data:=.dict #[]}}:Shared).heap.objs.size=s.heap.objs.size+1 from Heap.size_push ..];rw[List.forIn_nil];refine wpAny_bind (wpAny_pure (wpAny_pure ?_));refine h {scope:=relabel scope env,locals:=s.heap.objs.size,globals:=env.globals,cells:=cellsFrom (s.heap.objs.size+1) scope.names (clos env scope.names []),qual:=env.qual,func:=none,code:=env.code,frame:=env.frame,builtins:=env.builtins} _ rfl
  (fun a o e=>pushCells_keeps _ _ _ _ (Heap.get?_push_of_some _ e)) ?_ _ rfl rfl
 have kind':∀ x,Env.kindOf {scope:=relabel scope env,locals:=s.heap.objs.size,globals:=env.globals,cells:=cellsFrom (s.heap.objs.size+1) scope.names (clos env scope.names []),qual:=env.qual,func:=none,code:=env.code,frame:=env.frame,builtins:=env.builtins} x
   = (scope.names.lookup x).map fun k=>if (k == .free && env.scope.kind == .function && env.kindOf x == some .cell) then .cell else k:=fun x=>Ajn scope env x
 refine Ant (names:=scope.names) (cl:=clos env scope.names []) O F.inv rfl rfl ?_ F.glob F.blt (fun x hx=>?_) (fun x c e=>?_) (fun x d e=>?_)
 ·exact hk
 ·rw[kind'] at hx
  cases e:scope.names.lookup x with
  |none=>rw[e] at hx;rcases hx with hx|hx<;>(first|exact Aah hx|cases hx)
  |some k=>
   rw[e] at hx
   cases k with
   |cell=>exact .inl (PySem.mem_of_lookup e)
   |free=>refine Adp (hcl' x (PySem.mem_of_lookup e)) fun c v e1 e2 _=>?_;exact .inr ⟨c,v,e1,e2⟩
   |_=>simp at hx
 ·refine AaG (hcl x c e) fun h1 h2=>?_;refine Adp (cells x h1) fun c' v e3 e4 _=>?_;rw[h2] at e3;cases e3;exact e4.lt
 ·refine AaG (AcN scope ρ e) fun h1 h2=>?_;refine Adp (hcl' x (PySem.mem_of_lookup h1)) fun c v e1 e2 e3=>?_;refine Aaf (e3 d h2) fun v' q2 e4=>?_;subst q2;refine⟨fun hm=>?_,?_,c,v',e1,e2,e4⟩
  ·have:=huniq x .cell hm;rw[h1] at this;cases this
  ·rw[kind',h1];simp only[Option.map_some]
   split
   ·exact .inl rfl
   ·exact .inr rfl
noncomputable abbrev AC8(o:Obj):Prop:=Abv o∧¬ AcL o∧(∀ vs,o.data≠.fields vs)∧(∀ v,o.data≠.cell v)
noncomputable def LK(s s':Shared):Prop:=∀ a vs n,s.heap.get? a=some {cls:=.type "list",data:=.seq vs n}→s'.heap.get? a=some {cls:=.type "list",data:=.seq vs n}
structure Cmp{α:Type}(B:Bs)(A:Around)(s₀:Shared)(g₀:Gh)(env:Env)(ρ:Rho)(s:Shared)(g:Gh)(e:Expr)(scope:Scope)(iter:Expr)(new:Sem Value)(ok:Shared→Gh→Obj→α→Prop)(out:α)(P:Shared→Gh→D→Prop)(target:Expr)(ifs:List Expr)(rest:List Comprehension)(o0:Obj)(a0:α)(x:D)(items:List D):Prop where
 hcl:clausesOf e=⟨target,iter,ifs,0⟩ :: rest
 hset:AcA iter=true
 hok:AbD scope env.scope=true
 hnew:∀ (s:Shared) (Q EE:Value→Shared→Prop),Q (.ref s.heap.objs.size) {s with heap:=s.heap.push o0}→wpAny B.M A new Q EE s
 hst:∀ It acc cenv,Avx B A e 0 (.ref It) (.ref acc) cenv
 h0:∀ s g,ok s g o0 a0
 hn:AC8 o0
 hfr:o0.isFreed=false
 hx:Aaq B A s g (eval iter env) fun g' v=>Den g' v x
 hi:Acq x=some items
 hloop:∀ s1 g1 cenv It acc s4,Aag B s₀ g₀ s1 g1→cenv.scope=relabel scope env→CS B s1 g1 (Aam scope.names) cenv acc (ok s1) (Abt scope ρ) a0 s4 g1→AaN s4.heap g1 It items→s1.heap.get? It=none→g1 It=none →
   ∀ R:Result→Shared→Prop,(∀ s5 g5,CS B s1 g1 (Aam scope.names) cenv acc (ok s1) (Abt scope ρ) out s5 g5→R (.ok .next) s5)→codeAny B.M A (.compLoop e 0 (.ref It) (.ref acc) cenv) R s4
 hshut:∀ s1 g1 cenv acc s5 g5,Aag B s g s1 g1→CS B s1 g1 (Aam scope.names) cenv acc (ok s1) (Abt scope ρ) out s5 g5→∃ g6 d,P s5 g6 d∧Aag B s1 g1 s5 g6∧Den g6 (.ref acc) d∧g6 cenv.locals=none
 hP:∀ s s' g d,P s g d→LK s s'→P s' g d
theorem CS.shutG{α:Type}{ok:Gh→Obj→α→Prop}{a:α}{d:D}{own':List Str}{cenv:Env}{acc:Addr}(hd:∀ g a' o,g a'=none→ok g o a→Den (g.put a' o) (.ref a') d)(C:CS B s₀ g₀ own' cenv acc ok ρ a s g):∃ g6 d',d'=d∧Aag B s₀ g₀ s g6∧Den g6 (.ref acc) d'∧g6 cenv.locals=none:=by refine Aew C.obj fun o f1 f2 f3=>?_;exact⟨_,d,rfl,C.F.st.shut C.new.1 f1 C.new.2 f3.1,hd _ _ _ C.new.2 f2,(Gh.put_other fun e=>C.loc (.inl e.symm)).trans C.F.loc.2⟩
section
variable{α:Type}{e target iter:Expr}{ifs:List Expr}{rest:List Comprehension}{scope:Scope}{p:Pos}{new:Sem Value}{o0:Obj}{ok:Shared→Gh→Obj→α→Prop}{a0 out:α}{P:Shared→Gh→D→Prop}{x:D}{items:List D}
theorem AhY(O:B.Ok)(X:Cmp B A s₀ g₀ env ρ s g e scope iter new ok out P target ifs rest o0 a0 x items)(F:Fm B s₀ g₀ own env ρ s g){use:Option (Value→Sem Unit)}{Q EE:Value→Shared→Prop}
  (hfin:∀ s1 g1 cenv acc s5 g5,Aag B s g s1 g1→CS B s1 g1 (Aam scope.names) cenv acc (ok s1) (Abt scope ρ) out s5 g5→compPost B.M A EE use Q (.ref acc) cenv.locals (.ok .next) s5) :
  wpAny B.M A (comprehension e scope env p new false (eval iter env) use) Q EE s:=by
 refine AjX (Ag2 X.hok) fun hk huniq _=>?_;have hclos:closureFor scope env=pure (clos env scope.names []):=(Aqm (Q:=fun _ _=>True) (E:=fun _ _=>True) (A:=A) O F X.hok (fun _ _ _ _ _ _ _ _=>trivial)).1;refine wpAny_comprehension_free X.hcl (Afc X.hset) hclos hk (fun y hy hl=>by
  have:=huniq y.1 y.2 hy;rw[hl] at this;exact this) ?_
 refine X.hx.use fun v s1 g1 x1 hv=>?_;refine Ad1 O x1.inv hv X.hi fun oi x2 it2=>?_;refine X.hnew {s1 with heap:=s1.heap.push oi} _ _ ?_;have x3:=Aag.open (o:=o0) O x2.inv;have F3:=(((F.step x1).step x2).step x3);refine(Aqm O F3 X.hok fun cenv s4 hsc k4 F4 c0 hc0 hcl=>?_).2;rw[hc0,hcl];have accN:s1.heap.get? (s1.heap.push oi).objs.size=none:=x2.ext.dead (Aa1 _);have acc3:((s1.heap.push oi).push o0).get? (s1.heap.push oi).objs.size=some o0:=Heap.get?_push_size _ X.hfr;have notl:¬ Loc cenv (Aam scope.names) (s1.heap.push oi).objs.size:=fun h=>h.elim (fun e=>by
   have:=F4.loc.1;rw[← e] at this;rw[this] at acc3;exact Aah acc3) fun h=>Aaf h fun y hy e=>Alo (F4.own y hy) fun c u e1 _ e3 _=>by
   rw[e] at e1;cases e1;rw[e3] at acc3;exact Aah acc3
 have it4:AaN s4.heap g1 s1.heap.objs.size items:=it2.keep g1.le_refl fun o e _=>k4 _ o (Heap.get?_push_of_some _ e);exact AeE (X.hst _ _ _) (congrArg (fun l=>l[0]?) X.hcl) it4 (X.hloop s1 g1 cenv _ _ s4 (F.st.trans x1) hsc ⟨F4.rebase (x2.trans x3),⟨_,k4 _ _ acc3,X.h0 _ _,X.hn⟩,⟨accN,x2.inv.fresh⟩,notl⟩ it4 (Aa1 _) x1.inv.fresh _ fun s5 g5 C5=>hfin s1 g1 cenv _ s5 g5 x1 C5)
theorem Aj5(O:B.Ok)(he:eval e env=comprehension e scope env p new false (eval iter env) none)(X:Cmp B A s₀ g₀ env ρ s g e scope iter new ok out P target ifs rest o0 a0 x items)
  (F:Fm B s₀ g₀ own env ρ s g):wpAny B.M A (eval e env) (fun v s'=>∃ g',Aag B s g s' g'∧∃ d,P s' g' d∧Den g' v d) (fun _ _=>False) s:=by
 rw[he];refine AhY O X F fun s1 g1 cenv acc s5 g5 x1 C5=>?_;refine Aaf C5.F.vars fun m hm _=>?_;refine⟨m,hm,fun h6 hs6=>?_⟩;refine Amu (Afy hm) fun oL hL _ hnt _=>?_;refine Alo (X.hshut _ _ _ _ _ _ x1 C5) fun g6 d hP x6 hd hl=>?_;exact⟨g6,x1.trans (x6.turn O C5.F.loc.1 hl hL hnt hs6 rfl rfl),d,X.hP _ _ _ _ hP fun a vs n e=>(hs6.2 a fun q=>C5.F.notLoc e (fun _ h=>nomatch h) (fun _ _ h=>nomatch h) (.inl q)).trans e,hd⟩
end
theorem Aog(O:B.Ok)(hh:A.handled=none){elt:Expr}{target iter:Expr}{ifs:List Expr}{rest:List Comprehension}{scope:Scope}{pos:Pos}{E:Rho→Expr→Option D}{items out:List D}
  (H:∀ s₁ g₁ own' cenv ρ',Aag B s₀ g₀ s₁ g₁→cenv.scope=relabel scope env→Snd B A s₁ g₁ own' cenv ρ' (E ρ')) (HT:∀ s₁ g₁ own' cenv ρ',Aag B s₀ g₀ s₁ g₁→cenv.scope=relabel scope env→Aof B A s₁ g₁ own' cenv ρ' (E ρ'))
  (hall:∀ c∈(⟨target,iter,ifs,0⟩ :: rest:List Comprehension),c.is_async=0)
  (hf:Abi (Aam scope.names) (AaA scope env.scope) (fun ρ e=>Abc (E ρ) e) target ifs (AfA E (Aam scope.names) (AaA scope env.scope) elt rest) (Abt scope ρ) items []=some out)
  (s1:Shared) (g1:Gh) (cenv:Env) (It acc:Addr) (s4:Shared) (x:Aag B s₀ g₀ s1 g1) (hsc:cenv.scope=relabel scope env) (C:CS B s1 g1 (Aam scope.names) cenv acc AeD (Abt scope ρ) [] s4 g1) (it:AaN s4.heap g1 It items) (h0:s1.heap.get? It=none) (hg:g1 It=none)
  (R:Result→Shared→Prop) (hR:∀ s5 g5,CS B s1 g1 (Aam scope.names) cenv acc AeD (Abt scope ρ) out s5 g5→R (.ok .next) s5):codeAny B.M A (.compLoop (.ListComp elt (⟨target,iter,ifs,0⟩ :: rest) scope pos) 0 (.ref It) (.ref acc) cenv) R s4:=
 Aql O hh hall (fun ρ'=>H s1 g1 _ cenv ρ' x hsc) (fun ρ'=>HT s1 g1 _ cenv ρ' x hsc) rest 0 target iter ifs rfl C it h0 hg (by rw[hsc,← Abz];exact hf) fun s5 g5 _ C5 _=>hR s5 g5 C5
theorem Awp(g:Gh):AeD g {cls:=.type "list",data:=.seq ([]:List Value).toArray} []:=⟨_,_,rfl,.nil,Nat.zero_le _⟩
theorem Aqn{vs:Array Value}{n:Nat}:AC8 {cls:=.type "list",data:=.seq vs n}:=⟨Aap rfl,AaU rfl (by decide),(fun _ e=>nomatch e),(fun _ e=>nomatch e)⟩
theorem As8(s:Shared)(Q EE:Value→Shared→Prop)(h:Q (.ref s.heap.objs.size) {s with heap:=s.heap.push {cls:=.type "list",data:=.seq ([]:List Value).toArray}}):wpAny B.M A (newList []) Q EE s:=wpAny_newList h (Nat.zero_le _)
theorem Aoh{out:List D}(g:Gh)(a:Addr)(o:Obj)(hg:g a=none)(h:AeD g o out):Den (g.put a o) (.ref a) (.list out):=by refine Adp h fun vs n z hvs _=>?_;subst z;exact .list (Gh.put_self ..) (hvs.mono (Gh.le_put _ hg))
theorem Avy{c:Comprehension}(h:c.is_async=0):c=⟨c.target,c.iter,c.ifs,0⟩:=by obtain⟨t,i,f,a⟩:=c;dsimp only at h;rw[h]
theorem Alu{l:List Comprehension}(h:l.all (fun c=>c.is_async == 0)=true):∀ c∈l,c.is_async=0:=fun c hc=>by simpa using List.all_eq_true.mp h c hc
theorem Anz(O:B.Ok)(hh:A.handled=none){elt:Expr}{target iter:Expr}{ifs:List Expr}{rest:List Comprehension}{scope:Scope}{pos:Pos}{E:Rho→Expr→Option D}{x:D}{items out:List D}
  (H:∀ s₁ g₁ own' cenv ρ',Aag B s₀ g₀ s₁ g₁→cenv.scope=relabel scope env→Snd B A s₁ g₁ own' cenv ρ' (E ρ')) (HT:∀ s₁ g₁ own' cenv ρ',Aag B s₀ g₀ s₁ g₁→cenv.scope=relabel scope env→Aof B A s₁ g₁ own' cenv ρ' (E ρ'))
  (hall:∀ c∈(⟨target,iter,ifs,0⟩ :: rest:List Comprehension),c.is_async=0) (hset:AcA iter=true) (hok:AbD scope env.scope=true)
  (hx:Aaq B A s g (eval iter env) fun g' v=>Den g' v x) (hi:Acq x=some items)
  (hf:Abi (Aam scope.names) (AaA scope env.scope) (fun ρ e=>Abc (E ρ) e) target ifs (AfA E (Aam scope.names) (AaA scope env.scope) elt rest) (Abt scope ρ) items []=some out) :
  Cmp B A s₀ g₀ env ρ s g (.ListComp elt (⟨target,iter,ifs,0⟩ :: rest) scope pos) scope iter (newList []) (fun _=>AeD) out (fun _ _ d=>d=.list out) target ifs rest {cls:=.type "list",data:=.seq ([]:List Value).toArray} [] x items:=
 ⟨rfl,hset,hok,As8,fun _ _ _=>⟨rfl,rfl⟩,fun _=>Awp,Aqn,rfl,hx,hi,Aog O hh H HT hall hf,fun _ _ _ _ _ _ _ C=>C.shutG Aoh,fun _ _ _ _ h _=>h⟩
theorem Aoi(O:B.Ok)(hh:A.handled=none){elt:Expr}{c0:Comprehension}{rest:List Comprehension}{scope:Scope}{pos:Pos}{E:Rho→Expr→Option D}{x:D}{items out:List D}
  (H:∀ s₁ g₁ own' cenv ρ',Aag B s₀ g₀ s₁ g₁→cenv.scope=relabel scope env→Snd B A s₁ g₁ own' cenv ρ' (E ρ')) (HT:∀ s₁ g₁ own' cenv ρ',Aag B s₀ g₀ s₁ g₁→cenv.scope=relabel scope env→Aof B A s₁ g₁ own' cenv ρ' (E ρ'))
  (hall:(c0 :: rest).all (fun c=>c.is_async == 0)=true) (hset:AcA c0.iter=true) (hok:AbD scope env.scope=true)
  (hx:Aaq B A s g (eval c0.iter env) fun g' v=>Den g' v x) (hi:Acq x=some items)
  (hf:Abi (Aam scope.names) (AaA scope env.scope) (fun ρ e=>Abc (E ρ) e) c0.target c0.ifs (AfA E (Aam scope.names) (AaA scope env.scope) elt rest) (Abt scope ρ) items []=some out)
  (F:Fm B s₀ g₀ own env ρ s g):Aaq B A s g (eval (.ListComp elt (c0 :: rest) scope pos) env) fun g' v=>Den g' v (.list out):=by
 have hall':=Alu hall;have e:=Avy (hall' c0 (.head _));generalize c0.target=target,c0.iter=iter,c0.ifs=ifs at e hset hx hf;subst e;exact wpAny_mono (Aj5 O (p:=firstIterPos (⟨target,iter,ifs,0⟩ :: rest) pos) rfl (Anz O hh H HT hall' hset hok hx hi hf) F) (fun v s' h=>Aaf h fun g' x h=>Aaf h fun d e hd=>⟨g',x,e ▸ hd⟩) fun _ _ h=>h
end
theorem AmC{E:Expr→Option D}{e:Expr}{b:Bool}(h:Abc E e=some b):∃ d,E e=some d∧Acb d=some b:=by
 unfold Abc at h
 split at h
 ·rename_i d e1;exact⟨d,e1,h⟩
 ·exact Aah h
theorem AfD{E:Expr→Option D}{e:Expr}{b:Bool}{d:D}(h:E e=some d)(h':Acb d=some b):Abc E e=some b:=by unfold Abc;rw[h];exact h'
section
variable{B:Bs}{A:Around}{s₀ s s':Shared}{g₀ g g':Gh}{own:List Str}{env:Env}{ρ:Rho}{n:Nat}{T:Tb}
theorem AeU{o:Expr}{name:Str}(h:Akn o=true):attributeBase o name env (eval o env)=eval o env:=by
 induction o using Expr.casesOn with
 |Call f a k p=>
  induction f using Expr.casesOn with
  |Name x q=>
   revert h
   induction a using List.casesOn with
   |nil=>
    induction k using List.casesOn with
    |nil=>exact Bool.noConfusion
    |cons=>exact fun _=>rfl
   |cons=>exact fun _=>rfl
  |_=>rfl
 |_=>rfl
theorem Ahh{ie:Expr}{o i:Value}(h:AhJ ie=true):subscripted ie false o i=operate [o,i] (getItem o i):=by induction ie using PySem.Expr.casesOn<;>first|rfl|exact Bool.noConfusion h
section
variable{E:Expr→Option D}(H:Snd B A s₀ g₀ own env ρ E){d:D}
include H
theorem Ay8(O:B.Ok){l r:Expr}{op:Operator}{p:Pos}(h:((E l).bind fun a=>(E r).bind fun b=>Amr op a b)=some d)(F:Fm B s₀ g₀ own env ρ s g):Aaq B A s g (eval (.BinOp l op r p) env) fun g' v=>Den g' v d:=by refine Aaf (Aak h) fun a e1 h=>?_;refine Aaf (Aak h) fun b e2 h=>?_;exact wpAny_BinOp ((H _ a s g e1 F).use fun va s1 g1 x1 ha=>(H _ b s1 g1 e2 (F.step x1)).use fun vb s2 g2 x2 hb=>(Alq O x2.inv (ha.mono x2.le) hb h).from (x1.trans x2))
theorem AB1{x:Expr}{op:UnaryOp}{p:Pos}(h:((E x).bind fun a=>unD op a)=some d)(F:Fm B s₀ g₀ own env ρ s g):Aaq B A s g (eval (.UnaryOp op x p) env) fun g' v=>Den g' v d:=by refine Aaf (Aak h) fun a e1 h=>?_;exact wpAny_UnaryOp ((H _ a s g e1 F).use fun va s1 g1 x1 ha=>(As4 x1.inv ha h).from x1)
theorem Ay9(hA:AOk n A){l:Expr}{ops:List CmpOp}{rs:List Expr}{p:Pos}(h:ABZ E l ops rs=some d)(F:Fm B s₀ g₀ own env ρ s g):Aaq B A s g (eval (.Compare l ops rs p) env) fun g' v=>Den g' v d:=by refine Aaf (Aak h) fun op o1 h=>?_;refine Aaf (Aak h) fun r o2 h=>?_;refine AaG (Abs h) fun hns h=>?_;refine Aaf (Aak h) fun a e1 h=>?_;refine Aaf (Aak h) fun b e2 h=>?_;refine Aaf (Aak h) fun c e3 h=>?_;rw[AeT o1,AeT o2,← sj h];exact wpAny_Compare1 ((H _ a s g e1 F).use fun va s1 g1 x1 ha=>(H _ b s1 g1 e2 (F.step x1)).use fun vb s2 g2 x2 hb=>(Als hA x2.inv (ha.mono x2.le) hb e3).use fun v s3 g3 x3 hv=>⟨g3,(x1.trans x2).trans x3,by rw[hv];exact .bool⟩) (AhX hns)
theorem Avz{es:List Expr}{ds:List D}(O:B.Ok)(e1:evL E es=some ds)(hl:ds.length≤1000000)(F:Fm B s₀ g₀ own env ρ s g){p:Pos}{Q:List Value→Shared→Prop}
  (hq:∀ vs s1 g1,Aag B s g s1 g1→Aav g1 vs.toArray.toList ds→vs.length≤sizeLine→Q vs s1):wpAny B.M A (spliced (backTo p (starEach es env))) Q (fun _ _=>False) s:=by
 rw[Aaw (AcZ e1)];exact(AbU H e1 F).use fun vs s1 g1 x1 hvs=>hq vs s1 g1 x1 hvs (by rw[hvs.length];exact AaL hl)
theorem As9(O:B.Ok){v ie:Expr}{p:Pos}(h:Aqi E v ie=some d)(F:Fm B s₀ g₀ own env ρ s g):Aaq B A s g (eval (.Subscript v ie p) env) fun g' v=>Den g' v d:=by
 induction ie using Expr.casesOn with
 |Slice l u st q=>
  refine Aaf (Aak (show(E v).bind _=some d from h)) fun a e1 h=>?_;refine Aaf (Aak h) fun lo e2 h=>?_;refine Aaf (Aak h) fun hi e3 h=>?_;refine Aaf (Aak h) fun st e4 h=>?_;refine Subscript_ ((H _ a s g e1 F).use fun o s1 g1 x1 ho=>?_);have F1:=F.step x1;refine wpAny_Slice ((Agm H e2 F1).use fun vl s2 g2 x2 pl=>(Agm H e3 (F1.step x2)).use fun vu s3 g3 x3 pu=>(Agm H e4 ((F1.step x2).step x3)).use fun vst s4 g4 x4 ps=>?_);exact wpAny_mono (Amw O x4.inv (((ho.mono x2.le).mono x3.le).mono x4.le) pl pu ps h) (fun v s5 ⟨g5,x5,hd⟩=>⟨g5,(((x1.trans x2).trans x3).trans x4).trans x5,hd⟩) fun _ _ h=>h
 |_=>exact Aah h
theorem Aza(O:B.Ok){v i:Expr}{p:Pos}(h:AC7 E v i=some d)(F:Fm B s₀ g₀ own env ρ s g):Aaq B A s g (eval (.Subscript v i p) env) fun g' v=>Den g' v d:=by
 by_cases hns:AhJ i=true
 ·refine Aaf (Aak ((if_pos hns).symm.trans h)) fun a e1 h=>?_;refine Aaf (Aak h) fun b e2 h=>?_;exact Subscript_ ((H _ a s g e1 F).use fun o s1 g1 x1 ho=>(H _ b s1 g1 e2 (F.step x1)).use fun i s2 g2 x2 hi=>(Aoc x2.inv (ho.mono x2.le) hi h (Ahh hns)).from (x1.trans x2))
 ·exact As9 H O ((if_neg hns).symm.trans h) F
theorem Awq(K:Acw B n T s₀ g₀)(hA:AOk n A){o:Expr}{name:Str}{apos p:Pos}{args:List Expr}(h:Ay6 T E o name apos args p=some d)(F:Fm B s₀ g₀ own env ρ s g):Aaq B A s g (eval (.Call (.Attribute o name apos) args [] p) env) fun g' v=>Den g' v d:=by
 refine AaG (Abs h) fun hc h=>?_;refine Aaf (Aak h) fun dd e1 h=>?_;refine Aaf (Aak h) fun ty e2 h=>?_;refine Aaf (Aak h) fun id e3 h=>?_;refine Aaf (Aak h) fun FF e4 h=>?_;refine Aaf (Aak h) fun ds e5 h=>?_;refine AjX (K.meth _ _ _ e3) fun pa slot hty=>?_;have hb:backTo p (starEach args env)=_:=Aaw (AcZ e5);refine wpAny_Call_method (AeU hc.1) ?_ hc.2.1 pa slot hty ((H _ dd s g e1 F).use fun ov s1 g1 x1 ho=>?_)
 ·rw[hb];exact Bool.and_eq_true_iff.mpr ⟨Bool.and_eq_true_iff.mpr ⟨by rw[List.all_map];exact List.all_eq_true.mpr fun _ _=>rfl,rfl⟩,decide_eq_true (Nat.lt_succ_of_lt hc.2.2)⟩
 ·refine AaG (Aqj x1.inv ho e2) fun t1 t2=>?_;refine⟨t1,t2,?_⟩;rw[hb];exact(Acv (P:=fun g' vs=>Aav g' vs ds) (.inl ⟨_,rfl⟩) (by simp) (AbU H e5 (F.step x1)) fun vs s2 g2 x2 hvs=>(K.app _ _ e4).run A s2 g2 _ _ d hA ((F.st.trans x1).trans x2) (.cons (ho.mono x2.le) hvs) h).from x1
theorem Awr(K:Acw B n T s₀ g₀)(hA:AOk n A){x:Str}{q p:Pos}{args:List Expr}(h:((E (.Name x q)).bind fun d=>(Awo d).bind fun v=>(T.app v).bind fun F=>(evL E args).bind fun ds=>F ds)=some d)(F:Fm B s₀ g₀ own env ρ s g):Aaq B A s g (eval (.Call (.Name x q) args [] p) env) fun g' v=>Den g' v d:=by
 refine Aaf (Aak h) fun dd e1 h1=>?_;refine Aaf (Aak h1) fun v e2 h2=>?_;refine Aaf (Aak h2) fun FF e4 h3=>?_;refine Aaf (Aak h3) fun ds e5 h4=>?_
 obtain rfl:=Aoe e2
 refine wpAny_Call_NameR ((H _ _ s g e1 F).useV fun s1 g1 x1=>?_);rw[Aaw (AcZ e5)];refine(Acv (P:=fun g' vs=>Aav g' vs ds) (((K.app _ _ e4).step (F.st.trans x1)).kp) (by simp) (AbU H e5 (F.step x1)) fun vs s2 g2 x2 hvs=>?_).from x1
 exact(K.app _ _ e4).run A s2 g2 _ _ d hA ((F.st.trans x1).trans x2) hvs h4
end
theorem Aoj{g:Gh}{v:Value}{d:D}(h:AC6 v=some d):Den g v d:=by induction v using Value.casesOn<;>first|exact sj h ▸ .int|exact sj h ▸ .val
theorem Aws(O:B.Ok)(K:Acw B n T s₀ g₀){x:Str}{p:Pos}{d:D}(h:Awn T env.scope ρ x=some d)(F:Fm B s₀ g₀ own env ρ s g):Aaq B A s g (eval (.Name x p) env) fun g' v=>Den g' v d:=by
 refine AaG (Abs h) fun hok h=>?_
 cases e1:ρ.lookup x with
 |some d'=>rw[e1] at h;exact F.name (e1.trans h) hok
 |none=>
  rw[e1] at h;refine AaG (Abs h) fun hk h=>?_;refine Aaf (Aak h) fun v e1 h=>?_;refine(F.gname O hk (K.glob _ _ e1) hok).mono fun g' a e=>?_;subst e;exact Aoj h
theorem Alv(O:B.Ok)(K:Acw B n T s₀ g₀)(hA:AOk n A){ih:Scope→Rho→Expr→Option D}
  (H':∀ s₀ g₀,Acw B n T s₀ g₀→∀ own env ρ,Snd B A s₀ g₀ own env ρ (ih env.scope ρ)) (HT':∀ s₀ g₀,Acw B n T s₀ g₀→∀ own env ρ,Aof B A s₀ g₀ own env ρ (ih env.scope ρ)) :
  Snd B A s₀ g₀ own env ρ (Ae4 T ih env.scope ρ):=by
 intro e d s g h F;have H:=H' s₀ g₀ K own env ρ;unfold Ae4 at h
 cases hs:(if AhQ e=true then T.spec env.scope ρ e else none) with
 |some d'=>
  rw[hs] at h;exact K.spec A own env ρ e d s g hA ((Abs hs).2.trans h) F
 |none=>
 rw[hs] at h;clear hs;induction e using Expr.casesOn with
 |Constant c k p=>exact Afb F.inv h
 |Name x p=>exact Aws O K h F
 |BinOp l op r p=>exact Ay8 H O h F
 |UnaryOp op x p=>exact AB1 H h F
 |BoolOp op vs pos=>
  show wpAny B.M A (boolOp pos op (evalEach vs env)) _ _ s;rw[Ag1];exact AeC H h F
 |Compare l ops rs p=>exact Ay9 H hA h F
 |IfExp t a b p=>
  refine Aaf (Aak h) fun c e1 h=>?_;refine IfExp_ ((HT' s₀ g₀ K own env ρ _ c s g e1 F).use fun r s1 g1 x1 hr=>?_);subst hr;induction r using Bool.casesOn with
  |true=>exact(H _ d s1 g1 h (F.step x1)).from x1
  |false=>exact(H _ d s1 g1 h (F.step x1)).from x1
 |Tuple es k p=>
  refine Aaf (Aak h) fun ds e1 h=>?_;refine AaG (Abs h) fun hl h=>?_;rw[← sj h];refine Tuple_ (Avz H O e1 hl F fun vs s1 g1 x1 hvs hz=>wpAny_newTuple ?_ hz);refine Aaf (AcB O x1.inv (vs:=vs.toArray) hvs) fun g2 x2 hd=>?_;exact⟨g2,x1.trans x2,hd⟩
 |List es p=>
  refine Aaf (Aak h) fun ds e1 h=>?_;refine AaG (Abs h) fun hl h=>?_;rw[← sj h];refine List_ (Avz H O e1 hl F fun vs s1 g1 x1 hvs hz=>wpAny_newList ?_ hz);refine Aaf (Acs O x1.inv (vs:=vs.toArray) hvs) fun g2 x2 hd=>?_;exact⟨g2,x1.trans x2,hd⟩
 |Subscript v i p=>exact(As7 h).elim (fun h=>Aza H O h F) fun h=>K.spec A own env ρ _ d s g hA h F
 |Call f args kws p=>
  induction kws using List.casesOn with
  |cons _ _=>exact Aah h
  |nil=>
  induction f using Expr.casesOn with
  |Attribute o name apos=>exact Awq H K hA h F
  |Name x q=>exact Awr H K hA h F
  |_=>exact Aah h
 |ListComp elt gs sc' p=>
  induction gs using List.casesOn with
  |nil=>exact Aah h
  |cons c0 rest=>
   refine AaG (Abs (show(if _ then _ else none)=some d from h)) fun hc h=>?_;refine Aaf (Aak h) fun x e1 h=>?_;refine Aaf (Aak h) fun items e2 h=>?_;refine Aaf (Aak h) fun out e3 h=>?_;rw[← sj h];exact Aoi O hA.handled (E:=ih (AaA _ env.scope)) (fun s₁ g₁ own' cenv ρ' xx hsc=>by have:=H' s₁ g₁ (K.step xx) own' cenv ρ';rw[hsc,← Abz] at this;exact this)
    (fun s₁ g₁ own' cenv ρ' xx hsc=>by have:=HT' s₁ g₁ (K.step xx) own' cenv ρ';rw[hsc,← Abz] at this;exact this) hc.1 hc.2.1 hc.2.2 (H _ _ _ _ e1 F) e2 e3 F
 |_=>exact Aah h
theorem Azb{o:Option D}{d:D}(h:(o.bind fun a=>unD .Not a)=some d){b:Bool}(hb:Acb d=some b):∃ a c,o=some a∧Acb a=some c∧b=!c:=by refine Aaf (Aak h) fun a e h=>?_;refine Aaf (Aak h) fun c e2 h=>?_;exact⟨a,c,e,e2,by rw[← sj h] at hb;exact(sj hb).symm⟩
section
variable{E:Expr→Option D}{d:D}{b:Bool}
theorem AnA{e:Expr}(H:Snd B A s₀ g₀ own env ρ E)(hd:E e=some d)(hb:Acb d=some b)(F:Fm B s₀ g₀ own env ρ s g)(he:isTrue e env (eval e env)=(do let v ← eval e env;standAt e.pos;holding [v] (truthy v))):Aaq B A s g (isTrue e env (eval e env)) fun _ r=>r=b:=
 wpAny_isTrue_value ((H e d s g hd F).use fun v s1 g1 x1 hv=>(Afa x1.inv hv hb).from x1) he
theorem Azc(H:Snd B A s₀ g₀ own env ρ E)(hA:AOk n A){l:Expr}{ops:List CmpOp}{rs:List Expr}{p:Pos}(h:ABZ E l ops rs=some d)(hb:Acb d=some b)(F:Fm B s₀ g₀ own env ρ s g):Aaq B A s g (isTrue (.Compare l ops rs p) env (eval (.Compare l ops rs p) env)) fun _ r=>r=b:=by refine Aaf (Aak h) fun op o1 h=>?_;refine Aaf (Aak h) fun r o2 h=>?_;refine AaG (Abs h) fun hns h=>?_;refine Aaf (Aak h) fun a e1 h=>?_;refine Aaf (Aak h) fun c e2 h=>?_;refine Aaf (Aak h) fun q e3 h=>?_;rw[AeT o1,AeT o2];rw[← sj h] at hb;rw[← sj hb];refine wpAny_isTrue_Compare1 ((H _ a s g e1 F).use fun va s1 g1 x1 ha=>(H _ c s1 g1 e2 (F.step x1)).use fun vb s2 g2 x2 hb=>(Als hA x2.inv (ha.mono x2.le) hb e3).use fun v s3 g3 x3 hv=>?_) (AhX hns);rw[hv];exact wpAny_truthy_bool ⟨g3,(x1.trans x2).trans x3,rfl⟩
end
theorem Aqo(O:B.Ok)(K:Acw B n T s₀ g₀)(hA:AOk n A){ih:Scope→Rho→Expr→Option D}
  (H':∀ s₀ g₀,Acw B n T s₀ g₀→∀ own env ρ,Snd B A s₀ g₀ own env ρ (ih env.scope ρ)) (HT':∀ s₀ g₀,Acw B n T s₀ g₀→∀ own env ρ,Aof B A s₀ g₀ own env ρ (ih env.scope ρ)) :
  Aof B A s₀ g₀ own env ρ (Ae4 T ih env.scope ρ):=by
 intro e b s g h F;have HT:=HT' s₀ g₀ K own env ρ;refine Aaf (AmC h) fun d hd hb=>?_;clear h;have H:=Alv (own:=own) (env:=env) (ρ:=ρ) O K hA H' HT';induction e using Expr.casesOn with
 |UnaryOp op x pos=>
  induction op using UnaryOp.casesOn with
  |Not=>
   (refine Adp (Azb (show((ih env.scope ρ x).bind fun a=>unD .Not a)=some d from hd) hb) fun a c e1 e2 q1=>?_;subst q1)
   exact wpAny_isTrue_Not ((HT x c s g (AfD e1 e2) F).use fun r s1 g1 x1 hr=>⟨g1,x1,congrArg (!·) hr⟩)
  |_=>exact AnA H hd hb F rfl
 |BoolOp op vs pos=>exact wpAny_isTrue_BoolOp (Ad3 HT hd hb F)
 |IfExp t x y pos=>
  refine Aaf (Aak (show((Abc (ih env.scope ρ) t).bind (ifE (ih env.scope ρ) x y))=some d from hd)) fun c e1 hd=>?_;refine isTrue_IfExp ((HT _ c s g e1 F).use fun r s1 g1 x1 hr=>?_);subst hr;induction r using Bool.casesOn with
  |true=>exact(HT _ b s1 g1 (AfD hd hb) (F.step x1)).from x1
  |false=>exact(HT _ b s1 g1 (AfD hd hb) (F.step x1)).from x1
 |Compare l ops cs pos=>exact Azc (H' s₀ g₀ K own env ρ) hA hd hb F
 |_=>exact AnA H hd hb F rfl
theorem AdH(O:B.Ok)(hA:AOk n A):∀ k,(∀ s₀ g₀,Acw B n T s₀ g₀→∀ own env ρ,Snd B A s₀ g₀ own env ρ (ev T k env.scope ρ))∧(∀ s₀ g₀,Acw B n T s₀ g₀→∀ own env ρ,Aof B A s₀ g₀ own env ρ (ev T k env.scope ρ))
 |0=>⟨fun _ _ _ _ _ _ _ _ _ _ h _=>by simp [ev] at h,fun _ _ _ _ _ _ _ _ _ _ h _=>by simp [ev,Abc] at h⟩
 |k+1=>⟨fun _ _ K _ _ _=>Alv O K hA (AdH O hA k).1 (AdH O hA k).2,fun _ _ K _ _ _=>Aqo O K hA (AdH O hA k).1 (AdH O hA k).2⟩
theorem AaZ(O:B.Ok)(K:Acw B n T s₀ g₀)(hA:AOk n A)(k:Nat):(∀ own env ρ,Snd B A s₀ g₀ own env ρ (ev T k env.scope ρ))∧(∀ own env ρ,Aof B A s₀ g₀ own env ρ (ev T k env.scope ρ)):=
 ⟨(AdH O hA k).1 s₀ g₀ K,(AdH O hA k).2 s₀ g₀ K⟩
end
noncomputable def Awt(k:Rho→Option Res):Res→Option Res
 |.next ρ=>k ρ
 |.cont ρ=>k ρ
 |.brk ρ=>some (.next ρ)
 |.ret d=>some (.ret d)
noncomputable def AmD(own:List Str)(sc:Scope)(target:Expr)(body:Rho→Option Res):List D→Rho→Option Res
 |[],ρ=>some (.next ρ)
 |d :: ds,ρ=>(Ac8 own sc target d ρ).bind fun ρ₁=>(body ρ₁).bind (Awt (AmD own sc target body ds))
noncomputable def whB(r:Option Res)(k:Rho→Option Res)(ρ:Rho):Bool→Option Res
 |false=>some (.next ρ)
 |true=>r.bind (Awt k)
noncomputable def AnB(test:Rho→Option Bool)(body:Rho→Option Res):Nat→Rho→Option Res
 |0,_=>none
 |n+1,ρ=>(test ρ).bind (whB (body ρ) (AnB test body n) ρ)
noncomputable def itE(e:Expr)(i:Nat):Expr:=(ep e).l.getD i e
noncomputable abbrev AB2(sc:Scope)(t v:Expr):Prop:=
 Aqe t=true∧(ep t).l.length=2∧AdE (itE t 0)=true∧AdE (itE t 1)=true∧Aqe v=true∧(ep v).l.length=2∧sc.kind=.function∧sc.names.lookup (Anx (itE t 0))=some .local∧sc.names.lookup (Anx (itE t 1))=some .local ∧
  ((ep (itE t 0)).p.line == (ep (itE t 1)).p.line)=true∧Anx (itE t 0)≠Anx (itE t 1)∧constantsAlone 8 (itE v 0)=false∧foldedForSure 8 (itE v 0)=false∧AbL (itE v 0)=true∧AbL (itE v 1)=true
noncomputable def Awu(sc:Scope)(t v:Expr):Bool:=decide (AB2 sc t v)
noncomputable def emp(l:List Stmt)(r:Option Res):Option Res:=match l with
 |[]=>r
 |_ :: _=>none
noncomputable def AC9(E:Expr→Option D):Option Expr→Option Res
 |some e=>(E e).bind fun d=>some (.ret d)
 |none=>some (.ret .none)
noncomputable def ADa(E:Expr→Option D)(own:List Str)(sc:Scope)(ρ:Rho)(ts:List Expr)(value:Expr):Option Res:=
 (one ts).bind fun t=>(E value).bind fun d=>if (AdE t=true∧(AgW value=false∨ABT value=true))∨(AdE t=false∧AgW value=false∧Awi value=false)∨Awu sc t value=true then (Ac8 own sc t d ρ).bind fun ρ'=>some (.next ρ') else none
noncomputable def ADb(op:Operator)(a b:D):Option D:=match a with
 |.int i=>Aci b fun j=>Amr op (.int i) (.int j)
 |.str i=>Ad0 b fun j=>Amr op (.str i) (.str j)
 |_=>none
noncomputable def ADc(E:Expr→Option D)(own:List Str)(sc:Scope)(ρ:Rho)(t:Expr)(op:Operator)(value:Expr):Option Res:=
 if AdE t=true∧AbB (ep t).x=true∧okT own sc (ep t).x=true then (ρ.lookup (ep t).x).bind fun a=>(E value).bind fun b=>(ADb op a b).bind fun d=>some (.next (((ep t).x,d) :: ρ)) else none
noncomputable def ifR(ih:List Stmt→Option Res)(a b:List Stmt):Bool→Option Res
 |true=>ih a
 |false=>ih b
noncomputable def ADd(E:Rho→Expr→Option D)(own:List Str)(sc:Scope)(ih:Rho→List Stmt→Option Res)(ρ:Rho)(target iter:Expr)(body:List Stmt):Option Res:=
 if AcA iter=true then (E ρ iter).bind fun x=>(Acq x).bind fun items=>AmD own sc target (fun ρ=>ih ρ body) items ρ else none
noncomputable def ADA(r:Option Res)(orelse fin:List Stmt):List ExceptHandler→Option Res
 |[]=>none
 |_ :: _=>emp orelse (emp fin r)
noncomputable def AnC(E:Rho→Expr→Option D)(own:List Str)(sc:Scope)(fuel:Nat)(ih:Rho→List Stmt→Option Res)(ρ:Rho):Stmt→Option Res
 |.Return e _=>AC9 (E ρ) e
 |.Pass _=>some (.next ρ)
 |.Break _=>some (.brk ρ)
 |.Continue _=>some (.cont ρ)
 |.Assign ts value _=>ADa (E ρ) own sc ρ ts value
 |.AugAssign t op value _=>ADc (E ρ) own sc ρ t op value
 |.If test body orelse _=>(Abc (E ρ) test).bind (ifR (ih ρ) body orelse)
 |.While test body orelse _=>emp orelse (AnB (fun ρ=>Abc (E ρ) test) (fun ρ=>ih ρ body) fuel ρ)
 |.For target iter body orelse _=>emp orelse (ADd E own sc ih ρ target iter body)
 |.Try body hs orelse fin _=>ADA (ih ρ body) orelse fin hs
 |_=>none
theorem AfE{l:List Stmt}{x:Option Res}{r:Res}(h:emp l x=some r):l=[]∧x=some r:=by
 induction l using List.casesOn with
 |nil=>exact⟨rfl,h⟩
 |cons _ _=>exact Aah h
noncomputable def orR(a:Option Res)(b:Option Res):Option Res:=match a with
 |some r=>some r
 |none=>b
noncomputable def ADe(k:Rho→Option Res):Res→Option Res
 |.next ρ=>k ρ
 |r=>some r
noncomputable def ex(X:Rho→Stmt→Option Res)(E:Rho→Expr→Option D)(own:List Str)(sc:Scope):Nat→Rho→List Stmt→Option Res
 |0,_,_=>none
 |_+1,ρ,[]=>some (.next ρ)
 |n+1,ρ,st :: rest=>(orR (X ρ st) (AnC E own sc n (ex X E own sc n) ρ st)).bind (ADe fun ρ'=>ex X E own sc n ρ' rest)
section
variable{B:Bs}{A:Around}{s₀ s s':Shared}{g₀ g g':Gh}{own:List Str}{env:Env}{ρ:Rho}
theorem AeG{value t:Expr}{line:Nat}(h:AgW value=false):swapsWith value (some t) line env=pure false:=by
 revert h;induction value using Expr.casesOn<;>first|exact fun _=>rfl|exact Bool.noConfusion
theorem Ahi{t value:Expr}(h:Awi value=false):swappedStores [t] value env=pure none:=by
 induction t using Expr.casesOn with
 |Tuple l k p=>revert h;induction value using Expr.casesOn<;>first|exact fun _=>rfl|exact Bool.noConfusion
 |List l p=>revert h;induction value using Expr.casesOn<;>first|exact fun _=>rfl|exact Bool.noConfusion
 |_=>rfl
theorem AbM{x:Str}{p:Pos}{value:Expr}:swappedStores [.Name x p] value env=pure none:=rfl
end
section
variable{B:Bs}{A:Around}{s₀ s s':Shared}{g₀ g g':Gh}{own:List Str}{env:Env}{ρ:Rho}{n:Nat}{T:Tb}
theorem Aky{sc:Scope}{t:Expr}{d:D}{ρ':Rho}(h:Ac8 own sc t d ρ=some ρ'):assignEach [t] env=[(false,assign t env)]:=by
 replace h:=AhV h
 induction h using BT.casesOn<;>rfl
theorem Ag3(O:B.Ok)(hh:A.handled=none){t value:Expr}{pos:Pos}{d:D}{ρ':Rho}{E:Expr→Option D}(H:Snd B A s₀ g₀ own env ρ E)(hv:E value=some d)(hb:Ac8 own env.scope t d ρ=some ρ')
  (h1:AgW value=false) (h2:swappedStores [t] value env=pure none) (F:Fm B s₀ g₀ own env ρ s g):Ahg B A s₀ g₀ own env s g (exec (.Assign [t] value pos) env) (.next ρ'):=by
 refine wpAny_Assign_stores ?_ (AeG h1) h2;refine(H value d s g hv F).use fun v s1 g1 x1 hd=>?_;rw[Aky hb];show wpAny _ _ (assign t env v) _ _ _;exact Acc O hh (F.step x1) hd hb fun s2 F2 k2=>⟨g1,Adm.trans x1.lets (Oth.lets k2),rfl,F2⟩
theorem fm2{f:Expr→Option Str}{x y:Expr}{a b:Str}(h1:f x=some a)(h2:f y=some b):[x,y].filterMap f=[a,b]:=by rw[List.filterMap_cons,h1];dsimp only;rw[List.filterMap_cons,h2];rfl
theorem ADB{f:Expr→Bool}{x y:Expr}(h1:f x=false)(h2:f y=false):¬ [x,y].any f=true:=by rw[List.any_cons,List.any_cons,h1,h2];exact Bool.noConfusion
theorem ADf{f:Expr→Bool}{x y:Expr}(h1:f x=false):¬ [x,y].all f=true:=by rw[List.all_cons,h1];exact Bool.noConfusion
theorem AB3{a b:Str}(h:a≠b):[a,b].eraseDups.length=2:=by
 have hne:(b == a)=false:=beq_eq_false_iff_ne.mpr (Ne.symm h);rw[List.eraseDups_cons];rw[List.filter_cons_of_pos (by rw[hne];rfl)]
 rfl
theorem AmE{a b:Str}{pa pb:Pos}{k1 k2:Nat}{p1 p2:Pos}{x y:Expr}(hk:env.scope.kind=.function)(ha:env.scope.names.lookup a=some .local)(hb:env.scope.names.lookup b=some .local)(hl:(pa.line == pb.line)=true)(hab:a≠b)
  (h1:constantsAlone 8 x=false) (h2:foldedForSure 8 x=false) (h3:AbL x=true) (h4:AbL y=true) :
  swappedStores [.Tuple [.Name a pa,.Name b pb] k1 p1] (.Tuple [x,y] k2 p2) env=pure (some [a,b]):=by
 have hb':env.blockKind=.function:=by unfold Env.blockKind;rw[hk];rfl
 refine Eq.trans (if_neg ?_) (Eq.trans (if_neg (ADB ?_ ?_)) (Eq.trans (if_neg ?_) (Eq.trans (if_neg (ADf h2)) (Eq.trans (if_neg (ADf h1)) ?_))))
 ·rw[hb'];exact Bool.noConfusion
 ·revert h3;induction x using Expr.casesOn<;>first|exact fun _=>rfl|exact Bool.noConfusion
 ·revert h4;induction y using Expr.casesOn<;>first|exact fun _=>rfl|exact Bool.noConfusion
 all_goals (rw[fm2 (a:=a) (b:=b) ?_ ?_])
 ·rw[AB3 hab];exact Bool.noConfusion
 all_goals (dsimp only;exact if_pos (by unfold Env.kindOf;first|(rw[ha];exact beq_self_eq_true _)|(rw[hb];show(pb.line == pa.line)=true;rw[eq_of_beq hl];exact beq_self_eq_true _)))
theorem Aav.two{g:Gh}{vs:List Value}{ds:List D}(h:Aav g vs ds)(hl:ds.length=2):∃ v1 v2 d1 d2,vs=[v1,v2]∧ds=[d1,d2]∧Den g v1 d1∧Den g v2 d2:=by
 have e:=As1 (d:=D.none) hl;rw[e] at h;induction h using Aav.consE with|cons q1 h=>?_
 induction h using Aav.consE with|cons q2 h=>?_
 induction h using Aav.nilE;exact⟨_,_,_,_,rfl,e,q1,q2⟩
theorem BN.length{sc:Scope}{es:List Expr}{ds:List D}{ρ ρ':Rho}(h:BN own sc es ds ρ ρ'):ds.length=es.length:=by
 induction h with
 |nil=>rfl
 |cons _ _ ih=>exact congrArg (·+1) ih
theorem Ata{sc:Scope}{a b:Str}{pa pb p:Pos}{k:Nat}{d:D}{ρ':Rho}(h:Ac8 own sc (.Tuple [.Name a pa,.Name b pb] k p) d ρ=some ρ'):∃ ds,d=.tup ds∧ds.length=2∧∀ d1 d2,ds=[d1,d2]→ρ'=(b,d2) :: (a,d1) :: ρ:=by refine Aaf (Aak (show(Awm d).bind _=some ρ' from h)) fun ds e h=>?_;refine⟨ds,Akr e,(Agl h).length,fun d1 d2 e=>?_⟩;subst e;refine AaG (Abs h) fun _ h=>?_;refine AaG (Abs h) fun _ h=>?_;exact(sj h).symm
theorem AB4{a b:Str}{d1 d2:D}(hab:a≠b)(z:Str)(dz:D)(hz:((b,d2) :: (a,d1) :: ρ).lookup z=some dz):((a,d1) :: (b,d2) :: ρ).lookup z=some dz:=by
 rw[Aab,Aab] at hz ⊢
 by_cases za:z=a
 ·subst za;rw[if_neg hab,if_pos rfl] at hz;rw[if_pos rfl];exact hz
 ·rw[if_neg za] at hz ⊢;exact hz
theorem AmF(O:B.Ok)(hh:A.handled=none){t value:Expr}{pos:Pos}{d:D}{ρ':Rho}{E:Expr→Option D}(H:Snd B A s₀ g₀ own env ρ E)(hv:E value=some d)(hb:Ac8 own env.scope t d ρ=some ρ')
  (h2:Awu env.scope t value=true) (F:Fm B s₀ g₀ own env ρ s g):Ahg B A s₀ g₀ own env s g (exec (.Assign [t] value pos) env) (.next ρ'):=by
 refine ABN (of_decide_eq_true h2) fun c1 c2 c3 c4 c5 c6 hk ha hbb hl hab h1 h3 h4 h5=>?_;have et:t=.Tuple [.Name (Anx (itE t 0)) (ep (itE t 0)).p,.Name (Anx (itE t 1)) (ep (itE t 1)).p] (ep t).n (ep t).p:=(Awj c1).trans (congrArg (fun l=>Expr.Tuple l (ep t).n (ep t).p) ((As1 (d:=t) c2).trans (AhR (AgX c3) (AgX c4))));have ev:value=.Tuple [itE value 0,itE value 1] (ep value).n (ep value).p:=(Awj c5).trans (congrArg (fun l=>Expr.Tuple l (ep value).n (ep value).p) (As1 (d:=value) c6));clear h2;generalize itE value 0=x,itE value 1=y,(ep value).n=k2,(ep value).p=p2 at ev h1 h3 h4 h5;generalize Anx (itE t 0)=a,Anx (itE t 1)=b,(ep (itE t 0)).p=pa,(ep (itE t 1)).p=pb,(ep t).n=k1,(ep t).p=p1 at et ha hbb hl hab;clear c1 c2 c3 c4 c5 c6;subst et;refine Aew (Ata hb) fun ds ed hl2 eρ=>?_;subst ed;refine wpAny_bind (wpAny_standAt ?_);rw[show swapsWithSole [Expr.Tuple [.Name a pa,.Name b pb] k1 p1] value pos.line env=pure false by rw[ev];rfl];refine wpAny_bind (wpAny_pure ?_);rw[if_neg (fun e=>Bool.noConfusion e)];refine wpAny_bind ((H _ _ s g hv F).use fun v s1 g1 x1 hd=>?_);rw[ev,AmE hk ha hbb hl hab h1 h3 h4 h5];refine wpAny_bind (wpAny_pure ?_);induction hd using Den.tupE with|tup e1 e2=>?_
 refine Avv (e2.two hl2) fun v1 v2 d1 d2 ev1 eds q1 q2=>?_;rename_i ad vs nn;show wpAny _ _ (rule "assign.swapped-stores" >>= fun _=>unpackItems (.ref ad) 2 none >>= fun items=>assignInOrder ([b,a].map fun n=>bindName env n) items.reverse >>= fun _=>pure Flow.next) _ _ _;have hsz:vs.size=2:=by rw[← Array.length_toList,ev1];rfl
 refine wpAny_bind (wpAny_rule (wpAny_bind ?_));rw[← hsz];refine wpAny_unpackItems_tuple hh ⟨_,x1.inv.get e1,rfl,_,rfl⟩ fun h' hx=>?_;rw[ev1];have keep:∀ c o,s1.heap.get? c=some o→h'.get? c=some o:=fun c o e=>hx c o (Nat.ne_of_lt (Heap.lt_size e)) e;have x2:Aag B s1 g1 {s1 with heap:=h'} g1:=⟨g1.le_refl,x1.inv.keeps O keep rfl rfl,.of keep,fun _ _ e=>.inl e⟩;refine wpAny_bind (wpAny_bind (wpAny_holding (wpAny_bindName (((F.step x1).step x2).store O (.inl hbb) q2 fun s3 F3 k3=>?_))));refine wpAny_bind (wpAny_holding (wpAny_bindName (F3.store O (.inl ha) q1 fun s4 F4 k4=>wpAny_pure (wpAny_pure ⟨g1,Adm.trans (Adm.trans x1.lets x2.lets) (Adm.trans (Oth.lets k3) (Oth.lets k4)),rfl,?_⟩))));rw[eρ d1 d2 eds];exact F4.weaken (AB4 hab)
end
section
variable{B:Bs}{A:Around}{s₀ s s':Shared}{g₀ g g':Gh}{own:List Str}{env:Env}{ρ:Rho}{n:Nat}{T:Tb}
theorem Fm.locLive(F:Fm B s₀ g₀ own env ρ s g){a:Addr}(h:Loc env own a):∃ o,s.heap.get? a=some o:=by
 rcases h with rfl|⟨x,hx,e⟩
 ·refine Aaf F.vars fun m hm _=>?_;refine Aaf (Afy hm) fun o ho _=>?_;exact⟨o,ho⟩
 ·refine Adp (F.own x hx) fun c v e1 q1 _=>?_;refine Aaf q1 fun o ho _=>?_;rw[e] at e1;cases e1;exact⟨o,ho⟩
section
variable{α:Type}{e target iter:Expr}{ifs:List Expr}{rest:List Comprehension}{scope:Scope}{pe:Pos}{new:Sem Value}{o0:Obj}{ok:Shared→Gh→Obj→α→Prop}{a0 out:α}{P:Shared→Gh→D→Prop}{xx:D}{items:List D}
theorem Alw(O:B.Ok)(hh:A.handled=none){p pos:Pos}{x:Str}(hsw:∃ b,swapsWithSole [.Name x p] e pos.line env=pure b)(he:eval e env=comprehension e scope env pe new false (eval iter env) none)
  (hu:∀ u,evalThenUse e env u=(comprehension e scope env pe new false (eval iter env) (some u) >>= fun _=>pure ())) (X:Cmp B A s₀ g₀ env ρ s g e scope iter new ok out P target ifs rest o0 a0 xx items)
  (hb:okT own env.scope x=true) (F:Fm B s₀ g₀ own env ρ s g) :
  wpAny B.M A (exec (.Assign [.Name x p] e pos) env) (fun f s'=>∃ g' d,P s' g' d∧Adm env own s g s' g'∧f=.next∧Fm B s₀ g₀ own env ((x,d) :: ρ) s' g') (fun _ _=>False) s:=by
 rw[exec_Assign_arm];refine wpAny_bind (wpAny_standAt ?_);refine Abo hsw fun b hsw=>?_;rw[hsw];refine wpAny_bind (wpAny_pure ?_);induction b using Bool.casesOn with
 |false=>
  rw[if_neg (by decide)];refine wpAny_bind (wpAny_mono (Aj5 O he X F) (fun v s1 h=>?_) fun _ _ h=>h.elim);refine Aaf h fun g1 x1 h=>?_;refine Aaf h fun d hP hd=>?_;rw[AbM];refine wpAny_bind (wpAny_pure ?_);show wpAny _ _ (assign (.Name x p) env v >>= fun _=>pure Flow.next) _ _ _;exact wpAny_bind (Acc O hh (F.step x1) hd (if_pos hb) fun s2 F2 k2=>wpAny_pure ⟨g1,d,X.hP _ _ _ _ hP fun a vs n e=>k2 a _ ((F.step x1).notLoc e (fun _ h=>nomatch h) fun _ _ h=>nomatch h) e,Adm.trans x1.lets (Oth.lets k2),rfl,F2⟩)
 |true=>
  rw[if_pos rfl,hu];refine wpAny_bind (wpAny_bind ?_);refine AhY O X F fun s1 g1 cenv acc s5 g5 x1 C5=>?_;refine Alo (X.hshut _ _ _ _ _ _ x1 C5) fun g6 d hP x7 hd gC=>?_;show wpAny _ _ (assign (.Name x p) env (.ref acc)) _ _ _;refine Acc O hh (F.step (x1.trans x7)) hd (if_pos hb) fun s6 F6 k6=>?_;refine Aaf C5.F.vars fun m hm _=>?_;have cdead:s1.heap.get? cenv.locals=none:=C5.F.loc.1;have cl:¬ Loc env own cenv.locals:=fun h=>by
   refine Abo ((F.step x1).locLive h) fun o' ho'=>?_;rw[cdead] at ho';exact Aah ho'
  refine AgZ hm fun oL hL _ hnt es ne hdat=>?_;have hm6:s6.heap.Ns cenv.locals m:=by refine Avt hm fun o' es' ep' ho' r'=>?_;exact⟨o',es',ep',k6 _ _ cl ho',r'⟩
  refine⟨m,hm6,fun h' hs'=>wpAny_pure (wpAny_pure ?_)⟩;refine⟨g6,d,X.hP _ _ _ _ hP fun a vs n e=>(hs'.2 a fun q=>C5.F.notLoc e (fun _ h=>nomatch h) (fun _ _ h=>nomatch h) (.inl q)).trans (k6 a _ ((F.step (x1.trans x7)).notLoc e (fun _ h=>nomatch h) fun _ _ h=>nomatch h) e),⟨(x1.trans x7).le,fun a oa hl e hn=>?_⟩,rfl,F6.turnE O ((F.st.trans x1).ext.dead cdead) gC (k6 _ _ cl hL) hnt (by intro v e;rw[hdat] at e;injection e) (fun e=>cl (.inl e)) hs'.extBut rfl rfl⟩;have e1':=x1.ext.keep a oa e hn;have ne':a≠cenv.locals:=by intro q2;subst q2;rw[cdead] at e1';exact Aah e1'
  exact⟨(hs'.2 a ne').trans (k6 a oa hl (x7.ext.keep a oa e1' hn)),fun hg=>x7.shutNone e1' (x1.shutNone e hg)⟩
end
theorem Ag4(O:B.Ok)(hh:A.handled=none){elt:Expr}{c0:Comprehension}{rest:List Comprehension}{scope:Scope}{vp p pos:Pos}{x:Str}{E:Rho→Expr→Option D}{xx:D}{items out:List D}{ρ':Rho}
  (H:∀ s₁ g₁ own' cenv ρ',Aag B s₀ g₀ s₁ g₁→cenv.scope=relabel scope env→Snd B A s₁ g₁ own' cenv ρ' (E ρ')) (HT:∀ s₁ g₁ own' cenv ρ',Aag B s₀ g₀ s₁ g₁→cenv.scope=relabel scope env→Aof B A s₁ g₁ own' cenv ρ' (E ρ'))
  (hall:(c0 :: rest).all (fun c=>c.is_async == 0)=true) (hset:AcA c0.iter=true) (hok:AbD scope env.scope=true)
  (hx:Aaq B A s g (eval c0.iter env) fun g' v=>Den g' v xx) (hi:Acq xx=some items)
  (hf:Abi (Aam scope.names) (AaA scope env.scope) (fun ρ e=>Abc (E ρ) e) c0.target c0.ifs (AfA E (Aam scope.names) (AaA scope env.scope) elt rest) (Abt scope ρ) items []=some out)
  (hb:Ac8 own env.scope (.Name x p) (.list out) ρ=some ρ') (F:Fm B s₀ g₀ own env ρ s g) :
  Ahg B A s₀ g₀ own env s g (exec (.Assign [.Name x p] (.ListComp elt (c0 :: rest) scope vp) pos) env) (.next ρ'):=by
 have hall':=Alu hall;have e:=Avy (hall' c0 (.head _));generalize c0.target=target,c0.iter=iter,c0.ifs=ifs at e hset hx hf;subst e;refine AaG (Abs hb) fun _ hb0=>?_;refine AaG (Abs hb0) fun hb1 hb2=>?_;rw[← sj hb2];exact wpAny_mono (Alw O hh (pe:=firstIterPos (⟨target,iter,ifs,0⟩ :: rest) vp) ⟨_,rfl⟩ rfl (fun _=>rfl) (Anz O hh H HT hall' hset hok hx hi hf) hb1 F) (fun f s' h=>Alo h fun g' d e L hf F'=>⟨g',L,hf,e ▸ F'⟩) fun _ _ h=>h
theorem AmG(O:B.Ok)(K:Acw B n T s₀ g₀)(hA:AOk n A){elt:Expr}{gens:List Comprehension}{scope:Scope}{vp p pos:Pos}{x:Str}{k:Nat}{d:D}{ρ':Rho}
  (hv:ev T k env.scope ρ (.ListComp elt gens scope vp)=some d) (hb:Ac8 own env.scope (.Name x p) d ρ=some ρ') (F:Fm B s₀ g₀ own env ρ s g) :
  Ahg B A s₀ g₀ own env s g (exec (.Assign [.Name x p] (.ListComp elt gens scope vp) pos) env) (.next ρ'):=by
 induction k using Nat.casesAuxOn with
 |zero=>exact Aah hv
 |succ k=>
  induction gens using List.casesOn with
  |nil=>exact Aah hv
  |cons c0 rest=>
   refine AaG (Abs (show(if _ then _ else none)=some _ from hv)) fun hc hv=>?_;refine Aaf (Aak hv) fun xx e1 hv=>?_;refine Aaf (Aak hv) fun items e2 hv=>?_;refine Aaf (Aak hv) fun out e3 hv=>?_
   cases hv
   exact Ag4 O hA.handled (E:=fun ρ e=>ev T k (AaA scope env.scope) ρ e) (fun s₁ g₁ own' cenv ρ' xx hsc=>by have:=(AaZ O (K.step xx) hA k).1 own' cenv ρ';rw[hsc,← Abz] at this;exact this)
    (fun s₁ g₁ own' cenv ρ' xx hsc=>by have:=(AaZ O (K.step xx) hA k).2 own' cenv ρ';rw[hsc,← Abz] at this;exact this) hc.1 hc.2.1 hc.2.2 ((AaZ O K hA k).1 own env ρ _ _ _ _ e1 F) e2 e3 hb F
theorem Aqp{c:Code}{P:Result→Shared→Prop}(h:∀ Q:Result→Shared→Prop,(∀ r s',P r s'→Q r s')→codeAny B.M A c Q s):codeAny B.M A c P s:=h P fun _ _ h=>h
theorem Ahj{α:Type}{t:Sem α}{P:α→Shared→Prop}{E:Value→Shared→Prop}(h:∀ (Q:α→Shared→Prop) (E':Value→Shared→Prop),(∀ r s',P r s'→Q r s')→wpAny B.M A t Q E' s):wpAny B.M A t P E s:=h P E fun _ _ h=>h
theorem AnD{target:Expr}{it:Value}{body:List Stmt}{R:Result→Shared→Prop}(J:List D→Shared→Prop)
  (turn:∀ items s,J items s→∀ (Q:Option Value→Shared→Prop) (E:Value→Shared→Prop),(items=[]→∀ s',R (.ok .next) s'→Q none s') →
   (∀ d ds,items=d :: ds→∀ v s1,(∀ (X:Shared→Prop) (K:Flow→Shared→Prop) (E:Value→Shared→Prop),(∀ s,J ds s→K .next s∧K .cont s)→(∀ s,R (.ok .next) s→K .brk s)→(∀ v s,R (.ok (.ret v)) s→K (.ret v) s)→(∀ s2,wpAny B.M A (execs body env) K E s2→X s2) →
    wpAny B.M A (letOwnedTupleGo target it v) (fun _ s1'=>wpAny B.M A (assign target env v) (fun _ s2=>X s2) E s1') E s1)→Q (some v) s1)→wpAny B.M A (pyNext it) Q E s)
  {items:List D} {s:Shared} (h:J items s):codeAny B.M A (.forLoop target it body [] env) R s:=by
 refine codeAny_forLoop_any (fun m s=>∃ items:List D,m=items.length+1∧J items s) ?_ _ ⟨items,rfl,h⟩;intro m s q3;refine Aaf q3 fun items z1 h=>?_;subst z1;refine turn items s h _ _ (fun _ s' hr=>wpAny_execs_nil hr) fun d ds e v s1 hg=>hg _ (fun f s3=>match f with
  |.next|.cont=>∃ m,m<items.length+1∧∃ items:List D,m=items.length+1∧J items s3
  |.brk=>R (.ok .next) s3
  |.ret v=>R (.ok (.ret v)) s3) _ (fun s hj=>?_) (fun _ h=>h) (fun _ _ h=>h) fun _ h=>h
 subst e;exact⟨⟨_,Nat.lt_succ_self _,ds,rfl,hj⟩,⟨_,Nat.lt_succ_self _,ds,rfl,hj⟩⟩
theorem AB5{target:Expr}{it:Value}{body:List Stmt}{R:Result→Shared→Prop}(J:Nat→Shared→Prop)
  (turn:∀ i s,J i s→∀ (Q:Option Value→Shared→Prop) (E:Value→Shared→Prop),(i=0→∀ s',R (.ok .next) s'→Q none s') →
   (∀ k,i=k+1→∀ v s1,(∀ (X:Shared→Prop) (K:Flow→Shared→Prop) (E:Value→Shared→Prop),(∀ s,J k s→K .next s∧K .cont s)→(∀ s,R (.ok .next) s→K .brk s)→(∀ v s,R (.ok (.ret v)) s→K (.ret v) s)→(∀ s2,wpAny B.M A (execs body env) K E s2→X s2) →
    wpAny B.M A (letOwnedTupleGo target it v) (fun _ s1'=>wpAny B.M A (assign target env v) (fun _ s2=>X s2) E s1') E s1)→Q (some v) s1)→wpAny B.M A (pyNext it) Q E s)
  {i:Nat} {s:Shared} (h:J i s):codeAny B.M A (.forLoop target it body [] env) R s:=
 AnD (fun items s=>J items.length s) (fun items s h Q E q0 q1=>turn _ s h Q E (fun e s' hr=>q0 (List.eq_nil_of_length_eq_zero e) s' hr) fun k e v s1 hg=>by
  induction items using List.casesOn with
  |nil=>exact Nat.noConfusion e
  |cons d ds=>exact q1 d ds rfl v s1 fun X K E hn=>hg X K E fun s hj=>hn s (Nat.succ.inj e ▸ hj)) (items:=List.replicate i .none) (by rw[List.length_replicate];exact h)
theorem AaN.lets{It:Addr}{ds:List D}(it:AaN s.heap g It ds)(F:Fm B s₀ g₀ own env ρ s g)(hg:g It=none)(l:Adm env own s g s' g'):AaN s'.heap g' It ds∧g' It=none:=by refine Amv it.noTabby fun oi ho _ hnt hc hd _=>?_;have:=l.2 It oi (F.notLoc ho hc hd) ho hnt;exact⟨it.keep l.1 fun o e _=>by rw[ho] at e;cases e;exact this.1,this.2 hg⟩
theorem Fm.iter{It:Addr}{ds:List D}{s1 s2:Shared}{g1:Gh}(O:B.Ok)(F:Fm B s₀ g₀ own env ρ s g)(it:AaN s.heap g It ds)(h0:s₀.heap.get? It=none)(hg:g It=none)(h1:s1.heap.get? It=none)(L:Adm env own s1 g1 s g)(k:Heap.ExtBut It s.heap s2.heap)(e1:s2.gens=s.gens)(e2:s2.os=s.os) :
  Fm B s₀ g₀ own env ρ s2 g∧Adm env own s1 g1 s2 g:=by
 refine Amv it.noTabby fun oi ho ht hnt hc hd _=>?_;refine⟨F.turnE O h0 hg ho ht hc (fun e=>F.notLoc ho hc hd (.inl e)) k e1 e2,L.1,fun a o n e t=>?_⟩;refine AaG (L.2 a o n e t) fun f1 f2=>?_;exact⟨k a o (by intro e';subst e';rw[h1] at e;exact Aah e) f1,f2⟩
theorem AhZ{r res:Res}{f:Flow}{k:Rho→Option Res}{K:Flow→Shared→Prop}{s1 s3:Shared}{g1 g3:Gh}(hf:Awt k r=some res)(e:As6 B s₀ g₀ own env r f s3 g3)(L:Adm env own s1 g1 s3 g3)
  (hn:∀ ρ₂,Fm B s₀ g₀ own env ρ₂ s3 g3→k ρ₂=some res→K .next s3∧K .cont s3) (hb:(∃ g',Adm env own s1 g1 s3 g'∧As6 B s₀ g₀ own env res .next s3 g')→K .brk s3) (hr:∀ v,(∃ g',Adm env own s1 g1 s3 g'∧As6 B s₀ g₀ own env res (.ret v) s3 g')→K (.ret v) s3):K f s3:=by
 induction r using Res.casesOn with
 |next ρ₂=>rw[e.1];exact(hn ρ₂ e.2 hf).1
 |cont ρ₂=>rw[e.1];exact(hn ρ₂ e.2 hf).2
 |brk ρ₂=>rw[e.1];exact hb ⟨g3,L,sj hf ▸ ⟨rfl,e.2⟩⟩
 |ret d=>exact e.elim fun v e=>e.1 ▸ hr v ⟨g3,L,sj hf ▸ ⟨v,rfl,e.2⟩⟩
theorem Alx(O:B.Ok)(hh:A.handled=none){target:Expr}{body:List Stmt}{It:Addr}{BD:Rho→Option Res}{res:Res}{s1:Shared}{g1:Gh}
  (hbody:∀ ρ r s g,BD ρ=some r→Fm B s₀ g₀ own env ρ s g→Ahg B A s₀ g₀ own env s g (execs body env) r) {items:List D}
  (F:Fm B s₀ g₀ own env ρ s g) (it:AaN s.heap g It items) (h0:s₀.heap.get? It=none) (hg:g It=none) (hf:AmD own env.scope target BD items ρ=some res)
  (h1:s1.heap.get? It=none) (L:Adm env own s1 g1 s g) :
  codeAny B.M A (.forLoop target (.ref It) body [] env) (fun r s'=>∃ f,r=.ok f∧∃ g',Adm env own s1 g1 s' g'∧As6 B s₀ g₀ own env res f s' g') s:=by
 refine Aqp fun R hR=>AnD (fun items s=>∃ ρ g,Fm B s₀ g₀ own env ρ s g∧AaN s.heap g It items∧g It=none∧AmD own env.scope target BD items ρ=some res∧Adm env own s1 g1 s g) ?_ ⟨ρ,g,F,it,hg,hf,L⟩;clear F it hg hf L;intro items s hJ Q E q0 q1;refine Ay0 hJ fun ρ g F it hg hf L=>?_;induction items using List.casesOn with
 |nil=>
  refine AhL F.inv hh it fun h' k=>q0 rfl _ (hR _ _ ⟨_,rfl,g,?_⟩);rw[← sj hf];exact⟨(F.iter (s2:={s with heap:=h'}) O it h0 hg h1 L k rfl rfl).2,rfl,(F.iter (s2:={s with heap:=h'}) O it h0 hg h1 L k rfl rfl).1⟩
 |cons d ds=>
  refine Aaf (Aak hf) fun ρ₁ hb hf=>?_;refine Aaf (Aak hf) fun r hr hf=>?_;refine AeA F.inv it fun v h' tk hv it' k=>q1 d ds rfl v _ fun X K E hn hbr hret hX=>?_;refine AaG (F.iter (s2:={s with heap:=h',toks:=tk}) O it h0 hg h1 L k.extBut rfl rfl) fun F' L'=>?_;refine Akt it' (Acc O hh F' hv hb fun s2 F2 k2=>hX s2 ((hbody ρ₁ r s2 g hr F2).use fun f s3 g3 l3 e3=>?_));have i3:=(it'.oth F' k2).lets F2 hg l3;have L3:=(L'.trans (Oth.lets k2)).trans l3;exact AhZ hf e3 L3 (fun ρ₂ F3 h=>hn _ ⟨ρ₂,g3,F3,i3.1,i3.2,h,L3⟩) (fun h=>hbr _ (hR _ _ ⟨_,rfl,h⟩)) fun v h=>hret v _ (hR _ _ ⟨_,rfl,h⟩)
theorem AmH{test:Expr}{body:List Stmt}{TD:Rho→Option Bool}{BD:Rho→Option Res}{res:Res}{s1:Shared}{g1:Gh}
  (htest:∀ ρ b s g,TD ρ=some b→Fm B s₀ g₀ own env ρ s g→Aaq B A s g (isTrue test env (eval test env)) fun _ r=>r=b)
  (hbody:∀ ρ r s g,BD ρ=some r→Fm B s₀ g₀ own env ρ s g→Ahg B A s₀ g₀ own env s g (execs body env) r) {fuel:Nat}
  (F:Fm B s₀ g₀ own env ρ s g) (hf:AnB TD BD fuel ρ=some res) (L:Adm env own s1 g1 s g) :
  codeAny B.M A (.whileLoop test body [] env) (fun r s'=>∃ f,r=.ok f∧∃ g',Adm env own s1 g1 s' g'∧As6 B s₀ g₀ own env res f s' g') s:=by
 refine Aqp fun R hR=>codeAny_whileLoop (fun m s=>∃ ρ g,Fm B s₀ g₀ own env ρ s g∧AnB TD BD m ρ=some res∧Adm env own s1 g1 s g) ?_ fuel ⟨ρ,g,F,hf,L⟩;clear F hf L;intro m s hJ;refine Adp hJ fun ρ g F hf L=>?_;induction m using Nat.casesAuxOn with
 |zero=>exact Aah hf
 |succ m=>
  refine Aaf (Aak hf) fun b ht hf=>?_;refine Ahj fun Q E hQ=>(htest ρ b s g ht F).use fun r s2 g2 x2 hr=>hQ _ _ ?_;clear hQ Q E;subst hr;have F2:=F.step x2;have L2:=L.trans (x2.lets (env:=env) (own:=own));induction r using Bool.casesOn with
  |false=>
   refine wpAny_execs_nil (hR _ _ ⟨_,rfl,g2,L2,?_⟩);rw[← sj hf];exact⟨rfl,F2⟩
  |true=>
   refine Aaf (Aak (show(BD ρ).bind _=some res from hf)) fun r hr hf=>?_;exact Ahj fun Q E hQ=>(hbody ρ _ s2 g2 hr F2).use fun f s3 g3 l3 e3=>AhZ (K:=Q) hf e3 (L2.trans l3) (fun ρ₂ F3 h=>⟨hQ .next _ ⟨m,Nat.lt_succ_self _,ρ₂,g3,F3,h,L2.trans l3⟩,hQ .cont _ ⟨m,Nat.lt_succ_self _,ρ₂,g3,F3,h,L2.trans l3⟩⟩) (fun h=>hQ .brk _ (hR _ _ ⟨_,rfl,h⟩)) fun v h=>hQ (.ret v) _ (hR _ _ ⟨_,rfl,h⟩)
end
section
variable{B:Bs}{A:Around}{s₀ s s':Shared}{g₀ g g':Gh}{own:List Str}{env:Env}{ρ:Rho}{n:Nat}{T:Tb}
theorem AmI(I:Inv B s g){op:Operator}{a b:Int}{t u:Tok}{r:D}(h:Amr op (.int a) (.int b)=some r):Aaq B A s g (inplaceOp op (.int a t) (.int b u)) fun g' v=>Den g' v r:=by
 cases op with
 |Add=>cases h;exact iadd_int ⟨g,Aag.tok I _,Den.int⟩
 |Sub=>cases h;exact isub_int ⟨g,Aag.tok I _,Den.int⟩
 |Mult=>refine AaG (Abs h) fun hsz h=>?_;cases h;exact imul_int ⟨g,Aag.tok I _,Den.int⟩ (IntMulOk.of_left (Anu hsz.1))
 |FloorDiv=>refine AaG (Abs h) fun hsz h=>?_;cases h;exact ifloordiv_int hsz.1 ⟨g,Aag.tok I _,Den.int⟩ (.inl (PyProof.noPylong_small hsz.2))
 |Mod=>refine AaG (Abs h) fun hsz h=>?_;cases h;exact imod_int hsz ⟨g,Aag.tok I _,Den.int⟩
 |LShift=>refine AaG (Abs h) fun hsz h=>?_;cases h;exact ilshift_int_small hsz.1 hsz.2.1 hsz.2.2 ⟨g,Aag.tok I _,Den.int⟩
 |RShift=>refine AaG (Abs h) fun hsz h=>?_;cases h;exact irshift_int hsz ⟨g,Aag.tok I _,Den.int⟩
 |BitAnd=>cases h;exact iand_int ⟨g,Aag.tok I _,Den.int⟩
 |BitOr=>cases h;exact ior_int ⟨g,Aag.tok I _,Den.int⟩
 |BitXor=>cases h;exact ixor_int ⟨g,Aag.tok I _,Den.int⟩
 |Pow=>
  refine AaG (Abs h) fun hsz h=>?_;cases h;refine ipow_int hsz.1 ?_ ⟨g,Aag.tok I _,Den.int⟩;have h1:((Builtin.Int.intBits a:Nat):Int)≤64:=Int.ofNat_le.mpr (Anu hsz.2.2);have h2:((Builtin.Int.intBits a:Nat):Int)*b≤64*b:=Int.mul_le_mul_of_nonneg_right h1 hsz.1
  omega
 |_=>exact Aah h
theorem AmJ(I:Inv B s g){op:Operator}{a b:Str}{t u:Tok}{r:D}(h:Amr op (.str a) (.str b)=some r):Aaq B A s g (inplaceOp op (.str a t) (.str b u)) fun g' v=>Den g' v r:=by
 cases op with
 |Add=>refine AaG (Abs (show(if _ then _ else none)=some r from h)) fun hsz h=>?_;cases h;exact iadd_str (fun t' tk=>⟨g,Aag.tok I _,Den.str⟩) (AaL hsz)
 |_=>exact Aah h
theorem Awv{t:Expr}(h:ABT t=true):∃ elt gens sc p,t=.ListComp elt gens sc p:=by
 revert h;induction t using Expr.casesOn<;>first|exact fun _=>⟨_,_,_,_,rfl⟩|exact Bool.noConfusion
theorem Aok(I:Inv B s g){op:Operator}{va vb:Value}{a b r:D}(ha:Den g va a)(hb:Den g vb b)(h:ADb op a b=some r):Aaq B A s g (inplaceOp op va vb) fun g' v=>Den g' v r:=by
 induction a using D.casesOn with
 |int a=>
  (refine Aaf (Aas h) fun b q1 h=>?_;subst q1)
  induction ha using Den.intE;induction hb using Den.intE;exact AmI I h
 |str a=>
  (refine Aaf (AaY h) fun b q2 h=>?_;subst q2)
  induction ha using Den.strE;induction hb using Den.strE;exact AmJ I h
 |_=>exact Aah h
section
variable{E:Expr→Option D}{r:Res}{p:Pos}
theorem Azd(H:Snd B A s₀ g₀ own env ρ E){e:Option Expr}(h:AC9 E e=some r)(F:Fm B s₀ g₀ own env ρ s g):Ahg B A s₀ g₀ own env s g (exec (.Return e p) env) r:=by
 induction e using Option.casesOn with
 |none=>rw[← sj h];exact wpAny_Return_none ⟨g,.refl,_,rfl,F.st,.none⟩
 |some e=>
  refine Aaf (Aak h) fun d e1 h=>?_;rw[← sj h];exact wpAny_Return_some ((H _ d s g e1 F).use fun v s1 g1 x1 hd=>⟨g1,x1.lets,v,rfl,F.st.trans x1,hd⟩)
theorem Aze(O:B.Ok)(K:Acw B n T s₀ g₀)(hA:AOk n A){k:Nat}{ts:List Expr}{value:Expr}(h:ADa (ev T k env.scope ρ) own env.scope ρ ts value=some r)(F:Fm B s₀ g₀ own env ρ s g):Ahg B A s₀ g₀ own env s g (exec (.Assign ts value p) env) r:=by have H:=(AaZ O K hA k).1 own env ρ;refine Aaf (Aak h) fun t o1 h=>?_;refine Aaf (Aak h) fun d e1 h=>?_;refine AaG (Abs h) fun hc h=>?_;refine Aaf (Aak h) fun ρ' hb h=>?_;rw[AeT o1,← sj h];refine hc.elim (fun hc=>?_) fun hc=>hc.elim (fun hc=>Ag3 O hA.handled H e1 hb hc.2.1 (Ahi hc.2.2) F) fun hc=>AmF O hA.handled H e1 hb hc F;have et:=AgX hc.1;generalize (ep t).x=y,(ep t).p=py at et;clear o1;subst et;refine hc.2.elim (fun hc=>Ag3 O hA.handled H e1 hb hc AbM F) fun hc=>?_;refine AsY (Awv hc) fun elt gens scp vp q3=>?_;subst q3;exact AmG O K hA e1 hb F
theorem Azf(O:B.Ok)(H:Snd B A s₀ g₀ own env ρ E){t value:Expr}{op:Operator}(h:ADc E own env.scope ρ t op value=some r)(F:Fm B s₀ g₀ own env ρ s g):Ahg B A s₀ g₀ own env s g (exec (.AugAssign t op value p) env) r:=by
 refine AaG (Abs h) fun hc h=>?_;refine Aaf (Aak h) fun a e1 h=>?_;refine Aaf (Aak h) fun b e2 h=>?_;refine Aaf (Aak h) fun d e3 h=>?_;rw[AgX hc.1,← sj h];exact wpAny_AugAssign_Name ((F.loadName e1 hc.2.1).use fun v1 s1 g1 x1 h1=>(H _ _ s1 g1 e2 (F.step x1)).use fun v2 s2 g2 x2 h2=>(Aok x2.inv (h1.mono x2.le) h2 e3).use fun v3 s3 g3 x3 h3=>
  (((F.step x1).step x2).step x3).store O (Abl hc.2.2) h3 fun s4 F4 k4=>⟨g3,Adm.trans ((x1.trans x2).trans x3).lets (Oth.lets k4),rfl,F4⟩)
theorem Azg(O:B.Ok)(hh:A.handled=none){EE:Rho→Expr→Option D}(H:Snd B A s₀ g₀ own env ρ (EE ρ)){ih:Rho→List Stmt→Option Res}
  (IH:∀ ρ r body s g,ih ρ body=some r→Fm B s₀ g₀ own env ρ s g→Ahg B A s₀ g₀ own env s g (execs body env) r) {target iter:Expr} {body:List Stmt} (h:ADd EE own env.scope ih ρ target iter body=some r) (F:Fm B s₀ g₀ own env ρ s g):Ahg B A s₀ g₀ own env s g (exec (.For target iter body [] p) env) r:=by
 refine AaG (Abs h) fun hns h=>?_;refine Aaf (Aak h) fun x e1 h=>?_;refine Aaf (Aak h) fun items e2 h=>?_;refine Ahj fun Q E hQ=>wpAny_For ((H _ x s g e1 F).use fun v s1 g1 x1 hv=>Ad1 O x1.inv hv e2 fun o x2 it2=>codeAny_mono (Alx (s1:=s1) (g1:=g1) O hh (fun ρ r s g hr F=>IH ρ r _ s g hr F) ((F.step x1).step x2) it2 ((F.st.trans x1).ext.dead (Aa1 _)) x1.inv.fresh h (Aa1 _) x2.lets) fun rr s' hr=>?_) (Afc hns)
 obtain⟨f,rfl,g',l,e⟩:=hr
 exact hQ _ _ ⟨g',Adm.trans x1.lets l,e⟩
end
theorem Aly(O:B.Ok)(K:Acw B n T s₀ g₀)(hA:AOk n A){k fuel:Nat}{ih:Rho→List Stmt→Option Res}
  (IH:∀ ρ r body s g,ih ρ body=some r→Fm B s₀ g₀ own env ρ s g→Ahg B A s₀ g₀ own env s g (execs body env) r)
  {st:Stmt} {r:Res} (h:AnC (ev T k env.scope) own env.scope fuel ih ρ st=some r) (F:Fm B s₀ g₀ own env ρ s g):Ahg B A s₀ g₀ own env s g (exec st env) r:=by
 have H:=(AaZ O K hA k).1 own env;have HT:=(AaZ O K hA k).2 own env;induction st using Stmt.casesOn with
 |Return e p=>exact Azd (H ρ) h F
 |Pass p=>rw[← sj h];exact wpAny_Pass ⟨g,.refl,rfl,F⟩
 |Break p=>rw[← sj h];exact wpAny_Break ⟨g,.refl,rfl,F⟩
 |Continue p=>rw[← sj h];exact wpAny_Continue ⟨g,.refl,rfl,F⟩
 |Assign ts value p=>exact Aze O K hA h F
 |AugAssign t op value p=>exact Azf O (H ρ) h F
 |If test body orelse p=>
  refine Aaf (Aak h) fun c e1 h=>?_;refine wpAny_If ((HT ρ _ c s g e1 F).use fun b s1 g1 x1 hb=>?_);subst hb;induction b using Bool.casesOn with
  |true=>exact(IH ρ r _ s1 g1 h (F.step x1)).from x1.lets
  |false=>exact(IH ρ r _ s1 g1 h (F.step x1)).from x1.lets
 |While test body orelse p=>
  (refine AaG (AfE h) fun q4 h=>?_;subst q4)
  refine Ahj fun Q E hQ=>wpAny_While (codeAny_mono (AmH (s1:=s) (g1:=g) (fun ρ b s g hb F=>HT ρ _ b s g hb F) (fun ρ r s g hr F=>IH ρ r _ s g hr F) F h .refl) fun rr s' hr=>?_)
  obtain⟨f,rfl,hr⟩:=hr
  exact hQ _ _ hr
 |For target iter body orelse p=>
  (refine AaG (AfE h) fun q5 h=>?_;subst q5)
  exact Azg O hA.handled (H ρ) IH h F
 |Try body hs orelse fin p=>
  induction hs using List.casesOn with
  |nil=>exact Aah h
  |cons h0 hs=>
  (refine AaG (AfE h) fun q6 h=>?_;subst q6)
  refine AaG (AfE h) fun q7 h=>?_;subst q7;refine Ahj fun Q E hQ=>wpAny_Try_except (wpAny_mono (IH ρ r _ s g h F) (fun f s' e=>?_) fun _ _ h=>h.elim);induction f using Flow.casesOn with
  |next=>exact wpAny_execs_nil (hQ _ _ e)
  |_=>exact hQ _ _ e
 |_=>exact Aah h
theorem Atb{a b:Option Res}{r:Res}(h:orR a b=some r):a=some r∨b=some r:=by
 induction a using Option.casesOn with
 |none=>exact .inr h
 |some _=>exact .inl h
theorem Acj(O:B.Ok)(K:Acw B n T s₀ g₀)(hA:AOk n A){k:Nat}(m:Nat)(ρ:Rho)(r:Res)(body:List Stmt)(s:Shared)(g:Gh)(h:ex (T.stm own env.scope) (ev T k env.scope) own env.scope m ρ body=some r)(F:Fm B s₀ g₀ own env ρ s g) :
  Ahg B A s₀ g₀ own env s g (execs body env) r:=by
 induction m generalizing ρ r body s g with
 |zero=>exact Aah h
 |succ m IH=>
  induction body using List.casesOn with
  |nil=>rw[← sj h];exact wpAny_execs_nil ⟨g,.refl,rfl,F⟩
  |cons st rest=>
   refine Aaf (Aak h) fun r1 e h=>?_;refine Ahj fun Q E hQ=>wpAny_execs_cons ((show Ahg B A s₀ g₀ own env s g (exec st env) r1 from(Atb e).elim (fun e1=>K.stm A own env ρ st _ s₀ g₀ s g hA F.st e1 F) fun e=>Aly O K hA (fun ρ r body s g hr F=>IH ρ r body s g hr F) e F).use fun f s1 g1 l1 e1=>?_);clear e;induction r1 using Res.casesOn with
   |next ρ1=>rw[e1.1];exact wpAny_mono ((IH ρ1 r rest s1 g1 h e1.2).from l1) hQ fun _ _ e=>e.elim
   |brk ρ1=>rw[e1.1];exact hQ _ _ ⟨g1,l1,sj h ▸ ⟨rfl,e1.2⟩⟩
   |cont ρ1=>rw[e1.1];exact hQ _ _ ⟨g1,l1,sj h ▸ ⟨rfl,e1.2⟩⟩
   |ret d=>exact e1.elim fun v e1=>e1.1 ▸ hQ _ _ ⟨g1,l1,sj h ▸ ⟨v,rfl,e1.2⟩⟩
noncomputable def fnD(T:Tb)(k m:Nat)(params:List Str)(body:List Stmt)(sc:Scope)(ds:List D):Option D:=
 if params.length=ds.length then match ex (T.stm (Aam sc.names) sc) (ev T k sc) (Aam sc.names) sc m (params.zip ds).reverse body with
  |some (.ret d)=>some d
  |some (.next _)=>some .none
  |_=>none
 else none
noncomputable def AaI(sc:Scope)(params:List Str):Bool:=
 decide (sc.kind=.function) && !sc.isGenerator && !sc.isCoroutine && sc.names.all (fun p=>!(p.2 == .free)) && params.all (fun x=>sc.names.lookup x == some .local || sc.names.lookup x == some .cell)
theorem AOk.dlt{A:Around}{n:Nat}(h:AOk (n+1) A):A.depth<1000:=Nat.lt_of_le_of_lt (Nat.le_trans (Nat.le_add_right _ _) h.depth) (by decide)
theorem AOk.deeper{A:Around}{env:Env}(h:AOk (n+1) A):AOk n (A.deeper env):=
 h.to (k:=3) h.handled (Nat.add_le_add_left (by decide:1≤8) A.depth) rfl (by decide)
structure AbJ(B:Bs)(a:Addr)(fd:FuncData)(params:List Str)(body:List Stmt):Prop where
 obj:∃ o,B.G.get? a=some o∧o.data=.func fd
 code:B.G.CodeRec fd.code fd.qualname
 body:fd.body=.stmts body
 glob:fd.globals=mainGlobals
 blt:fd.builtins=builtinsNs
 clos:fd.closure=[]
 bind:∀ vs:List Value,vs.length=params.length→bindArgs fd ⟨vs,[]⟩=pure (params.zip vs)
 scope:AaI fd.scope params=true
theorem AcO{sc:Scope}{params:List Str}(h:AaI sc params=true):sc.kind=.function∧sc.isGenerator=false∧sc.isCoroutine=false∧(∀ x,sc.names.lookup x≠some .free)∧∀ x∈params,sc.names.lookup x=some .local∨sc.names.lookup x=some .cell:=by
 unfold AaI at h;simp only[Bool.and_eq_true,decide_eq_true_eq,Bool.not_eq_true',List.all_eq_true,Bool.or_eq_true,beq_iff_eq] at h
 obtain⟨⟨⟨⟨h1,h2⟩,h3⟩,h4⟩,h5⟩:=h
 refine⟨h1,h2,h3,fun x e=>?_,h5⟩;have:=h4 _ (PySem.mem_of_lookup e);simp at this
theorem AnE(O:B.Ok){a:Addr}{fd:FuncData}{params:List Str}{body:List Stmt}(Dd:AbJ B a fd params body){vs:List Value}{ds:List D}(hA:AOk (n+1) A)(I:Inv B s g)(hd:Aav g vs ds)(hl:params.length=ds.length){P:Gh→Value→Prop}
  (h:∀ env s' ,env.scope=fd.scope→env.code=fd.code→env.qual=fd.qualname++".<locals>."→Fm B s g (Aam fd.scope.names) env (params.zip ds).reverse s' g →
   wpAny B.M (A.deeper env) (execs body env) (fun f s''=>∃ g',Aag B s g s'' g'∧P g' (match f with|.ret v=>v|_=>.none)) (fun _ _=>False) s') :
  Aaq B A s g (call (.ref a) vs) P:=by
 refine Aaf Dd.obj fun o ho hdat=>?_;refine Awh (AcO Dd.scope) fun h1 h2 h3 h4 h5=>?_;have keep:∀ b o,B.G.get? b=some o→s.heap.get? b=some o:=fun b o e=>I.get (I.base b o e);refine wpAny_call (codeAny_call_function hA.dlt (keep _ _ ho) hdat h3 h2 Dd.body (Dd.code.keeps keep) ?_);rw[Dd.bind vs (by rw[hd.length,hl])];refine wpAny_pure ?_;rw[Dd.glob,Dd.clos,Dd.blt];refine wpAny_mono (Aqf O I h1 h4 h5 hl hd (Q:=fun env s'=>s'.heap.NoLimit∧codeAny B.M A (.func body env) (fun r s'=>match r with|.ok (.ret v)=>∃ g',Aag B s g s' g'∧P g' v|.ok _=>False|.error e=>False) s') fun env s' e1 e2 e3 F=>⟨?_,?_⟩) (fun _ _ h=>h) fun _ _ h=>h.elim
 ·refine Aaf O.lim fun mc hmc hno=>?_;exact⟨mc,F.inv.ns hmc,hno⟩
 ·refine codeAny_func (wpAny_mono (h env s' e1 e2 e3 F) (fun f s'' h=>h) fun _ _ h=>h.elim)
theorem AbK(O:B.Ok){a:Addr}{fd:FuncData}{params:List Str}{body:List Stmt}{k m:Nat}(Dd:AbJ B a fd params body)(K:∀ s g,Inv B s g→Acw B n T s g):AbC B (n+1) (.ref a) (fnD T k m params body fd.scope):=by
 refine Aaf Dd.obj fun o ho hdat=>?_;refine⟨.inr (.inr ⟨a,o,fd,rfl,ho,hdat⟩),fun A s g vs ds r hA I hd hr=>?_⟩;unfold fnD at hr
 split at hr
 ·rename_i hl;refine AnE O Dd hA I hd hl fun env s' e1 e2 e3 F=>?_
  cases e:ex (T.stm (Aam fd.scope.names) fd.scope) (ev T k fd.scope) (Aam fd.scope.names) fd.scope m (params.zip ds).reverse body with
  |none=>rw[e] at hr;exact Aah hr
  |some res=>
   rw[e] at hr;rw[← e1] at e F;have:=Acj O (K s g I) (hA.deeper (env:=env)) m _ res body s' g e F;refine this.use fun f s1 g1 l1 en=>?_
   cases res with
   |ret d=>cases hr;obtain⟨v,rfl,x,hd⟩:=en;exact⟨g1,x,hd⟩
   |next ρ'=>cases hr;obtain⟨rfl,F1⟩:=en;exact⟨g1,F1.st,.none⟩
   |brk _=>exact Aah hr
   |cont _=>exact Aah hr
 ·exact Aah hr
end
section
variable{B:Bs}{n:Nat}
noncomputable def Ah0:List D→Option (List Str)
 |[]=>some []
 |d :: r=>Ad0 d fun x=>(Ah0 r).bind fun xs=>some (x :: xs)
noncomputable def AdI:List D→Option (List Int)
 |[]=>some []
 |d :: r=>Aci d fun x=>(AdI r).bind fun xs=>some (x :: xs)
noncomputable def fn1(f:D→Option D)(ds:List D):Option D:=if ds.length=1 then f (ds.getD 0 .none) else none
noncomputable def fn2(f:D→D→Option D)(ds:List D):Option D:=if ds.length=2 then f (ds.getD 0 .none) (ds.getD 1 .none) else none
noncomputable def fn3(f:D→D→D→Option D)(ds:List D):Option D:=if ds.length=3 then f (ds.getD 0 .none) (ds.getD 1 .none) (ds.getD 2 .none) else none
theorem Ah1{f:D→Option D}{ds:List D}{r:D}(h:fn1 f ds=some r):∃ a,ds=[a]∧f a=some r:=
 ⟨_,ABz (Abs h).1,(Abs h).2⟩
theorem Ag5{f:D→D→Option D}{ds:List D}{r:D}(h:fn2 f ds=some r):∃ a b,ds=[a,b]∧f a b=some r:=
 ⟨_,_,As1 (Abs h).1,(Abs h).2⟩
theorem AvA{f:D→D→D→Option D}{ds:List D}{r:D}(h:fn3 f ds=some r):∃ a b c,ds=[a,b,c]∧f a b c=some r:=
 ⟨_,_,_,ADx (Abs h).1,(Abs h).2⟩
noncomputable def ii(f:Int→Int→Option D):List D→Option D:=fn2 fun x y=>Aci x fun a=>Aci y fun b=>f a b
theorem Aol{f:Int→Int→Option D}{ds:List D}{r:D}(h:ii f ds=some r):∃ a b,ds=[.int a,.int b]∧f a b=some r:=by refine Afx (Ag5 h) fun x y q1 k1=>?_;refine Aaf (Aas k1) fun a q2 k2=>?_;refine Aaf (Aas k2) fun b q3 k3=>?_;rw[q2,q3] at q1;exact⟨a,b,q1,k3⟩
theorem Aww{f:D→Option D}{g:Gh}{vs:List Value}{ds:List D}{r:D}(h:fn1 f ds=some r)(hd:Aav g vs ds):∃ v a,vs=[v]∧Den g v a∧f a=some r:=by
 refine Aaf (Ah1 h) fun a q1 h=>?_;subst q1;induction hd using Aav.consE with|cons h1 hd=>?_
 induction hd using Aav.nilE;exact⟨_,a,rfl,h1,h⟩
theorem Awx{f:D→D→Option D}{g:Gh}{vs:List Value}{ds:List D}{r:D}(h:fn2 f ds=some r)(hd:Aav g vs ds):∃ v w a b,vs=[v,w]∧Den g v a∧Den g w b∧f a b=some r:=by
 refine Afx (Ag5 h) fun a b q1 h=>?_;subst q1;induction hd using Aav.consE with|cons h1 hd=>?_
 induction hd using Aav.consE with|cons h2 hd=>?_
 induction hd using Aav.nilE;exact⟨_,_,a,b,rfl,h1,h2,h⟩
theorem Ah2{v:Value}{f:D→Option D}(k:Kp B.G.get? v)(H:∀ A s g u a r,AOk n A→Inv B s g→Den g u a→f a=some r→Aaq B A s g (call v [u]) fun g' v=>Den g' v r):AbC B n v (fn1 f):=⟨k,fun A s g vs ds r hA I hd hr=>by
 refine Adp (Aww hr hd) fun u a q1 h1 h=>?_;subst q1;exact H A s g u a r hA I h1 h⟩
theorem Alz{v:Value}{f:D→D→Option D}(k:Kp B.G.get? v)(H:∀ A s g u w a b r,AOk n A→Inv B s g→Den g u a→Den g w b→f a b=some r→Aaq B A s g (call v [u,w]) fun g' v=>Den g' v r):AbC B n v (fn2 f):=⟨k,fun A s g vs ds r hA I hd hr=>by
 refine Avv (Awx hr hd) fun u w a b q2 h1 h2 h=>?_;subst q2;exact H A s g u w a b r hA I h1 h2 h⟩
noncomputable def AmK(f:Str→Str→Option D):List D→Option D:=fn2 fun a b=>Ad0 a fun x=>Ad0 b fun y=>f x y
theorem Agn{id:String}{f:Str→Str→Option D}(H:∀ A s g x y t u r,Inv B s g→f x y=some r→Aaq B A s g (call (.builtin id) [.str x t,.str y u]) fun g' v=>Den g' v r):AbC B n (.builtin id) (AmK f):=Alz (.inl ⟨_,rfl⟩) fun A s g u w a b r hA I h1 h2 h=>by
 refine Aaf (AaY h) fun x q3 k1=>?_;subst q3;refine Aaf (AaY k1) fun y q4 k2=>?_;subst q4;induction h1 using Den.strE;induction h2 using Den.strE;exact H A s g x y _ _ r I k2
noncomputable def bStartswith:List D→Option D:=AmK fun x y=>some (.bool (Txt.startswith x y))
theorem Ad6:AbC B n (.builtin "str.startswith") bStartswith:=Agn fun A s g x y t u r I h=>by
 rw[← sj h];exact SC.startswith ⟨g,Aag.refl I,.bool⟩
noncomputable def bEndswith:List D→Option D:=AmK fun x y=>some (.bool (Txt.endswith x y))
theorem AmL:AbC B n (.builtin "str.endswith") bEndswith:=Agn fun A s g x y t u r I h=>by
 rw[← sj h];exact SC.endswith ⟨g,Aag.refl I,.bool⟩
noncomputable def bRfind:List D→Option D:=AmK fun x y=>some (.int (Txt.rfind x y))
theorem Atc:AbC B n (.builtin "str.rfind") bRfind:=Agn fun A s g x y t u r I h=>by
 rw[← sj h];exact SC.rfind ⟨g,Aag.tok I _,.int⟩
noncomputable def bRstrip:List D→Option D:=AmK fun x y=>if x.cps.size≤1000000 then some (.str (Txt.rstripChars x y)) else none
theorem Aqq:AbC B n (.builtin "str.rstrip") bRstrip:=Agn fun A s g x y t u r I h=>by
 refine AaG (Abs h) fun hs k1=>?_;rw[← sj k1];exact SC.rstripChars (fun t' k=>⟨g,Aag.tok I _,.str⟩) (AaL hs)
noncomputable def bStrip:List D→Option D:=AmK fun x y=>if x.cps.size≤1000000 then some (.str (Txt.stripChars x y)) else none
theorem Atd:AbC B n (.builtin "str.strip") bStrip:=Agn fun A s g x y t u r I h=>by
 refine AaG (Abs h) fun hs k1=>?_;rw[← sj k1];exact SC.stripChars (fun t' k=>⟨g,Aag.tok I _,.str⟩) (AaL hs)
theorem AlA{g:Gh}:∀ {l:List (Str×Tok)},Aav g (strValues l) ((l.map (·.1)).map D.str)
 |[]=>.nil
 |_ :: _=>.cons .str AlA
open Builtin.Str in
theorem Aqr{A:Around}{s:Shared}{x y:Str}{t u:Tok}{Q E:Value→Shared→Prop}(hy:(y.length == 0)=false)(hsz:x.length≤sizeLine)(hsz2:(partsBetween x (occurrences x y 0 x.length (x.length+1)) y.length).length≤sizeLine)
  (hq:∀ l k,l.map (·.1)=Txt.split x y→Q (.ref s.heap.objs.size) {s with heap:=s.heap.push {cls:=.type "list",data:=.seq (strValues l).toArray},toks:=k}) :
  wpAny B.M A (call (.builtin "str.split") [.str x t,.str y u]) Q E s:=by
 cases h1:(decide (x.length<y.length) || decide (strKind x<strKind y))
 ·cases hf:(occurrences x y 0 x.length (x.length+1)).isEmpty
  ·refine call_meets F.slot_str_split (typeIs_str _ _ _) F.entry_str_split (F.args_str_split_2 _ _) (meets_str_split_sep x y t u h1 hy hf hsz hsz2) ?_;show wants Q E _ {s with toks:=_,heap:=s.heap.push {cls:=.type "list",data:=.seq (strsFrom s.toks (partsBetween x (occurrences x y 0 x.length (x.length+1)) y.length)).toArray}};rw[strsFrom_eq];exact hq (numbered s.toks _) _ ((numbered_texts _ _).trans ((if_neg (ne_true_of_eq_false h1)).trans (if_neg (ne_true_of_eq_false hf))).symm)
  ·exact call_meets F.slot_str_split (typeIs_str _ _ _) F.entry_str_split (F.args_str_split_2 _ _) (meets_str_split_not_found x y t u h1 hy hf)
    (hq [(x,t)] s.toks ((if_neg (ne_true_of_eq_false h1)).trans (if_pos hf)).symm)
 ·exact call_meets F.slot_str_split (typeIs_str _ _ _) F.entry_str_split (F.args_str_split_2 _ _) (meets_str_split_cannot_occur x y t u h1)
   (hq [(x,t)] s.toks (if_pos h1).symm)
noncomputable def bSplit:List D→Option D:=AmK fun x y=>if x.cps.size≤1000000∧(y.length == 0)=false∧(Builtin.Str.partsBetween x (Builtin.Str.occurrences x y 0 x.length (x.length+1)) y.length).length≤1000000 then some (.list ((Txt.split x y).map D.str)) else none
theorem AnF(O:B.Ok):AbC B n (.builtin "str.split") bSplit:=Agn fun A s g x y t u r I h=>by
 refine AaG (Abs h) fun hs k1=>?_;rw[← sj k1];refine Aqr hs.2.1 (AaL hs.1) (AaL hs.2.2) fun l k hl=>?_;have x:=Aag.tok I k;refine Aaf (Acs O x.inv (vs:=(strValues l).toArray) (ds:=(l.map (·.1)).map D.str) AlA) fun g' y hd=>?_;rw[← hl];exact⟨g',x.trans y,hd⟩
noncomputable def ADC:D→Option D
 |.str x=>if x.cps.size≤1000000 then some (.int x.cps.size) else none
 |.list l=>if l.length≤1000000 then some (.int l.length) else none
 |.tup l=>if l.length≤1000000 then some (.int l.length) else none
 |_=>none
noncomputable def bLen:List D→Option D:=fn1 ADC
theorem AnG:AbC B n (.builtin "len") bLen:=Ah2 (.inl ⟨_,rfl⟩) fun A s g u a r hA I h1 h=>by
 induction a using D.casesOn with
 |str x=>
  refine AaG (Abs h) fun hs k1=>?_;rw[← sj k1];induction h1 using Den.strE;refine PyProof.Rows.len_str ?_ ⟨g,Aag.tok I _,.int⟩;show ¬ ((Array.size _:Nat):Int) ≥ 2 ^ 63
  omega
 |list l=>
  refine AaG (Abs h) fun hs k1=>?_;rw[← sj k1];induction h1 using Den.listE with|list e1 e2=>?_
  have hl:=Array.length_toList.symm.trans e2.length;exact len_list ⟨_,I.get e1,rfl,_,rfl⟩ (by omega) ⟨g,Aag.tok I _,by rw[hl];exact .int⟩
 |tup l=>
  refine AaG (Abs h) fun hs k1=>?_;rw[← sj k1];induction h1 using Den.tupE with|tup e1 e2=>?_
  have hl:=Array.length_toList.symm.trans e2.length;exact len_tuple ⟨_,I.get e1,rfl,_,rfl⟩ (by omega) ⟨g,Aag.tok I _,by rw[hl];exact .int⟩
 |_=>exact Aah h
noncomputable def bBits:List D→Option D:=fn1 fun a=>Aci a fun a=>some (.int (Builtin.Int.intBits a))
theorem AmM:AbC B n (.builtin "int.bit_length") bBits:=Ah2 (.inl ⟨_,rfl⟩) fun A s g u a r hA I h1 h=>by
 refine Aaf (Aas h) fun a q5 k1=>?_;subst q5;rw[← sj k1];induction h1 using Den.intE;exact call_int_bit_length ⟨g,Aag.tok I _,.int⟩
noncomputable def bDivmod:List D→Option D:=fn2 fun a b=>Aci a fun a=>Aci b fun b=>if b≠0∧b.natAbs<1073741824 then some (.tup [.int (a.fdiv b),.int (a.fmod b)]) else none
theorem Aqs(O:B.Ok):AbC B n (.builtin "divmod") bDivmod:=Alz (.inl ⟨_,rfl⟩) fun A s g u w a b r hA I h1 h2 h=>by
 refine Aaf (Aas h) fun a q6 k1=>?_;subst q6;refine Aaf (Aas k1) fun b q7 k2=>?_;subst q7;refine AaG (Abs k2) fun hs k3=>?_;rw[← sj k3];induction h1 using Den.intE;induction h2 using Den.intE;refine divmod_int hs.1 ?_ (.inl (PyProof.noPylong_small hs.2));have x:=Aag.tok I (s.toks+1+1)
 obtain⟨g',y,hd⟩:=AcB O x.inv (vs:=#[.int _ s.toks,.int _ (s.toks+1)]) (ds:=[.int _,.int _]) (.cons .int (.cons .int .nil))
 exact⟨g',x.trans y,hd⟩
theorem AeH{g:Gh}{vs:List Value}{ds:List D}(h:Aav g vs ds):∀ {xs:List Str},Ah0 ds=some xs→∃ l:List (Str×Tok),vs=strValues l∧l.map (·.1)=xs:=by
 induction h using Aav.ind with
 |nil=>exact fun h=>sj h ▸ ⟨[],rfl,rfl⟩
 |cons h1 _ ih=>
  intro xs h;refine Aaf (AaY h) fun x q8 k1=>?_;subst q8;refine Aaf (Aak k1) fun ys e k2=>?_;refine Aaf (ih e) fun l e1 e2=>?_;rw[← sj k2,e1,← e2];induction h1 using Den.strE;exact⟨(_,_) :: l,rfl,rfl⟩
noncomputable def bJoin:List D→Option D:=fn2 fun a b=>Ad0 a fun x=>Adq b fun l=>(Ah0 l).bind fun xs=>if JoinOk x xs=true then some (.str (Txt.join x xs)) else none
theorem Aqt:AbC B n (.builtin "str.join") bJoin:=Alz (.inl ⟨_,rfl⟩) fun A s g u w a b r hA I h1 h2 h=>by
 refine Aaf (AaY h) fun x q9 k1=>?_;subst q9;refine Aaf (Abd k1) fun l q10 k2=>?_;subst q10;refine Aaf (Aak k2) fun xs e k3=>?_;refine AaG (Abs k3) fun hj k4=>?_;rw[← sj k4];induction h1 using Den.strE;induction h2 using Den.listE with|list e1 e2=>?_
 refine Aaf (AeH e2 e) fun l e3 e4=>?_;exact SC.join (l:=l) ⟨_,I.get e1,rfl,_,by rw[← e3]⟩ e4 hj fun t' k=>⟨g,Aag.tok I _,.str⟩
noncomputable def bRange:List D→Option D
 |[a]=>Aci a fun b=>some (.rng 0 b)
 |[a,b]=>Aci a fun a=>Aci b fun b=>some (.rng a b)
 |_=>none
theorem AfF(O:B.Ok):AbC B n (.type "range") bRange:=⟨.inr (.inl ⟨_,rfl⟩),fun A s g vs ds r hA I hd hr=>by
 match ds,hr with
 |[a],hr=>
  (refine Aaf (Aas (show Aci a _=some r from hr)) fun b q11 k1=>?_;subst q11)
  rw[← sj k1];induction hd using Aav.consE with|cons h1 hd=>?_
  induction hd using Aav.nilE;induction h1 using Den.intE;refine call_range_1 ?_;have x:=Aag.tok I (s.toks+1+1);exact⟨_,x.trans (Aag.alloc O x.inv rfl (Aap rfl)),.rng (Gh.put_self ..)⟩
 |[a,b],hr=>
  (refine Aaf (Aas (show Aci a _=some r from hr)) fun a q12 k1=>?_;subst q12)
  refine Aaf (Aas k1) fun b q13 k2=>?_;subst q13;rw[← sj k2];induction hd using Aav.consE with|cons h1 hd=>?_
  induction hd using Aav.consE with|cons h2 hd=>?_
  induction hd using Aav.nilE;induction h1 using Den.intE;induction h2 using Den.intE;refine call_range_2 ?_;have x:=Aag.tok I (s.toks+1);exact⟨_,x.trans (Aag.alloc O x.inv rfl (Aap rfl)),.rng (Gh.put_self ..)⟩
 |[],hr=>exact Aah hr
 |_ :: _ :: _ :: _,hr=>exact Aah hr⟩
theorem Aom{g:Gh}{vs:List Value}{ds:List D}(h:Aav g vs ds):∀ {xs:List Int},AdI ds=some xs→vs.length=xs.length∧∀ (i:Nat) (v:Value),vs[i]?=some v→∃ t,v=Value.int (xs.getD i 0) t:=by
 induction h using Aav.ind with
 |nil=>exact fun h=>sj h ▸ ⟨rfl,fun i v e=>Aah e⟩
 |cons h1 _ ih=>
  intro xs h;refine Aaf (Aas h) fun x q14 k1=>?_;subst q14;refine Aaf (Aak k1) fun ys e k2=>?_;rw[← sj k2];refine⟨congrArg (·+1) (ih e).1,fun i v hv=>?_⟩;induction i using Nat.casesAuxOn with
  |zero=>rw[← sj hv];induction h1 using Den.intE;exact⟨_,rfl⟩
  |succ i=>exact(ih e).2 i v hv
theorem Ah3:∀ (xs:List Int) (j:Nat),preSum (fun i=>xs.getD i 0) j=(xs.take j).sum
 |xs,0=>by simp [preSum]
 |xs,j+1=>by
  rw[preSum,Ah3 xs j,List.take_add_one]
  cases h:xs[j]? with
  |none=>simp [List.getD,h]
  |some v=>simp [List.getD,h]
theorem Aj6{s:Shared}{g:Gh}{o:Obj}(O:B.Ok)(I:Inv B s g){s':Shared}(h:Moved [s.heap.objs.size] (fun a b=>b=a) {s with heap:=s.heap.push o} s'):Aag B s g s' g:=by have keep:∀ a ob,s.heap.get? a=some ob→s'.heap.get? a=some ob:=fun a ob e=>h.heap a ob (by simp;exact Nat.ne_of_lt (Heap.lt_size e)) (Heap.get?_push_of_some _ e);exact⟨g.le_refl,I.keeps O keep h.gens h.os,.of keep,fun _ _ e=>.inl e⟩
noncomputable def bSum:List D→Option D:=fn1 fun a=>Adq a fun l=>(AdI l).bind fun xs=>some (.int xs.sum)
theorem AvB(O:B.Ok):AbC B n (.builtin "sum") bSum:=Ah2 (.inl ⟨_,rfl⟩) fun A s g u a r hA I h1 h=>by
 refine Aaf (Abd h) fun l q15 k1=>?_;subst q15;refine Aaf (Aak k1) fun xs e k2=>?_;rw[← sj k2];induction h1 using Den.listE with|list e1 e2=>?_
 rename_i a vs nn;refine AaG (Aom e2 e) fun hl hg=>?_;refine call_sum_walkAnyS (wpAny_pyIter_list ⟨_,I.get e1,rfl,_,rfl⟩ ?_);have hlt:=Heap.lt_size (I.get e1);refine⟨_,_,_,_,_,_,_,fun i=>xs.getD i 0,rfl,(Walks.list (A:=A.in1) hA.handled s.heap.objs.size a (Nat.ne_of_lt hlt) vs).toS,⟨⟨_,Heap.get?_push_size _ rfl,rfl,rfl⟩,⟨_,Heap.get?_push_of_some _ (I.get e1),rfl,_,rfl⟩⟩,fun b hb=>?_,fun i v hv=>hg i v (by simpa using hv),fun s' t' hm=>?_⟩
 ·show b<(s.heap.push _).objs.size;rw[Heap.size_push];simp only[List.mem_cons,List.not_mem_nil,or_false] at hb
  rcases hb with rfl|rfl
  ·exact Nat.lt_succ_self _
  ·exact Nat.lt_succ_of_lt hlt
 ·rw[Ah3,List.take_of_length_le (by rw[← hl];simp)];exact⟨g,Aj6 O I hm,.int⟩
end
structure AbQ(G:Heap)(names:Nat→Nat→Str)(R:List (Addr×Addr))(h:Heap):Prop where
 hd:∀ q∈R,CodeHd h q.1 q.2
 out:∀ q∈R,G.get? q.2=none
 tab:∀ q∈R,∃ ps,h.get? q.2=some (tabObj ps)∧TriplesOk ps.toList∧∀ pos cv,codeAmong pos ps.toList=some cv→∃ c' P',cv=.ref c'∧(c',P')∈R∧h.CodeRec cv (names pos.line pos.col)
theorem CodeHd.obj{h:Heap}{c P:Addr}(x:CodeHd h c P):∃ o,h.get? c=some o∧AcL o∧Abv o:=by
 obtain⟨o,vs,_,_,_,_,_,_,_,e1,e2,e3,_⟩:=x
 exact⟨o,e1,⟨⟨vs,e3⟩,.inr e2⟩,Aap e2⟩
theorem CodeHd.move{h h':Heap}{c P:Addr}(x:CodeHd h c P)(k:∀ o,h.get? c=some o→AcL o→Abv o→h'.get? c=some o):CodeHd h' c P:=by
 refine Aew (CodeHd.obj x) fun o e1 e2 e3=>?_;have e4:=k o e1 e2 e3
 obtain⟨o',vs,f,tf,fl,tg,b,n,tt,e,r⟩:=x
 rw[e1] at e;cases e;exact⟨o,vs,f,tf,fl,tg,b,n,tt,e4,r⟩
theorem AbG{h h':Heap}{c:Addr}{q:Str}{o:Obj}(x:h.CodeRec (.ref c) q)(e:h.get? c=some o)(e':h'.get? c=some o):h'.CodeRec (.ref c) q:=by
 refine ABQ x fun c₂ o₂ vs t e1 e2 r=>?_
 cases e1
 rw[e] at e2;cases e2;exact⟨c,o,vs,t,rfl,e',r⟩
theorem Aqu(ps:Array Value):AcL (tabObj ps):=⟨⟨ps,rfl⟩,.inl rfl⟩
theorem Ad7(ps:Array Value):¬ Abv (tabObj ps):=fun h=>h ⟨rfl,ps,rfl⟩
theorem AbQ.keeps{G:Heap}{names:Nat→Nat→Str}{R:List (Addr×Addr)}{h h':Heap}(x:AbQ G names R h)(k:∀ a o,h.get? a=some o→AcL o→h'.get? a=some o):AbQ G names R h':=by refine⟨fun q hq=>CodeHd.move (x.hd q hq) fun o e t _=>k _ o e t,x.out,fun q hq=>?_⟩;refine Aew (x.tab q hq) fun ps e1 e2 e3=>?_;refine⟨ps,k _ _ e1 (Aqu ps),e2,fun pos cv hc=>?_⟩;refine Adp (e3 pos cv hc) fun c' P' q1 hm hr=>?_;subst q1;refine Aew (CodeHd.obj (x.hd _ hm)) fun o f1 f2 _=>?_;exact⟨c',P',rfl,hm,AbG hr f1 (k _ o f1 f2)⟩
theorem Ajo{pos pos':Pos}{c cv:Value}(l:List Value)(h:TriplesOk l)(e:codeAmong pos' (l++[rawInt pos.line,rawInt pos.col,c])=some cv) :
  codeAmong pos' l=some cv∨(pos'.line=pos.line∧pos'.col=pos.col∧cv=c):=by
 fun_induction TriplesOk l with
 |case1=>
  simp only[List.nil_append,rawInt,codeAmong] at e
  split at e
  ·rename_i hc;simp only[Bool.and_eq_true,beq_iff_eq,Int.natCast_inj] at hc
   cases e
   exact .inr ⟨hc.1.symm,hc.2.symm,rfl⟩
  ·exact Aah e
 |case2 a t b u x rest ih=>
  simp only[List.cons_append,codeAmong] at e ⊢
  split at e
  ·rename_i hc;rw[if_pos hc];exact .inl e
  ·rename_i hc;rw[if_neg hc];exact ih h e
 |case3 l h1 h2=>exact h.elim
theorem AbQ.grow{G:Heap}{names:Nat→Nat→Str}{R:List (Addr×Addr)}{h h':Heap}{c P c' P':Addr}{ps:Array Value}{pos:Pos}{q:Str}(x:AbQ G names R h)(hm:(c,P)∈R)(hP:h.get? P=some (tabObj ps))(ht:TriplesOk ps.toList)
  (hx:Heap.ExtBut P h h') (hn:names pos.line pos.col=q) (hr:h'.CodeRec (.ref c') q) (hd':CodeHd h' c' P') (hP':h'.get? P'=some (tabObj #[])) (hG:G.get? P'=none) (hne:P'≠P)
  (hnew:h'.get? P=some (tabObj (ps++#[rawInt pos.line,rawInt pos.col,.ref c']))):AbQ G names ((c',P') :: R) h':=by
 have ne:∀ a o,h.get? a=some o→Abv o→a≠P:=by intro a o e n q2;subst q2;rw[hP] at e;cases e;exact Ad7 ps n
 refine⟨fun q hq=>?_,fun q hq=>?_,fun q hq=>?_⟩
 ·rcases List.mem_cons.mp hq with rfl|hq
  ·exact hd'
  ·exact CodeHd.move (x.hd q hq) fun o e _ n=>hx _ _ (ne _ o e n) e
 ·rcases List.mem_cons.mp hq with rfl|hq
  ·exact hG
  ·exact x.out q hq
 ·rcases List.mem_cons.mp hq with rfl|hq
  ·exact⟨#[],hP',trivial,fun pos cv hc=>by simp [codeAmong] at hc⟩
  ·have old:∀ {cv:Value} {pos:Pos},(∃ c₂ P₂,cv=.ref c₂∧(c₂,P₂)∈R∧h.CodeRec cv (names pos.line pos.col))→∃ c₂ P₂,cv=.ref c₂∧(c₂,P₂)∈(c',P') :: R∧h'.CodeRec cv (names pos.line pos.col):=by intro cv pos q3;refine Adp q3 fun c₂ P₂ z1 hm₂ hr₂=>?_;subst z1;refine Aew (CodeHd.obj (x.hd _ hm₂)) fun o f1 f2 f3=>?_;exact⟨c₂,P₂,rfl,.tail _ hm₂,AbG hr₂ f1 (hx _ _ (ne _ o f1 f3) f1)⟩
   refine Aew (x.tab q hq) fun ps₂ e1 e2 e3=>?_
   by_cases hqP:q.2=P
   ·rw[hqP,hP] at e1
    cases e1
    refine⟨_,hqP ▸ hnew,?_,fun pos' cv hc=>?_⟩
    ·simpa using TriplesOk_snoc _ _ (.ref c') _ e2
    ·have hl:(ps++#[rawInt pos.line,rawInt pos.col,Value.ref c']).toList=ps.toList++[rawInt pos.line,rawInt pos.col,.ref c']:=by simp
     rw[hl] at hc
     rcases Ajo _ e2 hc with hc|⟨h1,h2,rfl⟩
     ·exact old (e3 pos' cv hc)
     ·exact⟨c',P',rfl,.head _,by rw[h1,h2,hn];exact hr⟩
   ·exact⟨ps₂,hx _ _ hqP e1,e2,fun pos' cv hc=>old (e3 pos' cv hc)⟩
noncomputable def Aqv(B:Bs)(names:Nat→Nat→Str)(tabs:List (Addr×Addr)):Prop:=∀ h,B.tb h ↔ ∃ R,(∀ q∈tabs,q∈R)∧AbQ B.G names R h
section
variable{B:Bs}{A:Around}{s s':Shared}{g g':Gh}
theorem Aag.table{P:Addr}{ps ps':Array Value}{h':Heap}{tk:Tok}(I:Inv B s g)(hP:s.heap.get? P=some (tabObj ps))(hG:B.G.get? P=none)(hx:Heap.ExtBut P s.heap h')(hl:h'.get? P=some (tabObj ps'))(ht:B.tb h') :
  Aag B s g {s with heap:=h',toks:=tk} g:=by
 have hg:g P=none:=by
  cases e:g P with
  |none=>rfl
  |some o=>
   have e2:=I.real P o e;rw[hP] at e2;cases e2
   rcases I.nt P _ e with h|h
   ·exact absurd h (Ad7 ps)
   ·rw[hG] at h;exact Aah h
 refine⟨g.le_refl,⟨I.base,fun a o e=>hx a o ?_ (I.real a o e),I.nt,ht,I.gens,I.os⟩,⟨fun a o e n=>hx a o ?_ e,fun a o e=>?_⟩,fun _ _ e=>.inl e⟩
 ·intro q4;subst q4;rw[hg] at e;exact Aah e
 ·intro q5;subst q5;rw[hP] at e;cases e;exact Ad7 ps n
 ·by_cases h:a=P
  ·subst h;exact⟨_,hl⟩
  ·exact⟨o,hx a o h e⟩
end
noncomputable def AvC(B:Bs):Prop:=∃ bm ob,B.mg "__builtins__"=some (.ref bm)∧bm≠builtinsNs∧B.G.get? bm=some ob∧ob.cls=.type "module"∧ob.dict=some builtinsNs∧ob.data=.plain
structure Ago(h:Heap)(g:Gh)(a:Addr)(fd:FuncData)(params:Arguments)(body:FuncBody)(scope:Scope)(clos:List (Str×Addr)):Prop where
 obj:g a=some {cls:=.type "function",data:=.func fd}
 code:∃ c o,fd.code=.ref c∧h.get? c=some o∧Abv o∧h.CodeRec fd.code fd.qualname
 params:fd.params=params
 body:fd.body=body
 scope:fd.scope=scope
 glob:fd.globals=mainGlobals
 blt:fd.builtins=builtinsNs
 clos:fd.closure=clos
 defs:fd.defaults=.none∧fd.kwdefaults=.none
section
variable{B:Bs}{A:Around}{s s':Shared}{g g':Gh}
theorem Ago.step{a:Addr}{fd:FuncData}{params:Arguments}{body:FuncBody}{scope:Scope}{clos:List (Str×Addr)}(m:Ago s.heap g a fd params body scope clos)(x:Aag B s g s' g'):Ago s'.heap g' a fd params body scope clos:=by refine Alo m.code fun c o e1 e2 e3 e4=>?_;refine⟨x.le _ _ m.obj,⟨c,o,e1,x.ext.keep _ _ e2 e3,e3,?_⟩,m.params,m.body,m.scope,m.glob,m.blt,m.clos,m.defs⟩;rw[e1] at e4 ⊢;exact AbG e4 e2 (x.ext.keep _ _ e2 e3)
theorem Aqw{names:Nat→Nat→Str}{tabs:List (Addr×Addr)}(TT:Aqv B names tabs)(I:Inv B s g){R:List (Addr×Addr)}(hR:∀ q∈tabs,q∈R)(X:AbQ B.G names R s.heap){c P:Addr}{pos:Pos}{qual:Str}{t:Sem Value}
  (hm:(c,P)∈R) (hn:names pos.line pos.col=qual) {Q:Value→Shared→Prop} {E:Value→Shared→Prop}
  (hit:∀ {ps:Array Value} {cv:Value} {Q:Value→Shared→Prop},s.heap.IsCode c P ps→codeAmong pos ps.toList=some cv→Q cv s→wpAny B.M A t Q E s)
  (miss:∀ {ps:Array Value} {Q:Value→Shared→Prop},s.heap.IsCode c P ps→s.heap.TableAt c P ps→codeAmong pos ps.toList=none →
   (∀ c' h' tk,Heap.ExtBut P s.heap h'→s.heap.objs.size≤c'→c'<h'.objs.size→h'.IsCode c P (ps++#[rawInt pos.line,rawInt pos.col,.ref c'])→h'.CodeRec (.ref c') qual →
    h'.TableAt c P (ps++#[rawInt pos.line,rawInt pos.col,.ref c'])→(∃ P',s.heap.objs.size≤P'∧h'.IsCode c' P' #[]∧h'.TableAt c' P' #[]) →
    Q (.ref c') {s with heap:=h',toks:=tk})→wpAny B.M A t Q E s)
  (h:∀ c' P' o s' R',Aag B s g s' g→AbQ B.G names R' s'.heap→(∀ q∈R,q∈R')→(c',P')∈R'→s'.heap.get? c'=some o→Abv o→s'.heap.CodeRec (.ref c') qual→Q (.ref c') s') :
  wpAny B.M A t Q E s:=by
 have hq:=hm;refine Aew (X.tab _ hq) fun ps e1 e2 e3=>?_;have C:=X.hd _ hq
 cases hf:codeAmong pos ps.toList with
 |some cv=>
  (refine Adp (e3 pos cv hf) fun c' P' q1 hm' hr=>?_;subst q1)
  refine Aew (CodeHd.obj (X.hd _ hm')) fun o f1 _ f3=>?_;exact hit (C.code e1 e2) hf (h c' P' o s R (Aag.refl I) X (fun _ hq=>hq) hm' f1 f3 (hn ▸ hr))
 |none=>
  refine miss (C.code e1 e2) (C.tab e1) hf fun c' h' tk hx hge hlt _ hrec htb ⟨P',hP',hic,hta⟩=>?_;have C':=CodeHd.of hic hta;have hne:P'≠P:=Nat.ne_of_gt (Nat.lt_of_lt_of_le (Heap.lt_size e1) hP');have hG:B.G.get? P'=none:=by
   cases e:B.G.get? P' with
   |none=>rfl
   |some o=>exact absurd (Heap.lt_size (I.real _ _ (I.base _ _ e))) (Nat.not_lt.mpr hP')
  have X':=X.grow hq e1 e2 hx hn hrec C' hta.2 hG hne htb.2;refine Aew (CodeHd.obj C') fun o f1 _ f3=>?_;exact h c' P' o _ _ (Aag.table I e1 (X.out _ hq) hx htb.2 ((TT _).mpr ⟨_,fun q hq=>.tail _ (hR q hq),X'⟩)) X' (fun _ hq=>.tail _ hq) (.head _) f1 f3 hrec
theorem AlB{names:Nat→Nat→Str}{tabs:List (Addr×Addr)}(TT:Aqv B names tabs)(I:Inv B s g){R:List (Addr×Addr)}(hR:∀ q∈tabs,q∈R)(X:AbQ B.G names R s.heap){env:Env}{c P:Addr}{pos:Pos}{firstLine:Nat}{name qual:Str}{p:Arguments}{scope:Scope}{body:FuncBody}
  (hcode:env.code=.ref c) (hm:(c,P)∈R) (hn:names pos.line pos.col=qual) {Q:Value→Shared→Prop} {E:Value→Shared→Prop}
  (h:∀ c' P' o s' R',Aag B s g s' g→AbQ B.G names R' s'.heap→(∀ q∈R,q∈R')→(c',P')∈R'→s'.heap.get? c'=some o→Abv o→s'.heap.CodeRec (.ref c') qual→Q (.ref c') s') :
  wpAny B.M A (functionCode env pos firstLine name qual p scope body) Q E s:=
 Aqw TT I hR X hm hn (fun hi hf hq=>wpAny_functionCode_hit hcode hi hf hq) (fun hi ht hf hk=>wpAny_functionCodeX hcode hi ht hf hk) h
theorem AnH(O:B.Ok)(hb:AvC B){names:Nat→Nat→Str}{tabs:List (Addr×Addr)}(TT:Aqv B names tabs)(I:Inv B s g){R:List (Addr×Addr)}(hR:∀ q∈tabs,q∈R)(X:AbQ B.G names R s.heap){env:Env}{c P:Addr}{pos:Pos}{firstLine:Nat}{name qual:Str}{params:Arguments}{scope:Scope}{body:FuncBody}
  {clos:List (Str×Addr)} (hcl:closureFor scope env=pure clos) (hge:env.globals=mainGlobals) (hcode:env.code=.ref c) (hm:(c,P)∈R) (hn:names pos.line pos.col=qual) {Q:Value→Shared→Prop} {E:Value→Shared→Prop}
  (h:∀ a fd s' g' R',Aag B s g s' g'→AbQ B.G names R' s'.heap→(∀ q∈R,q∈R')→s.heap.get? a=none→Ago s'.heap g' a fd params body scope clos→Q (.ref a) s') :
  wpAny B.M A (makeFunction name qual params body scope env [] [] [] pos firstLine) Q E s:=by
 refine AC0 hb fun bm ob b1 b2 b3 b4 b5 b6=>?_;rw[makeFunction_eq];simp only[List.zip_nil_right,List.filterMap_nil,List.isEmpty_nil,if_true,pure_bind];unfold makeTail;rw[hcl,hge];refine wpAny_bind (wpAny_pure ?_);have fin:∀ (s1 s2:Shared) (R2:List (Addr×Addr)) (x1:Aag B s g s1 g) (x2:Aag B s1 g s2 g) (X2:AbQ B.G names R2 s2.heap) (hR2:∀ q∈R,q∈R2) (c':Addr) (o:Obj) (f1:s2.heap.get? c'=some o) (f2:Abv o) (f3:s2.heap.CodeRec (.ref c') qual) (ctv doc:Value) (tk:Tok),
   wpAny B.M A (newObj (.type "function") (.func {name,qualname:=qual,params,body,scope,globals:=mainGlobals,closure:=clos,closureTuple:=ctv,code:=.ref c',builtins:=builtinsNs,defaults:=.none,kwdefaults:=.none,annotations:=none,pyModule:=(B.mg "__name__").getD .none,doc})) Q E {s2 with toks:=tk}:=by
  intro s1 s2 R2 x1 x2 X2 hR2 c' o f1 f2 f3 ctv doc tk;exact wpAny_newObj_type (h _ _ _ _ R2 ((x1.trans x2).trans ((Aag.tok x2.inv tk).trans (Aag.alloc O (x2.inv.tok tk) rfl (Aap rfl)))) (X2.keeps fun a o e _=>Heap.get?_push_of_some _ e) hR2 ((x1.trans x2).ext.dead (Aa1 _)) ⟨Gh.put_self ..,⟨c',o,rfl,Heap.get?_push_of_some _ f1,f2,f3.push _⟩,rfl,rfl,rfl,rfl,rfl,rfl,rfl,rfl⟩) (by size_fits)
 induction clos using List.casesOn with
 |nil=>
  simp only[List.isEmpty_nil,if_true];refine wpAny_bind (wpAny_pure ?_);refine wpAny_bind (AlB TT I hR X hcode hm hn fun c' P' o s2 R2 x2 X2 hR2 _ f1 f2 f3=>?_);have hg:=x2.inv.ns O.g;refine wpAny_bind (wpAny_builtinsFor hg b1 b2 (x2.inv.real _ _ (x2.inv.base _ _ b3)) b4 b5 b6 ?_);refine wpAny_bind (wpAny_nsGet hg ?_)
  cases body with
  |expr e=>exact wpAny_bind (wpAny_pure (fin _ _ R2 (Aag.refl I) x2 X2 hR2 c' o f1 f2 f3 _ .none s2.toks))
  |stmts b=>
   refine wpAny_bind ?_
   cases hdoc:docOf b with
   |none=>exact wpAny_pure (fin _ _ R2 (Aag.refl I) x2 X2 hR2 c' o f1 f2 f3 _ .none s2.toks)
   |some t=>exact wpAny_mkText (fin _ _ R2 (Aag.refl I) x2 X2 hR2 c' o f1 f2 f3 _ _ _)
 |cons q r=>
  simp only[List.isEmpty_cons,Bool.false_eq_true,if_false];refine wpAny_bind (wpAny_newTextTuple ?_);refine wpAny_bind (AlB TT (Aag.open O I).inv hR (X.keeps fun a o e _=>Heap.get?_push_of_some _ e) hcode hm hn fun c' P' o s2 R2 x2 X2 hR2 _ f1 f2 f3=>?_);have hg:=x2.inv.ns O.g;refine wpAny_bind (wpAny_builtinsFor hg b1 b2 (x2.inv.real _ _ (x2.inv.base _ _ b3)) b4 b5 b6 ?_);refine wpAny_bind (wpAny_nsGet hg ?_)
  cases body with
  |expr e=>exact wpAny_bind (wpAny_pure (fin _ _ R2 (Aag.open O I) x2 X2 hR2 c' o f1 f2 f3 _ .none s2.toks))
  |stmts b=>
   refine wpAny_bind ?_
   cases hdoc:docOf b with
   |none=>exact wpAny_pure (fin _ _ R2 (Aag.open O I) x2 X2 hR2 c' o f1 f2 f3 _ .none s2.toks)
   |some t=>exact wpAny_mkText (fin _ _ R2 (Aag.open O I) x2 X2 hR2 c' o f1 f2 f3 _ _ _)
theorem Aqx(O:B.Ok)(hb:AvC B){names:Nat→Nat→Str}{tabs:List (Addr×Addr)}(TT:Aqv B names tabs)(I:Inv B s g){env:Env}{c P:Addr}{pos:Pos}{firstLine:Nat}{name qual:Str}{params:Arguments}{scope:Scope}{body:FuncBody}
  {clos:List (Str×Addr)} (hcl:closureFor scope env=pure clos) (hge:env.globals=mainGlobals) (hcode:env.code=.ref c) (hm:(c,P)∈tabs) (hn:names pos.line pos.col=qual) {Q:Value→Shared→Prop} {E:Value→Shared→Prop}
  (h:∀ a fd s' g',Aag B s g s' g'→Ago s'.heap g' a fd params body scope clos→Q (.ref a) s') :
  wpAny B.M A (makeFunction name qual params body scope env [] [] [] pos firstLine) Q E s:=by
 refine Aaf ((TT _).mp I.tb) fun R hR X=>?_;exact AnH O hb TT I hR X hcl hge hcode (hR _ hm) hn fun a fd s' g' R' x _ _ _ m=>h a fd s' g' x m
end
section
variable{B:Bs}{A:Around}{s s':Shared}{g g':Gh}
noncomputable def Ada(h:Heap)(g:Gh)(names:List (Str×NameKind))(cl:List (Str×Addr))(σ:Rho):Prop:=
 (∀ x,names.lookup x=some .free→∃ c v,cl.lookup x=some c∧h.IsCell c v)∧(∀ x c,cl.lookup x=some c→∃ v,h.IsCell c v) ∧
 ∀ x d,σ.lookup x=some d→(x,NameKind.cell) ∉ names∧names.lookup x=some .free∧∃ c v,cl.lookup x=some c∧h.IsCell c (some v)∧Den g v d
theorem Ada.step{names:List (Str×NameKind)}{cl:List (Str×Addr)}{σ:Rho}(C:Ada s.heap g names cl σ)(x:Aag B s g s' g'):Ada s'.heap g' names cl σ:=by
 refine⟨fun y e=>?_,fun y c e=>?_,fun y d e=>?_⟩
 ·refine Afx (C.1 y e) fun c v e1 e2=>?_;exact⟨c,v,e1,AcY e2 x.ext⟩
 ·refine Abo (C.2.1 y c e) fun v e2=>?_;exact⟨v,AcY e2 x.ext⟩
 ·obtain⟨e0,e1,c,v,e2,e3,e4⟩:=C.2.2 y d e;exact⟨e0,e1,c,v,e2,AcY e3 x.ext,e4.mono x.le⟩
theorem AhM(O:B.Ok)(I:Inv B s g){scope:Scope}{qual:Str}{func:Option Addr}{code:Value}{xs:List Str}{vs:List Value}{ds:List D}{Q:Env→Shared→Prop}{cl:List (Str×Addr)}{σ:Rho}
  (hk:scope.kind=.function) (C:Ada s.heap g scope.names cl σ) (hx:∀ x∈xs,scope.names.lookup x=some .local∨scope.names.lookup x=some .cell) (hl:xs.length=ds.length) (hv:Aav g vs ds)
  (h:∀ env s',env.scope=scope→env.code=code→env.qual=qual→Fm B s g (Aam scope.names) env ((xs.zip ds).reverse++σ) s' g→Q env s') :
  wpAny B.M A (newFunctionEnv scope mainGlobals cl (xs.zip vs) qual func code none builtinsNs) Q (fun _ _=>False) s:=by
 simp only[newFunctionEnv,Option.isSome_none,Bool.false_eq_true,if_false];refine wpAny_bind (wpAny_alloc ?_);refine wpAny_bind (wpAny_layCells _ (fun name kind cells=>by cases hkc:kind == NameKind.cell<;>simp) _ _ _ _ ?_);rw[show({s with heap:=s.heap.push {cls:=.type "frame",data:=.dict #[]}}:Shared).heap.objs.size=s.heap.objs.size+1 from Heap.size_push ..];have kf:∀ x,scope.names.lookup x=some .cell→(x,NameKind.cell)∈scope.names:=fun x e=>PySem.mem_of_lookup e;have F:=Ant (names:=scope.names) (cl:=cl) (ρ:=σ) (cls:=.type "frame") (env:=newEnv scope s.heap.objs.size mainGlobals (cellsFrom (s.heap.objs.size+1) scope.names cl) qual func code none builtinsNs) O I rfl rfl hk rfl rfl
  (fun x e=>e.elim (fun e=>.inl (kf x e)) fun e=>.inr (C.1 x e)) (fun x c e=>by refine Afx (C.2.1 x c e) fun v o e2 _=>?_;exact Heap.lt_size e2)
  (fun x d e=>by refine AjX (C.2.2 x d e) fun e0 e1 r=>?_;exact⟨e0,.inr e1,r⟩)
 refine wpAny_bind ?_;refine Fm.binds O _ (fun _ _ _=>rfl) xs vs ds _ _ _ F hv hl (fun x hxx=>?_) fun s' F'=>wpAny_pure (h _ s' rfl rfl rfl F')
 rcases hx x hxx with e|e
 ·exact .inl e
 ·exact .inr ⟨e,Aey.mpr (kf x e)⟩
noncomputable def AeI(sc:Scope)(params:List Str):Bool:=
 decide (sc.kind=.function) && !sc.isGenerator && !sc.isCoroutine && params.all (fun x=>sc.names.lookup x == some .local || sc.names.lookup x == some .cell)
theorem Adr{sc:Scope}{params:List Str}(h:AeI sc params=true):sc.kind=.function∧sc.isGenerator=false∧sc.isCoroutine=false∧∀ x∈params,sc.names.lookup x=some .local∨sc.names.lookup x=some .cell:=by unfold AeI at h;simp only[Bool.and_eq_true,decide_eq_true_eq,Bool.not_eq_true',List.all_eq_true,Bool.or_eq_true,beq_iff_eq] at h;refine AaG h fun z1 h5=>?_;obtain⟨⟨h1,h2⟩,h3⟩:=z1;exact⟨h1,h2,h3,h5⟩
noncomputable def AmN(params:Arguments)(xs:List Str):Prop:=∀ (fd:FuncData) (vs:List Value),fd.params=params→fd.defaults=.none→fd.kwdefaults=.none→vs.length=xs.length→bindArgs fd ⟨vs,[]⟩=pure (xs.zip vs)
variable{n:Nat}
theorem AnI(O:B.Ok){a:Addr}{fd:FuncData}{params:Arguments}{xs:List Str}{body:List Stmt}{scope:Scope}{cl:List (Str×Addr)}{σ:Rho}(Md:Ago s.heap g a fd params (.stmts body) scope cl)(hb:AmN params xs)(hs:AeI scope xs=true)(C:Ada s.heap g scope.names cl σ)
  {vs:List Value} {ds:List D} (hA:AOk (n+1) A) (I:Inv B s g) (hd:Aav g vs ds) (hl:xs.length=ds.length) {P:Gh→Value→Prop}
  (h:∀ env s',env.scope=scope→env.code=fd.code→Fm B s g (Aam scope.names) env ((xs.zip ds).reverse++σ) s' g →
   wpAny B.M (A.deeper env) (execs body env) (fun f s''=>∃ g',Aag B s g s'' g'∧P g' (match f with|.ret v=>v|_=>.none)) (fun _ _=>False) s') :
  Aaq B A s g (call (.ref a) vs) P:=by
 refine Alo Md.code fun c o _ _ _ hcd=>?_;refine Aoa (Adr hs) fun h1 h2 h3 h5=>?_;refine wpAny_call (codeAny_call_function hA.dlt (I.get Md.obj) rfl (by rw[Md.scope];exact h3) (by rw[Md.scope];exact h2) Md.body hcd ?_);rw[hb fd vs Md.params Md.defs.1 Md.defs.2 (by rw[hd.length,hl])];refine wpAny_pure ?_;rw[Md.glob,Md.clos,Md.blt,Md.scope];refine wpAny_mono (AhM O I h1 C h5 hl hd (Q:=fun env s'=>s'.heap.NoLimit∧codeAny B.M A (.func body env) (fun r s'=>match r with|.ok (.ret v)=>∃ g',Aag B s g s' g'∧P g' v|.ok _=>False|.error e=>False) s') fun env s' e1 e2 e3 F=>⟨?_,?_⟩) (fun _ _ h=>h) fun _ _ h=>h.elim
 ·refine Aaf O.lim fun mc hmc hno=>?_;exact⟨mc,F.inv.ns hmc,hno⟩
 ·exact codeAny_func (wpAny_mono (h env s' e1 e2 F) (fun f s'' h=>h) fun _ _ h=>h.elim)
theorem Awy(O:B.Ok){a:Addr}{fd:FuncData}{params:Arguments}{xs:List Str}{body:Expr}{scope:Scope}{cl:List (Str×Addr)}{σ:Rho}(Md:Ago s.heap g a fd params (.expr body) scope cl)(hb:AmN params xs)(hs:AeI scope xs=true)(C:Ada s.heap g scope.names cl σ)
  {vs:List Value} {ds:List D} (hA:AOk (n+1) A) (I:Inv B s g) (hd:Aav g vs ds) (hl:xs.length=ds.length) {P:Gh→Value→Prop}
  (h:∀ env s',env.scope=scope→env.code=fd.code→Fm B s g (Aam scope.names) env ((xs.zip ds).reverse++σ) s' g→Aaq B (A.deeper env) s' g (eval body env) P) :
  Aaq B A s g (call (.ref a) vs) P:=by
 refine Alo Md.code fun c o _ _ _ hcd=>?_;refine Aoa (Adr hs) fun h1 h2 h3 h5=>?_;refine wpAny_call (kla_callFunE hA.dlt (I.get Md.obj) rfl (by rw[Md.scope];exact h3) (by rw[Md.scope];exact h2) Md.body hcd ?_);rw[hb fd vs Md.params Md.defs.1 Md.defs.2 (by rw[hd.length,hl])];refine wpAny_pure ?_;rw[Md.glob,Md.clos,Md.blt,Md.scope];refine wpAny_mono (AhM O I h1 C h5 hl hd (Q:=fun env s'=>s'.heap.NoLimit∧codeAny B.M A (.expr body env) (fun r s'=>match r with|.ok (.ret v)=>∃ g',Aag B s g s' g'∧P g' v|.ok _=>False|.error e=>False) s') fun env s' e1 e2 e3 F=>⟨?_,?_⟩) (fun _ _ h=>h) fun _ _ h=>h.elim
 ·refine Aaf O.lim fun mc hmc hno=>?_;exact⟨mc,F.inv.ns hmc,hno⟩
 ·exact kla_codeExpr (wpAny_mono ((h env s' e1 e2 F).from F.st) (fun f s'' h=>h) fun _ _ h=>h.elim)
end
open MeetsSeq
noncomputable def Ads:List Str→List Str→Bool
 |[],[]=>false
 |[],_ :: _=>true
 |_ :: _,[]=>false
 |x :: xs,y :: ys=>if x=y then Ads xs ys else decide (x.cps.toList<y.cps.toList)
theorem Acx{l:List (Str×Tok)}{i:Nat}(h:l[i]?=none):(strValues l)[i]?=none:=by unfold strValues;rw[List.getElem?_map,h];rfl
theorem Acy{l:List (Str×Tok)}{i:Nat}{p:Str×Tok}(h:l[i]?=some p):(strValues l)[i]?=some (.str p.1 p.2):=by unfold strValues;rw[List.getElem?_map,h];rfl
theorem AbR{α:Type}{l:List α}{i:Nat}{x:α}(h:l[i]?=some x):l.drop i=x :: l.drop (i+1):=by refine Abo (List.getElem?_eq_some_iff.mp h) fun hi q1=>?_;subst q1;exact List.drop_eq_getElem_cons hi
theorem Acd{α:Type}{l:List α}{i:Nat}(h:l[i]?=none):l.drop i=[]:=by rw[List.getElem?_eq_none_iff] at h;exact List.drop_eq_nil_of_le h
section
variable{prog:Program}{w:World}{A:Around}{E:Value→Shared→Prop}{s:Shared}
theorem Ah4{x y:Str}{t u:Tok}{Q:Value→Shared→Prop}(h:Q (.bool (decide (x.cps.toList<y.cps.toList))) s):wpAny (model prog w) A (richCompare .Lt (.str x t) (.str y u)) Q E s:=
 PyProof.Rows.lt_str h
theorem Ah5{x y:Str}{t u:Tok}{Q:Value→Shared→Prop}(h:Q (.bool (decide (y.cps.toList<x.cps.toList))) s):wpAny (model prog w) A (richCompare .Gt (.str x t) (.str y u)) Q E s:=
 P.gt_str h
end
theorem Awz(l b:Addr)(xs ys:List (Str×Tok))(n n2:Nat) :
  ∀ (k i:Nat),xs.length - i=k→i≤xs.length→i≤ys.length→Meets (Builtin.«list.__eq__.loop» ⟨[.ref l,.ref b,rawInt i,rawInt 0],[]⟩)
   (fun _ R s=>s.heap.get? l=some {cls:=.type "list",dict:=none,data:=.seq (strValues xs).toArray n,slots:=#[]}∧s.heap.get? b=some {cls:=.type "list",dict:=none,data:=.seq (strValues ys).toArray n2,slots:=#[]} ∧
    R (.ok (.ret (.bool (Ads ((xs.drop i).map (·.1)) ((ys.drop i).map (·.1)))))) s):=by
 have sz:∀ l:List (Str×Tok),(strValues l).toArray.size=l.length:=fun l=>by simp [strValues]
 have stop:∀ i:Nat,(xs[i]?=none∨ys[i]?=none)→Meets (Builtin.«list.__eq__.loop» ⟨[.ref l,.ref b,rawInt i,rawInt 0],[]⟩)
   (fun _ R s=>s.heap.get? l=some {cls:=.type "list",dict:=none,data:=.seq (strValues xs).toArray n,slots:=#[]}∧s.heap.get? b=some {cls:=.type "list",dict:=none,data:=.seq (strValues ys).toArray n2,slots:=#[]} ∧
    (i≤xs.length∧i≤ys.length)∧R (.ok (.ret (.bool (Ads ((xs.drop i).map (·.1)) ((ys.drop i).map (·.1)))))) s):=by
  intro i hi prog w A R s h
  obtain⟨hp,g,d,tk,os⟩:=s;refine Aoa h fun hl hb hle h=>?_
  wp_walk using wpAny_loadPart' hl,wpAny_loadPart' hb
  have fin:decide ((strValues xs).toArray.size<(strValues ys).toArray.size)=Ads ((xs.drop i).map (·.1)) ((ys.drop i).map (·.1)):=by
   rw[sz,sz]
   cases e1:xs[i]? with
   |none=>
    have h1:=List.getElem?_eq_none_iff.mp e1;rw[Acd e1]
    cases e2:ys[i]? with
    |none=>rw[Acd e2];have:=List.getElem?_eq_none_iff.mp e2;exact decide_eq_false (by omega)
    |some q=>rw[AbR e2];have:=(List.getElem?_eq_some_iff.mp e2).1;exact decide_eq_true (by omega)
   |some p=>
    have h1:=(List.getElem?_eq_some_iff.mp e1).1;have e2:ys[i]?=none:=hi.resolve_left (by rw[e1];simp);have h2:=List.getElem?_eq_none_iff.mp e2;rw[AbR e1,Acd e2];exact decide_eq_false (by omega)
  rw[← fin] at h
  cases e1:(strValues xs).toArray[((i:Nat):Int).toNat]? with
  |none=>
   wp_walk using wpAny_loadPart' hl,wpAny_loadPart' hb
   exact h
  |some p=>
   have e2:(strValues ys).toArray[((i:Nat):Int).toNat]?=none:=by
    rcases hi with hi|hi
    ·have:=Acx hi;simp [this] at e1
    ·have:=Acx hi;simpa using this
   rw[e2]
   wp_walk using wpAny_loadPart' hl,wpAny_loadPart' hb
   exact h
 have main:∀ (k i:Nat),xs.length - i=k→i≤xs.length→i≤ys.length→Meets (Builtin.«list.__eq__.loop» ⟨[.ref l,.ref b,rawInt i,rawInt 0],[]⟩)
   (fun _ R s=>s.heap.get? l=some {cls:=.type "list",dict:=none,data:=.seq (strValues xs).toArray n,slots:=#[]}∧s.heap.get? b=some {cls:=.type "list",dict:=none,data:=.seq (strValues ys).toArray n2,slots:=#[]} ∧
    R (.ok (.ret (.bool (Ads ((xs.drop i).map (·.1)) ((ys.drop i).map (·.1)))))) s):=by
  intro k;induction k with
  |zero=>
   intro i hk h1 h2 prog w A R s h;exact stop i (.inl (List.getElem?_eq_none_iff.mpr (Nat.le_of_sub_eq_zero hk))) prog w A R s ⟨h.1,h.2.1,⟨h1,h2⟩,h.2.2⟩
  |succ k ih=>
   intro i hk h1 h2 prog w A R s h
   by_cases hy:i<ys.length
   ·obtain⟨hp,g,d,tk,os⟩:=s;refine AjX h fun hl hb h=>?_
    have hx:i<xs.length:=Nat.lt_of_sub_pos (by rw[hk];exact Nat.succ_pos _)
    obtain⟨p,ep⟩:∃ p,xs[i]?=some p:=⟨_,List.getElem?_eq_getElem hx⟩
    obtain⟨q,eq⟩:∃ q,ys[i]?=some q:=⟨_,List.getElem?_eq_getElem hy⟩
    have i1:(strValues xs).toArray[((i:Nat):Int).toNat]?=some (.str p.1 p.2):=by have:=Acy ep;simpa using this
    have i2:(strValues ys).toArray[((i:Nat):Int).toNat]?=some (.str q.1 q.2):=by have:=Acy eq;simpa using this
    have hc:((i:Int)+1)=((i+1:Nat):Int):=by push_cast;rfl
    rw[AbR ep,AbR eq] at h
    change R (.ok (.ret (.bool (if p.1=q.1 then Ads ((xs.drop (i+1)).map (·.1)) ((ys.drop (i+1)).map (·.1)) else decide (p.1.cps.toList<q.1.cps.toList))))) _ at h
    wp_walk using wpAny_loadPart' hl,wpAny_loadPart' hb
    rw[i1,i2];refine wpAny_bind (wpAny_eqBool_str ?_)
    by_cases he:p.1=q.1
    ·rw[if_pos he] at h;rw[decide_eq_true he]
     wp_walk
     rw[hc];exact⟨plainId_quiet MeetsSeq3.plain_eq_loop _,codeAny_builtin MeetsSeq3.entry_eq_loop (by
      rw[Around.under_plainId MeetsSeq3.plain_eq_loop _];exact ih (i+1) (by rw[Nat.sub_succ,hk];rfl) hx hy prog w A R _ ⟨hl,hb,h⟩)⟩
    ·rw[if_neg he] at h;rw[decide_eq_false he]
     wp_walk using wpAny_loadPart' hl,wpAny_loadPart' hb
     rw[i1,i2];dsimp only;refine wpAny_bind (Ah4 ?_);exact wpAny_pure h
   ·exact stop i (.inr (List.getElem?_eq_none_iff.mpr (Nat.le_of_not_lt hy))) prog w A R s ⟨h.1,h.2.1,⟨h1,h2⟩,h.2.2⟩
 exact main
theorem AwA(l b:Addr)(xs ys:List (Str×Tok))(n n2:Nat) :
  ∀ (k i:Nat),xs.length - i=k→i≤xs.length→i≤ys.length→Meets (Builtin.«list.__eq__.loop» ⟨[.ref l,.ref b,rawInt i,rawInt 4],[]⟩)
   (fun _ R s=>s.heap.get? l=some {cls:=.type "list",dict:=none,data:=.seq (strValues xs).toArray n,slots:=#[]}∧s.heap.get? b=some {cls:=.type "list",dict:=none,data:=.seq (strValues ys).toArray n2,slots:=#[]} ∧
    R (.ok (.ret (.bool (Ads ((ys.drop i).map (·.1)) ((xs.drop i).map (·.1)))))) s):=by
 have sz:∀ l:List (Str×Tok),(strValues l).toArray.size=l.length:=fun l=>by simp [strValues]
 have stop:∀ i:Nat,(xs[i]?=none∨ys[i]?=none)→Meets (Builtin.«list.__eq__.loop» ⟨[.ref l,.ref b,rawInt i,rawInt 4],[]⟩)
   (fun _ R s=>s.heap.get? l=some {cls:=.type "list",dict:=none,data:=.seq (strValues xs).toArray n,slots:=#[]}∧s.heap.get? b=some {cls:=.type "list",dict:=none,data:=.seq (strValues ys).toArray n2,slots:=#[]} ∧
    (i≤xs.length∧i≤ys.length)∧R (.ok (.ret (.bool (Ads ((ys.drop i).map (·.1)) ((xs.drop i).map (·.1)))))) s):=by
  intro i hi prog w A R s h
  obtain⟨hp,g,d,tk,os⟩:=s;refine Aoa h fun hl hb hle h=>?_
  wp_walk using wpAny_loadPart' hl,wpAny_loadPart' hb
  have fin:decide ((strValues xs).toArray.size > (strValues ys).toArray.size)=Ads ((ys.drop i).map (·.1)) ((xs.drop i).map (·.1)):=by
   rw[sz,sz]
   cases e1:xs[i]? with
   |none=>
    have h1:=List.getElem?_eq_none_iff.mp e1;rw[Acd e1]
    cases e2:ys[i]? with
    |none=>rw[Acd e2];have:=List.getElem?_eq_none_iff.mp e2;exact decide_eq_false (by omega)
    |some q=>rw[AbR e2];have:=(List.getElem?_eq_some_iff.mp e2).1;exact decide_eq_false (by omega)
   |some p=>
    have h1:=(List.getElem?_eq_some_iff.mp e1).1;have e2:ys[i]?=none:=hi.resolve_left (by rw[e1];simp);have h2:=List.getElem?_eq_none_iff.mp e2;rw[AbR e1,Acd e2];exact decide_eq_true (by omega)
  rw[← fin] at h
  cases e1:(strValues xs).toArray[((i:Nat):Int).toNat]? with
  |none=>
   wp_walk using wpAny_loadPart' hl,wpAny_loadPart' hb
   exact h
  |some p=>
   have e2:(strValues ys).toArray[((i:Nat):Int).toNat]?=none:=by
    rcases hi with hi|hi
    ·have:=Acx hi;simp [this] at e1
    ·have:=Acx hi;simpa using this
   rw[e2]
   wp_walk using wpAny_loadPart' hl,wpAny_loadPart' hb
   exact h
 have main:∀ (k i:Nat),xs.length - i=k→i≤xs.length→i≤ys.length→Meets (Builtin.«list.__eq__.loop» ⟨[.ref l,.ref b,rawInt i,rawInt 4],[]⟩)
   (fun _ R s=>s.heap.get? l=some {cls:=.type "list",dict:=none,data:=.seq (strValues xs).toArray n,slots:=#[]}∧s.heap.get? b=some {cls:=.type "list",dict:=none,data:=.seq (strValues ys).toArray n2,slots:=#[]} ∧
    R (.ok (.ret (.bool (Ads ((ys.drop i).map (·.1)) ((xs.drop i).map (·.1)))))) s):=by
  intro k;induction k with
  |zero=>
   intro i hk h1 h2 prog w A R s h;exact stop i (.inl (List.getElem?_eq_none_iff.mpr (Nat.le_of_sub_eq_zero hk))) prog w A R s ⟨h.1,h.2.1,⟨h1,h2⟩,h.2.2⟩
  |succ k ih=>
   intro i hk h1 h2 prog w A R s h
   by_cases hy:i<ys.length
   ·obtain⟨hp,g,d,tk,os⟩:=s;refine AjX h fun hl hb h=>?_
    have hx:i<xs.length:=Nat.lt_of_sub_pos (by rw[hk];exact Nat.succ_pos _)
    obtain⟨p,ep⟩:∃ p,xs[i]?=some p:=⟨_,List.getElem?_eq_getElem hx⟩
    obtain⟨q,eq⟩:∃ q,ys[i]?=some q:=⟨_,List.getElem?_eq_getElem hy⟩
    have i1:(strValues xs).toArray[((i:Nat):Int).toNat]?=some (.str p.1 p.2):=by have:=Acy ep;simpa using this
    have i2:(strValues ys).toArray[((i:Nat):Int).toNat]?=some (.str q.1 q.2):=by have:=Acy eq;simpa using this
    have hc:((i:Int)+1)=((i+1:Nat):Int):=by push_cast;rfl
    rw[AbR ep,AbR eq] at h
    change R (.ok (.ret (.bool (if q.1=p.1 then Ads ((ys.drop (i+1)).map (·.1)) ((xs.drop (i+1)).map (·.1)) else decide (q.1.cps.toList<p.1.cps.toList))))) _ at h
    wp_walk using wpAny_loadPart' hl,wpAny_loadPart' hb
    rw[i1,i2];refine wpAny_bind (wpAny_eqBool_str ?_)
    by_cases he:p.1=q.1
    ·rw[if_pos he.symm] at h;rw[decide_eq_true he]
     wp_walk
     rw[hc];exact⟨plainId_quiet MeetsSeq3.plain_eq_loop _,codeAny_builtin MeetsSeq3.entry_eq_loop (by
      rw[Around.under_plainId MeetsSeq3.plain_eq_loop _];exact ih (i+1) (by rw[Nat.sub_succ,hk];rfl) hx hy prog w A R _ ⟨hl,hb,h⟩)⟩
    ·rw[if_neg fun e=>he e.symm] at h;rw[decide_eq_false he]
     wp_walk using wpAny_loadPart' hl,wpAny_loadPart' hb
     rw[i1,i2];dsimp only;refine wpAny_bind (Ah5 ?_);exact wpAny_pure h
   ·exact stop i (.inr (List.getElem?_eq_none_iff.mpr (Nat.le_of_not_lt hy))) prog w A R s ⟨h.1,h.2.1,⟨h1,h2⟩,h.2.2⟩
 exact main
theorem AwB(l b:Addr)(xs ys:List (Str×Tok))(n n2:Nat):Meets (Builtin.«list.__lt__» ⟨[.ref l,.ref b],[]⟩)
   (fun _ R s=>s.heap.get? l=some {cls:=.type "list",dict:=none,data:=.seq (strValues xs).toArray n,slots:=#[]}∧s.heap.get? b=some {cls:=.type "list",dict:=none,data:=.seq (strValues ys).toArray n2,slots:=#[]} ∧
    R (.ok (.ret (.bool (Ads (xs.map (·.1)) (ys.map (·.1)))))) s):=by
 intro prog w A R s h
 obtain⟨hp,g,d,tk,os⟩:=s;refine AjX h fun hl hb h=>?_
 have f3:=AutoSeq1.sub_list_list
 wp_walk using wpAny_loadPart' hl,wpAny_loadPart' hb
 exact⟨plainId_quiet MeetsSeq3.plain_eq_loop _,codeAny_builtin MeetsSeq3.entry_eq_loop (by
  rw[Around.under_plainId MeetsSeq3.plain_eq_loop _];exact Awz l b xs ys n n2 _ 0 rfl (Nat.zero_le _) (Nat.zero_le _) prog w A R _ ⟨hl,hb,h⟩)⟩
theorem AwC(l b:Addr)(xs ys:List (Str×Tok))(n n2:Nat):Meets (Builtin.«list.__gt__» ⟨[.ref l,.ref b],[]⟩)
   (fun _ R s=>s.heap.get? l=some {cls:=.type "list",dict:=none,data:=.seq (strValues xs).toArray n,slots:=#[]}∧s.heap.get? b=some {cls:=.type "list",dict:=none,data:=.seq (strValues ys).toArray n2,slots:=#[]} ∧
    R (.ok (.ret (.bool (Ads (ys.map (·.1)) (xs.map (·.1)))))) s):=by
 intro prog w A R s h
 obtain⟨hp,g,d,tk,os⟩:=s;refine AjX h fun hl hb h=>?_
 have f3:=AutoSeq1.sub_list_list
 wp_walk using wpAny_loadPart' hl,wpAny_loadPart' hb
 exact⟨plainId_quiet MeetsSeq3.plain_eq_loop _,codeAny_builtin MeetsSeq3.entry_eq_loop (by
  rw[Around.under_plainId MeetsSeq3.plain_eq_loop _];exact AwA l b xs ys n n2 _ 0 rfl (Nat.zero_le _) (Nat.zero_le _) prog w A R _ ⟨hl,hb,h⟩)⟩
noncomputable def ltD(a b:D):Option Bool:=match a with
 |.int i=>Aci b fun j=>some (decide (i<j))
 |.str x=>Ad0 b fun y=>some (decide (x.cps.toList<y.cps.toList))
 |.list l=>Adq b fun m=>(Ah0 l).bind fun xs=>(Ah0 m).bind fun ys=>some (Ads xs ys)
 |_=>none
section
variable{B:Bs}{A:Around}{s:Shared}{g:Gh}
theorem Aj7{vs:Array Value}{l:List Value}(h:vs.toList=l):vs=l.toArray:=by rw[← h]
theorem AlC(I:Inv B s g){va vb:Value}{l m:List D}{xs ys:List Str}(ha:Den g va (.list l))(hb:Den g vb (.list m))(e1:Ah0 l=some xs)(e2:Ah0 m=some ys) :
  ∃ a b l1 l2 n1 n2,va=.ref a∧vb=.ref b∧s.heap.get? a=some {cls:=.type "list",dict:=none,data:=.seq (strValues l1).toArray n1,slots:=#[]}∧s.heap.get? b=some {cls:=.type "list",dict:=none,data:=.seq (strValues l2).toArray n2,slots:=#[]}∧l1.map (·.1)=xs∧l2.map (·.1)=ys:=by
 induction ha using Den.listE with|list h1 h2=>?_
 induction hb using Den.listE with|list h3 h4=>?_
 refine Aaf (AeH h2 e1) fun l1 q1 r1=>?_;refine Aaf (AeH h4 e2) fun l2 q2 r2=>?_;rw[Aj7 q1] at h1;rw[Aj7 q2] at h3;exact⟨_,_,l1,l2,_,_,rfl,rfl,I.get h1,I.get h3,r1,r2⟩
theorem AwD(hu:A.units<cLine)(I:Inv B s g){va vb:Value}{a b:D}{c:Bool}(ha:Den g va a)(hb:Den g vb b)(h:ltD a b=some c):Aaq B A s g (richCompare .Lt va vb) fun _ v=>v=.bool c:=by
 induction a using D.casesOn with
 |int i=>
  (refine Aaf (Aas h) fun j q2 k=>?_;subst q2)
  rw[← sj k];induction ha using Den.intE;induction hb using Den.intE;exact lt_int ⟨g,Aag.refl I,rfl⟩
 |str x=>
  (refine Aaf (AaY h) fun y q3 k=>?_;subst q3)
  rw[← sj k];induction ha using Den.strE;induction hb using Den.strE;exact Ah4 ⟨g,Aag.refl I,rfl⟩
 |list l=>
  (refine Aaf (Abd h) fun m q4 k=>?_;subst q4)
  refine Aaf (Aak k) fun xs e1 k1=>?_;refine Aaf (Aak k1) fun ys e2 k2=>?_;rw[← sj k2];refine AC3 (AlC I ha hb e1 e2) fun a b l1 l2 n1 n2 q5 q6 h1 h3 r1 r2=>?_;subst q5;subst q6;exact richCompare_meets_room (T:="list") ⟨_,h1,rfl⟩ ⟨_,h3,rfl⟩ F.slot_list_lt F.entry_list_lt (F.args_list_lt_2 _ _) (AwB _ _ l1 l2 _ _) ⟨h1,h3,(fun e=>nomatch e),g,Aag.refl I,by rw[r1,r2]⟩ hu
 |_=>exact Aah h
theorem AwE(hu:A.units<cLine)(I:Inv B s g){va vb:Value}{a b:D}{c:Bool}(ha:Den g va a)(hb:Den g vb b)(h:ltD b a=some c):Aaq B A s g (richCompare .Gt va vb) fun _ v=>v=.bool c:=by
 induction b using D.casesOn with
 |int i=>
  (refine Aaf (Aas h) fun j q7 k=>?_;subst q7)
  rw[← sj k];induction ha using Den.intE;induction hb using Den.intE;exact PyProof.Rows.gt_int ⟨g,Aag.refl I,rfl⟩
 |str x=>
  (refine Aaf (AaY h) fun y q8 k=>?_;subst q8)
  rw[← sj k];induction ha using Den.strE;induction hb using Den.strE;exact Ah5 ⟨g,Aag.refl I,rfl⟩
 |list l=>
  (refine Aaf (Abd h) fun m q9 k=>?_;subst q9)
  refine Aaf (Aak k) fun xs e1 k1=>?_;refine Aaf (Aak k1) fun ys e2 k2=>?_;rw[← sj k2];refine AC3 (AlC I ha hb e2 e1) fun a b l1 l2 n1 n2 q10 q11 h1 h3 r1 r2=>?_;subst q10;subst q11;exact richCompare_meets_room (T:="list") ⟨_,h1,rfl⟩ ⟨_,h3,rfl⟩ F.slot_list_gt F.entry_list_gt (F.args_list_gt_2 _ _) (AwC _ _ l1 l2 _ _) ⟨h1,h3,(fun e=>nomatch e),g,Aag.refl I,by rw[r1,r2]⟩ hu
 |_=>exact Aah h
end
end Mine
namespace Mine
open PySem PySem.W PyProof.Rows PySem.W.X
noncomputable def Aon(lt:D→D→Option Bool)(b:D):List D→Option D
 |[]=>some b
 |d :: ds=>(lt d b).bind fun c=>Aon lt (if c=true then d else b) ds
noncomputable abbrev AnJ(nm:String)(op:CmpOp)(it:Value)(S:Addr):Sem Fin:=(do
   let old:=((← seqItems? (.ref S)).getD #[]).toList
   let failing {α:Type} (first:List Value) (m:Sem α):Sem α:=m.tryCatch fun e=>do
    updateSeq S fun _=>#[]
    letGo (first++old.reverse) [e]
    throw e
   match ← failing [] (pyNext it) with
   |none=>
    match old,([]:List (Str×Value)) with
    |[item,val],_=>updateSeq S fun _=>#[];letGo [val] [item];ret item
    |_,(_,d) :: _=>rule s!"{nm}.default";ret d
    |_,[]=>rule s!"{nm}.empty";raiseError "ValueError" s!"{nm}() iterable argument is empty"
   |some item=>
    let val ← pure item
    match old with
    |[oldItem,oldVal]=>
     let better ← failing [val,item] <| holding [item,val] do
      let answer ← richCompare op val oldVal
      let yes ← holding [answer] (truthy answer)
      letGo [answer]
      pure yes
     if better then
      updateSeq S fun _=>#[item,val]
      letGo [oldVal,oldItem]
     else letGo [item,val]
    |_=>updateSeq S fun _=>#[item,val]
    again (.builtin s!"{nm}.loop" ⟨[it,.none,.ref S],[]⟩))
section
variable{B:Bs}{A:Around}{s₀ s:Shared}{g₀ g:Gh}
theorem Aqy(O:B.Ok){id nm:String}{op:CmpOp}{lt:D→D→Option Bool}(hid:(toString nm++toString ".loop":String)=id)(hp:plainId id=true){bl:Builtin}(hb:entryFor table id=some bl)
  (hbl:∀ it S,bl ⟨[it,.none,.ref S],[]⟩=AnJ nm op it S)
  (hcmp:∀ (s:Shared) (g:Gh) va vb a b c,Inv B s g→Den g va a→Den g vb b→lt a b=some c→Aaq B A.in1 s g (richCompare op va vb) fun _ v=>v=.bool c)
  (hh:A.handled=none) {It S:Addr} (h0:s₀.heap.get? It=none) (h1:s₀.heap.get? S=none) (hne:S≠It) {r:D} :
  ∀ (ds:List D) (db:D) (vb:Value) (c:Nat) (s:Shared) (g:Gh),Aag B s₀ g₀ s g→AaN s.heap g It ds→g It=none→s.heap.get? S=some {cls:=.type "list",dict:=none,data:=.seq #[vb,vb] c,slots:=#[]}→g S=none→Den g vb db→Aon lt db ds=some r →
   codeAny B.M A (.builtin id ⟨[.ref It,.none,.ref S],[]⟩) (fun res s'=>∃ v g',res=.ok (.ret v)∧Aag B s₀ g₀ s' g'∧Den g' v r) s:=by
 intro ds;induction ds with
 |nil=>
  intro db vb c s g x it gI hS gS hd hr;have hr:=sj hr;subst hr;refine codeAny_builtin hb ?_;rw[Around.under_plainId hp _,hbl];refine wpAny_bind (wpAny_seqItems hS rfl ?_);refine Amu it.noTabby fun oi hoi ht hn _=>?_;refine wpAny_bind (wpAny_tryCatch (AhL (A:=A.in1) x.inv hh it fun h' k=>?_));have hS':=k S _ hne hS;have x1:Aag B s₀ g₀ {s with heap:=h'} g:=x.turnE O h0 gI hoi ht k rfl rfl;show wpAny _ A.in1 (updateSeq S (fun _=>#[]) >>= _) _ _ _;refine wpAny_bind (wpAny_updateSeq hS' rfl (wpAny_bind (wpAny_letGo (wpAny_pure ⟨_,g,rfl,?_,hd⟩))));exact x1.turn O h1 gS hS' (AaU rfl (by decide)) (Heap.SameBut.update ..) rfl rfl
 |cons d ds ih=>
  intro db vb c s g x it gI hS gS hd hr;refine codeAny_builtin hb ?_;rw[Around.under_plainId hp _,hbl];refine wpAny_bind (wpAny_seqItems hS rfl ?_);refine Amu it.noTabby fun oi hoi ht hn _=>?_;refine wpAny_bind (wpAny_tryCatch (AeA (A:=A.in1) x.inv it fun v h' tk hv it' k=>?_));have hS':h'.get? S=_:=(k.2 S hne).trans hS;have x1:Aag B s₀ g₀ {s with heap:=h',toks:=tk} g:=x.turn O h0 gI hoi ht k rfl rfl;dsimp only;refine wpAny_bind (wpAny_pure ?_);refine Aaf (Aak hr) fun b hlt hr=>?_;refine wpAny_bind (wpAny_tryCatch (wpAny_holding (wpAny_bind ((hcmp _ g v vb d db b x1.inv hv hd hlt).use fun ans s2 g2 x2 hans=>?_))));subst hans;refine wpAny_bind (wpAny_holding (wpAny_truthy_bool ?_));refine wpAny_bind (wpAny_letGo (wpAny_pure ?_));have x3:=x1.trans x2;refine Amu it'.noTabby fun oi' hoi' ht' hn' _=>?_;have gI2:g2 It=none:=x2.shutNone hoi' gI;have it2:AaN s2.heap g2 It ds:=it'.keep x2.le fun o e n=>x2.ext.keep It o e n;have hS2:=x2.ext.keep S _ hS' (Aap rfl);have gS2:g2 S=none:=x2.shutNone hS' gS;induction b using Bool.casesOn with
  |true=>
   simp only[if_true];refine wpAny_bind (wpAny_updateSeq hS2 rfl (wpAny_bind (wpAny_letGo ?_)));have sb:Heap.SameBut S s2.heap (s2.heap.update S (Obj.mapSeq fun _=>#[v,v])):=Heap.SameBut.update ..;have x4:Aag B s₀ g₀ {s2 with heap:=s2.heap.update S (Obj.mapSeq fun _=>#[v,v])} g2:=x3.turn O h1 gS2 hS2 (AaU rfl (by decide)) sb rfl rfl;refine Aaf it2.noTabby fun oi2 hoi2 _=>?_;show wpAny _ _ (again (.builtin (toString nm++toString ".loop") _)) _ _ _;rw[hid];refine wpAny_pure ⟨plainId_quiet hp _,?_⟩;exact ih d v _ _ g2 x4 (it2.keep g2.le_refl fun o e _=>(sb.2 It hne.symm).trans e) gI2 (Heap.get?_update_self _ hS2 rfl) gS2 (hv.mono x2.le) hr
  |false=>
   simp only[Bool.false_eq_true,if_false];refine wpAny_bind (wpAny_letGo ?_);show wpAny _ _ (again (.builtin (toString nm++toString ".loop") _)) _ _ _;rw[hid];refine wpAny_pure ⟨plainId_quiet hp _,?_⟩;exact ih db vb _ _ g2 x3 it2 gI2 hS2 gS2 (hd.mono x2.le) hr
theorem Aj8(O:B.Ok){id nm:String}{op:CmpOp}{lt:D→D→Option Bool}(hid:(toString nm++toString ".loop":String)=id)(hp:plainId id=true){bl:Builtin}(hb:entryFor table id=some bl)
  (hbl:∀ it S,bl ⟨[it,.none,.ref S],[]⟩=AnJ nm op it S)
  (hcmp:∀ (s:Shared) (g:Gh) va vb a b c,Inv B s g→Den g va a→Den g vb b→lt a b=some c→Aaq B A.in1 s g (richCompare op va vb) fun _ v=>v=.bool c)
  (hh:A.handled=none) {It S:Addr} (h0:s₀.heap.get? It=none) (h1:s₀.heap.get? S=none) (hne:S≠It) {r d:D} {ds:List D} {c:Nat}
  (x:Aag B s₀ g₀ s g) (it:AaN s.heap g It (d :: ds)) (gI:g It=none) (hS:s.heap.get? S=some {cls:=.type "list",dict:=none,data:=.seq #[] c,slots:=#[]}) (gS:g S=none) (hr:Aon lt d ds=some r) :
   codeAny B.M A (.builtin id ⟨[.ref It,.none,.ref S],[]⟩) (fun res s'=>∃ v g',res=.ok (.ret v)∧Aag B s₀ g₀ s' g'∧Den g' v r) s:=by
 refine codeAny_builtin hb ?_;rw[Around.under_plainId hp _,hbl];refine wpAny_bind (wpAny_seqItems hS rfl ?_);refine Amu it.noTabby fun oi hoi ht hn _=>?_;refine wpAny_bind (wpAny_tryCatch (AeA (A:=A.in1) x.inv it fun v h' tk hv it' k=>?_));have hS':h'.get? S=_:=(k.2 S hne).trans hS;have x1:Aag B s₀ g₀ {s with heap:=h',toks:=tk} g:=x.turn O h0 gI hoi ht k rfl rfl;dsimp only;refine wpAny_bind (wpAny_pure ?_);have sb:Heap.SameBut S h' (h'.update S (Obj.mapSeq fun _=>#[v,v])):=Heap.SameBut.update ..;refine wpAny_bind (wpAny_updateSeq hS' rfl ?_);have x4:Aag B s₀ g₀ {s with heap:=h'.update S (Obj.mapSeq fun _=>#[v,v]),toks:=tk} g:=x1.turn O h1 gS hS' (AaU rfl (by decide)) sb rfl rfl;show wpAny _ _ (again (.builtin (toString nm++toString ".loop") _)) _ _ _;rw[hid];refine wpAny_pure ⟨plainId_quiet hp _,?_⟩;exact Aqy O hid hp hb hbl hcmp hh h0 h1 hne ds d v _ _ g x4 (it'.keep g.le_refl fun o e _=>(sb.2 It hne.symm).trans e) gI (Heap.get?_update_self _ hS' rfl) gS hv hr
end
section
variable{B:Bs}{n:Nat}
noncomputable def Azh(lt:D→D→Option Bool):List D→Option D
 |[]=>none
 |d :: ds=>Aon lt d ds
noncomputable def bMin:List D→Option D:=fn1 fun a=>Adq a (Azh ltD)
noncomputable def bMax:List D→Option D:=fn1 fun a=>Adq a (Azh fun a b=>ltD b a)
theorem AOk.u{A:Around}(h:AOk n A):A.in1.units<cLine:=Nat.lt_of_le_of_lt (Nat.add_le_add_left (by decide:1≤60) A.units) h.units_lt
theorem Azi(O:B.Ok):AbC B n (.builtin "min") bMin:=Ah2 (.inl ⟨_,rfl⟩) fun A s g u a r hA I h1 h=>by
 refine Aaf (Abd h) fun l q1 hr=>?_;subst q1;induction l using List.casesOn with
 |nil=>exact Aah hr
 |cons d ds=>
  induction h1 using Den.listE with|list e1 e2=>?_
  replace hr:Aon _ d ds=some r:=hr
  refine call_function_tree F.kind_min F.plain_min F.entry_min (F.args_min1 _) ?_;show wpAny _ A.in1 (Builtin.Builtins.bindParams "min" ["key","default"] 0 ⟨[],[]⟩ >>= _) _ _ s;refine wpAny_bind (wpAny_of_eq (show Builtin.Builtins.bindParams "min" ["key","default"] 0 ⟨[],[]⟩=pure [none,none] from rfl) ?_);refine wpAny_bind (wpAny_pure ?_);refine wpAny_bind (Ad1 O I (.list e1 e2) rfl fun o x it=>?_);refine wpAny_bind (wpAny_newObj_type ?_);rw[show(toString "min"++toString ".loop":String) = "min.loop" from by decide];have x2:=Aag.open (o:={cls:=.type "list",data:=.seq #[]}) O x.inv;have hne:(s.heap.push o).objs.size≠s.heap.objs.size:=by rw[Heap.size_push];omega
  refine wpAny_pure ⟨plainId_quiet F.plain_min_loop _,codeAny_mono (Aj8 (s₀:=s) (g₀:=g) O (id:="min.loop") (nm:="min") (op:=.Lt) (lt:=ltD) (by decide) F.plain_min_loop F.entry_min_loop (fun _ _=>rfl)
   (fun s g va vb a b c I ha hb h=>AwD hA.u I ha hb h) hA.handled (Aa1 _) (x.ext.dead (Aa1 _)) hne (x.trans x2) (it.keep g.le_refl fun o e _=>Heap.get?_push_of_some _ e) I.fresh (Heap.get?_push_size _ rfl) x.inv.fresh hr) fun res s' h=>?_⟩
  refine Adp h fun v g' z1 x3 h3=>?_;subst z1;exact⟨g',x3,h3⟩
theorem Azj(O:B.Ok):AbC B n (.builtin "max") bMax:=Ah2 (.inl ⟨_,rfl⟩) fun A s g u a r hA I h1 h=>by
 refine Aaf (Abd h) fun l q2 hr=>?_;subst q2;induction l using List.casesOn with
 |nil=>exact Aah hr
 |cons d ds=>
  induction h1 using Den.listE with|list e1 e2=>?_
  replace hr:Aon _ d ds=some r:=hr
  refine call_function_tree F.kind_max F.plain_max F.entry_max (F.args_max1 _) ?_;show wpAny _ A.in1 (Builtin.Builtins.bindParams "max" ["key","default"] 0 ⟨[],[]⟩ >>= _) _ _ s;refine wpAny_bind (wpAny_of_eq (show Builtin.Builtins.bindParams "max" ["key","default"] 0 ⟨[],[]⟩=pure [none,none] from rfl) ?_);refine wpAny_bind (wpAny_pure ?_);refine wpAny_bind (Ad1 O I (.list e1 e2) rfl fun o x it=>?_);refine wpAny_bind (wpAny_newObj_type ?_);rw[show(toString "max"++toString ".loop":String) = "max.loop" from by decide];have x2:=Aag.open (o:={cls:=.type "list",data:=.seq #[]}) O x.inv;have hne:(s.heap.push o).objs.size≠s.heap.objs.size:=by rw[Heap.size_push];omega
  refine wpAny_pure ⟨plainId_quiet F.plain_max_loop _,codeAny_mono (Aj8 (s₀:=s) (g₀:=g) O (id:="max.loop") (nm:="max") (op:=.Gt) (lt:=fun a b=>ltD b a) (by decide) F.plain_max_loop F.entry_max_loop (fun _ _=>rfl)
   (fun s g va vb a b c I ha hb h=>AwE hA.u I ha hb h) hA.handled (Aa1 _) (x.ext.dead (Aa1 _)) hne (x.trans x2) (it.keep g.le_refl fun o e _=>Heap.get?_push_of_some _ e) I.fresh (Heap.get?_push_size _ rfl) x.inv.fresh hr) fun res s' h=>?_⟩
  refine Adp h fun v g' z2 x3 h3=>?_;subst z2;exact⟨g',x3,h3⟩
noncomputable def bType:List D→Option D:=fn1 fun a=>Ad0 a fun _=>some (.val (.type "str"))
theorem AwF:AbC B n (.type "type") bType:=Ah2 (.inr (.inl ⟨_,rfl⟩)) fun A s g u a r hA I h1 h=>by
 refine Aaf (AaY h) fun x q3 k=>?_;subst q3;rw[← sj k];induction h1 using Den.strE;exact call_type_of (typeIs_str _ _ _) (by decide +kernel) ⟨g,Aag.refl I,.val⟩
noncomputable def AwG:D→Option Bool
 |.bool b=>some b
 |_=>none
theorem AnK{d:D}{b:Bool}(h:AwG d=some b):d=.bool b:=by
 revert h;induction d using D.casesOn<;>first|exact fun h=>congrArg D.bool (sj h)|exact Aah
noncomputable def AmO:List D→Option (List Bool)
 |[]=>some []
 |d :: r=>(AwG d).bind fun x=>(AmO r).bind fun xs=>some (x :: xs)
theorem AmP{g:Gh}{vs:List Value}{ds:List D}(h:Aav g vs ds):∀ {xs:List Bool},AmO ds=some xs→vs.length=xs.length∧∀ (i:Nat) (v:Value),vs[i]?=some v→v=Value.bool (xs.getD i false):=by
 induction h using Aav.ind with
 |nil=>exact fun h=>sj h ▸ ⟨rfl,fun i v e=>Aah e⟩
 |cons h1 _ ih=>
  intro xs h;refine Aaf (Aak h) fun x e0 k1=>?_;refine Aaf (Aak k1) fun ys e k2=>?_;rw[AnK e0] at h1;rw[← sj k2];refine⟨congrArg (·+1) (ih e).1,fun i v hv=>?_⟩;induction i using Nat.casesAuxOn with
  |zero=>rw[← sj hv];induction h1 using Den.boolE;rfl
  |succ i=>exact(ih e).2 i v hv
theorem Aqz(xs:List Bool):((List.range xs.length).all fun i=>xs.getD i false)=xs.all id:=by
 induction xs with
 |nil=>rfl
 |cons x xs ih=>rw[List.length_cons,List.range_succ_eq_map,List.all_cons,List.all_map,List.all_cons,← ih];simp [Function.comp_def]
noncomputable def bAll:List D→Option D:=fn1 fun a=>Adq a fun l=>(AmO l).bind fun xs=>some (.bool (xs.all id))
theorem Azk(O:B.Ok):AbC B n (.builtin "all") bAll:=Ah2 (.inl ⟨_,rfl⟩) fun A s g u a r hA I h1 h=>by
 refine Aaf (Abd h) fun l q4 k1=>?_;subst q4;refine Aaf (Aak k1) fun xs e k2=>?_;rw[← sj k2];induction h1 using Den.listE with|list e1 e2=>?_
 rename_i a vs nn;refine AaG (AmP e2 e) fun hl hg=>?_;rw[Array.length_toList] at hl;refine call_all_walkS (wpAny_pyIter_list ⟨_,I.get e1,rfl,_,rfl⟩ ?_);refine⟨_,_,_,_,_,_,_,fun i=>xs.getD i false,rfl,(Walks.list (A:=A.in1) hA.handled s.heap.objs.size a (Nat.ne_of_lt (Heap.lt_size (I.get e1))) vs).toS,⟨⟨_,Heap.get?_push_size _ rfl,rfl,rfl⟩,⟨_,Heap.get?_push_of_some _ (I.get e1),rfl,_,rfl⟩⟩,fun i v s' Q E hv hq=>?_,fun s' hm=>?_⟩
 ·rw[hg i v (by simpa using hv)];exact wpAny_truthy_bool hq
 ·rw[hl,Aqz];exact⟨g,Aj6 O I hm,.bool⟩
end
end Mine
namespace Mine
open PySem PySem.W PyProof.Rows PySem.W.X PySem.Calls
section
variable{prog:Program}{w:World}{A:Around}{E:Value→Shared→Prop}{s:Shared}
theorem Azl:isSubtype (.type "str") (.type "str")=pure true:=by rw[isSubtype_type];kernel_rfl
theorem Azm:typeOf (.type "str")=pure (.type "type"):=by kernel_rfl
theorem Ate{Q:PySem.Fin→Shared→Prop}(hq:Q (.done (.ret (.bool true))) s):wpAny (model prog w) A (Builtin.«issubclass.nested» ⟨[.type "str",.type "str",rawInt 1],[]⟩) Q E s:=by
 have hm:=Azm;have hself:=Azl
 repeat (any_goals (first|assumption|(rw[hm])|(rw[hself])|wp_step))
theorem Aoo:plainId "issubclass.nested"=true:=by decide +kernel
theorem AqA:builtinKind "issubclass.nested"=none:=by decide +kernel
theorem AqB(a b c:Value):argsOk "issubclass.nested" ⟨[a,b,c],[]⟩:=by unfold argsOk;kernel_rfl
theorem AqC{Q:Value→Shared→Prop}(hq:Q (.bool true) s):wpAny (model prog w) A (call (.builtin "issubclass.nested") [.type "str",.type "str",rawInt 1]) Q E s:=
 call_function_meets (S:=fun _ R s=>R (.ok (.ret (.bool true))) s) AqA Aoo F.entry_issubclass_nested (AqB _ _ _) (fun _ _ _ _ _ hs=>Ate hs) hq
theorem Atf{Q:PySem.Fin→Shared→Prop}{a:Addr}{n:Nat}(ha:s.heap.get? a=some ⟨.type "tuple",none,.seq #[.type "str",.type "bytes"] n,#[]⟩)(hq:Q (.done (.ret (.bool true))) s) :
  wpAny (model prog w) A (Builtin.«issubclass.nested» ⟨[.type "str",.ref a,rawInt 0],[]⟩) Q E s:=by
 wp_walk using wpAny_load' ha
 have hs:isSubtype (.type "tuple") (.type "tuple")=pure true:=by rw[isSubtype_type];kernel_rfl
 show wpAny _ _ (isSubtype (.type "tuple") (.type "tuple")) _ _ _;rw[hs];refine wpAny_pure ?_;rw[if_pos rfl];dsimp only;rw[if_neg (by decide)];refine wpAny_bind (wpAny_seqItems ha rfl (wpAny_bind ?_));rw[← Array.forIn_toList];show wpAny _ _ (forIn [Value.type "str",.type "bytes"] _ _) _ _ _;rw[List.forIn_cons];refine wpAny_bind (wpAny_bind (AqC (wpAny_bind (wpAny_truthy_bool ?_))));rw[if_pos rfl];exact wpAny_bind (wpAny_pure (wpAny_pure (wpAny_pure (wpAny_pure hq))))
theorem AwH{Q:Value→Shared→Prop}{a:Addr}{n:Nat}(ha:s.heap.get? a=some ⟨.type "tuple",none,.seq #[.type "str",.type "bytes"] n,#[]⟩)(hq:Q (.bool true) s) :
  wpAny (model prog w) A (call (.builtin "issubclass") [.type "str",.ref a]) Q E s:=
 call_issubclass (S:=fun _ R s=>s.heap.get? a=some ⟨.type "tuple",none,.seq #[.type "str",.type "bytes"] n,#[]⟩∧R (.ok (.ret (.bool true))) s) (fun _ _ _ _ _ hs=>issubclass_outer (Atf hs.1 hs.2)) ⟨ha,hq⟩
end
section
variable{B:Bs}{n:Nat}
noncomputable def isT(n:String):D→Bool
 |.val (.type m)=>m == n
 |_=>false
theorem AnL{n:String}{d:D}(h:isT n d=true):d=.val (.type n):=by
 revert h
 induction d using D.casesOn with
 |val v=>induction v using Value.casesOn<;>first|exact fun h=>congrArg (fun x=>D.val (.type x)) (eq_of_beq h)|exact Bool.noConfusion
 |_=>exact Bool.noConfusion
theorem AlD:typeOf (.type "bytes")=pure (.type "type"):=by kernel_rfl!
theorem Akz:isSubtype (.type "str") (.type "bytes")=pure false:=by rw[isSubtype_type];kernel_rfl!
noncomputable def bIsi:List D→Option D:=fn2 fun a b=>Ad0 a fun _=>if isT "bytes" b=true then some (.bool false) else none
theorem AvD:AbC B n (.builtin "isinstance") bIsi:=Alz (.inl ⟨_,rfl⟩) fun A s g u w a b r hA I h1 h2 h=>by
 refine Aaf (AaY h) fun x q1 k1=>?_;subst q1;refine AaG (Abs k1) fun hb k2=>?_;rw[AnL hb] at h2;rw[← sj k2];induction h1 using Den.strE;induction h2 using Den.valE;exact call_isinstance (isinstance_false_str (T:="bytes") (by decide) AlD Akz) ⟨g,Aag.tok I _,.bool⟩
noncomputable def bIss:List D→Option D:=fn2 fun a b=>(Awm b).bind fun l=>if isT "str" a=true∧l.length=2∧isT "str" (l.getD 0 .none)=true∧isT "bytes" (l.getD 1 .none)=true then some (.bool true) else none
theorem Azn:AbC B n (.builtin "issubclass") bIss:=Alz (.inl ⟨_,rfl⟩) fun A s g u w a b r hA I h1 h2 h=>by
 refine Aaf (Aak h) fun l hb k1=>?_;refine AaG (Abs k1) fun q2 k2=>?_;refine Aoa q2 fun c1 c2 c3 c4=>?_;have el:=(As1 (d:=D.none) c2).trans (AhR (AnL c3) (AnL c4));rw[AnL c1] at h1;rw[Akr hb,el] at h2;rw[← sj k2];induction h1 using Den.valE;induction h2 using Den.tupE with|tup e1 e2=>?_
 rename_i a vs nn
 obtain⟨vl⟩:=vs
 refine Avv (e2.two rfl) fun v1 v2 d1 d2 ev ed q1 q2=>?_;have ed1:=(List.cons.inj ed).1;have ed2:=(List.cons.inj (List.cons.inj ed).2).1;rw[← ed1] at q1;rw[← ed2] at q2;induction q1 using Den.valE;induction q2 using Den.valE;have ha:=I.get e1;rw[show vl=[Value.type "str",.type "bytes"] from ev] at ha;exact AwH ha ⟨g,Aag.refl I,.bool⟩
end
end Mine
namespace Mine
open PySem PySem.W PyProof.Rows PySem.Calls
theorem L0{α:Type}{P:List α→Prop}{l:List α}(h:l.length=0)(k:P []):P l:=by
 induction l using List.casesOn with
 |nil=>exact k
 |cons _ _=>exact Nat.noConfusion h
theorem LS{α:Type}{P:List α→Prop}{l:List α}{n:Nat}(h:l.length=n+1)(k:∀ a r,r.length=n→P (a :: r)):P l:=by
 induction l using List.casesOn with
 |nil=>exact Nat.noConfusion h
 |cons a r=>exact k a r (Nat.succ.inj h)
theorem L1{α:Type}{P:List α→Prop}{l:List α}(h:l.length=1)(k:∀ a,P [a]):P l:=LS h fun a _ h=>L0 (P:=fun r=>P (a :: r)) h (k a)
theorem L2{α:Type}{P:List α→Prop}{l:List α}(h:l.length=2)(k:∀ a b,P [a,b]):P l:=LS h fun a _ h=>L1 (P:=fun r=>P (a :: r)) h (k a)
theorem L3{α:Type}{P:List α→Prop}{l:List α}(h:l.length=3)(k:∀ a b c,P [a,b,c]):P l:=LS h fun a _ h=>L2 (P:=fun r=>P (a :: r)) h (k a)
structure AvE(B:Bs)(a:Addr)(fd:FuncData)(body:List Stmt):Prop where
 obj:∃ o,B.G.get? a=some o∧o.data=.func fd
 code:B.G.CodeRec fd.code fd.qualname
 body:fd.body=.stmts body
 glob:fd.globals=mainGlobals
 blt:fd.builtins=builtinsNs
 clos:fd.closure=[]
section
variable{B:Bs}{A:Around}{s:Shared}{g:Gh}{n:Nat}
theorem AbJ.to0{a:Addr}{fd:FuncData}{params:List Str}{body:List Stmt}(D:AbJ B a fd params body):AvE B a fd body:=⟨D.obj,D.code,D.body,D.glob,D.blt,D.clos⟩
theorem Agp(O:B.Ok){a:Addr}{fd:FuncData}{params:List Str}{body:List Stmt}(Dd:AvE B a fd body)(hs:AaI fd.scope params=true){vs:List Value}(hA:AOk (n+1) A)(I:Inv B s g)
  {Q E:Value→Shared→Prop}
  (hb:wpAny B.M A.in1 (bindArgs fd ⟨vs,[]⟩) (fun binds s1=>∃ g1 vs' ds,Aag B s g s1 g1∧binds=params.zip vs'∧Aav g1 vs' ds∧params.length=ds.length ∧
   ∀ env s',env.scope=fd.scope→env.code=fd.code→env.qual=fd.qualname++".<locals>."→Fm B s1 g1 (Aam fd.scope.names) env (params.zip ds).reverse s' g1 →
   wpAny B.M (A.deeper env) (execs body env) (fun f s''=>Q (match f with|.ret v=>v|_=>.none) s'') (fun _ _=>False) s') (fun _ _=>False) s) :
  wpAny B.M A (call (.ref a) vs) Q E s:=by
 refine Aaf Dd.obj fun o ho hdat=>?_;refine Awh (AcO hs) fun h1 h2 h3 h4 h5=>?_;have keep:∀ b o,B.G.get? b=some o→s.heap.get? b=some o:=fun b o e=>I.get (I.base b o e);refine wpAny_call (codeAny_call_function hA.dlt (keep _ _ ho) hdat h3 h2 Dd.body (Dd.code.keeps keep) ?_);refine wpAny_mono hb (fun binds s1 hb=>?_) fun _ _ (e:False)=>e.elim;refine AC2 hb fun g1 vs' ds x1 z1 hd hl h=>?_;subst z1;rw[Dd.glob,Dd.clos,Dd.blt];refine wpAny_mono (Aqf O x1.inv h1 h4 h5 hl hd (Q:=fun env s'=>s'.heap.NoLimit∧codeAny B.M A (.func body env) (fun r s'=>match r with|.ok (.ret v)=>Q v s'|.ok _=>False|.error e=>E e s') s') fun env s' e1 e2 e3 F=>⟨?_,?_⟩) (fun _ _ h=>h) fun _ _ h=>h.elim
 ·refine Aaf O.lim fun mc hmc hno=>?_;exact⟨mc,F.inv.ns hmc,hno⟩
 ·exact codeAny_func (wpAny_mono (h env s' e1 e2 e3 F) (fun f s'' h=>h) fun _ _ h=>h.elim)
end
structure GOk(K:Frag)(T:List Addr)(B:Bs):Prop where
 inG:∀ a o,K.lookup a=some o→a ∉ T→B.G.get? a=some o
noncomputable def ADg:Value→Option (Str×Tok)
 |.str x t=>some (x,t)
 |_=>none
theorem AwI{v:Value}{p:Str×Tok}(h:ADg v=some p):v=.str p.1 p.2:=by induction v using Value.casesOn<;>first|exact Aah h|exact sj h ▸ rfl
noncomputable def AqD:Data→Option (Array Value)
 |.fields vs=>some vs
 |_=>none
theorem Aop{v:Data}{p:Array Value}(h:AqD v=some p):v=.fields p:=by induction v using Data.casesOn<;>first|exact Aah h|exact congrArg Data.fields (sj h)
noncomputable def Abk(K:Frag)(T:List Addr)(cd:Value)(q:Str):Bool:=
 ((ABA cd).bind fun c=>if T.contains c=false then (K.lookup c).bind fun o=>(AqD o.data).bind fun vs=>(vs[1]?).bind fun v=>(ADg v).bind fun p=>some p.1 else none) == some q
theorem Ag6{K:Frag}{T:List Addr}{B:Bs}(h:GOk K T B){cd:Value}{q:Str}(e:Abk K T cd q=true):B.G.CodeRec cd q:=by refine Aaf (Aak (eq_of_beq e)) fun c c1 k=>?_;refine AaG (Abs k) fun hc k_1=>?_;refine Aaf (Aak k_1) fun o hl k_2=>?_;refine Aaf (Aak k_2) fun vs hd k_3=>?_;refine Aaf (Aak k_3) fun v hv k_4=>?_;refine Aaf (Aak k_4) fun p hp k_5=>?_;refine⟨c,o,vs,p.2,Amy c1,h.inG _ _ hl (by simpa using hc),Aop hd,?_⟩;rw[hv,AwI hp,← sj k_5]
theorem AaO{K:Frag}{T:List Addr}{B:Bs}(h:GOk K T B){a:Addr}{o:Obj}{fd:FuncData}{params:List Str}{body:List Stmt}{sc:Scope}(h1:K.lookup a=some o)(ha:a ∉ T)(h2:o.data=.func fd)(h3:fd.body=.stmts body)
  (h4:fd.globals=mainGlobals) (h5:fd.builtins=builtinsNs) (h6:fd.closure=[]) (h7:Abk K T fd.code fd.qualname=true) (h8:fd.scope=sc) (h9:AaI sc params=true)
  (h10:∀ vs:List Value,vs.length=params.length→bindArgs fd ⟨vs,[]⟩=pure (params.zip vs)):AbJ B a fd params body:=
 ⟨⟨o,h.inG _ _ h1 ha,h2⟩,Ag6 h h7,h3,h4,h5,h6,h10,h8 ▸ h9⟩
theorem AqE{K:Frag}{T:List Addr}{B:Bs}(h:GOk K T B){a:Addr}{o:Obj}{fd:FuncData}{body:List Stmt}(h1:K.lookup a=some o)(ha:a ∉ T)(h2:o.data=.func fd)(h3:fd.body=.stmts body)
  (h4:fd.globals=mainGlobals) (h5:fd.builtins=builtinsNs) (h6:fd.closure=[]) (h7:Abk K T fd.code fd.qualname=true):AvE B a fd body:=
 ⟨⟨o,h.inG _ _ h1 ha,h2⟩,Ag6 h h7,h3,h4,h5,h6⟩
section
variable{fd:FuncData}{x y z u v:Str}
theorem Azo(h:bindArgs fd ⟨[],[]⟩=pure [])(vs:List Value)(e:vs.length=([]:List Str).length):bindArgs fd ⟨vs,[]⟩=pure (([]:List Str).zip vs):=L0 (P:=fun vs=>bindArgs fd ⟨vs,[]⟩=pure (([]:List Str).zip vs)) e h
theorem AcE(h:∀ a,bindArgs fd ⟨[a],[]⟩=pure [(x,a)])(vs:List Value)(e:vs.length=[x].length):bindArgs fd ⟨vs,[]⟩=pure ([x].zip vs):=L1 (P:=fun vs=>bindArgs fd ⟨vs,[]⟩=pure ([x].zip vs)) e h
theorem AfG(h:∀ a b,bindArgs fd ⟨[a,b],[]⟩=pure [(x,a),(y,b)])(vs:List Value)(e:vs.length=[x,y].length):bindArgs fd ⟨vs,[]⟩=pure ([x,y].zip vs):=L2 (P:=fun vs=>bindArgs fd ⟨vs,[]⟩=pure ([x,y].zip vs)) e h
theorem AqF(h:∀ a b c,bindArgs fd ⟨[a,b,c],[]⟩=pure [(x,a),(y,b),(z,c)])(vs:List Value)(e:vs.length=[x,y,z].length):bindArgs fd ⟨vs,[]⟩=pure ([x,y,z].zip vs):=L3 (P:=fun vs=>bindArgs fd ⟨vs,[]⟩=pure ([x,y,z].zip vs)) e h
end
noncomputable def mkB(prog:Program)(w:World)(s₁:Shared)(mg mb:Str→Option Value)(tabs:List (Addr×Addr))(names:Nat→Nat→Str):Bs:=
 {prog,w,G:=ghostOf s₁.heap tabs,mg,mb,os:=s₁.os,tb:=fun h=>∃ R,(∀ q∈tabs,q∈R)∧AbQ (ghostOf s₁.heap tabs) names R h}
section
variable{prog p:Program}{w:World}{s₁ s':Shared}{mg mb:Str→Option Value}{tabs:List (Addr×Addr)}{names:Nat→Nat→Str}{loose:List Str}{mean:ExcName→Option Value}
theorem Azp(hT:TabsAt tabs s₁.heap)(T:Top p loose mean mg mb s₁.heap):(mkB prog w s₁ mg mb tabs names).Ok:=
 ⟨ghost_ns hT T.g,ghost_ns hT T.b,(let ⟨mc,a,r⟩:=T.nolimit;⟨mc,ghost_ns hT a,r⟩),fun _ _ ⟨R,hR,X⟩ k=>⟨R,hR,X.keeps k⟩⟩
theorem Atg:Aqv (mkB prog w s₁ mg mb tabs names) names tabs:=fun _=>Iff.rfl
theorem AwJ(hT:TabsAt tabs s₁.heap)(hg:s₁.gens=#[]):Inv (mkB prog w s₁ mg mb tabs names) s₁ (mkB prog w s₁ mg mb tabs names).G.get?:=by refine⟨fun _ _ e=>e,fun a o e=>of_hideAll _ e,fun a o e=>.inr e,⟨tabs,fun _ h=>h,fun q hq=>(hT q hq).1,fun q hq=>hideAll_none _ (List.mem_map_of_mem hq),fun q hq=>⟨#[],(hT q hq).2,trivial,fun pos cv hc=>?_⟩⟩,hg,rfl⟩;simp [codeAmong] at hc
theorem Azq(hT:TabsAt tabs s₁.heap)(T:Top p loose mean mg mb s₁.heap):AvC (mkB prog w s₁ mg mb tabs names):=
 let ⟨bm,ob,a1,a2,a3,a4,r⟩:=T.bmain
 ⟨bm,ob,a1,a2,ghost_get hT a3 (fun q=>by rw[q] at a4;injection a4),a4,r⟩
theorem AwK(hT:TabsAt tabs s₁.heap){g g':Gh}(x:Aag (mkB prog w s₁ mg mb tabs names) s₁ g s' g'){c:ClaimW}{cl:Str→Option Addr}{args:List WData}(hn:∀ cls,c.raises args cls=false)(hp:c.post args (.bool true) args=true) :
  GoodWG c cl mean args s₁ (.ok (.ret (.bool true))) s':=by
 refine⟨.inl ⟨_,.bool true,[],rfl,hn,.bool true,hp,fun _=>⟨List.nodup_nil,fun a ha=>by cases ha⟩⟩,?_,x.inv.os,.of_eq x.inv.gens⟩;have I:=x.inv;have keep:∀ b o,b ∉ tabs.map (·.2)→s₁.heap.get? b=some o→s'.heap.get? b=some o:=fun b o hb e=>I.real b o (I.base b o (ghost_ne e hb));refine Aaf I.tb fun R hR X=>?_;have grown:∀ b o,b∈tabs.map (·.2)→s₁.heap.get? b=some o→isCodeTable s₁.heap b∧o=tabObj #[]∧∃ ps,s'.heap.get? b=some (tabObj ps):=fun b o hb e=>by
  refine Aaf (List.mem_map.mp hb) fun q hq q1=>?_;subst q1;have e2:=(hT q hq).2;rw[e] at e2;refine Aaf (X.tab q (hR q hq)) fun ps hps _=>?_;exact⟨((hT q hq).1.tab (hT q hq).2).isCodeTable,sj e2,ps,hps⟩
 refine⟨fun b o e=>?_,fun b o e=>?_⟩
 ·by_cases hb:b∈tabs.map (·.2)
  ·obtain⟨ht,rfl,ps,hP⟩:=grown b o hb e
   exact .inr (.inl ⟨ht,rfl,#[],ps,rfl,by rw[Array.empty_append];exact hP⟩)
  ·exact .inl (keep b o hb e)
 ·by_cases hb:b∈tabs.map (·.2)
  ·obtain⟨_,_,ps,hP⟩:=grown b o hb e
   exact⟨_,hP⟩
  ·exact⟨o,keep b o hb e⟩
theorem AqG{K:Frag}(X:K.In s₁.heap):GOk K (tabs.map (·.2)) (mkB prog w s₁ mg mb tabs names):=⟨fun a o e ha=>ghost_ne (X a o e) ha⟩
end
noncomputable def AB6:Data→Option (Array Value)
 |.fields vs=>some vs
 |_=>none
theorem AqH{d:Data}{vs:Array Value}(h:AB6 d=some vs):d=.fields vs:=by
 revert h;induction d using Data.casesOn<;>first|exact fun h=>congrArg Data.fields (sj h)|exact Aah
noncomputable def isS:Value→Bool
 |.str _ _=>true
 |_=>false
noncomputable def isI:Value→Bool
 |.int _ _=>true
 |_=>false
noncomputable def isB:Value→Bool
 |.bool _=>true
 |_=>false
theorem Azr{v:Value}(h:isS v=true):∃ x t,v=.str x t:=by
 revert h;induction v using Value.casesOn<;>first|exact fun _=>⟨_,_,rfl⟩|exact Bool.noConfusion
theorem AvF{v:Value}(h:isI v=true):∃ x t,v=.int x t:=by
 revert h;induction v using Value.casesOn<;>first|exact fun _=>⟨_,_,rfl⟩|exact Bool.noConfusion
theorem Azs{v:Value}(h:isB v=true):∃ x,v=.bool x:=by
 revert h;induction v using Value.casesOn<;>first|exact fun _=>⟨_,rfl⟩|exact Bool.noConfusion
noncomputable def ADD(K:Frag)(q:Addr×Addr):Option Unit:=(K.lookup q.1).bind fun o=>(K.lookup q.2).bind fun p=>(AB6 o.data).bind fun vs=>(AB6 p.data).bind fun ps=>
 if o.cls=.type "code"∧p.cls=.none∧p.dict=none∧ps.isEmpty=true∧p.slots.isEmpty=true∧vs[11]?=some (.ref q.2)∧isS (vs.getD 18 .none)=true∧isI (vs.getD 7 .none)=true∧isB (vs.getD 9 .none)=true∧isI (vs.getD 10 .none)=true∧(q.1 == q.2)=false then some () else none
noncomputable def AqI(K:Frag)(q:Addr×Addr):Bool:=(ADD K q).isSome
theorem AmQ{vs:Array Value}{i:Nat}{v d:Value}(h:vs[i]?=some v):vs.getD i d=v:=by rw[Array.getD_eq_getD_getElem?,h];rfl
theorem Azt{p:Obj}(h1:p.cls=.none)(h2:p.dict=none)(h3:p.data=.fields #[])(h4:p.slots=#[]):p=tabObj #[]:=by induction p using Obj.casesOn;subst h1;subst h2;subst h3;subst h4;rfl
theorem AlE{K:Frag}{h:Heap}(X:K.In h){q:Addr×Addr}(e:AqI K q=true):CodeHd h q.1 q.2∧h.get? q.2=some (tabObj #[]):=by refine Abo (Option.isSome_iff_exists.mp e) fun u e=>?_;refine Aaf (Aak e) fun o h1 k1=>?_;refine Aaf (Aak k1) fun p h2 k2=>?_;refine Aaf (Aak k2) fun vs h3 k3=>?_;refine Aaf (Aak k3) fun ps h4 k4=>?_;refine AaG (Abs k4) fun q2 _=>?_;refine AyZ q2 fun c1 c2 c3 c4 c5 c6 c7 c8 c9 c10 c11=>?_;refine Avs (Azr c7) fun _ _ x1=>?_;refine Avs (AvF c8) fun _ _ x2=>?_;refine Abo (Azs c9) fun _ x3=>?_;refine Avs (AvF c10) fun _ _ x4=>?_;refine⟨⟨o,vs,_,_,_,_,_,_,_,X _ _ h1,c1,AqH h3,c6,AmQ c6,x1,x2,x3,x4,fun e'=>by rw[e',beq_self_eq_true] at c11;exact Bool.noConfusion c11⟩,(X _ _ h2).trans (congrArg some ?_)⟩;exact Azt c2 c3 ((AqH h4).trans (congrArg Data.fields (Array.isEmpty_iff.mp c4))) (Array.isEmpty_iff.mp c5)
theorem AlF{K:Frag}{h:Heap}(X:K.In h){tabs:List (Addr×Addr)}(e:tabs.all (AqI K)=true):TabsAt tabs h:=fun q hq=>AlE X (List.all_eq_true.mp e q hq)
end Mine
namespace Mine
open PySem PySem.W PyProof.Rows PySem.W.X
theorem AvG:isSubtype (.type "tuple") (.type "tuple")=pure true:=by rw[isSubtype_type];kernel_rfl
theorem AvH:isSubtype (.type "dict") (.type "dict")=pure true:=by rw[isSubtype_type];kernel_rfl
theorem AlG:isSubtype (.type "type") (.type "type")=pure true:=by rw[isSubtype_type];kernel_rfl
theorem AvI:isSubtype (.type "object") (.type "object")=pure true:=by rw[isSubtype_type];kernel_rfl
theorem AnM:typeOf (.type "object")=pure (.type "type"):=by kernel_rfl
theorem AqJ:typeLookup (.type "dict") "__iter__"=pure (some (.builtin "dict.__iter__")):=by rw[typeLookup_type,builtinLookup_eq_fast];kernel_rfl
theorem Agq:typeLookup (.type "dict") "__getitem__"=pure (some (.builtin "dict.__getitem__")):=by rw[typeLookup_type,builtinLookup_eq_fast];kernel_rfl
theorem AdJ:mroOf (.type "object")=pure [.type "object"]:=by rw[mroOf_type];kernel_rfl
theorem AnN:Builtin.Slots.solid (.type "object")=pure (.type "object"):=by unfold Builtin.Slots.solid;rw[AdJ];kernel_rfl
theorem AnO:Builtin.Slots.slotNamesOf (.type "object")=pure []:=by unfold Builtin.Slots.slotNamesOf;dsimp only;rw[AdJ];kernel_rfl
theorem AqK:Builtin.Slots.givesDict (.type "object")=pure false:=by unfold Builtin.Slots.givesDict;kernel_rfl
theorem AqL:Builtin.Slots.givesWeak (.type "object")=pure false:=by unfold Builtin.Slots.givesWeak;kernel_rfl
theorem AvJ:Builtin.Slots.varSize (.type "object")=pure false:=by unfold Builtin.Slots.varSize;kernel_rfl
theorem AvK:typeLookup (.type "type") "mro"=pure (some (.builtin "type.mro")):=by rw[typeLookup_type,builtinLookup_eq_fast];kernel_rfl
theorem AqM:typeLookup (.type "str") "__set_name__"=pure none:=by rw[typeLookup_type,builtinLookup_eq_fast];kernel_rfl
theorem AqN:typeLookup (.type "int") "__set_name__"=pure none:=by rw[typeLookup_type,builtinLookup_eq_fast];kernel_rfl
theorem AmR:typeLookup (.type "list") "__set_name__"=pure none:=by rw[typeLookup_type,builtinLookup_eq_fast];kernel_rfl
theorem AbS:typeLookup (.type "function") "__set_name__"=pure none:=by rw[typeLookup_type,builtinLookup_eq_fast];kernel_rfl
theorem AkA:typeLookup (.type "NoneType") "__set_name__"=pure none:=by rw[typeLookup_type,builtinLookup_eq_fast];kernel_rfl
theorem AkB:typeLookup (.type "tuple") "__set_name__"=pure none:=by rw[typeLookup_type,builtinLookup_eq_fast];kernel_rfl
theorem Ah6:typeLookup (.type "member_descriptor") "__set_name__"=pure none:=by rw[typeLookup_type,builtinLookup_eq_fast];kernel_rfl
theorem Ah7:Bind.madeBy (.type "object")=pure (some "object.__new__"):=by unfold Bind.madeBy;rw[AdJ];simp only[pure_bind,List.forIn_cons,typeLookup_type,builtinLookup_eq_fast];kernel_rfl
theorem AB7:Builtin.Slots.isIdentifier "obj"=some true:=by decide +kernel
end Mine
namespace Mine
open PySem PySem.W PyProof.Rows PySem.W.X
end Mine
namespace Mine
open PySem PySem.W PyProof.Rows PySem.W.X
theorem AvL:classOwn (.type "object") "__new__"=pure (some (.builtin "object.__new__")):=by show pure (builtinOwn "object" "__new__")=_;rw[builtinOwn_eq_fast];kernel_rfl
theorem AqO:classOwn (.type "object") "__init_subclass__"=pure (some (.builtin "object.__init_subclass__")):=by show pure (builtinOwn "object" "__init_subclass__")=_;rw[builtinOwn_eq_fast];kernel_rfl
end Mine
namespace Mine
open PySem PySem.W PyProof.Rows PySem.W.X
noncomputable def AwL(C N b:Addr)(tk t1:Tok):Obj:=⟨.type "type",none,.cls {name:="K",bases:=[.type "object"],mro:=[.ref C,.type "object"],ns:=N,qualname:="cmp_to_key.<locals>.K",hasDict:=false,slotNames:=["obj"]},#[some (.ref b),none,some (.str "K" tk),some (.str "cmp_to_key.<locals>.K" t1),some (.builtin "object.__new__"),some (.bool false)]⟩
noncomputable def AyS(C:Addr)(t:Tok):Obj:=⟨.type "member_descriptor",none,.fields #[.str "obj" t,.ref C,.builtin "proto.slot",.builtin "proto.slot#set",.int 0 0],#[]⟩
noncomputable def AaF(w:World)(x:Str):Int:=if x.cps.isEmpty=true then 0 else reduceHash (w.params.strHash x.cps)
noncomputable def Aoq(w:World)(ln:Int)(i0 i2 i3 i4 i5 i6 i7 i8 i9 i10 i11:Int)(u0 u2 t0 t2 t3 t4 t5 t6 t7 t8 t9 t10 t11:Tok)(sl f0 f1 f2 f3 f4 f5 st M:Addr)(t:Nat):List DictEntry:=
 [⟨i0,.str "__module__" t0,.str "cpy313.functools" u0⟩,⟨i2,.str "__firstlineno__" t2,.int ln u2⟩,⟨i3,.str "__slots__" t3,.ref sl⟩,
   ⟨i4,.str "__init__" t4,.ref f0⟩,⟨i5,.str "__lt__" t5,.ref f1⟩,⟨i6,.str "__gt__" t6,.ref f2⟩,⟨i7,.str "__eq__" t7,.ref f3⟩,⟨i8,.str "__le__" t8,.ref f4⟩,⟨i9,.str "__ge__" t9,.ref f5⟩,⟨i10,.str "__hash__" t10,.none⟩,⟨i11,.str "__static_attributes__" t11,.ref st⟩,
   ⟨AaF w "obj",.str "obj" (t+1),.ref M⟩,⟨AaF w "__doc__",.str "__doc__" (t+2),.none⟩]
noncomputable def Aax(es:List DictEntry)(n:Nat):Obj:=⟨.type "dict",none,.dict es.toArray n,#[]⟩
end Mine
namespace Mine
open PySem PySem.W PyProof.Rows PySem.W.X
theorem Ath{h₀ h:Heap}{chg news:List (Addr×Obj)}(news':List (Addr×Obj))(D:Mem h₀ h chg news)(e:news=news'):Mem h₀ h chg news':=e ▸ D
end Mine
namespace Mine
open PySem PySem.W PyProof.Rows PySem.W.X
theorem Ab3{α:Type}{M:Model}{A:Around}{E:Value→Shared→Prop}{t':Sem α}{v:α}{Q:α→Shared→Prop}{s:Shared}(h:t'=pure v)(hq:Q v s):wpAny M A t' Q E s:=by subst h;exact wpAny_pure hq
end Mine
namespace Mine
open PySem PySem.W PyProof.Rows PySem.W.X
end Mine
namespace Mine
open PySem PySem.W PyProof.Rows PySem.W.X
section
inductive AvM(C:Addr)(h:Heap)(g:Array GenState)(d:Drawn)(os:OsState):Value→Shared→Prop
 |mk {so:Addr} {h':Heap} {t:Nat}:Mem h h' [] [(so,⟨.type "super",none,.fields #[.ref C,.ref C,.ref C],#[]⟩)]→AvM C h g d os (.ref so) ⟨h',g,d,t,os⟩
theorem Agr{M:Model}{A:Around}{E:Value→Shared→Prop}{h₀ h:Heap}{g:Array GenState}{d:Drawn}{t:Nat}{os:OsState}{so:Addr}{c:Value}{vs:Array Value}{i:Nat}{v:Value}{Q:Unit→Shared→Prop}(D:Mem h₀ h [] [(so,⟨c,none,.fields vs,#[]⟩)])(hi:i<vs.size)
  (k:∀ h',Mem h₀ h' [] [(so,⟨c,none,.fields (vs.setIfInBounds i v),#[]⟩)]→Q () ⟨h',g,d,t,os⟩):wpAny M A (setField (.ref so) i v) Q E ⟨h,g,d,t,os⟩:=by
 unfold setField;refine wpAny_bind (wpAny_load (D.at 0 _ _ rfl) ?_);dsimp only;rw[if_pos hi];exact wpAny_update (D.at 0 _ _ rfl) (k _ (D.update (i:=0) rfl rfl))
theorem Aor{M:Model}{A:Around}{E:Value→Shared→Prop}{h₀ h:Heap}{g:Array GenState}{d:Drawn}{t:Nat}{os:OsState}{so:Addr}{c x y z:Value}{Q:PySem.Fin→Shared→Prop}(D:Mem h₀ h [] [(so,⟨c,none,.fields #[.none,.none,.none],#[]⟩)])
  (k:∀ h',Mem h₀ h' [] [(so,⟨c,none,.fields #[x,y,z],#[]⟩)]→Q (.done (.ret .none)) ⟨h',g,d,t,os⟩):wpAny M A (do setField (.ref so) 0 x;setField (.ref so) 1 y;setField (.ref so) 2 z;ret .none) Q E ⟨h,g,d,t,os⟩:=
 wpAny_bind (Agr D (by decide) fun _ D1=>wpAny_bind (Agr D1 (by rw[Array.size_setIfInBounds];decide) fun _ D2=>wpAny_bind (Agr D2 (by rw[Array.size_setIfInBounds,Array.size_setIfInBounds];decide) fun _ D3=>wpAny_pure (k _ D3))))
theorem Ati{prog:Program}{w:World}{A:Around}{E:Value→Shared→Prop}{h hp:Heap}{g:Array GenState}{d:Drawn}{t:Nat}{os:OsState}{C N b so:Addr}{tk t1:Tok}{Q:PySem.Fin→Shared→Prop}
  (D:Mem h hp [] [(so,⟨.type "super",none,.fields #[.none,.none,.none],#[]⟩)]) (hD':hp.get? C=some ⟨.type "type",none,.cls {name:="K",bases:=[.type "object"],mro:=[.ref C,.type "object"],ns:=N,qualname:="cmp_to_key.<locals>.K",hasDict:=false,slotNames:=["obj"]},#[some (.ref b),none,some (.str "K" tk),some (.str "cmp_to_key.<locals>.K" t1),some (.builtin "object.__new__"),some (.bool false)]⟩)
  (k:∀ h',Mem h h' [] [(so,⟨.type "super",none,.fields #[.ref C,.ref C,.ref C],#[]⟩)]→Q (.done (.ret .none)) ⟨h',g,d,t,os⟩):wpAny (model prog w) A (Builtin.«super.__init__» ⟨[.ref so,.ref C,.ref C],[]⟩) Q E ⟨hp,g,d,t,os⟩:=by
 unfold Builtin.«super.__init__» noKeywords
 repeat (first|(with_reducible refine ks_wpAny_isType_cls hD' rfl ?_)|(with_reducible refine Aor D ?_)|((with_reducible show wpAny _ _ (isSubtype (.ref _) _) _ _ _);unfold isSubtype mroOf)|(with_reducible refine wpAny_load hD' ?_)|(with_reducible refine wpAny_loadPart hD' ?_)|wp_step)
 exact k
theorem Atj(prog:Program)(w:World)(A:Around)(h:Heap)(g:Array GenState)(d:Drawn)(t:Nat)(os:OsState)(C N b:Addr)(tk t1:Tok)
  (hC:h.get? C=some ⟨.type "type",none,.cls {name:="K",bases:=[.type "object"],mro:=[.ref C,.type "object"],ns:=N,qualname:="cmp_to_key.<locals>.K",hasDict:=false,slotNames:=["obj"]},#[some (.ref b),none,some (.str "K" tk),some (.str "cmp_to_key.<locals>.K" t1),some (.builtin "object.__new__"),some (.bool false)]⟩) :
  wpAny (model prog w) A (call (.type "super") [.ref C,.ref C]) (AvM C h g d os) (fun _ _=>False) ⟨h,g,d,t,os⟩:=by
 refine ks_callType_codesW (Q₁:=fun obj s₁=>obj=.ref h.objs.size∧s₁=⟨h.push {cls:=.type "super",data:=.fields #[.none,.none,.none]},g,d,t,os⟩) F.ks_called_super (ks_wpAny_checkTypeCall_super hC rfl) F.ks_entry_super_init
  (ks_code_super_new _ _ ⟨rfl,rfl⟩) fun obj s₁ h₁=>?_
 obtain⟨rfl,rfl⟩:=h₁
 have D:=(Mem.start h).alloc (o:={cls:=.type "super",data:=.fields #[.none,.none,.none]}) rfl;have up:∀ y o,h.get? y=some o→(h.push {cls:=.type "super",data:=.fields #[.none,.none,.none]}).get? y=some o:=fun y o e=>Heap.get?_push_of_some _ e;have hso:(h.push {cls:=.type "super",data:=.fields #[.none,.none,.none]}).get? h.objs.size=some {cls:=.type "super",dict:=none,data:=.fields #[.none,.none,.none],slots:=#[]}:=Heap.get?_push_at rfl rfl;have hD':=up _ _ hC;refine⟨⟨_,hso,rfl⟩,F.ks_initArgs_super _ _ _,?_⟩;exact Ati D hD' fun h' D3=>⟨rfl,.mk D3⟩
end
end Mine
local macro_rules | `(tactic| x_close) => `(tactic| (with_reducible constructor) <;> first | assumption | exact PySem.W.X.Mem.start _)
namespace Mine
open PySem PySem.W PyProof.Rows PySem.W.X
inductive AlH(C:Addr)(h:Heap)(g:Array GenState)(d:Drawn)(os:OsState):Value→Shared→Prop
 |mk {b:Addr} {h':Heap} {t:Nat}:Mem h h' [] [(b,⟨.type "builtin_function_or_method",none,.fields #[.builtin "object.__init_subclass__",.ref C],#[]⟩)]→AlH C h g d os (.ref b) ⟨h',g,d,t,os⟩
section
theorem AwM(prog:Program)(w:World)(A:Around)(h:Heap)(g:Array GenState)(d:Drawn)(t:Nat)(os:OsState)(C N b:Addr)(tk t1:Tok)
  (hC:h.get? C=some ⟨.type "type",none,.cls {name:="K",bases:=[.type "object"],mro:=[.ref C,.type "object"],ns:=N,qualname:="cmp_to_key.<locals>.K",hasDict:=false,slotNames:=["obj"]},#[some (.ref b),none,some (.str "K" tk),some (.str "cmp_to_key.<locals>.K" t1),some (.builtin "object.__new__"),some (.bool false)]⟩) :
  wpAny (model prog w) A (call (.builtin "classmethod_descriptor.__get__") [.builtin "object.__init_subclass__",.none,.ref C]) (AlH C h g d os) (fun _ _=>False) ⟨h,g,d,t,os⟩:=by
 x_run
end
theorem Azu:typeOf (.builtin "object.__init_subclass__")=pure (.type "classmethod_descriptor"):=by kernel_rfl
theorem Azv:typeLookup (.type "classmethod_descriptor") "__get__"=pure (some (.builtin "classmethod_descriptor.__get__")):=by rw[typeLookup_type,builtinLookup_eq_fast];kernel_rfl
end Mine
namespace Mine
open PySem PySem.W PyProof.Rows PySem.W.X
theorem AwN{M:Model}{A:Around}{E:Value→Shared→Prop}{s:Shared}{a:Addr}{β:Type}{f:Value→β→Sem (ForInStep β)}{b:β}{Q:β→Shared→Prop}(h:wpAny M A (forIn [Value.type "object"] b f) Q E s) :
  wpAny M A (forIn (List.drop 1 (List.dropWhile (fun x=>x != Value.ref a) [Value.ref a,.type "object"])) b f) Q E s:=by
 have e:List.drop 1 (List.dropWhile (fun x=>x != Value.ref a) [Value.ref a,.type "object"])=[.type "object"]:=by simp [List.dropWhile]
 rw[e];exact h
theorem Azw(prog:Program)(w:World)(A:Around)(E:Value→Shared→Prop)(h:Heap)(g:Array GenState)(d:Drawn)(t:Nat)(os:OsState)(so C N b:Addr)(tk t1 tq:Tok)(P:PySem.Fin→Shared→Prop)
  (hso:h.get? so=some {cls:=.type "super",dict:=none,data:=.fields #[.ref C,.ref C,.ref C],slots:=#[]})
  (hC:h.get? C=some ⟨.type "type",none,.cls {name:="K",bases:=[.type "object"],mro:=[.ref C,.type "object"],ns:=N,qualname:="cmp_to_key.<locals>.K",hasDict:=false,slotNames:=["obj"]},#[some (.ref b),none,some (.str "K" tk),some (.str "cmp_to_key.<locals>.K" t1),some (.builtin "object.__new__"),some (.bool false)]⟩)
  (mc:Str→Option Value) (hmc:h.Ns cStatics mc) (hno:mc "thirdparty.any"=none)
  (hP:∀ v s',AlH C h g d os v s'→P (.done (.ret v)) s') :
  wpAny (model prog w) A (Builtin.«super.__getattribute__» ⟨[.ref so,.str "__init_subclass__" tq],[]⟩) P E ⟨h,g,d,t,os⟩:=by
 have hdt:({cls:=.type "super",dict:=none,data:=.fields #[.ref C,.ref C,.ref C],slots:=#[]}:Obj).data=.fields #[.ref C,.ref C,.ref C]:=rfl;have f0:(#[.ref C,.ref C,.ref C]:Array Value)[0]?=some (.ref C):=rfl;have f1:(#[.ref C,.ref C,.ref C]:Array Value)[1]?=some (.ref C):=rfl;have f2:(#[.ref C,.ref C,.ref C]:Array Value)[2]?=some (.ref C):=rfl;unfold Builtin.«super.__getattribute__»
 repeat (first
  |(with_reducible refine wpAny_field hso hdt f0 ?_)|(with_reducible refine wpAny_field hso hdt f1 ?_)|(with_reducible refine wpAny_field hso hdt f2 ?_)
  |(with_reducible refine wpAny_nsGet hmc ?_;rw[hno])
  |(refine AwN ?_)|((with_reducible show wpAny _ _ (classOwn _ _) _ _ _);refine Ab3 AqO ?_)|(with_reducible refine Ab3 Azu ?_)|(with_reducible refine Ab3 Azv ?_)
  |((with_reducible show wpAny _ _ (call _ _) _ _ _);rw[if_pos (beq_self_eq_true _)];refine wpAny_mono (AwM prog w _ h g d t os C N b tk t1 hC) (fun v s' hv=>?_) (fun _ _ hv=>hv.elim))
  |(with_reducible refine wpAny_load' hC ?_)|(with_reducible refine wpAny_loadPart' hC ?_)
  |((with_reducible show wpAny _ _ (mroOf (.ref _)) _ _ _);unfold mroOf)
  |wp_step
  |dsimp only)
 all_goals exact hP _ _ (by assumption)
theorem Atk(prog:Program)(w:World)(A:Around)(E:Value→Shared→Prop)(h:Heap)(g:Array GenState)(d:Drawn)(t:Nat)(os:OsState)(so C N b:Addr)(tk t1:Tok)(Q:Value→Shared→Prop)
  (hso:h.get? so=some {cls:=.type "super",dict:=none,data:=.fields #[.ref C,.ref C,.ref C],slots:=#[]})
  (hC:h.get? C=some ⟨.type "type",none,.cls {name:="K",bases:=[.type "object"],mro:=[.ref C,.type "object"],ns:=N,qualname:="cmp_to_key.<locals>.K",hasDict:=false,slotNames:=["obj"]},#[some (.ref b),none,some (.str "K" tk),some (.str "cmp_to_key.<locals>.K" t1),some (.builtin "object.__new__"),some (.bool false)]⟩)
  (mc:Str→Option Value) (hmc:h.Ns cStatics mc) (hno:mc "thirdparty.any"=none)
  (hq:∀ v s',AlH C h g d os v s'→Q v s') :
  wpAny (model prog w) A (getAttr (.ref so) "__init_subclass__") Q E ⟨h,g,d,t,os⟩:=by
 have hlk:=F.ks_slot_super_ga.lookup;have hT:∀ t',(⟨h,g,d,t',os⟩:Shared).TypeIs (.ref so) "super":=fun _=>⟨_,hso,rfl⟩;unfold getAttr getAttrBy;refine wpAny_bind (wpAny_mkText (wpAny_holding (wpAny_bind (wpAny_typeOf (hT _) (wpAny_bind (wpAny_of_eq hlk ?_))))));show wpAny _ _ (getAttrByItsOwn (.ref so) (.str "__init_subclass__" t) (.type "super") (.builtin "super.__getattribute__") true false) _ _ _;unfold getAttrByItsOwn hookBefore callGetattribute boundAndCalled;refine wpAny_bind (wpAny_of_eq (show(if onTheHeap (.type "super") then typeLookup (.type "super") "__getattr__" else pure none)=pure none from rfl) ?_);refine wpAny_bind (wpAny_attempt (wpAny_holding ?_));show wpAny _ _ (bindSpecial (.builtin "super.__getattribute__") (.ref so) >>= _) _ _ _;refine wpAny_bind (wpAny_of_eq (F.ks_slot_super_ga.bind _) ?_);refine wpAny_mono (Q:=fun v s'=>AlH C h g d os v s') (E:=fun _ _=>False)
  (wpAny_call_entry F.ks_slot_super_ga (hT _) F.ks_entry_super_ga (Azw prog w _ _ h g d (t+1) os so C N b tk t1 t _ hso hC mc hmc hno fun v s' hv=>⟨_,rfl,hv⟩) (F.ks_gaArgs_super _ _)) (fun v s' hv=>?_) fun _ _ z=>z.elim
 cases hv with|mk D=>?_
 exact wpAny_pure (hq _ _ (.mk D))
inductive AqP(h:Heap)(g:Array GenState)(d:Drawn)(os:OsState):Value→Shared→Prop
 |mk {h':Heap} {t:Nat}:Mem h h' [] []→AqP h g d os .none ⟨h',g,d,t,os⟩
section
theorem Atl(prog:Program)(w:World)(A:Around)(h:Heap)(g:Array GenState)(d:Drawn)(t:Nat)(os:OsState)(C bi N b:Addr)(tk t1:Tok)
  (hC:h.get? C=some ⟨.type "type",none,.cls {name:="K",bases:=[.type "object"],mro:=[.ref C,.type "object"],ns:=N,qualname:="cmp_to_key.<locals>.K",hasDict:=false,slotNames:=["obj"]},#[some (.ref b),none,some (.str "K" tk),some (.str "cmp_to_key.<locals>.K" t1),some (.builtin "object.__new__"),some (.bool false)]⟩)
  (hb:h.get? bi=some ⟨.type "builtin_function_or_method",none,.fields #[.builtin "object.__init_subclass__",.ref C],#[]⟩) :
  wpAny (model prog w) A (call (.ref bi) []) (AqP h g d os) (fun _ _=>False) ⟨h,g,d,t,os⟩:=by
 x_run
end
end Mine
namespace Mine
open PySem PySem.W PyProof.Rows PySem.W.X
section
variable{prog:Program}{w:World}{M:Model}{A:Around}{E:Value→Shared→Prop}{h₀ h:Heap}{g:Array GenState}{d:Drawn}{t:Nat}{os:OsState}{chg news:List (Addr×Obj)}
theorem AvN{α β:Type}{s:Shared}{f:α→β→Sem (ForInStep β)}{b:β}{xs:Array α}{Q:β→Shared→Prop}(turn:∀ x∈xs.toList,wpAny M A (f x b) (fun r s'=>r=.yield b∧s'=s) E s)(fin:Q b s):wpAny M A (forIn xs b f) Q E s:=by
 rw[← Array.forIn_toList];refine wpAny_forIn_list f (fun rest b' s'=>(∀ x∈rest,x∈xs.toList)∧b'=b∧s'=s) Q ?_ ?_ _ _ ⟨fun _ hx=>hx,rfl,rfl⟩
 ·intro x rest b' s' q1;refine AjX q1 fun hm z1 z2=>?_;subst z1;subst z2;refine wpAny_mono (turn x (hm x (.head _))) (fun r s'' hr=>?_) fun _ _ e=>e;refine AaG hr fun z3 z4=>?_;subst z3;subst z4;exact⟨fun y hy=>hm y (.tail _ hy),rfl,rfl⟩
 ·intro b' s' q2;refine AjX q2 fun _ z5 z6=>?_;subst z5;subst z6;exact fin
theorem Abe{h₀ h:Heap}{news:List (Addr×Obj)}(D:Mem h₀ h [] news):∀ b o,h₀.get? b=some o→h.get? b=some o:=fun b o e=>D.keep b o e (by rw[show away [] b=true from rfl,Bool.or_true])
end
end Mine
namespace Mine
open PySem PySem.W PyProof.Rows PySem.W.X
theorem AlI{M:Model}{A:Around}{E:Value→Shared→Prop}{h:Heap}{g:Array GenState}{d:Drawn}{t:Nat}{os:OsState}{a:Addr}{es:Array DictEntry}{n:Nat}{Q:Array DictEntry→Shared→Prop}(hk:h.get? a=some ⟨.type "dict",none,.dict es n,#[]⟩)(hq:Q es ⟨h,g,d,t,os⟩) :
  wpAny M A (dictEntries a) Q E ⟨h,g,d,t,os⟩:=by
 unfold dictEntries;exact wpAny_bind (wpAny_loadPart' hk (wpAny_pure hq))
noncomputable def Azx(s:Shared)(e:DictEntry):Prop:=(∃ k t,e.key=.str k t)∧Builtin.laidUnderItsOwnName e.key e.val=false∧∃ T,s.TypeIs e.val T∧typeLookup (.type T) "__set_name__"=pure none
theorem AwO{s:Shared}{w:World}{ln i0 i2 i3 i4 i5 i6 i7 i8 i9 i10 i11:Int}{u0 u2 t0 t2 t3 t4 t5 t6 t7 t8 t9 t10 t11:Tok}{sl f0 f1 f2 f3 f4 f5 st m:Addr}{t:Nat}
  (hsl:s.TypeIs (.ref sl) "list") (h0:s.TypeIs (.ref f0) "function") (h1:s.TypeIs (.ref f1) "function") (h2:s.TypeIs (.ref f2) "function") (h3:s.TypeIs (.ref f3) "function") (h4:s.TypeIs (.ref f4) "function") (h5:s.TypeIs (.ref f5) "function")
  (hst:s.TypeIs (.ref st) "tuple") (hm:s.TypeIs (.ref m) "member_descriptor"):∀ e∈Aoq w ln i0 i2 i3 i4 i5 i6 i7 i8 i9 i10 i11 u0 u2 t0 t2 t3 t4 t5 t6 t7 t8 t9 t10 t11 sl f0 f1 f2 f3 f4 f5 st m t,Azx s e:=by
 intro e he;simp only[Aoq,List.mem_cons,List.not_mem_nil,or_false] at he
 rcases he with rfl|rfl|rfl|rfl|rfl|rfl|rfl|rfl|rfl|rfl|rfl|rfl|rfl
 ·exact⟨⟨_,_,rfl⟩,by kernel_rfl!,_,typeIs_str _ _ _,AqM⟩
 ·exact⟨⟨_,_,rfl⟩,by kernel_rfl!,_,typeIs_int _ _ _,AqN⟩
 ·exact⟨⟨_,_,rfl⟩,by kernel_rfl!,_,hsl,AmR⟩
 ·exact⟨⟨_,_,rfl⟩,by kernel_rfl!,_,h0,AbS⟩
 ·exact⟨⟨_,_,rfl⟩,by kernel_rfl!,_,h1,AbS⟩
 ·exact⟨⟨_,_,rfl⟩,by kernel_rfl!,_,h2,AbS⟩
 ·exact⟨⟨_,_,rfl⟩,by kernel_rfl!,_,h3,AbS⟩
 ·exact⟨⟨_,_,rfl⟩,by kernel_rfl!,_,h4,AbS⟩
 ·exact⟨⟨_,_,rfl⟩,by kernel_rfl!,_,h5,AbS⟩
 ·exact⟨⟨_,_,rfl⟩,by kernel_rfl!,_,typeIs_none _,AkA⟩
 ·exact⟨⟨_,_,rfl⟩,by kernel_rfl!,_,hst,AkB⟩
 ·exact⟨⟨_,_,rfl⟩,by kernel_rfl!,_,hm,Ah6⟩
 ·exact⟨⟨_,_,rfl⟩,by kernel_rfl!,_,typeIs_none _,AkA⟩
end Mine
namespace Mine
open PySem PySem.W PyProof.Rows PySem.W.X
theorem AqQ{prog:Program}{w:World}{A:Around}{E:Value→Shared→Prop}{h₀ h:Heap}{g:Array GenState}{d:Drawn}{t:Nat}{os:OsState}{chg news:List (Addr×Obj)}{l:Addr}{vs:List Value}{n:Nat}{Q:List Value→Shared→Prop}(D:Mem h₀ h chg news)
  (hl:h.get? l=some {cls:=.type "list",data:=.seq vs.toArray n}) (hsz:vs.length≤sizeLine) (x:∀ a h' o,Mem h₀ h' chg ((a,o) :: news)→Q vs ⟨h',g,d,t,os⟩):wpAny (model prog w) A (collect (.ref l)) Q E ⟨h,g,d,t,os⟩:=
 collect_list ⟨_,hl,rfl,_,rfl⟩ (x _ _ _ ((D.alloc rfl).update (i:=0) rfl rfl)) hsz
theorem AB8{M:Model}{A:Around}{E:Value→Shared→Prop}{s:Shared}{a:Addr}{f:Value→Sem Bool}{Q:Bool→Shared→Prop}(h:wpAny M A (List.anyM f [.type "object"]) Q E s) :
  wpAny M A (List.anyM f (List.filter (fun x=>x != Value.ref a) [Value.ref a,.type "object"])) Q E s:=by
 have e:List.filter (fun x=>x != Value.ref a) [Value.ref a,.type "object"]=[.type "object"]:=by simp
 rw[e];exact h
theorem Azy{M:Model}{A:Around}{E:Value→Shared→Prop}{s:Shared}{v:Value}{f:Value→Sem Bool}{Q:Bool→Shared→Prop}(h:wpAny M A (f v) (fun b s'=>Q b s') E s) :
  wpAny M A (List.anyM f [v]) Q E s:=by
 show wpAny M A (f v >>= fun b=>match b with|true=>pure true|false=>pure false) Q E s;refine wpAny_bind (wpAny_mono h (fun b s' hb=>?_) fun _ _ e=>e)
 cases b<;>exact wpAny_pure hb
theorem AqR:((Manifest.find? "object").elim false fun ty=>ty.attrs.any (·.1 == "__del__"))=false:=by decide +kernel
theorem AnP{M:Model}{A:Around}{E:Value→Shared→Prop}{h:Heap}{g:Array GenState}{d:Drawn}{t:Nat}{os:OsState}{x:Str}{Q:Value→Shared→Prop}(k:Q (.str x t) ⟨h,g,d,t+1,os⟩):wpAny M A (mkText x) Q E ⟨h,g,d,t,os⟩:=wpAny_mkText k
theorem Azz{M:Model}{A:Around}{E:Value→Shared→Prop}{s:Shared}{Q:Setting→Shared→Prop}(k:Q ⟨M.prog,M.w.params⟩ s):wpAny M A ask Q E s:=wpAny_askSetting k
theorem AwP{α:Type}{M:Model}{A:Around}{E:Value→Shared→Prop}{s:Shared}{m:Sem α}{k:Value→Sem α}{Q:α→Shared→Prop}(h:wpAny M A m Q (fun e s'=>wpAny M A (k e) Q E s') s):wpAny M A (Sem.tryCatch m k) Q E s:=wpAny_tryCatch h
theorem AmS{M:Model}{A:Around}{E:Value→Shared→Prop}{h₀ h:Heap}{g:Array GenState}{d:Drawn}{t:Nat}{os:OsState}{chg news:List (Addr×Obj)}{a:Addr}{f:ClassData→ClassData}{o:Obj}{c:ClassData}{Q:Unit→Shared→Prop}(D:Mem h₀ h chg news)(i:Nat)(hi:news[i]?=some (a,o))(hd:o={o with data:=.cls c})
  (o':Obj) (ho':o'={o with data:=.cls (f c)}) (hl:(Data.cls (f c)).pastItsLine=none) (x:∀ h',Mem h₀ h' chg (news.set i (a,o'))→Q () ⟨h',g,d,t,os⟩) :
  wpAny M A (updateCls a f) Q E ⟨h,g,d,t,os⟩:=by
 subst ho';have e:Obj.mapCls f o={o with data:=.cls (f c)}:=by rw[hd];rfl
 unfold updateCls;refine wpAny_bind (wpAny_load (D.at i a o hi) ?_);rw[hd];have hf:(Obj.mapCls f o).isFreed=false:=by rw[e];rfl
 have D':=D.update hi hf;have hi':(news.set i (a,Obj.mapCls f o))[i]?=some (a,Obj.mapCls f o):=by rw[List.getElem?_set_self];exact(List.getElem?_eq_some_iff.mp hi).1
 refine wpAny_bind (wpAny_update (D.at i a o hi) ?_);unfold lookBehind;refine wpAny_bind (wpAny_loadPart (D'.at i a _ hi') ?_);rw[e] at D' ⊢;dsimp only;rw[hl];exact wpAny_pure (x _ D')
noncomputable abbrev Thn{α β:Type}(M:Model)(A:Around)(f:α→Sem β)(Q:β→Shared→Prop)(E:Value→Shared→Prop):α→Shared→Prop:=fun a s=>wpAny M A (f a) Q E s
section
variable{α β:Type}{M:Model}{A:Around}{m:Sem α}{f:α→Sem β}{Q:β→Shared→Prop}{E:Value→Shared→Prop}{s:Shared}{a:α}
theorem wb(h:wpAny M A m (Thn M A f Q E) E s):wpAny M A (m >>= f) Q E s:=wpAny_bind h
theorem AvO(h:wpAny M A (f a) Q E s):Thn M A f Q E a s:=h
end
noncomputable abbrev MS(h₀:Heap)(news:List (Addr×Obj)):={h:Heap // Mem h₀ h [] news}
section
variable{α:Type}{M:Model}{A:Around}{E:Value→Shared→Prop}{h₀:Heap}{g:Array GenState}{d:Drawn}{t:Nat}{os:OsState}{news:List (Addr×Obj)}{X:MS h₀ news}
noncomputable def MS.up(X:MS h₀ news)(i:Nat)(a:Addr)(o:Obj)(f:Obj→Obj)(hi:news[i]?=some (a,o))(hf:(f o).isFreed=false){n2:List (Addr×Obj)}(hn:news.set i (a,f o)=n2):MS h₀ n2:=⟨X.1.update a f,hn ▸ X.2.update hi hf⟩
theorem MS.old(X:MS h₀ news){a:Addr}{o:Obj}(e:h₀.get? a=some o)(q:hasCls o=true):X.1.get? a=some o:=X.2.old a o e (by rw[q];rfl)
theorem MS.at(X:MS h₀ news)(i:Nat){a:Addr}{o:Obj}(hi:news[i]?=some (a,o)):X.1.get? a=some o:=X.2.at i a o hi
theorem Atm{o:Obj}{Q:Addr→Shared→Prop}(hf:o.isFreed=false)(x:∀ a (X':MS h₀ ((a,o) :: news)),Q a ⟨X'.1,g,d,t,os⟩):wpAny M A (alloc o) Q E ⟨X.1,g,d,t,os⟩:=
 wpAny_alloc (x _ ⟨_,X.2.alloc hf⟩)
theorem AfH{a:Addr}{f:Obj→Obj}{o:Obj}{Q:Unit→Shared→Prop}(i:Nat)(hi:news[i]?=some (a,o))(hf:(f o).isFreed=false){n2:List (Addr×Obj)}(hn:news.set i (a,f o)=n2)(x:Q () ⟨(X.up i a o f hi hf hn).1,g,d,t,os⟩) :
  wpAny M A (update a f) Q E ⟨X.1,g,d,t,os⟩:=wpAny_update (X.2.at i a o hi) x
theorem AcP{a:Addr}{q:Option Value}{f:Obj→Obj}{o:Obj}{Q:Unit→Shared→Prop}(i:Nat)(hi:news[i]?=some (a,o))(hf:(f o).isFreed=false){n2:List (Addr×Obj)}(hn:news.set i (a,f o)=n2)(x:Q () ⟨(X.up i a o f hi hf hn).1,g,d,t,os⟩) :
  wpAny M A (updatePart a q f) Q E ⟨X.1,g,d,t,os⟩:=wpAny_updatePart (X.2.at i a o hi) x
theorem AlJ{a:Addr}{f:ClassData→ClassData}{o:Obj}{c:ClassData}{Q:Unit→Shared→Prop}(i:Nat)(hi:news[i]?=some (a,o))(hd:o={o with data:=.cls c})
  (o':Obj) (ho':o'={o with data:=.cls (f c)}) (hl:(Data.cls (f c)).pastItsLine=none) (x:∀ X':MS h₀ (news.set i (a,o')),Q () ⟨X'.1,g,d,t,os⟩) :
  wpAny M A (updateCls a f) Q E ⟨X.1,g,d,t,os⟩:=AmS X.2 i hi hd o' ho' hl fun _ D=>x ⟨_,D⟩
theorem AzA{m:Sem α}{Q:α→Shared→Prop}(k:∀ h,Mem h₀ h [] news→wpAny M A m Q E ⟨h,g,d,t,os⟩):wpAny M A m Q E ⟨X.1,g,d,t,os⟩:=k _ X.2
theorem AB9{m:Sem α}{Q:α→Shared→Prop}(k:∀ X:MS h₀ [],wpAny M A m Q E ⟨X.1,g,d,t,os⟩):wpAny M A m Q E ⟨h₀,g,d,t,os⟩:=k ⟨_,.start h₀⟩
end
theorem Aos{prog:Program}{w:World}{A:Around}{E:Value→Shared→Prop}{h₀:Heap}{g:Array GenState}{d:Drawn}{t:Nat}{os:OsState}{news:List (Addr×Obj)}{X:MS h₀ news}{l:Addr}{vs:List Value}{n:Nat}{Q:List Value→Shared→Prop}
  (hl:h₀.get? l=some {cls:=.type "list",data:=.seq vs.toArray n}) (hsz:vs.length≤sizeLine) (x:∀ a o (X':MS h₀ ((a,o) :: news)),Q vs ⟨X'.1,g,d,t,os⟩):wpAny (model prog w) A (collect (.ref l)) Q E ⟨X.1,g,d,t,os⟩:=
 AqQ X.2 (X.old hl rfl) hsz fun a _ o D=>x a o ⟨_,D⟩
theorem ADE(prog:Program)(w:World)(A:Around)(P:PySem.Fin→Shared→Prop)(E:Value→Shared→Prop)(hO:Heap)(g:Array GenState)(d:Drawn)(t:Nat)(os:OsState)(b ns sl f0 f1 f2 f3 f4 f5 st:Addr)(tk v0 v1 u0 u1 u2 t0 t1 t2 t3 t4 t5 t6 t7 t8 t9 t10 t11:Tok)(ln i0 i1 i2 i3 i4 i5 i6 i7 i8 i9 i10 i11:Int)(n k:Nat)
   (fd0 fd1 fd2 fd3 fd4 fd5:FuncData)
   (hb:hO.get? b=some {cls:=.type "tuple",data:=.seq #[.type "object"] k})
   (hsl:hO.get? sl=some {cls:=.type "list",data:=.seq [Value.str "obj" v0].toArray k})
   (hst:hO.get? st=some {cls:=.type "tuple",data:=.seq #[.str "obj" v1] k})
   (hf0:hO.get? f0=some {cls:=.type "function",data:=.func fd0})
   (hf1:hO.get? f1=some {cls:=.type "function",data:=.func fd1})
   (hf2:hO.get? f2=some {cls:=.type "function",data:=.func fd2})
   (hf3:hO.get? f3=some {cls:=.type "function",data:=.func fd3})
   (hf4:hO.get? f4=some {cls:=.type "function",data:=.func fd4})
   (hf5:hO.get? f5=some {cls:=.type "function",data:=.func fd5})
   (hsm:(ns == sysModules)=false) (mc:Str→Option Value) (hmc:hO.Ns cStatics mc) (hno:mc "thirdparty.any"=none)
   (hns:hO.get? ns=some {cls:=.type "dict",data:=.dict #[⟨i0,.str "__module__" t0,.str "cpy313.functools" u0⟩,⟨i1,.str "__qualname__" t1,.str "cmp_to_key.<locals>.K" u1⟩,⟨i2,.str "__firstlineno__" t2,.int ln u2⟩,⟨i3,.str "__slots__" t3,.ref sl⟩,
   ⟨i4,.str "__init__" t4,.ref f0⟩,⟨i5,.str "__lt__" t5,.ref f1⟩,⟨i6,.str "__gt__" t6,.ref f2⟩,⟨i7,.str "__eq__" t7,.ref f3⟩,⟨i8,.str "__le__" t8,.ref f4⟩,⟨i9,.str "__ge__" t9,.ref f5⟩,⟨i10,.str "__hash__" t10,.none⟩,⟨i11,.str "__static_attributes__" t11,.ref st⟩] n})
   (hP:∀ (aM aC aN aO:Addr) (oO:Obj) (tM:Nat) (h1 h':Heap) (t':Nat),Mem hO h1 [] [(aM,AyS aC tM),(aC,AwL aC aN b tk u1),(aN,Aax (Aoq w ln i0 i2 i3 i4 i5 i6 i7 i8 i9 i10 i11 u0 u2 t0 t2 t3 t4 t5 t6 t7 t8 t9 t10 t11 sl f0 f1 f2 f3 f4 f5 st aM tM) 3),(aO,oO)] →
   (∀ a o,h1.get? a=some o→h'.get? a=some o)→P (.done (.ret (.ref aC))) ⟨h',g,d,t',os⟩) :
   wpAny (model prog w) A (Builtin.«type.__new__» ⟨[.type "type",.str "K" tk,.ref b,.ref ns],[]⟩) P E ⟨hO,g,d,t,os⟩:=by
 refine AB9 fun X=>?_;unfold Builtin.«type.__new__»
 iterate 559 (first
 |with_reducible (first|refine wpAny_pure ?_|refine wb ?_|refine wpAny_holding ?_|refine wpAny_standAt ?_|refine wpAny_point ?_|refine wpAny_rule ?_|refine wpAny_fresh' ?_|refine wpAny_mkInt' ?_|refine AnP ?_|refine AwP ?_|refine Azz ?_|refine Ab3 AvG ?_|refine Ab3 AvL ?_|refine Ab3 AqO ?_|refine Ab3 AvH ?_|refine Ab3 AlG ?_|refine Ab3 AvI ?_|refine Ab3 AnM ?_|refine Ab3 AqJ ?_|refine Ab3 Agq ?_|refine Ab3 AnN ?_|refine Ab3 sl_best ?_|refine Ab3 AnO ?_|refine Ab3 AqK ?_|refine Ab3 AqL ?_|refine Ab3 AvJ ?_|refine Ab3 AvK ?_|refine Ab3 AqM ?_|refine Ab3 AqN ?_|refine Ab3 AmR ?_|refine Ab3 AbS ?_|refine Ab3 AkA ?_|refine Ab3 AkB ?_|refine Ab3 Ah6 ?_|refine Ab3 Ah7 ?_|refine Ab3 AdJ ?_)
 |((try with_reducible refine AvO ?_);first
 |with_reducible (first|refine wpAny_pure ?_|refine wb ?_|refine wpAny_holding ?_|refine wpAny_standAt ?_|refine wpAny_point ?_|refine wpAny_rule ?_|refine wpAny_fresh' ?_|refine wpAny_mkInt' ?_|refine AnP ?_|refine AwP ?_|refine Azz ?_|refine Ab3 AvG ?_|refine Ab3 AvL ?_|refine Ab3 AqO ?_|refine Ab3 AvH ?_|refine Ab3 AlG ?_|refine Ab3 AvI ?_|refine Ab3 AnM ?_|refine Ab3 AqJ ?_|refine Ab3 Agq ?_|refine Ab3 AnN ?_|refine Ab3 sl_best ?_|refine Ab3 AnO ?_|refine Ab3 AqK ?_|refine Ab3 AqL ?_|refine Ab3 AvJ ?_|refine Ab3 AvK ?_|refine Ab3 AqM ?_|refine Ab3 AqN ?_|refine Ab3 AmR ?_|refine Ab3 AbS ?_|refine Ab3 AkA ?_|refine Ab3 AkB ?_|refine Ab3 Ah6 ?_|refine Ab3 Ah7 ?_|refine Ab3 AdJ ?_)
 |(with_reducible refine AB8 ?_;refine Azy ?_;dsimp only;rw[AqR])
 |(with_reducible show wpAny _ _ (updateCls _ _) _ _ _;rename_i _ aN _;rename Addr=>aC;refine AlJ 0 (o:=⟨.type "type",none,.cls {name:="K",bases:=[.type "object"],mro:=[],ns:=aN,qualname:="cmp_to_key.<locals>.K"},#[some (.ref b),none,some (.str "K" tk),some (.str "cmp_to_key.<locals>.K" u1)]⟩) (by kernel_rfl!) rfl ⟨.type "type",none,.cls {name:="K",bases:=[.type "object"],mro:=[.ref aC,.type "object"],ns:=aN,qualname:="cmp_to_key.<locals>.K"},#[some (.ref b),none,some (.str "K" tk),some (.str "cmp_to_key.<locals>.K" u1)]⟩ (by kernel_rfl!) (by kernel_rfl!) ?_;intro X)
 |((with_reducible show wpAny _ _ (collect _) _ _ _);(refine Aos (by assumption) (Nat.le_of_ble_eq_true rfl) ?_);intro aO o X)
 |(with_reducible apply wpAny_ite_false;focus (first|assumption|rfl))
 |(with_reducible apply wpAny_ite_true;focus (first|assumption|rfl))
 |(with_reducible apply wpAny_load';focus (first|exact MS.old _ (by assumption) rfl|exact MS.at _ 0 rfl|exact MS.at _ 1 rfl|exact MS.at _ 2 rfl|exact MS.at _ 3 rfl;done))
 |(with_reducible apply wpAny_loadPart';focus (first|exact MS.old _ (by assumption) rfl|exact MS.at _ 0 rfl|exact MS.at _ 1 rfl|exact MS.at _ 2 rfl|exact MS.at _ 3 rfl;done))
 |(with_reducible refine Atm rfl ?_;intro a X)
 |(with_reducible apply wpAny_ite_false;focus kernel_rfl!)
 |(with_reducible apply wpAny_ite_true;focus kernel_rfl!)
 |((with_reducible show wpAny _ _ (typeLookup (.ref _) _) _ _ _);unfold typeLookup)
 |((with_reducible show wpAny _ _ (mroOf (.ref _)) _ _ _);unfold mroOf)
 |((with_reducible show wpAny _ _ (strHash _) _ _ _);unfold strHash)
 |wp_delta
 |(conv=>(arg 3;rw[AB7]))
 |(conv=>(arg 3;rw[AqR]))
 |(with_reducible refine AfH (n2:=?_) 0 rfl rfl ?_ ?_;rotate_left;focus (dsimp only [List.set];exact rfl))
 |(with_reducible refine AcP (n2:=?_) 0 rfl rfl ?_ ?_;rotate_left;focus (dsimp only [List.set];exact rfl))
 |(with_reducible refine AfH (n2:=?_) 1 rfl rfl ?_ ?_;rotate_left;focus (dsimp only [List.set];exact rfl))
 |(with_reducible refine AcP (n2:=?_) 1 rfl rfl ?_ ?_;rotate_left;focus (dsimp only [List.set];exact rfl))
 |(with_reducible refine AfH (n2:=?_) 2 rfl rfl ?_ ?_;rotate_left;focus (dsimp only [List.set];exact rfl))
 |(with_reducible refine AcP (n2:=?_) 2 rfl rfl ?_ ?_;rotate_left;focus (dsimp only [List.set];exact rfl))
 |(with_reducible refine AfH (n2:=?_) 3 rfl rfl ?_ ?_;rotate_left;focus (dsimp only [List.set];exact rfl))
 |(with_reducible refine AcP (n2:=?_) 3 rfl rfl ?_ ?_;rotate_left;focus (dsimp only [List.set];exact rfl))
 |wp_step))
 try with_reducible refine AvO ?_
 rename Addr=>aM
 refine AzA fun hN D=>?_;have D2:=Ath [(aM,AyS aC t),(aC,AwL aC aN b tk u1),(aN,Aax (Aoq w ln i0 i2 i3 i4 i5 i6 i7 i8 i9 i10 i11 u0 u2 t0 t2 t3 t4 t5 t6 t7 t8 t9 t10 t11 sl f0 f1 f2 f3 f4 f5 st aM t) 3),(aO,o)] D (by kernel_rfl!);clear D;have kC:=D2.at 1 _ _ rfl;have kM:=D2.at 0 _ _ rfl;have kN:=D2.at 2 _ _ rfl;unfold AwL at kC;unfold Aax at kN;refine AwP ?_;refine wpAny_holding ?_;have ok:∀ tt,∀ e∈Aoq w ln i0 i2 i3 i4 i5 i6 i7 i8 i9 i10 i11 u0 u2 t0 t2 t3 t4 t5 t6 t7 t8 t9 t10 t11 sl f0 f1 f2 f3 f4 f5 st aM t,Azx ⟨hN,g,d,tt,os⟩ e:=fun tt=>
  AwO ⟨_,Abe D2 _ _ hsl,rfl⟩ ⟨_,Abe D2 _ _ hf0,rfl⟩ ⟨_,Abe D2 _ _ hf1,rfl⟩ ⟨_,Abe D2 _ _ hf2,rfl⟩ ⟨_,Abe D2 _ _ hf3,rfl⟩ ⟨_,Abe D2 _ _ hf4,rfl⟩ ⟨_,Abe D2 _ _ hf5,rfl⟩ ⟨_,Abe D2 _ _ hst,rfl⟩ ⟨_,kM,rfl⟩
 refine wpAny_bind (AlI kN ?_);refine wpAny_bind (AvN (fun e he=>?_) ?_)
 ·refine AaG (ok 0 e (by simpa using he)) fun q1 _=>?_;refine Avs q1 fun k tt hk=>?_;rw[hk];exact wpAny_bind (wpAny_pure (wpAny_pure ⟨rfl,rfl⟩))
 rw[if_neg (by decide)];refine wpAny_bind (AlI kN ?_);refine wpAny_bind (AvN (fun e he=>?_) ?_)
 ·obtain⟨_,hl,T,hT,hsn⟩:=ok _ e (by simpa using he)
  rw[if_neg (by rw[hl];decide)];exact wpAny_bind (wpAny_specialOf hT hsn (wpAny_pure ⟨rfl,rfl⟩))
 refine wpAny_bind (wpAny_mono (Atj prog w _ hN g d _ os aC aN b tk u1 kC) (fun v s' hv=>?_) fun _ _ e=>e.elim)
 cases hv with|mk D3=>?_
 have kC3:=Abe D3 _ _ kC;have kS:=D3.at 0 _ _ rfl;refine wpAny_bind (wpAny_holding (Atk prog w _ _ _ _ _ _ _ _ aC aN b tk u1 _ kS kC3 mc ((hmc.keeps (Abe D2)).keeps (Abe D3)) hno fun v s' hv=>?_))
 cases hv with|mk D4=>?_
 have kC4:=Abe D4 _ _ kC3;have kB:=D4.at 0 _ _ rfl;refine wpAny_bind (wpAny_mono (Atl prog w _ _ _ _ _ _ _ _ aN b tk u1 kC4 kB) (fun v s' hv=>?_) fun _ _ e=>e.elim)
 cases hv with|mk D5=>?_
 refine wpAny_pure (wpAny_pure ?_);exact hP aM aC aN aO o t hN _ _ D2 fun a o e=>Abe D5 _ _ (Abe D4 _ _ (Abe D3 _ _ e))
theorem AqS:Bind.madeBy (.type "type")=pure (some "type.__new__"):=by unfold Bind.madeBy;rw[show mroOf (.type "type")=pure [.type "type",.type "object"] by rw[mroOf_type];kernel_rfl];simp only[pure_bind,List.forIn_cons,typeLookup_type,builtinLookup_eq_fast];kernel_rfl
theorem Atn:mroOf (.type "type")=pure [.type "type",.type "object"]:=by rw[mroOf_type];kernel_rfl
theorem AwQ(tk:Tok)(b ns:Addr):checkTypeCall "type" ⟨[.str "K" tk,.ref b,.ref ns],[]⟩=pure ():=by kernel_rfl
theorem AzB(tk:Tok)(b ns:Addr):checkBuiltinCall "type.__new__" ⟨[.type "type",.str "K" tk,.ref b,.ref ns],[]⟩=pure ():=by kernel_rfl
theorem Ajp:entryFor table "type.__new__"=some Builtin.«type.__new__»:=entryFor_of_tree (by kernel_rfl)
theorem Ah8:entryFor table "type.__init__"=some Builtin.«type.__init__»:=entryFor_of_tree (by kernel_rfl)
theorem Acz:Slot "type" "__init__" "type.__init__":=.of (owner:="type") (n:="__init__") (by rw[typeLookup_type,builtinLookup_eq_fast];kernel_rfl) (by decide +kernel) (by decide +kernel) (by decide +kernel)
 (by first|exact .inl (by decide +kernel)|exact .inr (by decide +kernel)) (by rw[isSubtype_type];kernel_rfl)
theorem AwR(C:Value)(tk:Tok)(b ns:Addr):argsOk "type.__init__" ⟨[C,.str "K" tk,.ref b,.ref ns],[]⟩:=by unfold argsOk;kernel_rfl
theorem Ajq:plainId "type.__new__"=true:=by decide +kernel
theorem AwS(prog:Program)(w:World)(A:Around)(E:Value→Shared→Prop)(h:Heap)(g:Array GenState)(d:Drawn)(t:Nat)(os:OsState)(b ns:Addr)(tk:Tok)(Q:Value→Shared→Prop)
  (hnew:∀ (A':Around) (P:PySem.Fin→Shared→Prop) (E':Value→Shared→Prop),(∀ (aC:Addr) (oC:Obj) (cd:ClassData) (h':Heap) (t':Nat),h'.get? aC=some oC→oC.cls=.type "type"→oC.data=.cls cd→Q (.ref aC) ⟨h',g,d,t',os⟩→P (.done (.ret (.ref aC))) ⟨h',g,d,t',os⟩) →
   wpAny (model prog w) A' (Builtin.«type.__new__» ⟨[.type "type",.str "K" tk,.ref b,.ref ns],[]⟩) P E' ⟨h,g,d,t,os⟩) :
  wpAny (model prog w) A (call (.type "type") [.str "K" tk,.ref b,.ref ns]) Q E ⟨h,g,d,t,os⟩:=by
 refine wpAny_call (codeAny_of_tree ?_);show wpAny _ _ (callAny (.type "type") _) _ _ _;refine wpAny_pure ⟨Code.quiet_builtin _ (by decide +kernel),codeAny_builtin F.entry_type_call ?_⟩;unfold Builtin.«type.__call__»
 repeat (first
  |(with_reducible refine Ab3 (AwQ tk b ns) ?_)|(with_reducible refine Ab3 Atn ?_)|(with_reducible refine Ab3 AqS ?_)
  |wp_step)
 refine codeAny_of_tree ?_;show wpAny _ _ (do checkBuiltinCall "type.__new__" ⟨[.type "type",.str "K" tk,.ref b,.ref ns],[]⟩;again (.builtin "type.__new__" ⟨[.type "type",.str "K" tk,.ref b,.ref ns],[]⟩)) _ _ _;refine wpAny_bind (wpAny_of_eq (AzB tk b ns) (wpAny_pure ⟨plainId_quiet Ajq _,codeAny_builtin Ajp ?_⟩));refine hnew _ _ _ fun aC oC cd h' t' hC hcls hd hq=>?_;have hT:(⟨h',g,d,t',os⟩:Shared).TypeIs (.ref aC) "type":=⟨_,hC,hcls⟩;have hli:=Acz.lookup;have hbi:=Acz.bind (.ref aC);have hsub:=AlG;show wpAny _ _ _ _ _ _
 repeat (any_goals (first|assumption|wp_step))
 refine codeAny_mono (codeAny_call_builtin (R:=wants (fun r s₂=>r=.none∧s₂=⟨h',g,d,t',os⟩) E) Acz.plain Ah8 (Acz.check _ _ _ _ _ _ _ _ hT (AwR _ tk b ns) ?_)) fun r₂ s₂ hr₂=>?_
 ·unfold Builtin.«type.__init__»
  repeat (any_goals (first|assumption|wp_step))
  all_goals exact⟨rfl,rfl⟩
 ·cases r₂ with
  |error e=>exact hr₂
  |ok fl₂=>
   cases fl₂ with
   |ret r=>
    refine AaG hr₂ fun z1 z2=>?_;subst z1;subst z2
    repeat (any_goals (first|assumption|wp_step))
    all_goals exact hq
   |_=>exact hr₂.elim
section
variable{prog:Program}{w:World}{A:Around}{E:Value→Shared→Prop}{h:Heap}{g:Array GenState}{d:Drawn}{t:Nat}{os:OsState}
theorem AqT{cenv:Env}{name:Str}{v:Value}{es es':List DictEntry}{n n':Nat}{Q:Unit→Shared→Prop}(hst:storeName cenv name v=localSet cenv name v)(ha:h.get? cenv.locals=some (Aax es n))(hkey:aRefKeyMayBeTheName name es.toArray=false)
  (hput:Obj.putName name (AaF w name) (.str name t) v (Aax es n)=Aax es' n') (hq:∀ h',h'.get? cenv.locals=some (Aax es' n')→Heap.SameBut cenv.locals h h'→Q () ⟨h',g,d,t+1,os⟩) :
  wpAny (model prog w) A (storeName cenv name v) Q E ⟨h,g,d,t,os⟩:=by
 rw[hst];unfold localSet;refine wpAny_bind (wpAny_load' ha ?_);rw[if_pos (show((Aax es n).cls == Value.type "dict")=true from rfl)];unfold nsSet strHash;refine wpAny_bind (wpAny_bind (wpAny_askSetting (wpAny_pure (wpAny_bind (wpAny_mkText (wpAny_bind (wpAny_loadPart ha ?_)))))));show wpAny _ _ (if aRefKeyMayBeTheName name es.toArray=true then _ else _) _ _ _;rw[hkey,if_neg Bool.false_ne_true];refine wpAny_updatePart ha ?_;have hg:(h.update cenv.locals (Obj.putName name (AaF w name) (.str name t) v)).get? cenv.locals=some (Aax es' n'):=by have:=Heap.get?_update_self (h:=h) (Obj.putName name (AaF w name) (.str name t) v) ha (by rw[hput];rfl);rw[this,hput]
 exact hq _ hg (Heap.SameBut.update ..)
theorem AqU{name bind:Str}{args:Arguments}{body:List Stmt}{scope:Scope}{pos:Pos}{env:Env}{Q:Flow→Shared→Prop}{xs:List Arg}
  (ha:args={posonlyargs:=[],args:=xs,vararg:=none,kwonlyargs:=[],kw_defaults:=[],kwarg:=none,defaults:=[]}) (hx:∀ e,annotationsOf (xs++[]++[]++[]++[]) e=[])
  (hm:wpAny (model prog w) A (makeFunction name (qualnameIn env name bind) args (.stmts body) scope env [] [] [] pos pos.line) (fun f s'=>wpAny (model prog w) A (storeName env bind f) (fun _ s''=>Q .next s'') E s') E ⟨h,g,d,t,os⟩) :
  wpAny (model prog w) A (exec (.FunctionDef name args body [] none [] scope none bind pos) env) Q E ⟨h,g,d,t,os⟩:=by
 subst ha;rw[arm_exec_FunctionDef];unfold defStmt
 repeat wp_step
 show wpAny _ _ (evalNamed (annotationsOf (xs++[]++[]++[]++[]) env++[])) _ _ _;rw[hx];refine Ab3 (show evalNamed ([]++[])=pure [] from rfl) ?_;refine wpAny_mono hm (fun f s' hf=>?_) fun _ _ e=>e;refine wpAny_bind (Ab3 (show decorate ((([]:List Value).zip (([]:List Expr).map (·.pos))).reverse) f=pure f from rfl) ?_);refine wpAny_bind (wpAny_standAt (wpAny_bind (wpAny_bindName (wpAny_mono hf (fun _ s'' hq=>wpAny_pure hq) fun _ _ e=>e))))
end
theorem Aj9{es:List DictEntry}{n:Nat}:Abv (Aax es n):=Aap rfl
theorem Ag7{es:List DictEntry}{n:Nat}:¬ AcL (Aax es n):=AaU rfl (by decide)
structure CB(B:Bs)(names:Nat→Nat→Str)(tabs:List (Addr×Addr))(s₀:Shared)(g₀:Gh)(N:Addr)(es:List DictEntry)(n:Nat)(s:Shared)(g:Gh)(R:List (Addr×Addr)):Prop where
 st:Aag B s₀ g₀ s g
 hR:∀ q∈tabs,q∈R
 X:AbQ B.G names R s.heap
 ns:s.heap.get? N=some (Aax es n)
 new:s₀.heap.get? N=none∧g N=none
section
variable{B:Bs}{A:Around}{names:Nat→Nat→Str}{tabs:List (Addr×Addr)}{s₀ s s':Shared}{g₀ g g':Gh}{N:Addr}{es es':List DictEntry}{n n':Nat}{R R':List (Addr×Addr)}
theorem CB.step(C:CB B names tabs s₀ g₀ N es n s g R)(x:Aag B s g s' g')(X:AbQ B.G names R' s'.heap)(hR:∀ q∈R,q∈R'):CB B names tabs s₀ g₀ N es n s' g' R':=
 ⟨C.st.trans x,fun q hq=>hR q (C.hR q hq),X,x.ext.keep _ _ C.ns Aj9,C.new.1,x.shutNone C.ns C.new.2⟩
theorem CB.store(O:B.Ok)(C:CB B names tabs s₀ g₀ N es n s g R){cenv:Env}(hl:cenv.locals=N){name:Str}{v:Value}{Q:Unit→Shared→Prop}{E:Value→Shared→Prop}(hst:storeName cenv name v=localSet cenv name v)(hkey:aRefKeyMayBeTheName name es.toArray=false)
  (hput:Obj.putName name (AaF B.w name) (.str name s.toks) v (Aax es n)=Aax es' n') (hq:∀ s',CB B names tabs s₀ g₀ N es' n' s' g R→s'.toks=s.toks+1→(∀ a o,a≠N→s.heap.get? a=some o→s'.heap.get? a=some o)→Q () s') :
  wpAny B.M A (storeName cenv name v) Q E s:=by
 obtain⟨h,gg,d,t,os⟩:=s
 subst hl;refine AqT hst C.ns hkey hput fun h' hn hs=>hq _ ⟨C.st.turn O C.new.1 C.new.2 C.ns Ag7 hs rfl rfl,C.hR,C.X.keeps fun a o e tb=>?_,hn,C.new⟩ rfl fun a o ha e=>(hs.2 a ha).trans e;exact(hs.2 a fun ea=>by subst ea;rw[C.ns] at e;cases e;exact Ag7 tb).trans e
theorem CB.def_(O:B.Ok)(hb:AvC B)(TT:Aqv B names tabs)(C:CB B names tabs s₀ g₀ N es n s g R){cenv:Env}(hl:cenv.locals=N){c P:Addr}{name:Str}{args:Arguments}{body:List Stmt}{scope:Scope}{pos:Pos}{xs:List Arg}{clos:List (Str×Addr)}
  (hge:cenv.globals=mainGlobals) (hcode:cenv.code=.ref c) (hm:(c,P)∈R) (hqn:names pos.line pos.col=qualnameIn cenv name name) (ha:args={posonlyargs:=[],args:=xs,vararg:=none,kwonlyargs:=[],kw_defaults:=[],kwarg:=none,defaults:=[]})
  (hx:∀ e,annotationsOf (xs++[]++[]++[]++[]) e=[]) (hcl:closureFor scope cenv=pure clos) {Q:Flow→Shared→Prop} {E:Value→Shared→Prop} (hst:∀ v,storeName cenv name v=localSet cenv name v) (hkey:aRefKeyMayBeTheName name es.toArray=false)
  (hput:∀ v tk,Obj.putName name (AaF B.w name) (.str name tk) v (Aax es n)=Aax (es++[⟨AaF B.w name,.str name tk,v⟩]) (n+1))
  (hq:∀ a fd s' g' R' tk,CB B names tabs s₀ g₀ N (es++[⟨AaF B.w name,.str name tk,.ref a⟩]) (n+1) s' g' R'→Aag B s g s' g'∨True→g.le g'→(∀ q∈R,q∈R')→(∀ b o,b≠N→s.heap.get? b=some o→Abv o→s'.heap.get? b=some o)→Ago s'.heap g' a fd args (.stmts body) scope clos→Q .next s') :
  wpAny B.M A (exec (.FunctionDef name args body [] none [] scope none name pos) cenv) Q E s:=by
 have hs:s=⟨s.heap,s.gens,s.drawn,s.toks,s.os⟩:=rfl;rw[hs];refine AqU ha hx ?_;refine AnH O hb TT C.st.inv C.hR C.X hcl hge hcode hm hqn fun a fd s1 g1 R1 x1 X1 hR1 hnew M1=>?_;have C1:=C.step x1 X1 hR1;refine C1.store O hl (hst _) hkey (hput _ _) fun s2 C2 _ k2=>?_;have hne:∀ b o,s1.heap.get? b=some o→(∀ es n,o≠Aax es n)→b≠N:=fun b o e ho eb=>by subst eb;rw[C1.ns] at e;cases e;exact ho _ _ rfl
 refine hq a fd s2 g1 R1 _ C2 (.inr trivial) x1.le hR1 (fun b o hb' e hn'=>k2 b o hb' (x1.ext.keep b o e hn')) ?_;refine Alo M1.code fun c' o' e1 e2 e3 e4=>?_;have ec:c'≠N:=by
  intro h;subst h;rw[C1.ns] at e2;cases e2;rw[e1] at e4;refine Avv e4 fun c₂ o₂ vs t f1 f2 f3 _=>?_
  cases f1;rw[C1.ns] at f2;cases f2;injection f3
 have e5:=k2 c' o' ec e2;refine⟨M1.obj,⟨c',o',e1,e5,e3,?_⟩,M1.params,M1.body,M1.scope,M1.glob,M1.blt,M1.clos,M1.defs⟩;rw[e1] at e4 ⊢;exact AbG e4 e2 e5
end
noncomputable def Abp(s:Stmt):Pos:=s.pos
noncomputable def pg:Program:=PySem.Challenge.pw_qw0061_02
noncomputable def nth(i:Nat):Stmt:=(pg.main.body[i]?).getD (.Pass ⟨0,0,0,0⟩)
noncomputable def ckI:Nat:=10
noncomputable def kSt:Stmt:=((Aae (nth ckI))[0]?).getD (.Pass ⟨0,0,0,0⟩)
noncomputable def AfI:Scope:=Aad kSt
noncomputable def kb(i:Nat):Stmt:=((Aae kSt)[i]?).getD (.Pass ⟨0,0,0,0⟩)
noncomputable def Ags(i:Nat):Arguments:=Aqd (kb i)
noncomputable def AkC(i:Nat):List Stmt:=Aae (kb i)
noncomputable def kSc(i:Nat):Scope:=Aad (kb i)
noncomputable def Ajr(i:Nat):Pos:=Abp (kb i)
theorem Ato:Aae kSt=[kb 0,kb 1,kb 2,kb 3,kb 4,kb 5,kb 6,kb 7,kb 8]:=by kernel_rfl!
theorem kb0:kb 0=.Assign [.Name "__module__" (AbH (kb 0)).pos] (.Constant (.str "cpy313.functools") 0 (Aaj (kb 0)).pos) (Ajr 0):=by kernel_rfl!
noncomputable def kp1:Pos:=((ep (Aaj (kb 1))).l.getD 0 cn0).pos
theorem kb1:kb 1=.Assign [.Name "__slots__" (AbH (kb 1)).pos] (.List [.Constant (.str "obj") 0 kp1] (Aaj (kb 1)).pos) (Ajr 1):=by kernel_rfl!
theorem kb2:kb 2=.FunctionDef "__init__" (Ags 2) (AkC 2) [] none [] (kSc 2) none "__init__" (Ajr 2):=by kernel_rfl!
theorem kb3:kb 3=.FunctionDef "__lt__" (Ags 3) (AkC 3) [] none [] (kSc 3) none "__lt__" (Ajr 3):=by kernel_rfl!
theorem kb4:kb 4=.FunctionDef "__gt__" (Ags 4) (AkC 4) [] none [] (kSc 4) none "__gt__" (Ajr 4):=by kernel_rfl!
theorem kb5:kb 5=.FunctionDef "__eq__" (Ags 5) (AkC 5) [] none [] (kSc 5) none "__eq__" (Ajr 5):=by kernel_rfl!
theorem kb6:kb 6=.FunctionDef "__le__" (Ags 6) (AkC 6) [] none [] (kSc 6) none "__le__" (Ajr 6):=by kernel_rfl!
theorem kb7:kb 7=.FunctionDef "__ge__" (Ags 7) (AkC 7) [] none [] (kSc 7) none "__ge__" (Ajr 7):=by kernel_rfl!
theorem kb8:kb 8=.Assign [.Name "__hash__" (AbH (kb 8)).pos] (.Constant .none 0 (Aaj (kb 8)).pos) (Ajr 8):=by kernel_rfl!
theorem Aot(i:Nat)(hi:i=2∨i=3∨i=4∨i=5∨i=6∨i=7):Ags i={posonlyargs:=[],args:=(Ags i).args,vararg:=none,kwonlyargs:=[],kw_defaults:=[],kwarg:=none,defaults:=[]}:=by
 rcases hi with rfl|rfl|rfl|rfl|rfl|rfl<;>kernel_rfl!
theorem AyT(i:Nat)(hi:i=2∨i=3∨i=4∨i=5∨i=6∨i=7)(e:Env):annotationsOf ((Ags i).args++[]++[]++[]++[]) e=[]:=by
 rcases hi with rfl|rfl|rfl|rfl|rfl|rfl<;>kernel_rfl!
noncomputable def Ahk(N cm:Addr)(code:Value)(frame:Addr):Env:={scope:=AfI,locals:=N,globals:=mainGlobals,qual:="cmp_to_key.<locals>.K.",code,frame:=some frame,builtins:=builtinsNs,cells:=[("mycmp",cm)]}
theorem kst(N cm:Addr)(code:Value)(fr:Addr)(x:Str)(hx:x = "__module__"∨x = "__qualname__"∨x = "__firstlineno__"∨x = "__static_attributes__"∨x = "__slots__"∨x = "__init__"∨x = "__lt__"∨x = "__gt__"∨x = "__eq__"∨x = "__le__"∨x = "__ge__"∨x = "__hash__")(v:Value) :
  storeName (Ahk N cm code fr) x v=localSet (Ahk N cm code fr) x v:=by
 rcases hx with rfl|rfl|rfl|rfl|rfl|rfl|rfl|rfl|rfl|rfl|rfl|rfl<;>kernel_rfl!
theorem ADF(N cm:Addr)(code:Value)(fr:Addr):closureFor (kSc 2) (Ahk N cm code fr)=pure []:=by kernel_rfl!
theorem kcl(N cm:Addr)(code:Value)(fr:Addr)(i:Nat)(hi:i=3∨i=4∨i=5∨i=6∨i=7):closureFor (kSc i) (Ahk N cm code fr)=pure [(("mycmp":Str),cm)]:=by
 rcases hi with rfl|rfl|rfl|rfl|rfl<;>kernel_rfl!
theorem kqn(N cm:Addr)(code:Value)(fr:Addr)(x:Str)(hx:x = "__init__"∨x = "__lt__"∨x = "__gt__"∨x = "__eq__"∨x = "__le__"∨x = "__ge__"):qualnameIn (Ahk N cm code fr) x x = "cmp_to_key.<locals>.K."++x:=by
 rcases hx with rfl|rfl|rfl|rfl|rfl|rfl<;>kernel_rfl!
section
variable{B:Bs}{A:Around}{s:Shared}
theorem AdK{cenv:Env}{x:Str}{p pos:Pos}{value:Expr}{Q:Flow→Shared→Prop}{E:Value→Shared→Prop}(h1:AgW value=false)
  (hv:wpAny B.M A (eval value cenv) (fun v s'=>wpAny B.M A (storeName cenv x v) (fun _ s''=>Q .next s'') E s') E s):wpAny B.M A (exec (.Assign [.Name x p] value pos) cenv) Q E s:=by
 refine wpAny_Assign_stores ?_ (AeG (t:=.Name x p) (line:=pos.line) (env:=cenv) h1) AbM;refine wpAny_mono hv (fun v s' h=>?_) fun _ _ e=>e;show wpAny _ _ (assign (.Name x p) cenv v) _ _ _;exact wpAny_assign_Name h
end
section
variable{B:Bs}{A:Around}{names:Nat→Nat→Str}{tabs:List (Addr×Addr)}{s₀ s s' s'':Shared}{g₀ g g' g'':Gh}{N:Addr}{R:List (Addr×Addr)}
noncomputable def Acp(N:Addr)(s:Shared)(g:Gh)(s':Shared)(g':Gh):Prop:=g.le g'∧∀ b o,b≠N→s.heap.get? b=some o→Abv o→s'.heap.get? b=some o
theorem Acp.trans(x:Acp N s g s' g')(y:Acp N s' g' s'' g''):Acp N s g s'' g'':=⟨x.1.trans y.1,fun b o hb e n=>y.2 b o hb (x.2 b o hb e n) n⟩
theorem Aag.keepN(x:Aag B s g s' g'):Acp N s g s' g':=⟨x.le,fun b o _ e n=>x.ext.keep b o e n⟩
theorem Ago.keepN{es:List DictEntry}{n:Nat}{a:Addr}{fd:FuncData}{params:Arguments}{body:FuncBody}{scope:Scope}{clos:List (Str×Addr)}(m:Ago s.heap g a fd params body scope clos)(hN:s.heap.get? N=some (Aax es n))(x:Acp N s g s' g'):Ago s'.heap g' a fd params body scope clos:=by
 refine Alo m.code fun c' o' e1 e2 e3 e4=>?_;have ec:c'≠N:=by
  intro h;subst h;rw[hN] at e2;cases e2;rw[e1] at e4;refine Avv e4 fun c₂ o₂ vs t f1 f2 f3 _=>?_
  cases f1;rw[hN] at f2;cases f2;injection f3
 have e5:=x.2 c' o' ec e2 e3;refine⟨x.1 _ _ m.obj,⟨c',o',e1,e5,e3,?_⟩,m.params,m.body,m.scope,m.glob,m.blt,m.clos,m.defs⟩;rw[e1] at e4 ⊢;exact AbG e4 e2 e5
noncomputable def KFn(s:Shared)(g:Gh)(cm:Addr)(i:Nat)(a:Addr):Prop:=∃ fd,Ago s.heap g a fd (Ags i) (.stmts (AkC i)) (kSc i) (if i=2 then [] else [(("mycmp":Str),cm)])
theorem KFn.keepN{es:List DictEntry}{n:Nat}{cm a:Addr}{i:Nat}(k:KFn s g cm i a)(hN:s.heap.get? N=some (Aax es n))(x:Acp N s g s' g'):KFn s' g' cm i a:=let ⟨fd,m⟩:=k;⟨fd,m.keepN hN x⟩
noncomputable def e0(w:World)(m:Value)(t0 t1 t2 u0 u1 u2:Tok)(ln:Int):List DictEntry:=[⟨AaF w "__module__",.str "__module__" t0,m⟩,⟨AaF w "__qualname__",.str "__qualname__" t1,.str "cmp_to_key.<locals>.K" u1⟩,⟨AaF w "__firstlineno__",.str "__firstlineno__" t2,.int ln u2⟩]
noncomputable def ke0(w:World)(ln:Int)(t0 t1 t2 u0 u1 u2:Tok) :List DictEntry:=[⟨AaF w "__module__",.str "__module__" t0,.str "cpy313.functools" u0⟩,⟨AaF w "__qualname__",.str "__qualname__" t1,.str "cmp_to_key.<locals>.K" u1⟩,⟨AaF w "__firstlineno__",.str "__firstlineno__" t2,.int ln u2⟩]
noncomputable def ke1(w:World)(ln:Int)(t0 t1 t2 u0 u1 u2:Tok)(t3:Tok)(sl:Addr):List DictEntry:=[⟨AaF w "__module__",.str "__module__" t0,.str "cpy313.functools" u0⟩,⟨AaF w "__qualname__",.str "__qualname__" t1,.str "cmp_to_key.<locals>.K" u1⟩,⟨AaF w "__firstlineno__",.str "__firstlineno__" t2,.int ln u2⟩,⟨AaF w "__slots__",.str "__slots__" t3,.ref sl⟩]
noncomputable def ke2(w:World)(ln:Int)(t0 t1 t2 u0 u1 u2:Tok)(t3:Tok)(sl:Addr)(t4:Tok)(f0:Addr):List DictEntry:=[⟨AaF w "__module__",.str "__module__" t0,.str "cpy313.functools" u0⟩,⟨AaF w "__qualname__",.str "__qualname__" t1,.str "cmp_to_key.<locals>.K" u1⟩,⟨AaF w "__firstlineno__",.str "__firstlineno__" t2,.int ln u2⟩,⟨AaF w "__slots__",.str "__slots__" t3,.ref sl⟩,⟨AaF w "__init__",.str "__init__" t4,.ref f0⟩]
noncomputable def ke3(w:World)(ln:Int)(t0 t1 t2 u0 u1 u2:Tok)(t3:Tok)(sl:Addr)(t4:Tok)(f0:Addr)(t5:Tok)(f1:Addr):List DictEntry:=[⟨AaF w "__module__",.str "__module__" t0,.str "cpy313.functools" u0⟩,⟨AaF w "__qualname__",.str "__qualname__" t1,.str "cmp_to_key.<locals>.K" u1⟩,⟨AaF w "__firstlineno__",.str "__firstlineno__" t2,.int ln u2⟩,⟨AaF w "__slots__",.str "__slots__" t3,.ref sl⟩,⟨AaF w "__init__",.str "__init__" t4,.ref f0⟩,⟨AaF w "__lt__",.str "__lt__" t5,.ref f1⟩]
noncomputable def ke4(w:World)(ln:Int)(t0 t1 t2 u0 u1 u2:Tok)(t3:Tok)(sl:Addr)(t4:Tok)(f0:Addr)(t5:Tok)(f1:Addr)(t6:Tok)(f2:Addr):List DictEntry:=[⟨AaF w "__module__",.str "__module__" t0,.str "cpy313.functools" u0⟩,⟨AaF w "__qualname__",.str "__qualname__" t1,.str "cmp_to_key.<locals>.K" u1⟩,⟨AaF w "__firstlineno__",.str "__firstlineno__" t2,.int ln u2⟩,⟨AaF w "__slots__",.str "__slots__" t3,.ref sl⟩,⟨AaF w "__init__",.str "__init__" t4,.ref f0⟩,⟨AaF w "__lt__",.str "__lt__" t5,.ref f1⟩,⟨AaF w "__gt__",.str "__gt__" t6,.ref f2⟩]
noncomputable def ke5(w:World)(ln:Int)(t0 t1 t2 u0 u1 u2:Tok)(t3:Tok)(sl:Addr)(t4:Tok)(f0:Addr)(t5:Tok)(f1:Addr)(t6:Tok)(f2:Addr)(t7:Tok)(f3:Addr):List DictEntry:=[⟨AaF w "__module__",.str "__module__" t0,.str "cpy313.functools" u0⟩,⟨AaF w "__qualname__",.str "__qualname__" t1,.str "cmp_to_key.<locals>.K" u1⟩,⟨AaF w "__firstlineno__",.str "__firstlineno__" t2,.int ln u2⟩,⟨AaF w "__slots__",.str "__slots__" t3,.ref sl⟩,⟨AaF w "__init__",.str "__init__" t4,.ref f0⟩,⟨AaF w "__lt__",.str "__lt__" t5,.ref f1⟩,⟨AaF w "__gt__",.str "__gt__" t6,.ref f2⟩,⟨AaF w "__eq__",.str "__eq__" t7,.ref f3⟩]
noncomputable def ke6(w:World)(ln:Int)(t0 t1 t2 u0 u1 u2:Tok)(t3:Tok)(sl:Addr)(t4:Tok)(f0:Addr)(t5:Tok)(f1:Addr)(t6:Tok)(f2:Addr)(t7:Tok)(f3:Addr)(t8:Tok)(f4:Addr):List DictEntry:=[⟨AaF w "__module__",.str "__module__" t0,.str "cpy313.functools" u0⟩,⟨AaF w "__qualname__",.str "__qualname__" t1,.str "cmp_to_key.<locals>.K" u1⟩,⟨AaF w "__firstlineno__",.str "__firstlineno__" t2,.int ln u2⟩,⟨AaF w "__slots__",.str "__slots__" t3,.ref sl⟩,⟨AaF w "__init__",.str "__init__" t4,.ref f0⟩,⟨AaF w "__lt__",.str "__lt__" t5,.ref f1⟩,⟨AaF w "__gt__",.str "__gt__" t6,.ref f2⟩,⟨AaF w "__eq__",.str "__eq__" t7,.ref f3⟩,⟨AaF w "__le__",.str "__le__" t8,.ref f4⟩]
noncomputable def ke7(w:World)(ln:Int)(t0 t1 t2 u0 u1 u2:Tok)(t3:Tok)(sl:Addr)(t4:Tok)(f0:Addr)(t5:Tok)(f1:Addr)(t6:Tok)(f2:Addr)(t7:Tok)(f3:Addr)(t8:Tok)(f4:Addr)(t9:Tok)(f5:Addr):List DictEntry:=[⟨AaF w "__module__",.str "__module__" t0,.str "cpy313.functools" u0⟩,⟨AaF w "__qualname__",.str "__qualname__" t1,.str "cmp_to_key.<locals>.K" u1⟩,⟨AaF w "__firstlineno__",.str "__firstlineno__" t2,.int ln u2⟩,⟨AaF w "__slots__",.str "__slots__" t3,.ref sl⟩,⟨AaF w "__init__",.str "__init__" t4,.ref f0⟩,⟨AaF w "__lt__",.str "__lt__" t5,.ref f1⟩,⟨AaF w "__gt__",.str "__gt__" t6,.ref f2⟩,⟨AaF w "__eq__",.str "__eq__" t7,.ref f3⟩,⟨AaF w "__le__",.str "__le__" t8,.ref f4⟩,⟨AaF w "__ge__",.str "__ge__" t9,.ref f5⟩]
noncomputable def ke8(w:World)(ln:Int)(t0 t1 t2 u0 u1 u2:Tok)(t3:Tok)(sl:Addr)(t4:Tok)(f0:Addr)(t5:Tok)(f1:Addr)(t6:Tok)(f2:Addr)(t7:Tok)(f3:Addr)(t8:Tok)(f4:Addr)(t9:Tok)(f5:Addr)(t10:Tok):List DictEntry:=[⟨AaF w "__module__",.str "__module__" t0,.str "cpy313.functools" u0⟩,⟨AaF w "__qualname__",.str "__qualname__" t1,.str "cmp_to_key.<locals>.K" u1⟩,⟨AaF w "__firstlineno__",.str "__firstlineno__" t2,.int ln u2⟩,⟨AaF w "__slots__",.str "__slots__" t3,.ref sl⟩,⟨AaF w "__init__",.str "__init__" t4,.ref f0⟩,⟨AaF w "__lt__",.str "__lt__" t5,.ref f1⟩,⟨AaF w "__gt__",.str "__gt__" t6,.ref f2⟩,⟨AaF w "__eq__",.str "__eq__" t7,.ref f3⟩,⟨AaF w "__le__",.str "__le__" t8,.ref f4⟩,⟨AaF w "__ge__",.str "__ge__" t9,.ref f5⟩,⟨AaF w "__hash__",.str "__hash__" t10,.none⟩]
end
theorem AzC(w:World)(ln:Int)(t0 t1 t2 u0 u1 u2:Tok) :aRefKeyMayBeTheName "__slots__" (ke0 w ln t0 t1 t2 u0 u1 u2 ).toArray=false:=by kernel_rfl!
theorem AwT(w:World)(ln:Int)(t0 t1 t2 u0 u1 u2:Tok) (n:Nat)(hh:Int)(tk:Tok)(v:Value):Obj.putName "__slots__" hh (.str "__slots__" tk) v (Aax (ke0 w ln t0 t1 t2 u0 u1 u2 ) n)=Aax (ke0 w ln t0 t1 t2 u0 u1 u2 ++[⟨hh,.str "__slots__" tk,v⟩]) (n+1):=by kernel_rfl!
theorem AzD(w:World)(ln:Int)(t0 t1 t2 u0 u1 u2:Tok)(t3:Tok)(sl:Addr):aRefKeyMayBeTheName "__init__" (ke1 w ln t0 t1 t2 u0 u1 u2 t3 sl).toArray=false:=by kernel_rfl!
theorem AwU(w:World)(ln:Int)(t0 t1 t2 u0 u1 u2:Tok)(t3:Tok)(sl:Addr)(n:Nat)(hh:Int)(tk:Tok)(v:Value):Obj.putName "__init__" hh (.str "__init__" tk) v (Aax (ke1 w ln t0 t1 t2 u0 u1 u2 t3 sl) n)=Aax (ke1 w ln t0 t1 t2 u0 u1 u2 t3 sl++[⟨hh,.str "__init__" tk,v⟩]) (n+1):=by kernel_rfl!
theorem AzE(w:World)(ln:Int)(t0 t1 t2 u0 u1 u2:Tok)(t3:Tok)(sl:Addr)(t4:Tok)(f0:Addr):aRefKeyMayBeTheName "__lt__" (ke2 w ln t0 t1 t2 u0 u1 u2 t3 sl t4 f0).toArray=false:=by kernel_rfl!
theorem AwV(w:World)(ln:Int)(t0 t1 t2 u0 u1 u2:Tok)(t3:Tok)(sl:Addr)(t4:Tok)(f0:Addr)(n:Nat)(hh:Int)(tk:Tok)(v:Value):Obj.putName "__lt__" hh (.str "__lt__" tk) v (Aax (ke2 w ln t0 t1 t2 u0 u1 u2 t3 sl t4 f0) n)=Aax (ke2 w ln t0 t1 t2 u0 u1 u2 t3 sl t4 f0++[⟨hh,.str "__lt__" tk,v⟩]) (n+1):=by kernel_rfl!
theorem AzF(w:World)(ln:Int)(t0 t1 t2 u0 u1 u2:Tok)(t3:Tok)(sl:Addr)(t4:Tok)(f0:Addr)(t5:Tok)(f1:Addr):aRefKeyMayBeTheName "__gt__" (ke3 w ln t0 t1 t2 u0 u1 u2 t3 sl t4 f0 t5 f1).toArray=false:=by kernel_rfl!
theorem AwW(w:World)(ln:Int)(t0 t1 t2 u0 u1 u2:Tok)(t3:Tok)(sl:Addr)(t4:Tok)(f0:Addr)(t5:Tok)(f1:Addr)(n:Nat)(hh:Int)(tk:Tok)(v:Value):Obj.putName "__gt__" hh (.str "__gt__" tk) v (Aax (ke3 w ln t0 t1 t2 u0 u1 u2 t3 sl t4 f0 t5 f1) n)=Aax (ke3 w ln t0 t1 t2 u0 u1 u2 t3 sl t4 f0 t5 f1++[⟨hh,.str "__gt__" tk,v⟩]) (n+1):=by kernel_rfl!
theorem AzG(w:World)(ln:Int)(t0 t1 t2 u0 u1 u2:Tok)(t3:Tok)(sl:Addr)(t4:Tok)(f0:Addr)(t5:Tok)(f1:Addr)(t6:Tok)(f2:Addr):aRefKeyMayBeTheName "__eq__" (ke4 w ln t0 t1 t2 u0 u1 u2 t3 sl t4 f0 t5 f1 t6 f2).toArray=false:=by kernel_rfl!
theorem AwX(w:World)(ln:Int)(t0 t1 t2 u0 u1 u2:Tok)(t3:Tok)(sl:Addr)(t4:Tok)(f0:Addr)(t5:Tok)(f1:Addr)(t6:Tok)(f2:Addr)(n:Nat)(hh:Int)(tk:Tok)(v:Value):Obj.putName "__eq__" hh (.str "__eq__" tk) v (Aax (ke4 w ln t0 t1 t2 u0 u1 u2 t3 sl t4 f0 t5 f1 t6 f2) n)=Aax (ke4 w ln t0 t1 t2 u0 u1 u2 t3 sl t4 f0 t5 f1 t6 f2++[⟨hh,.str "__eq__" tk,v⟩]) (n+1):=by kernel_rfl!
theorem AzH(w:World)(ln:Int)(t0 t1 t2 u0 u1 u2:Tok)(t3:Tok)(sl:Addr)(t4:Tok)(f0:Addr)(t5:Tok)(f1:Addr)(t6:Tok)(f2:Addr)(t7:Tok)(f3:Addr):aRefKeyMayBeTheName "__le__" (ke5 w ln t0 t1 t2 u0 u1 u2 t3 sl t4 f0 t5 f1 t6 f2 t7 f3).toArray=false:=by kernel_rfl!
theorem AwY(w:World)(ln:Int)(t0 t1 t2 u0 u1 u2:Tok)(t3:Tok)(sl:Addr)(t4:Tok)(f0:Addr)(t5:Tok)(f1:Addr)(t6:Tok)(f2:Addr)(t7:Tok)(f3:Addr)(n:Nat)(hh:Int)(tk:Tok)(v:Value):Obj.putName "__le__" hh (.str "__le__" tk) v (Aax (ke5 w ln t0 t1 t2 u0 u1 u2 t3 sl t4 f0 t5 f1 t6 f2 t7 f3) n)=Aax (ke5 w ln t0 t1 t2 u0 u1 u2 t3 sl t4 f0 t5 f1 t6 f2 t7 f3++[⟨hh,.str "__le__" tk,v⟩]) (n+1):=by kernel_rfl!
theorem AzI(w:World)(ln:Int)(t0 t1 t2 u0 u1 u2:Tok)(t3:Tok)(sl:Addr)(t4:Tok)(f0:Addr)(t5:Tok)(f1:Addr)(t6:Tok)(f2:Addr)(t7:Tok)(f3:Addr)(t8:Tok)(f4:Addr):aRefKeyMayBeTheName "__ge__" (ke6 w ln t0 t1 t2 u0 u1 u2 t3 sl t4 f0 t5 f1 t6 f2 t7 f3 t8 f4).toArray=false:=by kernel_rfl!
theorem AwZ(w:World)(ln:Int)(t0 t1 t2 u0 u1 u2:Tok)(t3:Tok)(sl:Addr)(t4:Tok)(f0:Addr)(t5:Tok)(f1:Addr)(t6:Tok)(f2:Addr)(t7:Tok)(f3:Addr)(t8:Tok)(f4:Addr)(n:Nat)(hh:Int)(tk:Tok)(v:Value):Obj.putName "__ge__" hh (.str "__ge__" tk) v (Aax (ke6 w ln t0 t1 t2 u0 u1 u2 t3 sl t4 f0 t5 f1 t6 f2 t7 f3 t8 f4) n)=Aax (ke6 w ln t0 t1 t2 u0 u1 u2 t3 sl t4 f0 t5 f1 t6 f2 t7 f3 t8 f4++[⟨hh,.str "__ge__" tk,v⟩]) (n+1):=by kernel_rfl!
theorem AzJ(w:World)(ln:Int)(t0 t1 t2 u0 u1 u2:Tok)(t3:Tok)(sl:Addr)(t4:Tok)(f0:Addr)(t5:Tok)(f1:Addr)(t6:Tok)(f2:Addr)(t7:Tok)(f3:Addr)(t8:Tok)(f4:Addr)(t9:Tok)(f5:Addr):aRefKeyMayBeTheName "__hash__" (ke7 w ln t0 t1 t2 u0 u1 u2 t3 sl t4 f0 t5 f1 t6 f2 t7 f3 t8 f4 t9 f5).toArray=false:=by kernel_rfl!
theorem Aw0(w:World)(ln:Int)(t0 t1 t2 u0 u1 u2:Tok)(t3:Tok)(sl:Addr)(t4:Tok)(f0:Addr)(t5:Tok)(f1:Addr)(t6:Tok)(f2:Addr)(t7:Tok)(f3:Addr)(t8:Tok)(f4:Addr)(t9:Tok)(f5:Addr)(n:Nat)(hh:Int)(tk:Tok)(v:Value):Obj.putName "__hash__" hh (.str "__hash__" tk) v (Aax (ke7 w ln t0 t1 t2 u0 u1 u2 t3 sl t4 f0 t5 f1 t6 f2 t7 f3 t8 f4 t9 f5) n)=Aax (ke7 w ln t0 t1 t2 u0 u1 u2 t3 sl t4 f0 t5 f1 t6 f2 t7 f3 t8 f4 t9 f5++[⟨hh,.str "__hash__" tk,v⟩]) (n+1):=by kernel_rfl!
theorem ACa(w:World)(m:Value)(t0 t1 t2 u0 u1 u2:Tok)(ln:Int):aRefKeyMayBeTheName "__module__" (e0 w m t0 t1 t2 u0 u1 u2 ln).toArray=false:=by kernel_rfl!
theorem AzK(w:World)(m:Value)(t0 t1 t2 u0 u1 u2:Tok)(ln:Int)(n:Nat)(hh:Int)(tk:Tok)(uu:Tok):Obj.putName "__module__" hh (.str "__module__" tk) (.str "cpy313.functools" uu) (Aax (e0 w m t0 t1 t2 u0 u1 u2 ln) n)=Aax (ke0 w ln t0 t1 t2 uu u1 u2) n:=by kernel_rfl!
section
variable{B:Bs}{A:Around}{names:Nat→Nat→Str}{tabs:List (Addr×Addr)}{s₀ s s':Shared}{g₀ g g':Gh}{N:Addr}{es es':List DictEntry}{n n':Nat}{R R':List (Addr×Addr)}
theorem AbQ.ext{h h':Heap}(X:AbQ B.G names R h)(k:∀ a o,h.get? a=some o→h'.get? a=some o):AbQ B.G names R h':=X.keeps fun a o e _=>k a o e
theorem AqV(O:B.Ok)(C:CB B names tabs s₀ g₀ N es n s g R){cenv:Env}{p p':Pos}{Q:Value→Shared→Prop}{E:Value→Shared→Prop}
  (h:∀ sl v0 s' g',CB B names tabs s₀ g₀ N es n s' g' R→Acp N s g s' g'→g' sl=some {cls:=.type "list",data:=.seq [Value.str "obj" v0].toArray}→Q (.ref sl) s') :
  wpAny B.M A (eval (.List [.Constant (.str "obj") 0 p] p') cenv) Q E s:=by
 refine List_ ?_;rw[Aaw (es:=[.Constant (.str "obj") 0 p]) (by intro e he;rcases List.mem_cons.mp he with rfl|he;rfl;cases he)];refine Calls.spliced_cons (wpAny_mkText ?_);refine wpAny_pure ?_;refine wpAny_newList ?_ (Nat.le_of_ble_eq_true rfl);have x1:=Aag.tok C.st.inv (s.toks+1);have x2:=Aag.alloc (o:={cls:=.type "list",data:=.seq [Value.str "obj" s.toks].toArray}) O x1.inv rfl (Aap rfl);have x:=x1.trans x2;exact h _ _ _ _ (C.step x (AbQ.ext C.X fun a o e=>Heap.get?_push_of_some _ e) fun _ hq=>hq) x.keepN (Gh.put_self ..)
theorem CB.keepStore(C:CB B names tabs s₀ g₀ N es n s g R)(k:∀ a o,a≠N→s.heap.get? a=some o→s'.heap.get? a=some o):Acp N s g s' g:=⟨g.le_refl,fun b o hb e _=>k b o hb e⟩
theorem Atp(O:B.Ok)(hb:AvC B)(TT:Aqv B names tabs){m:Value}{ln:Int}{t0 t1 t2 u0' u1 u2:Tok}(C:CB B names tabs s₀ g₀ N (e0 B.w m t0 t1 t2 u0' u1 u2 ln) 3 s g R){c P cm fr:Addr}(hm:(c,P)∈R)
  (hn:∀ (i:Nat) (x:Str),(i,x)∈[(2,("__init__":Str)),(3,"__lt__"),(4,"__gt__"),(5,"__eq__"),(6,"__le__"),(7,"__ge__")]→names (Ajr i).line (Ajr i).col = "cmp_to_key.<locals>.K."++x) {Q:Flow→Shared→Prop} {E:Value→Shared→Prop}
  (h:∀ u0 v0 t3 sl t4 f0 t5 f1 t6 f2 t7 f3 t8 f4 t9 f5 t10 s' g' R',CB B names tabs s₀ g₀ N (ke8 B.w ln t0 t1 t2 u0 u1 u2 t3 sl t4 f0 t5 f1 t6 f2 t7 f3 t8 f4 t9 f5 t10) 11 s' g' R'→Acp N s g s' g' →
   g' sl=some {cls:=.type "list",data:=.seq [Value.str "obj" v0].toArray}→KFn s' g' cm 2 f0→KFn s' g' cm 3 f1→KFn s' g' cm 4 f2→KFn s' g' cm 5 f3→KFn s' g' cm 6 f4→KFn s' g' cm 7 f5→Q .next s') :
  wpAny B.M A (execs (Aae kSt) (Ahk N cm (.ref c) fr)) Q E s:=by
 rw[Ato];refine wpAny_execs_cons ?_;rw[kb0];refine AdK rfl (wpAny_mkText ?_);have x0:=Aag.tok C.st.inv (s.toks+1);have C0:=C.step x0 C.X fun _ hq=>hq;refine C0.store O (cenv:=Ahk N cm (.ref c) fr) rfl (kst _ _ _ _ _ (by simp) _) (ACa ..) (AzK ..) fun s1 C1 _ k1=>?_;have q1:Acp N s g s1 g:=x0.keepN.trans (C0.keepStore k1);refine wpAny_execs_cons ?_;rw[kb1];refine AdK rfl (AqV O C1 fun sl v0 s2 g2 C2 q2 hsl2=>?_);refine C2.store O (cenv:=Ahk N cm (.ref c) fr) rfl (kst _ _ _ _ _ (by simp) _) (AzC ..) (AwT ..) fun s3 C3 _ k3=>?_;have q3:Acp N s g s3 g2:=(q1.trans q2).trans (C2.keepStore k3);refine wpAny_execs_cons ?_;rw[kb2];refine C3.def_ O hb TT (cenv:=Ahk N cm (.ref c) fr) rfl rfl rfl hm ((hn 2 "__init__" (by simp)).trans (kqn _ _ _ _ _ (by simp)).symm) (Aot 2 (by simp)) (AyT 2 (by simp)) (ADF ..) (fun v=>kst _ _ _ _ _ (by simp) v) (AzD ..) (fun v tk=>AwU ..) fun f0 fd0 s4 g4 R4 tt0 C4 _ l0 hR0 kp0 M0=>?_;have qd0:Acp N s3 g2 s4 g4:=⟨l0,kp0⟩;have q4:Acp N s g s4 g4:=q3.trans qd0;have m0:=hR0 _ hm;have hsl4:=l0 _ _ hsl2;have F0:KFn s4 g4 cm 2 f0:=⟨fd0,M0⟩;refine wpAny_execs_cons ?_;rw[kb3];refine C4.def_ O hb TT (cenv:=Ahk N cm (.ref c) fr) rfl rfl rfl m0 ((hn 3 "__lt__" (by simp)).trans (kqn _ _ _ _ _ (by simp)).symm) (Aot 3 (by simp)) (AyT 3 (by simp)) (kcl _ _ _ _ 3 (by simp)) (fun v=>kst _ _ _ _ _ (by simp) v) (AzE ..) (fun v tk=>AwV ..) fun f1 fd1 s5 g5 R5 tt1 C5 _ l1 hR1 kp1 M1=>?_;have qd1:Acp N s4 g4 s5 g5:=⟨l1,kp1⟩;have q5:Acp N s g s5 g5:=q4.trans qd1;have m1:=hR1 _ m0;have F0:=F0.keepN C4.ns qd1;have hsl5:=l1 _ _ hsl4;have F1:KFn s5 g5 cm 3 f1:=⟨fd1,M1⟩;refine wpAny_execs_cons ?_;rw[kb4];refine C5.def_ O hb TT (cenv:=Ahk N cm (.ref c) fr) rfl rfl rfl m1 ((hn 4 "__gt__" (by simp)).trans (kqn _ _ _ _ _ (by simp)).symm) (Aot 4 (by simp)) (AyT 4 (by simp)) (kcl _ _ _ _ 4 (by simp)) (fun v=>kst _ _ _ _ _ (by simp) v) (AzF ..) (fun v tk=>AwW ..) fun f2 fd2 s6 g6 R6 tt2 C6 _ l2 hR2 kp2 M2=>?_;have qd2:Acp N s5 g5 s6 g6:=⟨l2,kp2⟩;have q6:Acp N s g s6 g6:=q5.trans qd2;have m2:=hR2 _ m1;have F0:=F0.keepN C5.ns qd2;have F1:=F1.keepN C5.ns qd2;have hsl6:=l2 _ _ hsl5;have F2:KFn s6 g6 cm 4 f2:=⟨fd2,M2⟩;refine wpAny_execs_cons ?_;rw[kb5];refine C6.def_ O hb TT (cenv:=Ahk N cm (.ref c) fr) rfl rfl rfl m2 ((hn 5 "__eq__" (by simp)).trans (kqn _ _ _ _ _ (by simp)).symm) (Aot 5 (by simp)) (AyT 5 (by simp)) (kcl _ _ _ _ 5 (by simp)) (fun v=>kst _ _ _ _ _ (by simp) v) (AzG ..) (fun v tk=>AwX ..) fun f3 fd3 s7 g7 R7 tt3 C7 _ l3 hR3 kp3 M3=>?_;have qd3:Acp N s6 g6 s7 g7:=⟨l3,kp3⟩;have q7:Acp N s g s7 g7:=q6.trans qd3;have m3:=hR3 _ m2;have F0:=F0.keepN C6.ns qd3;have F1:=F1.keepN C6.ns qd3;have F2:=F2.keepN C6.ns qd3;have hsl7:=l3 _ _ hsl6;have F3:KFn s7 g7 cm 5 f3:=⟨fd3,M3⟩;refine wpAny_execs_cons ?_;rw[kb6];refine C7.def_ O hb TT (cenv:=Ahk N cm (.ref c) fr) rfl rfl rfl m3 ((hn 6 "__le__" (by simp)).trans (kqn _ _ _ _ _ (by simp)).symm) (Aot 6 (by simp)) (AyT 6 (by simp)) (kcl _ _ _ _ 6 (by simp)) (fun v=>kst _ _ _ _ _ (by simp) v) (AzH ..) (fun v tk=>AwY ..) fun f4 fd4 s8 g8 R8 tt4 C8 _ l4 hR4 kp4 M4=>?_;have qd4:Acp N s7 g7 s8 g8:=⟨l4,kp4⟩;have q8:Acp N s g s8 g8:=q7.trans qd4;have m4:=hR4 _ m3;have F0:=F0.keepN C7.ns qd4;have F1:=F1.keepN C7.ns qd4;have F2:=F2.keepN C7.ns qd4;have F3:=F3.keepN C7.ns qd4;have hsl8:=l4 _ _ hsl7;have F4:KFn s8 g8 cm 6 f4:=⟨fd4,M4⟩;refine wpAny_execs_cons ?_;rw[kb7];refine C8.def_ O hb TT (cenv:=Ahk N cm (.ref c) fr) rfl rfl rfl m4 ((hn 7 "__ge__" (by simp)).trans (kqn _ _ _ _ _ (by simp)).symm) (Aot 7 (by simp)) (AyT 7 (by simp)) (kcl _ _ _ _ 7 (by simp)) (fun v=>kst _ _ _ _ _ (by simp) v) (AzI ..) (fun v tk=>AwZ ..) fun f5 fd5 s9 g9 R9 tt5 C9 _ l5 hR5 kp5 M5=>?_;have qd5:Acp N s8 g8 s9 g9:=⟨l5,kp5⟩;have q9:Acp N s g s9 g9:=q8.trans qd5;have m5:=hR5 _ m4;have F0:=F0.keepN C8.ns qd5;have F1:=F1.keepN C8.ns qd5;have F2:=F2.keepN C8.ns qd5;have F3:=F3.keepN C8.ns qd5;have F4:=F4.keepN C8.ns qd5;have hsl9:=l5 _ _ hsl8;have F5:KFn s9 g9 cm 7 f5:=⟨fd5,M5⟩;refine wpAny_execs_cons ?_;rw[kb8];refine AdK rfl (wpAny_pure ?_);refine C9.store O (cenv:=Ahk N cm (.ref c) fr) rfl (kst _ _ _ _ _ (by simp) _) (AzJ ..) (Aw0 ..) fun s10 C10 _ k10=>?_;have qz:=C9.keepStore k10;refine wpAny_execs_nil ?_;exact h _ _ _ _ _ _ _ _ _ _ _ _ _ _ _ _ _ _ _ _ C10 (q9.trans qz) hsl9 (F0.keepN C9.ns qz) (F1.keepN C9.ns qz) (F2.keepN C9.ns qz) (F3.keepN C9.ns qz) (F4.keepN C9.ns qz) (F5.keepN C9.ns qz)
end
theorem AqW:typeOf (.type "type")=pure (.type "type"):=by kernel_rfl
theorem ACb:typeLookup (.type "type") "__getattribute__"=pure (some (.builtin "type.__getattribute__")):=by rw[typeLookup_type,builtinLookup_eq_fast];kernel_rfl
theorem AlK:Slot "type" "__getattribute__" "type.__getattribute__":=.of (owner:="type") (n:="__getattribute__") (by rw[typeLookup_type,builtinLookup_eq_fast];kernel_rfl) (by decide +kernel) (by decide +kernel) (by decide +kernel)
 (by first|exact .inl (by decide +kernel)|exact .inr (by decide +kernel)) (by rw[isSubtype_type];kernel_rfl)
inductive AqX(h:Heap)(g:Array GenState)(d:Drawn)(os:OsState):Value→Shared→Prop
 |mk {b:Addr} {h':Heap} {t:Nat}:Mem h h' [] [(b,⟨.type "builtin_function_or_method",none,.fields #[.builtin "type.__prepare__",.type "type"],#[]⟩)]→AqX h g d os (.ref b) ⟨h',g,d,t,os⟩
inductive AqY(h:Heap)(g:Array GenState)(d:Drawn)(os:OsState):Value→Shared→Prop
 |mk {N:Addr} {h':Heap} {t:Nat}:Mem h h' [] [(N,⟨.type "dict",none,.dict #[] 0,#[]⟩)]→AqY h g d os (.ref N) ⟨h',g,d,t,os⟩
section
theorem Atq(prog:Program)(w:World)(A:Around)(h:Heap)(g:Array GenState)(d:Drawn)(t:Nat)(os:OsState)(tq:Tok) :
  wpAny (model prog w) A (call (.builtin "type.__getattribute__") [.type "type",.str "__prepare__" tq]) (AqX h g d os) (fun _ _=>False) ⟨h,g,d,t,os⟩:=by
 x_run
end
section
theorem AqZ(prog:Program)(w:World)(A:Around)(h:Heap)(g:Array GenState)(d:Drawn)(t:Nat)(os:OsState)(p b:Addr)(tk:Tok)
  (hp:h.get? p=some ⟨.type "builtin_function_or_method",none,.fields #[.builtin "type.__prepare__",.type "type"],#[]⟩) :
  wpAny (model prog w) A (call (.ref p) [.str "K" tk,.ref b] []) (AqY h g d os) (fun _ _=>False) ⟨h,g,d,t,os⟩:=by
 x_run
end
end Mine
namespace Mine
open PySem PySem.W PyProof.Rows PySem.W.X
theorem Aq0(prog:Program)(w:World)(A:Around)(E:Value→Shared→Prop)(h:Heap)(g:Array GenState)(d:Drawn)(t:Nat)(os:OsState){Q:Option Value→Shared→Prop}
  (hq:∀ p h' t',Mem h h' [] [(p,⟨.type "builtin_function_or_method",none,.fields #[.builtin "type.__prepare__",.type "type"],#[]⟩)]→Q (some (.ref p)) ⟨h',g,d,t',os⟩) :
  wpAny (model prog w) A (getAttr? (.type "type") "__prepare__") Q E ⟨h,g,d,t,os⟩:=by
 have hbd:=AlK.bind (.type "type");unfold getAttr?
 repeat (first
  |with_reducible (first|refine Ab3 AlG ?_|refine Ab3 AnM ?_|refine Ab3 AqW ?_|refine Ab3 ACb ?_|refine wpAny_of_eq hbd ?_)
  |((with_reducible show wpAny _ _ (call _ _) _ _ _);refine wpAny_mono (Atq prog w _ h g d _ os _) (fun v s' hv=>?_) (fun _ _ hv=>hv.elim);rcases hv with ⟨D⟩)
  |wp_step)
 all_goals exact hq _ _ _ (by assumption)
end Mine
namespace Mine
open PySem PySem.W PyProof.Rows PySem.W.X
section
variable{B:Bs}{A:Around}
theorem Aag.mem(O:B.Ok){h h':Heap}{gg:Array GenState}{d:Drawn}{t t':Nat}{os:OsState}{g:Gh}{news:List (Addr×Obj)}(I:Inv B ⟨h,gg,d,t,os⟩ g)(D:Mem h h' [] news):Aag B ⟨h,gg,d,t,os⟩ g ⟨h',gg,d,t',os⟩ g:=
 ⟨g.le_refl,I.keeps O (Abe D) rfl rfl,.of (Abe D),fun _ _ e=>.inl e⟩
end
end Mine
namespace Mine
open PySem PySem.W PyProof.Rows PySem.W.X
section
variable{M:Model}{A:Around}{E:Value→Shared→Prop}{s:Shared}
theorem AkD{env:Env}{c P:Addr}{ps:Array Value}{pos:Pos}{firstLine:Nat}{name qual:Str}{scope:Scope}{Q:Value→Shared→Prop}(hc:env.code=.ref c)(hok:s.heap.IsCode c P ps)(htab:s.heap.TableAt c P ps)(hnf:codeAmong pos ps.toList=none)
  (hq:∀ c' h' tk,Heap.ExtBut P s.heap h'→s.heap.objs.size≤c'→c'<h'.objs.size→h'.IsCode c P (ps++#[rawInt pos.line,rawInt pos.col,.ref c'])→h'.CodeRec (.ref c') qual →
   h'.TableAt c P (ps++#[rawInt pos.line,rawInt pos.col,.ref c'])→(∃ P',s.heap.objs.size≤P'∧h'.IsCode c' P' #[]∧h'.TableAt c' P' #[])→Q (.ref c') {s with heap:=h',toks:=tk}) :
  wpAny M A (classCode env pos firstLine name qual scope) Q E s:=by
 refine AsY hok fun o vs file tf q=>AsY q fun flags tg inF text q=>Avs q fun tt op q=>AyZ q fun ho hd h11 h2 h7 h9 h10 hop hpd htr hne=>?_;have hP:op=tabObj ps:=sj (hop.symm.trans htab.2);subst hP;have hlt:=Heap.lt_size hop;unfold classCode codeAt;rw[hc,if_neg (show ¬ ((Value.ref c == Value.none)=true) from Bool.false_ne_true)];refine wpAny_bind (wpAny_fieldsOf ho hd ?_);rw[h11];refine wpAny_bind (wpAny_fieldsOf hop hpd ?_);rw[hnf,h2,h7,h9,h10];refine wpAny_bind (wpAny_newCodeX fun c' P' h1 tk keep hc' hP' ic ta rec=>?_)
 let f:Obj→Obj:=Obj.mapFields fun vs=>if (codeAmong pos vs.toList).isSome=true then vs else vs++#[rawInt pos.line,rawInt pos.col,.ref c']
 have ft:f (tabObj ps)=tabObj (ps++#[rawInt pos.line,rawInt pos.col,.ref c']):=by
  show Obj.mapFields _ (tabObj ps)=_;unfold tabObj;simp only[Obj.mapFields,hnf]
  rfl
 have sb:Heap.SameBut P h1 (h1.update P f):=Heap.SameBut.update ..;have gp:(h1.update P f).get? P=some (tabObj (ps++#[rawInt pos.line,rawInt pos.col,.ref c'])):=by have:=Heap.get?_update_self (h:=h1) f (keep _ _ hop) (by rw[ft];rfl);rw[this,ft]
 have ne:∀ b,s.heap.objs.size≤b→b≠P:=fun b hb=>Nat.ne_of_gt (Nat.lt_of_lt_of_le hlt hb);refine wpAny_bind (wpAny_updateFieldsOfTheText (keep _ _ hop) hpd (wpAny_bind (wpAny_fieldsOf gp rfl ?_)));have hl:(ps++#[rawInt pos.line,rawInt pos.col,Value.ref c']).toList=ps.toList++[rawInt pos.line,rawInt pos.col,.ref c']:=by simp
 rw[hl,codeAmong_snoc _ htr hnf];have hoc:=(sb.2 c hne).trans (keep _ _ ho);refine AaG htab fun z1 _=>?_;obtain⟨oc,vc,k1,k2,k3,k4⟩:=z1;refine ABQ (id rec) fun c₂ o₂ vs₂ t₂ r1 r2 r3=>?_
 cases r1
 refine wpAny_pure (hq c' _ tk (fun b o' hb e=>(sb.2 b hb).trans (keep b o' e)) hc' (by rw[Heap.size_after_update];exact ic.lt.1) ?_ ⟨c',o₂,vs₂,t₂,rfl,(sb.2 c' (ne c' hc')).trans r2,r3⟩
  ⟨⟨oc,vc,(sb.2 c hne).trans (keep _ _ k1),k2,k3,k4⟩,gp⟩ ⟨P',hP',ic.extBut sb.extBut (ne c' hc') (ne P' hP'),ta.extBut sb.extBut (ne c' hc') (ne P' hP')⟩)
 exact⟨o,vs,file,tf,flags,tg,inF,text,tt,_,hoc,hd,h11,h2,h7,h9,h10,gp,rfl,by rw[hl];exact TriplesOk_snoc _ _ _ _ htr,hne⟩
end
section
variable{B:Bs}{A:Around}{s:Shared}{g:Gh}
theorem Ajs{names:Nat→Nat→Str}{tabs:List (Addr×Addr)}(TT:Aqv B names tabs)(I:Inv B s g){R:List (Addr×Addr)}(hR:∀ q∈tabs,q∈R)(X:AbQ B.G names R s.heap){env:Env}{c P:Addr}{pos:Pos}{firstLine:Nat}{name qual:Str}{scope:Scope}
  (hcode:env.code=.ref c) (hm:(c,P)∈R) (hn:names pos.line pos.col=qual) {Q:Value→Shared→Prop} {E:Value→Shared→Prop}
  (h:∀ c' P' o s' R',Aag B s g s' g→AbQ B.G names R' s'.heap→(∀ q∈R,q∈R')→(c',P')∈R'→s'.heap.get? c'=some o→Abv o→s'.heap.CodeRec (.ref c') qual→Q (.ref c') s') :
  wpAny B.M A (classCode env pos firstLine name qual scope) Q E s:=
 Aqw TT I hR X hm hn (fun hi hf hq=>wpAny_codeAt_hit hcode hi hf hq) (fun hi ht hf hk=>AkD hcode hi ht hf hk) h
end
noncomputable def m1(w:World)(m:Value)(t0:Tok):List DictEntry:=[⟨AaF w "__module__",.str "__module__" t0,m⟩]
noncomputable def m2(w:World)(m:Value)(t0 t1 u1:Tok):List DictEntry:=[⟨AaF w "__module__",.str "__module__" t0,m⟩,⟨AaF w "__qualname__",.str "__qualname__" t1,.str "cmp_to_key.<locals>.K" u1⟩]
theorem ACc:aRefKeyMayBeTheName "__module__" ([]:List DictEntry).toArray=false:=by kernel_rfl!
theorem AzL(w:World)(m:Value)(t0:Tok)(n:Nat):Obj.putName "__module__" (AaF w "__module__") (.str "__module__" t0) m (Aax [] n)=Aax (m1 w m t0) (n+1):=by kernel_rfl!
theorem ACd(w:World)(m:Value)(t0:Tok):aRefKeyMayBeTheName "__qualname__" (m1 w m t0).toArray=false:=by kernel_rfl!
theorem AzM(w:World)(m:Value)(t0 t1 u1:Tok)(n:Nat):Obj.putName "__qualname__" (AaF w "__qualname__") (.str "__qualname__" t1) (.str "cmp_to_key.<locals>.K" u1) (Aax (m1 w m t0) n)=Aax (m2 w m t0 t1 u1) (n+1):=by kernel_rfl!
theorem ACe(w:World)(m:Value)(t0 t1 u1:Tok):aRefKeyMayBeTheName "__firstlineno__" (m2 w m t0 t1 u1).toArray=false:=by kernel_rfl!
theorem AzN(w:World)(m:Value)(t0 t1 t2 u1 u2:Tok)(ln:Int)(n:Nat):Obj.putName "__firstlineno__" (AaF w "__firstlineno__") (.str "__firstlineno__" t2) (.int ln u2) (Aax (m2 w m t0 t1 u1) n)=Aax (e0 w m t0 t1 t2 t0 u1 u2 ln) (n+1):=by kernel_rfl!
theorem AzO(w:World)(ln:Int)(t0 t1 t2 u0 u1 u2:Tok)(t3:Tok)(sl:Addr)(t4:Tok)(f0:Addr)(t5:Tok)(f1:Addr)(t6:Tok)(f2:Addr)(t7:Tok)(f3:Addr)(t8:Tok)(f4:Addr)(t9:Tok)(f5:Addr)(t10:Tok) :
  aRefKeyMayBeTheName "__static_attributes__" (ke8 w ln t0 t1 t2 u0 u1 u2 t3 sl t4 f0 t5 f1 t6 f2 t7 f3 t8 f4 t9 f5 t10).toArray=false:=by kernel_rfl!
theorem Aw1(w:World)(ln:Int)(t0 t1 t2 u0 u1 u2:Tok)(t3:Tok)(sl:Addr)(t4:Tok)(f0:Addr)(t5:Tok)(f1:Addr)(t6:Tok)(f2:Addr)(t7:Tok)(f3:Addr)(t8:Tok)(f4:Addr)(t9:Tok)(f5:Addr)(t10:Tok)(n:Nat)(hh:Int)(tk:Tok)(v:Value) :
  Obj.putName "__static_attributes__" hh (.str "__static_attributes__" tk) v (Aax (ke8 w ln t0 t1 t2 u0 u1 u2 t3 sl t4 f0 t5 f1 t6 f2 t7 f3 t8 f4 t9 f5 t10) n)=Aax (ke8 w ln t0 t1 t2 u0 u1 u2 t3 sl t4 f0 t5 f1 t6 f2 t7 f3 t8 f4 t9 f5 t10++[⟨hh,.str "__static_attributes__" tk,v⟩]) (n+1):=by kernel_rfl!
theorem kq:(("cmp_to_key.<locals>.K":Str)++(".":Str)) = "cmp_to_key.<locals>.K.":=by kernel_rfl!
section
variable{B:Bs}{A:Around}{names:Nat→Nat→Str}{tabs:List (Addr×Addr)}{s₀ s s':Shared}{g₀ g g':Gh}{N:Addr}{es es':List DictEntry}{n n':Nat}{R R':List (Addr×Addr)}
theorem Atr(O:B.Ok)(C:CB B names tabs s₀ g₀ N [] n s g R){cm fr:Addr}{code:Value}{m:Value}(hm:B.mg "__name__"=some m){Q:Value→Shared→Prop}{E:Value→Shared→Prop}(hq:Q m s):wpAny B.M A (loadName (Ahk N cm code fr) "__name__") Q E s:=by
 have hg:=C.st.inv.ns O.g;have hn0:s.heap.Ns N (fun _=>none):=⟨_,_,_,C.ns,rfl,by simp [StrKeys],fun name=>by rfl⟩;have hN:=C.ns;unfold loadName
 repeat (first
  |(with_reducible refine wpAny_nsGet hg ?_;rw[hm])|(with_reducible refine wpAny_nsGet hn0 ?_)
  |(with_reducible apply wpAny_ite_false;focus kernel_rfl!)|(with_reducible apply wpAny_ite_true;focus kernel_rfl!)
  |(with_reducible refine wpAny_pure ?_)|(with_reducible refine wpAny_bind ?_)
  |(refine wpAny_load (a:=N) hN ?_)|(refine wpAny_nsGet (a:=N) hn0 ?_)|(refine wpAny_nsGet (a:=mainGlobals) hg ?_;rw[hm])
  |wp_delta)
 all_goals exact hq
end
section
variable{B:Bs}{A:Around}{names:Nat→Nat→Str}{tabs:List (Addr×Addr)}{s₀ s s':Shared}{g₀ g g':Gh}{N:Addr}{R R':List (Addr×Addr)}
theorem ACf:hasAnns (Aae kSt)=false:=by kernel_rfl!
theorem ACg:docOf (Aae kSt)=none:=by kernel_rfl!
theorem Ats(O:B.Ok)(C:CB B names tabs s₀ g₀ N [] 0 s g R){cm fr:Addr}{code m:Value}(hm:B.mg "__name__"=some m)(ln:Nat){Q:Unit→Shared→Prop}{E:Value→Shared→Prop}
  (hq:∀ t0 t1 t2 u0 u1 u2 s',CB B names tabs s₀ g₀ N (e0 B.w m t0 t1 t2 u0 u1 u2 ln) 3 s' g R→Acp N s g s' g→Q () s') :
  wpAny B.M A (do storeName (Ahk N cm code fr) "__module__" (← loadName (Ahk N cm code fr) "__name__");storeName (Ahk N cm code fr) "__qualname__" (← mkText "cmp_to_key.<locals>.K");storeName (Ahk N cm code fr) "__firstlineno__" (← mkInt ln);pure ():Sem Unit) Q E s:=by
 refine wpAny_bind (Atr O C hm ?_);refine wpAny_bind (C.store O (cenv:=Ahk N cm code fr) rfl (kst _ _ _ _ _ (by simp) _) ACc (AzL ..) fun s1 C1 e1 k1=>?_);have q1:Acp N s g s1 g:=C.keepStore k1;refine wpAny_bind (wpAny_mkText ?_);have x2:=Aag.tok C1.st.inv (s1.toks+1);have C2:=C1.step x2 C1.X fun _ hq=>hq;refine wpAny_bind (C2.store O (cenv:=Ahk N cm code fr) rfl (kst _ _ _ _ _ (by simp) _) (ACd ..) (AzM ..) fun s3 C3 e3 k3=>?_);have q3:Acp N s g s3 g:=q1.trans (x2.keepN.trans (C2.keepStore k3));refine wpAny_bind (wpAny_mkInt ?_);have x4:=Aag.tok C3.st.inv (s3.toks+1);have C4:=C3.step x4 C3.X fun _ hq=>hq;refine wpAny_bind (C4.store O (cenv:=Ahk N cm code fr) rfl (kst _ _ _ _ _ (by simp) _) (ACe ..) (AzN ..) fun s5 C5 e5 k5=>?_);refine wpAny_pure ?_;exact hq _ _ _ _ _ _ _ C5 (q3.trans (x4.keepN.trans (C4.keepStore k5)))
theorem Att(O:B.Ok){ln:Int}{t0 t1 t2 u0 u1 u2 t3:Tok}{sl:Addr}{t4:Tok}{f0:Addr}{t5:Tok}{f1:Addr}{t6:Tok}{f2:Addr}{t7:Tok}{f3:Addr}{t8:Tok}{f4:Addr}{t9:Tok}{f5:Addr}{t10:Tok}
  (C:CB B names tabs s₀ g₀ N (ke8 B.w ln t0 t1 t2 u0 u1 u2 t3 sl t4 f0 t5 f1 t6 f2 t7 f3 t8 f4 t9 f5 t10) 11 s g R) {cm fr:Addr} {code:Value} {Q:Unit→Shared→Prop} {E:Value→Shared→Prop}
  (hq:∀ st v1 t11 s' g',CB B names tabs s₀ g₀ N (ke8 B.w ln t0 t1 t2 u0 u1 u2 t3 sl t4 f0 t5 f1 t6 f2 t7 f3 t8 f4 t9 f5 t10++[⟨AaF B.w "__static_attributes__",.str "__static_attributes__" t11,.ref st⟩]) 12 s' g' R→Acp N s g s' g' →
   g' st=some {cls:=.type "tuple",data:=.seq [Value.str "obj" v1].toArray}→Q () s') :
  wpAny B.M A (do storeName (Ahk N cm code fr) "__static_attributes__" (← newTextTuple (← ([("obj":Str)]:List Str).mapM mkText));pure ():Sem Unit) Q E s:=by
 rw[List.mapM_cons,List.mapM_nil];refine wpAny_bind (wpAny_bind (wpAny_mkText (wpAny_bind (wpAny_pure (wpAny_pure ?_)))));have x1:=Aag.tok C.st.inv (s.toks+1);have C1:=C.step x1 C.X fun _ hq=>hq;refine wpAny_bind (wpAny_newTextTuple ?_);have x2:=Aag.alloc (o:={cls:=.type "tuple",data:=.seq [Value.str "obj" s.toks].toArray}) O C1.st.inv rfl (Aap rfl);have C2:=C1.step x2 (C1.X.keeps fun a o e _=>Heap.get?_push_of_some _ e) fun _ hq=>hq;refine wpAny_bind (C2.store O (cenv:=Ahk N cm code fr) rfl (kst _ _ _ _ _ (by simp) _) (AzO ..) (Aw1 ..) fun s3 C3 e3 k3=>?_);refine wpAny_pure ?_;exact hq _ _ _ _ _ C3 (x1.keepN.trans (x2.keepN.trans (C2.keepStore k3))) (Gh.put_self _ _ _)
end
set_option genInjectivity false in
structure KD where
 (aM aN b sl f0 f1 f2 f3 f4 f5 st:Addr) (tM:Nat) (tk u0 u1 u2 t0 t2 t3 t4 t5 t6 t7 t8 t9 t10 t11:Tok) (ln i0 i2 i3 i4 i5 i6 i7 i8 i9 i10 i11:Int)
noncomputable def KD.ents(d:KD)(w:World):List DictEntry:=Aoq w d.ln d.i0 d.i2 d.i3 d.i4 d.i5 d.i6 d.i7 d.i8 d.i9 d.i10 d.i11 d.u0 d.u2 d.t0 d.t2 d.t3 d.t4 d.t5 d.t6 d.t7 d.t8 d.t9 d.t10 d.t11 d.sl d.f0 d.f1 d.f2 d.f3 d.f4 d.f5 d.st d.aM d.tM
structure KIs(d:KD)(w:World)(h₀:Heap)(s:Shared)(g:Gh)(cm aC:Addr):Prop where
 eM:s.heap.get? d.aM=some (AyS aC d.tM)
 eC:s.heap.get? aC=some (AwL aC d.aN d.b d.tk d.u1)
 eN:s.heap.get? d.aN=some (Aax (d.ents w) 3)
 en:h₀.get? d.aN=none
 k0:KFn s g cm 2 d.f0
 k1:KFn s g cm 3 d.f1
noncomputable def IsK(w:World)(h₀:Heap)(s:Shared)(g:Gh)(cm aC:Addr):Prop:=∃ d:KD,KIs d w h₀ s g cm aC
theorem IsK.old{w:World}{h h₀:Heap}{s:Shared}{g:Gh}{cm aC:Addr}(k:IsK w h s g cm aC)(x:Ext h₀ h):IsK w h₀ s g cm aC:=
 k.elim fun d k=>⟨d,k.eM,k.eC,k.eN,x.dead k.en,k.k0,k.k1⟩
section
variable{B:Bs}{A:Around}{names:Nat→Nat→Str}{tabs:List (Addr×Addr)}{s₀ s s':Shared}{g₀ g g':Gh}{N:Addr}{R R':List (Addr×Addr)}
theorem Atu(O:B.Ok){ln:Int}{t0 t1 t2 u0 u1 u2 t3:Tok}{sl:Addr}{t4:Tok}{f0:Addr}{t5:Tok}{f1:Addr}{t6:Tok}{f2:Addr}{t7:Tok}{f3:Addr}{t8:Tok}{f4:Addr}{t9:Tok}{f5:Addr}{t10 t11 v0 v1 tk:Tok}{st b cm:Addr}
  (C:CB B names tabs s₀ g₀ N (ke8 B.w ln t0 t1 t2 u0 u1 u2 t3 sl t4 f0 t5 f1 t6 f2 t7 f3 t8 f4 t9 f5 t10++[⟨AaF B.w "__static_attributes__",.str "__static_attributes__" t11,.ref st⟩]) 12 s g R)
  (hb:g b=some {cls:=.type "tuple",data:=.seq [Value.type "object"].toArray}) (hsl:g sl=some {cls:=.type "list",data:=.seq [Value.str "obj" v0].toArray})
  (hst:g st=some {cls:=.type "tuple",data:=.seq [Value.str "obj" v1].toArray}) (k0:KFn s g cm 2 f0) (k1:KFn s g cm 3 f1) (k2:KFn s g cm 4 f2) (k3:KFn s g cm 5 f3) (k4:KFn s g cm 6 f4) (k5:KFn s g cm 7 f5)
  (hsm:(N == sysModules)=false) {mc:Str→Option Value} (hmc:B.G.Ns cStatics mc) (hno:mc "thirdparty.any"=none) {Q:Value→Shared→Prop} {E:Value→Shared→Prop}
  (hq:∀ aC s',Aag B s g s' g→IsK B.w s.heap s' g cm aC→Q (.ref aC) s') :
  wpAny B.M A (call (.type "type") [.str "K" tk,.ref b,.ref N]) Q E s:=by
 refine Abo k0 fun fd0 m0=>?_;refine Abo k1 fun fd1 m1=>?_;refine Abo k2 fun fd2 m2=>?_;refine Abo k3 fun fd3 m3=>?_;refine Abo k4 fun fd4 m4=>?_;refine Abo k5 fun fd5 m5=>?_;have I:=C.st.inv;have hm:=I.ns hmc;have hN:=C.ns
 obtain⟨h,gg,d,t,os⟩:=s
 refine AwS B.prog B.w A E h gg d t os b N tk Q fun A' P E' hP=>?_;refine ADE B.prog B.w A' P E' h gg d t os b N sl f0 f1 f2 f3 f4 f5 st tk v0 v1 u0 u1 u2 t0 t1 t2 t3 t4 t5 t6 t7 t8 t9 t10 t11 ln _ _ _ _ _ _ _ _ _ _ _ _ 12 _ fd0 fd1 fd2 fd3 fd4 fd5 (I.real _ _ hb) (I.real _ _ hsl) (I.real _ _ hst) ?_ ?_ ?_ ?_ ?_ ?_ hsm mc hm hno hN
  fun aM aC aN aO oO tM h1 h' t' D keep=>?_
 ·exact I.real _ _ m0.obj
 ·exact I.real _ _ m1.obj
 ·exact I.real _ _ m2.obj
 ·exact I.real _ _ m3.obj
 ·exact I.real _ _ m4.obj
 ·exact I.real _ _ m5.obj
 ·have kk:∀ a o,h.get? a=some o→h'.get? a=some o:=fun a o e=>keep _ _ (Abe D _ _ e);have x:Aag B ⟨h,gg,d,t,os⟩ g ⟨h',gg,d,t',os⟩ g:=⟨g.le_refl,I.keeps O kk rfl rfl,.of kk,fun _ _ e=>.inl e⟩;exact hP aC _ _ h' t' (keep _ _ (D.at 1 _ _ rfl)) rfl rfl (hq _ _ x ⟨⟨aM,aN,b,sl,f0,f1,f2,f3,f4,f5,st,tM,tk,u0,u1,u2,t0,t2,t3,t4,t5,t6,t7,t8,t9,t10,t11,ln,AaF B.w "__module__",_,_,_,_,_,_,_,_,_,_⟩,
   keep _ _ (D.at 0 _ _ rfl),keep _ _ (D.at 1 _ _ rfl),keep _ _ (D.at 2 _ _ rfl),(D.nw _ (.tail _ (.tail _ (.head _)))).2,⟨fd0,m0.step x⟩,⟨fd1,m1.step x⟩⟩)
end
end Mine
namespace Mine
open PySem PySem.W PyProof.Rows PySem.W.X
noncomputable def hpL:=hd.heap_1
noncomputable def Aa0(p:Params)(a:Addr):Obj:=((hpL p).lookup a).getD default
noncomputable def Aai(p:Params)(a:Addr):FuncData:=match (Aa0 p a).data with
 |.func fd=>fd
 |_=>default
noncomputable def dfl(p:Params)(a:Addr):Addr:=match (Aai p a).defaults with
 |.ref t=>t
 |_=>0
noncomputable def AbZ:Stmt:=.Pass ⟨0,0,0,0⟩
noncomputable def tabsL:List (Addr×Addr):=[(69,65),(298,296),(48,44),(41,37)]
noncomputable def tabA:List Addr:=tabsL.map (·.2)
theorem Aq1(p:Params):tabsL.all (AqI (hpL p))=true:=by kernel_rfl!
noncomputable abbrev AcF:Addr:=28
noncomputable abbrev AnQ:Nat:=3
theorem Aq2(p:Params):(hpL p).lookup AcF=some (Aa0 p AcF):=by kernel_rfl!
theorem Aq3(p:Params):(Aa0 p AcF).data=.func (Aai p AcF):=by kernel_rfl!
theorem AmT(p:Params):(Aai p AcF).body=.stmts (Aae (nth AnQ)):=by kernel_rfl!
theorem Ag8(p:Params):(Aai p AcF).scope=Aad (nth AnQ):=by kernel_rfl!
theorem AmU(p:Params):(Aai p AcF).globals=mainGlobals:=by kernel_rfl!
theorem Aou(p:Params):(Aai p AcF).builtins=builtinsNs:=by kernel_rfl!
theorem AmV(p:Params):(Aai p AcF).closure=[]:=by kernel_rfl!
theorem AmW(p:Params):Abk (hpL p) tabA (Aai p AcF).code (Aai p AcF).qualname=true:=by kernel_rfl!
theorem Aq4:AaI (Aad (nth AnQ)) [("a":Str),("b":Str),("n":Str)]=true:=by kernel_rfl!
theorem AmX(p:Params)(x0 x1 x2:Value):bindArgs (Aai p AcF) ⟨[x0,x1,x2],[]⟩=pure [(("a":Str),x0),(("b":Str),x1),(("n":Str),x2)]:=by kernel_rfl!
theorem Aov{B:Bs}(hG:GOk (hpL B.w.params) tabA B):AbJ B AcF (Aai B.w.params AcF) [("a":Str),("b":Str),("n":Str)] (Aae (nth AnQ)):=AaO hG (Aq2 _) (by decide) (Aq3 _) (AmT _) (AmU _) (Aou _) (AmV _) (AmW _) (Ag8 _) Aq4 (AqF (fun x0 x1 x2=>AmX _ x0 x1 x2))
noncomputable abbrev Adb:Addr:=42
noncomputable abbrev Ah9:Nat:=5
noncomputable abbrev AzP:List Stmt:=Aae (nth Ah9)
noncomputable abbrev Aow:Scope:=Aad (nth Ah9)
theorem Atv(p:Params):(hpL p).lookup Adb=some (Aa0 p Adb):=by kernel_rfl!
theorem Atw(p:Params):(Aa0 p Adb).data=.func (Aai p Adb):=by kernel_rfl!
theorem Aox(p:Params):(Aai p Adb).body=.stmts (Aae (nth Ah9)):=by kernel_rfl!
theorem Afd(p:Params):(Aai p Adb).scope=Aad (nth Ah9):=by kernel_rfl!
theorem Aoy(p:Params):(Aai p Adb).globals=mainGlobals:=by kernel_rfl!
theorem Aq5(p:Params):(Aai p Adb).builtins=builtinsNs:=by kernel_rfl!
theorem Aoz(p:Params):(Aai p Adb).closure=[]:=by kernel_rfl!
theorem AoA(p:Params):Abk (hpL p) tabA (Aai p Adb).code (Aai p Adb).qualname=true:=by kernel_rfl!
theorem Atx:AaI (Aad (nth Ah9)) [("a":Str),("n":Str)]=true:=by kernel_rfl!
theorem AoB(p:Params)(x0 x1:Value):bindArgs (Aai p Adb) ⟨[x0,x1],[]⟩=pure [(("a":Str),x0),(("n":Str),x1)]:=by kernel_rfl!
theorem Aq6{B:Bs}(hG:GOk (hpL B.w.params) tabA B):AbJ B Adb (Aai B.w.params Adb) [("a":Str),("n":Str)] (Aae (nth Ah9)):=AaO hG (Atv _) (by decide) (Atw _) (Aox _) (Aoy _) (Aq5 _) (Aoz _) (AoA _) (Afd _) Atx (AfG (fun x0 x1=>AoB _ x0 x1))
noncomputable abbrev AdB:Addr:=49
noncomputable abbrev Aia:Nat:=6
noncomputable abbrev Aw2:List Stmt:=Aae (nth Aia)
noncomputable abbrev Aw3:Scope:=Aad (nth Aia)
theorem Aty(p:Params):(hpL p).lookup AdB=some (Aa0 p AdB):=by kernel_rfl!
theorem Atz(p:Params):(Aa0 p AdB).data=.func (Aai p AdB):=by kernel_rfl!
theorem AoC(p:Params):(Aai p AdB).body=.stmts (Aae (nth Aia)):=by kernel_rfl!
theorem Afe(p:Params):(Aai p AdB).scope=Aad (nth Aia):=by kernel_rfl!
theorem AoD(p:Params):(Aai p AdB).globals=mainGlobals:=by kernel_rfl!
theorem Aq7(p:Params):(Aai p AdB).builtins=builtinsNs:=by kernel_rfl!
theorem AoE(p:Params):(Aai p AdB).closure=[]:=by kernel_rfl!
theorem AoF(p:Params):Abk (hpL p) tabA (Aai p AdB).code (Aai p AdB).qualname=true:=by kernel_rfl!
theorem AtA:AaI (Aad (nth Aia)) [("digits":Str),("n":Str)]=true:=by kernel_rfl!
theorem AoG(p:Params)(x0 x1:Value):bindArgs (Aai p AdB) ⟨[x0,x1],[]⟩=pure [(("digits":Str),x0),(("n":Str),x1)]:=by kernel_rfl!
theorem Aq8{B:Bs}(hG:GOk (hpL B.w.params) tabA B):AbJ B AdB (Aai B.w.params AdB) [("digits":Str),("n":Str)] (Aae (nth Aia)):=AaO hG (Aty _) (by decide) (Atz _) (AoC _) (AoD _) (Aq7 _) (AoE _) (AoF _) (Afe _) AtA (AfG (fun x0 x1=>AoG _ x0 x1))
noncomputable abbrev Ad8:Addr:=56
noncomputable abbrev AlL:Nat:=7
noncomputable abbrev AzQ:List Stmt:=Aae (nth AlL)
noncomputable abbrev Ad9:Scope:=Aad (nth AlL)
theorem AtB(p:Params):(hpL p).lookup Ad8=some (Aa0 p Ad8):=by kernel_rfl!
theorem AtC(p:Params):(Aa0 p Ad8).data=.func (Aai p Ad8):=by kernel_rfl!
theorem AoH(p:Params):(Aai p Ad8).body=.stmts (Aae (nth AlL)):=by kernel_rfl!
theorem Aff(p:Params):(Aai p Ad8).scope=Aad (nth AlL):=by kernel_rfl!
theorem AoI(p:Params):(Aai p Ad8).globals=mainGlobals:=by kernel_rfl!
theorem Aq9(p:Params):(Aai p Ad8).builtins=builtinsNs:=by kernel_rfl!
theorem AoJ(p:Params):(Aai p Ad8).closure=[]:=by kernel_rfl!
theorem AoK(p:Params):Abk (hpL p) tabA (Aai p Ad8).code (Aai p Ad8).qualname=true:=by kernel_rfl!
theorem AtD:AaI (Aad (nth AlL)) [("a":Str),("b":Str)]=true:=by kernel_rfl!
theorem AoL(p:Params)(x0 x1:Value):bindArgs (Aai p Ad8) ⟨[x0,x1],[]⟩=pure [(("a":Str),x0),(("b":Str),x1)]:=by kernel_rfl!
theorem Ara{B:Bs}(hG:GOk (hpL B.w.params) tabA B):AbJ B Ad8 (Aai B.w.params Ad8) [("a":Str),("b":Str)] (Aae (nth AlL)):=AaO hG (AtB _) (by decide) (AtC _) (AoH _) (AoI _) (Aq9 _) (AoJ _) (AoK _) (Aff _) AtD (AfG (fun x0 x1=>AoL _ x0 x1))
noncomputable abbrev AcQ:Addr:=63
noncomputable abbrev AmY:Nat:=8
noncomputable abbrev Aw4:List Stmt:=Aae (nth AmY)
theorem AtE(p:Params):(hpL p).lookup AcQ=some (Aa0 p AcQ):=by kernel_rfl!
theorem AtF(p:Params):(Aa0 p AcQ).data=.func (Aai p AcQ):=by kernel_rfl!
theorem AoM(p:Params):(Aai p AcQ).body=.stmts (Aae (nth AmY)):=by kernel_rfl!
theorem Act(p:Params):(Aai p AcQ).scope=Aad (nth AmY):=by kernel_rfl!
theorem AoN(p:Params):(Aai p AcQ).globals=mainGlobals:=by kernel_rfl!
theorem Arb(p:Params):(Aai p AcQ).builtins=builtinsNs:=by kernel_rfl!
theorem AoO(p:Params):(Aai p AcQ).closure=[]:=by kernel_rfl!
theorem AoP(p:Params):Abk (hpL p) tabA (Aai p AcQ).code (Aai p AcQ).qualname=true:=by kernel_rfl!
theorem AtG:AaI (Aad (nth AmY)) [("a":Str),("b":Str)]=true:=by kernel_rfl!
theorem AoQ(p:Params)(x0 x1:Value):bindArgs (Aai p AcQ) ⟨[x0,x1],[]⟩=pure [(("a":Str),x0),(("b":Str),x1)]:=by kernel_rfl!
theorem AfJ{B:Bs}(hG:GOk (hpL B.w.params) tabA B):AbJ B AcQ (Aai B.w.params AcQ) [("a":Str),("b":Str)] (Aae (nth AmY)):=AaO hG (AtE _) (by decide) (AtF _) (AoM _) (AoN _) (Arb _) (AoO _) (AoP _) (Act _) AtG (AfG (fun x0 x1=>AoQ _ x0 x1))
noncomputable abbrev AdC:Addr:=70
noncomputable abbrev AkE:Nat:=10
noncomputable abbrev Arc:Scope:=Aad (nth AkE)
theorem AtH(p:Params):(hpL p).lookup AdC=some (Aa0 p AdC):=by kernel_rfl!
theorem AtI(p:Params):(Aa0 p AdC).data=.func (Aai p AdC):=by kernel_rfl!
theorem AoR(p:Params):(Aai p AdC).body=.stmts (Aae (nth AkE)):=by kernel_rfl!
theorem Afg(p:Params):(Aai p AdC).scope=Aad (nth AkE):=by kernel_rfl!
theorem AoS(p:Params):(Aai p AdC).globals=mainGlobals:=by kernel_rfl!
theorem Ard(p:Params):(Aai p AdC).builtins=builtinsNs:=by kernel_rfl!
theorem AoT(p:Params):(Aai p AdC).closure=[]:=by kernel_rfl!
theorem AoU(p:Params):Abk (hpL p) tabA (Aai p AdC).code (Aai p AdC).qualname=true:=by kernel_rfl!
theorem AtJ:AaI (Aad (nth AkE)) [("mycmp":Str)]=true:=by kernel_rfl!
theorem AoV(p:Params)(x0:Value):bindArgs (Aai p AdC) ⟨[x0],[]⟩=pure [(("mycmp":Str),x0)]:=by kernel_rfl!
theorem AlM{B:Bs}(hG:GOk (hpL B.w.params) tabA B):AbJ B AdC (Aai B.w.params AdC) [("mycmp":Str)] (Aae (nth AkE)):=AaO hG (AtH _) (by decide) (AtI _) (AoR _) (AoS _) (Ard _) (AoT _) (AoU _) (Afg _) AtJ (AcE (fun x0=>AoV _ x0))
noncomputable abbrev AbO:Addr:=79
noncomputable abbrev AoW:Nat:=12
noncomputable abbrev b_red:List Stmt:=Aae (nth AoW)
noncomputable abbrev AlN:Scope:=Aad (nth AoW)
theorem AtK(p:Params):(hpL p).lookup AbO=some (Aa0 p AbO):=by kernel_rfl!
theorem AtL(p:Params):(Aa0 p AbO).data=.func (Aai p AbO):=by kernel_rfl!
theorem AoX(p:Params):(Aai p AbO).body=.stmts (Aae (nth AoW)):=by kernel_rfl!
theorem Aea(p:Params):(Aai p AbO).scope=Aad (nth AoW):=by kernel_rfl!
theorem AoY(p:Params):(Aai p AbO).globals=mainGlobals:=by kernel_rfl!
theorem Are(p:Params):(Aai p AbO).builtins=builtinsNs:=by kernel_rfl!
theorem AoZ(p:Params):(Aai p AbO).closure=[]:=by kernel_rfl!
theorem Ao0(p:Params):Abk (hpL p) tabA (Aai p AbO).code (Aai p AbO).qualname=true:=by kernel_rfl!
theorem Ao1{B:Bs}(hG:GOk (hpL B.w.params) tabA B):AvE B AbO (Aai B.w.params AbO) (Aae (nth AoW)):=AqE hG (AtK _) (by decide) (AtL _) (AoX _) (AoY _) (Are _) (AoZ _) (Ao0 _)
theorem AtM:AaI (Aad (nth AoW)) [("function":Str),("sequence":Str),("initial":Str)]=true:=by kernel_rfl!
theorem Arf(p:Params):(hpL p).lookup (dfl p AbO)=some (Aa0 p (dfl p AbO)):=by kernel_rfl!
theorem Arh(p:Params):(!(tabA.contains (dfl p AbO)))=true:=by kernel_rfl!
theorem AtN(p:Params)(S:Setting)(x0 x1 x2:Value):peek [(dfl p AbO,Aa0 p (dfl p AbO))] S (bindArgs (Aai p AbO) ⟨[x0,x1,x2],[]⟩)=some [(("function":Str),x0),(("sequence":Str),x1),(("initial":Str),x2)]:=by kernel_rfl!
noncomputable abbrev Aeb:Addr:=152
noncomputable abbrev AtO:Nat:=21
theorem AtP(p:Params):(hpL p).lookup Aeb=some (Aa0 p Aeb):=by kernel_rfl!
theorem AtQ(p:Params):(Aa0 p Aeb).data=.func (Aai p Aeb):=by kernel_rfl!
theorem Ao2(p:Params):(Aai p Aeb).body=.stmts (Aae (nth AtO)):=by kernel_rfl!
theorem Aib(p:Params):(Aai p Aeb).scope=Aad (nth AtO):=by kernel_rfl!
theorem Ao3(p:Params):(Aai p Aeb).globals=mainGlobals:=by kernel_rfl!
theorem Ari(p:Params):(Aai p Aeb).builtins=builtinsNs:=by kernel_rfl!
theorem Ao4(p:Params):(Aai p Aeb).closure=[]:=by kernel_rfl!
theorem Ao5(p:Params):Abk (hpL p) tabA (Aai p Aeb).code (Aai p Aeb).qualname=true:=by kernel_rfl!
theorem AtR:AaI (Aad (nth AtO)) [("path":Str)]=true:=by kernel_rfl!
theorem Ao6(p:Params)(x0:Value):bindArgs (Aai p Aeb) ⟨[x0],[]⟩=pure [(("path":Str),x0)]:=by kernel_rfl!
theorem Arj{B:Bs}(hG:GOk (hpL B.w.params) tabA B):AbJ B Aeb (Aai B.w.params Aeb) [("path":Str)] (Aae (nth AtO)):=AaO hG (AtP _) (by decide) (AtQ _) (Ao2 _) (Ao3 _) (Ari _) (Ao4 _) (Ao5 _) (Aib _) AtR (AcE (fun x0=>Ao6 _ x0))
noncomputable abbrev Aer:Addr:=166
noncomputable abbrev AtS:Nat:=25
theorem AtT(p:Params):(hpL p).lookup Aer=some (Aa0 p Aer):=by kernel_rfl!
theorem AtU(p:Params):(Aa0 p Aer).data=.func (Aai p Aer):=by kernel_rfl!
theorem Ao7(p:Params):(Aai p Aer).body=.stmts (Aae (nth AtS)):=by kernel_rfl!
theorem Aic(p:Params):(Aai p Aer).scope=Aad (nth AtS):=by kernel_rfl!
theorem Ao8(p:Params):(Aai p Aer).globals=mainGlobals:=by kernel_rfl!
theorem Ark(p:Params):(Aai p Aer).builtins=builtinsNs:=by kernel_rfl!
theorem Ao9(p:Params):(Aai p Aer).closure=[]:=by kernel_rfl!
theorem Apa(p:Params):Abk (hpL p) tabA (Aai p Aer).code (Aai p Aer).qualname=true:=by kernel_rfl!
theorem AtV:AaI (Aad (nth AtS)) [("path":Str)]=true:=by kernel_rfl!
theorem Apb(p:Params)(x0:Value):bindArgs (Aai p Aer) ⟨[x0],[]⟩=pure [(("path":Str),x0)]:=by kernel_rfl!
theorem Arl{B:Bs}(hG:GOk (hpL B.w.params) tabA B):AbJ B Aer (Aai B.w.params Aer) [("path":Str)] (Aae (nth AtS)):=AaO hG (AtT _) (by decide) (AtU _) (Ao7 _) (Ao8 _) (Ark _) (Ao9 _) (Apa _) (Aic _) AtV (AcE (fun x0=>Apb _ x0))
noncomputable abbrev AeJ:Addr:=173
noncomputable abbrev Apc:Nat:=26
noncomputable abbrev AtW:List Stmt:=Aae (nth Apc)
noncomputable abbrev Ahl:Scope:=Aad (nth Apc)
theorem AtX(p:Params):(hpL p).lookup AeJ=some (Aa0 p AeJ):=by kernel_rfl!
theorem AtY(p:Params):(Aa0 p AeJ).data=.func (Aai p AeJ):=by kernel_rfl!
theorem Apd(p:Params):(Aai p AeJ).body=.stmts (Aae (nth Apc)):=by kernel_rfl!
theorem Aid(p:Params):(Aai p AeJ).scope=Aad (nth Apc):=by kernel_rfl!
theorem Ape(p:Params):(Aai p AeJ).globals=mainGlobals:=by kernel_rfl!
theorem Arm(p:Params):(Aai p AeJ).builtins=builtinsNs:=by kernel_rfl!
theorem Apf(p:Params):(Aai p AeJ).closure=[]:=by kernel_rfl!
theorem Apg(p:Params):Abk (hpL p) tabA (Aai p AeJ).code (Aai p AeJ).qualname=true:=by kernel_rfl!
theorem Aph{B:Bs}(hG:GOk (hpL B.w.params) tabA B):AvE B AeJ (Aai B.w.params AeJ) (Aae (nth Apc)):=AqE hG (AtX _) (by decide) (AtY _) (Apd _) (Ape _) (Arm _) (Apf _) (Apg _)
theorem Api(p:Params)(x0 x1:Value):bindArgs (Aai p AeJ) ⟨[x0,x1],[]⟩=(do let t ← newTuple [x1];pure [(("a":Str),x0),(("p":Str),t)]):=by kernel_rfl!
theorem AtZ:AaI (Aad (nth Apc)) [("a":Str),("p":Str)]=true:=by kernel_rfl!
noncomputable abbrev AeK:Addr:=180
noncomputable abbrev At0:Nat:=27
theorem At1(p:Params):(hpL p).lookup AeK=some (Aa0 p AeK):=by kernel_rfl!
theorem At2(p:Params):(Aa0 p AeK).data=.func (Aai p AeK):=by kernel_rfl!
theorem Apj(p:Params):(Aai p AeK).body=.stmts (Aae (nth At0)):=by kernel_rfl!
theorem Aie(p:Params):(Aai p AeK).scope=Aad (nth At0):=by kernel_rfl!
theorem Apk(p:Params):(Aai p AeK).globals=mainGlobals:=by kernel_rfl!
theorem Arn(p:Params):(Aai p AeK).builtins=builtinsNs:=by kernel_rfl!
theorem Apl(p:Params):(Aai p AeK).closure=[]:=by kernel_rfl!
theorem Apm(p:Params):Abk (hpL p) tabA (Aai p AeK).code (Aai p AeK).qualname=true:=by kernel_rfl!
theorem At3:AaI (Aad (nth At0)) [("p":Str)]=true:=by kernel_rfl!
theorem Apn(p:Params)(x0:Value):bindArgs (Aai p AeK) ⟨[x0],[]⟩=pure [(("p":Str),x0)]:=by kernel_rfl!
theorem Aro{B:Bs}(hG:GOk (hpL B.w.params) tabA B):AbJ B AeK (Aai B.w.params AeK) [("p":Str)] (Aae (nth At0)):=AaO hG (At1 _) (by decide) (At2 _) (Apj _) (Apk _) (Arn _) (Apl _) (Apm _) (Aie _) At3 (AcE (fun x0=>Apn _ x0))
noncomputable abbrev AeL:Addr:=185
noncomputable abbrev Apo:Nat:=28
noncomputable abbrev At4:List Stmt:=Aae (nth Apo)
noncomputable abbrev AcG:Scope:=Aad (nth Apo)
theorem At5(p:Params):(hpL p).lookup AeL=some (Aa0 p AeL):=by kernel_rfl!
theorem At6(p:Params):(Aa0 p AeL).data=.func (Aai p AeL):=by kernel_rfl!
theorem App(p:Params):(Aai p AeL).body=.stmts (Aae (nth Apo)):=by kernel_rfl!
theorem Aif(p:Params):(Aai p AeL).scope=Aad (nth Apo):=by kernel_rfl!
theorem Apq(p:Params):(Aai p AeL).globals=mainGlobals:=by kernel_rfl!
theorem Arp(p:Params):(Aai p AeL).builtins=builtinsNs:=by kernel_rfl!
theorem Apr(p:Params):(Aai p AeL).closure=[]:=by kernel_rfl!
theorem Aps(p:Params):Abk (hpL p) tabA (Aai p AeL).code (Aai p AeL).qualname=true:=by kernel_rfl!
theorem At7:AaI (Aad (nth Apo)) [("paths":Str)]=true:=by kernel_rfl!
theorem Apt(p:Params)(x0:Value):bindArgs (Aai p AeL) ⟨[x0],[]⟩=pure [(("paths":Str),x0)]:=by kernel_rfl!
theorem Arq{B:Bs}(hG:GOk (hpL B.w.params) tabA B):AbJ B AeL (Aai B.w.params AeL) [("paths":Str)] (Aae (nth Apo)):=AaO hG (At5 _) (by decide) (At6 _) (App _) (Apq _) (Arp _) (Apr _) (Aps _) (Aif _) At7 (AcE (fun x0=>Apt _ x0))
noncomputable abbrev AaB:Addr:=190
noncomputable abbrev AbV:Nat:=30
noncomputable abbrev AcR:List Stmt:=Aae (nth AbV)
noncomputable abbrev AaS:Scope:=Aad (nth AbV)
theorem Ahm(p:Params):(hpL p).lookup AaB=some (Aa0 p AaB):=by kernel_rfl!
theorem Ahn(p:Params):(Aa0 p AaB).data=.func (Aai p AaB):=by kernel_rfl!
theorem AfK(p:Params):(Aai p AaB).body=.stmts (Aae (nth AbV)):=by kernel_rfl!
theorem Adc(p:Params):(Aai p AaB).scope=Aad (nth AbV):=by kernel_rfl!
theorem AfL(p:Params):(Aai p AaB).globals=mainGlobals:=by kernel_rfl!
theorem Agt(p:Params):(Aai p AaB).builtins=builtinsNs:=by kernel_rfl!
theorem AfM(p:Params):(Aai p AaB).closure=[]:=by kernel_rfl!
theorem AfN(p:Params):Abk (hpL p) tabA (Aai p AaB).code (Aai p AaB).qualname=true:=by kernel_rfl!
theorem Aho:AaI (Aad (nth AbV)) [("script":Str)]=true:=by kernel_rfl!
theorem AfO(p:Params)(x0:Value):bindArgs (Aai p AaB) ⟨[x0],[]⟩=pure [(("script":Str),x0)]:=by kernel_rfl!
theorem Agu{B:Bs}(hG:GOk (hpL B.w.params) tabA B):AbJ B AaB (Aai B.w.params AaB) [("script":Str)] (Aae (nth AbV)):=AaO hG (Ahm _) (by decide) (Ahn _) (AfK _) (AfL _) (Agt _) (AfM _) (AfN _) (Adc _) Aho (AcE (fun x0=>AfO _ x0))
noncomputable abbrev AaC:Addr:=195
noncomputable abbrev AbW:Nat:=31
noncomputable abbrev AcS:List Stmt:=Aae (nth AbW)
noncomputable abbrev AaT:Scope:=Aad (nth AbW)
theorem Ahp(p:Params):(hpL p).lookup AaC=some (Aa0 p AaC):=by kernel_rfl!
theorem Ahq(p:Params):(Aa0 p AaC).data=.func (Aai p AaC):=by kernel_rfl!
theorem AfP(p:Params):(Aai p AaC).body=.stmts (Aae (nth AbW)):=by kernel_rfl!
theorem Ade(p:Params):(Aai p AaC).scope=Aad (nth AbW):=by kernel_rfl!
theorem AfQ(p:Params):(Aai p AaC).globals=mainGlobals:=by kernel_rfl!
theorem Agv(p:Params):(Aai p AaC).builtins=builtinsNs:=by kernel_rfl!
theorem AfR(p:Params):(Aai p AaC).closure=[]:=by kernel_rfl!
theorem AfS(p:Params):Abk (hpL p) tabA (Aai p AaC).code (Aai p AaC).qualname=true:=by kernel_rfl!
theorem Ahr:AaI (Aad (nth AbW)) [("script":Str)]=true:=by kernel_rfl!
theorem AfT(p:Params)(x0:Value):bindArgs (Aai p AaC) ⟨[x0],[]⟩=pure [(("script":Str),x0)]:=by kernel_rfl!
theorem Agw{B:Bs}(hG:GOk (hpL B.w.params) tabA B):AbJ B AaC (Aai B.w.params AaC) [("script":Str)] (Aae (nth AbW)):=AaO hG (Ahp _) (by decide) (Ahq _) (AfP _) (AfQ _) (Agv _) (AfR _) (AfS _) (Ade _) Ahr (AcE (fun x0=>AfT _ x0))
noncomputable abbrev Aa2:Addr:=200
noncomputable abbrev Ac0:Nat:=32
noncomputable abbrev Apu:List Stmt:=Aae (nth Ac0)
noncomputable abbrev Apv:Scope:=Aad (nth Ac0)
theorem AkF(p:Params):(hpL p).lookup Aa2=some (Aa0 p Aa2):=by kernel_rfl!
theorem AkG(p:Params):(Aa0 p Aa2).data=.func (Aai p Aa2):=by kernel_rfl!
theorem Aig(p:Params):(Aai p Aa2).body=.stmts (Aae (nth Ac0)):=by kernel_rfl!
theorem Aek(p:Params):(Aai p Aa2).scope=Aad (nth Ac0):=by kernel_rfl!
theorem Aih(p:Params):(Aai p Aa2).globals=mainGlobals:=by kernel_rfl!
theorem Ajt(p:Params):(Aai p Aa2).builtins=builtinsNs:=by kernel_rfl!
theorem Aii(p:Params):(Aai p Aa2).closure=[]:=by kernel_rfl!
theorem Aij(p:Params):Abk (hpL p) tabA (Aai p Aa2).code (Aai p Aa2).qualname=true:=by kernel_rfl!
theorem AkH:AaI (Aad (nth Ac0)) [("number":Str)]=true:=by kernel_rfl!
theorem Aik(p:Params)(x0:Value):bindArgs (Aai p Aa2) ⟨[x0],[]⟩=pure [(("number":Str),x0)]:=by kernel_rfl!
theorem Aju{B:Bs}(hG:GOk (hpL B.w.params) tabA B):AbJ B Aa2 (Aai B.w.params Aa2) [("number":Str)] (Aae (nth Ac0)):=AaO hG (AkF _) (by decide) (AkG _) (Aig _) (Aih _) (Ajt _) (Aii _) (Aij _) (Aek _) AkH (AcE (fun x0=>Aik _ x0))
noncomputable abbrev Aal:Addr:=207
noncomputable abbrev AaV:Nat:=33
noncomputable abbrev Adf:List Stmt:=Aae (nth AaV)
noncomputable abbrev Adg:Scope:=Aad (nth AaV)
theorem Aes(p:Params):(hpL p).lookup Aal=some (Aa0 p Aal):=by kernel_rfl!
theorem Aet(p:Params):(Aa0 p Aal).data=.func (Aai p Aal):=by kernel_rfl!
theorem AdL(p:Params):(Aai p Aal).body=.stmts (Aae (nth AaV)):=by kernel_rfl!
theorem AbA(p:Params):(Aai p Aal).scope=Aad (nth AaV):=by kernel_rfl!
theorem AdM(p:Params):(Aai p Aal).globals=mainGlobals:=by kernel_rfl!
theorem Aec(p:Params):(Aai p Aal).builtins=builtinsNs:=by kernel_rfl!
theorem AdN(p:Params):(Aai p Aal).closure=[]:=by kernel_rfl!
theorem AdO(p:Params):Abk (hpL p) tabA (Aai p Aal).code (Aai p Aal).qualname=true:=by kernel_rfl!
theorem Aeu:AaI (Aad (nth AaV)) [("number":Str)]=true:=by kernel_rfl!
theorem AdP(p:Params)(x0:Value):bindArgs (Aai p Aal) ⟨[x0],[]⟩=pure [(("number":Str),x0)]:=by kernel_rfl!
theorem Aed{B:Bs}(hG:GOk (hpL B.w.params) tabA B):AbJ B Aal (Aai B.w.params Aal) [("number":Str)] (Aae (nth AaV)):=AaO hG (Aes _) (by decide) (Aet _) (AdL _) (AdM _) (Aec _) (AdN _) (AdO _) (AbA _) Aeu (AcE (fun x0=>AdP _ x0))
noncomputable abbrev Aa7:Addr:=212
noncomputable abbrev Ac1:Nat:=34
noncomputable abbrev Apw:List Stmt:=Aae (nth Ac1)
noncomputable abbrev Apx:Scope:=Aad (nth Ac1)
theorem AkI(p:Params):(hpL p).lookup Aa7=some (Aa0 p Aa7):=by kernel_rfl!
theorem AkJ(p:Params):(Aa0 p Aa7).data=.func (Aai p Aa7):=by kernel_rfl!
theorem Ail(p:Params):(Aai p Aa7).body=.stmts (Aae (nth Ac1)):=by kernel_rfl!
theorem Ael(p:Params):(Aai p Aa7).scope=Aad (nth Ac1):=by kernel_rfl!
theorem Aim(p:Params):(Aai p Aa7).globals=mainGlobals:=by kernel_rfl!
theorem Ajv(p:Params):(Aai p Aa7).builtins=builtinsNs:=by kernel_rfl!
theorem Ain(p:Params):(Aai p Aa7).closure=[]:=by kernel_rfl!
theorem Aio(p:Params):Abk (hpL p) tabA (Aai p Aa7).code (Aai p Aa7).qualname=true:=by kernel_rfl!
theorem AkK:AaI (Aad (nth Ac1)) [("number":Str)]=true:=by kernel_rfl!
theorem Aip(p:Params)(x0:Value):bindArgs (Aai p Aa7) ⟨[x0],[]⟩=pure [(("number":Str),x0)]:=by kernel_rfl!
theorem Ajw{B:Bs}(hG:GOk (hpL B.w.params) tabA B):AbJ B Aa7 (Aai B.w.params Aa7) [("number":Str)] (Aae (nth Ac1)):=AaO hG (AkI _) (by decide) (AkJ _) (Ail _) (Aim _) (Ajv _) (Ain _) (Aio _) (Ael _) AkK (AcE (fun x0=>Aip _ x0))
noncomputable abbrev AaE:Addr:=219
noncomputable abbrev Ace:Nat:=35
noncomputable abbrev AlO:List Stmt:=Aae (nth Ace)
noncomputable abbrev AlP:Scope:=Aad (nth Ace)
theorem Aiq(p:Params):(hpL p).lookup AaE=some (Aa0 p AaE):=by kernel_rfl!
theorem Air(p:Params):(Aa0 p AaE).data=.func (Aai p AaE):=by kernel_rfl!
theorem Agx(p:Params):(Aai p AaE).body=.stmts (Aae (nth Ace)):=by kernel_rfl!
theorem Adt(p:Params):(Aai p AaE).scope=Aad (nth Ace):=by kernel_rfl!
theorem Agy(p:Params):(Aai p AaE).globals=mainGlobals:=by kernel_rfl!
theorem Ahs(p:Params):(Aai p AaE).builtins=builtinsNs:=by kernel_rfl!
theorem Agz(p:Params):(Aai p AaE).closure=[]:=by kernel_rfl!
theorem AgA(p:Params):Abk (hpL p) tabA (Aai p AaE).code (Aai p AaE).qualname=true:=by kernel_rfl!
theorem Ais:AaI (Aad (nth Ace)) [("number":Str)]=true:=by kernel_rfl!
theorem AgB(p:Params)(x0:Value):bindArgs (Aai p AaE) ⟨[x0],[]⟩=pure [(("number":Str),x0)]:=by kernel_rfl!
theorem Aht{B:Bs}(hG:GOk (hpL B.w.params) tabA B):AbJ B AaE (Aai B.w.params AaE) [("number":Str)] (Aae (nth Ace)):=AaO hG (Aiq _) (by decide) (Air _) (Agx _) (Agy _) (Ahs _) (Agz _) (AgA _) (Adt _) Ais (AcE (fun x0=>AgB _ x0))
noncomputable abbrev Aaz:Addr:=226
noncomputable abbrev Abw:Nat:=36
noncomputable abbrev AfU:List Stmt:=Aae (nth Abw)
noncomputable abbrev AcT:Scope:=Aad (nth Abw)
theorem Ahu(p:Params):(hpL p).lookup Aaz=some (Aa0 p Aaz):=by kernel_rfl!
theorem Ahv(p:Params):(Aa0 p Aaz).data=.func (Aai p Aaz):=by kernel_rfl!
theorem AfV(p:Params):(Aai p Aaz).body=.stmts (Aae (nth Abw)):=by kernel_rfl!
theorem Ab7(p:Params):(Aai p Aaz).scope=Aad (nth Abw):=by kernel_rfl!
theorem AfW(p:Params):(Aai p Aaz).globals=mainGlobals:=by kernel_rfl!
theorem AgC(p:Params):(Aai p Aaz).builtins=builtinsNs:=by kernel_rfl!
theorem AfX(p:Params):(Aai p Aaz).closure=[]:=by kernel_rfl!
theorem AfY(p:Params):Abk (hpL p) tabA (Aai p Aaz).code (Aai p Aaz).qualname=true:=by kernel_rfl!
theorem Ahw:AaI (Aad (nth Abw)) [("path":Str)]=true:=by kernel_rfl!
theorem AfZ(p:Params)(x0:Value):bindArgs (Aai p Aaz) ⟨[x0],[]⟩=pure [(("path":Str),x0)]:=by kernel_rfl!
theorem AgD{B:Bs}(hG:GOk (hpL B.w.params) tabA B):AbJ B Aaz (Aai B.w.params Aaz) [("path":Str)] (Aae (nth Abw)):=AaO hG (Ahu _) (by decide) (Ahv _) (AfV _) (AfW _) (AgC _) (AfX _) (AfY _) (Ab7 _) Ahw (AcE (fun x0=>AfZ _ x0))
noncomputable abbrev Aa3:Addr:=233
noncomputable abbrev Ac2:Nat:=37
noncomputable abbrev Apy:List Stmt:=Aae (nth Ac2)
noncomputable abbrev Apz:Scope:=Aad (nth Ac2)
theorem AkL(p:Params):(hpL p).lookup Aa3=some (Aa0 p Aa3):=by kernel_rfl!
theorem AkM(p:Params):(Aa0 p Aa3).data=.func (Aai p Aa3):=by kernel_rfl!
theorem Ait(p:Params):(Aai p Aa3).body=.stmts (Aae (nth Ac2)):=by kernel_rfl!
theorem Aem(p:Params):(Aai p Aa3).scope=Aad (nth Ac2):=by kernel_rfl!
theorem Aiu(p:Params):(Aai p Aa3).globals=mainGlobals:=by kernel_rfl!
theorem Ajx(p:Params):(Aai p Aa3).builtins=builtinsNs:=by kernel_rfl!
theorem Aiv(p:Params):(Aai p Aa3).closure=[]:=by kernel_rfl!
theorem Aiw(p:Params):Abk (hpL p) tabA (Aai p Aa3).code (Aai p Aa3).qualname=true:=by kernel_rfl!
theorem AkN:AaI (Aad (nth Ac2)) [("pair":Str),("name":Str)]=true:=by kernel_rfl!
theorem Aix(p:Params)(x0 x1:Value):bindArgs (Aai p Aa3) ⟨[x0,x1],[]⟩=pure [(("pair":Str),x0),(("name":Str),x1)]:=by kernel_rfl!
theorem Ajy{B:Bs}(hG:GOk (hpL B.w.params) tabA B):AbJ B Aa3 (Aai B.w.params Aa3) [("pair":Str),("name":Str)] (Aae (nth Ac2)):=AaO hG (AkL _) (by decide) (AkM _) (Ait _) (Aiu _) (Ajx _) (Aiv _) (Aiw _) (Aem _) AkN (AfG (fun x0 x1=>Aix _ x0 x1))
noncomputable abbrev Aa8:Addr:=240
noncomputable abbrev Ac3:Nat:=38
noncomputable abbrev ApA:List Stmt:=Aae (nth Ac3)
noncomputable abbrev ApB:Scope:=Aad (nth Ac3)
theorem AkO(p:Params):(hpL p).lookup Aa8=some (Aa0 p Aa8):=by kernel_rfl!
theorem AkP(p:Params):(Aa0 p Aa8).data=.func (Aai p Aa8):=by kernel_rfl!
theorem Aiy(p:Params):(Aai p Aa8).body=.stmts (Aae (nth Ac3)):=by kernel_rfl!
theorem Aen(p:Params):(Aai p Aa8).scope=Aad (nth Ac3):=by kernel_rfl!
theorem Aiz(p:Params):(Aai p Aa8).globals=mainGlobals:=by kernel_rfl!
theorem Ajz(p:Params):(Aai p Aa8).builtins=builtinsNs:=by kernel_rfl!
theorem AiA(p:Params):(Aai p Aa8).closure=[]:=by kernel_rfl!
theorem AiB(p:Params):Abk (hpL p) tabA (Aai p Aa8).code (Aai p Aa8).qualname=true:=by kernel_rfl!
theorem AkQ:AaI (Aad (nth Ac3)) [("k":Str)]=true:=by kernel_rfl!
theorem AiC(p:Params)(x0:Value):bindArgs (Aai p Aa8) ⟨[x0],[]⟩=pure [(("k":Str),x0)]:=by kernel_rfl!
theorem AjA{B:Bs}(hG:GOk (hpL B.w.params) tabA B):AbJ B Aa8 (Aai B.w.params Aa8) [("k":Str)] (Aae (nth Ac3)):=AaO hG (AkO _) (by decide) (AkP _) (Aiy _) (Aiz _) (Ajz _) (AiA _) (AiB _) (Aen _) AkQ (AcE (fun x0=>AiC _ x0))
noncomputable abbrev AaP:Addr:=247
noncomputable abbrev Acf:Nat:=39
noncomputable abbrev AeV:List Stmt:=Aae (nth Acf)
noncomputable abbrev ApC:Scope:=Aad (nth Acf)
theorem AkR(p:Params):(hpL p).lookup AaP=some (Aa0 p AaP):=by kernel_rfl!
theorem AkS(p:Params):(Aa0 p AaP).data=.func (Aai p AaP):=by kernel_rfl!
theorem AiD(p:Params):(Aai p AaP).body=.stmts (Aae (nth Acf)):=by kernel_rfl!
theorem Ab5(p:Params):(Aai p AaP).scope=Aad (nth Acf):=by kernel_rfl!
theorem AiE(p:Params):(Aai p AaP).globals=mainGlobals:=by kernel_rfl!
theorem AjB(p:Params):(Aai p AaP).builtins=builtinsNs:=by kernel_rfl!
theorem AiF(p:Params):(Aai p AaP).closure=[]:=by kernel_rfl!
theorem AiG(p:Params):Abk (hpL p) tabA (Aai p AaP).code (Aai p AaP).qualname=true:=by kernel_rfl!
theorem AkT:AaI (Aad (nth Acf)) [("film":Str),("k":Str)]=true:=by kernel_rfl!
theorem AiH(p:Params)(x0 x1:Value):bindArgs (Aai p AaP) ⟨[x0,x1],[]⟩=pure [(("film":Str),x0),(("k":Str),x1)]:=by kernel_rfl!
theorem Ae5{B:Bs}(hG:GOk (hpL B.w.params) tabA B):AbJ B AaP (Aai B.w.params AaP) [("film":Str),("k":Str)] (Aae (nth Acf)):=AaO hG (AkR _) (by decide) (AkS _) (AiD _) (AiE _) (AjB _) (AiF _) (AiG _) (Ab5 _) AkT (AfG (fun x0 x1=>AiH _ x0 x1))
noncomputable abbrev AaD:Addr:=254
noncomputable abbrev AbX:Nat:=40
noncomputable abbrev AkU:List Stmt:=Aae (nth AbX)
noncomputable abbrev AkV:Scope:=Aad (nth AbX)
theorem Ahx(p:Params):(hpL p).lookup AaD=some (Aa0 p AaD):=by kernel_rfl!
theorem Ahy(p:Params):(Aa0 p AaD).data=.func (Aai p AaD):=by kernel_rfl!
theorem Af0(p:Params):(Aai p AaD).body=.stmts (Aae (nth AbX)):=by kernel_rfl!
theorem Adh(p:Params):(Aai p AaD).scope=Aad (nth AbX):=by kernel_rfl!
theorem Af1(p:Params):(Aai p AaD).globals=mainGlobals:=by kernel_rfl!
theorem AgE(p:Params):(Aai p AaD).builtins=builtinsNs:=by kernel_rfl!
theorem Af2(p:Params):(Aai p AaD).closure=[]:=by kernel_rfl!
theorem Af3(p:Params):Abk (hpL p) tabA (Aai p AaD).code (Aai p AaD).qualname=true:=by kernel_rfl!
theorem Ahz:AaI (Aad (nth AbX)) [("pair":Str)]=true:=by kernel_rfl!
theorem Af4(p:Params)(x0:Value):bindArgs (Aai p AaD) ⟨[x0],[]⟩=pure [(("pair":Str),x0)]:=by kernel_rfl!
theorem AgF{B:Bs}(hG:GOk (hpL B.w.params) tabA B):AbJ B AaD (Aai B.w.params AaD) [("pair":Str)] (Aae (nth AbX)):=AaO hG (Ahx _) (by decide) (Ahy _) (Af0 _) (Af1 _) (AgE _) (Af2 _) (Af3 _) (Adh _) Ahz (AcE (fun x0=>Af4 _ x0))
noncomputable abbrev AaW:Addr:=261
noncomputable abbrev Acu:Nat:=41
noncomputable abbrev AmZ:List Stmt:=Aae (nth Acu)
noncomputable abbrev Am0:Scope:=Aad (nth Acu)
theorem AjC(p:Params):(hpL p).lookup AaW=some (Aa0 p AaW):=by kernel_rfl!
theorem AjD(p:Params):(Aa0 p AaW).data=.func (Aai p AaW):=by kernel_rfl!
theorem AhA(p:Params):(Aai p AaW).body=.stmts (Aae (nth Acu)):=by kernel_rfl!
theorem AdQ(p:Params):(Aai p AaW).scope=Aad (nth Acu):=by kernel_rfl!
theorem AhB(p:Params):(Aai p AaW).globals=mainGlobals:=by kernel_rfl!
theorem AiI(p:Params):(Aai p AaW).builtins=builtinsNs:=by kernel_rfl!
theorem AhC(p:Params):(Aai p AaW).closure=[]:=by kernel_rfl!
theorem AhD(p:Params):Abk (hpL p) tabA (Aai p AaW).code (Aai p AaW).qualname=true:=by kernel_rfl!
theorem AjE:AaI (Aad (nth Acu)) [("pair":Str)]=true:=by kernel_rfl!
theorem AhE(p:Params)(x0:Value):bindArgs (Aai p AaW) ⟨[x0],[]⟩=pure [(("pair":Str),x0)]:=by kernel_rfl!
theorem AiJ{B:Bs}(hG:GOk (hpL B.w.params) tabA B):AbJ B AaW (Aai B.w.params AaW) [("pair":Str)] (Aae (nth Acu)):=AaO hG (AjC _) (by decide) (AjD _) (AhA _) (AhB _) (AiI _) (AhC _) (AhD _) (AdQ _) AjE (AcE (fun x0=>AhE _ x0))
noncomputable abbrev Aa9:Addr:=266
noncomputable abbrev Ac4:Nat:=42
noncomputable abbrev ApD:List Stmt:=Aae (nth Ac4)
noncomputable abbrev ApE:Scope:=Aad (nth Ac4)
theorem AkW(p:Params):(hpL p).lookup Aa9=some (Aa0 p Aa9):=by kernel_rfl!
theorem AkX(p:Params):(Aa0 p Aa9).data=.func (Aai p Aa9):=by kernel_rfl!
theorem AiK(p:Params):(Aai p Aa9).body=.stmts (Aae (nth Ac4)):=by kernel_rfl!
theorem Aeo(p:Params):(Aai p Aa9).scope=Aad (nth Ac4):=by kernel_rfl!
theorem AiL(p:Params):(Aai p Aa9).globals=mainGlobals:=by kernel_rfl!
theorem AjF(p:Params):(Aai p Aa9).builtins=builtinsNs:=by kernel_rfl!
theorem AiM(p:Params):(Aai p Aa9).closure=[]:=by kernel_rfl!
theorem AiN(p:Params):Abk (hpL p) tabA (Aai p Aa9).code (Aai p Aa9).qualname=true:=by kernel_rfl!
theorem AkY:AaI (Aad (nth Ac4)) []=true:=by kernel_rfl!
theorem AiO(p:Params) :bindArgs (Aai p Aa9) ⟨[],[]⟩=pure []:=by kernel_rfl!
theorem AjG{B:Bs}(hG:GOk (hpL B.w.params) tabA B):AbJ B Aa9 (Aai B.w.params Aa9) [] (Aae (nth Ac4)):=AaO hG (AkW _) (by decide) (AkX _) (AiK _) (AiL _) (AjF _) (AiM _) (AiN _) (Aeo _) AkY (Azo ( AiO _ ))
noncomputable abbrev Abf:Addr:=273
noncomputable abbrev AdR:Nat:=43
noncomputable abbrev Arr:List Stmt:=Aae (nth AdR)
noncomputable abbrev Ars:Scope:=Aad (nth AdR)
theorem AlQ(p:Params):(hpL p).lookup Abf=some (Aa0 p Abf):=by kernel_rfl!
theorem AlR(p:Params):(Aa0 p Abf).data=.func (Aai p Abf):=by kernel_rfl!
theorem AjH(p:Params):(Aai p Abf).body=.stmts (Aae (nth AdR)):=by kernel_rfl!
theorem AeM(p:Params):(Aai p Abf).scope=Aad (nth AdR):=by kernel_rfl!
theorem AjI(p:Params):(Aai p Abf).globals=mainGlobals:=by kernel_rfl!
theorem AkZ(p:Params):(Aai p Abf).builtins=builtinsNs:=by kernel_rfl!
theorem AjJ(p:Params):(Aai p Abf).closure=[]:=by kernel_rfl!
theorem AjK(p:Params):Abk (hpL p) tabA (Aai p Abf).code (Aai p Abf).qualname=true:=by kernel_rfl!
theorem AlS:AaI (Aad (nth AdR)) [("k":Str),("ways":Str)]=true:=by kernel_rfl!
theorem AjL(p:Params)(x0 x1:Value):bindArgs (Aai p Abf) ⟨[x0,x1],[]⟩=pure [(("k":Str),x0),(("ways":Str),x1)]:=by kernel_rfl!
theorem Ak0{B:Bs}(hG:GOk (hpL B.w.params) tabA B):AbJ B Abf (Aai B.w.params Abf) [("k":Str),("ways":Str)] (Aae (nth AdR)):=AaO hG (AlQ _) (by decide) (AlR _) (AjH _) (AjI _) (AkZ _) (AjJ _) (AjK _) (AeM _) AlS (AfG (fun x0 x1=>AjL _ x0 x1))
noncomputable abbrev AaJ:Addr:=280
noncomputable abbrev Acg:Nat:=44
noncomputable abbrev AlT:List Stmt:=Aae (nth Acg)
noncomputable abbrev AlU:Scope:=Aad (nth Acg)
theorem AiP(p:Params):(hpL p).lookup AaJ=some (Aa0 p AaJ):=by kernel_rfl!
theorem AiQ(p:Params):(Aa0 p AaJ).data=.func (Aai p AaJ):=by kernel_rfl!
theorem AgG(p:Params):(Aai p AaJ).body=.stmts (Aae (nth Acg)):=by kernel_rfl!
theorem Adu(p:Params):(Aai p AaJ).scope=Aad (nth Acg):=by kernel_rfl!
theorem AgH(p:Params):(Aai p AaJ).globals=mainGlobals:=by kernel_rfl!
theorem AhF(p:Params):(Aai p AaJ).builtins=builtinsNs:=by kernel_rfl!
theorem AgI(p:Params):(Aai p AaJ).closure=[]:=by kernel_rfl!
theorem AgJ(p:Params):Abk (hpL p) tabA (Aai p AaJ).code (Aai p AaJ).qualname=true:=by kernel_rfl!
theorem AiR:AaI (Aad (nth Acg)) [("pair":Str)]=true:=by kernel_rfl!
theorem AgK(p:Params)(x0:Value):bindArgs (Aai p AaJ) ⟨[x0],[]⟩=pure [(("pair":Str),x0)]:=by kernel_rfl!
theorem AhG{B:Bs}(hG:GOk (hpL B.w.params) tabA B):AbJ B AaJ (Aai B.w.params AaJ) [("pair":Str)] (Aae (nth Acg)):=AaO hG (AiP _) (by decide) (AiQ _) (AgG _) (AgH _) (AhF _) (AgI _) (AgJ _) (Adu _) AiR (AcE (fun x0=>AgK _ x0))
noncomputable abbrev Aba:Addr:=287
noncomputable abbrev Ac5:Nat:=45
noncomputable abbrev ApF:List Stmt:=Aae (nth Ac5)
noncomputable abbrev ApG:Scope:=Aad (nth Ac5)
theorem Ak1(p:Params):(hpL p).lookup Aba=some (Aa0 p Aba):=by kernel_rfl!
theorem Ak2(p:Params):(Aa0 p Aba).data=.func (Aai p Aba):=by kernel_rfl!
theorem AiS(p:Params):(Aai p Aba).body=.stmts (Aae (nth Ac5)):=by kernel_rfl!
theorem Aep(p:Params):(Aai p Aba).scope=Aad (nth Ac5):=by kernel_rfl!
theorem AiT(p:Params):(Aai p Aba).globals=mainGlobals:=by kernel_rfl!
theorem AjM(p:Params):(Aai p Aba).builtins=builtinsNs:=by kernel_rfl!
theorem AiU(p:Params):(Aai p Aba).closure=[]:=by kernel_rfl!
theorem AiV(p:Params):Abk (hpL p) tabA (Aai p Aba).code (Aai p Aba).qualname=true:=by kernel_rfl!
theorem Ak3:AaI (Aad (nth Ac5)) [("path":Str),("shared":Str)]=true:=by kernel_rfl!
theorem AiW(p:Params)(x0 x1:Value):bindArgs (Aai p Aba) ⟨[x0,x1],[]⟩=pure [(("path":Str),x0),(("shared":Str),x1)]:=by kernel_rfl!
theorem AjN{B:Bs}(hG:GOk (hpL B.w.params) tabA B):AbJ B Aba (Aai B.w.params Aba) [("path":Str),("shared":Str)] (Aae (nth Ac5)):=AaO hG (Ak1 _) (by decide) (Ak2 _) (AiS _) (AiT _) (AjM _) (AiU _) (AiV _) (Aep _) Ak3 (AfG (fun x0 x1=>AiW _ x0 x1))
noncomputable abbrev Aay:Addr:=294
noncomputable abbrev AbI:Nat:=46
noncomputable abbrev AdD:List Stmt:=Aae (nth AbI)
noncomputable abbrev AaQ:Scope:=Aad (nth AbI)
theorem AgL(p:Params):(hpL p).lookup Aay=some (Aa0 p Aay):=by kernel_rfl!
theorem AgM(p:Params):(Aa0 p Aay).data=.func (Aai p Aay):=by kernel_rfl!
theorem Afh(p:Params):(Aai p Aay).body=.stmts (Aae (nth AbI)):=by kernel_rfl!
theorem AcM(p:Params):(Aai p Aay).scope=Aad (nth AbI):=by kernel_rfl!
theorem Afi(p:Params):(Aai p Aay).globals=mainGlobals:=by kernel_rfl!
theorem Af5(p:Params):(Aai p Aay).builtins=builtinsNs:=by kernel_rfl!
theorem Afj(p:Params):(Aai p Aay).closure=[]:=by kernel_rfl!
theorem Afk(p:Params):Abk (hpL p) tabA (Aai p Aay).code (Aai p Aay).qualname=true:=by kernel_rfl!
theorem AgN:AaI (Aad (nth AbI)) [("one":Str),("other":Str)]=true:=by kernel_rfl!
theorem Afl(p:Params)(x0 x1:Value):bindArgs (Aai p Aay) ⟨[x0,x1],[]⟩=pure [(("one":Str),x0),(("other":Str),x1)]:=by kernel_rfl!
theorem Af6{B:Bs}(hG:GOk (hpL B.w.params) tabA B):AbJ B Aay (Aai B.w.params Aay) [("one":Str),("other":Str)] (Aae (nth AbI)):=AaO hG (AgL _) (by decide) (AgM _) (Afh _) (Afi _) (Af5 _) (Afj _) (Afk _) (AcM _) AgN (AfG (fun x0 x1=>Afl _ x0 x1))
noncomputable abbrev Aan:Addr:=299
noncomputable abbrev Aa5:Nat:=47
noncomputable abbrev AjO:Scope:=Aad (nth Aa5)
theorem AgO(p:Params):(hpL p).lookup Aan=some (Aa0 p Aan):=by kernel_rfl!
theorem AgP(p:Params):(Aa0 p Aan).data=.func (Aai p Aan):=by kernel_rfl!
theorem Afm(p:Params):(Aai p Aan).body=.stmts (Aae (nth Aa5)):=by kernel_rfl!
theorem Ab0(p:Params):(Aai p Aan).scope=Aad (nth Aa5):=by kernel_rfl!
theorem Afn(p:Params):(Aai p Aan).globals=mainGlobals:=by kernel_rfl!
theorem Af7(p:Params):(Aai p Aan).builtins=builtinsNs:=by kernel_rfl!
theorem Afo(p:Params):(Aai p Aan).closure=[]:=by kernel_rfl!
theorem Afp(p:Params):Abk (hpL p) tabA (Aai p Aan).code (Aai p Aan).qualname=true:=by kernel_rfl!
theorem AgQ:AaI (Aad (nth Aa5)) [("numbers":Str),("paths":Str),("ways":Str)]=true:=by kernel_rfl!
theorem Afq(p:Params)(x0 x1 x2:Value):bindArgs (Aai p Aan) ⟨[x0,x1,x2],[]⟩=pure [(("numbers":Str),x0),(("paths":Str),x1),(("ways":Str),x2)]:=by kernel_rfl!
theorem Adv{B:Bs}(hG:GOk (hpL B.w.params) tabA B):AbJ B Aan (Aai B.w.params Aan) [("numbers":Str),("paths":Str),("ways":Str)] (Aae (nth Aa5)):=AaO hG (AgO _) (by decide) (AgP _) (Afm _) (Afn _) (Af7 _) (Afo _) (Afp _) (Ab0 _) AgQ (AqF (fun x0 x1 x2=>Afq _ x0 x1 x2))
noncomputable abbrev Aat:Addr:=306
noncomputable abbrev AbE:Nat:=48
noncomputable abbrev AiX:List Stmt:=Aae (nth AbE)
noncomputable abbrev AiY:Scope:=Aad (nth AbE)
theorem Af8(p:Params):(hpL p).lookup Aat=some (Aa0 p Aat):=by kernel_rfl!
theorem Af9(p:Params):(Aa0 p Aat).data=.func (Aai p Aat):=by kernel_rfl!
theorem AeY(p:Params):(Aai p Aat).body=.stmts (Aae (nth AbE)):=by kernel_rfl!
theorem AcH(p:Params):(Aai p Aat).scope=Aad (nth AbE):=by kernel_rfl!
theorem AeZ(p:Params):(Aai p Aat).globals=mainGlobals:=by kernel_rfl!
theorem Afr(p:Params):(Aai p Aat).builtins=builtinsNs:=by kernel_rfl!
theorem Ae0(p:Params):(Aai p Aat).closure=[]:=by kernel_rfl!
theorem Ae1(p:Params):Abk (hpL p) tabA (Aai p Aat).code (Aai p Aat).qualname=true:=by kernel_rfl!
theorem Aga:AaI (Aad (nth AbE)) [("number":Str),("path":Str),("ways":Str)]=true:=by kernel_rfl!
theorem Ae2(p:Params)(x0 x1 x2:Value):bindArgs (Aai p Aat) ⟨[x0,x1,x2],[]⟩=pure [(("number":Str),x0),(("path":Str),x1),(("ways":Str),x2)]:=by kernel_rfl!
theorem Afs{B:Bs}(hG:GOk (hpL B.w.params) tabA B):AbJ B Aat (Aai B.w.params Aat) [("number":Str),("path":Str),("ways":Str)] (Aae (nth AbE)):=AaO hG (Af8 _) (by decide) (Af9 _) (AeY _) (AeZ _) (Afr _) (Ae0 _) (Ae1 _) (AcH _) Aga (AqF (fun x0 x1 x2=>Ae2 _ x0 x1 x2))
noncomputable abbrev Adi:Addr:=311
noncomputable abbrev AiZ:Nat:=49
noncomputable abbrev AzR:Scope:=Aad (nth AiZ)
theorem Art(p:Params):(hpL p).lookup Adi=some (Aa0 p Adi):=by kernel_rfl!
theorem Aru(p:Params):(Aa0 p Adi).data=.func (Aai p Adi):=by kernel_rfl!
theorem Am1(p:Params):(Aai p Adi).body=.stmts (Aae (nth AiZ)):=by kernel_rfl!
theorem AeN(p:Params):(Aai p Adi).scope=Aad (nth AiZ):=by kernel_rfl!
theorem Am2(p:Params):(Aai p Adi).globals=mainGlobals:=by kernel_rfl!
theorem ApH(p:Params):(Aai p Adi).builtins=builtinsNs:=by kernel_rfl!
theorem Am3(p:Params):(Aai p Adi).closure=[]:=by kernel_rfl!
theorem Am4(p:Params):Abk (hpL p) tabA (Aai p Adi).code (Aai p Adi).qualname=true:=by kernel_rfl!
theorem Arv:AaI (Aad (nth AiZ)) [("script":Str)]=true:=by kernel_rfl!
theorem Am5(p:Params)(x0:Value):bindArgs (Aai p Adi) ⟨[x0],[]⟩=pure [(("script":Str),x0)]:=by kernel_rfl!
theorem ApI{B:Bs}(hG:GOk (hpL B.w.params) tabA B):AbJ B Adi (Aai B.w.params Adi) [("script":Str)] (Aae (nth AiZ)):=AaO hG (Art _) (by decide) (Aru _) (Am1 _) (Am2 _) (ApH _) (Am3 _) (Am4 _) (AeN _) Arv (AcE (fun x0=>Am5 _ x0))
noncomputable def Arw:List (Pos×Str):=[(Abp (((Aae (nth Ah9))[1]?).getD AbZ),"_int2digits.<locals>.inner"),
 (Abp (((Aae (nth Aia))[0]?).getD AbZ),"_digits2int.<locals>.inner"),
 (Abp kSt,"cmp_to_key.<locals>.K"),
 (Ajr 2,"cmp_to_key.<locals>.K.__init__"),
 (Ajr 3,"cmp_to_key.<locals>.K.__lt__"),
 (Ajr 4,"cmp_to_key.<locals>.K.__gt__"),
 (Ajr 5,"cmp_to_key.<locals>.K.__eq__"),
 (Ajr 6,"cmp_to_key.<locals>.K.__le__"),
 (Ajr 7,"cmp_to_key.<locals>.K.__ge__"),
 ((AsZ (Aaj (((Aae (nth Aa5))[0]?).getD AbZ))).pos,"_law_in_order.<locals>.<lambda>")]
noncomputable def Ae6(l c:Nat):Str:=((Arw.find? fun p=>p.1.line == l && p.1.col == c).map (·.2)).getD ""
theorem AzS:Ae6 (Abp (((Aae (nth Ah9))[1]?).getD AbZ)).line (Abp (((Aae (nth Ah9))[1]?).getD AbZ)).col = "_int2digits.<locals>.inner":=by kernel_rfl!
theorem AzT:Ae6 (Abp (((Aae (nth Aia))[0]?).getD AbZ)).line (Abp (((Aae (nth Aia))[0]?).getD AbZ)).col = "_digits2int.<locals>.inner":=by kernel_rfl!
theorem ADG:Ae6 (Abp kSt).line (Abp kSt).col = "cmp_to_key.<locals>.K":=by kernel_rfl!
theorem ACh(i:Nat)(x:Str)(h:(i,x)∈[(2,("__init__":Str)),(3,"__lt__"),(4,"__gt__"),(5,"__eq__"),(6,"__le__"),(7,"__ge__")]):Ae6 (Ajr i).line (Ajr i).col = "cmp_to_key.<locals>.K."++x:=by
 simp only[List.mem_cons,List.not_mem_nil,or_false,Prod.mk.injEq] at h
 rcases h with ⟨rfl,rfl⟩|⟨rfl,rfl⟩|⟨rfl,rfl⟩|⟨rfl,rfl⟩|⟨rfl,rfl⟩|⟨rfl,rfl⟩<;>kernel_rfl!
theorem AzU:Ae6 ((AsZ (Aaj (((Aae (nth Aa5))[0]?).getD AbZ))).pos).line ((AsZ (Aaj (((Aae (nth Aa5))[0]?).getD AbZ))).pos).col = "_law_in_order.<locals>.<lambda>":=by kernel_rfl!
theorem AzV(p:Params):(Aai p Adb).qualname = "_int2digits":=by kernel_rfl!
theorem AzW(p:Params):(tabsL.any fun q=>(Aai p Adb).code == .ref q.1)=true:=by kernel_rfl!
theorem AzX(p:Params):(Aai p AdB).qualname = "_digits2int":=by kernel_rfl!
theorem AzY(p:Params):(tabsL.any fun q=>(Aai p AdB).code == .ref q.1)=true:=by kernel_rfl!
theorem AzZ(p:Params):(Aai p AdC).qualname = "cmp_to_key":=by kernel_rfl!
theorem Az0(p:Params):(tabsL.any fun q=>(Aai p AdC).code == .ref q.1)=true:=by kernel_rfl!
theorem Ai0(p:Params):(Aai p Aan).qualname = "_law_in_order":=by kernel_rfl!
theorem Ai1(p:Params):(tabsL.any fun q=>(Aai p Aan).code == .ref q.1)=true:=by kernel_rfl!
end Mine
namespace Mine
open PySem PySem.W PyProof.Rows PySem.Calls PySem.W
theorem Aw5{E:Expr→Option D}{a b:Expr}{x y:D}(ha:AbL a=true)(hb:AbL b=true)(h1:E a=some x)(h2:E b=some y):evL E [a,b]=some [x,y]:=ift ha (Aau h1 (Aau (ift hb (Aau h2 rfl)) rfl))
noncomputable def AlV:D→Bool
 |.int _=>true
 |.str _=>true
 |.bool _=>true
 |.tup _=>true
 |.list _=>true
 |.dict _ _ _=>true
 |_=>false
section
variable{B:Bs}{A:Around}{s:Shared}{g:Gh}{n:Nat}
theorem Aee{M:Model}{E:Value→Shared→Prop}{x y:Addr}{ox oy:Obj}{Q:Value→Shared→Prop}(hxy:x≠y)(hx:s.heap.get? x=some ox)(hy:s.heap.get? y=some oy)(hnt:oy.cls≠.type "tuple")
  (h:Q (.bool false) s):wpAny M A (compareOp .Is (.ref x) (.ref y)) Q E s:=by
 show wpAny M A (do return .bool (← isSame (.ref x) (.ref y))) Q E s;exact wpAny_bind (PySem.SeqAt.wpAny_isSame_ref_other' hxy hx hy hnt (wpAny_pure h))
theorem Ai2(I:Inv B s g){am:Addr}{om:Obj}(hm:B.G.get? am=some om)(hc:om.cls=.type "object"){v:Value}{d:D}(hd:Den g v d)(hp:AlV d=true):Aaq B A s g (compareOp .Is v (.ref am)) fun _ r=>r=.bool false:=by
 have g1:=I.base _ _ hm;have h1:=I.get g1;have nt:om.cls≠.type "tuple":=by rw[hc];decide
 cases hd with
 |none=>injection hp
 |bool=>exact wpAny_is_other rfl (by intro e;injection e) ⟨g,Aag.refl I,rfl⟩
 |int=>exact wpAny_is_other rfl (by intro e;injection e) ⟨g,Aag.refl I,rfl⟩
 |str=>exact wpAny_is_other rfl (by intro e;injection e) ⟨g,Aag.refl I,rfl⟩
 |tup e1 _=>exact Aee (by intro q1;subst q1;rw[g1] at e1;cases e1;simp at hc) (I.get e1) h1 nt ⟨g,Aag.refl I,rfl⟩
 |list e1 _=>exact Aee (by intro q2;subst q2;rw[g1] at e1;cases e1;simp at hc) (I.get e1) h1 nt ⟨g,Aag.refl I,rfl⟩
 |dict e1 _ _=>exact Aee (by intro q3;subst q3;rw[g1] at e1;cases e1;simp at hc) (I.get e1) h1 nt ⟨g,Aag.refl I,rfl⟩
 |rng _=>injection hp
 |val=>injection hp
noncomputable def AjP(F:List D→Option D):D→List D→Option D
 |d,[]=>some d
 |d,x :: xs=>(F [d,x]).bind fun r=>AjP F r xs
noncomputable def ADh:D→Option Addr
 |.val v=>ABA v
 |_=>none
theorem Aw6{d:D}{a:Addr}(h:ADh d=some a):d=.val (.ref a):=by
 induction d using D.casesOn with
 |val v=>exact congrArg D.val (Amy h)
 |_=>exact Aah h
noncomputable def Az1(Φ:Addr→Option (List D→Option D)):List D→Option D:=fn3 fun x sq init=>(ADh x).bind fun a=>
 if AlV init=true then (Φ a).bind fun F=>(Acq sq).bind fun items=>AjP F init items else none
noncomputable def AnR(a:Addr)(F:List D→Option D)(v:Value):Option (List D→Option D):=(ABA v).bind fun b=>if b=a then some F else none
theorem Ai3{a:Addr}{F F':List D→Option D}{v:Value}(h:AnR a F v=some F'):v=.ref a∧F=F':=by refine Aaf (Aak h) fun b e k_1=>?_;refine AaG (Abs k_1) fun q k_2=>?_;exact⟨q ▸ Amy e,sj k_2⟩
noncomputable def AvP(a:Addr)(F:List D→Option D):Tb:=⟨fun _=>none,AnR a F,fun _ _=>none,fun _ _ _=>none,fun _ _ _ _=>none⟩
theorem Aw7{a:Addr}{F:List D→Option D}(h:Amx B n s g (.ref a) F):Acw B n (AvP a F) s g where
 glob:=fun _ _ e=>by exact Aah e
 app:=fun v F' e=>by
  refine AaG (Ai3 e) fun q1 q2=>?_;subst q1;subst q2;exact h
 spec:=fun _ _ _ _ _ _ _ _ _ e=>by exact Aah e
 stm:=fun _ _ _ _ _ _ _ _ _ _ _ _ e=>by exact Aah e
 meth:=fun _ _ _ e=>by exact Aah e
theorem AlW{v:Value}{Q E:Value→Shared→Prop}(h:wpAny B.M A.in1 (pyIter v) Q E s):wpAny B.M A (call (.builtin "iter") [v]) Q E s:=by refine call_function_tree (by decide +kernel) (by decide +kernel) kdk_entry_iter (kdk_args_iter _) ?_;unfold Builtin.«iter»;refine wpAny_bind (m:=someArgs "iter" 1 2 _) (wpAny_of_eq (a:=[v]) rfl ?_);dsimp only;refine wpAny_bind (wpAny_mono h (fun it s' hq=>?_) fun _ _ e=>e);exact wpAny_pure hq
noncomputable def Am6(sc:Scope)(own:List Str)(a:Addr)(F:List D→Option D)(body:List Stmt)(ρ:Rho):Option Res:=ex (fun _ _=>none) (ev (AvP a F) 3 sc) own sc 3 ρ body
noncomputable def AeO(body:List Stmt):Prop:=∃ p2 p3 p4 p5 p6 p7,body=[.Assign [.Name "value" p2] (.Call (.Name "function" p3) [.Name "value" p4,.Name "element" p5] [] p6) p7]
theorem AlX{sc:Scope}{own:List Str}{a:Addr}{F:List D→Option D}{body:List Stmt}(hb:AeO body)(hv:okT own sc "value"=true){ρ:Rho}{d x r:D}(l1:ρ.lookup ("function":Str)=some (.val (.ref a)))(l2:ρ.lookup ("value":Str)=some d)(l3:ρ.lookup ("element":Str)=some x)
  (e:F [d,x]=some r):Am6 sc own a F body ρ=some (.next (("value",r) :: ρ)):=by
 refine ABS hb fun p2 p3 p4 p5 p6 p7 z1=>?_;subst z1;have k1:AbB ("function":Str)=true:=by decide
 have k2:AbB ("value":Str)=true:=by decide
 have k3:AbB ("element":Str)=true:=by decide
 have hn:∀ (x:Str) (d:D) (k:Nat) (p:Pos),AbB x=true→ρ.lookup x=some d→ev (AvP a F) (k+1) sc ρ (.Name x p)=some d:=fun x d k p ho hl=>ift ho (by rw[hl]);have happ:(AvP a F).app (.ref a)=some F:=if_pos rfl;have hargs:evL (ev (AvP a F) 2 sc ρ) [.Name "value" p4,.Name "element" p5]=some [d,x]:=Aw5 rfl rfl (hn _ _ _ _ k2 l2) (hn _ _ _ _ k3 l3);have hcall:ev (AvP a F) 3 sc ρ (.Call (.Name "function" p3) [.Name "value" p4,.Name "element" p5] [] p6)=some r:=Aau (hn _ _ _ _ k1 l1) (Aau rfl (Aau happ (Aau hargs e)));have hs:AnC (ev (AvP a F) 3 sc) own sc 2 (ex (fun _ _=>none) (ev (AvP a F) 3 sc) own sc 2) ρ (.Assign [.Name "value" p2] (.Call (.Name "function" p3) [.Name "value" p4,.Name "element" p5] [] p6) p7)=some (.next (("value",r) :: ρ)):=
  Aau hcall (ift (.inl ⟨rfl,.inl rfl⟩) (Aau (if_pos hv) rfl))
 exact Aau hs rfl
theorem AnS{sc:Scope}{own:List Str}{a:Addr}{F:List D→Option D}{body:List Stmt}{p1:Pos}(hb:AeO body)(hv:okT own sc "value"=true)(he:okT own sc "element"=true) :
  ∀ (items:List D) (ρ:Rho) (d r:D),ρ.lookup ("function":Str)=some (.val (.ref a))→ρ.lookup ("value":Str)=some d→AjP F d items=some r →
   ∃ ρ',AmD own sc (.Name "element" p1) (Am6 sc own a F body) items ρ=some (.next ρ')∧ρ'.lookup ("value":Str)=some r
 |[],ρ,d,r,_,h2,h3=>⟨ρ,rfl,h2.trans h3⟩
 |x :: xs,ρ,d,r,h1,h2,h3=>by
  refine Aaf (Aak h3) fun r' e h3=>?_
  ·have l1:(("element",x) :: ρ:Rho).lookup ("function":Str)=some (.val (.ref a)):=by rw[Aab,if_neg (by decide)];exact h1
   have l2:(("element",x) :: ρ:Rho).lookup ("value":Str)=some d:=by rw[Aab,if_neg (by decide)];exact h2
   have l3:(("element",x) :: ρ:Rho).lookup ("element":Str)=some x:=by rw[Aab,if_pos rfl]
   refine Aaf (AnS (p1:=p1) hb hv he xs (("value",r') :: ("element",x) :: ρ) r' r (by rw[Aab,if_neg (by decide)];exact l1) (by rw[Aab,if_pos rfl]) h3) fun ρ' e1 e2=>?_;refine⟨ρ',?_,e2⟩;exact Aau (Aj3 he) (Aau (AlX hb hv l1 l2 l3 e) e1)
end
section
variable{B:Bs}{A:Around}{s:Shared}{g:Gh}{n:Nat}
theorem Aef{cenv:Env}{x:Str}{p pos:Pos}{value:Expr}{Q:Flow→Shared→Prop}{E:Value→Shared→Prop}(h1:AgW value=false)
  (hv:wpAny B.M A (eval value cenv) (fun v s'=>wpAny B.M A (storeName cenv x v) (fun _ s''=>Q .next s'') E s') E s):wpAny B.M A (exec (.Assign [.Name x p] value pos) cenv) Q E s:=by
 refine wpAny_Assign_stores ?_ (AeG (t:=.Name x p) (line:=pos.line) (env:=cenv) h1) AbM;refine wpAny_mono hv (fun v s' h=>?_) fun _ _ e=>e;show wpAny _ _ (assign (.Name x p) cenv v) _ _ _;exact wpAny_assign_Name h
noncomputable def AhN(body:List Stmt):Prop:=∃ p1 p2 p3 p4 p5 p6 p7 p8 tr p9 p10 p11 p12 p13 p14 bd p15 p16 p17,AeO bd∧body=[.Assign [.Name "it" p1] (.Call (.Name "iter" p2) [.Name "sequence" p3] [] p4) p5,
 .If (.Compare (.Name "initial" p6) [.Is] [.Name "_initial_missing" p7] p8) tr [.Assign [.Name "value" p9] (.Name "initial" p10) p11] p12,.For (.Name "element" p13) (.Name "it" p14) bd [] p15,.Return (some (.Name "value" p16)) p17]
theorem AhN.use{body:List Stmt}{P:Prop}(h:AhN body)(k:∀ p1 p2 p3 p4 p5 p6 p7 p8 tr p9 p10 p11 p12 p13 p14 bd p15 p16 p17,AeO bd→body=[.Assign [.Name "it" p1] (.Call (.Name "iter" p2) [.Name "sequence" p3] [] p4) p5,
 .If (.Compare (.Name "initial" p6) [.Is] [.Name "_initial_missing" p7] p8) tr [.Assign [.Name "value" p9] (.Name "initial" p10) p11] p12,.For (.Name "element" p13) (.Name "it" p14) bd [] p15,.Return (some (.Name "value" p16)) p17]→P):P:=by
 obtain⟨p1,p2,p3,p4,p5,p6,p7,p8,tr,p9,p10,p11,p12,p13,p14,bd,p15,p16,p17,hb,e⟩:=h
 exact k _ _ _ _ _ _ _ _ _ _ _ _ _ _ _ _ _ _ _ hb e
structure At8(B:Bs)(ad:Addr)(fd:FuncData)(body:List Stmt)(am:Addr):Prop where
 d0:AvE B ad fd body
 is:AhN body
 sc:AaI fd.scope ["function","sequence","initial"]=true
 bind:∀ (A:Around) (s:Shared) (g:Gh) (a b c:Value) (Q:List (Str×Value)→Shared→Prop) (E:Value→Shared→Prop),Inv B s g→Q [(("function":Str),a),("sequence",b),("initial",c)] s→wpAny B.M A (bindArgs fd ⟨[a,b,c],[]⟩) Q E s
 lit:okT (Aam fd.scope.names) fd.scope "it"=true∧okT (Aam fd.scope.names) fd.scope "value"=true∧okT (Aam fd.scope.names) fd.scope "element"=true
 giter:fd.scope.names.lookup ("iter":Str)=some .globalImplicit∧B.look "iter"=some (.builtin "iter")
 gmiss:fd.scope.names.lookup ("_initial_missing":Str)=some .globalImplicit∧B.look "_initial_missing"=some (.ref am)
 om:∃ o,B.G.get? am=some o∧o.cls=.type "object"
theorem Am7(O:B.Ok){ad am:Addr}{fd:FuncData}{body:List Stmt}(R:At8 B ad fd body am){a:Addr}{F:List D→Option D}{vf vs vi:Value}{sq init r:D}{items:List D}(hF:Amx B n s g (.ref a) F)(hA:AOk (n+1) A)(I:Inv B s g)
  (hf:vf=.ref a) (h2:Den g vs sq) (h3:Den g vi init) (hp:AlV init=true) (hi:Acq sq=some items) (hr:AjP F init items=some r):Aaq B A s g (call (.ref ad) [vf,vs,vi]) fun g' v=>Den g' v r:=by
 subst hf;refine Agp O R.d0 R.sc hA I (R.bind _ s g _ _ _ _ _ I ?_);refine⟨g,[.ref a,vs,vi],[.val (.ref a),sq,init],Aag.refl I,rfl,.cons .val (.cons h2 (.cons h3 .nil)),rfl,fun env s' e1 e2 e3 F0=>?_⟩;refine R.is.use fun p1 p2 p3 p4 p5 p6 p7 p8 tr p9 p10 p11 p12 p13 p14 bd p15 p16 p17 hbd hbody=>?_;subst hbody;have hA':AOk n (A.deeper env):=hA.deeper;have hh:=hA'.handled;refine AjX R.lit fun t1 t2 t3=>?_;rw[← e1] at t1 t2 t3 F0;have hk1:env.kindOf ("iter":Str)=some .globalImplicit:=by unfold Env.kindOf;rw[e1];exact R.giter.1
 have hk2:env.kindOf ("_initial_missing":Str)=some .globalImplicit:=by unfold Env.kindOf;rw[e1];exact R.gmiss.1
 have l1:((([("function":Str),"sequence","initial"].zip [D.val (.ref a),sq,init]).reverse:Rho)).lookup ("function":Str)=some (.val (.ref a)):=rfl;have l2:((([("function":Str),"sequence","initial"].zip [D.val (.ref a),sq,init]).reverse:Rho)).lookup ("sequence":Str)=some sq:=rfl;have l3:((([("function":Str),"sequence","initial"].zip [D.val (.ref a),sq,init]).reverse:Rho)).lookup ("initial":Str)=some init:=rfl;generalize (([("function":Str),"sequence","initial"].zip [D.val (.ref a),sq,init]).reverse:Rho)=ρ at F0 l1 l2 l3
 -- it=iter(sequence)
 refine wpAny_execs_cons ?_;refine Aef rfl ?_;refine wpAny_Call_NameR ((F0.gname O hk1 R.giter.2 (by decide)).use fun fv s1 g1 x1 hfv=>?_);subst hfv;rw[Aaw (es:=[.Name "sequence" p3]) (by intro e he;simp at he;subst he;rfl)];have F1:=F0.step x1;have goal:∀ {Q:Value→Shared→Prop} {E:Value→Shared→Prop},(∀ v s2 g2,Aag B s1 g1 s2 g2→Den g2 v sq→wpAny B.M (A.deeper env) (call (.builtin "iter") [v]) Q E s2)→wpAny B.M (A.deeper env) (callWith p4 (.builtin "iter") [] [(false,eval (.Name "sequence" p3) env)] []) Q E s1:=fun {Q E} h=>by
  refine callWith_of (P:=fun _=>True) (by rfl) (fun _ _=>⟨.machine,.inr (.inl rfl),.now⟩) (AcD (by simp) ?_);refine Calls.spliced_cons ((F1.name l2 (by decide)).use fun v s2 g2 x2 hv=>?_);exact wpAny_pure ⟨trivial,h v s2 g2 x2 hv⟩
 refine goal fun v s2 g2 x2 hv=>?_;have F2:=F1.step x2;refine AlW (Ad1 O x2.inv hv hi fun o x3 it3=>?_);have F3:=F2.step x3;refine(F3.store O (Abl t1) .val fun s4 F4 k4=>?_);refine Amv it3.noTabby fun oi hoi hti hni hci hdi hsi=>?_;have it4:AaN s4.heap g2 s2.heap.objs.size items:=it3.keep g2.le_refl fun o e _=>k4 _ o (F3.notLoc hoi hci hdi) e;have h04:s'.heap.get? s2.heap.objs.size=none:=(x1.trans x2).ext.dead (Aa1 _);have gI4:g2 s2.heap.objs.size=none:=x2.inv.fresh
 -- if initial is _initial_missing
 refine wpAny_execs_cons (wpAny_If (wpAny_isTrue_Compare1 ((F4.name (x:="initial") (by rw[Aab,if_neg (by decide)];exact l3) (by decide)).use fun v5 s5 g5 x5 h5=>?_) rfl));refine((F4.step x5).gname O hk2 R.gmiss.2 (by decide)).use fun v6 s6 g6 x6 h6=>?_;subst h6;refine Aaf R.om fun om hom1 hom2=>?_;refine(Ai2 x6.inv hom1 hom2 (h5.mono x6.le) hp).use fun v7 s7 g7 x7 h7=>?_;subst h7;refine wpAny_truthy_bool ?_;have F7:=((F4.step x5).step x6).step x7;have keepIt:∀ {sa sb:Shared} {ga gb:Gh},Aag B sa ga sb gb→AaN sa.heap ga s2.heap.objs.size items→ga s2.heap.objs.size=none→AaN sb.heap gb s2.heap.objs.size items∧gb s2.heap.objs.size=none:=fun {sa sb ga gb} x it hg=>by
  refine Aaf it.noTabby fun oi hoi _=>?_;exact⟨it.keep x.le fun o e n=>x.ext.keep _ o e n,x.shutNone hoi hg⟩
 refine AaG (keepIt ((x5.trans x6).trans x7) it4 gI4) fun it7 gI7=>?_
 -- value=initial
 show wpAny _ _ (execs [.Assign [.Name "value" p9] (.Name "initial" p10) p11] env) _ _ _;refine wpAny_execs_cons (Aef rfl ((F7.name (x:="initial") (by rw[Aab,if_neg (by decide)];exact l3) (by decide)).use fun v8 s8 g8 x8 h8=>?_));have F8:=F7.step x8;refine AaG (keepIt x8 it7 gI7) fun it8 gI8=>?_;refine F8.store O (Abl t2) h8 fun s9 F9 k9=>?_;refine Amv it8.noTabby fun oj hoj _ _ hcj hdj _=>?_;have it9:AaN s9.heap g8 s2.heap.objs.size items:=it8.keep g8.le_refl fun o e _=>k9 _ o (F8.notLoc hoj hcj hdj) e;refine wpAny_execs_nil ?_
 -- the loop
 refine wpAny_execs_cons (wpAny_For ((F9.name (x:="it") (d:=.val (.ref s2.heap.objs.size)) (by rw[Aab,if_neg (by decide),Aab,if_pos rfl]) (by decide)).useV fun s10 g10 x10=>?_) (fun _=>rfl));have F10:=F9.step x10;refine AaG (keepIt x10 it9 gI8) fun it10 gI10=>?_;refine AhU it10 ?_;refine Aaf (AnS (sc:=env.scope) (own:=Aam env.scope.names) (p1:=p13) hbd t2 t3 items (("value",init) :: ("it",.val (.ref s2.heap.objs.size)) :: ρ) init r
  (by rw[Aab,if_neg (by decide),Aab,if_neg (by decide)];exact l1) (by rw[Aab,if_pos rfl]) hr) fun ρ' e4 e5=>?_
 have LL:Adm env (Aam env.scope.names) s2 g2 s10 g10:=Adm.trans x3.lets (Adm.trans (Oth.lets k4) (Adm.trans ((x5.trans x6).trans (x7.trans x8)).lets (Adm.trans (Oth.lets k9) x10.lets)));refine codeAny_mono (Alx (s1:=s2) (g1:=g2) O hh (BD:=Am6 env.scope (Aam env.scope.names) a F bd) (fun ρ r s g hr F=>Acj O (Aw7 hF) hA' (k:=3) 3 ρ r bd s g hr F) F10 it10 (F0.st.ext.dead h04) gI10 e4 (Aa1 _) LL) fun rr s11 hr=>?_
 obtain⟨f,rfl,g11,l11,e11⟩:=hr
 obtain⟨rfl,F11⟩:=e11
 -- return value
 refine wpAny_execs_cons (wpAny_Return_some ((F11.name e5 (by decide)).use fun v12 s12 g12 x12 h12=>?_));exact⟨g12,(F11.step x12).st,h12⟩
end
end Mine
namespace Mine
open PySem PySem.W PyProof.Rows PySem.Calls
section
variable{B:Bs}{n:Nat}
theorem AbC.less{f:Value}{F F':List D→Option D}(h:AbC B n f F)(hle:∀ ds r,F' ds=some r→F ds=some r):AbC B n f F':=
 ⟨h.kp,fun A s g vs ds r hA I hd hr=>h.run A s g vs ds r hA I hd (hle ds r hr)⟩
theorem AOk.le{A:Around}{m:Nat}(h:AOk m A)(hl:n≤m):AOk n A:=⟨h.handled,Nat.le_trans (Nat.add_le_add_left (Nat.mul_le_mul_left _ hl) _) h.depth,Nat.le_trans (Nat.add_le_add_left (Nat.mul_le_mul_left _ hl) _) h.units⟩
theorem AbC.up{m:Nat}{f:Value}{F:List D→Option D}(h:AbC B n f F)(hl:n≤m):AbC B m f F:=
 ⟨h.kp,fun A s g vs ds r hA I hd hr=>h.run A s g vs ds r (hA.le hl) I hd hr⟩
theorem Arx(O:B.Ok){ad am:Addr}{fd:FuncData}{body:List Stmt}(R:At8 B ad fd body am){Φ:Addr→Option (List D→Option D)}(hΦ:∀ a F,Φ a=some F→AbC B n (.ref a) F):AbC B (n+1) (.ref ad) (Az1 Φ):=by
 refine Aaf R.d0.obj fun o ho hdat=>?_;refine⟨.inr (.inr ⟨ad,o,fd,rfl,ho,hdat⟩),fun A s g vs ds r hA I hd hr=>?_⟩;refine Avt (AvA hr) fun x sq init q1 k_1=>?_;subst q1;refine Aaf (Aak k_1) fun a e0 k_2=>?_;refine AaG (Abs k_2) fun hp k_3=>?_;refine Aaf (Aak k_3) fun F e1 k_4=>?_;refine Aaf (Aak k_4) fun items e2 hr=>?_;rw[Aw6 e0] at hd;induction hd using Aav.consE with|cons h1 hd=>?_
 induction hd using Aav.consE with|cons h2 hd=>?_
 induction hd using Aav.consE with|cons h3 hd=>?_
 induction hd using Aav.nilE;induction h1 using Den.valE;exact Am7 O R ((hΦ _ _ e1).at I) hA I rfl h2 h3 hp e2 hr
noncomputable def Az2(T:Tb)(k m:Nat)(params:List Str)(body:List Stmt)(sc:Scope):List D→Option D:=fn2 fun d0 d1=>fnD T k m params body sc [d0,.tup [d1]]
theorem Aw8(O:B.Ok){a:Addr}{fd:FuncData}{x y:Str}{body:List Stmt}{k m:Nat}{T:Tb}(D0:AvE B a fd body)(hs:AaI fd.scope [x,y]=true)(hb:∀ a b,bindArgs fd ⟨[a,b],[]⟩=(do let t ← newTuple [b];pure [(x,a),(y,t)]))
  (K:∀ s g,Inv B s g→Acw B n T s g):AbC B (n+1) (.ref a) (Az2 T k m [x,y] body fd.scope):=by
 refine Aaf D0.obj fun o ho hdat=>?_;refine⟨.inr (.inr ⟨a,o,fd,rfl,ho,hdat⟩),fun A s g vs ds r hA I hd hr=>?_⟩;refine Afx (Ag5 hr) fun d0 d1 q1 hr_1=>?_;subst q1;induction hd using Aav.consE with|cons h1 hd=>?_
 induction hd using Aav.consE with|cons h2 hd=>?_
 induction hd using Aav.nilE;rename_i v0 _ v1 _;refine Agp O D0 hs hA I ?_;rw[hb];refine wpAny_bind (wpAny_newTuple ?_ (Nat.le_of_ble_eq_true rfl));refine Aaf (AcB O I (vs:=[v1].toArray) (ds:=[d1]) (.cons h2 .nil)) fun g1 x1 hd1=>?_;refine wpAny_pure ⟨g1,[v0,.ref _],[d0,.tup [d1]],x1,rfl,.cons (h1.mono x1.le) (.cons hd1 .nil),rfl,fun env s' e1 e2 e3 F=>?_⟩;unfold fnD at hr_1;rw[if_pos (show[x,y].length=[d0,D.tup [d1]].length from rfl)] at hr_1
 cases e:ex (T.stm (Aam fd.scope.names) fd.scope) (ev T k fd.scope) (Aam fd.scope.names) fd.scope m ([x,y].zip [d0,D.tup [d1]]).reverse body with
 |none=>rw[e] at hr_1;exact Aah hr_1
 |some res=>
  rw[e] at hr_1;rw[← e1] at e F;have:=Acj O (K _ g1 x1.inv) (hA.deeper (env:=env)) m _ res body s' g1 e F;refine this.use fun f s1 g2 l1 en=>?_
  cases res with
  |ret d=>cases hr_1;refine Aew en fun v z1 x hd=>?_;subst z1;exact⟨g2,x1.trans x,hd⟩
  |next ρ'=>cases hr_1;refine AaG en fun z2 F1=>?_;subst z2;exact⟨g2,x1.trans F1.st,.none⟩
  |brk _=>exact Aah hr_1
  |cont _=>exact Aah hr_1
theorem Ack(O:B.Ok){A:Around}{s s':Shared}{g g1:Gh}{T:Tb}{env:Env}{own:List Str}{ρ:Rho}{k m:Nat}{body:List Stmt}{r:D}(K:Acw B n T s g)(hA:AOk n A)(F:Fm B s g own env ρ s' g1)
  (e:ex (T.stm own env.scope) (ev T k env.scope) own env.scope m ρ body=some (.ret r)) :
  wpAny B.M A (execs body env) (fun f s''=>∃ g',Aag B s g s'' g'∧Den g' (match f with|.ret v=>v|_=>.none) r) (fun _ _=>False) s':=by
 refine(Acj O K hA m ρ _ body s' g1 e F).use fun f s1 g2 l1 en=>?_;refine Aew en fun v z3 x hd=>?_;subst z3;exact⟨g2,x,hd⟩
end
end Mine
namespace Mine
open PySem PySem.W PyProof.Rows PySem.Calls PySem.W.X
section
variable{B:Bs}{A:Around}{s₀ s s':Shared}{g₀ g g':Gh}{own:List Str}{env:Env}{ρ:Rho}{n:Nat}
theorem AeP(F:Fm B s₀ g₀ own env ρ s g){scope:Scope}(hu:∀ x,(x,NameKind.free)∈scope.names→(x,NameKind.cell) ∉ scope.names∧scope.names.lookup x=some .free)
  (hf:∀ x,(x,NameKind.free)∈scope.names→env.kindOf x=some .cell∨env.kindOf x=some .free) :
  closureFor scope env=pure (clos env scope.names [])∧Ada s.heap g scope.names (clos env scope.names []) (Abt scope ρ):=by
 have cells:∀ n,(n,NameKind.free)∈scope.names→∃ c v,env.cells.lookup n=some c∧s.heap.IsCell c v∧∀ d,ρ.lookup n=some d→∃ v',v=some v'∧Den g v' d:=fun n hn=>F.cells n (hf n hn);have hcl:∀ x c,(clos env scope.names []).lookup x=some c→(x,NameKind.free)∈scope.names∧env.cells.lookup x=some c:=fun x c e=>by
  rcases Ad5 _ _ e with e|⟨e1,e2⟩
  ·exact Aah e
  ·refine Afx (cells x e1) fun c' v e3 _=>?_;rw[e3] at e2;exact⟨e1,by rw[e3];exact congrArg some e2.symm⟩
 have hcl':∀ x,(x,NameKind.free)∈scope.names→∃ c v,(clos env scope.names []).lookup x=some c∧s.heap.IsCell c v∧∀ d,ρ.lookup x=some d→∃ v',v=some v'∧Den g v' d:=fun x hx=>by
  refine Abo (Option.isSome_iff_exists.mp (AfC (env:=env) scope.names [] (.inl hx))) fun c e=>?_;refine AaG (hcl x c e) fun _ e2=>?_;refine Adp (cells x hx) fun c' v e3 e4 e5=>?_;rw[e2] at e3;cases e3;exact⟨c,v,e,e4,e5⟩
 refine⟨AfB fun n hn=>(cells n hn).imp fun c ⟨_,e,_⟩=>e,fun x e=>?_,fun x c e=>?_,fun x d e=>?_⟩
 ·refine Adp (hcl' x (PySem.mem_of_lookup e)) fun c v e1 e2 _=>?_;exact⟨c,v,e1,e2⟩
 ·refine AaG (hcl x c e) fun h1 h2=>?_;refine Adp (cells x h1) fun c' v e3 e4 _=>?_;rw[h2] at e3;cases e3;exact⟨v,e4⟩
 ·refine AaG (AcN scope ρ e) fun h1 h2=>?_;refine Adp (hcl' x (PySem.mem_of_lookup h1)) fun c v e1 e2 e3=>?_;refine Aaf (e3 d h2) fun v' q1 e4=>?_;subst q1;exact⟨(hu x (PySem.mem_of_lookup h1)).1,h1,c,v',e1,e2,e4⟩
theorem Ago.oth{a:Addr}{fd:FuncData}{params:Arguments}{body:FuncBody}{scope:Scope}{cl:List (Str×Addr)}(M:Ago s.heap g a fd params body scope cl)(F:Fm B s₀ g₀ own env ρ s g)(k:Oth env own s.heap s'.heap):Ago s'.heap g a fd params body scope cl:=by
 refine Alo M.code fun c' o' e1 e2 e3 e4=>?_;have e5:s'.heap.get? c'=some o':=by
  refine k c' o' ?_ e2;rw[e1] at e4;refine Avv e4 fun c₂ o₂ vs t f1 f2 f3 _=>?_
  cases f1;rw[e2] at f2;cases f2
  exact F.notLoc e2 (by intro v e;rw[f3] at e;injection e) (by intro _ _ e;rw[f3] at e;injection e)
 refine⟨M.obj,⟨c',o',e1,e5,e3,?_⟩,M.params,M.body,M.scope,M.glob,M.blt,M.clos,M.defs⟩;rw[e1] at e4 ⊢;exact AbG e4 e2 e5
noncomputable def AgR(scope sc:Scope):Bool:=scope.names.all fun p=>match p.2 with
 |.free=>scope.names.lookup p.1 == some .free && !(scope.names.contains (p.1,.cell)) && (sc.names.lookup p.1 == some .cell || sc.names.lookup p.1 == some .free)
 |_=>true
theorem Abj{scope sc:Scope}(h:AgR scope sc=true)(x:Str)(hx:(x,NameKind.free)∈scope.names):((x,NameKind.cell) ∉ scope.names∧scope.names.lookup x=some .free)∧(sc.names.lookup x=some .cell∨sc.names.lookup x=some .free):=by have:=List.all_eq_true.mp h _ hx;simp only[Bool.and_eq_true,Bool.or_eq_true,beq_iff_eq,Bool.not_eq_true',List.contains_eq_mem,decide_eq_false_iff_not] at this;exact⟨⟨this.1.2,this.1.1⟩,this.2⟩
theorem Fm.defStm(O:B.Ok)(hb:AvC B){names:Nat→Nat→Str}{tabs:List (Addr×Addr)}(TT:Aqv B names tabs)(F:Fm B s₀ g₀ own env ρ s g){c P:Addr}{name:Str}{args:Arguments}{body:List Stmt}{scope:Scope}{pos:Pos}{xs:List Arg}
  (hcode:env.code=.ref c) (hm:(c,P)∈tabs) (hn:names pos.line pos.col=qualnameIn env name name) (ha:args={posonlyargs:=[],args:=xs,vararg:=none,kwonlyargs:=[],kw_defaults:=[],kwarg:=none,defaults:=[]})
  (hx:∀ e,annotationsOf (xs++[]++[]++[]++[]) e=[]) (hf:AgR scope env.scope=true) (ht:okT own env.scope name=true) {Q:Flow→Shared→Prop} {E:Value→Shared→Prop}
  (hq:∀ a fd s' g',Adm env own s g s' g'→Fm B s₀ g₀ own env ((name,.val (.ref a)) :: ρ) s' g'→Ago s'.heap g' a fd args (.stmts body) scope (clos env scope.names [])→Q .next s') :
  wpAny B.M A (exec (.FunctionDef name args body [] none [] scope none name pos) env) Q E s:=by
 have hs:s=⟨s.heap,s.gens,s.drawn,s.toks,s.os⟩:=rfl;rw[hs];refine AqU ha hx ?_;refine AaG (AeP F (scope:=scope) (fun x hx=>(Abj hf x hx).1) (fun x hx=>(Abj hf x hx).2)) fun hcl _=>?_;refine Aqx O hb TT F.inv hcl F.glob hcode hm hn fun a fd s1 g1 x1 M1=>?_;have F1:=F.step x1;exact F1.store O (Abl ht) .val fun s2 F2 k2=>hq a fd s2 g1 (Adm.trans x1.lets (Oth.lets k2)) F2 (M1.oth F1 k2)
end
end Mine
namespace Mine
open PySem PySem.W PyProof.Rows PySem.Calls
section
variable{T:Tb}{n:Nat}{sc:Scope}{ρ:Rho}{e l r t o i v:Expr}{op:Operator}{p apos:Pos}{a b c d:D}{x f name:Str}
theorem r_0(hc:AhQ e=false)(h:AmB T (ev T n) sc ρ e=some d):ev T (n+1) sc ρ e=some d:=by show Ae4 T (ev T n) sc ρ e=some d;unfold Ae4;rw[hc];simp only[Bool.false_eq_true,if_false];exact h
theorem ADi(hc:T.spec sc ρ e=none)(h:AmB T (ev T n) sc ρ e=some d):ev T (n+1) sc ρ e=some d:=by
 show Ae4 T (ev T n) sc ρ e=some d;unfold Ae4;have:(if AhQ e=true then T.spec sc ρ e else none)=none:=by rw[hc];split<;>rfl
 rw[this];exact h
theorem Aac{k:Const}{m:Nat}(he:e=.Constant k m p)(h:Aqh k=some d):ev T (n+1) sc ρ e=some d:=by subst he;exact r_0 rfl h
theorem Aaa(he:e=.Name x p)(hok:AbB x=true)(h:ρ.lookup x=some d):ev T (n+1) sc ρ e=some d:=by subst he;exact r_0 rfl (ift hok (by rw[h]))
theorem Aw9{j:Int}{tk:Tok}(he:e=.Name x p)(hok:AbB x=true)(h:ρ.lookup x=none)(hk:sc.names.lookup x=some .globalImplicit)(hg:T.glob x=some (.int j tk)):ev T (n+1) sc ρ e=some (.int j):=by subst he;exact r_0 rfl (ift hok (by rw[h];exact ift hk (Aau hg rfl)))
noncomputable def Ary:Value→Bool
 |.int _ _=>false
 |_=>true
theorem AaK{gv:Value}(he:e=.Name x p)(hok:AbB x=true)(h:ρ.lookup x=none)(hk:sc.names.lookup x=some .globalImplicit)(hg:T.glob x=some gv)(hn:Ary gv=true):ev T (n+1) sc ρ e=some (.val gv):=by subst he;exact r_0 rfl (ift hok (by rw[h];exact ift hk (Aau hg (by cases gv<;>first|rfl|(simp [Ary] at hn)))))
theorem Abh(he:e=.BinOp l op r p)(h1:ev T n sc ρ l=some a)(h2:ev T n sc ρ r=some b)(h3:Amr op a b=some d):ev T (n+1) sc ρ e=some d:=by subst he;exact r_0 rfl (Aau h1 (Aau h2 h3))
theorem Arz{op:UnaryOp}(he:e=.UnaryOp op l p)(h1:ev T n sc ρ l=some a)(h3:unD op a=some d):ev T (n+1) sc ρ e=some d:=by subst he;exact r_0 rfl (Aau h1 h3)
theorem Ab8{op:CmpOp}{q:Bool}(he:e=.Compare l [op] [r] p)(hs:AcA r=true)(h1:ev T n sc ρ l=some a)(h2:ev T n sc ρ r=some b)(h3:Ams op a b=some q):ev T (n+1) sc ρ e=some (.bool q):=by subst he;exact r_0 rfl (Aau rfl (Aau rfl (ift hs (Aau h1 (Aau h2 (Aau h3 rfl))))))
theorem ArA(he:e=.IfExp t l r p)(h1:Abc (ev T n sc ρ) t=some true)(h2:ev T n sc ρ l=some d):ev T (n+1) sc ρ e=some d:=by subst he;exact r_0 rfl (Aau h1 h2)
theorem ArB(he:e=.IfExp t l r p)(h1:Abc (ev T n sc ρ) t=some false)(h2:ev T n sc ρ r=some d):ev T (n+1) sc ρ e=some d:=by subst he;exact r_0 rfl (Aau h1 h2)
theorem Adn{es:List Expr}{k:Nat}{ds:List D}(he:e=.Tuple es k p)(h:evL (ev T n sc ρ) es=some ds)(hl:ds.length≤1000000):ev T (n+1) sc ρ e=some (.tup ds):=by subst he;exact r_0 rfl (Aau h (ift hl rfl))
theorem ArC{es:List Expr}{ds:List D}(he:e=.List es p)(h:evL (ev T n sc ρ) es=some ds)(hl:ds.length≤1000000):ev T (n+1) sc ρ e=some (.list ds):=by subst he;exact r_0 rfl (Aau h (ift hl rfl))
theorem Aar{es:List Expr}{E:Expr→Option D}(he:es=[]):evL E es=some []:=by subst he;rfl
theorem Aao{es es':List Expr}{E:Expr→Option D}{ds:List D}(he:es=e :: es')(hn:AbL e=true)(h1:E e=some d)(h2:evL E es'=some ds):evL E es=some (d :: ds):=by subst he;exact ift hn (Aau h1 (Aau h2 rfl))
theorem AaH(he:e=.Subscript v i p)(hn:AhJ i=true)(h1:ev T n sc ρ v=some a)(h2:ev T n sc ρ i=some b)(h3:AdA a b=some d):ev T (n+1) sc ρ e=some d:=by subst he;exact r_0 rfl (Ay7 ((if_pos hn).trans (Aau h1 (Aau h2 h3))))
theorem Adj{lo hi st:Option Expr}{q:Pos}{i1 i2 i3:Option Int}(he:e=.Subscript v (.Slice lo hi st q) p)(h1:ev T n sc ρ v=some a)(h2:Akv (ev T n sc ρ) lo=some i1)(h3:Akv (ev T n sc ρ) hi=some i2)(h4:Akv (ev T n sc ρ) st=some i3)
  (h5:AcC a i1 i2 i3=some d):ev T (n+1) sc ρ e=some d:=by
 subst he;exact r_0 rfl (Ay7 (show Aqi (ev T n sc ρ) v (.Slice lo hi st q)=some d from Aau h1 (Aau h2 (Aau h3 (Aau h4 h5)))))
theorem Ab1{E:Expr→Option D}{oe:Option Expr}(he:oe=none):Akv E oe=some none:=by subst he;rfl
theorem AcI{E:Expr→Option D}{oe:Option Expr}{j:Int}(he:oe=some e)(h:E e=some (.int j)):Akv E oe=some (some j):=by subst he;exact congrArg (fun o=>match o with|some (D.int i)=>some (some i)|_=>none) h
theorem AaR{args:List Expr}{q:Pos}{fv:Value}{F:List D→Option D}{ds:List D}(he:e=.Call (.Name f q) args [] p)(hs:T.spec sc ρ e=none)(h1:ev T n sc ρ (.Name f q)=some (.val fv))(h2:T.app fv=some F)(h3:evL (ev T n sc ρ) args=some ds)(h4:F ds=some d):ev T (n+1) sc ρ e=some d:=by refine ADi hs ?_;subst he;exact Aau h1 (Aau rfl (Aau h2 (Aau h3 h4)))
theorem ArD{b:Bool}{α:Type}{x:Option α}{r:α}(h:cond b x none=some r):b=true∧x=some r:=by
 cases b with
 |true=>exact⟨rfl,h⟩
 |false=>cases h
noncomputable def nmE(T:Tb)(sc:Scope)(ρ:Rho)(e:Expr):Option D:=cond (AdE e) (Awn T sc ρ (ep e).x) none
theorem Aa6(h:nmE T sc ρ e=some d):ev T (n+1) sc ρ e=some d:=by refine AaG (ArD h) fun h1 h2=>?_;rw[AgX h1];exact r_0 rfl h2
noncomputable def csE:List Expr→Option (Expr×List Expr)
 |[]=>none
 |e :: es=>cond (AbL e) (some (e,es)) none
theorem AbP{es es':List Expr}{E:Expr→Option D}{ds:List D}(h:csE es=some (e,es'))(h1:E e=some d)(h2:evL E es'=some ds):evL E es=some (d :: ds):=by
 cases es with
 |nil=>cases h
 |cons y ys=>
  refine AaG (ArD h) fun hn h=>?_
  cases h
  exact Aao rfl hn h1 h2
theorem Az3(h:Nat.beq (AjY e) 11=true):e=.Call (ep e).a (ep e).l (ep e).k (ep e).p:=by
 revert h;induction e using Expr.casesOn<;>first|exact fun _=>rfl|exact Bool.noConfusion
noncomputable def fnG(T:Tb)(sc:Scope)(ρ:Rho)(f:Str):Option (List D→Option D):=cond (AbB f && ((ρ.lookup f).isNone && decide (sc.names.lookup f=some .globalImplicit))) ((T.glob f).bind fun v=>cond (Ary v) (T.app v) none) none
theorem Az4{f:Str}{F:List D→Option D}(h:fnG T sc ρ f=some F):∃ fv,(∀ q:Pos,ev T (n+1) sc ρ (.Name f q)=some (.val fv))∧T.app fv=some F:=by refine AaG (ArD h) fun h1 h2=>?_;refine Aaf (Aak h2) fun v e1 e2=>?_;refine AaG (ArD e2) fun e3 e4=>?_;rw[Bool.and_eq_true_iff,Bool.and_eq_true_iff] at h1;exact⟨v,fun q=>AaK rfl h1.1 (Option.isNone_iff_eq_none.mp h1.2.1) (of_decide_eq_true h1.2.2) e1 e3,e4⟩
noncomputable def cgE(T:Tb)(sc:Scope)(ρ:Rho)(e:Expr):Option ((List D→Option D)×List Expr):=
 cond (Nat.beq (AjY e) 11 && (AdE (ep e).a && ((ep e).k.isEmpty && (T.spec sc ρ e).isNone))) ((fnG T sc ρ (ep (ep e).a).x).bind fun F=>some (F,(ep e).l)) none
theorem AjQ{args:List Expr}{F:List D→Option D}{ds:List D}(h:cgE T sc ρ e=some (F,args))(h3:evL (ev T (n+1) sc ρ) args=some ds)(h4:F ds=some d):ev T (n+2) sc ρ e=some d:=by
 refine AaG (ArD h) fun h1 h2=>?_;rw[Bool.and_eq_true_iff,Bool.and_eq_true_iff,Bool.and_eq_true_iff] at h1;refine Aaf (Aak h2) fun F' e1 e2=>?_
 cases e2
 refine Aaf (Az4 (n:=n) e1) fun v e3 e4=>?_;have q:=Az3 h1.1;rw[AgX h1.2.1,List.isEmpty_iff.mp h1.2.2.1] at q;exact AaR q (Option.isNone_iff_eq_none.mp h1.2.2.2) (e3 _) e4 h3 h4
theorem AvQ(hc:AhQ e=true)(hs:T.spec sc ρ e=some d):ev T (n+1) sc ρ e=some d:=by show Ae4 T (ev T n) sc ρ e=some d;unfold Ae4;rw[if_pos hc,hs]
theorem AdS{args:List Expr}{F:List D→Option D}{ds:List D}{ty id:String}(he:e=.Call (.Attribute o name apos) args [] p)(hs:T.spec sc ρ e=none)(hc:Akn o=true∧(apos.endLine == p.line)=true∧args.length<29)(h1:ev T n sc ρ o=some a)(ht:tyD a=some ty)(hm:T.meth ty name=some id)
  (h2:T.app (.builtin id)=some F) (h3:evL (ev T n sc ρ) args=some ds) (h4:F (a :: ds)=some d):ev T (n+1) sc ρ e=some d:=by
 refine ADi hs ?_;subst he;exact ift hc (Aau h1 (Aau ht (Aau hm (Aau h2 (Aau h3 h4)))))
theorem AaM{E:Expr→Option D}{q:Bool}(h1:E e=some d)(h2:Acb d=some q):Abc E e=some q:=AfD h1 h2
theorem ArE(i j:Int):eqD (.int i) (.int j)=some (decide (i=j)):=by exact Aau rfl (Aau rfl (ift ⟨by rfl,by rfl,by simp [PyData.depth]⟩ rfl))
theorem ArF{i j:Int}(h:i=j):Ams .Eq (.int i) (.int j)=some true:=by unfold Ams;rw[ArE,decide_eq_true h]
theorem AlY{i j:Int}(h:i≠j):Ams .Eq (.int i) (.int j)=some false:=by unfold Ams;rw[ArE,decide_eq_false h]
theorem ArG{i j:Int}(h:i<j):Ams .Lt (.int i) (.int j)=some true:=congrArg some (decide_eq_true h)
theorem AlZ{i j:Int}(h:¬ i<j):Ams .Lt (.int i) (.int j)=some false:=congrArg some (decide_eq_false h)
theorem Az5{i j:Int}(h:j<i):Ams .Gt (.int i) (.int j)=some true:=congrArg some (decide_eq_true h)
theorem Az6{i j:Int}(h:¬ j<i):Ams .Gt (.int i) (.int j)=some false:=congrArg some (decide_eq_false h)
theorem Az7{i j:Int}(h:i≤j):Ams .LtE (.int i) (.int j)=some true:=congrArg some (decide_eq_true h)
theorem Ak4{i j:Int}(h:0≤j):Amr .RShift (.int i) (.int j)=some (.int (i.fdiv (2 ^ j.toNat))):=if_pos h
theorem Ak5{i j:Int}(h:0≤j∧j≤1000000∧i.natAbs<2 ^ 64):Amr .LShift (.int i) (.int j)=some (.int (i*2 ^ j.toNat)):=if_pos h
theorem Al0{i j:Int}(h:i.natAbs<2 ^ 64∧j.natAbs<2 ^ 64):Amr .Mult (.int i) (.int j)=some (.int (i*j)):=if_pos h
theorem Ag9{i j:Int}(h:j≠0∧j.natAbs<1073741824):Amr .FloorDiv (.int i) (.int j)=some (.int (i.fdiv j)):=if_pos h
theorem Al1{i j:Int}(h:j≠0):Amr .Mod (.int i) (.int j)=some (.int (i.fmod j)):=if_pos h
theorem ArH{l:List D}{j:Int}(h0:0≤j)(hs:l.length≤1000000)(h:l[j.toNat]?=some d):AdA (.list l) (.int j)=some d:=by refine(if_pos ⟨Int.le_trans (Int.neg_nonpos_of_nonneg (Int.natCast_nonneg _)) h0,hs⟩).trans ?_;unfold Awl;rw[if_neg (Int.not_lt.mpr h0)];exact h
end
section
variable{X:Rho→Stmt→Option Res}{E:Rho→Expr→Option D}{own:List Str}{sc:Scope}{m:Nat}{ρ ρ':Rho}{body rest b1 b2:List Stmt}{st:Stmt}{e t:Expr}{p q:Pos}{d:D}{r:Res}{x:Str}
theorem AnT{r1:Res}(hb:body=st :: rest)(hx:X ρ st=none)(h:AnC E own sc m (ex X E own sc m) ρ st=some r1)(hr:ADe (fun ρ'=>ex X E own sc m ρ' rest) r1=some r):ex X E own sc (m+1) ρ body=some r:=by subst hb;show(orR (X ρ st) _).bind _=_;rw[hx];exact Aau h hr
theorem Ach(hb:body=[]):ex X E own sc (m+1) ρ body=some (.next ρ):=by subst hb;rfl
theorem AcU(hb:body=.Return (some e) p :: rest)(hx:X ρ (.Return (some e) p)=none)(h:E ρ e=some d):ex X E own sc (m+1) ρ body=some (.ret d):=by exact AnT hb hx (Aau h rfl) rfl
theorem Ado(hb:body=.Assign [.Name x q] e p :: rest)(hx:X ρ (.Assign [.Name x q] e p)=none)(hc:AgW e=false∨ABT e=true)(h:E ρ e=some d)(ht:okT own sc x=true)(h2:ex X E own sc m ((x,d) :: ρ) rest=some r):ex X E own sc (m+1) ρ body=some r:=by exact AnT hb hx (Aau h (ift (.inl ⟨rfl,hc⟩) (Aau (if_pos ht) rfl))) h2
theorem Al2(hb:body=.If t b1 b2 p :: rest)(hx:X ρ (.If t b1 b2 p)=none)(h:Abc (E ρ) t=some true)(h2:ex X E own sc m ρ b1=some (.ret d)):ex X E own sc (m+1) ρ body=some (.ret d):=by exact AnT hb hx (Aau h h2) rfl
theorem ArI(hb:body=.If t b1 b2 p :: rest)(hx:X ρ (.If t b1 b2 p)=none)(h:Abc (E ρ) t=some true)(h2:ex X E own sc m ρ b1=some (.next ρ'))(h3:ex X E own sc m ρ' rest=some r):ex X E own sc (m+1) ρ body=some r:=by exact AnT hb hx (Aau h h2) h3
theorem Adw(hb:body=.If t b1 b2 p :: rest)(hx:X ρ (.If t b1 b2 p)=none)(h:Abc (E ρ) t=some false)(h2:ex X E own sc m ρ b2=some (.next ρ'))(h3:ex X E own sc m ρ' rest=some r):ex X E own sc (m+1) ρ body=some r:=by exact AnT hb hx (Aau h h2) h3
theorem AeQ(hb:body=.If t b1 b2 p :: rest)(hx:X ρ (.If t b1 b2 p)=none)(h:Abc (E ρ) t=some false)(h2:ex X E own sc m ρ b2=some (.ret d)):ex X E own sc (m+1) ρ body=some (.ret d):=by exact AnT hb hx (Aau h h2) rfl
theorem At9{es:List Expr}{k:Nat}{ds:List D}(hb:body=.Assign [.Tuple es k q] e p :: rest)(hx:X ρ (.Assign [.Tuple es k q] e p)=none)(hc:AgW e=false∧Awi e=false)(h:E ρ e=some (.tup ds))(ht:Aj1 own sc es ds ρ=some ρ')(h2:ex X E own sc m ρ' rest=some r):ex X E own sc (m+1) ρ body=some r:=by exact AnT hb hx (Aau h (ift (.inr (.inl ⟨rfl,hc⟩)) (Aau ht rfl))) h2
theorem Az8{es:List Expr}{k:Nat}{ds:List D}(hb:body=.Assign [.Tuple es k q] e p :: rest)(hx:X ρ (.Assign [.Tuple es k q] e p)=none)(hc:Awu sc (.Tuple es k q) e=true)(h:E ρ e=some (.tup ds))(ht:Aj1 own sc es ds ρ=some ρ')(h2:ex X E own sc m ρ' rest=some r):ex X E own sc (m+1) ρ body=some r:=by exact AnT hb hx (Aau h (ift (.inr (.inr hc)) (Aau ht rfl))) h2
end
end Mine
namespace Mine
open PySem PySem.W PyProof.Rows PySem.W.X
noncomputable def ADj(P:Prop):Prop:=P
theorem Az9{P:Prop}(h:ADj P):P:=h
structure AAa(B:Bs):Prop where
 bc:B.mb "__build_class__"=some (.builtin "__build_class__")
 obj:B.look "object"=some (.type "object")
 nm:∃ m,B.mg "__name__"=some m
 sys:∃ o,B.G.get? sysModules=some o
 st:∃ mc,B.G.Ns cStatics mc∧mc "thirdparty.any"=none
section
variable{B:Bs}{A:Around}{names:Nat→Nat→Str}{tabs:List (Addr×Addr)}{s₀ s s':Shared}{g₀ g g':Gh}{N:Addr}{es es':List DictEntry}{n n':Nat}{R R':List (Addr×Addr)}
theorem ArJ(O:B.Ok)(hb:AvC B)(TT:Aqv B names tabs)(hc:AAa B)(I:Inv B s g){env:Env}{c P cm:Addr}{pos:Pos}(hcode:env.code=.ref c)(hm:(c,P)∈tabs)(hge:env.globals=mainGlobals)(hbe:env.builtins=builtinsNs)
  (hcl:closureFor AfI env=pure [(("mycmp":Str),cm)]) (hkn:names pos.line pos.col = "cmp_to_key.<locals>.K") {m:Value} (hnm:B.mg "__name__"=some m) (hdepth:A.depth<recursionLimit)
  (hn:∀ (i:Nat) (x:Str),(i,x)∈[(2,("__init__":Str)),(3,"__lt__"),(4,"__gt__"),(5,"__eq__"),(6,"__le__"),(7,"__ge__")]→names (Ajr i).line (Ajr i).col = "cmp_to_key.<locals>.K."++x)
  {mc:Str→Option Value} (hmc:B.G.Ns cStatics mc) (hno:mc "thirdparty.any"=none)
  {Q:Value→Shared→Prop} {E:Value→Shared→Prop} (hq:∀ aC s' g',Aag B s g s' g'→IsK B.w s.heap s' g' cm aC→Q (.ref aC) s') :
  wpAny B.M A (buildClass "K" "cmp_to_key.<locals>.K" [.type "object"] [] (Aae kSt) AfI ["obj"] pos.line env pos none) Q E s:=by
 have k1:(AfI.names.lookup ("__class__":Str) == some NameKind.cell)=false:=by kernel_rfl!
 have k2:(AfI.names.lookup ("__classdict__":Str) == some NameKind.cell)=false:=by kernel_rfl!
 unfold buildClass;refine wpAny_bind (wpAny_newTuple ?_ (Nat.le_of_ble_eq_true rfl));have x1:=Aag.alloc (o:={cls:=.type "tuple",data:=.seq [Value.type "object"].toArray}) O I rfl (Aap rfl);have hb1:=Gh.put_self g s.heap.objs.size {cls:=.type "tuple",data:=.seq [Value.type "object"].toArray};generalize hs1:({s with heap:=s.heap.push {cls:=.type "tuple",data:=.seq [Value.type "object"].toArray}}:Shared)=s1 at x1;generalize hg1:g.put s.heap.objs.size {cls:=.type "tuple",data:=.seq [Value.type "object"].toArray}=g1 at x1 hb1;generalize s.heap.objs.size=b at hb1
 obtain⟨h,gg,d,t,os⟩:=s1
 repeat (first
  |with_reducible (first|refine Ab3 AlG ?_|refine Ab3 AnM ?_|refine Ab3 AqW ?_)
  |(with_reducible refine Aq0 _ _ _ _ _ _ _ _ _ (fun p h1 t1 D1=>?_))
  |((with_reducible show wpAny _ _ (call (.ref _) [.str _ _,.ref _] _) _ _ _);refine wpAny_mono (AqZ B.prog B.w _ h1 gg d _ os _ _ _ (D1.at 0 _ _ rfl)) (fun v s' hv=>?_) (fun _ _ hv=>hv.elim);rcases hv with @⟨N,h2,t2,D2⟩;
       have x2:=x1.trans ((Aag.mem O x1.inv D1 (t':=t1)).trans (Aag.mem O (Aag.mem O x1.inv D1 (t':=t1)).inv D2 (t':=t2)));
       have y1:=x1.trans (Aag.mem O x1.inv D1 (t':=t1));
       have y2:=Aag.mem O (Aag.mem O x1.inv D1 (t':=t1)).inv D2 (t':=t2);
       have hN2:=D2.at 0 _ _ rfl;
       have hNn:h1.get? N=none:=(D2.nw _ (.head _)).2;
       have hT:(⟨h2,gg,d,t2,os⟩:Shared).TypeIs (.ref N) "dict":=⟨_,hN2,rfl⟩;
       have hlk:=Agq;
       have hsm:(N == sysModules)=false:=(by
         refine Abo hc.sys fun o ho=>?_;have:=Abe D1 _ _ (x1.inv.real _ _ (x1.inv.base _ _ ho));exact beq_eq_false_iff_ne.mpr fun e=>by subst e;rw[hNn] at this;exact Aah this))
  |((with_reducible show wpAny _ _ (classCode _ _ _ _ _ _) _ _ _);refine Aaf ((TT _).mp x2.inv.tb) fun R2 hR2 X2=>?_;refine Ajs TT x2.inv hR2 X2 hcode (hR2 _ hm) hkn (fun cK PK oK s3 R3 x3 X3 hR3 hmK f1 f2 f3=>?_);refine Az9 ?_)
  |(with_reducible apply wpAny_ite_false;focus (first|exact hsm|exact k1|exact k2))
  |wp_step)
 unfold ADj;have x3':=x2.trans x3;have hg3:=x3'.inv.ns O.g;refine AC0 hb fun bm ob b1 b2 b3 b4 b5 b6=>?_;rw[hge,hbe];refine wpAny_bind (wpAny_builtinsFor hg3 b1 b2 (x3'.inv.real _ _ (x3'.inv.base _ _ b3)) b4 b5 b6 ?_);unfold newBodyFrame;refine wpAny_bind (wpAny_bind (wpAny_nsGet hg3 (wpAny_alloc ?_)));rw[hcl];refine wpAny_bind (wpAny_pure ?_);refine wpAny_holding ?_;have hgN:g1 N=none:=by
  cases e:g1 N with
  |none=>rfl
  |some o=>have:=y1.inv.real _ _ e;rw[hNn] at this;exact Aah this
 have x4:=fun o=>Aag.open (o:=o) O x3.inv;have C4:=fun o=>CB.mk (s₀:=⟨h1,gg,d,t1,os⟩) (g₀:=g1) (N:=N) (tabs:=tabs) (y2.trans (x3.trans (x4 o))) (fun q hq=>hR3 q (hR2 q hq)) (X3.keeps fun a o' e _=>Heap.get?_push_of_some _ e) ((x3.trans (x4 o)).ext.keep _ _ hN2 Aj9) ⟨hNn,hgN⟩;have hlim:∀ o,(⟨s3.heap.push o,s3.gens,s3.drawn,s3.toks,s3.os⟩:Shared).heap.NoLimit:=fun o=>by
  refine Aaf O.lim fun mc hmc hno=>?_;exact⟨mc,(C4 o).st.inv.ns hmc,hno⟩
 refine wpAny_bind (wpAny_enterFrame (hlim _) hdepth ?_);rw[kq];refine wpAny_bind (wpAny_onRaise ?_);refine Ats O (C4 _) hnm pos.line (fun t0 t1 t2 u0 u1 u2 s5 C5 q5=>?_);refine wpAny_bind (wpAny_run (codeAny_body ACf ACg (Atp O ⟨bm,ob,b1,b2,b3,b4,b5,b6⟩ TT C5 hmK hn fun u0 v0 t3 sl t4 f0 t5 f1 t6 f2 t7 f3 t8 f4 t9 f5 t10 s6 g6 R6 C6 q6 hsl k0 k1 k2 k3 k4 k5=>?_)) (by intro x;exact Aah x));refine wpAny_bind (wpAny_onRaise ?_);refine Att O C6 fun st v1 t11 s7 g7 C7 q7 hst=>?_
 first
  |refine wpAny_ite_false rfl ?_
  |(apply wpAny_ite_false;focus rfl)
  |skip
 refine wpAny_bind (Atu O C7 (q7.1 _ _ (q6.1 _ _ (x3.le _ _ hb1))) (q7.1 _ _ hsl) hst (k0.keepN C6.ns q7) (k1.keepN C6.ns q7) (k2.keepN C6.ns q7) (k3.keepN C6.ns q7) (k4.keepN C6.ns q7) (k5.keepN C6.ns q7) hsm hmc hno fun aC s8 x8 k=>?_)
 first
  |exact wpAny_pure (hq _ _ _ ((y1.trans C7.st).trans x8) (k.old (y1.trans C7.st).ext))
  |fail
end
noncomputable def Ak6(p:Params)(x:Str):Option Value:=match nsIn (hpL p) mainGlobals x with
 |some (some v)=>some v
 |some none=>if x == "__name__" then none else bootBuiltins x
 |none=>none
noncomputable def Aua:List (Str×Value):=[("len",.builtin "len"),("range",.type "range"),("sum",.builtin "sum"),("divmod",.builtin "divmod"),("iter",.builtin "iter"),("all",.builtin "all"),("min",.builtin "min"),("max",.builtin "max"),("sorted",.builtin "sorted"),
 ("type",.type "type"),("isinstance",.builtin "isinstance"),("issubclass",.builtin "issubclass"),("str",.type "str"),("bytes",.type "bytes"),("tuple",.type "tuple"),("map",.type "map"),("enumerate",.type "enumerate"),("reversed",.type "reversed"),("object",.type "object"),
 ("ZeroDivisionError",.type "ZeroDivisionError"),
 ("_div2n1n",.ref AcF),("_int2digits",.ref Adb),("_digits2int",.ref AdB),("_divmod_pos",.ref Ad8),("int_divmod",.ref AcQ),("cmp_to_key",.ref AdC),("reduce",.ref AbO),("fspath",.ref Aeb),("_get_sep",.ref Aer),("join",.ref AeJ),("split",.ref AeK),("commonpath",.ref AeL)]
theorem Am8(p:Params):Aua.all (fun q=>Ak6 p q.1 == some q.2)=true:=by kernel_rfl!
structure LW(B:Bs):Prop where
 O:B.Ok
 bm:AvC B
 TT:Aqv B Ae6 tabsL
 G:GOk (hpL B.w.params) tabA B
 gl:∀ x v,Ak6 B.w.params x=some v→B.look x=some v
 cls:AAa B
theorem Abm{B:Bs}(W:LW B)(x:Str)(v:Value)(h:Aua.lookup x=some v):B.look x=some v:=by refine W.gl x v ?_;have:=List.all_eq_true.mp (Am8 B.w.params) _ (PySem.mem_of_lookup h);exact eq_of_beq this
noncomputable def mkT(app:Value→Option (List D→Option D))(meth:String→Str→Option String):Tb:=⟨fun x=>Aua.lookup x,app,meth,fun _ _ _=>none,fun _ _ _ _=>none⟩
noncomputable def AAb:List (String×Str×String):=[("str","startswith","str.startswith"),("str","endswith","str.endswith"),("str","rfind","str.rfind"),("str","rstrip","str.rstrip"),("str","strip","str.strip"),("str","split","str.split"),("str","join","str.join"),("int","bit_length","int.bit_length")]
noncomputable def Abx(ty:String)(x:Str):Option String:=(AAb.find? fun p=>p.1 == ty && p.2.1 == x).map (·.2.2)
theorem Aub:∀ p∈AAb,PlainAttrs p.1∧Slot p.1 p.2.1 p.2.2∧typeOf (.builtin p.2.2)=pure (.type "method_descriptor"):=
 List.forall_mem_cons.mpr ⟨⟨F.plainAttrs_str,F.slot_str_startswith,F.type_str_startswith⟩,List.forall_mem_cons.mpr ⟨⟨F.plainAttrs_str,F.slot_str_endswith,F.type_str_endswith⟩,List.forall_mem_cons.mpr ⟨⟨F.plainAttrs_str,F.slot_str_rfind,F.type_str_rfind⟩,List.forall_mem_cons.mpr ⟨⟨F.plainAttrs_str,F.slot_str_rstrip,F.type_str_rstrip⟩,List.forall_mem_cons.mpr ⟨⟨F.plainAttrs_str,F.slot_str_strip,F.type_str_strip⟩,List.forall_mem_cons.mpr ⟨⟨F.plainAttrs_str,F.slot_str_split,F.type_str_split⟩,List.forall_mem_cons.mpr ⟨⟨F.plainAttrs_str,F.slot_str_join,F.type_str_join⟩,List.forall_mem_cons.mpr ⟨⟨F.plainAttrs_int,F.slot_int_bit_length,F.type_int_bit_length⟩,fun _ h=>nomatch h⟩⟩⟩⟩⟩⟩⟩⟩
theorem AeR(ty:String)(nm:Str)(id:String)(h:Abx ty nm=some id):PlainAttrs ty∧Slot ty nm id∧typeOf (.builtin id)=pure (.type "method_descriptor"):=by refine Aaf (Option.map_eq_some_iff.mp h) fun p hp he=>?_;have hq:=List.find?_some hp;have hb:=Bool.and_eq_true_iff.mp (show(p.1 == ty && p.2.1 == nm)=true from hq);have hm:=Aub p (List.mem_of_find?_eq_some hp);rw[eq_of_beq hb.1,eq_of_beq hb.2,he] at hm;exact hm
theorem Aka{B:Bs}(W:LW B){n:Nat}{app:Value→Option (List D→Option D)}{s:Shared}{g:Gh}(h:∀ v F,app v=some F→Amx B n s g v F):Acw B n (mkT app Abx) s g where
 glob:=Abm W
 app:=h
 spec:=fun _ _ _ _ _ _ _ _ _ e=>by exact Aah e
 stm:=fun _ _ _ _ _ _ _ _ _ _ _ _ e=>by exact Aah e
 meth:=AeR
theorem AbF{B:Bs}(W:LW B){n:Nat}{app:Value→Option (List D→Option D)}(h:∀ v F,app v=some F→AbC B n v F)(s:Shared)(g:Gh)(I:Inv B s g):Acw B n (mkT app Abx) s g:=Aka W fun v F e=>(h v F e).at I
theorem al{α:Type}{P:α→Prop}{a:α}{l:List α}(h:P a)(t:∀ x∈l,P x):∀ x∈a :: l,P x:=List.forall_mem_cons.2 ⟨h,t⟩
theorem an{α:Type}{P:α→Prop}:∀ x∈([]:List α),P x:=fun _ h=>absurd h List.not_mem_nil
noncomputable def Abg(n:Nat):List Int→Int
 |[]=>0
 |x :: xs=>x+2 ^ n*Abg n xs
theorem ADH{L R M:Int}(hM:(L+R) / 2=M):2*M≤L+R∧L+R<2*M+2:=hM ▸ ⟨Int.mul_ediv_self_le (by decide),Int.lt_mul_ediv_self_add (by decide)⟩
theorem Al3{L R M N P:Int}(h0:0≤L)(h:L<R)(hc:¬ L+1=R)(hM:(L+R) / 2=M)(hR:R≤N)(hP:R - L≤2*P) :
  L<M∧M<R∧0≤M∧M≤N∧0≤M - L∧M - L≤N∧M - L≤P∧R - M≤P:=by
 refine AaG (ADH hM) fun a b=>?_;have c:L+1<R:=Int.lt_iff_le_and_ne.mpr ⟨h,hc⟩;have m1:L<M:=by omega
 have m2:M<R:=by omega
 exact⟨m1,m2,Int.le_trans h0 (Int.le_of_lt m1),Int.le_trans (Int.le_of_lt m2) hR,Int.sub_nonneg_of_le (Int.le_of_lt m1),Int.le_trans (Int.sub_le_self M h0) (Int.le_trans (Int.le_of_lt m2) hR),by omega,by omega⟩
theorem ADI{x:Int}{n:Nat}(h0:0≤x)(h:x≤n):x.natAbs≤n:=by omega
theorem nab{x:Int}{n:Nat}(h0:0≤x)(h:x≤n)(hn:n≤1000):x.natAbs<2 ^ 64:=
 Nat.lt_of_le_of_lt (ADI h0 h) (Nat.lt_of_le_of_lt hn (by decide))
theorem Axa{x:Int}(h0:0≤x)(h:x<2 ^ 60):x.natAbs<2 ^ 64:=by
 have p:(2:Int) ^ 60=1152921504606846976:=by decide
 have q:(2:Nat) ^ 64=18446744073709551616:=by decide
 omega
theorem tn1{L M R:Int}(h1:L≤M)(h2:M≤R):(R - L).toNat=(M - L).toNat+(R - M).toNat:=by rw[← Int.toNat_add (Int.sub_nonneg_of_le h1) (Int.sub_nonneg_of_le h2)];exact congrArg Int.toNat (by omega)
theorem tn2{L M:Int}(h0:0≤L)(h:L≤M):M.toNat=L.toNat+(M - L).toNat:=by rw[← Int.toNat_add h0 (Int.sub_nonneg_of_le h)];exact congrArg Int.toNat (by omega)
theorem tn3{L M R:Int}{n:Nat}(h0:0≤L)(h1:L≤M)(h2:M≤R)(h3:R≤n):min (M - L).toNat (n - L.toNat)=(M - L).toNat:=by refine Nat.min_eq_left (Nat.le_sub_of_add_le ?_);rw[Nat.add_comm,← tn2 h0 h1];exact Int.toNat_le.mpr (Int.le_trans h2 h3)
theorem Aeg(n:Nat):∀ (xs ys:List Int),Abg n (xs++ys)=Abg n xs+2 ^ (n*xs.length)*Abg n ys
 |[],ys=>by simp [Abg]
 |x :: xs,ys=>by
  have e:n*(x :: xs).length=n+n*xs.length:=by rw[List.length_cons,Nat.mul_succ,Nat.add_comm]
  rw[List.cons_append,Abg,Aeg n xs ys,Abg,e,Int.pow_add,Int.mul_add,← Int.mul_assoc];exact(Int.add_assoc ..).symm
theorem Aha(n:Nat):∀ (xs:List Int),(∀ x∈xs,0≤x∧x<2 ^ n)→0≤Abg n xs∧Abg n xs<2 ^ (n*xs.length)
 |[],_=>by simp [Abg]
 |x :: xs,h=>by
  refine AaG (h x (.head _)) fun h1 h2=>?_;refine AaG (Aha n xs fun y hy=>h y (.tail _ hy)) fun h3 h4=>?_;have e:n*(x :: xs).length=n+n*xs.length:=by rw[List.length_cons,Nat.mul_succ,Nat.add_comm]
  have hp:(0:Int)<2 ^ n:=Int.pow_pos (by decide);rw[Abg,e,Int.pow_add];refine⟨Int.add_nonneg h1 (Int.mul_nonneg (Int.le_of_lt hp) h3),?_⟩;have:(2:Int) ^ n*(Abg n xs+1)≤2 ^ n*2 ^ (n*xs.length):=Int.mul_le_mul_of_nonneg_left (Int.add_one_le_of_lt h4) (Int.le_of_lt hp);rw[Int.mul_add,Int.mul_one] at this;rw[Int.add_comm x];exact Int.lt_of_lt_of_le (Int.add_lt_add_left h2 _) this
noncomputable def dSt:Stmt:=(Aw2[0]?).getD AbZ
noncomputable def AvR:Stmt:=(Aw2[1]?).getD AbZ
noncomputable def dSc:Scope:=Aad dSt
noncomputable def Axb:List Stmt:=Aae dSt
noncomputable def ApJ:Arguments:=Aqd dSt
theorem Auc:Aw2=[dSt,AvR]:=by kernel_rfl!
theorem AAc:dSt=.FunctionDef "inner" ApJ Axb [] none [] dSc none "inner" (Abp dSt):=by kernel_rfl!
theorem Aud:ApJ={posonlyargs:=[],args:=ApJ.args,vararg:=none,kwonlyargs:=[],kw_defaults:=[],kwarg:=none,defaults:=[]}:=by kernel_rfl!
theorem Axc(e:Env):annotationsOf (ApJ.args++[]++[]++[]++[]) e=[]:=by kernel_rfl!
theorem Ak7:AgR dSc Aw3=true:=by kernel_rfl!
theorem Axd:okT (Aam Aw3.names) Aw3 "inner"=true:=by kernel_rfl!
theorem Akb:∀ (fd:FuncData) (a b:Value),fd.params=ApJ→fd.defaults=.none→fd.kwdefaults=.none→bindArgs fd ⟨[a,b],[]⟩=pure [(("L":Str),a),("R",b)]:=by
 intro q1;obtain⟨nm,qn,pr,bd,sc,gl,cl,df,kd,dc,pm,an,cd,ct,bt⟩:=q1;intro a b h1 h2 h3;simp only at h1 h2 h3;subst h1 h2 h3
 kernel_rfl!
theorem ArK:AeI dSc ["L","R"]=true:=by kernel_rfl!
theorem ArL(v a b:D):Abt dSc [(("inner":Str),v),(("n":Str),b),(("digits":Str),a)]=[(("inner":Str),v),(("n":Str),b),(("digits":Str),a)]:=by kernel_rfl!
theorem Axe:okT (Aam dSc.names) dSc "mid"=true:=by kernel_rfl!
theorem Axf:okT (Aam dSc.names) dSc "shift"=true:=by kernel_rfl!
noncomputable def AAd(xs:List Int)(nn d:Nat):List D→Option D:=fn2 fun x y=>Aci x fun l=>Aci y fun r=>
 if 0≤l∧l<r∧r≤xs.length∧r - l≤2 ^ d then some (.int (Abg nn ((xs.drop l.toNat).take (r - l).toNat))) else none
noncomputable def ADJ(a:Addr)(l:List D)(nn:Nat)(L R:Int):Rho:=[(("R":Str),.int R),(("L":Str),.int L),(("inner":Str),.val (.ref a)),(("n":Str),.int nn),(("digits":Str),.list l)]
theorem AvS{xs:List Int}{l:List D}(h:l=xs.map D.int){i:Nat}(hi:i<xs.length):l[i]?=some (.int xs[i]):=by subst h;simp [hi]
theorem AnU{a:Addr}{xs:List Int}{l:List D}{nn d:Nat}(hl:l=xs.map D.int)(hb:∀ x∈xs,0≤x∧x<2 ^ nn)(hsz:nn*xs.length≤60)(hlen:xs.length≤1000)(hnn:nn≤1000){F:List D→Option D}(hF:d≠0→F=AAd xs nn (d - 1)){L R:Int}
  (h:0≤L∧L<R∧R≤xs.length∧R - L≤2 ^ d) :
  ex ((mkT (AnR a F) Abx).stm (Aam dSc.names) dSc) (ev (mkT (AnR a F) Abx) 8 dSc) (Aam dSc.names) dSc 8 (ADJ a l nn L R) Axb=some (.ret (.int (Abg nn ((xs.drop L.toNat).take (R - L).toNat)))):=by
 refine Aoa h fun h1 h2 h3 h4=>?_;have hll:l.length=xs.length:=by rw[hl];simp
 by_cases hc:L+1=R
 ·have e1:(R - L).toNat=1:=by rw[← hc,Int.add_comm,Int.add_sub_cancel];rfl
  have hi:L.toNat<xs.length:=(Int.toNat_lt h1).mpr (Int.lt_of_lt_of_le h2 h3);have e2:Abg nn ((xs.drop L.toNat).take (R - L).toNat)=xs[L.toNat]:=by rw[e1,List.drop_eq_getElem_cons hi];show xs[L.toNat]+2 ^ nn*0=_;rw[Int.mul_zero,Int.add_zero]
  rw[e2];refine Al2 rfl rfl ?_ ?_
  ·repeat (first
    |exact Aac rfl rfl
    |exact Aa6 rfl
    |apply AaM
    |apply Abh rfl
    |apply Ab8 rfl rfl
    |exact ArF hc
    |exact rfl)
  ·refine AcU rfl rfl ?_
   repeat (first
    |exact Aac rfl rfl
    |exact Aa6 rfl
    |apply AaH rfl rfl
    |exact ArH h1 (by rw[hll];exact Nat.le_trans hlen (by decide)) (AvS hl hi))
 ·obtain⟨d,rfl⟩:∃ e,d=e+1:=by
   induction d using Nat.casesAuxOn with
   |zero=>exact absurd (Int.le_antisymm h2 (Int.le_add_of_sub_left_le h4)) hc
   |succ e=>exact⟨e,rfl⟩
  have hF:=hF (Nat.succ_ne_zero d);subst hF;rw[Nat.add_sub_cancel];have hp:(2:Int) ^ (d+1)=2*2 ^ d:=by rw[Int.pow_succ,Int.mul_comm]
  have hm:(L+R).fdiv (2 ^ (1:Int).toNat)=(L+R) / 2:=by rw[Int.fdiv_eq_ediv_of_nonneg _ (by decide)];rfl
  generalize hM:(L+R) / 2=M;rw[hM] at hm;refine ACY (Al3 h1 h2 hc hM h3 (hp ▸ h4)) fun m1 m2 m3 m4 m5 m6 m7 m8=>?_
  obtain⟨sh,hsh⟩:∃ sh:Nat,(M - L)*nn=sh:=⟨((M - L).toNat*nn),by rw[Int.natCast_mul,Int.toNat_of_nonneg m5]⟩
  have hsh':sh=nn*(M - L).toNat:=by
   have:((M - L).toNat:Int)*nn=sh:=by rw[Int.toNat_of_nonneg m5];exact hsh
   have:(M - L).toNat*nn=sh:=by exact_mod_cast this
   rw[← this,Nat.mul_comm]
  have hshle:sh≤60:=by rw[hsh'];exact Nat.le_trans (Nat.mul_le_mul_left _ (Int.toNat_le.mpr m6)) hsz
  have sub:∀ (i k:Nat),∀ x∈(xs.drop i).take k,0≤x∧x<2 ^ nn:=fun i k x hx=>hb x (List.mem_of_mem_drop (List.mem_of_mem_take hx));have bnd:∀ (i k:Nat),0≤Abg nn ((xs.drop i).take k)∧Abg nn ((xs.drop i).take k)<2 ^ 60:=fun i k=>by
   refine AaG (Aha nn _ (sub i k)) fun b1 b2=>?_;refine⟨b1,Int.lt_of_lt_of_le b2 ?_⟩;have hk:nn*((xs.drop i).take k).length≤60:=Nat.le_trans (Nat.mul_le_mul_left _ (Nat.le_trans (List.length_take_le' _ _) (by rw[List.length_drop];exact Nat.sub_le _ _))) hsz;have:=Nat.pow_le_pow_right (n:=2) (by decide) hk
   exact_mod_cast this
  have split:(xs.drop L.toNat).take (R - L).toNat=(xs.drop L.toNat).take (M - L).toNat++(xs.drop M.toNat).take (R - M).toNat:=by have e1:(R - L).toNat=(M - L).toNat+(R - M).toNat:=tn1 (Int.le_of_lt m1) (Int.le_of_lt m2);have e2:M.toNat=L.toNat+(M - L).toNat:=tn2 h1 (Int.le_of_lt m1);rw[e1,List.take_add,List.drop_drop,← e2]
  have hlen':((xs.drop L.toNat).take (M - L).toNat).length=(M - L).toNat:=by rw[List.length_take,List.length_drop];exact tn3 h1 (Int.le_of_lt m1) (Int.le_of_lt m2) h3
  have f1:AAd xs nn d [.int M,.int R]=some (.int (Abg nn ((xs.drop M.toNat).take (R - M).toNat))):=if_pos ⟨m3,m2,h3,m8⟩;have f2:AAd xs nn d [.int L,.int M]=some (.int (Abg nn ((xs.drop L.toNat).take (M - L).toNat))):=if_pos ⟨h1,m1,m4,m7⟩;have fin:Abg nn ((xs.drop M.toNat).take (R - M).toNat)*2 ^ (sh:Int).toNat+Abg nn ((xs.drop L.toNat).take (M - L).toNat)=Abg nn ((xs.drop L.toNat).take (R - L).toNat):=by rw[split,Aeg,hlen',← hsh',Int.toNat_natCast,Int.mul_comm,Int.add_comm]
  rw[← fin];have b60:=bnd M.toNat (R - M).toNat;have p1:(2:Nat) ^ 60=1152921504606846976:=by decide
  have p2:(2:Int) ^ 60=1152921504606846976:=by decide
  have p3:(2:Nat) ^ 64=18446744073709551616:=by decide
  refine Adw rfl rfl ?_ (Ach rfl) ?_
  ·repeat (first
    |exact Aac rfl rfl
    |exact Aa6 rfl
    |apply AaM
    |apply Abh rfl
    |apply Ab8 rfl rfl
    |exact AlY hc
    |exact rfl)
  ·refine Ado (d:=.int M) rfl rfl (.inl rfl) ?_ Axe ?_
   ·rw[← hm]
    repeat (first
     |exact Aac rfl rfl
     |exact Aa6 rfl
     |apply Abh rfl
     |exact Ak4 (by decide)
     |exact rfl)
   ·refine Ado (d:=.int sh) rfl rfl (.inl rfl) ?_ Axf ?_
    ·rw[← hsh]
     repeat (first
      |exact Aac rfl rfl
      |exact Aa6 rfl
      |apply Abh rfl
      |exact Al0 ⟨nab m5 m6 hlen,nab (Int.natCast_nonneg _) (Int.le_refl _) hnn⟩
      |exact rfl)
    ·refine AcU rfl rfl ?_
     repeat (first
      |exact Aac rfl rfl
      |exact Aa6 rfl
      |apply Abh rfl
      |apply AaR rfl rfl
      |exact if_pos rfl
      |apply AbP rfl
      |exact Aar rfl
      |exact f1
      |exact f2
      |exact Ak5 ⟨Int.natCast_nonneg _,Int.le_trans (Int.ofNat_le.mpr hshle) (by decide),Axa b60.1 b60.2⟩
      |exact rfl)
noncomputable def dT:Expr:=As0 (Aaj AvR)
noncomputable def dC:Expr:=ABU (Aaj AvR)
noncomputable def dE:Expr:=AsZ (Aaj AvR)
theorem Axg:AvR=.Return (some (.IfExp dT dC dE (Aaj AvR).pos)) (Abp AvR):=by kernel_rfl!
theorem Aue:dC=.Call (.Name "inner" (Ac7 dC)) (AdY dC) [] dC.pos:=by kernel_rfl!
noncomputable def d2iD:List D→Option D:=fn2 fun x y=>Adq x fun l=>Aci y fun n=>(AdI l).bind fun xs=>
 if (xs.all fun x=>decide (0≤x∧x<2 ^ n.toNat))=true∧0≤n∧n.toNat*xs.length≤60∧xs.length≤64 then some (.int (Abg n.toNat xs)) else none
theorem Akc{l:List D}{xs:List Int}(h:AdI l=some xs):l=xs.map D.int:=by
 induction l generalizing xs with
 |nil=>exact sj h ▸ rfl
 |cons d l ih=>
  (refine Aaf (Aas h) fun x q2 k1=>?_;subst q2)
  refine Aaf (Aak k1) fun ys e k2=>?_;rw[← sj k2,ih e];rfl
section
variable{B:Bs}{m:Nat}
theorem ArM(W:LW B){s:Shared}{g:Gh}{a:Addr}{fd:FuncData}{cl:List (Str×Addr)}{xs:List Int}{l:List D}{nn:Nat}(M:Ago s.heap g a fd ApJ (.stmts Axb) dSc cl)
  (C:Ada s.heap g dSc.names cl [(("inner":Str),.val (.ref a)),(("n":Str),.int nn),(("digits":Str),.list l)])
  (hl:l=xs.map D.int) (hb:∀ x∈xs,0≤x∧x<2 ^ nn) (hsz:nn*xs.length≤60) (hlen:xs.length≤1000) (hnn:nn≤1000):∀ d,Amx B (m+1+d) s g (.ref a) (AAd xs nn d):=by
 intro d;induction d with
 |zero=>
  refine⟨.inr (.inr ⟨a,_,fd,rfl,M.obj,rfl⟩),fun A s2 g2 vs ds r hA x hd hr=>?_⟩;refine Afx (Ag5 hr) fun x0 y0 q1 k_1=>?_;subst q1;refine Aaf (Aas k_1) fun L q1 k_2=>?_;subst q1;refine Aaf (Aas k_2) fun R q1 k_3=>?_;subst q1;refine AaG (Abs k_3) fun hc k_4=>?_;have k_4:=sj k_4;subst k_4;refine AnI W.O (M.step x) (xs:=["L","R"]) (fun fd vs e1 e2 e3 e4=>?_) ArK (C.step x) (n:=m) hA x.inv hd rfl fun env s3 e1 e2 F=>?_
  ·exact L2 (P:=fun vs=>bindArgs fd ⟨vs,[]⟩=pure ([("L":Str),"R"].zip vs)) e4 fun u v=>Akb fd u v e1 e2 e3
  ·have e:=AnU (a:=a) (d:=0) hl hb hsz hlen hnn (F:=fun _=>none) (fun h=>absurd rfl h) hc;rw[← e1] at e F;exact Ack W.O (Aka W fun v F' e=>by
    refine AaG (Ai3 e) fun q1 q2=>?_;subst q1;subst q2;refine⟨?_,fun A s g vs ds r hA x hd hr=>by exact Aah hr⟩;exact .inr (.inr ⟨_,_,fd,rfl,(M.step x).obj,rfl⟩)) (hA.deeper (env:=env)) F e
 |succ d ih=>
  refine⟨.inr (.inr ⟨a,_,fd,rfl,M.obj,rfl⟩),fun A s2 g2 vs ds r hA x hd hr=>?_⟩;refine Afx (Ag5 hr) fun x0 y0 q1 k_5=>?_;subst q1;refine Aaf (Aas k_5) fun L q1 k_6=>?_;subst q1;refine Aaf (Aas k_6) fun R q1 k_7=>?_;subst q1;refine AaG (Abs k_7) fun hc k_8=>?_;have k_8:=sj k_8;subst k_8;refine AnI W.O (M.step x) (xs:=["L","R"]) (fun fd vs e1 e2 e3 e4=>?_) ArK (C.step x) (n:=m+1+d) hA x.inv hd rfl fun env s3 e1 e2 F=>?_
  ·exact L2 (P:=fun vs=>bindArgs fd ⟨vs,[]⟩=pure ([("L":Str),"R"].zip vs)) e4 fun u v=>Akb fd u v e1 e2 e3
  ·have e:=AnU (a:=a) (d:=d+1) hl hb hsz hlen hnn (F:=AAd xs nn d) (fun _=>by rw[Nat.add_sub_cancel]) hc;rw[← e1] at e F;exact Ack W.O (Aka W fun v F' e=>by
    refine AaG (Ai3 e) fun q1 q2=>?_;subst q1;subst q2;exact ih.step x) (hA.deeper (env:=env)) F e
noncomputable def Adx(l:List (Value×(List D→Option D)))(v:Value):Option (List D→Option D):=(l.find? fun p=>p.1 == v).map (·.2)
theorem AaX{n:Nat}{l:List (Value×(List D→Option D))}(h:∀ p∈l,AbC B n p.1 p.2):∀ v F,Adx l v=some F→AbC B n v F:=fun v F e=>by
 unfold Adx at e
 cases e1:l.find? fun p=>p.1 == v with
 |none=>rw[e1] at e;exact Aah e
 |some p=>
  rw[e1] at e;cases e;have:=List.find?_some e1;have hv:p.1=v:=eq_of_beq this;subst hv;exact h p (List.mem_of_find?_eq_some e1)
theorem Ak8(W:LW B){a:Addr}{cd:Value}(h:(tabsL.any fun q=>cd == .ref q.1)=true):∃ c P,cd=.ref c∧(c,P)∈tabsL:=by refine Aaf (List.any_eq_true.mp h) fun q hq e=>?_;exact⟨q.1,q.2,eq_of_beq e,hq⟩
theorem AvT(W:LW B):AbC B (m+9) (.ref AdB) d2iD:=by
 have D0:=(Aq8 W.G);refine Aaf D0.obj fun o ho hdat=>?_;refine⟨.inr (.inr ⟨_,o,_,rfl,ho,hdat⟩),fun A s g vs ds r hA I hd hr=>?_⟩;refine Afx (Ag5 hr) fun x0 y0 q1 k_1=>?_;subst q1;refine Aaf (Abd k_1) fun l q1 k_2=>?_;subst q1;refine Aaf (Aas k_2) fun n q1 k_3=>?_;subst q1;refine Aaf (Aak k_3) fun xs exs k_4=>?_;refine AaG (Abs k_4) fun hc k_5=>?_;have k_5:=sj k_5;subst k_5;refine Aoa hc fun hall hn hsz hlen=>?_;have hb:∀ x∈xs,0≤x∧x<2 ^ n.toNat:=fun x hx=>by simpa using List.all_eq_true.mp hall x hx
 have hl:=Akc exs;have hll:l.length=xs.length:=by rw[hl];simp
 have hlv:=hd.length;refine Agp W.O D0.to0 D0.scope hA I ?_;rw[D0.bind vs hlv];refine wpAny_pure ⟨g,vs,_,Aag.refl I,rfl,hd,rfl,fun env s1 e1 e2 e3 F=>Ahj fun QQ EE hPost=>?_⟩;have hA':AOk (m+8) (A.deeper env):=hA.deeper;rw[Afe] at e1;rw[Afe,← e1] at F;rw[show Aae (nth Aia)=[dSt,AvR] from Auc];refine wpAny_execs_cons ?_;rw[AAc];refine Afx (Ak8 (a:=AdB) W (AzY B.w.params)) fun c P hcd hmem=>?_;refine F.defStm W.O W.bm W.TT (e2.trans hcd) hmem ?_ Aud Axc (by rw[e1];exact Ak7) (by rw[e1];exact Axd) fun a fd s2 g2 _ F2 M2=>?_
 ·rw[show Abp dSt=Abp (((Aae (nth Aia))[0]?).getD AbZ) from rfl,AzT];unfold qualnameIn;have:(env.kindOf ("inner":Str) == some NameKind.globalExplicit)=false:=by unfold Env.kindOf;rw[e1];kernel_rfl!
  rw[this,if_neg Bool.false_ne_true,e3,AzX];rfl
 ·have C2:=(AeP F2 (scope:=dSc) (fun x hx=>(Abj Ak7 x hx).1) (fun x hx=>by unfold Env.kindOf;rw[e1];exact(Abj Ak7 x hx).2)).2;have hσ:Abt dSc (("inner",D.val (.ref a)) :: ([("digits":Str),"n"].zip [D.list l,.int n]).reverse)=[(("inner":Str),.val (.ref a)),(("n":Str),.int (n.toNat:Int)),(("digits":Str),.list l)]:=by rw[Int.toNat_of_nonneg hn];exact ArL _ _ _
  rw[hσ] at C2;have hlk:((("inner",D.val (.ref a)) :: ([("digits":Str),"n"].zip [D.list l,.int n]).reverse:Rho)).lookup ("digits":Str)=some (.list l):=rfl;have hli:((("inner",D.val (.ref a)) :: ([("digits":Str),"n"].zip [D.list l,.int n]).reverse:Rho)).lookup ("inner":Str)=some (.val (.ref a)):=rfl;have hlen0:((("inner",D.val (.ref a)) :: ([("digits":Str),"n"].zip [D.list l,.int n]).reverse:Rho)).lookup ("len":Str)=none:=rfl;generalize (("inner",D.val (.ref a)) :: ([("digits":Str),"n"].zip [D.list l,.int n]).reverse:Rho)=ρ2 at F2 hlk hli hlen0;have K0:Acw B (m+8) (mkT (Adx [(.builtin "len",bLen)]) Abx) s g:=AbF W (AaX (al AnG an)) s g I
  by_cases h0:xs=[]
  ·subst h0;have hl0:l=[]:=hl;subst hl0;refine wpAny_mono (Ack W.O K0 hA' F2 (k:=5) (m:=5) (r:=.int 0) ?_) hPost fun _ _ e=>e.elim;refine AcU rfl rfl ?_;refine ArB rfl ?_ ?_
   ·exact AaM (Aaa rfl rfl hlk) rfl
   ·exact Aac rfl rfl
  ·have hpos:0<xs.length:=List.length_pos_iff.mpr h0;have hnn:n.toNat≤60:=Nat.le_trans (Nat.le_mul_of_pos_right _ hpos) hsz;refine wpAny_execs_cons ?_;rw[Axg];have T1:=(AaZ W.O K0 hA' 5).2 (Aam env.scope.names) env ρ2;have S1:=(AaZ W.O K0 hA' 5).1 (Aam env.scope.names) env ρ2;refine wpAny_Return_some (IfExp_ ((T1 dT true s2 g2 (AaM (Aaa rfl rfl hlk) (by
    show(if l.length≤1000000 then some (!l.isEmpty) else none)=some true;rw[if_pos (by omega)];induction l using List.casesOn with
    |nil=>simp at hll;omega
    |cons _ _=>rfl)) F2).use fun b s3 g3 x3 hb3=>?_))
   subst hb3;show wpAny _ _ (eval dC env) _ _ _;rw[Aue];have F3:=F2.step x3;refine wpAny_Call_NameR ((F3.name hli rfl).useV fun s4 g4 x4=>?_);have F4:=F3.step x4;have C4:=(C2.step x3).step x4;have M4:=(M2.step x3).step x4;have cl:=ArM (m:=m) W M4 C4 hl hb hsz (by omega) (by omega) 6;have hk:env.scope.names.lookup ("len":Str)=some .globalImplicit:=by rw[e1];kernel_rfl!
   have hkl:ρ2.lookup ("len":Str)=none:=hlen0;have eargs:evL (ev (mkT (Adx [(.builtin "len",bLen)]) Abx) 5 env.scope ρ2) (AdY dC)=some [.int 0,.int l.length]:=by refine AbP rfl (Aac rfl rfl) (AbP rfl ?_ (Aar rfl));refine AaR rfl rfl (AaK rfl rfl hkl hk rfl rfl) rfl (AbP rfl (Aaa rfl rfl hlk) (Aar rfl)) ?_;exact if_pos (by omega)
   rw[Aaw (AcZ eargs)];refine wpAny_mono (Acv (first:=[]) (P:=fun g' vs=>Aav g' vs [.int 0,.int l.length]) (P':=fun g' v=>Den g' v (.int (Abg n.toNat xs))) cl.kp (by simp) (AbU S1 eargs F4) fun vs s5 g5 x5 hvs=>?_) (fun v s' ⟨g',x,hv⟩=>hPost _ _ ⟨g',F4.st.trans x,hv⟩) fun _ _ e=>e.elim;refine cl.run _ s5 g5 _ [.int 0,.int l.length] _ (hA'.le (by omega)) x5 hvs ?_;refine(if_pos ⟨by omega,by omega,by omega,by omega⟩).trans ?_;have e1:((l.length:Int) - 0).toNat=xs.length:=by rw[Int.sub_zero,Int.toNat_natCast];exact hll
   rw[e1];simp
end
end Mine
namespace Mine
open PySem PySem.W PyProof.Rows PySem.Calls
noncomputable def Abq(vs:Array Value)(n:Nat):Obj:={cls:=.type "list",data:=.seq vs n}
noncomputable def Ae3(h:Heap)(La:Addr)(vs:Array Value):Prop:=∃ n,h.get? La=some (Abq vs n)
structure Agi(La:Addr)(s:Shared)(vs:Array Value)(s':Shared):Prop where
 heap:Heap.SameBut La s.heap s'.heap
 has:Ae3 s'.heap La vs
 gens:s'.gens=s.gens
 os:s'.os=s.os
theorem Acl{vs:Array Value}{n:Nat}:Abv (Abq vs n):=Aap rfl
theorem Adk{vs:Array Value}{n:Nat}:¬ AcL (Abq vs n):=AaU rfl (by decide)
section
variable{B:Bs}{A:Around}{s₀ s s' s1 s2:Shared}{g₀ g g' g1:Gh}{own:List Str}{env:Env}{ρ:Rho}{La:Addr}{vs vs':Array Value}
theorem Ae3.step(h:Ae3 s.heap La vs)(x:Aag B s g s' g'):Ae3 s'.heap La vs:=let ⟨n,e⟩:=h;⟨n,x.ext.keep _ _ e Acl⟩
theorem Ae3.none(h:Ae3 s.heap La vs)(x:Aag B s g s' g')(hg:g La=none):g' La=none:=let ⟨_,e⟩:=h;x.shutNone e hg
theorem Agi.keep(p:Agi La s vs s'){a:Addr}{o:Obj}(h:a≠La)(e:s.heap.get? a=some o):s'.heap.get? a=some o:=(p.heap.2 a h).trans e
theorem Agi.inv(O:B.Ok)(p:Agi La s vs' s')(h:Ae3 s.heap La vs)(hg:g La=none)(I:Inv B s g):Inv B s' g:=
 let ⟨_,e⟩:=h;I.but O hg e Adk (fun _ _ ha e=>p.keep ha e) p.gens p.os
theorem Agi.back(O:B.Ok)(x:Aag B s g s1 g1)(h:Ae3 s.heap La vs)(hg:g La=none)(p:Agi La s1 vs' s2):∃ s0,Agi La s vs' s0∧Aag B s0 g s2 g1∧Ae3 s0.heap La vs':=by
 refine Abo h fun n e=>?_;refine Abo p.has fun n' e'=>?_;have e1:=x.ext.keep _ _ e Acl;have hg1:=x.shutNone e hg;have sb:Heap.SameBut La s.heap (s.heap.update La fun _=>Abq vs' n'):=Heap.SameBut.update ..;have hs:(s.heap.update La fun _=>Abq vs' n').get? La=some (Abq vs' n'):=Heap.get?_update_self _ e rfl;refine⟨{s with heap:=s.heap.update La fun _=>Abq vs' n'},⟨sb,⟨n',hs⟩,rfl,rfl⟩,⟨x.le,p.inv O ⟨n,e1⟩ hg1 x.inv,⟨fun a o ha hn=>?_,fun a o ha=>?_⟩,fun a o ha=>?_⟩,⟨n',hs⟩⟩
 ·by_cases hl:a=La
  ·subst hl;rw[hs] at ha;cases ha;exact e'
  ·exact p.keep hl (x.ext.keep a o ((sb.2 a hl).symm.trans ha) hn)
 ·by_cases hl:a=La
  ·subst hl;exact⟨_,e'⟩
  ·refine Abo (x.ext.live a o ((sb.2 a hl).symm.trans ha)) fun o' ho'=>?_;exact⟨o',p.keep hl ho'⟩
 ·rcases x.new a o ha with h|h
  ·exact .inl h
  ·by_cases hl:a=La
   ·subst hl;rw[hg1] at ha;exact Aah ha
   ·exact .inr ((sb.2 a hl).trans h)
theorem Agi.trans(p:Agi La s vs s1)(q:Agi La s1 vs' s2):Agi La s vs' s2:=⟨p.heap.trans q.heap,q.has,q.gens.trans p.gens,q.os.trans p.os⟩
theorem ArN{h:Heap}{c:Addr}{v:Option Value}(x:h.IsCell c v)(y:Ae3 h La vs):c≠La:=by intro q1;subst q1;refine Aaf x fun o e d=>?_;refine Abo y fun n e'=>?_;rw[e] at e';cases e';injection d
theorem Agi.cell(p:Agi La s vs' s')(h:Ae3 s.heap La vs){c:Addr}{v:Option Value}(x:s.heap.IsCell c v):s'.heap.IsCell c v:=by have:=ArN x h;refine Aaf x fun o e d=>?_;exact⟨o,p.keep this e,d⟩
theorem Agi.caught{names:List (Str×NameKind)}{cl:List (Str×Addr)}{σ:Rho}(p:Agi La s vs' s')(h:Ae3 s.heap La vs)(C:Ada s.heap g names cl σ):Ada s'.heap g names cl σ:=by
 refine⟨fun y e=>?_,fun y c e=>?_,fun y d e=>?_⟩
 ·refine Afx (C.1 y e) fun c v e1 e2=>?_;exact⟨c,v,e1,p.cell h e2⟩
 ·refine Abo (C.2.1 y c e) fun v e2=>?_;exact⟨v,p.cell h e2⟩
 ·obtain⟨e0,e1,c,v,e2,e3,e4⟩:=C.2.2 y d e;exact⟨e0,e1,c,v,e2,p.cell h e3,e4⟩
theorem Agi.made{a:Addr}{fd:FuncData}{params:Arguments}{body:FuncBody}{scope:Scope}{cl:List (Str×Addr)}(p:Agi La s vs' s')(h:Ae3 s.heap La vs)(M:Ago s.heap g a fd params body scope cl):Ago s'.heap g a fd params body scope cl:=by
 refine Alo M.code fun c' o' e1 e2 e3 e4=>?_;have hne:c'≠La:=by
  intro q2;subst q2;refine Abo h fun n e=>?_;rw[e1] at e4;refine Avv e4 fun c₂ o₂ vs t f1 f2 f3 _=>?_
  cases f1;rw[e] at f2;cases f2;injection f3
 have e5:=p.keep hne e2;refine⟨M.obj,⟨c',o',e1,e5,e3,?_⟩,M.params,M.body,M.scope,M.glob,M.blt,M.clos,M.defs⟩;rw[e1] at e4 ⊢;exact AbG e4 e2 e5
theorem Fm.poke(O:B.Ok)(F:Fm B s₀ g₀ own env ρ s g)(h:Ae3 s₀.heap La vs)(hg:g₀ La=none)(p:Agi La s vs' s'):∃ s0,Agi La s₀ vs' s0∧Ae3 s0.heap La vs'∧Fm B s0 g₀ own env ρ s' g:=by
 refine Aew (Agi.back O F.st h hg p) fun s0 p0 x0 h0=>?_;have hL:=h.step F.st;refine Aaf F.vars fun m hm hv=>?_;have nl:env.locals≠La:=by intro e;refine AgZ hm fun o ho _ _ es n hd=>?_;refine Abo hL fun n' e'=>?_;rw[e,e'] at ho;cases ho;injection hd
 refine⟨s0,p0,h0,x0,F.kind,F.glob,F.blt,⟨m,hm.sameBut p.heap nl,hv⟩,fun y hy=>?_,F.kinds,⟨(p0.heap.2 _ nl).trans F.loc.1,F.loc.2⟩,fun y hy=>?_⟩
 ·refine Adp (F.cells y hy) fun c v e1 e2 e3=>?_;exact⟨c,v,e1,p.cell hL e2,e3⟩
 ·refine Alo (F.own y hy) fun c v e1 e2 e3 r=>?_;exact⟨c,v,e1,p.cell hL e2,(p0.heap.2 c (ArN e2 hL)).trans e3,r⟩
variable{n:Nat}
theorem Ai4(O:B.Ok){a:Addr}{fd:FuncData}{params:Arguments}{xs:List Str}{body:List Stmt}{scope:Scope}{cl:List (Str×Addr)}{σ:Rho}(Md:Ago s.heap g a fd params (.stmts body) scope cl)(hb:AmN params xs)(hs:AeI scope xs=true)(C:Ada s.heap g scope.names cl σ)
  {us:List Value} {ds:List D} (hA:AOk (n+1) A) (I:Inv B s g) (hd:Aav g us ds) (hl:xs.length=ds.length) {Q E:Value→Shared→Prop}
  (h:∀ env s',env.scope=scope→env.code=fd.code→Fm B s g (Aam scope.names) env ((xs.zip ds).reverse++σ) s' g →
   wpAny B.M (A.deeper env) (execs body env) (fun f s''=>Q (match f with|.ret v=>v|_=>.none) s'') (fun _ _=>False) s') :
  wpAny B.M A (call (.ref a) us) Q E s:=by
 refine Alo Md.code fun c o _ _ _ hcd=>?_;refine Aoa (Adr hs) fun h1 h2 h3 h5=>?_;refine wpAny_call (codeAny_call_function hA.dlt (I.get Md.obj) rfl (by rw[Md.scope];exact h3) (by rw[Md.scope];exact h2) Md.body hcd ?_);rw[hb fd us Md.params Md.defs.1 Md.defs.2 (by rw[hd.length,hl])];refine wpAny_pure ?_;rw[Md.glob,Md.clos,Md.blt,Md.scope];refine wpAny_mono (AhM O I h1 C h5 hl hd (Q:=fun env s'=>s'.heap.NoLimit∧codeAny B.M A (.func body env) (fun r s'=>match r with|.ok (.ret v)=>Q v s'|.ok _=>False|.error e=>E e s') s') fun env s' e1 e2 e3 F=>⟨?_,?_⟩) (fun _ _ h=>h) fun _ _ h=>h.elim
 ·refine Aaf O.lim fun mc hmc hno=>?_;exact⟨mc,F.inv.ns hmc,hno⟩
 ·exact codeAny_func (wpAny_mono (h env s' e1 e2 F) (fun f s'' h=>h) fun _ _ h=>h.elim)
end
theorem ApK(x:Int)(s:Nat)(hx:0≤x):Builtin.bitXor x (x / 2 ^ s*2 ^ s)=x % 2 ^ s:=by
 refine Abo (Int.eq_ofNat_of_zero_le hx) fun k q3=>?_;subst q3;have e1:((k:Int) / 2 ^ s*2 ^ s)=((k / 2 ^ s*2 ^ s:Nat):Int):=by push_cast;rfl
 have e2:k &&& (k / 2 ^ s*2 ^ s)=k / 2 ^ s*2 ^ s:=by
  apply Nat.eq_of_testBit_eq;intro i;rw[Nat.testBit_and,Nat.mul_comm,Nat.testBit_two_pow_mul,Nat.testBit_div_two_pow]
  by_cases h:s≤i
  ·have:i - s+s=i:=Nat.sub_add_cancel h;rw[this];simp [h]
  ·simp [h]
 rw[bitXor_and,e1];have e3:Builtin.bitAnd (k:Int) ((k / 2 ^ s*2 ^ s:Nat):Int)=((k / 2 ^ s*2 ^ s:Nat):Int):=by
  unfold Builtin.bitAnd;have h1:decide ((k:Int) ≥ 0)=true:=by simp
  have h2:decide (((k / 2 ^ s*2 ^ s:Nat):Int) ≥ 0)=true:=decide_eq_true (Int.natCast_nonneg _)
  first
   |(rw[h1,h2];simp only[Int.toNat_natCast,e2])
   |(simp only[h1,h2,Int.toNat_natCast,e2])
   |(simp [e2])
 rw[e3];have:=Int.emod_add_mul_ediv (k:Int) (2 ^ s);have e4:((k / 2 ^ s*2 ^ s:Nat):Int)=2 ^ s*((k:Int) / 2 ^ s):=by push_cast;rw[Int.mul_comm]
 rw[e4];omega
noncomputable def AdT(n:Nat):Nat→Int→List Int
 |0,_=>[]
 |k+1,x=>x % 2 ^ n :: AdT n k (x / 2 ^ n)
theorem Adl(n:Nat):∀ k x,(AdT n k x).length=k
 |0,_=>rfl
 |k+1,x=>by rw[AdT,List.length_cons,Adl n k]
theorem AnV(n:Nat):∀ (i j:Nat) (x:Int),AdT n (i+j) x=AdT n i (x % 2 ^ (n*i))++AdT n j (x / 2 ^ (n*i))
 |0,j,x=>by simp [AdT]
 |i+1,j,x=>by
  have e:n*(i+1)=n+n*i:=by rw[Nat.mul_succ,Nat.add_comm]
  have hp:(0:Int)<2 ^ n:=Int.pow_pos (by decide);have hq:(0:Int)<2 ^ (n*i):=Int.pow_pos (by decide);rw[Nat.succ_add,AdT,AnV n i j (x / 2 ^ n),AdT,e,Int.pow_add,List.cons_append];have h1:x % (2 ^ n*2 ^ (n*i)) % 2 ^ n=x % 2 ^ n:=Int.emod_emod_of_dvd x (Int.dvd_mul_right _ _);have h2:x % (2 ^ n*2 ^ (n*i)) / 2 ^ n=x / 2 ^ n % 2 ^ (n*i):=by
   rw[Int.emod_def x,Int.emod_def (x / 2 ^ n),← Int.ediv_ediv_of_nonneg (Int.le_of_lt hp)];have:x - 2 ^ n*2 ^ (n*i)*(x / 2 ^ n / 2 ^ (n*i))=x+(-(2 ^ (n*i)*(x / 2 ^ n / 2 ^ (n*i))))*2 ^ n:=by rw[Int.neg_mul,Int.mul_assoc,Int.mul_comm (2 ^ n)];rfl
   rw[this,Int.add_mul_ediv_right _ _ (by omega)];rfl
  have h3:x / (2 ^ n*2 ^ (n*i))=x / 2 ^ n / 2 ^ (n*i):=(Int.ediv_ediv_of_nonneg (Int.le_of_lt hp)).symm;rw[h1,h2,h3]
section
variable{B:Bs}{A:Around}{s₀ s s' s1 s2:Shared}{g₀ g g' g1:Gh}{own:List Str}{env:Env}{ρ:Rho}{La:Addr}{vs vs':Array Value}
theorem Aby{f:Value}{first:List Value}{args:List (Bool×Sem Value)}{pos:Pos}{P:Gh→List Value→Prop}{Q E:Value→Shared→Prop}(k:Kp g f)(hn:∀ x∈args,x.1=false)
  (h:Aaq B A s g (spliced args) P) (hc:∀ vs s' g',Aag B s g s' g'→P g' vs→wpAny B.M A (call f (first++vs)) Q E s'):wpAny B.M A (callWith pos f first args []) Q E s:=by
 have hplain:(args.any (·.1) || ([]:List (Option Str×Sem Value)).any (·.1.isNone))=false:=by simp only[List.any_nil,Bool.or_false,List.any_eq_false];intro x hx;rw[hn x hx];exact Bool.false_ne_true
 refine callWith_of (P:=fun h=>(∃ id,f=.builtin id)∨(∃ T,f=.type T)∨∃ a o fd,f=.ref a∧h.get? a=some o∧o.data=.func fd) hplain (fun h' hp=>?_) (AcD hn (h.use fun vs s' g' x hp=>⟨?_,hc vs s' g' x hp⟩))
 ·rcases hp with ⟨id,rfl⟩|⟨T,rfl⟩|⟨a,o,fd,rfl,e1,e2⟩
  ·exact⟨.machine,.inr (.inl rfl),.now⟩
  ·exact⟨.machine,.inr (.inl rfl),.now⟩
  ·refine⟨.frame,.inl rfl,?_⟩;unfold keeperOf;refine(Looks.ld (part:=none) e1).andThen ?_;rw[e2];exact .now
 ·rcases k.mono x.le with k|k|⟨a,o,fd,e,e1,e2⟩
  ·exact .inl k
  ·exact .inr (.inl k)
  ·exact .inr (.inr ⟨a,o,fd,e,x.inv.get e1,e2⟩)
theorem Am9{l:Addr}{items:Array Value}{k:Int}{t:Tok}{v:Value}{Q:Unit→Shared→Prop}{E:Value→Shared→Prop}(hl:Ae3 s.heap l items)
  (h0:0≤k) (hfit:k<2 ^ 63) (hn:k<items.size) (hQ:∀ s',Agi l s (items.setIfInBounds k.toNat v) s'→Q () s') :
  wpAny B.M A (setItem (.ref l) (.int k t) v) Q E s:=by
 refine Abo hl fun c ho=>?_;have hd:(Abq items c).data=.seq items c:=rfl;have hl:s.heap.IsList l items:=⟨_,ho,rfl,c,rfl⟩;unfold setItem
 try with_reducible refine wpAny_holding ?_
 first|refine wpAny_bind (wpAny_pure ?_)|skip
 refine wpAny_bind (wpAny_sequenceKey hl.typeIs (by decide) ?_);refine wpAny_bind (wpAny_callSpecial?_slot (name:=Str.ofString "__setitem__") hl.typeIs slot_list_setitem
  (wpAny_call_entry slot_list_setitem hl.typeIs entry_list_setitem ?_ (args_list_setitem _ _ _)))
 show wpAny _ _ (Builtin.List.listSubscript? (.int k t) >>= _) _ _ s;refine wpAny_bind (wpAny_listSubscript_int (fitsIndex_of h0 hfit) ?_);clear hfit;refine Abo (Int.eq_ofNat_of_zero_le h0) fun j q1=>?_;subst q1;have hj:j<items.size:=by omega
 have hx':items[j]?=some items[j]:=Array.getElem?_eq_getElem hj;show wpAny _ _ ((seqItemAt l j >>= fun r=>pure (r.map (j,·))) >>= _) _ _ s;refine wpAny_bind (wpAny_bind (wpAny_seqItemAt ho hd (wpAny_pure ?_)));rw[hx'];show wpAny _ _ (setSeqItemAt l j v >>= _) _ _ s;have hp:Agi l s (items.setIfInBounds j v) {s with heap:=s.heap.update l (Obj.mapSeq (·.setIfInBounds j v))}:=
  ⟨Heap.SameBut.update ..,⟨_,Heap.get?_update_self _ ho rfl⟩,rfl,rfl⟩
 refine wpAny_bind (wpAny_setSeqItemAt ho hd ?_)
 first
  |exact wpAny_bind (wpAny_pure (wpAny_pure ⟨.none,rfl,wpAny_pure (hQ _ hp)⟩))
  |exact wpAny_pure ⟨.none,rfl,wpAny_pure (hQ _ hp)⟩
theorem ApL{l:Addr}{items:Array Value}{x:Value}{Q E:Value→Shared→Prop}(hl:Ae3 s.heap l items)(hsz:items.size≤1000000)(hQ:∀ s',Agi l s (items.push x) s'→Q .none s') :
  wpAny B.M A (call (.builtin "list.append") [.ref l,x]) Q E s:=
 wpAny_list_append_plain (hl:=hl) (fun _ hp hs=>hQ _ ⟨hs,hp,rfl,rfl⟩) (AaL hsz)
end
noncomputable def AbN(vs:Array Value)(xs:List Int):Prop:=Aav (fun _=>none) vs.toList (xs.map D.int)
theorem Aav.set{g:Gh}:∀ {vs:List Value} {ds:List D} {i:Nat} {v:Value} {d:D},Aav g vs ds→Den g v d→Aav g (vs.set i v) (ds.set i d)
 |_,_,_,_,_,.nil,_=>.nil
 |_,_,0,_,_,.cons _ h2,h=>.cons h h2
 |_,_,i+1,_,_,.cons h1 h2,h=>.cons h1 (h2.set h)
theorem AbN.size{vs:Array Value}{xs:List Int}(h:AbN vs xs):vs.size=xs.length:=by have:=Aav.length h;simpa using this
theorem AbN.set{vs:Array Value}{xs:List Int}(h:AbN vs xs)(i:Nat)(x:Int)(t:Tok):AbN (vs.setIfInBounds i (.int x t)) (xs.set i x):=by unfold AbN at h ⊢;rw[Array.toList_setIfInBounds,List.map_set];exact h.set .int
theorem AbN.push{vs:Array Value}{xs:List Int}(h:AbN vs xs)(x:Int)(t:Tok):AbN (vs.push (.int x t)) (xs++[x]):=by unfold AbN at h ⊢;rw[Array.toList_push,List.map_append];exact h.append (.cons .int .nil)
theorem AbN.den{g:Gh}{vs:Array Value}{xs:List Int}(h:AbN vs xs):Aav g vs.toList (xs.map D.int):=Aav.mono (fun _ _ e=>by exact Aah e) h
end Mine
namespace Mine
open PySem PySem.W PyProof.Rows PySem.W.X
theorem Ahb{M:Model}{Γ:Ctx}{env:Env}{Q:Flow→Pos→Shared→Prop}{E:Value→Pos→Shared→Prop}{ys:List Stmt}:∀ {xs:List Stmt} {p:Pos} {s:Shared},Sem.wp M Γ (execs xs env) (fun f p' s'=>match f with|.next=>Sem.wp M Γ (execs ys env) Q E p' s'|f=>Q f p' s') E p s→Sem.wp M Γ (execs (xs++ys) env) Q E p s
 |[],p,s,h=>h
 |x :: xs,p,s,h=>by
  rw[execs_cons,Sem.wp_bind'] at h;rw[List.cons_append,execs_cons,Sem.wp_bind'];refine Sem.wp_mono M Γ _ (fun f p' s' h'=>?_) (fun _ _ _ h'=>h') _ _ h
  cases f with
  |next=>exact Ahb h'
  |_=>exact h'
theorem AcJ{M:Model}{A:Around}{env:Env}{Q:Flow→Shared→Prop}{E:Value→Shared→Prop}{xs ys:List Stmt}{s:Shared}(h:wpAny M A (execs xs env) (fun f s'=>match f with|.next=>wpAny M A (execs ys env) Q E s'|f=>Q f s') E s):wpAny M A (execs (xs++ys) env) Q E s:=fun Γ p hΓ=>by
 refine Ahb (Sem.wp_mono M Γ _ (fun f p' s' h'=>?_) (fun _ _ _ h'=>h') _ _ (h Γ p hΓ))
 cases f with
 |next=>exact h' Γ p' hΓ
 |_=>exact h'
noncomputable def jSt(i:Nat):Stmt:=(AzP[i]?).getD AbZ
noncomputable def jSc:Scope:=Aad (jSt 1)
noncomputable def ApM:Arguments:=Aqd (jSt 1)
noncomputable def jB(i:Nat):Stmt:=((Aae (jSt 1))[i]?).getD AbZ
theorem Auf:AzP=[jSt 0,jSt 1,jSt 2,jSt 3]:=by kernel_rfl!
theorem AAe:jSt 1=.FunctionDef "inner" ApM (Aae (jSt 1)) [] none [] jSc none "inner" (Abp (jSt 1)):=by kernel_rfl!
theorem Al4:Aae (jSt 1)=[jB 0,jB 1,jB 2,jB 3,jB 4]++[jB 5,jB 6]:=by kernel_rfl!
theorem AAf:jB 0=.If (exprOf (jB 0)) (thenOf (jB 0)) [] (Abp (jB 0)):=by kernel_rfl!
theorem AAg:jB 5=.Expr (.Call (.Name "inner" (Ac7 (exprOf (jB 5)))) (AdY (exprOf (jB 5))) [] (exprOf (jB 5)).pos) (Abp (jB 5)):=by kernel_rfl!
theorem AAh:jB 6=.Expr (.Call (.Name "inner" (Ac7 (exprOf (jB 6)))) (AdY (exprOf (jB 6))) [] (exprOf (jB 6)).pos) (Abp (jB 6)):=by kernel_rfl!
theorem Aug:ApM={posonlyargs:=[],args:=ApM.args,vararg:=none,kwonlyargs:=[],kw_defaults:=[],kwarg:=none,defaults:=[]}:=by kernel_rfl!
theorem Axh(e:Env):annotationsOf (ApM.args++[]++[]++[]++[]) e=[]:=by kernel_rfl!
theorem Ak9:AgR jSc Aow=true:=by kernel_rfl!
theorem Axi:okT (Aam Aow.names) Aow "inner"=true:=by kernel_rfl!
theorem Axj:okT (Aam Aow.names) Aow "a_digits"=true:=by kernel_rfl!
theorem Akd:∀ (fd:FuncData) (a b c:Value),fd.params=ApM→fd.defaults=.none→fd.kwdefaults=.none→bindArgs fd ⟨[a,b,c],[]⟩=pure [(("x":Str),a),("L",b),("R",c)]:=by
 intro q1;obtain⟨nm,qn,pr,bd,sc,gl,cl,df,kd,dc,pm,an,cd,ct,bt⟩:=q1;intro a b c h1 h2 h3;simp only at h1 h2 h3;subst h1 h2 h3
 kernel_rfl!
theorem ArO:AeI jSc ["x","L","R"]=true:=by kernel_rfl!
theorem ArP(v d b a:D):Abt jSc [(("inner":Str),v),(("a_digits":Str),d),(("n":Str),b),(("a":Str),a)]=[(("inner":Str),v),(("a_digits":Str),d),(("n":Str),b)]:=by kernel_rfl!
theorem Auh(env:Env)(i:Nat)(hi:i=5∨i=6):swapsWith (.Call (.Name "inner" (Ac7 (exprOf (jB i)))) (AdY (exprOf (jB i))) [] (exprOf (jB i)).pos) none (Abp (jB i)).line env=pure false:=by
 rcases hi with rfl|rfl<;>rfl
noncomputable def jT(i:Nat):Stmt:=((thenOf (jB 0))[i]?).getD AbZ
theorem ACi:thenOf (jB 0)=[jT 0,jT 1]:=by kernel_rfl!
theorem AAi:jT 0=.Assign [.Subscript (.Name "a_digits" (As0 (AbH (jT 0))).pos) (.Name "L" (ABU (AbH (jT 0))).pos) (AbH (jT 0)).pos] (.Name "x" (Aaj (jT 0)).pos) (Abp (jT 0)):=by kernel_rfl!
theorem AAj:jT 1=.Return none (Abp (jT 1)):=by kernel_rfl!
noncomputable def ABB(a La:Addr)(nn:Nat)(x L R:Int):Rho:=[(("R":Str),.int R),(("L":Str),.int L),(("x":Str),.int x),(("inner":Str),.val (.ref a)),(("a_digits":Str),.val (.ref La)),(("n":Str),.int nn)]
noncomputable def T0:Tb:=mkT (fun _=>none) Abx
theorem ArQ{B:Bs}(W:LW B){n:Nat}(s:Shared)(g:Gh):Acw B n T0 s g:=Aka W fun _ _ e=>by exact Aah e
theorem ACj{a La:Addr}{nn:Nat}{x L R M sh:Int}(hne:L+1≠R)(hM:(L+R) / 2=M)(hsh:(M - L)*nn=sh)(hs0:0≤sh)(hs1:sh≤60)(hx:0≤x)(hx2:x<2 ^ 60)(hL:0≤L)(hLM:L<M)(hML:M - L≤((1000:Nat):Int))(hnn:nn≤1000) :
  ex (T0.stm (Aam jSc.names) jSc) (ev T0 8 jSc) (Aam jSc.names) jSc 8 (ABB a La nn x L R) [jB 0,jB 1,jB 2,jB 3,jB 4] =
   some (.next ((("lower":Str),.int (x % 2 ^ sh.toNat)) :: (("upper":Str),.int (x / 2 ^ sh.toNat)) :: (("shift":Str),.int sh) :: (("mid":Str),.int M) :: ABB a La nn x L R)):=by
 have p3:(2:Nat) ^ 64=18446744073709551616:=by decide
 have p2:(2:Int) ^ 60=1152921504606846976:=by decide
 have hm:(L+R).fdiv (2 ^ (1:Int).toNat)=M:=by rw[Int.fdiv_eq_ediv_of_nonneg _ (by decide),← hM];rfl
 have hp:(0:Int)<2 ^ sh.toNat:=Int.pow_pos (by decide);have hu:x.fdiv (2 ^ sh.toNat)=x / 2 ^ sh.toNat:=Int.fdiv_eq_ediv_of_nonneg _ (Int.le_of_lt hp);have hu0:0≤x / 2 ^ sh.toNat:=Int.ediv_nonneg hx (Int.le_of_lt hp);have hu1:x / 2 ^ sh.toNat≤x:=Int.ediv_le_self _ hx;have hw:=ApK x sh.toNat hx;refine Adw rfl rfl ?_ (Ach rfl) ?_
 ·repeat (first
   |exact Aac rfl rfl
   |exact Aa6 rfl
   |apply AaM
   |apply Abh rfl
   |apply Ab8 rfl rfl
   |exact AlY hne
   |exact rfl)
 ·refine Ado (d:=.int M) rfl rfl (.inl rfl) ?_ (by kernel_rfl!) ?_
  ·rw[← hm]
   repeat (first
    |exact Aac rfl rfl
    |exact Aa6 rfl
    |apply Abh rfl
    |exact Ak4 (by decide)
    |exact rfl)
  ·refine Ado (d:=.int sh) rfl rfl (.inl rfl) ?_ (by kernel_rfl!) ?_
   ·rw[← hsh]
    repeat (first
     |exact Aac rfl rfl
     |exact Aa6 rfl
     |apply Abh rfl
     |exact Al0 ⟨nab (n:=1000) (Int.sub_nonneg_of_le (Int.le_of_lt hLM)) hML (Nat.le_refl _),nab (Int.natCast_nonneg _) (Int.le_refl _) hnn⟩
     |exact rfl)
   ·refine Ado (d:=.int (x / 2 ^ sh.toNat)) rfl rfl (.inl rfl) ?_ (by kernel_rfl!) ?_
    ·rw[← hu]
     repeat (first
      |exact Aac rfl rfl
      |exact Aa6 rfl
      |apply Abh rfl
      |exact Ak4 hs0
      |exact rfl)
    ·refine Ado (d:=.int (x % 2 ^ sh.toNat)) rfl rfl (.inl rfl) ?_ (by kernel_rfl!) (Ach rfl);rw[← hw]
     repeat (first
      |exact Aac rfl rfl
      |exact Aa6 rfl
      |apply Abh rfl
      |exact Ak5 ⟨hs0,Int.le_trans hs1 (by decide),Axa hu0 (Int.lt_of_le_of_lt hu1 hx2)⟩
      |exact rfl)
structure IH0(B:Bs)(a:Addr)(fd:FuncData)(cl:List (Str×Addr))(La:Addr)(nn:Nat)(s:Shared)(g:Gh)(xs:List Int):Prop where
 inv:Inv B s g
 made:Ago s.heap g a fd ApM (.stmts (Aae (jSt 1))) jSc cl
 cau:Ada s.heap g jSc.names cl [(("inner":Str),.val (.ref a)),(("a_digits":Str),.val (.ref La)),(("n":Str),.int nn)]
 lst:∃ vs,Ae3 s.heap La vs∧AbN vs xs
 out:g La=none
noncomputable def ACk(B:Bs)(La:Addr)(s:Shared)(g:Gh)(xs:List Int)(s':Shared):Prop:=∃ g' s0 vs,Agi La s vs s0∧AbN vs xs∧Aag B s0 g s' g'
noncomputable def wr(xs:List Int)(L:Int)(ds:List Int):List Int:=xs.take L.toNat++ds++xs.drop (L.toNat+ds.length)
section
variable{B:Bs}{a La:Addr}{fd:FuncData}{cl:List (Str×Addr)}{nn:Nat}{s s':Shared}{g g':Gh}{xs xs':List Int}
theorem IH0.step(h:IH0 B a fd cl La nn s g xs)(x:Aag B s g s' g'):IH0 B a fd cl La nn s' g' xs:=
 ⟨x.inv,h.made.step x,h.cau.step x,(let ⟨vs,h1,h2⟩:=h.lst;⟨vs,h1.step x,h2⟩),(let ⟨_,h1,_⟩:=h.lst;h1.none x h.out)⟩
theorem IH0.poke(O:B.Ok)(h:IH0 B a fd cl La nn s g xs){vs:Array Value}(p:Agi La s vs s')(hv:AbN vs xs'):IH0 B a fd cl La nn s' g xs':=by refine Aaf h.lst fun us h1 h2=>?_;exact⟨p.inv O h1 h.out h.inv,p.made h1 h.made,p.caught h1 h.cau,⟨vs,p.has,hv⟩,h.out⟩
theorem ArR{L:Int}{ds:List Int}(h0:0≤L)(h:L.toNat+ds.length≤xs.length):(wr xs L ds).length=xs.length:=by unfold wr;rw[List.length_append,List.length_append,List.length_take,List.length_drop,Nat.min_eq_left (Nat.le_trans (Nat.le_add_right _ _) h),Nat.add_sub_cancel' h]
theorem ACl{L M:Int}{d1 d2:List Int}(h0:0≤L)(hM:M.toNat=L.toNat+d1.length)(h:M.toNat+d2.length≤xs.length):wr (wr xs L d1) M d2=wr xs L (d1++d2):=by
 unfold wr;have h1:(xs.take L.toNat++d1).length=M.toNat:=by rw[List.length_append,List.length_take,Nat.min_eq_left (Nat.le_trans (Nat.le_add_right _ d1.length) (hM ▸ Nat.le_trans (Nat.le_add_right _ _) h)),hM]
 rw[List.take_append_of_le_length (Nat.le_of_eq h1.symm),List.take_of_length_le (Nat.le_of_eq h1),← h1,List.drop_append,List.drop_eq_nil_of_le (Nat.le_add_right _ _),List.nil_append,List.drop_drop,h1];simp only[List.append_assoc,List.length_append];have:L.toNat+d1.length+(M.toNat+d2.length - M.toNat)=L.toNat+(d1.length+d2.length):=by rw[Nat.add_sub_cancel_left,Nat.add_assoc]
 rw[this]
theorem AAk{L:Int}{x:Int}(h0:0≤L)(h:L.toNat<xs.length):xs.set L.toNat x=wr xs L [x]:=by unfold wr;rw[List.set_eq_take_append_cons_drop,if_pos h];simp
variable{m:Nat}
theorem AAl(W:LW B){A:Around}(hA:AOk m A){i:Nat}(hi:i=5∨i=6){own:List Str}{env:Env}{ρ:Rho}{s2:Shared}{g2:Gh}{ds:List D}(he:env.scope=jSc)
  (claim:∀ s g vs,IH0 B a fd cl La nn s g xs→Aav g vs ds→wpAny B.M A (call (.ref a) vs) (fun v s'=>v=.none∧ACk B La s g xs' s') (fun _ _=>False) s)
  (F:Fm B s g own env ρ s2 g2) (H:IH0 B a fd cl La nn s g xs) (hρ:ρ.lookup ("inner":Str)=some (.val (.ref a))) (eargs:evL (ev T0 8 env.scope ρ) (AdY (exprOf (jB i)))=some ds) {Q:Flow→Shared→Prop} {E:Value→Shared→Prop}
  (hq:∀ s0 s' g' vs',Agi La s vs' s0→AbN vs' xs'→Fm B s0 g own env ρ s' g'→Q .next s'):wpAny B.M A (exec (jB i) env) Q E s2:=by
 have hb:jB i=.Expr (.Call (.Name "inner" (Ac7 (exprOf (jB i)))) (AdY (exprOf (jB i))) [] (exprOf (jB i)).pos) (Abp (jB i)):=by
  rcases hi with rfl|rfl
  ·exact AAg
  ·exact AAh
 rw[hb];refine wpAny_Expr_any ?_ (by unfold interactive;rw[he];kernel_rfl!) (Auh env i hi);refine wpAny_Call_NameR ((F.name hρ rfl).useV fun s3 g3 x3=>?_);have F3:=F.step x3;rw[Aaw (AcZ eargs)];have S1:=(AaZ W.O (ArQ W s g) hA 8).1 own env ρ;have H3:=H.step F3.st;refine Aby (first:=[]) (P:=fun g' vs=>Aav g' vs ds) (.inr (.inr ⟨a,_,fd,rfl,H3.made.obj,rfl⟩)) (by simp) (AbU S1 eargs F3) fun vs s4 g4 x4 hvs=>?_;have F4:=F3.step x4;refine wpAny_mono (claim s4 g4 vs (H3.step x4) hvs) (fun v s' hv=>?_) fun _ _ e=>e.elim
 obtain⟨_,g',s0,vs',p,hv,x⟩:=hv
 refine Aaf H.lst fun us h1 _=>?_;refine Aew (F4.poke W.O h1 H.out p) fun s0' p' _ F5=>?_;exact hq s0' s' g' vs' p' hv (F5.step x)
theorem AAm(W:LW B){A:Around}{n:Nat}(hA:AOk (n+1) A)(H:IH0 B a fd cl La nn s g xs){x L R:Int}{vs:List Value}(h0:0≤L)(hc:L+1=R)(hR:R≤xs.length)(hlen:xs.length≤60)(hx0:0≤x)(hx1:x<2 ^ (nn*(R - L).toNat))
  (hdv:Aav g vs [.int x,.int L,.int R]):wpAny B.M A (call (.ref a) vs) (fun v s'=>v=.none∧ACk B La s g (wr xs L (AdT nn (R - L).toNat x)) s') (fun _ _=>False) s:=by
 refine Ai4 W.O H.made (xs:=["x","L","R"]) (fun fd vs e1 e2 e3 e4=>?_) ArO H.cau (n:=n) hA H.inv hdv rfl fun env s1 e1 e2 F=>?_
 ·exact L3 (P:=fun vs=>bindArgs fd ⟨vs,[]⟩=pure ([("x":Str),"L","R"].zip vs)) e4 fun u v w=>Akd fd u v w e1 e2 e3
 have hA':AOk n (A.deeper env):=hA.deeper;rw[Al4];refine AcJ ?_;have hρ1:((([("x":Str),"L","R"].zip [D.int x,D.int L,D.int R]).reverse++[(("inner":Str),D.val (.ref a)),(("a_digits":Str),.val (.ref La)),(("n":Str),.int nn)]:Rho))=ABB a La nn x L R:=rfl;rw[hρ1] at F;have T1:=(AaZ W.O (ArQ W s g) hA' 8).2 (Aam jSc.names) env (ABB a La nn x L R);refine wpAny_execs_cons ?_;rw[AAf];refine wpAny_If ((T1 (exprOf (jB 0)) true s1 g (by
  rw[e1]
  repeat (first
   |exact Aac rfl rfl
   |exact Aa6 rfl
   |apply AaM
   |apply Abh rfl
   |apply Ab8 rfl rfl
   |exact ArF hc
   |exact rfl)) F).use fun b s2 g2 x2 hb=>?_)
 subst hb;have F2:=F.step x2;show wpAny _ _ (execs (thenOf (jB 0)) env) _ _ _;rw[ACi];refine wpAny_execs_cons ?_;rw[AAi];refine wpAny_Assign_Subscript ((F2.name (x:="x") (d:=.int x) rfl rfl).use fun v3 s3 g3 x3 h3=>?_);have F3:=F2.step x3;refine(F3.name (x:="a_digits") (d:=.val (.ref La)) rfl rfl).use fun v4 s4 g4 x4 h4=>?_;have F4:=F3.step x4;refine(F4.name (x:="L") (d:=.int L) rfl rfl).use fun v5 s5 g5 x5 h5=>?_;have F5:=F4.step x5;induction h3 using Den.intE;induction h4 using Den.valE;induction h5 using Den.intE;refine Aaf H.lst fun us q1 q2=>?_;have hz:=q2.size;have hlt:L<(xs.length:Int):=Int.lt_of_lt_of_le (hc ▸ Int.lt_succ L) hR;refine Am9 (q1.step F5.st) h0 (Int.lt_of_lt_of_le hlt (Int.le_trans (Int.ofNat_le.mpr hlen) (by decide))) (by rw[hz];exact hlt) fun s6 p6=>?_;refine Aew (F5.poke W.O q1 H.out p6) fun s0' p' _ F6=>?_;refine wpAny_execs_cons ?_;rw[AAj];refine wpAny_Return_none ⟨rfl,g5,s0',_,p',?_,F6.st⟩;have hone:(R - L).toNat=1:=by rw[← hc,Int.add_comm,Int.add_sub_cancel];rfl
 have hdig:AdT nn (R - L).toNat x=[x]:=by rw[hone,Nat.mul_one] at hx1;rw[hone];show[x % 2 ^ nn]=[x];rw[Int.emod_eq_of_lt hx0 hx1]
 rw[hdig,← AAk h0 ((Int.toNat_lt h0).mpr hlt)];exact q2.set _ _ _
theorem AAn(W:LW B)(hnn:nn≤1000):∀ (d:Nat) (A:Around) (s:Shared) (g:Gh) (xs:List Int) (x L R:Int) (vs:List Value),AOk (m+1+d) A→IH0 B a fd cl La nn s g xs→0≤L→L<R→R≤xs.length→xs.length≤60→nn*xs.length≤60→R - L≤2 ^ d→0≤x→x<2 ^ (nn*(R - L).toNat) →
  Aav g vs [.int x,.int L,.int R]→wpAny B.M A (call (.ref a) vs) (fun v s'=>v=.none∧ACk B La s g (wr xs L (AdT nn (R - L).toNat x)) s') (fun _ _=>False) s:=by
 intro d;induction d with
 |zero=>
  intro A s g xs x L R vs hA H h0 hLR hR hlen hsz hd hx0 hx1 hdv;exact AAm W hA H h0 (Int.le_antisymm hLR (Int.le_add_of_sub_left_le hd)) hR hlen hx0 hx1 hdv
 |succ d ih=>
  intro A s g xs x L R vs hA H h0 hLR hR hlen hsz hd hx0 hx1 hdv
  by_cases hc:L+1=R
  ·exact AAm W hA H h0 hc hR hlen hx0 hx1 hdv
  ·refine Ai4 W.O H.made (xs:=["x","L","R"]) (fun fd vs e1 e2 e3 e4=>?_) ArO H.cau (n:=m+1+d) hA H.inv hdv rfl fun env s1 e1 e2 F=>?_
   ·exact L3 (P:=fun vs=>bindArgs fd ⟨vs,[]⟩=pure ([("x":Str),"L","R"].zip vs)) e4 fun u v w=>Akd fd u v w e1 e2 e3
   have hA':AOk (m+1+d) (A.deeper env):=hA.deeper;have hp:(2:Int) ^ (d+1)=2*2 ^ d:=by rw[Int.pow_succ,Int.mul_comm]
   generalize hM:(L+R) / 2=M;refine ACY (Al3 h0 hLR hc hM hR (hp ▸ hd)) fun m1 m2 m3 m4 m5 m6 m7 m8=>?_;have hshle:nn*(M - L).toNat≤60:=Nat.le_trans (Nat.mul_le_mul_left _ (Int.toNat_le.mpr m6)) hsz;have hsh:(M - L)*nn=((nn*(M - L).toNat:Nat):Int):=by rw[Int.natCast_mul,Int.toNat_of_nonneg m5,Int.mul_comm]
   have hx60:x<2 ^ 60:=Int.lt_of_lt_of_le hx1 (by
    have:=Nat.pow_le_pow_right (n:=2) (by decide) (Nat.le_trans (Nat.mul_le_mul_left nn (show(R - L).toNat≤xs.length from Int.toNat_le.mpr (Int.le_trans (Int.sub_le_self R h0) hR))) hsz)
    exact_mod_cast this)
   have e5:=ACj (a:=a) (La:=La) (nn:=nn) (x:=x) hc hM hsh (Int.natCast_nonneg _) (Int.ofNat_le.mpr hshle) hx0 hx60 h0 m1 (Int.le_trans m6 (Int.ofNat_le.mpr (Nat.le_trans hlen (by decide)))) hnn;rw[Int.toNat_natCast] at e5;generalize hK:nn*(M - L).toNat=K at hshle hsh e5;rw[Al4];refine AcJ ?_;rw[← e1] at e5 F;refine(Acj W.O (ArQ W s g) hA' 8 _ _ _ s1 g e5 F).use fun f s2 g2 l2 en=>?_;refine AaG en fun z1 F2=>?_;subst z1;have hp':(0:Int)<2 ^ K:=Int.pow_pos (by decide);have lo0:0≤x % 2 ^ K:=Int.emod_nonneg _ (Int.ne_of_gt hp');have lo1:x % 2 ^ K<2 ^ (nn*(M - L).toNat):=by rw[hK];exact Int.emod_lt_of_pos _ hp'
   have up0:0≤x / 2 ^ K:=Int.ediv_nonneg hx0 (Int.le_of_lt hp');have up1:x / 2 ^ K<2 ^ (nn*(R - M).toNat):=by
    have e:nn*(R - L).toNat=K+nn*(R - M).toNat:=by rw[← hK,← Nat.mul_add,← tn1 (Int.le_of_lt m1) (Int.le_of_lt m2)]
    rw[e,Int.pow_add] at hx1;exact Int.ediv_lt_of_lt_mul hp' (by rw[Int.mul_comm];exact hx1)
   dsimp only;refine wpAny_execs_cons (AAl W hA' (i:=5) (.inl rfl) (xs:=xs) (xs':=wr xs L (AdT nn (M - L).toNat (x % 2 ^ K))) (ds:=[.int (x % 2 ^ K),.int L,.int M]) e1 (fun s g vs H hdv=>ih (A.deeper env) s g xs (x % 2 ^ K) L M vs hA' H h0 m1 m4 hlen hsz m7 lo0 lo1 hdv) F2 H rfl ?_ fun s0 s3 g3 vs3 p3 hv3 F3=>?_)
   ·rw[e1];exact AbP rfl (Aa6 rfl) (AbP rfl (Aa6 rfl) (AbP rfl (Aa6 rfl) (Aar rfl)))
   have hdl:=Adl nn (M - L).toNat (x % 2 ^ K);have hdl2:=Adl nn (R - M).toNat (x / 2 ^ K);have hw1:(wr xs L (AdT nn (M - L).toNat (x % 2 ^ K))).length=xs.length:=ArR h0 (by rw[hdl,← tn2 h0 (Int.le_of_lt m1)];exact Int.toNat_le.mpr (Int.le_trans (Int.le_of_lt m2) hR));refine wpAny_execs_cons (AAl W hA' (i:=6) (.inr rfl) (xs:=wr xs L (AdT nn (M - L).toNat (x % 2 ^ K))) (xs':=wr xs L (AdT nn (R - L).toNat x)) (ds:=[.int (x / 2 ^ K),.int M,.int R]) e1 (fun s g vs H hdv=>?_) F3 (H.poke W.O p3 hv3) rfl ?_ fun s0' s4 g4 vs4 p4 hv4 F4=>?_)
   ·have:=ih (A.deeper env) s g _ (x / 2 ^ K) M R vs hA' H m3 m2 (by rw[hw1];exact hR) (by rw[hw1];exact hlen) (by rw[hw1];exact hsz) m8 up0 up1 hdv;rw[ACl h0 (by rw[hdl];exact tn2 h0 (Int.le_of_lt m1)) (by rw[hdl2,← tn2 (Int.le_trans h0 (Int.le_of_lt m1)) (Int.le_of_lt m2)];exact Int.toNat_le.mpr hR)] at this;have e:AdT nn (R - L).toNat x=AdT nn (M - L).toNat (x % 2 ^ K)++AdT nn (R - M).toNat (x / 2 ^ K):=by rw[tn1 (Int.le_of_lt m1) (Int.le_of_lt m2),AnV,hK]
    rw[e];exact this
   ·rw[e1];exact AbP rfl (Aa6 rfl) (AbP rfl (Aa6 rfl) (AbP rfl (Aa6 rfl) (Aar rfl)))
   ·exact wpAny_execs_nil ⟨rfl,g4,s0',vs4,p3.trans p4,hv4,F4.st⟩
end
noncomputable def jC:Stmt:=((thenOf (jSt 2))[0]?).getD AbZ
noncomputable def Afw(i:Nat)(e:Expr):Expr:=((AdY e)[i]?).getD e
theorem AAo:jSt 0=.Assign [.Name "a_digits" (AbH (jSt 0)).pos] (.BinOp (binL (Aaj (jSt 0))) .Mult (binR (Aaj (jSt 0))) (Aaj (jSt 0)).pos) (Abp (jSt 0)):=by kernel_rfl!
theorem AAp:jSt 2=.If (exprOf (jSt 2)) [jC] [] (Abp (jSt 2)):=by kernel_rfl!
theorem AAq:jSt 3=.Return (some (.Name "a_digits" (exprOf (jSt 3)).pos)) (Abp (jSt 3)):=by kernel_rfl!
theorem ACm:jC=.Expr (.Call (.Name "inner" (Ac7 (exprOf jC))) [Afw 0 (exprOf jC),Afw 1 (exprOf jC),.Call (.Name "len" (Ac7 (Afw 2 (exprOf jC)))) [.Name "a_digits" (Afw 0 (Afw 2 (exprOf jC))).pos] [] (Afw 2 (exprOf jC)).pos] [] (exprOf jC).pos) (Abp jC):=by kernel_rfl!
theorem ArS(env:Env):swapsWith (.Call (.Name "inner" (Ac7 (exprOf jC))) [Afw 0 (exprOf jC),Afw 1 (exprOf jC),.Call (.Name "len" (Ac7 (Afw 2 (exprOf jC)))) [.Name "a_digits" (Afw 0 (Afw 2 (exprOf jC))).pos] [] (Afw 2 (exprOf jC)).pos] [] (exprOf jC).pos) none (Abp jC).line env=pure false:=by rfl
noncomputable def ApN(a n:Int):Nat:=(((Builtin.Int.intBits a:Nat):Int)+n - 1).fdiv n |>.toNat
noncomputable def i2dD:List D→Option D:=ii fun a n=>
 if 0≤a∧1≤n∧n≤60∧ApN a n≤60∧n.toNat*ApN a n≤60∧a<2 ^ (n.toNat*ApN a n) then some (.list ((AdT n.toNat (ApN a n) a).map D.int)) else none
theorem ApO(k:Nat)(vs:Array Value)(t:Tok)(hv:vs.toList=[Value.int 0 t]):AbN (List.foldl (fun x1 x2=>x1++x2) #[] (List.replicate (if vs.isEmpty=true then 0 else k) vs)) (List.replicate k 0):=by
 have he:vs.isEmpty=false:=by
  cases h:vs.isEmpty with
  |false=>rfl
  |true=>rw[Array.isEmpty_iff] at h;subst h;injection hv
 rw[he];simp only[Bool.false_eq_true,if_false];unfold AbN;rw[Ab6 #[]];simp only[Array.toList_empty,List.nil_append,List.map_replicate,hv];have h1:Aav (fun _=>none) [Value.int 0 t] [D.int 0]:=.cons .int .nil;have h2:=h1.flattenRep k;have e:(List.replicate k [D.int 0]).flatten=List.replicate k (D.int 0):=by
  induction k with
  |zero=>rfl
  |succ k ih=>rw[List.replicate_succ,List.flatten_cons,ih (h1.flattenRep k)];rfl
 rw[e] at h2;exact h2
theorem AAr(k:Nat)(ds:List Int)(h:ds.length=k):wr (List.replicate k 0) 0 ds=ds:=by unfold wr;simp [h]
theorem Al5(n:Nat):∀ k,AdT n k 0=List.replicate k 0
 |0=>rfl
 |k+1=>by rw[AdT,List.replicate_succ,Int.zero_emod,Int.zero_ediv,Al5 n k]
section
variable{B:Bs}{m:Nat}
theorem Axk{a n:Int}{k:Nat}(hk:ApN a n=k)(hn:1≤n)(hn2:n≤60)(h0:0≤((Builtin.Int.intBits a:Nat):Int)+n - 1) :
  ev (mkT (Adx [(.builtin "int.bit_length",bBits)]) Abx) 8 Aow [(("n":Str),.int n),(("a":Str),.int a)] (binR (Aaj (jSt 0)))=some (.int k):=by
 have e:((Builtin.Int.intBits a:Nat):Int)+n - 1=((Builtin.Int.intBits a:Nat):Int)+n - 1:=rfl;have:(((Builtin.Int.intBits a:Nat):Int)+n - 1).fdiv n=k:=by rw[← hk];unfold ApN;rw[Int.toNat_of_nonneg];rw[Int.fdiv_eq_ediv_of_nonneg _ (by omega)];exact Int.ediv_nonneg h0 (by omega)
 rw[← this]
 repeat (first
  |exact Aac rfl rfl
  |exact Aa6 rfl
  |apply Abh rfl
  |(refine AdS rfl rfl ⟨rfl,rfl,by decide⟩ (Aa6 rfl) rfl rfl rfl (Aar rfl) ?_)
  |exact Ag9 ⟨by omega,by omega⟩
  |exact rfl)
theorem AvU(W:LW B):AbC B (m+9) (.ref Adb) i2dD:=by
 have D0:=(Aq6 W.G);refine Aaf D0.obj fun o ho hdat=>?_;refine⟨.inr (.inr ⟨_,o,_,rfl,ho,hdat⟩),fun A s g vs ds r hA I hd hr=>?_⟩;refine Afx (Aol hr) fun a n q1 k_3=>?_;subst q1;refine AaG (Abs k_3) fun hc k_4=>?_;have k_4:=sj k_4;subst k_4;refine ADt hc fun ha hn1 hn2 hk60 hnk hak=>?_;generalize hK:ApN a n=k at hk60 hnk hak;have hlv:=hd.length;refine Agp W.O D0.to0 D0.scope hA I ?_;rw[D0.bind vs hlv];refine wpAny_pure ⟨g,vs,_,Aag.refl I,rfl,hd,rfl,fun env s1 e1 e2 e3 F=>Ahj fun QQ EE hPost=>?_⟩;have hA':AOk (m+8) (A.deeper env):=hA.deeper;rw[Afd] at e1;rw[Afd,← e1] at F;rw[show Aae (nth Ah9)=[jSt 0,jSt 1,jSt 2,jSt 3] from Auf];have hρ1:([("a":Str),"n"].zip [D.int a,.int n]).reverse=[(("n":Str),D.int n),(("a":Str),D.int a)]:=rfl;rw[hρ1] at F;have K0:Acw B (m+8) (mkT (Adx [(.builtin "int.bit_length",bBits)]) Abx) s g:=AbF W (AaX (al AmM an)) s g I;have S0:=(AaZ W.O K0 hA' 8).1 (Aam env.scope.names) env [(("n":Str),D.int n),(("a":Str),D.int a)]
 -- a_digits=[0]*..
 refine wpAny_execs_cons ?_;rw[AAo];refine Aef rfl (wpAny_BinOp ((S0 (binL (Aaj (jSt 0))) (.list [.int 0]) s1 g (ArC rfl (AbP rfl (Aac rfl rfl) (Aar rfl)) (by simp)) F).use fun v2 s2 g2 x2 h2=>?_));have F2:=F.step x2;refine(S0 (binR (Aaj (jSt 0))) (.int k) s2 g2 (by rw[e1];exact Axk hK hn1 hn2 (by omega)) F2).useI fun _ s3 g3 x3=>?_;have F3:=F2.step x3;have h2':=h2.mono x3.le;induction h2' using Den.listE with|list q1 q2=>?_
 rename_i us nn0;have hus:∃ t,us.toList=[Value.int 0 t]:=by
  cases e:us.toList with
  |nil=>rw[e] at q2;cases q2 using Aav.consE
  |cons u r=>
   rw[e] at q2
   cases q2 using Aav.consE with|cons q3 q4=>?_
   induction q4 using Aav.nilE;induction q3 using Den.intE;exact⟨_,rfl⟩
 obtain⟨t0,hus⟩:=hus
 have husz:us.size=1:=by rw[← Array.length_toList,hus];rfl
 refine Ag0 (F3.inv.get q1) (by omega) (by omega) (by rw[husz];simp;omega) ?_;have hcont:=ApO (k:Int).toNat us t0 hus;generalize List.foldl (fun x1 x2=>x1++x2) #[] (List.replicate (if us.isEmpty=true then 0 else (k:Int).toNat) us)=cs at hcont;rw[Int.toNat_natCast] at hcont;have x4:=Aag.open (o:={cls:=.type "list",data:=.seq cs}) W.O F3.inv;have F4:=F3.step x4;have hLa:(s3.heap.push {cls:=.type "list",data:=.seq cs}).get? s3.heap.objs.size=some (Abq cs 0):=Heap.get?_push_size _ rfl;have sLa:s.heap.get? s3.heap.objs.size=none:=F3.st.ext.dead (Aa1 _);have gLa:g3 s3.heap.objs.size=none:=F3.inv.fresh;generalize s3.heap.objs.size=La at hLa sLa gLa;refine F4.store W.O (Abl (by rw[e1];exact Axj)) (.val (v:=.ref La)) fun s5 F5 k5=>?_;have hL5:Ae3 s5.heap La cs:=⟨0,k5 La _ (F4.notLoc hLa (by intro v e;injection e) (by intro _ _ e;injection e)) hLa⟩
 -- def inner
 refine wpAny_execs_cons ?_;rw[AAe];refine Afx (Ak8 (a:=Adb) W (AzW B.w.params)) fun c P hcd hmem=>?_;refine F5.defStm W.O W.bm W.TT (e2.trans hcd) hmem ?_ Aug Axh (by rw[e1];exact Ak9) (by rw[e1];exact Axi) fun ai fd s6 g6 l6 F6 M6=>?_
 ·rw[show Abp (jSt 1)=Abp (((Aae (nth Ah9))[1]?).getD AbZ) from rfl,AzS];unfold qualnameIn;have:(env.kindOf ("inner":Str) == some NameKind.globalExplicit)=false:=by unfold Env.kindOf;rw[e1];kernel_rfl!
  rw[this,if_neg Bool.false_ne_true,e3,AzV];rfl
 have notLocL:∀ {s7:Shared} {g7:Gh} {ρ7:Rho} {us:Array Value},Fm B s g (Aam env.scope.names) env ρ7 s7 g7→Ae3 s7.heap La us→¬ Loc env (Aam env.scope.names) La:=fun {s7 g7 ρ7 us} F7 h7=>by
  obtain⟨n7,e7⟩:=h7
  exact F7.notLoc e7 (by intro v e;injection e) (by intro _ _ e;injection e)
 have hL6:Ae3 s6.heap La cs:=by
  obtain⟨n5,e5⟩:=hL5
  exact⟨n5,(l6.2 La _ (notLocL F5 ⟨n5,e5⟩) e5 Acl).1⟩
 have gL6:g6 La=none:=by
  obtain⟨n5,e5⟩:=hL5
  exact(l6.2 La _ (notLocL F5 ⟨n5,e5⟩) e5 Acl).2 gLa
 have C6:=(AeP F6 (scope:=jSc) (fun x hx=>(Abj Ak9 x hx).1) (fun x hx=>by unfold Env.kindOf;rw[e1];exact(Abj Ak9 x hx).2)).2;rw[ArP] at C6;have hnn:((n.toNat:Nat):Int)=n:=Int.toNat_of_nonneg (by omega)
 -- the end
 have fin:∀ {s7:Shared} {g7:Gh} {us:Array Value},Fm B s g (Aam env.scope.names) env (("inner",.val (.ref ai)) :: ("a_digits",.val (.ref La)) :: [("n",D.int n),("a",D.int a)]) s7 g7→Ae3 s7.heap La us→g7 La=none→AbN us (AdT n.toNat k a) →
   wpAny B.M (A.deeper env) (execs [jSt 3] env) QQ EE s7:=fun {s7 g7 us} F7 h7 gl7 hi7=>by
  refine wpAny_execs_cons ?_;rw[AAq];refine wpAny_Return_some ((F7.name (x:="a_digits") (d:=.val (.ref La)) rfl rfl).useV fun s8 g8 x8=>?_);have F8:=F7.step x8;refine Abo (h7.step x8) fun n8 e8=>?_;have gl8:=h7.none x8 gl7;exact hPost _ _ ⟨_,F8.st.shut sLa e8 gl8 Acl,.list (Gh.put_self ..) (hi7.den)⟩
 -- if a
 refine wpAny_execs_cons ?_;rw[AAp];generalize hρ6:((("inner",.val (.ref ai)) :: ("a_digits",.val (.ref La)) :: [("n",D.int n),("a",D.int a)]:Rho))=ρ6 at F6 fin;have T6:=(AaZ W.O (ArQ W s g) hA' 8).2 (Aam env.scope.names) env ρ6;have S6:=(AaZ W.O (ArQ W s g) hA' 8).1 (Aam env.scope.names) env ρ6;refine wpAny_If ((T6 (exprOf (jSt 2)) (a != 0) s6 g6 (by rw[← hρ6];exact AaM (Aa6 rfl) rfl) F6).use fun b s7 g7 x7 hb=>?_);have F7:=F6.step x7;have hL7:=hL6.step x7;have gL7:=hL6.none x7 gL6
 by_cases h0:a=0
 ·have:b=false:=by rw[hb,h0];rfl
  subst this;show wpAny _ _ (execs [] env) _ _ _;refine wpAny_execs_nil (fin F7 hL7 gL7 ?_);rw[h0,Al5];exact hcont
 ·have:b=true:=by rw[hb];simpa using h0
  subst this;have hkpos:0<k:=by
   induction k using Nat.casesAuxOn with
   |zero=>rw[Nat.mul_zero] at hak;exfalso;have:a<1:=hak;omega
   |succ k=>omega
  show wpAny _ _ (execs [jC] env) _ _ _;refine wpAny_execs_cons ?_;rw[ACm];refine wpAny_Expr_any ?_ (by unfold interactive;rw[e1];kernel_rfl!) (ArS env);refine wpAny_Call_NameR ((F7.name (x:="inner") (d:=.val (.ref ai)) (by rw[← hρ6];rfl) rfl).useV fun s8 g8 x8=>?_);have F8:=F7.step x8;rw[Aaw (by intro e he;simp only[List.mem_cons,List.not_mem_nil,or_false] at he;rcases he with rfl|rfl|rfl<;>rfl)];have C8:=((C6.step x7).step x8);have M8:=((M6.step x7).step x8);have hL8:=hL7.step x8;have gL8:=hL7.none x8 gL7;have H8:IH0 B ai fd (clos env jSc.names []) La n.toNat s8 g8 (List.replicate k 0):=⟨F8.inv,M8,by rw[hnn];exact C8,⟨cs,hL8,hcont⟩,gL8⟩;refine Aby (first:=[]) (P:=fun g' vs=>Aav g' vs [.int a,.int 0,.int k]) (.inr (.inr ⟨ai,_,fd,rfl,M8.obj,rfl⟩)) (by simp) ?_ fun us s9 g9 x9 hus9=>?_
  ·refine Calls.spliced_cons ((S6 (Afw 0 (exprOf jC)) (.int a) s8 g8 (by rw[← hρ6];exact Aa6 rfl) F8).use fun v9 s9 g9 x9 h9=>?_);have F9:=F8.step x9;refine Calls.spliced_cons ((S6 (Afw 1 (exprOf jC)) (.int 0) s9 g9 (by exact Aac rfl rfl) F9).use fun v10 s10 g10 x10 h10=>?_);have F10:=F9.step x10;have hk:env.kindOf ("len":Str)=some .globalImplicit:=by unfold Env.kindOf;rw[e1];kernel_rfl!
   refine Calls.spliced_cons (wpAny_Call_NameR ((F10.gname W.O hk (Abm W "len" _ rfl) rfl).use fun fv s11 g11 x11 h11=>?_));subst h11;have F11:=F10.step x11;rw[Aaw (by intro e he;simp only[List.mem_cons,List.not_mem_nil,or_false] at he;subst he;rfl)];have hL11:=(((hL8.step x9).step x10).step x11);refine Aby (g:=g11) (first:=[]) (P:=fun _ vs=>vs=[.ref La]) (.inl ⟨_,rfl⟩) (by simp) (Calls.spliced_cons ((F11.name (x:="a_digits") (d:=.val (.ref La)) (by rw[← hρ6];rfl) rfl).use fun v12 s12 g12 x12 h12=>?_)) fun us s12 g12 x12 h12=>?_
   ·induction h12 using Den.valE;exact wpAny_pure ⟨g12,x12,rfl⟩
   ·subst h12;refine Abo (hL11.step x12) fun n12 e12=>?_;have hcsz:cs.size=k:=by have:=hcont.size;simpa using this
    show wpAny _ _ (call (.builtin "len") [.ref La]) _ _ _;refine len_list ⟨_,e12,rfl,_,rfl⟩ (by omega) (wpAny_pure ⟨g12,(((x9.trans x10).trans x11).trans x12).trans (Aag.tok x12.inv _),?_⟩);rw[hcsz];exact .cons (((h9.mono x10.le).mono x11.le).mono x12.le) (.cons ((h10.mono x11.le).mono x12.le) (.cons .int .nil))
  ·have F9:=F8.step x9;have H9:=H8.step x9;have hL9:=hL8.step x9;have gL9:=hL8.none x9 gL8;have e2':((k:Int) - 0).toNat=k:=by rw[Int.sub_zero,Int.toNat_natCast]
   refine wpAny_mono (AAn (m:=m) W (by omega) 6 (A.deeper env) s9 g9 (List.replicate k 0) a 0 k us (hA'.le (by omega)) H9 (Int.le_refl _) (by omega) (by simp) (by simp;omega) (by simpa using hnk) (by omega) ha (by rw[e2'];exact hak) hus9) (fun v s10 hv=>?_) fun _ _ e=>e.elim
   obtain⟨_,g10,s0,vs0,p,hv0,x10⟩:=hv
   rw[e2',AAr k _ (Adl _ _ _)] at hv0
   obtain⟨n9,e9⟩:=hL9
   have nl:La≠env.locals:=fun e=>notLocL F9 ⟨n9,e9⟩ (.inl e);have F10:=(F9.turnE W.O sLa gL9 e9 Adk (by intro v e;injection e) nl p.heap.extBut p.gens p.os).step x10;exact wpAny_execs_nil (fin F10 (p.has.step x10) (p.has.none x10 gL9) hv0)
end
section
variable{B:Bs}{n:Nat}
theorem Ai5(W:LW B){a:Addr}{fd:FuncData}{params:List Str}{body:List Stmt}{sc:Scope}{k m:Nat}{T:Tb}(Dd:AbJ B a fd params body)(hsc:fd.scope=sc)(K:∀ s g,Inv B s g→Acw B n T s g){F':List D→Option D}
  (h:∀ ds r,F' ds=some r→params.length=ds.length∧ex (T.stm (Aam sc.names) sc) (ev T k sc) (Aam sc.names) sc m (params.zip ds).reverse body=some (.ret r)):AbC B (n+1) (.ref a) F':=by
 subst hsc;refine(AbK W.O (k:=k) (m:=m) Dd K).less fun ds r hr=>?_;refine AaG (h ds r hr) fun h1 h2=>?_;unfold fnD;rw[if_pos h1,h2]
end
noncomputable def ADK:Value→Tok
 |.int _ t=>t
 |_=>0
noncomputable def Axl(p:Params):Tok:=ADK ((Ak6 p "_DIV_LIMIT").getD .none)
theorem ACn(p:Params):Ak6 p "_DIV_LIMIT"=some (.int 4000 (Axl p)):=by kernel_rfl!
noncomputable def Al6(p:Params)(x:Str):Option Value:=if x = "_DIV_LIMIT" then some (.int 4000 (Axl p)) else Aua.lookup x
noncomputable def Td(p:Params):Tb:=⟨Al6 p,Adx [(.builtin "int.bit_length",bBits),(.builtin "divmod",bDivmod)],Abx,fun _ _ _=>none,fun _ _ _ _=>none⟩
theorem ACo{B:Bs}(W:LW B){n:Nat}(s:Shared)(g:Gh)(I:Inv B s g):Acw B n (Td B.w.params) s g where
 glob:=fun x v e=>by
  have e:Al6 B.w.params x=some v:=e;unfold Al6 at e
  split at e
  ·rename_i h;subst h;exact W.gl _ _ ((ACn _).trans e)
  ·exact Abm W x v e
 app:=fun v F e=>(AaX (n:=n) (fun p hp=>by
  simp only[List.mem_cons,List.not_mem_nil,or_false] at hp
  rcases hp with rfl|rfl
  ·exact AmM
  ·exact Aqs W.O) v F e).at I
 spec:=fun _ _ _ _ _ _ _ _ _ e=>by exact Aah e
 stm:=fun _ _ _ _ _ _ _ _ _ _ _ _ e=>by exact Aah e
 meth:=AeR
theorem AAs(p:Params):(Td p).glob "_DIV_LIMIT"=some (.int 4000 (Axl p)):=by have h:(Td p).glob=Al6 p:=rfl;rw[h];unfold Al6;rw[if_pos rfl]
noncomputable def div2D:List D→Option D:=fn3 fun x y z=>Aci x fun a=>Aci y fun b=>Aci z fun n=>
 if b≠0∧b.natAbs<1073741824∧((Builtin.Int.intBits a:Nat):Int) - n≤4000 then some (.tup [.int (a.fdiv b),.int (a.fmod b)]) else none
theorem Axm{B:Bs}(W:LW B){n:Nat}:AbC B (n+1) (.ref AcF) div2D:=by
 refine Ai5 (k:=8) (m:=8) (T:=Td B.w.params) W (Aov W.G) (Ag8 _) (fun s g I=>ACo W s g I) fun ds r hr=>?_;refine Avt (AvA hr) fun x y z q1 k_1=>?_;subst q1;refine Aaf (Aas k_1) fun a q2 ka=>?_;subst q2;refine Aaf (Aas ka) fun b q3 kb=>?_;subst q3;refine Aaf (Aas kb) fun nn q4 kc=>?_;subst q4;refine AaG (Abs kc) fun hc k_2=>?_;rw[← sj k_2];refine⟨rfl,?_⟩;refine Al2 rfl rfl ?_ ?_
 ·apply AaM;apply Ab8 rfl rfl
  ·apply Abh rfl
   ·exact AdS rfl rfl ⟨rfl,rfl,by decide⟩ (Aa6 rfl) rfl rfl rfl (Aar rfl) rfl
   ·exact Aa6 rfl
   ·exact rfl
  ·exact Aw9 rfl rfl rfl rfl (AAs _)
  ·exact Az7 hc.2.2
  ·exact rfl
 ·refine AcU rfl rfl ?_;exact AjQ rfl (AbP rfl (Aa6 rfl) (AbP rfl (Aa6 rfl) (Aar rfl))) (if_pos ⟨hc.1,hc.2.1⟩)
end Mine
namespace Mine
open PySem PySem.W PyProof.Rows PySem.Calls
section
variable{B:Bs}{A:Around}{s₀ s s' s1 s2:Shared}{g₀ g g' g1:Gh}{own:List Str}{env:Env}{ρ ρ':Rho}{La:Addr}{vs vs':Array Value}{n k:Nat}{T:Tb}
theorem Fm.notL(F:Fm B s₀ g₀ own env ρ s g)(h:Ae3 s.heap La vs):¬ Loc env own La:=by refine Abo h fun n e=>?_;exact F.notLoc e (by intro v e;injection e) (by intro _ _ e;injection e)
theorem Fm.turnL(O:B.Ok)(F:Fm B s₀ g₀ own env ρ s g)(h:Ae3 s.heap La vs)(h0:s₀.heap.get? La=none)(hg:g La=none)(p:Agi La s vs' s'):Fm B s₀ g₀ own env ρ s' g:=by have nl:=F.notL h;refine Abo h fun n e=>?_;exact F.turnE O h0 hg e Adk (by intro v e;injection e) (fun e=>nl (Or.inl e)) p.heap.extBut p.gens p.os
theorem Fm.shutL(F:Fm B s₀ g₀ own env ρ s g){c:Nat}(e:s.heap.get? La=some (Abq vs c))(h0:s₀.heap.get? La=none)(hg:g La=none){ds:List D}(hd:Aav g vs.toList ds)
  (hρ:∀ y d,ρ'.lookup y=some d→ρ.lookup y=some d∨(ρ.lookup y=some (.val (.ref La))∧d=.list ds)):Fm B s₀ g₀ own env ρ' s (g.put La (Abq vs c)):=by
 have nl:=F.notL ⟨c,e⟩;have le:=Gh.le_put (Abq vs c) hg;have dl:Den (g.put La (Abq vs c)) (.ref La) (.list ds):=.list (Gh.put_self ..) (hd.mono le);refine Aaf F.vars fun m hm hv=>?_;refine⟨F.st.shut h0 e hg Acl,F.kind,F.glob,F.blt,⟨m,hm,fun y d ey ky=>?_⟩,fun y hy=>?_,fun y d ey=>?_,⟨F.loc.1,?_⟩,fun y hy=>?_⟩
 ·rcases hρ y d ey with h|⟨h,rfl⟩
  ·refine Aaf (hv y d h ky) fun v e1 e2=>?_;exact⟨v,e1,e2.mono le⟩
  ·refine Aaf (hv y _ h ky) fun v e1 e2=>?_;induction e2 using Den.valE;exact⟨_,e1,dl⟩
 ·refine Adp (F.cells y hy) fun cc v e1 e2 e3=>?_;refine⟨cc,v,e1,e2,fun d hd'=>?_⟩
  rcases hρ y d hd' with h|⟨h,rfl⟩
  ·refine Aaf (e3 d h) fun v' e4 e5=>?_;exact⟨v',e4,e5.mono le⟩
  ·refine Aaf (e3 _ h) fun v' e4 e5=>?_;induction e5 using Den.valE;exact⟨_,e4,dl⟩
 ·rcases hρ y d ey with h|⟨h,_⟩<;>exact F.kinds y _ h
 ·rw[Gh.put_other (fun e=>nl (Or.inl e.symm))];exact F.loc.2
 ·refine Ay0 (F.own y hy) fun cc v e1 e2 e3 e4 e5=>?_;refine⟨cc,v,e1,e2,e3,?_,e5⟩;rw[Gh.put_other (fun e=>nl (Or.inr ⟨y,hy,by rw[← e];exact e1⟩))];exact e4
theorem Ake(O:B.Ok)(K:Acw B n T s₀ g₀)(hA:AOk n A)(F:Fm B s₀ g₀ own env ρ s g){st:Stmt}{x:Str}{e:Expr}{q1 apos pos p2:Pos}{d:D}(hst:st=.Expr (.Call (.Attribute (.Name x q1) "append" apos) [e] [] pos) p2)
  (hl:(apos.endLine == pos.line)=true) (hns:AbL e=true) (hint:interactive env=false) (hsw:swapsWith (.Call (.Attribute (.Name x q1) "append" apos) [e] [] pos) none p2.line env=pure false)
  (hx:ρ.lookup x=some (.val (.ref La))) (hok:AbB x=true) (he:ev T k env.scope ρ e=some d) (hL:Ae3 s.heap La vs) (h0:s₀.heap.get? La=none) (hg:g La=none) (hsz:vs.size≤1000000) {Q:Flow→Shared→Prop} {E:Value→Shared→Prop}
  (hq:∀ v s' g',Fm B s₀ g₀ own env ρ s' g'→Ae3 s'.heap La (vs.push v)→Den g' v d→g' La=none→g.le g'→(∀ a o,a≠La→s.heap.get? a=some o→Abv o→s'.heap.get? a=some o∧(g a=none→g' a=none))→Q .next s'):wpAny B.M A (exec st env) Q E s:=by
 subst hst;have S:=(AaZ O K hA k).1 own env ρ;refine wpAny_Expr_any ?_ hint hsw;have hb:backTo pos (starEach [e] env)=[(false,eval e env)]:=Aaw (by intro e' he';simp at he';subst he';exact hns);refine wpAny_Call_method (AeU rfl) ?_ hl PySem.F.plainAttrs_list PySem.F.slot_list_append PySem.F.type_list_append ((F.name hx hok).use fun ov s1 g1 x1 ho=>?_)
 ·rw[hb];rfl
 ·induction ho using Den.valE;have hL1:=hL.step x1;have F1:=F.step x1;refine Abo (id hL1) fun c1 e1=>?_;refine⟨⟨_,e1,rfl⟩,fun a ea=>by cases ea;exact⟨_,e1,rfl⟩,?_⟩;rw[hb];refine Aby (g:=g1) (P:=fun g' vs=>Aav g' vs [d]) (.inl ⟨_,rfl⟩) (by simp) (Calls.spliced_cons ((S e d s1 g1 he F1).use fun v s2 g2 x2 hv=>wpAny_pure ⟨g2,x2,.cons hv .nil⟩)) fun us s2 g2 x2 hus=>?_;induction hus using Aav.consE with|cons hv hn=>?_
  induction hn using Aav.nilE;have F2:=F1.step x2;have hL2:=hL1.step x2;have hg2:=hL1.none x2 (hL.none x1 hg);show wpAny _ _ (call (.builtin "list.append") [.ref La,_]) _ _ _;refine ApL hL2 hsz fun s3 p3=>?_;exact hq _ s3 g2 (F2.turnL O hL2 h0 hg2 p3) p3.has hv hg2 (x1.le.trans x2.le) fun a o ha ea hn=>⟨p3.keep ha ((x1.trans x2).ext.keep a o ea hn),(x1.trans x2).shutNone ea⟩
theorem Ana(O:B.Ok)(F:Fm B s₀ g₀ own env ρ s g){st:Stmt}{x:Str}{q1 apos pos p2:Pos}(hst:st=.Expr (.Call (.Attribute (.Name x q1) "reverse" apos) [] [] pos) p2)
  (hl:(apos.endLine == pos.line)=true) (hint:interactive env=false) (hsw:swapsWith (.Call (.Attribute (.Name x q1) "reverse" apos) [] [] pos) none p2.line env=pure false)
  (hx:ρ.lookup x=some (.val (.ref La))) (hok:AbB x=true) (hL:Ae3 s.heap La vs) (h0:s₀.heap.get? La=none) (hg:g La=none) (hsz:vs.size≤1000000) {Q:Flow→Shared→Prop} {E:Value→Shared→Prop}
  (hq:∀ s' g',Fm B s₀ g₀ own env ρ s' g'→Ae3 s'.heap La vs.reverse→g' La=none→g.le g'→Q .next s'):wpAny B.M A (exec st env) Q E s:=by
 subst hst;refine wpAny_Expr_any ?_ hint hsw;refine wpAny_Call_method (AeU rfl) rfl hl PySem.F.plainAttrs_list PySem.F.slot_list_reverse PySem.F.type_list_reverse ((F.name hx hok).useV fun s1 g1 x1=>?_);have hL1:=hL.step x1;have F1:=F.step x1;refine Abo (id hL1) fun c1 e1=>?_;have hg1:=hL.none x1 hg;refine⟨⟨_,e1,rfl⟩,fun a ea=>by cases ea;exact⟨_,e1,rfl⟩,?_⟩;refine Aby (g:=g1) (P:=fun g' vs=>vs=[]) (.inl ⟨_,rfl⟩) (fun x hx=>absurd (show x∈([]:List (Bool×Sem Value)) from hx) List.not_mem_nil) (wpAny_pure ⟨g1,Aag.refl F1.inv,rfl⟩) fun us s2 g2 x2 hus=>?_;subst hus;have F2:=F1.step x2;have hL2:=hL1.step x2;refine Abo (id hL2) fun c2 e2=>?_;have hg2:=hL1.none x2 hg1;show wpAny _ _ (call (.builtin "list.reverse") [.ref La]) _ _ _;refine call_meets PySem.F.slot_list_reverse ⟨_,e2,rfl⟩ PySem.F.entry_list_reverse (PySem.F.args_list_reverse_1 _) (AutoListH.list_reverse_list_0 _ vs _ (AaL hsz)) ⟨e2,?_⟩;have p:Agi La s2 vs.reverse {s2 with heap:=s2.heap.update La (Obj.mapSeq fun x=>x.reverse),toks:=s2.toks}:=⟨Heap.SameBut.update ..,⟨_,Heap.get?_update_self _ e2 rfl⟩,rfl,rfl⟩;exact hq _ g2 (F2.turnL O hL2 h0 hg2 p) p.has hg2 (x1.le.trans x2.le)
end
end Mine
namespace Mine
open PySem PySem.W PyProof.Rows PySem.W.X
noncomputable def Ai6(b:Int)(n:Nat):List Int→Int→List Int×Int
 |[],r=>([],r)
 |d :: ds,r=>((r*2 ^ n+d) / b :: (Ai6 b n ds ((r*2 ^ n+d) % b)).1,(Ai6 b n ds ((r*2 ^ n+d) % b)).2)
theorem Anb(n:Nat)(xs:List Int)(x:Int):Abg n (xs++[x])=Abg n xs+2 ^ (n*xs.length)*x:=by rw[Aeg];simp [Abg]
theorem Anc{b:Int}{n:Nat}(hb:0<b)(hbn:b≤2 ^ n):∀ (ds:List Int) (r:Int),(∀ d∈ds,0≤d∧d<2 ^ n)→0≤r→r<b →
  r*2 ^ (n*ds.length)+Abg n ds.reverse=b*Abg n (Ai6 b n ds r).1.reverse+(Ai6 b n ds r).2∧0≤(Ai6 b n ds r).2∧(Ai6 b n ds r).2<b∧(∀ q∈(Ai6 b n ds r).1,0≤q∧q<2 ^ n)∧(Ai6 b n ds r).1.length=ds.length
 |[],r,_,h0,h1=>by simp [Ai6,Abg];omega
 |d :: ds,r,hd,h0,h1=>by
  refine AaG (hd d (.head _)) fun d0 d1=>?_;have hp:(0:Int)<2 ^ n:=Int.pow_pos (by decide);have m0:0≤(r*2 ^ n+d) % b:=Int.emod_nonneg _ (Int.ne_of_gt hb);have m1:(r*2 ^ n+d) % b<b:=Int.emod_lt_of_pos _ hb;refine Awh (Anc hb hbn ds ((r*2 ^ n+d) % b) (fun x hx=>hd x (.tail _ hx)) m0 m1) fun e1 e2 e3 e4 e5=>?_;have x0:0≤r*2 ^ n+d:=Int.add_nonneg (Int.mul_nonneg h0 (Int.le_of_lt hp)) d0;refine⟨?_,e2,e3,fun q hq=>?_,by simp [Ai6,e5]⟩
  ·have hlen:(Ai6 b n ds ((r*2 ^ n+d) % b)).1.reverse.length=ds.length:=by simp [e5]
   simp only[Ai6,List.reverse_cons,Anb,hlen,List.length_reverse];have hx:=Int.emod_add_mul_ediv (r*2 ^ n+d) b;have e6:n*(d :: ds).length=n+n*ds.length:=by rw[List.length_cons,Nat.mul_succ,Nat.add_comm]
   rw[e6,Int.pow_add,Int.mul_add,← Int.add_assoc];generalize (r*2 ^ n+d) / b=q at *;generalize (r*2 ^ n+d) % b=m at *;generalize (2:Int) ^ (n*ds.length)=P at *;have:r*(2 ^ n*P)+(Abg n ds.reverse+P*d)=(r*2 ^ n+d)*P+Abg n ds.reverse:=by rw[Int.add_mul,Int.mul_assoc,Int.mul_comm P d,Int.add_comm (Abg n ds.reverse)];exact(Int.add_assoc ..).symm
   rw[Int.add_assoc (r*(2 ^ n*P)),this,← hx,Int.add_mul];have e7:b*q*P=b*(P*q):=by rw[Int.mul_assoc,Int.mul_comm q P]
   rw[e7,Int.add_right_comm,e1,Int.add_right_comm]
  ·rcases List.mem_cons.mp hq with rfl|hq
   ·refine⟨Int.ediv_nonneg x0 (Int.le_of_lt hb),Int.ediv_lt_of_lt_mul hb ?_⟩;have:(r+1)*2 ^ n≤b*2 ^ n:=Int.mul_le_mul_of_nonneg_right (Int.add_one_le_of_lt h1) (Int.le_of_lt hp);rw[Int.add_mul,Int.one_mul] at this;rw[Int.mul_comm (2 ^ n) b];exact Int.lt_of_lt_of_le (Int.add_lt_add_left d1 _) this
   ·exact e4 q hq
theorem Ai7(n:Nat):∀ (k:Nat) (x:Int),0≤x→x<2 ^ (n*k)→Abg n (AdT n k x)=x
 |0,x,h0,h1=>by rw[Nat.mul_zero] at h1;have:x<1:=h1;simp [AdT,Abg];omega
 |k+1,x,h0,h1=>by
  have hp:(0:Int)<2 ^ n:=Int.pow_pos (by decide);have e:n*(k+1)=n+n*k:=by rw[Nat.mul_succ,Nat.add_comm]
  rw[e,Int.pow_add] at h1;rw[AdT,Abg,Ai7 n k _ (Int.ediv_nonneg h0 (Int.le_of_lt hp)) (Int.ediv_lt_of_lt_mul hp (by rw[Int.mul_comm];exact h1))];exact Int.emod_add_mul_ediv x _
theorem AeW(n:Nat):∀ (k:Nat) (x:Int),∀ d∈AdT n k x,0≤d∧d<2 ^ n
 |0,x,d,h=>by cases h
 |k+1,x,d,h=>by
  have hp:(0:Int)<2 ^ n:=Int.pow_pos (by decide)
  rcases List.mem_cons.mp h with rfl|h
  ·exact⟨Int.emod_nonneg _ (Int.ne_of_gt hp),Int.emod_lt_of_pos _ hp⟩
  ·exact AeW n k _ d h
theorem Aui{a b:Int}{n k:Nat}(ha:0≤a)(hak:a<2 ^ (n*k))(hb:0<b)(hbn:b≤2 ^ n) :
  Abg n (Ai6 b n (AdT n k a).reverse 0).1.reverse=a / b∧(Ai6 b n (AdT n k a).reverse 0).2=a % b:=by
 refine Aoa (Anc hb hbn (AdT n k a).reverse 0 (fun d hd=>AeW n k a d (by simpa using hd)) (Int.le_refl _) hb) fun e1 e2 e3 _=>?_;rw[List.reverse_reverse,Ai7 n k a ha hak,Int.zero_mul,Int.zero_add] at e1;generalize Abg n (Ai6 b n (AdT n k a).reverse 0).1.reverse=q at *;generalize (Ai6 b n (AdT n k a).reverse 0).2=r at *;have h1:a / b=q:=by rw[e1,Int.add_comm,Int.add_mul_ediv_left _ _ (Int.ne_of_gt hb),Int.ediv_eq_zero_of_lt e2 e3,Int.zero_add]
 have h2:=Int.emod_add_mul_ediv a b;rw[h1] at h2;exact⟨h1.symm,(Int.add_left_inj (b*q)).mp ((Int.add_comm r _).trans (e1.symm.trans h2.symm))⟩
noncomputable def mSt(i:Nat):Stmt:=(AzQ[i]?).getD AbZ
noncomputable def mB(i:Nat):Stmt:=((loopOf (mSt 4))[i]?).getD AbZ
theorem Auj:AzQ=[mSt 0,mSt 1,mSt 2]++[mSt 3,mSt 4,mSt 5,mSt 6,mSt 7]:=by kernel_rfl!
theorem AAt:mSt 3=.Assign [.Name "q_digits" (AbH (mSt 3)).pos] (.List [] (Aaj (mSt 3)).pos) (Abp (mSt 3)):=by kernel_rfl!
theorem AAu:mSt 4=.For (.Name "a_digit" (tgtOf (mSt 4)).pos) (.Call (.Name "reversed" (Ac7 (iterOf (mSt 4)))) [.Name "a_digits" (Afw 0 (iterOf (mSt 4))).pos] [] (iterOf (mSt 4)).pos) ([mB 0]++[mB 1]) [] (Abp (mSt 4)):=by kernel_rfl!
theorem AAv:mB 1=.Expr (.Call (.Attribute (.Name "q_digits" (attrO (attrOf (exprOf (mB 1)))).pos) "append" (attrOf (exprOf (mB 1))).pos) [Afw 0 (exprOf (mB 1))] [] (exprOf (mB 1)).pos) (Abp (mB 1)):=by kernel_rfl!
theorem Axn(env:Env):swapsWith (.Call (.Attribute (.Name "q_digits" (attrO (attrOf (exprOf (mB 1)))).pos) "append" (attrOf (exprOf (mB 1))).pos) [Afw 0 (exprOf (mB 1))] [] (exprOf (mB 1)).pos) none (Abp (mB 1)).line env=pure false:=rfl
theorem AAw:mSt 5=.Expr (.Call (.Attribute (.Name "q_digits" (attrO (attrOf (exprOf (mSt 5)))).pos) "reverse" (attrOf (exprOf (mSt 5))).pos) [] [] (exprOf (mSt 5)).pos) (Abp (mSt 5)):=by kernel_rfl!
theorem ArT{M:Model}{A:Around}{t:Expr}{it:Value}{i:Int}{u:Tok}{s:Shared}{Q:Unit→Shared→Prop}{E:Value→Shared→Prop}(h:Q () s):wpAny M A (letOwnedTupleGo t it (.int i u)) Q E s:=by induction t using Expr.casesOn<;>first|exact wpAny_pure h|(induction it using Value.casesOn<;>exact wpAny_pure h)
noncomputable def AsW(La:Addr)(a b:Int)(n:Nat)(l:List D)(r:Int):Rho:=[(("q_digits":Str),.val (.ref La)),(("r":Str),.int r),(("a_digits":Str),.list l),(("n":Str),.int n),(("b":Str),.int b),(("a":Str),.int a)]
noncomputable def Tm:Tb:=mkT (Adx [(.ref AcF,div2D)]) Abx
theorem ACp{B:Bs}(W:LW B){m:Nat}(s:Shared)(g:Gh)(I:Inv B s g):Acw B (m+1) Tm s g:=AbF W (AaX (al (Axm W) an)) s g I
theorem Auk{La:Addr}{a b:Int}{n:Nat}{l:List D}{r d:Int}(hb:0<b)(hb2:b<1073741824)(hbn:b≤2 ^ n)(hn:n≤30)(hr0:0≤r)(hr1:r<b)(hd0:0≤d)(hd1:d<2 ^ n) :
  ex (Tm.stm (Aam Ad9.names) Ad9) (ev Tm 8 Ad9) (Aam Ad9.names) Ad9 8 ((("a_digit":Str),.int d) :: AsW La a b n l r) [mB 0] =
   some (.next ((("r":Str),.int ((r*2 ^ n+d) % b)) :: (("q_digit":Str),.int ((r*2 ^ n+d) / b)) :: (("a_digit":Str),.int d) :: AsW La a b n l r)):=by
 have p3:(2:Nat) ^ 64=18446744073709551616:=by decide
 have p4:(2:Int) ^ 64=18446744073709551616:=by decide
 have p2:(2:Int) ^ n≤2 ^ 30:=by
  have:=Nat.pow_le_pow_right (n:=2) (by decide) hn
  exact_mod_cast this
 have p5:(2:Int) ^ 30=1073741824:=by decide
 have hp:(0:Int)<2 ^ n:=Int.pow_pos (by decide);have x0:0≤r*2 ^ n:=Int.mul_nonneg hr0 (Int.le_of_lt hp);have x1:r*2 ^ n≤1073741824*1073741824:=Int.mul_le_mul (Int.le_trans (Int.le_of_lt hr1) (Int.le_of_lt hb2)) p2 (Int.le_of_lt hp) (by decide);have hbits:Builtin.Int.intBits (r*2 ^ n+d)≤64:=intBits_le_64 (Int.lt_of_lt_of_le (by decide) (Int.add_nonneg x0 hd0)) (Int.lt_of_le_of_lt (Int.add_le_add x1 (Int.le_of_lt (Int.lt_of_lt_of_le hd1 p2))) (by decide));have hdiv:div2D [.int (r*2 ^ n+d),.int b,.int n]=some (.tup [.int ((r*2 ^ n+d) / b),.int ((r*2 ^ n+d) % b)]):=by have e1:(r*2 ^ n+d).fdiv b=(r*2 ^ n+d) / b:=Int.fdiv_eq_ediv_of_nonneg _ (Int.le_of_lt hb);have e2:(r*2 ^ n+d).fmod b=(r*2 ^ n+d) % b:=Int.fmod_eq_emod_of_nonneg _ (Int.le_of_lt hb);rw[← e1,← e2];exact if_pos ⟨Int.ne_of_gt hb,Int.ofNat_lt.mp ((Int.natAbs_of_nonneg (Int.le_of_lt hb)).symm ▸ hb2),Int.le_trans (Int.sub_le_self _ (Int.natCast_nonneg n)) (Int.le_trans (Int.ofNat_le.mpr hbits) (by decide))⟩
 refine At9 rfl rfl ⟨rfl,rfl⟩ (ds:=[.int ((r*2 ^ n+d) / b),.int ((r*2 ^ n+d) % b)]) ?_ ?_ (Ach rfl)
 ·refine AjQ rfl (AbP rfl ?_ (AbP rfl (Aa6 rfl) (AbP rfl (Aa6 rfl) (Aar rfl)))) (ds:=[.int (r*2 ^ n+d),.int b,.int n]) hdiv;have hs:r*2 ^ n=r*2 ^ (n:Int).toNat:=by rw[Int.toNat_natCast]
  rw[hs]
  repeat (first
   |exact Aac rfl rfl
   |exact Aa6 rfl
   |apply Abh rfl
   |exact Ak5 ⟨Int.natCast_nonneg _,Int.le_trans (Int.ofNat_le.mpr hn) (by decide),Axa hr0 (Int.lt_trans hr1 (Int.lt_trans hb2 (by decide)))⟩
   |exact rfl)
 ·rfl
theorem Aul{La:Addr}{a b:Int}{n:Nat}{l:List D}{r r' q d:Int}(x:Str)(e:D)(h:(AsW La a b n l r').lookup x=some e):((("r":Str),D.int r') :: (("q_digit":Str),.int q) :: (("a_digit":Str),.int d) :: AsW La a b n l r).lookup x=some e:=by
 unfold AsW at h ⊢;simp only[Aab] at h ⊢
 by_cases h1:x=("r":Str)
 ·subst h1;exact h
 ·by_cases h2:x=("q_digit":Str)
  ·subst h2;exact Aah h
  ·by_cases h3:x=("a_digit":Str)
   ·subst h3;exact Aah h
   ·rw[if_neg h1,if_neg h2,if_neg h3];rw[if_neg h1] at h ⊢;exact h
theorem Ala{α:Type}{xs:List α}{i:Nat}(h:i<xs.length):(xs.take (i+1)).reverse=xs[i] :: (xs.take i).reverse:=by rw[List.take_succ_eq_append_getElem h,List.reverse_append];rfl
section
variable{B:Bs}{m:Nat}{s₀:Shared}{g₀:Gh}{A:Around}
structure ACq(B:Bs)(s₀:Shared)(g₀:Gh)(env:Env)(ρ:Rho)(La la It:Addr)(b:Int)(n:Nat)(l:List D)(xs:List Int)(o:Obj)(items:List Value)(QF:List Int)(RF:Int)(i:Nat)(r:Int)(qs:List Int)(us:Array Value)(s:Shared)(g:Gh):Prop where
 hi:i≤xs.length
 F:Fm B s₀ g₀ (Aam Ad9.names) env ρ s g
 hit:s.heap.IsRevIter It la ((i:Int) - 1)
 gI:g It=none
 hL:Ae3 s.heap La us
 hq:AbN us qs
 gL:g La=none
 hr0:0≤r
 hr1:r<b
 hqs:qs.length+i≤60
 hla:g la=some o
 hitems:Aav g items l
 e1:qs++(Ai6 b n (xs.take i).reverse r).1=QF
 e2:(Ai6 b n (xs.take i).reverse r).2=RF
theorem ACq.it{B:Bs}{s₀:Shared}{g₀:Gh}{env:Env}{ρ:Rho}{La la It:Addr}{b:Int}{n:Nat}{l:List D}{xs:List Int}{o:Obj}{items:List Value}{QF:List Int}{RF:Int}{i:Nat}{r:Int}{qs:List Int}{us:Array Value}{s:Shared}{g:Gh}
  (V:ACq B s₀ g₀ env ρ La la It b n l xs o items QF RF i r qs us s g):∃ o,s.heap.get? It=some o∧¬ AcL o∧(∀ v,o.data≠.cell v)∧¬ Loc env (Aam Ad9.names) It:=by
 refine Aew V.hit fun oi hoi hci hdi=>?_;have hc:∀ v,oi.data≠.cell v:=fun v e=>nomatch hdi.symm.trans e;exact⟨oi,hoi,AaU hci (by decide),hc,V.F.notLoc hoi hc fun _ _ e=>nomatch hdi.symm.trans e⟩
theorem Aum(W:LW B)(hA:AOk (m+1) A){env:Env}(he:env.scope=Ad9)(K:Acw B (m+1) Tm s₀ g₀){p:Pos}{La la It:Addr}{a b:Int}{n:Nat}{l:List D}{xs:List Int}{nn0:Nat}{items:Array Value}
  (hl:l=xs.map D.int) (hxs:∀ x∈xs,0≤x∧x<2 ^ n) (hlen:xs.length≤60) (hb:0<b) (hb2:b<1073741824) (hbn:b≤2 ^ n) (hn:n≤30) (gla:g₀ la=none∨True) (h0I:s₀.heap.get? It=none) (h0L:s₀.heap.get? La=none) (hne:It≠La) {QF:List Int} {RF:Int}
  {i:Nat} {r:Int} {qs:List Int} {us:Array Value} {s:Shared} {g:Gh} (hi:i≤xs.length) (F:Fm B s₀ g₀ (Aam Ad9.names) env (AsW La a b n l r) s g) (hit:s.heap.IsRevIter It la ((i:Int) - 1)) (gI:g It=none) (hL:Ae3 s.heap La us) (hq:AbN us qs) (gL:g La=none) (hr0:0≤r) (hr1:r<b) (hqs:qs.length+i≤60)
  (hla:g la=some {cls:=.type "list",data:=.seq items nn0}) (hitems:Aav g items.toList l) (e1:qs++(Ai6 b n (xs.take i).reverse r).1=QF) (e2:(Ai6 b n (xs.take i).reverse r).2=RF) :
  codeAny B.M A (.forLoop (.Name "a_digit" p) (.ref It) ([mB 0]++[mB 1]) [] env) (fun res s'=>res=.ok .next∧∃ g' us',Fm B s₀ g₀ (Aam Ad9.names) env (AsW La a b n l RF) s' g'∧Ae3 s'.heap La us'∧AbN us' QF∧g' La=none) s:=by
 refine Aqp fun R hR=>AB5 (fun i s=>∃ r qs us g,ACq B s₀ g₀ env (AsW La a b n l r) La la It b n l xs {cls:=.type "list",data:=.seq items nn0} items.toList QF RF i r qs us s g) ?_ ⟨r,qs,us,g,hi,F,hit,gI,hL,hq,gL,hr0,hr1,hqs,hla,hitems,e1,e2⟩;clear F hit gI hL hq gL hr0 hr1 e1 e2 hi hqs hla hitems;intro i s hJ Q E q0 q1;refine AsY hJ fun r qs us g V=>?_;refine Amu V.it fun oi hoi ht hcell nlI=>?_;have nlL:=V.F.notL V.hL;have hL:=V.hL;refine Abo hL fun c0 hL0=>?_;induction i using Nat.casesAuxOn with
 |zero=>
  refine wpAny_pyNext_rev_end hA.handled V.hit fun h' k=>q0 rfl _ (hR _ _ ⟨rfl,g,us,?_,⟨c0,k La _ (Ne.symm hne) hL0⟩,?_,V.gL⟩)
  ·exact(show r=RF from V.e2) ▸ V.F.turnE W.O h0I V.gI hoi ht hcell (fun e=>nlI (.inl e)) k rfl rfl
  ·have:=V.e1;rw[show(xs.take 0).reverse=[] from rfl,show(Ai6 b n [] r).1=[] from rfl,List.append_nil] at this;exact this ▸ V.hq
 |succ i=>
  have hix:i<xs.length:=V.hi;refine Aaf (V.hitems.get (AvS hl hix)) fun v hv1 hv2=>?_;induction hv2 using Den.intE;rename_i tk;have hit:=V.hit;rw[show((i+1:Nat):Int) - 1=(i:Int) from(congrArg (· - 1) (Int.natCast_succ i)).trans (Int.add_sub_cancel _ 1)] at hit;refine AaG (hxs _ (List.getElem_mem hix)) fun d0 d1=>?_;have e1:=V.e1;have e2:=V.e2;rw[Ala hix] at e1 e2;refine wpAny_pyNext_rev_item hit ⟨_,V.F.inv.get V.hla,rfl,_,rfl⟩ (by simpa using hv1) fun h' hit' hs'=>q1 i rfl _ _ fun X KF E kn _ _ hX=>ArT ?_;have F1:Fm B s₀ g₀ (Aam Ad9.names) env (AsW La a b n l r) {s with heap:=h'} g:=V.F.turnE W.O h0I V.gI hoi ht hcell (fun e=>nlI (.inl e)) hs'.extBut rfl rfl;refine wpAny_assign_Name (F1.store W.O (Abl (by rw[he];kernel_rfl!)) .int fun s2 F2 k2=>hX s2 (AcJ ?_));have et:=Auk (La:=La) (a:=a) (l:=l) hb hb2 hbn hn V.hr0 V.hr1 d0 d1;rw[← he] at et F2;refine(Acj W.O K hA 8 _ _ _ s2 g et F2).use fun f s3 g3 l3 en=>?_;rw[en.1];have F3:=en.2;clear en et F2;rw[he] at F3 l3;have a3:=l3.2 La _ nlL (k2 La _ nlL ((hs'.2 La (Ne.symm hne)).trans hL0)) Acl;refine Aew hit' fun oj hoj hcj hdj=>?_;have hntj:=Aap hcj;have i3:=l3.2 It oj nlI (k2 It oj nlI hoj) hntj;have hz:=V.hq.size;refine wpAny_execs_cons (Ake (k:=8) W.O K hA F3 AAv rfl rfl (by unfold interactive;rw[he];kernel_rfl!) (Axn env) (d:=.int ((r*2 ^ n+xs[i]) / b)) rfl rfl (Aa6 rfl) ⟨c0,a3.1⟩ h0L (a3.2 V.gL) (by rw[hz];exact Nat.le_trans (Nat.le_add_right _ _) (Nat.le_trans V.hqs (by decide))) fun v s4 g4 F4 hL4 hv4 gL4 le4 keep=>?_);induction hv4 using Den.intE;have q2:=keep It oj hne i3.1 hntj;exact wpAny_execs_nil (kn _ ⟨_,qs++[(r*2 ^ n+xs[i]) / b],_,g4,Nat.le_of_lt hix,F4.weaken Aul,⟨oj,q2.1,hcj,hdj⟩,q2.2 (i3.2 V.gI),hL4,V.hq.push _ _,gL4,
   Int.emod_nonneg _ (Int.ne_of_gt hb),Int.emod_lt_of_pos _ hb,by rw[List.length_append];show _+1+i≤60;rw[Nat.add_assoc,Nat.add_comm 1];exact V.hqs,le4 _ _ (l3.1 _ _ V.hla),(V.hitems.mono l3.1).mono le4,by rw[← e1];simp [Ai6],e2⟩).1
end
noncomputable def AAx(a b:Int):Option D:=
  let n:Nat:=Builtin.Int.intBits b
  let k:Nat:=ApN a n
  if 0≤a∧0<b∧b<1073741824∧b≤2 ^ n∧1≤n∧n≤30∧k≤60∧n*k≤60∧a<2 ^ (n*k) then some (.tup [.int (a / b),.int (a % b)]) else none
noncomputable def dmpD:List D→Option D:=ii AAx
theorem AvV{B:Bs}{A:Around}{s:Shared}{env:Env}{p:Pos}{Q E:Value→Shared→Prop}(h:Q (.ref s.heap.objs.size) {s with heap:=s.heap.push (Abq #[] 0)}):wpAny B.M A (eval (.List [] p) env) Q E s:=by refine List_ ?_;rw[Aaw (by intro e he;cases he)];refine wpAny_pure ?_;exact wpAny_newList h (Nat.zero_le _)
section
variable{B:Bs}{m:Nat}
theorem ArU(W:LW B):AbC B (m+11) (.ref Ad8) dmpD:=by
 have D0:=(Ara W.G);refine Aaf D0.obj fun o ho hdat=>?_;refine⟨.inr (.inr ⟨_,o,_,rfl,ho,hdat⟩),fun A s g vs ds r hA I hd hr=>?_⟩;refine Afx (Aol hr) fun a b q1 hq=>?_;subst q1;unfold AAx at hq;dsimp only at hq;generalize hn:Builtin.Int.intBits b=n at hq;generalize hk:ApN a n=k at hq;refine AaG (Abs hq) fun hc hq2=>?_;have hq2:=sj hq2;subst hq2;refine ACZ hc fun ha hb hb2 hbn hn1 hn30 hk60 hnk hak=>?_;have hlv:=hd.length;refine Agp W.O D0.to0 D0.scope hA I ?_;rw[D0.bind vs hlv];refine wpAny_pure ⟨g,vs,_,Aag.refl I,rfl,hd,rfl,fun env s1 e1 e2 e3 F=>Ahj fun QQ EE hPost=>?_⟩;have hA':AOk (m+10) (A.deeper env):=hA.deeper;have hh:=hA'.handled;rw[Aff] at e1;rw[Aff] at F;rw[show Aae (nth AlL)=[mSt 0,mSt 1,mSt 2]++[mSt 3,mSt 4,mSt 5,mSt 6,mSt 7] from Auj];have hρ1:([("a":Str),"b"].zip [D.int a,.int b]).reverse=[(("b":Str),D.int b),(("a":Str),D.int a)]:=rfl;rw[hρ1] at F;generalize hl:(AdT n k a).map D.int=l;have hi2d:i2dD [.int a,.int n]=some (.list l):=by have e:(n:Int).toNat=n:=rfl;show(if 0≤a∧1≤(n:Int)∧(n:Int)≤60∧ApN a n≤60∧(n:Int).toNat*ApN a n≤60∧a<2 ^ ((n:Int).toNat*ApN a n) then some (D.list ((AdT (n:Int).toNat (ApN a n) a).map D.int)) else none)=_;rw[hk,e,if_pos ⟨ha,by omega,by omega,hk60,hnk,hak⟩,hl]
 have K1:Acw B (m+10) (mkT (Adx [(.builtin "int.bit_length",bBits),(.ref Adb,i2dD)]) Abx) s g:=AbF W (AaX (al AmM (al ((AvU (m:=m+1) W)) an))) s g I;refine AcJ ?_;have ex1:ex ((mkT (Adx [(.builtin "int.bit_length",bBits),(.ref Adb,i2dD)]) Abx).stm (Aam Ad9.names) Ad9) (ev (mkT (Adx [(.builtin "int.bit_length",bBits),(.ref Adb,i2dD)]) Abx) 8 Ad9) (Aam Ad9.names) Ad9 8 [(("b":Str),D.int b),(("a":Str),D.int a)] [mSt 0,mSt 1,mSt 2] =
   some (.next [(("r":Str),.int 0),(("a_digits":Str),.list l),(("n":Str),.int n),(("b":Str),D.int b),(("a":Str),D.int a)]):=by
  refine Ado (d:=.int n) rfl rfl (.inl rfl) ?_ (by kernel_rfl!) ?_
  ·rw[← hn];exact AdS rfl rfl ⟨rfl,rfl,by decide⟩ (Aa6 rfl) rfl rfl rfl (Aar rfl) rfl
  ·refine Ado (d:=.list l) rfl rfl (.inl rfl) ?_ (by kernel_rfl!) ?_
   ·exact AjQ rfl (AbP rfl (Aa6 rfl) (AbP rfl (Aa6 rfl) (Aar rfl))) hi2d
   ·exact Ado (d:=.int 0) rfl rfl (.inl rfl) (Aac rfl rfl) (by kernel_rfl!) (Ach rfl)
 have F':=F;rw[show(Aad (nth AlL))=env.scope from e1.symm] at F';rw[show Ad9=env.scope from e1.symm] at ex1;refine(Acj W.O K1 hA' 8 _ _ _ s1 g ex1 F').use fun f s2 g2 l2 en=>?_
 obtain⟨rfl,F2⟩:=en
 dsimp only
 -- q_digits=[]
 refine wpAny_execs_cons ?_;rw[AAt];refine Aef rfl (AvV ?_);have x3:=Aag.open (o:=Abq #[] 0) W.O F2.inv;have F3:=F2.step x3;have hLa:(s2.heap.push (Abq #[] 0)).get? s2.heap.objs.size=some (Abq #[] 0):=Heap.get?_push_size _ rfl;have sLa:s.heap.get? s2.heap.objs.size=none:=F2.st.ext.dead (Aa1 _);have gLa:g2 s2.heap.objs.size=none:=F2.inv.fresh;generalize s2.heap.objs.size=La at hLa sLa gLa;refine F3.store W.O (Abl (by rw[e1];kernel_rfl!)) (.val (v:=.ref La)) fun s4 F4 k4=>?_;have hL4:Ae3 s4.heap La #[]:=⟨0,k4 La _ (F3.notL ⟨0,hLa⟩) hLa⟩
 -- the loop
 refine wpAny_execs_cons ?_;rw[AAu];have hk4:env.kindOf ("reversed":Str)=some .globalImplicit:=by unfold Env.kindOf;rw[e1];kernel_rfl!
 refine wpAny_For (wpAny_Call_NameR ((F4.gname W.O hk4 (Abm W "reversed" _ rfl) rfl).use fun fv s5 g5 x5 h5=>?_)) (fun _=>rfl);subst h5;have F5:=F4.step x5;have hL5:=hL4.step x5;have gL5:=hL4.none x5 gLa;rw[Aaw (by intro e he;simp only[List.mem_cons,List.not_mem_nil,or_false] at he;subst he;rfl)];refine Aby (g:=g5) (first:=[]) (P:=fun g' vs=>Aav g' vs [.list l]) (.inr (.inl ⟨_,rfl⟩)) (by simp) (Calls.spliced_cons ((F5.name (x:="a_digits") (d:=.list l) rfl rfl).use fun v6 s6 g6 x6 h6=>wpAny_pure ⟨g6,x6,.cons h6 .nil⟩)) fun us s6 g6 x6 h6=>?_;induction h6 using Aav.consE with|cons h6 hn6=>?_
 induction hn6 using Aav.nilE;induction h6 using Den.listE with|list q1 q2=>?_
 rename_i la items nn0;have F6:=F5.step x6;have hL6:=hL5.step x6;have gL6:=hL5.none x6 gL5;show wpAny _ _ (call (.type "reversed") [.ref la]) _ _ _;refine call_reversed_list ⟨_,F6.inv.get q1,rfl,_,rfl⟩ ?_;have x7:=Aag.open (o:=revObj la ((items.size:Int) - 1)) W.O F6.inv;have F7:=F6.step x7;have hit:(s6.heap.push (revObj la ((items.size:Int) - 1))).IsRevIter s6.heap.objs.size la ((items.size:Int) - 1):=⟨_,Heap.get?_push_size _ rfl,rfl,rfl⟩;refine wpAny_pyIter_revIter hit ?_;have h0I:s.heap.get? s6.heap.objs.size=none:=F6.st.ext.dead (Aa1 _);have gI:g6 s6.heap.objs.size=none:=F6.inv.fresh;have hL7:=hL6.step x7;have hne:s6.heap.objs.size≠La:=by
  intro e
  obtain⟨c,ec⟩:=hL6
  rw[← e,Aa1] at ec;exact Aah ec
 generalize s6.heap.objs.size=It at hit h0I gI hne;have hll:l.length=(AdT n k a).length:=by rw[← hl];simp
 have hdl:=Adl n k a;have hisz:(items.size:Int)=((AdT n k a).length:Int):=by have:=q2.length;rw[Array.length_toList] at this;rw[this,hll]
 have hit':(s6.heap.push (revObj la ((items.size:Int) - 1))).IsRevIter It la (((AdT n k a).length:Int) - 1):=by rw[← hisz];exact hit
 have KT:=ACp (m:=m+9) W s g I;rw[show env.scope=Ad9 from e1] at F7;refine codeAny_mono (Aum (m:=m+9) W hA' e1 KT (xs:=AdT n k a) hl.symm (AeW n k a) (by rw[hdl];exact hk60) hb hb2 hbn hn30 (.inr trivial) h0I sLa hne (i:=(AdT n k a).length) (r:=0) (qs:=[]) (us:=#[]) (Nat.le_refl _) F7 hit' gI hL7 .nil gL6 (Int.le_refl _) hb (by simp;omega) q1 q2 rfl rfl) fun res s8 hres=>?_
 obtain⟨rfl,g8,us8,F8,hL8,hi8,gL8⟩:=hres
 rw[List.take_length] at F8 hi8;simp only[List.nil_append] at hi8;refine AaG (Aui (n:=n) (k:=k) ha hak hb hbn) fun m1 m2=>?_;refine Awh (Anc (n:=n) hb hbn (AdT n k a).reverse 0 (fun d hd=>AeW n k a d (by simpa using hd)) (Int.le_refl _) hb) fun _ _ _ mb ml=>?_;rw[m2] at F8;generalize hQ:(Ai6 b n (AdT n k a).reverse 0).1=qs at hi8 m1 mb ml;have hz8:=hi8.size;rw[List.length_reverse,hdl] at ml
 -- q_digits.reverse()
 rw[show Ad9=env.scope from e1.symm] at F8;refine wpAny_execs_cons (Ana W.O F8 AAw rfl (by unfold interactive;rw[e1];kernel_rfl!) rfl rfl rfl hL8 sLa gL8 (Nat.le_trans (Nat.le_of_eq (hz8.trans ml)) (Nat.le_trans hk60 (by decide))) fun s9 g9 F9 hL9 gL9 le9=>?_);have hi9:AbN us8.reverse qs.reverse:=by unfold AbN at hi8 ⊢;rw[Array.toList_reverse,List.map_reverse];exact hi8.reverse
 obtain⟨c9,e9⟩:=hL9
 have F10:=F9.shutL (ρ':=("q_digits",.list (qs.reverse.map D.int)) :: AsW La a b n l (a % b)) e9 sLa gL9 hi9.den (fun y d hy=>by
  rw[Aab] at hy
  by_cases h:y=("q_digits":Str)
  ·subst h;rw[if_pos rfl] at hy;cases hy;exact .inr ⟨rfl,rfl⟩
  ·rw[if_neg h] at hy;exact .inl hy)
 have K2:Acw B (m+10) (mkT (Adx [(.ref AdB,d2iD)]) Abx) s g:=AbF W (AaX (al (AvT (m:=m+1) W) an)) s g I;have hints:AdI (qs.reverse.map D.int)=some qs.reverse:=by
  generalize qs.reverse=zs;induction zs with
  |nil=>rfl
  |cons z zs ih=>exact Aau ih rfl
 have hd2i:d2iD [.list (qs.reverse.map D.int),.int n]=some (.int (a / b)):=by
  have e:(n:Int).toNat=n:=rfl;have hc2:(qs.reverse.all fun x=>decide (0≤x∧x<2 ^ n))=true∧(0:Int)≤(n:Int)∧n*qs.reverse.length≤60∧qs.reverse.length≤64:=by rw[List.length_reverse,ml];exact⟨List.all_eq_true.mpr fun q hq=>decide_eq_true (mb q (by simpa using hq)),by omega,hnk,Nat.le_trans hk60 (by decide)⟩
  exact(Aau hints (ift hc2 (congrArg (fun x:Int=>some (D.int x)) m1)))
 refine wpAny_mono (Ack W.O K2 hA' F10 (k:=8) (m:=8) ?_) hPost fun _ _ e=>e.elim;rw[e1];refine Ado (d:=.int (a / b)) rfl rfl (.inl rfl) ?_ (by kernel_rfl!) ?_
 ·exact AjQ rfl (AbP rfl (Aa6 rfl) (AbP rfl (Aa6 rfl) (Aar rfl))) hd2i
 ·exact AcU rfl rfl (Adn rfl (AbP rfl (Aa6 rfl) (AbP rfl (Aa6 rfl) (Aar rfl))) (by simp))
end
noncomputable def ABC(a b:Int):Option D:=
  let x:=if b<0 then -a else a
  let y:=if b<0 then -b else b
  let z:=if x<0 then Builtin.bitNot x else x
  if b≠0∧(dmpD [.int z,.int y]).isSome=true then some (.tup [.int (a.fdiv b),.int (a.fmod b)]) else none
noncomputable def idmD:List D→Option D:=ii ABC
theorem AnW{a b:Int}(h:(dmpD [.int a,.int b]).isSome=true):dmpD [.int a,.int b]=some (.tup [.int (a / b),.int (a % b)])∧0≤a∧0<b:=by
 have h:(AAx a b).isSome=true:=h;show AAx a b=_∧_;unfold AAx at h ⊢;dsimp only at h ⊢
 split at h
 ·rename_i hc;rw[if_pos hc];exact⟨rfl,hc.1,hc.2.1⟩
 ·injection h
theorem Agb(x:Int):Builtin.bitNot x=-x - 1:=by unfold Builtin.bitNot;omega
theorem Axo{x y:Int}(hx:x<0)(hy:0<y):x / y=-((-x - 1) / y) - 1∧x % y=y+(-((-x - 1) % y) - 1):=by have h1:=Int.emod_add_mul_ediv (-x - 1) y;have h2:=Int.emod_nonneg (-x - 1) (Int.ne_of_gt hy);have h3:=Int.emod_lt_of_pos (-x - 1) hy;generalize (-x - 1) / y=q at *;generalize (-x - 1) % y=r at *;exact(Int.ediv_emod_unique hy).mpr ⟨by rw[Int.mul_sub,Int.mul_neg,Int.mul_one];omega,by omega,by omega⟩
noncomputable def idm0:List D→Option D:=ii fun a b=>if (dmpD [.int a,.int b]).isSome=true then some (.tup [.int (a / b),.int (a % b)]) else none
noncomputable def idm1:List D→Option D:=ii fun a b=>if 0<b∧(dmpD [.int (if a<0 then Builtin.bitNot a else a),.int b]).isSome=true then some (.tup [.int (a / b),.int (a % b)]) else none
section
variable{B:Bs}{m:Nat}
theorem Axp(W:LW B):AbC B (m+12) (.ref AcQ) idm0:=by
 refine Ai5 (k:=8) (m:=8) (T:=mkT (Adx [(.ref Ad8,dmpD)]) Abx) W (AfJ W.G) (Act _) (fun s g I=>AbF W (AaX (al (ArU W) an)) s g I) fun ds r hr=>?_;refine Afx (Aol hr) fun a b q1 hq=>?_;subst q1;have hr:=hq
 ·refine AaG (Abs hr) fun hc hr2=>?_
  ·have hr2:=sj hr2;subst hr2;refine AjX (AnW hc) fun e ha hb=>?_;refine⟨rfl,?_⟩;refine AeQ rfl rfl (AaM (Ab8 rfl rfl (Aa6 rfl) (Aac rfl rfl) (AlY (Int.ne_of_gt hb))) rfl) ?_;refine AeQ rfl rfl (AaM (Ab8 rfl rfl (Aa6 rfl) (Aac rfl rfl) (AlZ (by omega))) rfl) ?_;refine AeQ rfl rfl (AaM (Ab8 rfl rfl (Aa6 rfl) (Aac rfl rfl) (AlZ (by omega))) rfl) ?_;exact AcU rfl rfl (AjQ rfl (AbP rfl (Aa6 rfl) (AbP rfl (Aa6 rfl) (Aar rfl))) e)
theorem ArV(W:LW B):AbC B (m+13) (.ref AcQ) idm1:=by
 refine Ai5 (k:=8) (m:=8) (T:=mkT (Adx [(.ref Ad8,dmpD),(.ref AcQ,idm0)]) Abx) W (AfJ W.G) (Act _) (fun s g I=>AbF W (AaX (al ((ArU (m:=m+1) W)) (al (Axp W) an))) s g I) fun ds r hr=>?_;refine Afx (Aol hr) fun a b q1 hq=>?_;subst q1;have hr:=hq
 ·by_cases hc:0<b∧(dmpD [.int (if a<0 then Builtin.bitNot a else a),.int b]).isSome=true
  ·rw[if_pos hc] at hr
   cases hr
   obtain⟨hb,hc⟩:=hc
   refine⟨rfl,?_⟩;refine AeQ rfl rfl (AaM (Ab8 rfl rfl (Aa6 rfl) (Aac rfl rfl) (AlY (Int.ne_of_gt hb))) rfl) ?_;refine AeQ rfl rfl (AaM (Ab8 rfl rfl (Aa6 rfl) (Aac rfl rfl) (AlZ (by omega))) rfl) ?_
   by_cases ha:a<0
   ·rw[if_pos ha] at hc;refine Al2 rfl rfl (AaM (Ab8 rfl rfl (Aa6 rfl) (Aac rfl rfl) (ArG ha)) rfl) ?_;have e0:idm0 [.int (Builtin.bitNot a),.int b]=some (.tup [.int (Builtin.bitNot a / b),.int (Builtin.bitNot a % b)]):=if_pos hc;refine AaG (Axo ha hb) fun d1 d2=>?_;refine At9 rfl rfl ⟨rfl,rfl⟩ (ds:=[.int (Builtin.bitNot a / b),.int (Builtin.bitNot a % b)]) ?_ rfl ?_
    ·exact AjQ rfl (AbP rfl (Arz rfl (Aa6 rfl) rfl) (AbP rfl (Aa6 rfl) (Aar rfl))) e0
    ·refine AcU rfl rfl ?_;have f1:a / b=Builtin.bitNot (Builtin.bitNot a / b):=by rw[d1,Agb,Agb]
     have f2:a % b=b+Builtin.bitNot (Builtin.bitNot a % b):=by rw[d2,Agb,Agb]
     rw[f1,f2];exact Adn rfl (AbP rfl (Arz rfl (Aa6 rfl) rfl) (AbP rfl (Abh rfl (Aa6 rfl) (Arz rfl (Aa6 rfl) rfl) rfl) (Aar rfl))) (by simp)
   ·rw[if_neg ha] at hc;refine AjX (AnW hc) fun e _ _=>?_;refine AeQ rfl rfl (AaM (Ab8 rfl rfl (Aa6 rfl) (Aac rfl rfl) (AlZ ha)) rfl) ?_;exact AcU rfl rfl (AjQ rfl (AbP rfl (Aa6 rfl) (AbP rfl (Aa6 rfl) (Aar rfl))) e)
  ·rw[if_neg hc] at hr;exact Aah hr
theorem AbC.alt{n:Nat}{f:Value}{F1 F2 F':List D→Option D}(h1:AbC B n f F1)(h2:AbC B n f F2)(h:∀ ds r,F' ds=some r→F1 ds=some r∨F2 ds=some r):AbC B n f F':=
 ⟨h1.kp,fun A s g vs ds r hA I hd hr=>(h ds r hr).elim (h1.run A s g vs ds r hA I hd) (h2.run A s g vs ds r hA I hd)⟩
noncomputable def idmN:List D→Option D:=ii fun a b=>if b<0 then idmD [.int a,.int b] else none
theorem Axq(W:LW B):AbC B (m+14) (.ref AcQ) idmN:=by
 refine Ai5 (k:=8) (m:=8) (T:=mkT (Adx [(.ref Ad8,dmpD),(.ref AcQ,idm1)]) Abx) W (AfJ W.G) (Act _) (fun s g I=>AbF W (AaX (al ((ArU (m:=m+2) W)) (al (ArV W) an))) s g I) fun ds r hr=>?_;refine Afx (Aol hr) fun a b q1 hq=>?_;subst q1;have hr:=hq
 ·by_cases hb:b<0
  ·rw[if_pos hb] at hr;have hr:ABC a b=some r:=hr;unfold ABC at hr;dsimp only at hr;simp only[if_pos hb] at hr
   by_cases hc:b≠0∧(dmpD [.int (if -a<0 then Builtin.bitNot (-a) else -a),.int (-b)]).isSome=true
   ·rw[if_pos hc] at hr
    cases hr
    refine⟨rfl,?_⟩;have e1:idm1 [.int (-a),.int (-b)]=some (.tup [.int ((-a) / (-b)),.int ((-a) % (-b))]):=if_pos ⟨Int.neg_pos_of_neg hb,hc.2⟩;have f1:a.fdiv b=(-a) / (-b):=by rw[← Int.neg_fdiv_neg,Int.fdiv_eq_ediv_of_nonneg _ (Int.le_of_lt (Int.neg_pos_of_neg hb))]
    have f2:a.fmod b=-((-a) % (-b)):=by have:=Int.neg_fmod_neg a b;rw[Int.fmod_eq_emod_of_nonneg _ (Int.le_of_lt (Int.neg_pos_of_neg hb))] at this;rw[this,Int.neg_neg]
    rw[f1,f2];refine AeQ rfl rfl (AaM (Ab8 rfl rfl (Aa6 rfl) (Aac rfl rfl) (AlY hc.1)) rfl) ?_;refine Al2 rfl rfl (AaM (Ab8 rfl rfl (Aa6 rfl) (Aac rfl rfl) (ArG hb)) rfl) ?_;refine At9 rfl rfl ⟨rfl,rfl⟩ (ds:=[.int ((-a) / (-b)),.int ((-a) % (-b))]) ?_ rfl ?_
    ·exact AjQ rfl (AbP rfl (Arz rfl (Aa6 rfl) rfl) (AbP rfl (Arz rfl (Aa6 rfl) rfl) (Aar rfl))) e1
    ·exact AcU rfl rfl (Adn rfl (AbP rfl (Aa6 rfl) (AbP rfl (Arz rfl (Aa6 rfl) rfl) (Aar rfl))) (by simp))
   ·rw[if_neg hc] at hr;exact Aah hr
  ·rw[if_neg hb] at hr;exact Aah hr
theorem ArW(W:LW B):AbC B (m+14) (.ref AcQ) idmD:=by
 refine(Axq W).alt ((ArV (m:=m) W).up (Nat.add_le_add_left (by decide) _)) fun ds r hr=>?_;have hr0:=hr;refine Afx (Aol hr) fun a b q1 hq=>?_;subst q1;have hr:=hq;unfold ABC at hr
 ·by_cases hb:b<0
  ·exact .inl ((if_pos hb).trans hr0)
  ·dsimp only at hr;simp only[if_neg hb] at hr
   by_cases hc:b≠0∧(dmpD [.int (if a<0 then Builtin.bitNot a else a),.int b]).isSome=true
   ·rw[if_pos hc] at hr
    cases hr
    refine .inr ?_;have hb0:0<b:=Int.lt_iff_le_and_ne.mpr ⟨Int.not_lt.mp hb,Ne.symm hc.1⟩;rw[Int.fdiv_eq_ediv_of_nonneg _ (Int.le_of_lt hb0),Int.fmod_eq_emod_of_nonneg _ (Int.le_of_lt hb0)];exact if_pos ⟨hb0,hc.2⟩
   ·rw[if_neg hc] at hr;exact Aah hr
end
end Mine
namespace Mine
open PySem PySem.W PyProof.Rows PySem.Calls
section
variable{X:Rho→Stmt→Option Res}{E:Rho→Expr→Option D}{own:List Str}{sc:Scope}{m:Nat}{ρ ρ' ρ'':Rho}{body rest b1 b2:List Stmt}{st:Stmt}{e t it:Expr}{p q:Pos}{d x:D}{r:Res}{y:Str}{items:List D}{F:Rho→Option Res}
theorem ACr:AmD own sc t F [] ρ=some (.next ρ):=rfl
theorem AvW(hb:Ac8 own sc t d ρ=some ρ')(h:F ρ'=some (.next ρ''))(h2:AmD own sc t F items ρ''=some r):AmD own sc t F (d :: items) ρ=some r:=by exact Aau hb (Aau h h2)
theorem ACs(hb:Ac8 own sc t d ρ=some ρ')(h:F ρ'=some (.brk ρ'')):AmD own sc t F (d :: items) ρ=some (.next ρ''):=by exact Aau hb (Aau h rfl)
theorem ACt(hb:body=.For t it b1 [] p :: rest)(hx:X ρ (.For t it b1 [] p)=none)(hs:AcA it=true)(h:E ρ it=some x)(hi:Acq x=some items)(hf:AmD own sc t (fun ρ=>ex X E own sc m ρ b1) items ρ=some (.next ρ'))(h2:ex X E own sc m ρ' rest=some r) :
  ex X E own sc (m+1) ρ body=some r:=by
 exact AnT hb hx (ift hs (Aau h (Aau hi hf))) h2
theorem AAy{h0:ExceptHandler}{hs:List ExceptHandler}(hb:body=.Try b1 (h0 :: hs) [] [] p :: rest)(hx:X ρ (.Try b1 (h0 :: hs) [] [] p)=none)(h:ex X E own sc m ρ b1=some (.next ρ'))(h2:ex X E own sc m ρ' rest=some r) :
  ex X E own sc (m+1) ρ body=some r:=by
 exact AnT hb hx h h2
theorem Axr{h0:ExceptHandler}{hs:List ExceptHandler}(hb:body=.Try b1 (h0 :: hs) [] [] p :: rest)(hx:X ρ (.Try b1 (h0 :: hs) [] [] p)=none)(h:ex X E own sc m ρ b1=some (.ret d)) :
  ex X E own sc (m+1) ρ body=some (.ret d):=by
 exact AnT hb hx h rfl
theorem AvX{op:Operator}{a b:Str}(hb:body=.AugAssign (.Name y q) op e p :: rest)(hx:X ρ (.AugAssign (.Name y q) op e p)=none)(hok:AbB y=true∧okT own sc y=true)(h1:ρ.lookup y=some (.str a))(h:E ρ e=some (.str b))(h3:Amr op (.str a) (.str b)=some d)(h2:ex X E own sc m ((y,d) :: ρ) rest=some r) :
  ex X E own sc (m+1) ρ body=some r:=by
 exact AnT hb hx (ift ⟨rfl,hok.1,hok.2⟩ (Aau h1 (Aau h (Aau h3 rfl)))) h2
theorem ACu(hb:body=.Break p :: rest)(hx:X ρ (.Break p)=none):ex X E own sc (m+1) ρ body=some (.brk ρ):=by exact AnT hb hx rfl rfl
theorem Axs(hb:body=.If t b1 b2 p :: rest)(hx:X ρ (.If t b1 b2 p)=none)(h:Abc (E ρ) t=some true)(h2:ex X E own sc m ρ b1=some (.brk ρ')):ex X E own sc (m+1) ρ body=some (.brk ρ'):=by exact AnT hb hx (Aau h h2) rfl
theorem AAz(hb:body=st :: rest)(hx:X ρ st=some (.next ρ'))(h2:ex X E own sc m ρ' rest=some r):ex X E own sc (m+1) ρ body=some r:=by subst hb;show(orR (X ρ st) _).bind _=_;rw[hx];exact h2
end
section
variable{T:Tb}{n:Nat}{sc:Scope}{ρ:Rho}{E:Expr→Option D}{e:Expr}{es:List Expr}{p:Pos}{a b:D}{op:BoolOp}
theorem Akf{vs:List Expr}{d:D}(he:e=.BoolOp op vs p)(h:AhW op (ev T n sc ρ) vs=some d):ev T (n+1) sc ρ e=some d:=by subst he;exact r_0 rfl h
theorem Aun(he:es=[e])(h:E e=some a):AhW op E es=some a:=by subst he;exact h
theorem AAA{e2:Expr}{r:List Expr}(he:es=e :: e2 :: r)(h:E e=some a)(ht:Acb a=some false)(h2:AhW .Or E (e2 :: r)=some b):AhW .Or E es=some b:=by subst he;exact Aau h (Aau ht ((if_neg Bool.noConfusion).trans h2))
theorem Ane{e2:Expr}{r:List Expr}(he:es=e :: e2 :: r)(h:E e=some a)(ht:Acb a=some true)(h2:AhW .And E (e2 :: r)=some b):AhW .And E es=some b:=by subst he;exact Aau h (Aau ht ((if_neg Bool.noConfusion).trans h2))
theorem ArX{e2:Expr}{r:List Expr}(he:es=e :: e2 :: r)(h:E e=some a)(ht:Acb a=some false):AhW .And E es=some a:=by subst he;exact Aau h (Aau ht (if_pos rfl))
end
end Mine
namespace Mine
open PySem PySem.W PyProof.Rows PySem.W.X
noncomputable def fspD:List D→Option D:=fn1 fun a=>Ad0 a fun x=>some (.str x)
noncomputable def sepD:List D→Option D:=fn1 fun a=>Ad0 a fun _=>some (.str "/")
section
variable{B:Bs}{m:Nat}
theorem AnX(W:LW B):AbC B (m+1) (.ref Aeb) fspD:=by
 refine Ai5 (k:=8) (m:=8) (T:=mkT (Adx [(.type "type",bType),(.builtin "issubclass",bIss)]) Abx) W (Arj W.G) (Aib _) (fun s g I=>AbF W (AaX (al AwF (al Azn an))) s g I) fun ds r hr=>?_;refine Aaf (Ah1 hr) fun a0 q1 k_1=>?_;subst q1;refine Aaf (AaY k_1) fun x q1 k_2=>?_;subst q1;have k_2:=sj k_2;subst k_2;refine⟨rfl,?_⟩;refine Ado (d:=.val (.type "str")) rfl rfl (.inl rfl) ?_ (by kernel_rfl!) ?_
 ·exact AjQ rfl (AbP rfl (Aa6 rfl) (Aar rfl)) rfl
 ·refine Al2 rfl rfl (AaM (d:=.bool true) ?_ rfl) (AcU rfl rfl (Aa6 rfl));exact AjQ rfl (AbP rfl (Aa6 rfl) (AbP rfl (Adn rfl (AbP rfl (AaK rfl rfl rfl rfl rfl rfl) (AbP rfl (AaK rfl rfl rfl rfl rfl rfl) (Aar rfl))) (by simp)) (Aar rfl))) rfl
theorem AvY(W:LW B):AbC B (m+1) (.ref Aer) sepD:=by refine Ai5 (k:=8) (m:=8) (T:=mkT (Adx [(.builtin "isinstance",bIsi)]) Abx) W (Arl W.G) (Aic _) (fun s g I=>AbF W (AaX (al AvD an)) s g I) fun ds r hr=>?_;refine Aaf (Ah1 hr) fun a0 q1 k_1=>?_;subst q1;refine Aaf (AaY k_1) fun x q1 k_2=>?_;subst q1;have k_2:=sj k_2;subst k_2;refine⟨rfl,?_⟩;refine AeQ rfl rfl (AaM (d:=.bool false) ?_ rfl) (AcU rfl rfl (Aac rfl rfl));exact AjQ rfl (AbP rfl (Aa6 rfl) (AbP rfl (AaK rfl rfl rfl rfl rfl rfl) (Aar rfl))) rfl
end
noncomputable def joiD:List D→Option D:=fn2 fun x y=>Ad0 x fun a=>Ad0 y fun b=>
 if a.cps.size≤100000∧b.cps.size≤100000∧a.cps.size≠0∧Txt.startswith b "/"=false then
   (if Txt.endswith a "/"=true then some (.str (a++b)) else some (.str (a++(("/":Str)++b)))) else none
noncomputable def Tj:Tb:=mkT (Adx [(.ref Aeb,fspD),(.ref Aer,sepD),(.builtin "str.startswith",bStartswith),(.builtin "str.endswith",bEndswith)]) Abx
theorem Ai8(a b:Str):(a++b).cps.size=a.cps.size+b.cps.size:=by show(a.cps++b.cps).size=_;simp
theorem Al7{x:Str}(h:x.cps.size≤1000000):Acb (.str x)=some ((x.cps.size:Int) != 0):=if_pos h
theorem Auo{a b:Str}{r:D}(h:joiD [.str a,.str b]=some r):Az2 Tj 12 12 ["a","p"] AtW Ahl [.str a,.str b]=some r:=by
 refine AaG (Abs h) fun hc h=>?_
 ·refine Aoa hc fun h1 h2 h3 h4=>?_;have hta:Acb (.str a)=some true:=by rw[Al7 (by omega)];congr 1;exact bne_iff_ne.mpr (by omega)
  show fnD Tj 12 12 ["a","p"] AtW Ahl [.str a,.tup [.str b]]=some r;unfold fnD;rw[if_pos (show([("a":Str),"p"].length=[D.str a,D.tup [.str b]].length) from rfl)];have key:ex (Tj.stm (Aam Ahl.names) Ahl) (ev Tj 12 Ahl) (Aam Ahl.names) Ahl 12 ([("a":Str),"p"].zip [D.str a,D.tup [D.str b]]).reverse AtW=some (.ret r):=by
   refine Ado (d:=.str a) rfl rfl (.inl rfl) ?_ (by kernel_rfl!) ?_
   ·exact AjQ rfl (AbP rfl (Aa6 rfl) (Aar rfl)) rfl
   refine Ado (d:=.str "/") rfl rfl (.inl rfl) ?_ (by kernel_rfl!) ?_
   ·exact AjQ rfl (AbP rfl (Aa6 rfl) (Aar rfl)) rfl
   refine Ado (d:=.str a) rfl rfl (.inl rfl) (Aa6 rfl) (by kernel_rfl!) ?_;have hcond:unD .Not (.str a)=some (.bool false):=Aau hta rfl;have bd:∀ (c:Str) (e:Bool),Txt.endswith a "/"=e→(if e=true then a++b else a++(("/":Str)++b))=c →
     ex (Tj.stm (Aam Ahl.names) Ahl) (ev Tj 12 Ahl) (Aam Ahl.names) Ahl 12 ([("a":Str),"p"].zip [D.str a,D.tup [D.str b]]).reverse AtW=some (.ret (.str c)):=by
    intro c e he hce;refine Ado (d:=.str a) rfl rfl (.inl rfl) ?_ (by kernel_rfl!) ?_
    ·exact AjQ rfl (AbP rfl (Aa6 rfl) (Aar rfl)) rfl
    refine Ado (d:=.str "/") rfl rfl (.inl rfl) ?_ (by kernel_rfl!) ?_
    ·exact AjQ rfl (AbP rfl (Aa6 rfl) (Aar rfl)) rfl
    refine Ado (d:=.str a) rfl rfl (.inl rfl) (Aa6 rfl) (by kernel_rfl!) ?_;refine AAy rfl rfl (ACt rfl rfl rfl (Aa6 rfl) rfl (AvW (ρ'':=("path",.str c) :: ("b",.str b) :: ("b",.str b) :: ("path",.str a) :: ("sep",.str "/") :: ("a",.str a) :: ([("a":Str),"p"].zip [D.str a,D.tup [D.str b]]).reverse) rfl ?_ ACr) (Ach rfl)) (AcU rfl rfl (Aa6 rfl));refine Ado (d:=.str b) rfl rfl (.inl rfl) ?_ (by kernel_rfl!) ?_
    ·exact AjQ rfl (AbP rfl (Aa6 rfl) (Aar rfl)) rfl
    refine Adw rfl rfl (AaM (d:=.bool false) (Akf rfl (AAA (a:=.bool false) rfl ?_ rfl (Aun rfl (Arz rfl (Aa6 rfl) hcond)))) rfl) ?_ (Ach rfl)
    ·refine AdS rfl rfl ⟨rfl,rfl,by decide⟩ (Aa6 rfl) rfl rfl rfl (AbP rfl (Aa6 rfl) (Aar rfl)) ?_;show some (D.bool (Txt.startswith b "/"))=some (.bool false);rw[h4]
    ·have hend:∀ ρ:Rho,ρ.lookup ("path":Str)=some (.str a)→True:=fun _ _=>trivial;induction e using Bool.casesOn with
     |true=>
      subst hce;refine ArI rfl rfl (AaM (d:=.bool true) (AdS rfl rfl ⟨rfl,rfl,by decide⟩ (Aa6 rfl) rfl rfl rfl (AbP rfl (Aa6 rfl) (Aar rfl)) (by show some (D.bool (Txt.endswith a "/"))=_;rw[he])) rfl) ?_ (Ach rfl);exact AvX rfl rfl ⟨rfl,by kernel_rfl!⟩ rfl (Aa6 rfl) (if_pos (by omega)) (Ach rfl)
     |false=>
      subst hce;refine Adw rfl rfl (AaM (d:=.bool false) (AdS rfl rfl ⟨rfl,rfl,by decide⟩ (Aa6 rfl) rfl rfl rfl (AbP rfl (Aa6 rfl) (Aar rfl)) (by show some (D.bool (Txt.endswith a "/"))=_;rw[he])) rfl) ?_ (Ach rfl);have hsz:(("/":Str)++b).cps.size=1+b.cps.size:=Ai8 _ _;exact AvX rfl rfl ⟨rfl,by kernel_rfl!⟩ rfl (Abh rfl (Aa6 rfl) (Aa6 rfl) (if_pos (by show 1+_≤_;omega))) (if_pos (by omega)) (Ach rfl)
   cases he:Txt.endswith a "/" with
   |true=>rw[he,if_pos rfl] at h;cases h;exact bd _ true he rfl
   |false=>rw[he,if_neg (by decide)] at h;cases h;exact bd _ false he rfl
  rw[key]
section
variable{B:Bs}{m:Nat}
theorem AAB(W:LW B):AbC B (m+2) (.ref AeJ) joiD:=by have h:=Aw8 (T:=Tj) (k:=12) (m:=12) (n:=m+1) (x:="a") (y:="p") W.O (Aph W.G) (by rw[Aid];exact AtZ) (fun x0 x1=>Api _ x0 x1) (fun s g I=>AbF W (AaX (al (AnX W) (al (AvY W) (al Ad6 (al AmL an))))) s g I);refine h.less fun ds r hr=>?_;refine Afx (Ag5 hr) fun a0 b0 q1 k_1=>?_;refine Aaf (AaY k_1) fun x q2 k_2=>?_;refine Aaf (AaY k_2) fun y q3 k_3=>?_;subst q1;subst q2;subst q3;rw[Aid];exact Auo hr
end
noncomputable def splD:List D→Option D:=fn1 fun a=>Ad0 a fun p=>
  let i:=Txt.rfind p "/"+1
  let h:=Txt.slice p none (some i)
  let t:=Txt.slice p (some i) none
  if p.cps.size≤1000 then
   (if h.cps.size=0 then some (.tup [.str h,.str t]) else match Ams .NotEq (.str h) (.str (Txt.mul "/" h.cps.size)) with
    |some true=>some (.tup [.str (Txt.rstripChars h "/"),.str t])
    |some false=>some (.tup [.str h,.str t])
    |none=>none) else none
noncomputable def Ts:Tb:=mkT (Adx [(.ref Aeb,fspD),(.ref Aer,sepD),(.builtin "str.rfind",bRfind),(.builtin "str.rstrip",bRstrip),(.builtin "len",bLen)]) Abx
section
variable{B:Bs}{m:Nat}
theorem AAC(W:LW B):AbC B (m+2) (.ref AeK) splD:=by
 refine Ai5 (k:=12) (m:=12) (T:=Ts) W (Aro W.G) (Aie _) (fun s g I=>AbF W (AaX (al (AnX W) (al (AvY W) (al Atc (al Aqq (al AnG an)))))) s g I) fun ds r hr=>?_;refine Aaf (Ah1 hr) fun a0 q1 hr_1=>?_;subst q1;refine Aaf (AaY hr_1) fun p q1 hr_2=>?_;subst q1
 ·dsimp only at hr_2
  by_cases hp:p.cps.size≤1000
  ·rw[if_pos hp] at hr_2;refine⟨rfl,?_⟩;generalize hi:Txt.rfind p "/"+1=i at hr_2;have hle:=Txt.slice_le p none (some i);generalize hh:Txt.slice p none (some i)=h at hr_2 hle;generalize ht:Txt.slice p (some i) none=t at hr_2;refine Ado (d:=.str p) rfl rfl (.inl rfl) ?_ (by kernel_rfl!) ?_
   ·exact AjQ rfl (AbP rfl (Aa6 rfl) (Aar rfl)) rfl
   refine Ado (d:=.str "/") rfl rfl (.inl rfl) ?_ (by kernel_rfl!) ?_
   ·exact AjQ rfl (AbP rfl (Aa6 rfl) (Aar rfl)) rfl
   refine Ado (d:=.int i) rfl rfl (.inl rfl) ?_ (by kernel_rfl!) ?_
   ·rw[← hi];exact Abh rfl (AdS rfl rfl ⟨rfl,rfl,by decide⟩ (Aa6 rfl) rfl rfl rfl (AbP rfl (Aa6 rfl) (Aar rfl)) rfl) (Aac rfl rfl) rfl
   refine Az8 rfl rfl (by kernel_rfl!) (ds:=[.str h,.str t]) ?_ rfl ?_
   ·refine Adn rfl (AbP rfl ?_ (AbP rfl ?_ (Aar rfl))) (by simp)
    ·rw[← hh];exact Adj rfl (Aa6 rfl) (Ab1 rfl) (AcI rfl (Aa6 rfl)) (Ab1 rfl) (if_pos (by omega))
    ·rw[← ht];exact Adj rfl (Aa6 rfl) (AcI rfl (Aa6 rfl)) (Ab1 rfl) (Ab1 rfl) (if_pos (by omega))
   have hl:h.cps.size≤1000:=Nat.le_trans hle hp;have hth:Acb (.str h)=some ((h.cps.size:Int) != 0):=Al7 (by omega)
   by_cases h0:h.cps.size=0
   ·rw[if_pos h0] at hr_2
    cases hr_2
    have hth':Acb (.str h)=some false:=by rw[hth,h0];rfl
    refine Adw rfl rfl (AaM (Akf rfl (ArX rfl (Aa6 rfl) hth')) hth') (Ach rfl) ?_;exact AcU rfl rfl (Adn rfl (AbP rfl (Aa6 rfl) (AbP rfl (Aa6 rfl) (Aar rfl))) (by simp))
   ·rw[if_neg h0] at hr_2;have hth':Acb (.str h)=some true:=by rw[hth];congr 1;exact bne_iff_ne.mpr (by omega)
    have hcmp:∀ c,Ams .NotEq (.str h) (.str (Txt.mul "/" h.cps.size))=some c→True:=fun _ _=>trivial
    cases hc:Ams .NotEq (.str h) (.str (Txt.mul "/" h.cps.size)) with
    |none=>rw[hc] at hr_2;exact Aah hr_2
    |some c=>
     rw[hc] at hr_2;have hmul:Amr .Mult (.str "/") (.int h.cps.size)=some (.str (Txt.mul "/" h.cps.size)):=if_pos ⟨by decide,by omega,by omega⟩;have hlen:bLen [.str h]=some (.int h.cps.size):=if_pos (by omega);induction c using Bool.casesOn with
     |true=>
      cases hr_2
      refine ArI rfl rfl (AaM (d:=.bool true) (Akf rfl (Ane rfl (Aa6 rfl) hth' (Aun rfl (Ab8 rfl rfl (Aa6 rfl) (Abh rfl (Aa6 rfl) (AjQ rfl (AbP rfl (Aa6 rfl) (Aar rfl)) hlen) hmul) hc)))) rfl) (Ado (d:=.str (Txt.rstripChars h "/")) rfl rfl (.inl rfl) (AdS rfl rfl ⟨rfl,rfl,by decide⟩ (Aa6 rfl) rfl rfl rfl (AbP rfl (Aa6 rfl) (Aar rfl)) (if_pos (by omega))) (by kernel_rfl!) (Ach rfl)) ?_;exact AcU rfl rfl (Adn rfl (AbP rfl (Aa6 rfl) (AbP rfl (Aa6 rfl) (Aar rfl))) (by simp))
     |false=>
      cases hr_2
      refine Adw rfl rfl (AaM (d:=.bool false) (Akf rfl (Ane rfl (Aa6 rfl) hth' (Aun rfl (Ab8 rfl rfl (Aa6 rfl) (Abh rfl (Aa6 rfl) (AjQ rfl (AbP rfl (Aa6 rfl) (Aar rfl)) hlen) hmul) hc)))) rfl) (Ach rfl) ?_;exact AcU rfl rfl (Adn rfl (AbP rfl (Aa6 rfl) (AbP rfl (Aa6 rfl) (Aar rfl))) (by simp))
  ·rw[if_neg hp] at hr_2;exact Aah hr_2
end
noncomputable def Aup(p:Params):Addr:=match Ak6 p "_initial_missing" with
 |some (.ref a)=>a
 |_=>0
theorem Axt(p:Params):Ak6 p "_initial_missing"=some (.ref (Aup p)):=by kernel_rfl!
theorem Auq(p:Params):(match (hpL p).lookup (Aup p) with|some o=>o.cls == .type "object" && !(tabA.contains (Aup p))|none=>false)=true:=by kernel_rfl!
theorem AAD:AhN b_red:=by refine⟨_,_,_,_,_,_,_,_,_,_,_,_,_,_,_,_,_,_,_,⟨_,_,_,_,_,_,rfl⟩,rfl⟩
theorem Axu:okT (Aam AlN.names) AlN "it"=true∧okT (Aam AlN.names) AlN "value"=true∧okT (Aam AlN.names) AlN "element"=true:=⟨by kernel_rfl!,by kernel_rfl!,by kernel_rfl!⟩
theorem AAE:AlN.names.lookup ("iter":Str)=some .globalImplicit∧AlN.names.lookup ("_initial_missing":Str)=some .globalImplicit:=⟨by kernel_rfl!,by kernel_rfl!⟩
theorem Axv{B:Bs}(W:LW B):At8 B AbO (Aai B.w.params AbO) b_red (Aup B.w.params) where
 d0:=Ao1 W.G
 is:=AAD
 sc:=by rw[Aea];exact AtM
 bind:=fun A s g a b c Q E I hq=>by
  have hk:Frag.In [(dfl B.w.params AbO,Aa0 B.w.params (dfl B.w.params AbO))] s.heap:=fun x o e=>by
   rw[List.lookup_cons] at e
   cases hx:x == dfl B.w.params AbO with
   |true=>
    rw[hx] at e;cases e;have:=eq_of_beq hx;subst this;have hn:dfl B.w.params AbO ∉ tabA:=by simpa using Arh B.w.params
    exact I.get (I.base _ _ (W.G.inG _ _ (Arf _) hn))
   |false=>rw[hx] at e;exact Aah e
  exact fun Γ p hΓ=>wp_of_peek (K:=[(dfl B.w.params AbO,Aa0 B.w.params (dfl B.w.params AbO))]) hk hq _ (AtN B.w.params _ a b c)
 lit:=by rw[Aea];exact Axu
 giter:=⟨by rw[Aea];exact AAE.1,Abm W "iter" _ rfl⟩
 gmiss:=⟨by rw[Aea];exact AAE.2,W.gl _ _ (Axt _)⟩
 om:=by
  have h:=Auq B.w.params
  split at h
  ·rename_i o e;rw[Bool.and_eq_true] at h;exact⟨o,W.G.inG _ _ e (by simpa using h.2),eq_of_beq h.1⟩
  ·injection h
section
variable{B:Bs}{n:Nat}
theorem ArY(W:LW B){Φ:Addr→Option (List D→Option D)}(hΦ:∀ a F,Φ a=some F→AbC B n (.ref a) F):AbC B (n+1) (.ref AbO) (Az1 Φ):=Arx W.O (Axv W) hΦ
end
theorem ArZ:mroOf (.type "map")=pure [.type "map",.type "object"]:=by rw[mroOf_type];kernel_rfl!
theorem AjR:typeLookup (.type "map") "__new__"=pure (some (.builtin "map.__new__")):=by rw[typeLookup_type,builtinLookup_eq_fast];kernel_rfl!
theorem Axw:isSubtype (.type "map") (.type "map")=pure true:=by rw[isSubtype_type];kernel_rfl!
theorem Alb:entryFor table "map.__new__"=some Builtin.«map.__new__»:=entryFor_of_tree (by kernel_rfl!)
theorem Al8(a b:Value):checkTypeCall "map" ⟨[a,b],[]⟩=pure ():=by kernel_rfl!
theorem Anf(a b:Value):checkBuiltinCall "map.__new__" ⟨[.type "map",a,b],[]⟩=pure ():=by kernel_rfl!
theorem Alc(f l:Addr)(items:Array Value)(n:Nat) :
  Meets (Builtin.«map.__new__» ⟨[.type "map",.ref f,.ref l],[]⟩) (fun _ R s=>s.heap.get? l=some {cls:=.type "list",dict:=none,data:=.seq items n,slots:=#[]} ∧
   ∀ h',(∀ a o,s.heap.get? a=some o→h'.get? a=some o)→h'.get? s.heap.objs.size=some {cls:=.type "list_iterator",data:=.fields #[.ref l,.int 0 0]}→h'.get? (s.heap.objs.size+1)=some {cls:=.type "tuple",data:=.seq #[.ref s.heap.objs.size]} →
    h'.get? (s.heap.objs.size+2)=some {cls:=.type "map",data:=.fields #[.ref (s.heap.objs.size+1),.ref f]}→R (.ok (.ret (.ref (s.heap.objs.size+2)))) {s with heap:=h'}):=
 .of_wp fun prog w A R s h=>by
  obtain⟨hp,g,d,tk,os⟩:=s;refine AaG h fun hl h=>?_
  have hsub:=Axw;have hL:Heap.IsList (Shared.heap ⟨hp,g,d,tk,os⟩) l items:=⟨_,hl,rfl,n,rfl⟩
  wp_walk using wpAny_loadPart' hl,wpAny_pyIter_list hL
  refine⟨_,rfl,?_⟩;have e1:(hp.push {cls:=.type "list_iterator",data:=.fields #[.ref l,.int 0 0]}).objs.size=hp.objs.size+1:=Heap.size_push ..;have e2:((hp.push {cls:=.type "list_iterator",data:=.fields #[.ref l,.int 0 0]}).push {cls:=.type "tuple",data:=.seq #[.ref hp.objs.size]}).objs.size=hp.objs.size+2:=(Heap.size_push ..).trans (congrArg (·+1) e1);have k2:=Heap.get?_push_size (hp.push {cls:=.type "list_iterator",data:=.fields #[.ref l,.int 0 0]}) (o:={cls:=.type "tuple",data:=.seq #[.ref hp.objs.size]}) rfl;have k3:=Heap.get?_push_size ((hp.push {cls:=.type "list_iterator",data:=.fields #[.ref l,.int 0 0]}).push {cls:=.type "tuple",data:=.seq #[.ref hp.objs.size]}) (o:={cls:=.type "map",data:=.fields #[.ref (hp.objs.size+1),.ref f]}) rfl;rw[e1] at k2;rw[e2] at k3;have h:=h _ (fun a o e=>Heap.get?_push_of_some _ (Heap.get?_push_of_some _ (Heap.get?_push_of_some _ e))) (Heap.get?_push_of_some _ (Heap.get?_push_of_some _ (Heap.get?_push_size _ rfl))) (Heap.get?_push_of_some _ k2) k3;show R (.ok (.ret (.ref ((hp.push {cls:=.type "list_iterator",data:=.fields #[.ref l,.int 0 0]}).push {cls:=.type "tuple",data:=.seq #[.ref hp.objs.size]}).objs.size))) ⟨((hp.push {cls:=.type "list_iterator",data:=.fields #[.ref l,.int 0 0]}).push {cls:=.type "tuple",data:=.seq #[.ref hp.objs.size]}).push {cls:=.type "map",data:=.fields #[.ref (hp.push {cls:=.type "list_iterator",data:=.fields #[.ref l,.int 0 0]}).objs.size,.ref f]},g,d,tk,os⟩;rw[e1,e2];exact h
theorem Ald:Slot "map" "__init__" "object.__init__":=
 .of (owner:="object") (n:="__init__") (by rw[typeLookup_type,builtinLookup_eq_fast];kernel_rfl!) (by decide +kernel) (by decide +kernel) (by decide +kernel)
  (by first|exact .inl (by decide +kernel)|exact .inr (by decide +kernel)) (by rw[isSubtype_type];kernel_rfl!)
theorem ApP:TypeCalled "map" "map.__new__" "object.__init__":=
 ⟨by decide +kernel,by decide +kernel,⟨_,_,ArZ⟩,madeBy_type ArZ AjR (by decide +kernel),by decide +kernel,by rw[isSubtype_type];kernel_rfl!,Ald⟩
theorem Aur{prog:Program}{w:World}{A:Around}{E:Value→Shared→Prop}{s:Shared}{f l:Addr}{items:Array Value}{n:Nat}{Q:Value→Shared→Prop}(hl:s.heap.get? l=some {cls:=.type "list",dict:=none,data:=.seq items n,slots:=#[]})
  (h:∀ h',(∀ a o,s.heap.get? a=some o→h'.get? a=some o)→h'.get? s.heap.objs.size=some {cls:=.type "list_iterator",data:=.fields #[.ref l,.int 0 0]}→h'.get? (s.heap.objs.size+1)=some {cls:=.type "tuple",data:=.seq #[.ref s.heap.objs.size]} →
    h'.get? (s.heap.objs.size+2)=some {cls:=.type "map",data:=.fields #[.ref (s.heap.objs.size+1),.ref f]}→Q (.ref (s.heap.objs.size+2)) {s with heap:=h'}):wpAny (model prog w) A (call (.type "map") [.ref f,.ref l]) Q E s:=
 callType_new ApP (by decide) (Al8 _ _) (Anf _ _) (fun obj=>F.args_object_init_3 obj _ _) Alb (Alc f l items n) ⟨hl,fun h' k k1 k2 k3=>⟨⟨_,k3,rfl⟩,h h' k k1 k2 k3⟩⟩
theorem Acm:Slot "map" "__next__" "map.__next__":=
 .of (owner:="map") (n:="__next__") (by rw[typeLookup_type,builtinLookup_eq_fast];kernel_rfl) (by decide +kernel) (by decide +kernel) (by decide +kernel)
  (by first|exact .inl (by decide +kernel)|exact .inr (by decide +kernel)) (by rw[isSubtype_type];kernel_rfl)
theorem Ae7:entryFor table "map.__next__"=some Builtin.«map.__next__»:=entryFor_of_tree (by kernel_rfl)
theorem Al9:Manifest.owners.lookup (String.ofList ['p','a','m'].reverse)=some Manifest.sig_map:=by kernel_rfl
theorem AeS(a:Value):argsOk "map.__next__" ⟨[a],[]⟩:=by unfold argsOk;rw[signature?_of (id:="map.__next__") (n:=['_','_','t','x','e','n','_','_']) (o:=['p','a','m']) (by kernel_rfl) Al9];kernel_rfl
theorem Agc:Slot "map" "__iter__" "map.__iter__":=
 .of (owner:="map") (n:="__iter__") (by rw[typeLookup_type,builtinLookup_eq_fast];kernel_rfl) (by decide +kernel) (by decide +kernel) (by decide +kernel)
  (by first|exact .inl (by decide +kernel)|exact .inr (by decide +kernel)) (by rw[isSubtype_type];kernel_rfl)
theorem Ai9(a:Value):argsOk "map.__iter__" ⟨[a],[]⟩:=by unfold argsOk;rw[signature?_of (id:="map.__iter__") (n:=['_','_','r','e','t','i','_','_']) (o:=['p','a','m']) (by kernel_rfl) Al9];kernel_rfl
theorem AjS:entryFor table "map.__iter__"=some Builtin.«dict_keyiterator.__iter__»:=
 entryFor_alias (id':="dict_keyiterator.__iter__") (by kernel_rfl) (by first|rfl|decide +kernel|(unfold String.splitOn;simp +decide [String.splitOnAux])) (by decide +kernel) (by kernel_rfl)
theorem Ar0:typeLookup (.type "map") "__len__"=pure none:=by rw[typeLookup_type,builtinLookup_eq_fast];kernel_rfl
theorem ApQ:typeLookup (.type "map") "__length_hint__"=pure none:=by rw[typeLookup_type,builtinLookup_eq_fast];kernel_rfl
noncomputable def ABD(P:Prop):Prop:=P
theorem Ar1{P:Prop}(h:ABD P):P:=h
section
variable{B:Bs}{A:Around}{s₀ s:Shared}{g₀ g:Gh}{n:Nat}
theorem Aus(O:B.Ok){f Mp tp It l:Addr}{i:Nat}{vs:Array Value}{nl:Nat}{F:List D→Option D}{v:Value}{d r:D}(hf:AbC B n (.ref f) F)(hA:AOk n A.in1)(x:Aag B s₀ g₀ s g)(h0:s₀.heap.get? It=none)(hg:g It=none)
  (hM:s.heap.get? Mp=some ⟨.type "map",none,.fields #[.ref tp,.ref f],#[]⟩) (hT:s.heap.get? tp=some ⟨.type "tuple",none,.seq #[.ref It] 0,#[]⟩) (hI:s.heap.IsListIter It l i) (hl:g l=some {cls:=.type "list",data:=.seq vs nl}) (hv:vs[i]?=some v) (hd:Den g v d) (hr:F [d]=some r)
  {Q:Option Value→Shared→Prop} {E:Value→Shared→Prop} (hq:∀ v' s' g',Aag B s₀ g₀ s' g'→Den g' v' r→g.le g'→g' It=none→s'.heap.IsListIter It l (i+1)→(∀ a o,a≠It→s.heap.get? a=some o→Abv o→s'.heap.get? a=some o∧(g a=none→g' a=none))→Q (some v') s') :
  wpAny B.M A (pyNext (.ref Mp)) Q E s:=by
 have hTy:s.TypeIs (.ref Mp) "map":=⟨_,hM,rfl⟩;unfold pyNext;refine wpAny_bind (wpAny_attempt (wpAny_callSpecial?_slot (name:=Str.ofString "__next__") hTy Acm (wpAny_call_entry Acm hTy Ae7 ?_ (AeS _))));unfold Builtin.«map.__next__»
 repeat (first
  |(with_reducible refine wpAny_bind (wpAny_field hM rfl rfl ?_))
  |(with_reducible refine wpAny_bind (wpAny_seqItems hT rfl ?_))
  |((with_reducible show wpAny _ _ (Builtin.SmallTypes.nextOf _) _ _ _);refine Ar1 ?_)
  |wp_step)
 unfold ABD;have hLs:s.heap.IsList l vs:=⟨_,x.inv.get hl,rfl,_,rfl⟩;refine wpAny_nextOf_list_item hI hLs hv fun h' hI' hs'=>?_;refine Aew (id hI) fun oI hoI hcI hdI=>?_;have x1:Aag B s₀ g₀ {s with heap:=h'} g:=x.turn O h0 hg hoI (AaU hcI (by decide)) hs' rfl rfl;have nMI:Mp≠It:=by intro q1;subst q1;rw[hM] at hoI;cases hoI;simp at hcI
 have nTI:tp≠It:=by intro q2;subst q2;rw[hT] at hoI;cases hoI;simp at hcI
 have hM1:h'.get? Mp=_:=(hs'.2 Mp nMI).trans hM
 repeat (first
  |(with_reducible refine wpAny_bind (wpAny_field hM1 rfl rfl ?_))
  |((with_reducible show wpAny _ _ (call _ _) _ _ _);refine Ar1 ?_)
  |wp_step)
 unfold ABD;show wpAny _ _ (call (.ref f) [v]) _ _ _;refine(hf.run A.in1 _ g [v] [d] r hA x1.inv (.cons hd .nil) hr).use fun v' s2 g2 x2 hv'=>?_;refine wpAny_bind (wpAny_letGo (wpAny_pure ⟨v',rfl,wpAny_pure ?_⟩));refine Aew (id hI') fun oJ hoJ hcJ hdJ=>?_;refine hq v' s2 g2 (x1.trans x2) hv' x2.le (x2.shutNone hoJ hg) ⟨oJ,x2.ext.keep _ _ hoJ (Aap hcJ),hcJ,hdJ⟩ fun a o ha e hn=>?_;have e1:h'.get? a=some o:=(hs'.2 a ha).trans e;exact⟨x2.ext.keep a o e1 hn,x2.shutNone e1⟩
theorem Axx(O:B.Ok){f Mp tp It l:Addr}{i:Nat}{vs:Array Value}{nl:Nat}(hh:A.handled=none)(x:Aag B s₀ g₀ s g)(h0:s₀.heap.get? It=none)(hg:g It=none)
  (hM:s.heap.get? Mp=some ⟨.type "map",none,.fields #[.ref tp,.ref f],#[]⟩) (hT:s.heap.get? tp=some ⟨.type "tuple",none,.seq #[.ref It] 0,#[]⟩) (hI:s.heap.IsListIter It l i) (hl:g l=some {cls:=.type "list",data:=.seq vs nl}) (hv:vs[i]?=none)
  {Q:Option Value→Shared→Prop} {E:Value→Shared→Prop} (hq:∀ s',Aag B s₀ g₀ s' g→(∀ a o,a≠It→s.heap.get? a=some o→s'.heap.get? a=some o)→Q none s') :
  wpAny B.M A (pyNext (.ref Mp)) Q E s:=by
 have hTy:s.TypeIs (.ref Mp) "map":=⟨_,hM,rfl⟩;unfold pyNext;refine wpAny_bind (wpAny_attempt (wpAny_callSpecial?_slot (name:=Str.ofString "__next__") hTy Acm (wpAny_call_entry Acm hTy Ae7 ?_ (AeS _))));unfold Builtin.«map.__next__»
 repeat (first
  |(with_reducible refine wpAny_bind (wpAny_field hM rfl rfl ?_))
  |(with_reducible refine wpAny_bind (wpAny_seqItems hT rfl ?_))
  |((with_reducible show wpAny _ _ (Builtin.SmallTypes.nextOf _) _ _ _);refine Ar1 ?_)
  |wp_step)
 unfold ABD;have hLs:s.heap.IsList l vs:=⟨_,x.inv.get hl,rfl,_,rfl⟩;refine wpAny_nextOf_list_end (by first|exact hh|(show A.in1.handled=none;exact hh)) hI hLs hv fun h' e k he=>?_;refine Aew (id hI) fun oI hoI hcI hdI=>?_;refine Aaf he fun oe hoe hce=>?_;have x1:Aag B s₀ g₀ {s with heap:=h'} g:=x.turnE O h0 hg hoI (AaU hcI (by decide)) k rfl rfl;dsimp only;refine wpAny_bind (wpAny_isInstance (T:="StopIteration") (b:=true) ⟨oe,hoe,hce⟩ isSubtype_stop ?_);rw[if_pos rfl];exact wpAny_pure (hq _ x1 fun a o ha e=>k a o ha e)
end
noncomputable def Aut(F:List D→Option D):List D→Option (List D)
 |[]=>some []
 |d :: ds=>(F [d]).bind fun r=>(Aut F ds).bind fun rs=>some (r :: rs)
theorem Agd{α:Type}{l:List α}{i:Nat}{x:α}{r:List α}(h:l.drop i=x :: r):l[i]?=some x∧l.drop (i+1)=r:=by
 refine⟨?_,?_⟩
 ·rw[← List.head?_drop,h];rfl
 ·rw[← List.drop_drop,h];rfl
section
variable{B:Bs}{A:Around}{s₀ s:Shared}{g₀ g:Gh}{n:Nat}
theorem ApR(O:B.Ok){f Mp tp It l S:Addr}{vs:Array Value}{nl:Nat}{F:List D→Option D}{res:Value}(hf:AbC B n (.ref f) F)(hA:AOk n A.in1.in1)(h0:s₀.heap.get? It=none)(h0S:s₀.heap.get? S=none)(hSI:S≠It)(hMI:Mp≠It)(hTI:tp≠It)(hSM:S≠Mp)(hST:S≠tp) :
  ∀ (ds:List D) (i:Nat) (rs:List D) (acc:Array Value) (as:List D) (c:Nat) (s:Shared) (g:Gh),Aag B s₀ g₀ s g→g It=none→s.heap.get? Mp=some ⟨.type "map",none,.fields #[.ref tp,.ref f],#[]⟩→s.heap.get? tp=some ⟨.type "tuple",none,.seq #[.ref It] 0,#[]⟩ →
   s.heap.IsListIter It l i→g l=some {cls:=.type "list",data:=.seq vs nl}→Aav g (vs.toList.drop i) ds→Aut F ds=some rs→s.heap.get? S=some (Abq acc c)→g S=none→Aav g acc.toList as→acc.size+ds.length≤1000 →
   codeAny B.M A (.builtin "list.extend.loop" ⟨[.ref S,.ref Mp,res],[]⟩) (fun r s'=>r=.ok (.ret res)∧∃ g' acc' c',Aag B s₀ g₀ s' g'∧s'.heap.get? S=some (Abq acc' c')∧Aav g' acc'.toList (as++rs)∧g' S=none) s:=by
 intro ds;induction ds with
 |nil=>
  intro i rs acc as c s g x gI hM hT hI hl hd hr hS gS ha hz;have hr:=sj hr;subst hr;refine codeAny_builtin PySem.F.entry_extend_loop ?_;rw[Around.under_plainId PySem.F.plain_extend_loop _];show wpAny _ A.in1 (pyNext (.ref Mp) >>= _) _ _ s;have hv:vs[i]?=none:=by have:=hd.length;simp only[List.length_drop,Array.length_toList,List.length_nil] at this;simp;omega
  refine wpAny_bind (Axx (A:=A.in1) O hA.handled x h0 gI hM hT hI hl hv fun s' x' k=>?_);rw[List.append_nil];exact wpAny_pure ⟨rfl,g,acc,c,x',k S _ hSI hS,ha,gS⟩
 |cons d ds ih=>
  intro i rs acc as c s g x gI hM hT hI hl hd hr hS gS ha hz;refine Aaf (Aak hr) fun r er hr1=>?_;refine Aaf (Aak hr1) fun rs' ers hr2=>?_;have hr2:=sj hr2;subst hr2;refine codeAny_builtin PySem.F.entry_extend_loop ?_;rw[Around.under_plainId PySem.F.plain_extend_loop _];show wpAny _ A.in1 (pyNext (.ref Mp) >>= _) _ _ s
  cases e:vs.toList.drop i with
  |nil=>rw[e] at hd;cases hd using Aav.consE
  |cons v rest=>
   rw[e] at hd
   cases hd using Aav.consE with|cons hv hrest=>?_
   refine AaG (Agd e) fun e1 e2=>?_;refine wpAny_bind (Aus (A:=A.in1) O hf hA x h0 gI hM hT hI hl (by simpa using e1) hv er fun v' s2 g2 x2 hv' le gI2 hI2 keep=>?_);have hS2:=(keep S _ hSI hS Acl);show wpAny _ A.in1 (updateSeq S (·.push v') >>= _) _ _ _;have hsz:acc.size+(ds.length+1)≤1000:=hz;refine wpAny_bind (wpAny_updateSeq hS2.1 rfl ?_ (by exact AaL (by omega)) (by show(acc.push v').size≤sizeLine+1;rw[Array.size_push];have:=AaL (n:=acc.size) (by omega);omega));have sb:Heap.SameBut S s2.heap (s2.heap.update S (Obj.mapSeq (·.push v'))):=Heap.SameBut.update ..;have x3:Aag B s₀ g₀ {s2 with heap:=s2.heap.update S (Obj.mapSeq (·.push v'))} g2:=x2.turn O h0S (hS2.2 gS) hS2.1 Adk sb rfl rfl;refine Aew (id hI2) fun oJ hoJ hcJ hdJ=>?_;refine wpAny_pure ⟨plainId_quiet PySem.F.plain_extend_loop _,?_⟩;refine codeAny_mono (ih (i+1) rs' (acc.push v') (as++[r]) _ _ g2 x3 gI2 ((sb.2 Mp (Ne.symm hSM)).trans (keep Mp _ hMI hM (Aap rfl)).1) ((sb.2 tp (Ne.symm hST)).trans (keep tp _ hTI hT (Aap rfl)).1)
    ⟨oJ,(sb.2 It (Ne.symm hSI)).trans hoJ,hcJ,hdJ⟩ (le _ _ hl) (by rw[e2];exact hrest.mono le) ers (Heap.get?_update_self _ hS2.1 rfl) (hS2.2 gS) (by rw[Array.toList_push];exact(ha.mono le).append (.cons hv' .nil)) (by rw[Array.size_push];omega)) fun res s' h=>?_
   rw[List.append_assoc] at h;exact h
theorem Ang(O:B.Ok){f Mp tp It l:Addr}{vs:Array Value}{nl:Nat}{F:List D→Option D}{ds rs:List D}(hf:AbC B n (.ref f) F)(hA:AOk n A.in1.in1)(h0:s₀.heap.get? It=none)(hMI:Mp≠It)(hTI:tp≠It)
  (x:Aag B s₀ g₀ s g) (gI:g It=none) (hM:s.heap.get? Mp=some ⟨.type "map",none,.fields #[.ref tp,.ref f],#[]⟩) (hT:s.heap.get? tp=some ⟨.type "tuple",none,.seq #[.ref It] 0,#[]⟩)
  (hI:s.heap.IsListIter It l 0) (hl:g l=some {cls:=.type "list",data:=.seq vs nl}) (hd:Aav g vs.toList ds) (hr:Aut F ds=some rs) (hz:ds.length≤1000) {Q:List Value→Shared→Prop} {E:Value→Shared→Prop}
  (hq:∀ vs' s' g',Aag B s₀ g₀ s' g'→Aav g' vs' rs→Q vs' s'):wpAny B.M A (collect (.ref Mp)) Q E s:=by
 have hTy:∀ {s:Shared},s.heap.get? Mp=some ⟨.type "map",none,.fields #[.ref tp,.ref f],#[]⟩→s.TypeIs (.ref Mp) "map":=fun h=>⟨_,h,rfl⟩;have live:∀ {a:Addr} {o:Obj},s.heap.get? a=some o→a≠s.heap.objs.size:=fun e=>Nat.ne_of_lt (Heap.lt_size e);have hSM:=(live hM).symm;have hST:=(live hT).symm;have hSI:s.heap.objs.size≠It:=by refine Aaf hI fun o ho _=>?_;exact(live ho).symm
 have h0S:s₀.heap.get? s.heap.objs.size=none:=x.ext.dead (Aa1 _);unfold collect;refine wpAny_bind (wpAny_runValue (codeAny_builtin PySem.F.entry_proto_collect ?_));rw[Around.under_plainId PySem.F.plain_proto_collect _];show wpAny _ A.in1 (newList [] >>= fun l=>again (.builtin "list.__iadd__" ⟨[l,.ref Mp],[]⟩)) _ _ s;refine wpAny_bind (wpAny_newObj_type ?_);refine wpAny_pure ⟨plainId_quiet PySem.F.plain_list_iadd _,codeAny_builtin PySem.F.entry_list_iadd ?_⟩;rw[Around.under_plainId PySem.F.plain_list_iadd _];have x1:=x.trans (Aag.open (o:=Abq #[] 0) O x.inv);have k1:∀ a o,s.heap.get? a=some o→(s.heap.push (Abq #[] 0)).get? a=some o:=fun a o e=>Heap.get?_push_of_some _ e;have hM1:=k1 _ _ hM;show wpAny _ A.in1 (Builtin.List.listExtendWith (.ref s.heap.objs.size) (.ref Mp) (.ref s.heap.objs.size)) _ _ _;unfold Builtin.List.listExtendWith;refine wpAny_bind (wpAny_typeOf (hTy hM1) ?_);have h1:Builtin.List.listSameRef (.ref s.heap.objs.size) (.ref Mp)=false:=by simp [Builtin.List.listSameRef,hSM]
 have h2:(Value.type "map" == Value.type "list")=false:=by decide
 have h3:(Value.type "map" == Value.type "tuple")=false:=by decide
 simp only[h1,h2,h3,Bool.or_false,Bool.false_eq_true,if_false];have iter:∀ {Q:Value→Shared→Prop} {E:Value→Shared→Prop} {s:Shared},s.heap.get? Mp=some ⟨.type "map",none,.fields #[.ref tp,.ref f],#[]⟩→Q (.ref Mp) s→wpAny B.M A.in1 (pyIter (.ref Mp)) Q E s:=fun {Q E s} hM hq=>by
  refine wpAny_pyIter_slot (hTy hM) Agc (wpAny_call_entry Agc (hTy hM) AjS ?_ (Ai9 _));show wpAny _ _ (ret (.ref Mp)) _ _ s;exact wpAny_pure ⟨_,rfl,"map",_,hTy hM,Acm.lookup,hq⟩
 refine wpAny_bind (iter hM1 ?_);refine wpAny_bind (wpAny_holding ?_);unfold Builtin.List.listLengthHint;refine wpAny_bind (wpAny_specialOf (hTy hM1) Ar0 ?_);show wpAny _ A.in1 (specialOf (Value.ref Mp) (Str.ofString "__length_hint__") >>= _) _ _ _;refine wpAny_bind (wpAny_specialOf (hTy hM1) ApQ ?_);refine wpAny_pure ?_;show wpAny _ A.in1 (rule "list.extend.makes-room" >>= fun _=>Builtin.List.listTouch (.ref s.heap.objs.size) >>= fun _=>
  again (.builtin "list.extend.loop" ⟨[.ref s.heap.objs.size,.ref Mp,.ref s.heap.objs.size],[]⟩)) _ _ _
 refine wpAny_bind (wpAny_rule ?_);generalize hS0:s.heap.objs.size=S at hSM hST hSI h0S;have hS₁:(s.heap.push (Abq #[] 0)).get? S=some (Abq #[] 0):=by rw[← hS0];exact Heap.get?_push_size _ rfl
 have gS:g S=none:=by rw[← hS0];exact x.inv.fresh
 refine wpAny_bind ?_;show wpAny _ A.in1 (updateSeq S (·.push .none) >>= fun _=>updateSeq S (·.pop)) _ _ _;refine wpAny_bind (wpAny_updateSeq hS₁ rfl ?_);have hS₂:=Heap.get?_update_self (Obj.mapSeq (·.push Value.none)) hS₁ rfl;refine wpAny_updateSeq hS₂ rfl ?_;have hS₃:=Heap.get?_update_self (Obj.mapSeq (·.pop)) hS₂ rfl;have sb1:Heap.SameBut S (s.heap.push (Abq #[] 0)) ((s.heap.push (Abq #[] 0)).update S (Obj.mapSeq (·.push Value.none))):=Heap.SameBut.update ..;have sb2:Heap.SameBut S ((s.heap.push (Abq #[] 0)).update S (Obj.mapSeq (·.push Value.none))) (((s.heap.push (Abq #[] 0)).update S (Obj.mapSeq (·.push Value.none))).update S (Obj.mapSeq (·.pop))):=Heap.SameBut.update ..;have sb:=sb1.trans sb2;have x2:Aag B s₀ g₀ {s with heap:=((s.heap.push (Abq #[] 0)).update S (Obj.mapSeq (·.push Value.none))).update S (Obj.mapSeq (·.pop))} g:=x1.turn O h0S gS hS₁ Adk sb rfl rfl;refine Aew (id hI) fun oI hoI hcI hdI=>?_;refine wpAny_pure ⟨plainId_quiet PySem.F.plain_extend_loop _,codeAny_mono (ApR (A:=A) O (res:=.ref S) hf hA h0 h0S hSI hMI hTI hSM hST ds 0 rs #[] [] _ _ g x2 gI ((sb.2 Mp (Ne.symm hSM)).trans hM1) ((sb.2 tp (Ne.symm hST)).trans (k1 _ _ hT))
  ⟨oI,(sb.2 It (Ne.symm hSI)).trans (k1 _ _ hoI),hcI,hdI⟩ hl hd hr hS₃ gS .nil (by simpa using hz)) fun r s' h=>?_⟩
 obtain⟨rfl,g',acc',c',x3,hS',ha',gS'⟩:=h
 show wpAny _ A (load S >>= _) _ _ s';refine wpAny_bind (wpAny_load hS' ?_);exact wpAny_pure (hq _ s' g' x3 (by simpa using ha'))
end
theorem Aja{F:List D→Option D}:∀ {ds rs:List D},Aut F ds=some rs→rs.length=ds.length
 |[],rs,h=>by have h:=sj h;subst h;rfl
 |d :: ds,rs,h=>by
  refine Aaf (Aak h) fun r _ h1=>?_;refine Aaf (Aak h1) fun rs' e h2=>?_;have h2:=sj h2;subst h2;exact congrArg Nat.succ (Aja e)
section
variable{B:Bs}{A:Around}{s₀ s:Shared}{g₀ g:Gh}{n:Nat}
theorem AjT(O:B.Ok){f Mp tp It l:Addr}{vs:Array Value}{nl:Nat}{F:List D→Option D}{ds rs:List D}(hf:AbC B n (.ref f) F)(hA:AOk n A.in1.in1.in1)(h0:s₀.heap.get? It=none)(hMI:Mp≠It)(hTI:tp≠It)
  (x:Aag B s₀ g₀ s g) (gI:g It=none) (hM:s.heap.get? Mp=some ⟨.type "map",none,.fields #[.ref tp,.ref f],#[]⟩) (hT:s.heap.get? tp=some ⟨.type "tuple",none,.seq #[.ref It] 0,#[]⟩)
  (hI:s.heap.IsListIter It l 0) (hl:g l=some {cls:=.type "list",data:=.seq vs nl}) (hd:Aav g vs.toList ds) (hr:Aut F ds=some rs) (hz:ds.length≤1000) {Q:Value→Shared→Prop} {E:Value→Shared→Prop}
  (hq:∀ t s' g',Aag B s₀ g₀ s' g'→Den g' (.ref t) (.tup rs)→s'.TypeIs (.ref t) "tuple"→Q (.ref t) s') :
  codeAny B.M A (.call (.builtin "tuple.__new__") ⟨[.type "tuple",.ref Mp],[]⟩) (wants Q E) s:=by
 refine codeAny_of_tree ?_;show wpAny _ A.in1 (do checkBuiltinCall "tuple.__new__" ⟨[.type "tuple",.ref Mp],[]⟩;again (.builtin "tuple.__new__" ⟨[.type "tuple",.ref Mp],[]⟩)) _ _ s;refine wpAny_bind (wpAny_of_eq (PySem.F.newCall_tuple_1 _) (wpAny_pure ⟨plainId_quiet PySem.F.plain_tuple_new _,codeAny_builtin PySem.F.entry_tuple_new ?_⟩));rw[Around.under_plainId PySem.F.plain_tuple_new _];have hsub:=sub_tuple_self;have hinit:=init_tuple_lookup;have hmh:=madeHere_tuple;have hTI':s.TypeIs (.ref Mp) "map":=⟨_,hM,rfl⟩
 wp_walk using wpAny_typeOf hTI',Ang O hf hA h0 hMI hTI x gI hM hT hI hl hd hr hz
 intro vs' s' g' x' hd';show wpAny _ _ (Builtin.Tuple.tupleExact vs'.toArray >>= fun v=>ret v) _ _ _;unfold Builtin.Tuple.tupleExact;have hlen:vs'.length=rs.length:=hd'.length;have hrl:rs.length=ds.length:=Aja hr;refine wpAny_bind (wpAny_newObj_type ?_ (by show vs'.toArray.size≤sizeLine;rw[List.size_toArray,hlen,hrl];exact AaL (by omega)));refine wpAny_pure ?_;refine Aaf (AcB (B:=B) O x'.inv (vs:=vs'.toArray) (ds:=rs) (by simpa using hd')) fun g2 x2 hd2=>?_;exact hq _ _ g2 (x'.trans x2) hd2 ⟨_,Heap.get?_push_size _ rfl,rfl⟩
theorem AjU(O:B.Ok){f Mp tp It l:Addr}{vs:Array Value}{nl:Nat}{F:List D→Option D}{ds rs:List D}(hf:AbC B n (.ref f) F)(hA:AOk (n+1) A)(h0:s₀.heap.get? It=none)(hMI:Mp≠It)(hTI:tp≠It)
  (x:Aag B s₀ g₀ s g) (gI:g It=none) (hM:s.heap.get? Mp=some ⟨.type "map",none,.fields #[.ref tp,.ref f],#[]⟩) (hT:s.heap.get? tp=some ⟨.type "tuple",none,.seq #[.ref It] 0,#[]⟩)
  (hI:s.heap.IsListIter It l 0) (hl:g l=some {cls:=.type "list",data:=.seq vs nl}) (hd:Aav g vs.toList ds) (hr:Aut F ds=some rs) (hz:ds.length≤1000) {Q:Value→Shared→Prop} {E:Value→Shared→Prop}
  (hq:∀ v s' g',Aag B s₀ g₀ s' g'→Den g' v (.tup rs)→Q v s'):wpAny B.M A (call (.type "tuple") [.ref Mp]) Q E s:=by
 have hA':AOk n A.in1.in1.in1.in1.in1:=hA.to (k:=5) hA.handled (Nat.le_add_right _ _) rfl (by decide);refine callType_codes (Q₁:=fun obj s₁=>s₁.TypeIs obj "tuple"∧Q obj s₁) PySem.F.called_tuple (PySem.F.typeCall_tuple_1 _) PySem.F.entry_object_init
  (AjT O hf ?_ h0 hMI hTI x gI hM hT hI hl hd hr hz fun t s' g' x' hd' hty=>⟨hty,hq _ s' g' x' hd'⟩) fun obj s₁ h₁=>?_
 ·exact hA.to (k:=4) hA.handled (Nat.le_add_right _ _) rfl (by decide)
 ·exact⟨h₁.1,PySem.F.args_object_init_2 obj _,object_init_meets PySem.F.called_tuple.init.lookup PySem.F.called_tuple.made (by decide) B.prog B.w A.in1 _ s₁ ⟨h₁.1,rfl,h₁.2⟩⟩
end
section
variable{prog:Program}{w:World}{A:Around}{E:Value→Shared→Prop}{s:Shared}
theorem Aeh(s:Shared):s.TypeIs (.bool true) "bool":=rfl
theorem Ajb{Q:Int→Shared→Prop}(h:Q 1 {s with toks:=s.toks+1}):wpAny (model prog w) A (pyHash (.bool true)) Q E s:=by
 unfold pyHash;have hv:[Value.bool true].any Value.onHeap=false:=rfl;refine wpAny_bind ?_;rw[cRoomFor,if_neg (by rw[hv];exact Bool.false_ne_true)];refine wpAny_pure ?_;refine wpAny_bind (wpAny_specialOf (Aeh s) PySem.F.slot_bool_hash.lookup ?_);show wpAny _ _ (if (some (Value.builtin "int.__hash__") == some Value.none)=true then _ else _) Q E s;rw[if_neg (by rw[beq_builtin_none];exact Bool.false_ne_true)];refine wpAny_bind (wpAny_specialOf (Aeh s) PySem.F.slot_bool_hash.lookup ?_);show wpAny _ _ (callSpecialIfBoundUnlessNone? (.bool true) "__hash__" _ >>= _) Q E s;refine wpAny_bind (wpAny_callSpecialIfBoundUnlessNone?_slot (Aeh s) PySem.F.slot_bool_hash
  (wpAny_call_entry PySem.F.slot_bool_hash (Aeh s) entry_int_hash (show wpAny _ _ (do ret (← mkInt (rawHash 1))) _ _ s from wpAny_ret_mkInt ?_) (args_int_hash _)))
 have hr:=rawHash_range 1;show wpAny _ _ (if (decide (-(2:Int) ^ 63≤rawHash 1) && decide (rawHash 1<2 ^ 63))=true then _ else _) Q E _;rw[if_pos (by rw[decide_eq_true hr.1,decide_eq_true hr.2];rfl)];exact wpAny_pure h
theorem Anh{Q:Bool→Shared→Prop}(h:Q true s):wpAny (model prog w) A (eqBool (.bool true) (.bool true)) Q E s:=by unfold eqBool;refine wpAny_holding ?_;rw[if_pos (by decide)];exact wpAny_bind (wpAny_rule (wpAny_pure h))
end
noncomputable def AAF(led:Bool):Obj:={cls:=.type "set",data:=.set #[] 0 (.fresh 0 0 led)}
noncomputable def ABE(led:Bool):SetTable:={mask:=7,place:=#[1],dummies:=#[],finger:=0,led,moves:=0,plain:=true}
noncomputable def ApS(led:Bool)(n:Nat):Obj:={cls:=.type "set",data:=.set #[(1,.bool true)] n (ABE led)}
theorem ADL(led:Bool):layNew (SetTable.fresh 0 0 led) #[] 1 (.bool true)=(#[(1,.bool true)],ABE led,false,false):=by induction led using Bool.casesOn<;>rfl
section
variable{prog:Program}{w:World}{A:Around}{E:Value→Shared→Prop}{s:Shared}
theorem Ar2{a:Addr}{led:Bool}{Q:Value→Shared→Prop}(ha:s.heap.get? a=some (AAF led))
  (hq:∀ n h',h'.get? a=some (ApS led n)→Heap.SameBut a s.heap h'→Q .none {s with heap:=h',toks:=s.toks+1}) :
  wpAny (model prog w) A (call (.builtin "set.add") [.ref a,.bool true]) Q E s:=by
 have hT:s.TypeIs (.ref a) "set":=⟨_,ha,rfl⟩;refine wpAny_call_entry PySem.F.slot_set_add hT PySem.F.entry_set_add ?_ (PySem.F.args_set_add_2 _ _);unfold Builtin.«set.add» Builtin.Frozenset.oneOther;simp only[List.isEmpty_nil,bind_assoc];unfold Builtin.Frozenset.addrOf setAdd;refine wpAny_bind (wpAny_pure ?_)
 try dsimp only
 refine wpAny_bind (wpAny_pure ?_)
 try dsimp only
 refine wpAny_bind ?_;refine wpAny_holding ?_;refine wpAny_bind (Ajb ?_);have ha':({s with toks:=s.toks+1}:Shared).heap.get? a=some (AAF led):=ha;unfold setAddHashed
 repeat (first
  |(with_reducible refine wpAny_bind (wpAny_load ha' ?_))
  |wp_step)
 rw[if_pos (by kernel_rfl!)];unfold setAddByScan;rw[ADL led];unfold setScan;dsimp only;have htf:(!false && (ABE led).tooFull)=false:=by induction led using Bool.casesOn<;>rfl
 have hpl:(ABE led).plain=true:=rfl
 repeat (first
  |(rw[htf])
  |wp_step)
 exact⟨_,rfl,hq _ _ (Heap.get?_update_self _ ha rfl) (Heap.SameBut.update ..)⟩
theorem Ar3{a:Addr}{led:Bool}{n:Nat}{Q:Value→Shared→Prop}(ha:s.heap.get? a=some (ApS led n))(hq:Q .none {s with toks:=s.toks+1}) :
  wpAny (model prog w) A (call (.builtin "set.add") [.ref a,.bool true]) Q E s:=by
 have hT:s.TypeIs (.ref a) "set":=⟨_,ha,rfl⟩;refine wpAny_call_entry PySem.F.slot_set_add hT PySem.F.entry_set_add ?_ (PySem.F.args_set_add_2 _ _);unfold Builtin.«set.add» Builtin.Frozenset.oneOther;simp only[List.isEmpty_nil,bind_assoc];unfold Builtin.Frozenset.addrOf setAdd;refine wpAny_bind (wpAny_pure ?_)
 try dsimp only
 refine wpAny_bind (wpAny_pure ?_)
 try dsimp only
 refine wpAny_bind ?_;refine wpAny_holding ?_;refine wpAny_bind (Ajb ?_);have ha':({s with toks:=s.toks+1}:Shared).heap.get? a=some (ApS led n):=ha;unfold setAddHashed
 repeat (first
  |(with_reducible refine wpAny_bind (wpAny_load ha' ?_))
  |wp_step)
 rw[if_pos (by kernel_rfl!)];unfold setAddByScan setScan;dsimp only;unfold setScanFrom
 repeat (first
  |(with_reducible refine wpAny_bind (wpAny_load ha' ?_))
  |((with_reducible show wpAny _ _ (eqBool _ _) _ _ _);refine Anh ?_)
  |wp_step)
 exact⟨_,rfl,hq⟩
theorem AjV:entryFor table "set.__iter__"=some Builtin.«frozenset.__iter__»:=
 entryFor_alias (id':="frozenset.__iter__") (by kernel_rfl) (by first|rfl|decide +kernel|(unfold String.splitOn;simp +decide [String.splitOnAux])) (by decide +kernel) (by kernel_rfl)
theorem Auu{a:Addr}{led:Bool}{n:Nat}{Q:Value→Shared→Prop}(ha:s.heap.get? a=some (ApS led n))
  (hq:Q (.ref s.heap.objs.size) {s with heap:=s.heap.push {cls:=.type "set_iterator",data:=.fields #[rawInt 0,rawInt 0,.ref a,rawInt 1,rawInt n]}}):wpAny (model prog w) A (call (.builtin "set.__iter__") [.ref a]) Q E s:=by
 have hT:s.TypeIs (.ref a) "set":=⟨_,ha,rfl⟩;refine wpAny_call_entry PySem.F.slot_set_iter hT AjV ?_ (PySem.F.args_set_iter_1 _);unfold Builtin.«frozenset.__iter__» setDrawn setsByText
 repeat (first
  |(with_reducible refine wpAny_bind (wpAny_load ha ?_))
  |wp_step)
 refine wpAny_askSetting (wpAny_pure (wpAny_pure ?_));rw[if_neg (by intro h;rw[Bool.and_eq_true] at h;exact Bool.noConfusion (show false=true from h.2))]
 repeat (first
  |(with_reducible refine wpAny_bind (wpAny_load ha ?_))
  |wp_step)
 exact⟨_,rfl,hq⟩
noncomputable def sIt(st i:Nat)(a:Value)(n:Nat):Obj:={cls:=.type "set_iterator",data:=.fields #[rawInt st,rawInt i,a,rawInt 1,rawInt n]}
theorem AcK:Slot "set_iterator" "__next__" "set_iterator.__next__":=
 .of (owner:="set_iterator") (n:="__next__") (by rw[typeLookup_type,builtinLookup_eq_fast];kernel_rfl) (by decide +kernel) (by decide +kernel) (by decide +kernel)
  (by first|exact .inl (by decide +kernel)|exact .inr (by decide +kernel)) (by rw[isSubtype_type];kernel_rfl)
theorem Age:entryFor table "set_iterator.__next__"=some Builtin.«set_iterator.__next__»:=entryFor_of_tree (by kernel_rfl)
theorem Auv:Manifest.owners.lookup (String.ofList ['r','o','t','a','r','e','t','i','_','t','e','s'].reverse)=some Manifest.sig_set_iterator:=by kernel_rfl
theorem Ae8(a:Value):argsOk "set_iterator.__next__" ⟨[a],[]⟩:=by unfold argsOk;rw[signature?_of (id:="set_iterator.__next__") (n:=['_','_','t','x','e','n','_','_']) (o:=['r','o','t','a','r','e','t','i','_','t','e','s']) (by kernel_rfl) Auv];kernel_rfl
theorem AnY(f:Nat→Nat)(e:Int×Value):pickOrder f #[e]=#[e]:=by
 have h:pickOrder f #[e]=(match [e][f 0 % [e].length]? with|some x=>pickOrder.go f 0 1 ([e].eraseIdx (f 0 % [e].length)) (#[].push x)|none=>#[]):=by kernel_rfl!
 rw[h,show f 0 % [e].length=0 from Nat.mod_one _]
 rfl
theorem Axy{a I:Addr}{led:Bool}{n:Nat}{Q:Option Value→Shared→Prop}(ha:s.heap.get? a=some (ApS led n))(hI:s.heap.get? I=some (sIt 0 0 (.ref a) n))(hled:led=!(w.params.followText "set-order"))
  (hq:∀ h',h'.get? I=some (sIt (if w.params.followText "set-order"=true then 0 else 2) 1 (.ref a) n)→Heap.SameBut I s.heap h'→Q (some (.bool true)) {s with heap:=h'}):wpAny (model prog w) A (pyNext (.ref I)) Q E s:=by
 have hT:s.TypeIs (.ref I) "set_iterator":=⟨_,hI,rfl⟩;unfold pyNext;refine wpAny_bind (wpAny_attempt (wpAny_callSpecial?_slot (name:=Str.ofString "__next__") hT AcK (wpAny_call_entry AcK hT Age ?_ (Ae8 _))));unfold Builtin.«set_iterator.__next__» setNext setsByText
 repeat (first
  |(with_reducible refine wpAny_bind (wpAny_load ha ?_))
  |(with_reducible refine wpAny_bind (wpAny_load hI ?_))
  |wp_step)
 refine wpAny_askSetting (wpAny_pure ?_);dsimp only
 cases hb:w.params.followText "set-order" with
 |true=>
  rw[hb] at hled hq;rw[show(model prog w).w=w from rfl,hb,if_pos rfl,if_neg (by simp)];unfold setWalk setsByText
  repeat (first
   |(with_reducible refine wpAny_bind (wpAny_load ha ?_))
   |(with_reducible refine wpAny_bind (wpAny_askSetting ?_))
   |(with_reducible refine wpAny_askSetting ?_)
   |wp_step)
  dsimp only;rw[show(model prog w).w=w from rfl,hb,if_pos rfl];refine wpAny_bind (wpAny_askSetting (wpAny_pure ?_));rw[AnY];refine wpAny_pure ?_
  try dsimp only
  refine wpAny_bind (wpAny_setField_rec hI (by simp) fun h2 hI2 hs2=>?_);refine wpAny_bind (wpAny_setField_rec hI2 (by simp) fun h3 hI3 hs3=>?_);exact wpAny_pure ⟨_,rfl,wpAny_pure (hq h3 hI3 (hs2.trans hs3))⟩
 |false=>
  rw[hb] at hled hq;subst hled;rw[show(model prog w).w=w from rfl,hb,if_neg (by decide),if_neg (by intro h;exact Bool.noConfusion (show false=true from h))];refine wpAny_bind (wpAny_of_eq (a:=()) rfl (wpAny_pure ?_))
  try dsimp only
  refine wpAny_bind (wpAny_setField_rec hI (by simp) fun h2 hI2 hs2=>?_);refine wpAny_bind (wpAny_setField_rec hI2 (by simp) fun h3 hI3 hs3=>?_);exact wpAny_pure ⟨_,rfl,wpAny_pure (hq h3 hI3 (hs2.trans hs3))⟩
theorem AAG{a I:Addr}{led:Bool}{n:Nat}{Q:Option Value→Shared→Prop}(hh:A.handled=none)(ha:s.heap.get? a=some (ApS led n))(hI:s.heap.get? I=some (sIt (if w.params.followText "set-order"=true then 0 else 2) 1 (.ref a) n))(hled:led=!(w.params.followText "set-order"))
  (hq:∀ h',Heap.ExtBut I s.heap h'→Q none {s with heap:=h'}):wpAny (model prog w) A (pyNext (.ref I)) Q E s:=by
 have hT:s.TypeIs (.ref I) "set_iterator":=⟨_,hI,rfl⟩;unfold pyNext;refine wpAny_bind (wpAny_attempt (wpAny_callSpecial?_slot (name:=Str.ofString "__next__") hT AcK (wpAny_call_entry AcK hT Age ?_ (Ae8 _))));have tail:∀ h2,Heap.SameBut I s.heap h2→wpAny (model prog w) A.in1 (newExc (.type "StopIteration") [] >>= fun e=>raiseNew (α:=Fin) e) (fun fin s'=>∃ v,fin=Fin.done (Flow.ret v)∧wpAny (model prog w) A (pure (some v)) Q E s')
   (fun e s'=>wpAny (model prog w) A (do
       let __do_lift ← isInstance e (Value.type "StopIteration")
       if __do_lift=true then pure none else throw e) Q E s') {s with heap:=h2}:=fun h2 hs2=>by
  refine wpAny_bind ?_;simp only[newExc,newTuple];refine wpAny_bind (wpAny_newObj_type ?_ (by size_fits));refine wpAny_bind (m:=firstArgMember _ _) (wpAny_of_eq (a:=Value.none) (by first|rfl|(simp only[firstArgMember];rfl)) ?_);refine wpAny_newObj_type ?_ (by size_fits);unfold raiseNew;refine wpAny_bind (wpAny_handled ?_)
  first|rw[show A.in1.handled=none from hh]|rw[hh]
  refine wpAny_bind (wpAny_pure (wpAny_throw ?_));refine wpAny_bind (wpAny_isInstance (T:="StopIteration") (b:=true) ⟨_,Heap.get?_push_size _ rfl,rfl⟩ isSubtype_stop ?_);rw[if_pos rfl];exact wpAny_pure (hq _ ((hs2.extBut.push _).push _))
 unfold Builtin.«set_iterator.__next__» setNext setsByText
 cases hb:w.params.followText "set-order" with
 |true=>
  rw[hb,if_pos rfl] at hI
  repeat (first
   |(with_reducible refine wpAny_bind (wpAny_load ha ?_))
   |(with_reducible refine wpAny_bind (wpAny_load hI ?_))
   |wp_step)
  refine wpAny_askSetting (wpAny_pure ?_);dsimp only;rw[show(model prog w).w=w from rfl,hb,if_pos rfl,if_neg (by simp)];unfold setWalk setsByText
  repeat (first
   |(with_reducible refine wpAny_bind (wpAny_load ha ?_))
   |(with_reducible refine wpAny_bind (wpAny_askSetting ?_))
   |(with_reducible refine wpAny_askSetting ?_)
   |wp_step)
  dsimp only;rw[show(model prog w).w=w from rfl,hb,if_pos rfl];refine wpAny_bind (wpAny_askSetting (wpAny_pure ?_));rw[AnY];refine wpAny_pure ?_
  try dsimp only
  refine wpAny_bind (wpAny_setField_rec hI (by simp) fun h2 hI2 hs2=>?_);exact tail h2 hs2
 |false=>
  rw[hb,if_neg (by decide)] at hI;rw[hb] at hled;subst hled
  repeat (first
   |(with_reducible refine wpAny_bind (wpAny_load ha ?_))
   |(with_reducible refine wpAny_bind (wpAny_load hI ?_))
   |wp_step)
  refine wpAny_askSetting (wpAny_pure ?_);dsimp only;rw[show(model prog w).w=w from rfl,hb,if_neg (by decide),if_neg (by intro h;exact Bool.noConfusion (show false=true from h))];refine wpAny_bind (wpAny_of_eq (a:=()) rfl (wpAny_pure ?_))
  try dsimp only
  refine wpAny_bind (wpAny_setField_rec hI (by simp) fun h2 hI2 hs2=>?_);exact tail h2 hs2
theorem ApT{a:Addr}{led:Bool}{n:Nat}{Q:Value→Shared→Prop}(ha:s.heap.get? a=some (ApS led n))
  (hq:Q (.ref s.heap.objs.size) {s with heap:=s.heap.push (sIt 0 0 (.ref a) n)}):wpAny (model prog w) A (pyIter (.ref a)) Q E s:=by
 have hT:s.TypeIs (.ref a) "set":=⟨_,ha,rfl⟩;refine wpAny_pyIter_slot hT PySem.F.slot_set_iter (wpAny_mono (Auu ha (Q:=fun v s'=>v=.ref s.heap.objs.size∧s'={s with heap:=s.heap.push (sIt 0 0 (.ref a) n)}) ⟨rfl,rfl⟩) (fun v s' h=>?_) fun _ _ e=>e);refine AaG h fun z1 z2=>?_;subst z1;subst z2;exact⟨"set_iterator",_,⟨_,Heap.get?_push_size _ rfl,rfl⟩,AcK.lookup,hq⟩
theorem ApU{a:Addr}{led:Bool}{n:Nat}{Q:List Value→Shared→Prop}(hh:A.handled=none)(ha:s.heap.get? a=some (ApS led n))(hled:led=!(w.params.followText "set-order"))
  (hQ:∀ h',Heap.ExtBut s.heap.objs.size s.heap h'→Q [.bool true] {s with heap:=h'}):wpAny (model prog w) A (unpackItems (.ref a) 1 none) Q E s:=by
 have hlt:a≠s.heap.objs.size:=Nat.ne_of_lt (Heap.lt_size ha);have hT:s.TypeIs (.ref a) "set":=⟨_,ha,rfl⟩;unfold unpackItems;refine wpAny_bind ?_;unfold notIterableAtAll;refine wpAny_bind (wpAny_specialOf hT PySem.F.slot_set_iter.lookup ?_);refine wpAny_pure ?_;simp only[Bool.false_eq_true,if_false];refine wpAny_bind (wpAny_holding (ApT ha ?_));have ha1:(s.heap.push (sIt 0 0 (.ref a) n)).get? a=some (ApS led n):=Heap.get?_push_of_some _ ha;have hI1:(s.heap.push (sIt 0 0 (.ref a) n)).get? s.heap.objs.size=some (sIt 0 0 (.ref a) n):=Heap.get?_push_size _ rfl;refine wpAny_bind (wpAny_holding ?_);show wpAny _ _ (pyNext (.ref s.heap.objs.size) >>= _) _ _ _;refine wpAny_bind (Axy ha1 hI1 hled fun h2 hI2 hs2=>?_);refine wpAny_bind (wpAny_holding (wpAny_pure (wpAny_pure ?_)));rw[if_neg (by simp)];have ha2:h2.get? a=some (ApS led n):=(hs2.2 a hlt).trans ha1;refine wpAny_bind (wpAny_holding (AAG hh ha2 hI2 hled fun h3 he3=>?_));simp only[Option.isSome_none,Bool.false_eq_true,if_false];exact wpAny_pure (hQ h3 fun b o hb e=>he3 b o hb (hs2.extBut b o hb (Heap.get?_push_of_some _ e)))
theorem Axz{Q:Value→Shared→Prop}(h:Q (.ref s.heap.objs.size) {s with heap:=s.heap.push (AAF (!(w.params.followText "set-order")))}):wpAny (model prog w) A (newSet (.type "set")) Q E s:=by unfold newSet setsByText;refine wpAny_bind (wpAny_bind (wpAny_askSetting (wpAny_pure ?_)));dsimp only;simp only[newObj];exact wpAny_bind (wpAny_alloc (wpAny_pure h))
end
theorem Ama{elt target iter:Expr}{ifs:List Expr}{scope:Scope}{pos:Pos}{it acc:Value}{env:Env} :
  compTurn (.SetComp elt [⟨target,iter,ifs,0⟩] scope pos) 0 it acc env=(standAt iter.pos >>= fun _=>pyNext it >>= fun r=>match r with
   |none=>pure (.done .next)
   |some v=>letOwnedTupleGo target it v >>= fun _=>assign target env v >>= fun _=>
    (forIn ifs true fun c r=>if r=true then do let ok ← isTrue c env (eval c env);pure (ForInStep.yield ok) else pure (ForInStep.yield r)) >>= fun ok=>
    (if ok=true then (eval elt env >>= fun v=>standAt elt.pos >>= fun _=>call (.builtin "set.add") [acc,v] >>= fun _=>pure ()) >>= fun _=>again (.compLoop (.SetComp elt [⟨target,iter,ifs,0⟩] scope pos) 0 it acc env) else again (.compLoop (.SetComp elt [⟨target,iter,ifs,0⟩] scope pos) 0 it acc env))):=by
 unfold compTurn
 rfl
noncomputable def AxA(led:Bool)(_:Gh)(o:Obj)(a:Nat):Prop:=(a=0∧o=AAF led)∨(a=1∧∃ n,o=ApS led n)
section
variable{B:Bs}{A:Around}{s₀ s s':Shared}{g₀ g g':Gh}{own:List Str}{env:Env}{ρ:Rho}
noncomputable def Ar4(E:Rho→Expr→Option D)(elt:Expr)(ρ:Rho)(_:Nat):Option Nat:=(E ρ elt).bind fun d=>(AwG d).bind fun b=>if b=true then some 1 else none
theorem Ar5(O:B.Ok)(hh:A.handled=none){elt target iter:Expr}{ifs:List Expr}{scope:Scope}{pos:Pos}{acc It:Addr}{E:Rho→Expr→Option D}{led:Bool}{R:Result→Shared→Prop}
  (H:∀ ρ,Snd B A s₀ g₀ own env ρ (E ρ)) (HT:∀ ρ,Aof B A s₀ g₀ own env ρ (E ρ)) {ds:List D} {a r:Nat} (C:CS B s₀ g₀ own env acc (AxA led) ρ a s g) (it:AaN s.heap g It ds) (h0:s₀.heap.get? It=none) (hg:g It=none)
  (hr:Abi own env.scope (fun ρ e=>Abc (E ρ) e) target ifs (Ar4 E elt) ρ ds a=some r) (hR:∀ s5 g5,CS B s₀ g₀ own env acc (AxA led) ρ r s5 g5→R (.ok .next) s5) :
  codeAny B.M A (.compLoop (.SetComp elt [⟨target,iter,ifs,0⟩] scope pos) 0 (.ref It) (.ref acc) env) R s:=by
 refine AeB O hh (fun _ _ _ _ _ h=>h) rfl rfl rfl Ama (fun ρ e b s g F h=>HT ρ e b s g h F) (fun ρ₁ a a' s g C hi Q EE hk=>?_) C it h0 hg hr fun s' g' _ C' _=>hR s' g' C';refine Aaf (Aak hi) fun d hd k_1=>?_;refine Aaf (Aak k_1) fun b hb k_2=>?_;refine AaG (Abs k_2) fun ht k_3=>?_;rw[AnK hb,ht] at hd;have k_3:=sj k_3;subst k_3;refine wpAny_bind (wpAny_bind ((H ρ₁ elt _ s g hd C.F).use fun v s1 g1 x1 hv=>?_));induction hv using Den.boolE;have C1:=C.step (fun _ _ _ _ _ h=>h) x1;refine wpAny_bind (wpAny_standAt (wpAny_bind ?_));refine Amv C1.obj fun o f1 f2 f3 f4 f5 f6=>?_;have done:∀ (s2:Shared) (n:Nat),s2.heap.get? acc=some (ApS led n)→Heap.SameBut acc s1.heap s2.heap→s2.gens=s1.gens→s2.os=s1.os→wpAny B.M A (again (.compLoop (.SetComp elt [⟨target,iter,ifs,0⟩] scope pos) 0 (.ref It) (.ref acc) env)) Q EE s2:=fun s2 n hn sb hg1 ho1=>by
  refine hk s2 g1 x1.le ⟨C1.F.turnE O C1.new.1 C1.new.2 f1 f4 f6 (fun e=>C1.loc (.inl e)) sb.extBut hg1 ho1,⟨_,hn,.inr ⟨rfl,n,rfl⟩,Aap rfl,AaU rfl (by decide),(by intro vs e;injection e),(by intro v e;injection e)⟩,C1.new,C1.loc⟩ fun x o h1 h2 e hn=>?_;have e1:=x1.ext.keep x o e hn;exact⟨(sb.2 x h1).trans e1,x1.shutNone e⟩
 rcases f2 with ⟨rfl,rfl⟩|⟨rfl,n,rfl⟩
 ·refine Ar2 f1 fun n h' hn sb=>wpAny_pure (done _ n hn sb rfl rfl)
 ·exact Ar3 f1 (wpAny_pure (done _ n f1 (Heap.SameBut.refl _ _) rfl rfl))
end
section
variable{B:Bs}{A:Around}{s₀ s s':Shared}{g₀ g g':Gh}{own:List Str}{env:Env}{ρ:Rho}{n:Nat}{T:Tb}
theorem ApV(O:B.Ok)(hh:A.handled=none){st:Stmt}{y:Str}{q q2:Pos}{k2:Nat}{elt target iter:Expr}{ifs:List Expr}{scope:Scope}{pos p:Pos}{E0:Expr→Option D}{E:Rho→Expr→Option D}{x:D}{items:List D}
  (hst:st=.Assign [.Tuple [.Name y q] k2 q2] (.SetComp elt [⟨target,iter,ifs,0⟩] scope pos) p)
  (H0:Snd B A s₀ g₀ own env ρ E0)
  (H:∀ s₁ g₁ own' cenv ρ',Aag B s₀ g₀ s₁ g₁→cenv.scope=relabel scope env→Snd B A s₁ g₁ own' cenv ρ' (E ρ')) (HT:∀ s₁ g₁ own' cenv ρ',Aag B s₀ g₀ s₁ g₁→cenv.scope=relabel scope env→Aof B A s₁ g₁ own' cenv ρ' (E ρ'))
  (hset:AcA iter=true) (hok:AbD scope env.scope=true)
  (hx:E0 iter=some x) (hi:Acq x=some items)
  (hf:Abi (Aam scope.names) (AaA scope env.scope) (fun ρ e=>Abc (E ρ) e) target ifs (Ar4 E elt) (Abt scope ρ) items 0=some 1) (hy:okT own env.scope y=true)
  (F:Fm B s₀ g₀ own env ρ s g):Ahg B A s₀ g₀ own env s g (exec st env) (.next ((y,.bool true) :: ρ)):=by
 subst hst;refine wpAny_Assign_stores ?_ rfl rfl;show wpAny _ _ (comprehension (.SetComp elt [⟨target,iter,ifs,0⟩] scope pos) scope env (firstIterPos [⟨target,iter,ifs,0⟩] pos) (newSet (.type "set")) false (eval iter env) none) _ _ _;refine AhY (a0:=0) (out:=1) (P:=fun _ _ _=>True) (ok:=fun _=>AxA (!(B.w.params.followText "set-order"))) (o0:=AAF (!(B.w.params.followText "set-order"))) O ⟨rfl,hset,hok,fun s Q EE h=>Axz h,fun _ _ _=>⟨rfl,rfl⟩,fun _ _=>.inl ⟨rfl,rfl⟩,⟨Aap rfl,AaU rfl (by decide),(fun _ e=>nomatch e),(fun _ e=>nomatch e)⟩,rfl,H0 iter x s g hx F,hi,fun s1 g1 cenv It acc s4 x1 hsc C it h0 hg R hR=>Ar5 O hh (fun ρ'=>H s1 g1 _ cenv ρ' x1 hsc) (fun ρ'=>HT s1 g1 _ cenv ρ' x1 hsc) C it h0 hg (by rw[hsc,← Abz];exact hf) hR,fun _ _ cenv acc _ g5 _ C=>⟨g5,.val (.ref acc),trivial,C.F.st,.val,C.F.loc.2⟩,fun _ _ _ _ h _=>h⟩ F fun s1 g1 cenv acc s5 g5 x1 C5=>?_;refine Aaf C5.F.vars fun m hm _=>?_;refine⟨m,hm,fun h6 hs6=>?_⟩;refine Amu (Afy hm) fun oL hL _ hnt _=>?_;have x6:Aag B s1 g1 {s5 with heap:=h6} g5:=C5.F.st.turn O C5.F.loc.1 C5.F.loc.2 hL hnt hs6 rfl rfl;refine Aew C5.obj fun o f1 f2 _=>?_
 rcases f2 with ⟨h,_⟩|⟨_,nn,rfl⟩
 ·injection h
 have f6:h6.get? acc=some (ApS (!(B.w.params.followText "set-order")) nn):=(hs6.2 _ fun e=>C5.loc (.inl e)).trans f1;show wpAny _ _ (assign (.Tuple [.Name y q] k2 q2) env (.ref acc)) _ _ _;rw[arm_assign_Tuple];refine wpAny_bind (wpAny_standAt ?_);show wpAny _ _ (holding _ (unpackItems (.ref acc) 1 none) >>= fun items=>assignInOrder ([Expr.Name y q].map (assign · env)) items) _ _ _;refine wpAny_bind (wpAny_holding (ApU hh f6 rfl fun h7 hx7=>?_));have keep:∀ a o,h6.get? a=some o→h7.get? a=some o:=fun a o e=>hx7 a o (Nat.ne_of_lt (Heap.lt_size e)) e;have x7:Aag B {s5 with heap:=h6} g5 {s5 with heap:=h7} g5:=⟨g5.le_refl,x6.inv.keeps O keep rfl rfl,.of keep,fun _ _ e=>.inl e⟩;have X:=(x1.trans x6).trans x7;have F7:=F.step X;exact Ad2 O (.cons hy .nil) F7 (.cons .bool .nil) fun s8 F8 k8=>⟨g5,Adm.trans X.lets (Oth.lets k8),rfl,F8⟩
end
section
variable{B:Bs}{A:Around}{s₀ s s':Shared}{g₀ g g':Gh}{own:List Str}{env:Env}{ρ:Rho}{n:Nat}{T:Tb}
theorem Aei{T:String}{first:List Value}{args:List (Bool×Sem Value)}{pos:Pos}{Q E:Value→Shared→Prop}(hp:args.all (fun x=>!x.1)=true)
  (h:wpAny B.M A (spliced args) (fun vs s'=>wpAny B.M A (call (.type T) (first++vs)) Q E s') E s):wpAny B.M A (callWith pos (.type T) first args []) Q E s:=by
 have hn:∀ x∈args,x.1=false:=fun x hx=>(Bool.not_eq_true' _).mp (List.all_eq_true.mp hp x hx);have hplain:(args.any (·.1) || ([]:List (Option Str×Sem Value)).any (·.1.isNone))=false:=by simp only[List.any_nil,Bool.or_false,List.any_eq_false];intro x hx;rw[hn x hx];exact Bool.false_ne_true
 exact callWith_of (P:=fun _=>True) hplain (fun h' _=>⟨.machine,.inr (.inl rfl),.now⟩) (AcD hn (wpAny_mono h (fun vs s' hc=>⟨trivial,hc⟩) fun _ _ e=>e))
theorem AjW(O:B.Ok){e:Expr}{fx y:Str}{q1 q2 q3 q4 p1 p2:Pos}{f:Addr}{Fc:List D→Option D}{ds rs:List D}(he:e=.Call (.Name "tuple" q1) [.Call (.Name "map" q2) [.Name fx q3,.Name y q4] [] p2] [] p1)
  (hf:AbC B n (.ref f) Fc) (hA:AOk (n+1) A) (k1:env.kindOf "tuple"=some .globalImplicit) (k2:env.kindOf "map"=some .globalImplicit) (k3:env.kindOf fx=some .globalImplicit)
  (l1:B.look "tuple"=some (.type "tuple")) (l2:B.look "map"=some (.type "map")) (l3:B.look fx=some (.ref f)) (o3:AbB fx=true) (hy:ρ.lookup y=some (.list ds)) (oy:AbB y=true)
  (hr:Aut Fc ds=some rs) (hz:ds.length≤1000) (F:Fm B s₀ g₀ own env ρ s g):Aaq B A s g (eval e env) fun g' v=>Den g' v (.tup rs):=by
 subst he;refine wpAny_Call_NameR ((F.gname O k1 l1 rfl).use fun fv s1 g1 x1 h1=>?_);subst h1;refine Aei rfl ?_;refine Calls.spliced_cons ?_;have F1:=F.step x1;refine wpAny_Call_NameR ((F1.gname O k2 l2 rfl).use fun fv s2 g2 x2 h2=>?_);subst h2;have F2:=F1.step x2;refine Aei rfl ?_;refine Calls.spliced_cons ((F2.gname O k3 l3 o3).use fun fv s3 g3 x3 h3=>?_);subst h3;have F3:=F2.step x3;refine Calls.spliced_cons ((F3.name hy oy).use fun lv s4 g4 x4 h4=>?_);induction h4 using Den.listE with|list e1 e2=>?_
 refine wpAny_pure ?_;have X4:=((x1.trans x2).trans x3).trans x4;have F4:=F3.step x4;refine Aur (X4.inv.real _ _ e1) fun h5 keep k1 k2 k3=>wpAny_pure ?_;have x5:Aag B s4 g4 {s4 with heap:=h5} g4:=⟨g4.le_refl,X4.inv.keeps O keep rfl rfl,.of keep,fun _ _ e=>.inl e⟩;have hIn:s4.heap.get? s4.heap.objs.size=none:=Aa1 _;refine AjU (s₀:=s4) (g₀:=g4) O hf hA hIn (Nat.ne_of_gt (Nat.lt_add_of_pos_right (by decide))) (Nat.succ_ne_self _) x5 X4.inv.fresh k3 k2 ⟨_,k1,rfl,rfl⟩ e1 e2 hr hz fun v s6 g6 x6 hv=>?_;exact⟨g6,X4.trans x6,hv⟩
end
noncomputable def ApW:Nat→List D→List D
 |_,[]=>[]
 |i,d :: ds=>.tup [.int i,d] :: ApW (i+1) ds
section
variable{B:Bs}{A:Around}{s₀ s s':Shared}{g₀ g g':Gh}{own:List Str}{env:Env}{ρ:Rho}{n:Nat}{T:Tb}
theorem Fm.turn2{e it:Addr}{oe oi oe':Obj}(O:B.Ok)(F:Fm B s₀ g₀ own env ρ s g)(he0:s₀.heap.get? e=none)(hi0:s₀.heap.get? it=none)(ge:g e=none)(gi:g it=none)(he:s.heap.get? e=some oe)(hi:s.heap.get? it=some oi)(hne:e≠it)
  (te:¬ AcL oe) (ti:¬ AcL oi) (ce:∀ v,oe.data≠.cell v) (ci:∀ v,oi.data≠.cell v) (le:e≠env.locals) (li:it≠env.locals) (he':s'.heap.get? e=some oe') (hf:oe'.isFreed=false)
  (k:∀ b o,b≠e→b≠it→s.heap.get? b=some o→s'.heap.get? b=some o) (hg:s'.gens=s.gens) (ho:s'.os=s.os):Fm B s₀ g₀ own env ρ s' g:=by
 have sb:Heap.SameBut e s.heap (s.heap.update e fun _=>oe'):=Heap.SameBut.update ..;have F1:Fm B s₀ g₀ own env ρ {s with heap:=s.heap.update e fun _=>oe'} g:=F.turnE O he0 ge he te ce le sb.extBut rfl rfl;refine F1.turnE (ob:=oi) O hi0 gi ((sb.2 it (Ne.symm hne)).trans hi) ti ci li (fun b o hb e1=>?_) hg ho
 by_cases hbe:b=e
 ·subst hbe;rw[Heap.get?_update_self _ he hf] at e1;cases e1;exact he'
 ·exact k b o hbe hb ((sb.2 b hbe).symm.trans e1)
structure EnI(B:Bs)(s₀:Shared)(g₀:Gh)(own:List Str)(env:Env)(En It l:Addr)(ol:Obj)(vs:List Value)(i:Nat)(old:Value)(ρ:Rho)(ds:List D)(s:Shared)(g:Gh):Prop where
 F:Fm B s₀ g₀ own env ρ s g
 hE:IsEnum s.heap En It i old
 hI:s.heap.IsListIter It l i
 hl:g l=some ol
 hd:Aav g (vs.drop i) ds
 gE:g En=none
 gI:g It=none
theorem IsListIter.keep{h h':Heap}{It l:Addr}{i:Nat}(H:h.IsListIter It l i)(k:∀ o,h.get? It=some o→h'.get? It=some o):h'.IsListIter It l i:=
 H.elim fun o e=>⟨o,k o e.1,e.2⟩
theorem EnI.nlE{En It l:Addr}{ol:Obj}{vs:List Value}{i:Nat}{old:Value}{ds:List D}(V:EnI B s₀ g₀ own env En It l ol vs i old ρ ds s g):¬ Loc env own En:=V.F.notLoc V.hE (fun _ e=>nomatch e) (fun _ _ e=>nomatch e)
theorem EnI.it{En It l:Addr}{ol:Obj}{vs:List Value}{i:Nat}{old:Value}{ds:List D}(V:EnI B s₀ g₀ own env En It l ol vs i old ρ ds s g):∃ o,s.heap.get? It=some o∧¬ AcL o∧Abv o∧(∀ v,o.data≠.cell v)∧¬ Loc env own It:=by refine Aew V.hI fun o h1 h2 h3=>?_;have hc:∀ v,o.data≠.cell v:=fun v e=>nomatch h3.symm.trans e;exact⟨o,h1,AaU h2 (by decide),Aap h2,hc,V.F.notLoc h1 hc fun _ _ e=>nomatch h3.symm.trans e⟩
theorem Auw(O:B.Ok)(hh:A.handled=none){es:List Expr}{k2:Nat}{pt:Pos}{body:List Stmt}{En It l:Addr}{BD:Rho→Option Res}{res:Res}{s1:Shared}{g1:Gh}{vs:Array Value}{nl i:Nat}{old:Value}
  (hbody:∀ ρ r s g,BD ρ=some r→Fm B s₀ g₀ own env ρ s g→Ahg B A s₀ g₀ own env s g (execs body env) r) {items:List D}
  (F:Fm B s₀ g₀ own env ρ s g) (hE:IsEnum s.heap En It i old) (hI:s.heap.IsListIter It l i) (hl:g l=some {cls:=.type "list",data:=.seq vs nl}) (hd:Aav g (vs.toList.drop i) items)
  (hE0:s₀.heap.get? En=none) (hI0:s₀.heap.get? It=none) (gE:g En=none) (gI:g It=none) (hne:En≠It) (hf:AmD own env.scope (.Tuple es k2 pt) BD (ApW i items) ρ=some res)
  (hE1:s1.heap.get? En=none) (hI1:s1.heap.get? It=none) (L:Adm env own s1 g1 s g) :
  codeAny B.M A (.forLoop (.Tuple es k2 pt) (.ref En) body [] env) (fun r s'=>∃ f,r=.ok f∧∃ g',Adm env own s1 g1 s' g'∧As6 B s₀ g₀ own env res f s' g') s:=by
 refine Aqp fun R hR=>AnD (fun items s=>∃ i old ρ g,EnI B s₀ g₀ own env En It l {cls:=.type "list",data:=.seq vs nl} vs.toList i old ρ items s g∧AmD own env.scope (.Tuple es k2 pt) BD (ApW i items) ρ=some res∧Adm env own s1 g1 s g) ?_ ⟨i,old,ρ,g,⟨F,hE,hI,hl,hd,gE,gI⟩,hf,L⟩;clear F hE hI hl hd gE gI hf L;intro items s hJ Q E q0 q1;refine ABQ hJ fun i old ρ g V hf L=>?_;have ll:=V.F.inv.real _ _ V.hl;refine ADu V.it fun oI hoI tI ntI cI nlI=>?_;have lets:∀ {h':Heap} {tk:Nat},(∀ b o,b≠En→b≠It→s.heap.get? b=some o→h'.get? b=some o)→Adm env own s1 g1 {s with heap:=h',toks:=tk} g:=fun {h' tk} k=>⟨L.1,fun a o n e t=>by
  refine AaG (L.2 a o n e t) fun f1 f2=>?_;exact⟨k a o (fun e'=>by rw[e',hE1] at e;exact Aah e) (fun e'=>by rw[e',hI1] at e;exact Aah e) f1,f2⟩⟩
 induction items using List.casesOn with
 |nil=>
  have hx:vs[i]?=none:=Array.getElem?_eq_none (by have:=V.hd.length;rw[List.length_drop,Array.length_toList] at this;exact Nat.le_of_sub_eq_zero this);refine wpAny_pyNext_enum_end hh V.hE V.hI ⟨_,ll,rfl,_,rfl⟩ hx fun h' k=>q0 rfl _ (hR _ _ ⟨_,rfl,g,?_⟩);rw[← sj hf];exact⟨lets (tk:=s.toks) fun b o _ h e=>k b o h e,rfl,V.F.turnE O hI0 V.gI hoI tI cI (fun e=>nlI (.inl e)) k rfl rfl⟩
 |cons d ds=>
  refine Aaf (Aak (show(Ac8 own env.scope (.Tuple es k2 pt) (.tup [.int i,d]) ρ).bind _=some res from hf)) fun ρ₁ hb hf=>?_;refine Aaf (Aak hf) fun r hr hf=>?_;have hb:BN own env.scope es [.int i,d] ρ ρ₁:=Agl hb
  obtain⟨v,rest,ev,hv,hrest⟩:∃ v rest,vs.toList.drop i=v :: rest∧Den g v d∧Aav g rest ds:=by
   have hd:=V.hd;generalize vs.toList.drop i=ws at hd;induction hd using Aav.consE with|cons hv hrest=>?_
   exact⟨_,_,rfl,hv,hrest⟩
  refine AaG (Agd ev) fun e1 e2=>?_;refine wpAny_pyNext_enum_item V.hE V.hI ⟨_,ll,rfl,_,rfl⟩ (by simpa using e1) hne fun h1 heo hI1' ht hz1 k1=>q1 d ds rfl _ _ fun X K E hn hbr hret hX=>?_;refine wpAny_letOwnedTupleGo_enum heo fun h2 hE2 hs2=>?_
  replace hs2:Heap.SameBut En h1 h2:=hs2
  have ht2:h2.get? s.heap.objs.size=some {cls:=.type "tuple",data:=.seq #[.int i s.toks,v]}:=(hs2.2 _ (Nat.ne_of_gt (Heap.lt_size V.hE))).trans ht;refine AjX (Aej (env:=env) hb) fun a1 a2 a3=>?_;refine wpAny_assign_Tuple hh ⟨_,ht2,rfl,_,rfl⟩ (by rw[a2];rfl) a3 fun h3 hx3=>?_;rw[a1]
  replace hx3:Heap.ExtBut h2.objs.size h2 h3:=hx3
  have keep3:∀ a o,h2.get? a=some o→h3.get? a=some o:=fun a o e=>hx3 a o (Nat.ne_of_lt (Heap.lt_size e)) e;have kk:∀ b o,b≠En→b≠It→s.heap.get? b=some o→h3.get? b=some o:=fun b o h1' h2' e=>keep3 _ _ ((hs2.2 b h1').trans (k1 b o h1' h2' e));have hE3:IsEnum h3 En It ((i:Int)+1) v:=keep3 _ _ hE2;have hI3:h3.IsListIter It l (i+1):=IsListIter.keep hI1' fun o e=>keep3 _ _ ((hs2.2 _ (Ne.symm hne)).trans e);have F3:Fm B s₀ g₀ own env ρ {s with heap:=h3,toks:=s.toks+1} g:=V.F.turn2 O hE0 hI0 V.gE V.gI V.hE hoI hne (AaU rfl (by decide)) tI (fun _ e=>nomatch e) cI (fun e=>V.nlE (.inl e)) (fun e=>nlI (.inl e)) hE3 rfl kk rfl rfl;refine Ad2 O hb F3 (.cons .int (.cons hv .nil)) fun s4 F4 k4=>hX s4 ((hbody ρ₁ r s4 g hr F4).use fun f s5 g5 l5 e5=>?_);have L5:=((lets (tk:=s.toks+1) kk).trans (Oth.lets k4)).trans l5;have q1:=l5.2 En _ V.nlE (k4 _ _ V.nlE hE3) (Aap rfl);have hI5:s5.heap.IsListIter It l (i+1)∧g5 It=none:=by refine Aew hI3 fun o e3 e4 e5=>?_;have q2:=l5.2 It _ nlI (k4 _ _ nlI e3) (Aap e4);exact⟨⟨o,q2.1,e4,e5⟩,q2.2 V.gI⟩
  exact AhZ hf e5 L5 (fun ρ₂ F5 h=>hn _ ⟨i+1,v,ρ₂,g5,⟨F5,q1.1,hI5.1,l5.1 _ _ V.hl,(e2 ▸ hrest).mono l5.1,q1.2 V.gE,hI5.2⟩,h,L5⟩) (fun h=>hbr _ (hR _ _ ⟨_,rfl,h⟩)) fun v h=>hret v _ (hR _ _ ⟨_,rfl,h⟩)
end
noncomputable def Tc0:Tb:=mkT (Adx [(.builtin "str.startswith",bStartswith)]) Abx
theorem Ar6{B:Bs}(W:LW B){n:Nat}(s:Shared)(g:Gh):Acw B n Tc0 s g:=Aka W fun v F e=>by
 unfold Adx at e
 cases e1:[(Value.builtin "str.startswith",bStartswith)].find? fun p=>p.1 == v with
 |none=>rw[e1] at e;exact Aah e
 |some p=>
  rw[e1] at e;cases e;have h1:=List.mem_of_find?_eq_some e1;have hv:=List.find?_some e1;have hv:p.1=v:=eq_of_beq hv;simp only[List.mem_cons,List.not_mem_nil,or_false] at h1;subst h1;subst hv;exact⟨.inl ⟨_,rfl⟩,fun A s' g' vs ds r hA x hd hr=>(Ad6 (n:=n)).run A s' g' vs ds r hA x.inv hd hr⟩
set_option genInjectivity false in
structure Vw where
 tag:Nat
 f:Expr
 a:List Expr
 ks:List (Option Expr)
 s:Str
 n:Nat
 g:List Comprehension
 sc:Scope
 p:Pos
noncomputable def vw0(e:Expr):Vw:=⟨0,e,[],[],"",0,[],default,default⟩
noncomputable def Abb:Expr→Vw
 |.Call f a [] p=>{vw0 f with tag:=1,a:=a,p:=p}
 |.Attribute v x p=>{vw0 v with tag:=2,s:=x,p:=p}
 |.Name x p=>{vw0 (.Name x p) with tag:=3,s:=x,p:=p}
 |.Tuple l k p=>{vw0 (.Tuple l k p) with tag:=4,a:=l,n:=k,p:=p}
 |.Dict ks l p=>{vw0 (.Dict ks l p) with tag:=5,ks:=ks,a:=l,p:=p}
 |.SetComp e g sc p=>{vw0 e with tag:=6,g:=g,sc:=sc,p:=p}
 |.Constant (.str x) k p=>{vw0 (.Constant (.str x) k p) with tag:=7,s:=x,n:=k,p:=p}
 |e=>vw0 e
noncomputable def back(v:Vw):Expr:=match v.tag with
 |1=>.Call v.f v.a [] v.p
 |2=>.Attribute v.f v.s v.p
 |3=>.Name v.s v.p
 |4=>.Tuple v.a v.n v.p
 |5=>.Dict v.ks v.a v.p
 |6=>.SetComp v.f v.g v.sc v.p
 |7=>.Constant (.str v.s) v.n v.p
 |_=>v.f
theorem AxB(e:Expr):back (Abb e)=e:=by
 induction e using PySem.Expr.casesOn with
 |Call f a k p=>cases k<;>rfl
 |Constant c k p=>induction c using PySem.Const.casesOn<;>rfl
 |_=>rfl
theorem Aft{e:Expr}{v:Vw}{n:Nat}(hv:Abb e=v)(h:v.tag=n):e=back {v with tag:=n}:=by subst h;subst hv;exact(AxB e).symm
theorem AvZ{e:Expr}(h:(Abb e).tag=1):e=.Call (Abb e).f (Abb e).a [] (Abb e).p:=Aft rfl h
theorem AAH{e:Expr}(h:(Abb e).tag=2):e=.Attribute (Abb e).f (Abb e).s (Abb e).p:=Aft rfl h
theorem AnZ{e:Expr}(h:(Abb e).tag=3):e=.Name (Abb e).s (Abb e).p:=Aft rfl h
theorem AAI{e:Expr}(h:(Abb e).tag=4):e=.Tuple (Abb e).a (Abb e).n (Abb e).p:=Aft rfl h
theorem AAJ{e:Expr}(h:(Abb e).tag=5):e=.Dict (Abb e).ks (Abb e).a (Abb e).p:=Aft rfl h
theorem AAK{e:Expr}(h:(Abb e).tag=6):e=.SetComp (Abb e).f (Abb e).g (Abb e).sc (Abb e).p:=Aft rfl h
theorem AAL{e:Expr}(h:(Abb e).tag=7):e=.Constant (.str (Abb e).s) (Abb e).n (Abb e).p:=Aft rfl h
theorem Ani{e f:Expr}{a:List Expr}(h:(Abb e).tag=1)(hf:(Abb e).f=f)(ha:(Abb e).a=a):e=.Call f a [] (Abb e).p:=by subst hf;subst ha;exact AvZ h
theorem Ale{e:Expr}{x:Str}(h:(Abb e).tag=3)(hs:(Abb e).s=x):e=.Name x (Abb e).p:=by subst hs;exact AnZ h
theorem AgS{α:Type}{o:Option α}{d:α}(h:o.isSome=true):o=some (o.getD d):=by
 induction o using Option.casesOn with
 |none=>injection h
 |some _=>rfl
noncomputable def Aux:D→Option Int
 |.int i=>some i
 |_=>none
noncomputable def ApX:D→Option Str
 |.str i=>some i
 |_=>none
noncomputable def Akg:D→Option (List D)
 |.list i=>some i
 |_=>none
theorem Auy{d:D}{i:Int}(h:Aux d=some i):d=.int i:=by induction d using D.casesOn<;>first|exact Aah h|(cases h;rfl)
theorem Auz{d:D}{i:Str}(h:ApX d=some i):d=.str i:=by induction d using D.casesOn<;>first|exact Aah h|(cases h;rfl)
theorem Ar7{d:D}{i:List D}(h:Akg d=some i):d=.list i:=by induction d using D.casesOn<;>first|exact Aah h|(cases h;rfl)
theorem Ar8{o:Option D}(h:(o.bind Aux).isSome=true):o=some (.int ((o.bind Aux).getD 0)):=by
 induction o using Option.casesOn with
 |none=>injection h
 |some d=>exact congrArg some (Auy (AgS h))
theorem AAM{o:Option D}(h:(o.bind ApX).isSome=true):o=some (.str ((o.bind ApX).getD "")):=by
 induction o using Option.casesOn with
 |none=>injection h
 |some d=>exact congrArg some (Auz (AgS h))
theorem Ar9{o:Option D}(h:(o.bind Akg).isSome=true):o=some (.list ((o.bind Akg).getD [])):=by
 induction o using Option.casesOn with
 |none=>injection h
 |some d=>exact congrArg some (Ar7 (AgS h))
noncomputable def Aev(e:Expr)(i:Nat):Expr:=(Abb e).a.getD i e
theorem ACv{e:Expr}(h:(Abb e).a.length=1):(Abb e).a=[Aev e 0]:=ABz h
theorem ACw{e:Expr}(h:(Abb e).a.length=2):(Abb e).a=[Aev e 0,Aev e 1]:=As1 h
theorem AAN{t t' v v':Expr}{q:Pos}(h1:t=t')(h2:v=v'):Stmt.Assign [t] v q=.Assign [t'] v' q:=by subst h1;subst h2;rfl
theorem AxC{c:Comprehension}(h:c.is_async=0):c=⟨c.target,c.iter,c.ifs,0⟩:=by cases c;subst h;rfl
noncomputable def Asa(e:Expr):Comprehension:=(Abb e).g.getD 0 ⟨e,e,[],0⟩
noncomputable def ADk(own:List Str)(sc:Scope)(ρ:Rho)(t value:Expr):Option Res:=
 if (Abb t).tag=4∧(Abb t).a.length=1∧(Abb (Aev t 0)).tag=3∧(Abb value).tag=6∧(Abb value).g.length=1∧(Asa value).is_async=0∧AcA (Asa value).iter=true∧AbD (Abb value).sc sc=true∧okT own sc (Abb (Aev t 0)).s=true ∧
  (((ev Tc0 8 sc ρ (Asa value).iter).bind Acq).bind fun items=>Abi (Aam (Abb value).sc.names) (AaA (Abb value).sc sc) (fun ρ e=>Abc (ev Tc0 8 (AaA (Abb value).sc sc) ρ) e) (Asa value).target (Asa value).ifs (Ar4 (ev Tc0 8 (AaA (Abb value).sc sc)) (Abb value).f) (Abt (Abb value).sc ρ) items 0)=some 1
 then some (.next (((Abb (Aev t 0)).s,.bool true) :: ρ)) else none
noncomputable def AAO(sc:Scope)(ρ:Rho)(iter:Expr):Option (List D):=(ρ.lookup (Abb (Aev iter 0)).s).bind Akg
noncomputable def ADl(own:List Str)(sc:Scope)(ρ:Rho)(target iter:Expr)(body:List Stmt):Option Res:=
 if (Abb target).tag=4∧(Abb iter).tag=1∧(Abb (Abb iter).f).tag=3∧(Abb (Abb iter).f).s = "enumerate"∧(Abb iter).a.length=1∧(Abb (Aev iter 0)).tag=3∧AbB (Abb (Aev iter 0)).s=true∧sc.names.lookup ("enumerate":Str)=some .globalImplicit∧(AAO sc ρ iter).isSome=true
 then AmD own sc (.Tuple (Abb target).a (Abb target).n (Abb target).p) (fun ρ=>ex (Tc0.stm own sc) (ev Tc0 8 sc) own sc 8 ρ body) (ApW 0 ((AAO sc ρ iter).getD [])) ρ else none
noncomputable def AAP(own:List Str)(sc:Scope)(ρ:Rho):Stmt→Option Res
 |.Assign ts value _=>(one ts).bind fun t=>ADk own sc ρ t value
 |.For target iter body orelse _=>emp orelse (ADl own sc ρ target iter body)
 |_=>none
noncomputable def ACx(sc:Scope)(ρ:Rho)(e:Expr):List D:=((ρ.lookup (Abb (Aev (Aev e 0) 1)).s).bind Akg).getD []
noncomputable def AAQ(sc:Scope)(ρ:Rho)(e:Expr):Option D:=
 if (Abb e).tag=1∧(Abb (Abb e).f).tag=3∧(Abb (Abb e).f).s = "tuple"∧(Abb e).a.length=1∧(Abb (Aev e 0)).tag=1∧(Abb (Abb (Aev e 0)).f).tag=3∧(Abb (Abb (Aev e 0)).f).s = "map"∧(Abb (Aev e 0)).a.length=2∧(Abb (Aev (Aev e 0) 0)).tag=3∧(Abb (Aev (Aev e 0) 0)).s = "fspath"∧(Abb (Aev (Aev e 0) 1)).tag=3∧AbB (Abb (Aev (Aev e 0) 1)).s=true ∧
  sc.names.lookup ("tuple":Str)=some .globalImplicit∧sc.names.lookup ("map":Str)=some .globalImplicit∧sc.names.lookup ("fspath":Str)=some .globalImplicit∧((ρ.lookup (Abb (Aev (Aev e 0) 1)).s).bind Akg).isSome=true∧(ACx sc ρ e).length≤1000∧(Aut fspD (ACx sc ρ e)).isSome=true
 then some (.tup ((Aut fspD (ACx sc ρ e)).getD [])) else none
section
variable{B:Bs}{m:Nat}
theorem AuA(W:LW B){A:Around}{own:List Str}{env:Env}{ρ:Rho}{e:Expr}{d:D}{s₀ s:Shared}{g₀ g:Gh}(hA:AOk (m+2) A)(h:AAQ env.scope ρ e=some d)(F:Fm B s₀ g₀ own env ρ s g):Aaq B A s g (eval e env) fun g' v=>Den g' v d:=by
 refine AaG (Abs h) fun q1 h=>?_;refine ABO q1 fun c1 c2 c3 c4 c5 c6 c7 c8 c9 c10 c11 oy k1 k2 k3 hy hz hr=>?_
 cases h
 exact AjW W.O (Ani c1 (Ale c2 c3) ((ACv c4).trans (congrArg (fun x=>[x]) (Ani c5 (Ale c6 c7) ((ACw c8).trans (AhR (Ale c9 c10) (AnZ c11))))))) (AnX (m:=m) W) hA k1 k2 k3 (Abm W "tuple" _ rfl) (Abm W "map" _ rfl) (Abm W "fspath" _ rfl) rfl (Ar9 hy) oy (AgS hr) hz F
theorem AxD(W:LW B){A:Around}{own:List Str}{env:Env}{ρ:Rho}{t value:Expr}{q:Pos}{r:Res}{s₁ s:Shared}{g₁ g:Gh}(hA:AOk m A)(h:ADk own env.scope ρ t value=some r)(F:Fm B s₁ g₁ own env ρ s g):Ahg B A s₁ g₁ own env s g (exec (.Assign [t] value q) env) r:=by
 refine AaG (Abs h) fun q2 h=>?_;refine ABM q2 fun c1 c2 c3 c4 c5 c6 c7 c8 c9 hf=>?_
 cases h
 refine Aaf (Aak hf) fun items hi hf=>?_;refine Aaf (Aak hi) fun x hx hi=>?_;have K:∀ s g,Acw B m Tc0 s g:=fun s g=>Ar6 W s g;refine ApV W.O hA.handled (st:=.Assign [t] value q) (AAN ((AAI c1).trans (congrArg (fun x=>Expr.Tuple x (Abb t).n (Abb t).p) ((ACv c2).trans (congrArg (fun x=>[x]) (AnZ c3))))) ((AAK c4).trans (congrArg (fun x=>Expr.SetComp (Abb value).f x (Abb value).sc (Abb value).p) ((ABz c5).trans (congrArg (fun x=>[x]) (AxC c6)))))) ((AaZ W.O (K _ _) hA 8).1 own env ρ)
  (fun s₁ g₁ own' cenv ρ' xx hsc=>?_) (fun s₁ g₁ own' cenv ρ' xx hsc=>?_) c7 c8 hx hi hf c9 F
 ·have:=(AaZ W.O (K s₁ g₁) hA 8).1 own' cenv ρ';rw[hsc,← Abz] at this;exact this
 ·have:=(AaZ W.O (K s₁ g₁) hA 8).2 own' cenv ρ';rw[hsc,← Abz] at this;exact this
theorem Asb{g:Gh}{s:Shared}(I:Inv B s g){a:Addr}(h:s.heap.get? a=none):g a=none:=by
 cases e:g a with
 |none=>rfl
 |some o=>have:=I.real _ _ e;rw[h] at this;exact Aah this
theorem AxE(W:LW B){A:Around}{own:List Str}{env:Env}{ρ:Rho}{target iter:Expr}{body:List Stmt}{q:Pos}{r:Res}{s₁ s:Shared}{g₁ g:Gh}(hA:AOk m A)(h:ADl own env.scope ρ target iter body=some r)(F:Fm B s₁ g₁ own env ρ s g):Ahg B A s₁ g₁ own env s g (exec (.For target iter body [] q) env) r:=by
 refine AaG (Abs h) fun q3 hf=>?_;refine ACZ q3 fun c1 c2 c3 c4 c5 c6 ox k1 hx=>?_;clear h;have ht:=AAI c1;have hx:ρ.lookup (Abb (Aev iter 0)).s=some (.list ((AAO env.scope ρ iter).getD [])):=Ar9 hx;have hi:=Ani c2 (Ale c3 c4) ((ACv c5).trans (congrArg (fun x=>[x]) (AnZ c6)));generalize (AAO env.scope ρ iter).getD []=ds at hf hx;generalize (Abb target).a=ta,(Abb target).n=tn,(Abb target).p=tp at hf ht;clear c1 c2 c3 c4 c5 c6;subst ht;have K:∀ s g,Acw B m Tc0 s g:=fun s g=>Ar6 W s g;rw[hi];refine Ahj fun Q E hQ=>?_;refine wpAny_For (wpAny_Call_NameR ((F.gname W.O k1 (Abm W "enumerate" _ rfl) rfl).use fun fv s2 g2 x2 h2=>?_)) (fun _=>rfl);subst h2;have F2:=F.step x2;refine Aei rfl (Calls.spliced_cons ((F2.name hx ox).use fun lv s3 g3 x3 h3=>wpAny_pure ?_));induction h3 using Den.listE with|list e1 e2=>?_
 have X3:=x2.trans x3;have F3:=F.step X3;refine call_enumerate_list (s:=s3) ⟨_,X3.inv.real _ _ e1,rfl,_,rfl⟩ fun h5 hE hI hz keep=>?_;have x5:Aag B s3 g3 {s3 with heap:=h5} g3:=⟨g3.le_refl,X3.inv.keeps W.O keep rfl rfl,.of keep,fun _ _ e=>.inl e⟩;have hIn:s3.heap.get? s3.heap.objs.size=none:=Aa1 _;have hEn:s3.heap.get? (s3.heap.objs.size+1)=none:=Heap.get?_none_of_le (Nat.le_succ _);refine wpAny_pyIter_enum hE ?_;refine codeAny_mono (Auw (s1:=s3) (g1:=g3) W.O hA.handled (fun ρ r s g hr F=>Acj W.O (K _ _) hA 8 ρ r _ s g hr F) (F3.step x5) hE hI e1 (by simpa using e2) (F3.st.ext.dead hEn) (F3.st.ext.dead hIn) (Asb X3.inv hEn) (Asb X3.inv hIn) (Nat.succ_ne_self _) hf hEn hIn x5.lets) fun rr s' hr=>?_
 obtain⟨f,rfl,g',l,e⟩:=hr
 exact hQ _ _ ⟨g',Adm.trans X3.lets l,e⟩
theorem AxF(W:LW B){A:Around}{own:List Str}{env:Env}{ρ:Rho}{st:Stmt}{r:Res}{s₁ s:Shared}{g₁ g:Gh}(hA:AOk m A)(h:AAP own env.scope ρ st=some r)(F:Fm B s₁ g₁ own env ρ s g):Ahg B A s₁ g₁ own env s g (exec st env) r:=by
 induction st using PySem.Stmt.casesOn with
 |Assign ts value q=>
  refine Aaf (Aak (show(one ts).bind _=some r from h)) fun t o1 h1=>?_
  obtain rfl:=AeT o1
  exact AxD W hA h1 F
 |For target iter body orelse q=>
  (refine AaG (AfE h) fun q4 h=>?_;subst q4)
  exact AxE W hA h F
 |_=>exact Aah h
end
noncomputable def Tc:Tb:=⟨fun x=>Aua.lookup x,Adx [(.ref Aeb,fspD),(.builtin "isinstance",bIsi),(.builtin "str.startswith",bStartswith),(.builtin "str.split",bSplit),(.builtin "min",bMin),(.builtin "max",bMax),(.builtin "str.join",bJoin)],Abx,AAQ,AAP⟩
section
variable{B:Bs}{m:Nat}
theorem ACy(W:LW B)(s:Shared)(g:Gh)(I:Inv B s g):Acw B (m+2) Tc s g where
 glob:=Abm W
 app:=fun v F e=>(AaX (n:=m+2) (fun p hp=>by
  simp only[List.mem_cons,List.not_mem_nil,or_false] at hp
  rcases hp with rfl|rfl|rfl|rfl|rfl|rfl|rfl
  ·exact AnX W
  ·exact AvD
  ·exact Ad6
  ·exact AnF W.O
  ·exact Azi W.O
  ·exact Azj W.O
  ·exact Aqt) v F e).at I
 spec:=fun _ _ _ _ _ _ _ _ hA h F=>AuA W hA h F
 stm:=fun _ _ _ _ _ _ _ _ _ _ hA _ h F=>AxF W hA h F
 meth:=AeR
noncomputable def comD:List D→Option D:=fnD Tc 12 20 ["paths"] At4 AcG
theorem AAR(W:LW B):AbC B (m+3) (.ref AeL) comD:=by have:=AbK (n:=m+2) W.O (k:=12) (m:=20) (Arq W.G) (fun s g I=>ACy W s g I);rw[Aif] at this;exact this
end
end Mine
namespace Mine
open PySem PySem.W PyProof.Rows PySem.W.X
noncomputable def ApY{α:Type}(test:α→Option Bool)(next:α→Option α):Nat→α→Option α
 |0,_=>none
 |n+1,x=>(test x).bind fun b=>if b=true then (next x).bind fun x'=>ApY test next n x' else some x
section
variable{B:Bs}{A:Around}{s₀ s s':Shared}{g₀ g g':Gh}{own:List Str}{env:Env}{ρ:Rho}{n:Nat}{T:Tb}{La:Addr}
theorem Aag.thaw{o:Obj}{s2:Shared}{g2:Gh}(I:Inv B s g)(hg:g La=none)(x:Aag B s (g.put La o) s2 g2):Aag B s g s2 g:=
 ⟨g.le_refl,⟨I.base,fun a o' e=>x.inv.real a o' (x.le a o' (Gh.le_put o hg a o' e)),I.nt,x.inv.tb,x.inv.gens,x.inv.os⟩,x.ext,fun _ _ e=>.inl e⟩
structure OL(B:Bs)(s₀:Shared)(g₀:Gh)(own:List Str)(env:Env)(La:Addr)(ρ:Rho)(us:List D)(s:Shared)(g:Gh):Prop where
 F:Fm B s₀ g₀ own env ρ s g
 has:∃ vs,Ae3 s.heap La vs∧Aav g vs.toList us
 nog:g La=none
theorem OL.step{us:List D}(C:OL B s₀ g₀ own env La ρ us s g)(x:Aag B s g s' g'):OL B s₀ g₀ own env La ρ us s' g':=by refine Aaf C.has fun vs h1 h2=>?_;exact⟨C.F.step x,⟨vs,h1.step x,h2.mono x.le⟩,h1.none x C.nog⟩
theorem Amb{α:Type}{test:Expr}{body:List Stmt}(ρ:α→Rho)(us:α→List D)(tst:α→Option Bool)(nxt:α→Option α)
  (htest:∀ x b s g,tst x=some b→OL B s₀ g₀ own env La (ρ x) (us x) s g→wpAny B.M A (isTrue test env (eval test env)) (fun r s'=>r=b∧∃ g',OL B s₀ g₀ own env La (ρ x) (us x) s' g') (fun _ _=>False) s)
  (hbody:∀ x x' s g,tst x=some true→nxt x=some x'→OL B s₀ g₀ own env La (ρ x) (us x) s g→wpAny B.M A (execs body env) (fun f s'=>f=.next∧∃ g',OL B s₀ g₀ own env La (ρ x') (us x') s' g') (fun _ _=>False) s)
  {fuel:Nat} {x y:α} (C:OL B s₀ g₀ own env La (ρ x) (us x) s g) (h:ApY tst nxt fuel x=some y) :
  codeAny B.M A (.whileLoop test body [] env) (fun r s'=>r=.ok .next∧∃ g',OL B s₀ g₀ own env La (ρ y) (us y) s' g') s:=by
 refine codeAny_whileLoop (fun m s=>∃ x g,OL B s₀ g₀ own env La (ρ x) (us x) s g∧ApY tst nxt m x=some y) ?_ fuel ⟨x,g,C,h⟩;intro m s q1;refine Afx q1 fun x g C h=>?_;induction m using Nat.casesAuxOn with
 |zero=>exact Aah h
 |succ m=>
  refine Aaf (Aak h) fun b ht h=>?_;refine wpAny_mono (htest x b s g ht C) (fun r s2 hr=>?_) fun _ _ e=>e.elim;refine AaG hr fun q hr2=>?_;subst q;refine Abo hr2 fun g2 C2=>?_;induction r using Bool.casesOn with
  |false=>
   have h:=sj (show some x=some y from h);subst h;simp only[Bool.false_eq_true,if_false];exact wpAny_execs_nil ⟨rfl,g2,C2⟩
  |true=>
   simp only[if_true];refine Aaf (Aak (show(nxt x).bind (fun x'=>ApY tst nxt m x')=some y from h)) fun x' hn h=>?_;refine wpAny_mono (hbody x x' s2 g2 ht hn C2) (fun f s3 hf=>?_) fun _ _ e=>e.elim;refine AaG hf fun q hf2=>?_;subst q;refine Abo hf2 fun g3 C3=>?_;exact⟨m,Nat.lt_succ_self _,x',g3,C3,h⟩
theorem OL.test{us:List D}{x:Str}{test:Expr}{b:Bool}{k:Nat}(O:B.Ok)(K:Acw B n T s₀ g₀)(hA:AOk n A)(C:OL B s₀ g₀ own env La ρ us s g)(h0:s₀.heap.get? La=Option.none)(hx:ρ.lookup x=some (.val (.ref La)))
  (ht:Abc (ev T k env.scope ((x,.list us) :: ρ)) test=some b) :
  wpAny B.M A (isTrue test env (eval test env)) (fun r s'=>r=b∧∃ g',OL B s₀ g₀ own env La ρ us s' g') (fun _ _=>False) s:=by
 refine Aaf C.has fun vs h1 h2=>?_;refine Abo (id h1) fun c e=>?_;have F1:=C.F.shutL (ρ':=(x,.list us) :: ρ) e h0 C.nog h2 (fun y d hy=>by
  rw[Aab] at hy
  by_cases h:y=x
  ·subst h;rw[if_pos rfl] at hy;cases hy;exact .inr ⟨hx,rfl⟩
  ·rw[if_neg h] at hy;exact .inl hy)
 refine((AaZ O K hA k).2 own env _ _ _ s _ ht F1).use fun r s2 g2 x2 hr=>?_;have x3:Aag B s g s2 g:=Aag.thaw C.F.inv C.nog x2;exact⟨hr,g,C.step x3⟩
theorem OL.ex{us:List D}{body:List Stmt}{ρ':Rho}{k m:Nat}(O:B.Ok)(K:Acw B n T s₀ g₀)(hA:AOk n A)(C:OL B s₀ g₀ own env La ρ us s g)
  (h:Mine.ex (T.stm own env.scope) (ev T k env.scope) own env.scope m ρ body=some (.next ρ')) :
  wpAny B.M A (execs body env) (fun f s'=>f=.next∧∃ g',OL B s₀ g₀ own env La ρ' us s' g') (fun _ _=>False) s:=by
 refine Aaf C.has fun vs q2 h2=>?_;refine Abo q2 fun c e=>?_;refine(Acj O K hA m ρ _ body s g h C.F).use fun f s1 g1 l1 en=>?_;refine AaG en fun z3 F1=>?_;subst z3;refine AaG (l1.2 La _ (C.F.notL ⟨c,e⟩) e Acl) fun q1 q2=>?_;exact⟨rfl,g1,F1,⟨vs,⟨c,q1⟩,h2.mono l1.1⟩,q2 C.nog⟩
theorem OL.append{us:List D}{st:Stmt}{x:Str}{e:Expr}{q1 apos pos p2:Pos}{d:D}{k:Nat}(O:B.Ok)(K:Acw B n T s₀ g₀)(hA:AOk n A)(C:OL B s₀ g₀ own env La ρ us s g)(hst:st=.Expr (.Call (.Attribute (.Name x q1) "append" apos) [e] [] pos) p2)
  (hl:(apos.endLine == pos.line)=true) (hns:AbL e=true) (hint:interactive env=false) (hsw:swapsWith (.Call (.Attribute (.Name x q1) "append" apos) [e] [] pos) Option.none p2.line env=pure false)
  (hx:ρ.lookup x=some (.val (.ref La))) (hok:AbB x=true) (he:ev T k env.scope ρ e=some d) (h0:s₀.heap.get? La=Option.none) (hsz:us.length≤1000000) :
  wpAny B.M A (exec st env) (fun f s'=>f=.next∧∃ g',OL B s₀ g₀ own env La ρ (us++[d]) s' g') (fun _ _=>False) s:=by
 refine Aaf C.has fun vs h1 h2=>?_;have hz:vs.size≤1000000:=by have:=h2.length;simp only[Array.length_toList] at this;omega
 refine Ake O K hA C.F hst hl hns hint hsw hx hok he h1 h0 C.nog hz fun v s' g' F' hL' hd hg' le _=>?_;exact⟨rfl,g',F',⟨_,hL',by rw[Array.toList_push];exact(h2.mono le).append (.cons hd .nil)⟩,hg'⟩
theorem OL.weaken{us:List D}{ρ':Rho}(C:OL B s₀ g₀ own env La ρ us s g)(h:∀ x d,ρ'.lookup x=some d→ρ.lookup x=some d):OL B s₀ g₀ own env La ρ' us s g:=⟨C.F.weaken h,C.has,C.nog⟩
theorem OL.start{st:Stmt}{x:Str}{q p pos:Pos}(O:B.Ok)(F:Fm B s₀ g₀ own env ρ s g)(hst:st=.Assign [.Name x q] (.List [] p) pos)(hx:okT own env.scope x=true){Q:Flow→Shared→Prop}{E:Value→Shared→Prop}
  (h:∀ La s' g',s₀.heap.get? La=none→OL B s₀ g₀ own env La ((x,.val (.ref La)) :: ρ) [] s' g'→Q .next s'):wpAny B.M A (exec st env) Q E s:=by
 subst hst;refine Aef rfl (AvV ?_);have x3:=Aag.open (o:=Abq #[] 0) O F.inv;have F3:=F.step x3;have hLa:(s.heap.push (Abq #[] 0)).get? s.heap.objs.size=some (Abq #[] 0):=Heap.get?_push_size _ rfl;have sLa:s₀.heap.get? s.heap.objs.size=Option.none:=F.st.ext.dead (Aa1 _);have gLa:g s.heap.objs.size=Option.none:=F.inv.fresh;generalize s.heap.objs.size=La at hLa sLa gLa;refine F3.store O (Abl hx) (.val (v:=.ref La)) fun s4 F4 k4=>?_;exact h La s4 g sLa ⟨F4,⟨#[],⟨0,k4 La _ (F3.notL ⟨0,hLa⟩) hLa⟩,.nil⟩,gLa⟩
theorem OL.shut{us:List D}{x:Str}(C:OL B s₀ g₀ own env La ρ us s g)(h0:s₀.heap.get? La=Option.none)(hx:ρ.lookup x=some (.val (.ref La))):∃ g',Fm B s₀ g₀ own env ((x,.list us) :: ρ) s g':=by
 refine Aaf C.has fun vs q3 h2=>?_;refine Abo q3 fun c e=>?_;exact⟨_,C.F.shutL (ρ':=(x,.list us) :: ρ) e h0 C.nog h2 (fun y d hy=>by
  rw[Aab] at hy
  by_cases h:y=x
  ·subst h;rw[if_pos rfl] at hy;cases hy;exact .inr ⟨hx,rfl⟩
  ·rw[if_neg h] at hy;exact .inl hy)⟩
end
noncomputable def lS(i:Nat):Stmt:=(Adf[i]?).getD AbZ
noncomputable def lW(i:Nat):Stmt:=((loopOf (lS 1))[i]?).getD AbZ
theorem AuB:Adf=[lS 0,lS 1,lS 2]:=by kernel_rfl!
theorem AAS:lS 0=.Assign [.Name "figures" (AbH (lS 0)).pos] (.List [] (Aaj (lS 0)).pos) (Abp (lS 0)):=by kernel_rfl!
theorem AAT:lS 1=.While (testOf (lS 1)) [lW 0,lW 1] [] (Abp (lS 1)):=by kernel_rfl!
theorem AAU:lW 0=.Expr (.Call (.Attribute (.Name "figures" (attrO (attrOf (exprOf (lW 0)))).pos) "append" (attrOf (exprOf (lW 0))).pos) [Afw 0 (exprOf (lW 0))] [] (exprOf (lW 0)).pos) (Abp (lW 0)):=by kernel_rfl!
theorem Av0(x:Str)(h:x = "figures"∨x = "number"):okT (Aam Adg.names) Adg x=true:=by rcases h with rfl|rfl<;>kernel_rfl!
noncomputable def ADm(x:Int×List D):Option Bool:=some (decide (1<x.1))
noncomputable def ACz(x:Int×List D):Option (Int×List D):=if x.2.length≤1000 then some (x.1.fdiv 2,x.2++[.int (x.1.fmod 2)]) else none
noncomputable def lowD:List D→Option D:=fn1 fun a=>Aci a fun n=>(ApY ADm ACz 40 (n,[])).bind fun y=>some (.list y.2)
noncomputable def ABF(La:Addr)(x:Int×List D):Rho:=[(("figures":Str),.val (.ref La)),(("number":Str),.int x.1)]
noncomputable def Tl:Tb:=mkT (Adx []) Abx
theorem AuC{B:Bs}(W:LW B){m:Nat}(s:Shared)(g:Gh):Acw B m Tl s g:=Aka W fun v F e=>by
 have e:Option.map _ none=some F:=e;exact Aah e
section
variable{B:Bs}{m:Nat}
theorem Av1(W:LW B):AbC B (m+1) (.ref Aal) lowD:=by
 have D0:=(Aed W.G);refine Aaf D0.obj fun o ho hdat=>?_;refine⟨.inr (.inr ⟨_,o,_,rfl,ho,hdat⟩),fun A s g vs ds r hA I hd hr=>?_⟩;refine Aaf (Ah1 hr) fun a0 q1 k_1=>?_;subst q1;refine Aaf (Aas k_1) fun n q1 k_2=>?_;subst q1;refine Aaf (Aak k_2) fun y hy k_3=>?_;have k_3:=sj k_3;subst k_3;refine AnE W.O D0 hA I hd rfl fun env s1 e1 e2 e3 F=>?_;have hA':AOk m (A.deeper env):=hA.deeper;rw[AbA] at e1;rw[AbA,show(Aad (nth AaV))=env.scope from e1.symm] at F;have K:∀ s g,Acw B m Tl s g:=fun s g=>AuC W s g;rw[show Aae (nth AaV)=[lS 0,lS 1,lS 2] from AuB];refine wpAny_execs_cons (OL.start W.O F AAS (by rw[e1];exact Av0 _ (by simp)) fun La s2 g2 h0 C2=>?_);dsimp only;refine wpAny_execs_cons ?_;rw[AAT];refine wpAny_While (codeAny_mono (Amb (ABF La) (fun x=>x.2) ADm ACz (fun x b s g hb C=>?_) (fun x x' s g ht hn C=>?_) (x:=(n,[])) (C2.weaken fun z d hz=>hz) hy) fun rr s3 hr=>?_)
 ·have t:Abc (ev Tl 8 env.scope (ABF La x)) (testOf (lS 1))=some b:=by
   rw[e1]
   cases hb
   by_cases h:1<x.1
   ·rw[decide_eq_true h];exact AaM (Ab8 rfl rfl (Aaa rfl rfl rfl) (Aac rfl rfl) (Az5 h)) rfl
   ·rw[decide_eq_false h];exact AaM (Ab8 rfl rfl (Aaa rfl rfl rfl) (Aac rfl rfl) (Az6 h)) rfl
  exact((AaZ W.O (K _ _) hA' 8).2 _ env _ _ _ s g t C.F).use fun r s2 g2 x2 hr=>⟨hr,g2,C.step x2⟩
 ·unfold ACz at hn
  split at hn
  ·rename_i hz
   cases hn
   refine wpAny_execs_cons (wpAny_mono (OL.append (k:=8) (T:=Tl) (d:=.int (x.1.fmod 2)) W.O (K _ _) hA' C AAU rfl rfl (by unfold interactive;rw[e1];kernel_rfl!) rfl rfl rfl ?_ h0 (by omega)) (fun f s3 hf=>?_) fun _ _ e=>e.elim)
   ·rw[e1];exact Abh rfl (Aaa rfl rfl rfl) (Aac rfl rfl) (Al1 (by decide))
   ·refine AaG hf fun q hf_2=>?_;subst q;refine Abo hf_2 fun g3 C3=>?_;dsimp only;refine wpAny_mono (OL.ex (k:=8) (m:=8) (T:=Tl) (ρ':=(("number":Str),.int (x.1.fdiv 2)) :: ABF La x) W.O (K _ _) hA' C3 ?_) (fun f s4 hf=>?_) fun _ _ e=>e.elim
    ·rw[e1];refine Ado (d:=.int (x.1.fdiv 2)) rfl rfl (.inl rfl) ?_ (Av0 _ (by simp)) (Ach rfl);exact Abh rfl (Aaa rfl rfl rfl) (Aac rfl rfl) (Ag9 ⟨by decide,by decide⟩)
    ·refine AaG hf fun q hf_2=>?_;subst q;refine Abo hf_2 fun g4 C4=>?_;refine⟨rfl,g4,C4.weaken fun z d hz=>?_⟩;unfold ABF at hz ⊢;simp only[Aab] at hz ⊢
     by_cases h1:z=("figures":Str)
     ·subst h1;rw[if_pos rfl] at hz;rw[if_neg (by decide),if_pos rfl];exact hz
     ·rw[if_neg h1] at hz
      by_cases h2:z=("number":Str)
      ·rw[if_pos h2] at hz ⊢;exact hz
      ·rw[if_neg h2] at hz;exact Aah hz
  ·exact Aah hn
 ·refine AaG hr fun q hr_2=>?_;subst q;refine Abo hr_2 fun g3 C3=>?_;dsimp only;refine Abo (C3.shut (x:="figures") h0 rfl) fun g4 F4=>?_;refine Ack W.O (K s g) hA' F4 (k:=8) (m:=8) ?_;rw[e1];exact AcU rfl rfl (Aaa rfl rfl rfl)
end
theorem Ahc{a b:D}{c:Bool}(h:eqD a b=some c):Ams .NotEq a b=some (!c):=Aau h rfl
noncomputable def cS(i:Nat):Stmt:=(AfU[i]?).getD AbZ
noncomputable def cW(i:Nat):Stmt:=((loopOf (cS 2))[i]?).getD AbZ
theorem AuD:AfU=[cS 0,cS 1,cS 2,cS 3]:=by kernel_rfl!
theorem AAV:cS 0=.Assign [.Name "names" (AbH (cS 0)).pos] (.List [] (Aaj (cS 0)).pos) (Abp (cS 0)):=by kernel_rfl!
theorem AAW:cS 2=.While (testOf (cS 2)) [cW 0,cW 1,cW 2] [] (Abp (cS 2)):=by kernel_rfl!
theorem AAX:cW 1=.Expr (.Call (.Attribute (.Name "names" (attrO (attrOf (exprOf (cW 1)))).pos) "append" (attrOf (exprOf (cW 1))).pos) [Afw 0 (exprOf (cW 1))] [] (exprOf (cW 1)).pos) (Abp (cW 1)):=by kernel_rfl!
theorem An0(x:Str)(h:x = "names"∨x = "here"∨x = "pair"):okT (Aam AcT.names) AcT x=true:=by rcases h with rfl|rfl|rfl<;>kernel_rfl!
noncomputable def ABG(x:Str×List D):Option Bool:=match eqD (.str x.1) (.str "/") with
 |some true=>some false
 |some false=>if x.2.length≤1000 then some (decide (x.2.length<9)) else none
 |none=>none
noncomputable def ADn(x:Str×List D):Option (Str×List D):=(splD [.str x.1]).bind fun e=>(Ay4 e).bind fun p=>Ad0 p.1 fun h=>Ad0 p.2 fun t=>
 if x.2.length≤1000 then some (h,x.2++[.str t]) else none
noncomputable def cliD:List D→Option D:=fn1 fun a=>Ad0 a fun p=>(ApY ABG ADn 12 (p,[])).bind fun y=>some (.list y.2)
noncomputable def Av2(La:Addr)(p:Str)(x:Str×List D):Rho:=[(("here":Str),.str x.1),(("names":Str),.val (.ref La)),(("path":Str),.str p)]
noncomputable def Tcl:Tb:=mkT (Adx [(.ref AeK,splD),(.builtin "len",bLen)]) Abx
section
variable{B:Bs}{m:Nat}
theorem AAY(W:LW B)(s:Shared)(g:Gh)(I:Inv B s g):Acw B (m+2) Tcl s g:=AbF W (AaX (al (AAC W) (al AnG an))) s g I
theorem AuE{La:Addr}{p:Str}{x:Str×List D}{b:Bool}(h:ABG x=some b):Abc (ev Tcl 8 AcT ((("names":Str),.list x.2) :: Av2 La p x)) (testOf (cS 2))=some b:=by
 have h1:ev Tcl 8 AcT ((("names":Str),.list x.2) :: Av2 La p x) (testOf (cS 2))=some (.bool b):=by
  unfold ABG at h
  split at h
  ·rename_i hb
   cases h
   refine Akf rfl (ArX rfl ?_ rfl);exact Ab8 rfl rfl (Aaa rfl rfl rfl) (Aac rfl rfl) (Ahc hb)
  ·rename_i hb
   split at h
   ·rename_i hz
    cases h
    refine Akf rfl (Ane rfl (a:=.bool true) ?_ rfl ?_)
    ·exact Ab8 rfl rfl (Aaa rfl rfl rfl) (Aac rfl rfl) (Ahc hb)
    ·refine Aun rfl ?_;have hl:bLen [.list x.2]=some (.int x.2.length):=if_pos (by omega)
     by_cases h9:x.2.length<9
     ·rw[decide_eq_true h9];exact Ab8 rfl rfl (AaR rfl rfl (AaK rfl rfl rfl rfl rfl rfl) rfl (Aao rfl rfl (Aaa rfl rfl rfl) (Aar rfl)) hl) (Aac rfl rfl) (ArG (by omega))
     ·rw[decide_eq_false h9];exact Ab8 rfl rfl (AaR rfl rfl (AaK rfl rfl rfl rfl rfl rfl) rfl (Aao rfl rfl (Aaa rfl rfl rfl) (Aar rfl)) hl) (Aac rfl rfl) (AlZ (by omega))
   ·exact Aah h
  ·exact Aah h
 exact AaM h1 rfl
theorem Av3(W:LW B):AbC B (m+3) (.ref Aaz) cliD:=by
 have D0:=(AgD W.G);refine Aaf D0.obj fun o ho hdat=>?_;refine⟨.inr (.inr ⟨_,o,_,rfl,ho,hdat⟩),fun A s g vs ds r hA I hd hr=>?_⟩;refine Aaf (Ah1 hr) fun a q1 k_1=>?_;subst q1;refine Aaf (AaY k_1) fun p q2 ka=>?_;subst q2;refine Aaf (Aak ka) fun y hy k_2=>?_;rw[← sj k_2];refine AnE W.O D0 hA I hd rfl fun env s1 e1 e2 e3 F=>?_;have hA':AOk (m+2) (A.deeper env):=hA.deeper;rw[Ab7] at e1;rw[Ab7,show(Aad (nth Abw))=env.scope from e1.symm] at F;have K:=AAY (m:=m) W s g I;rw[show Aae (nth Abw)=[cS 0,cS 1,cS 2,cS 3] from AuD];refine wpAny_execs_cons (OL.start W.O F AAV (by rw[e1];exact An0 _ (by simp)) fun La s2 g2 h0 C2=>?_);dsimp only;have hx1:ex (Tcl.stm (Aam env.scope.names) env.scope) (ev Tcl 8 env.scope) (Aam env.scope.names) env.scope 8 ((("names":Str),.val (.ref La)) :: ([("path":Str)].zip [D.str p]).reverse) [cS 1]=some (.next (Av2 La p (p,[]))):=by rw[e1];exact Ado (d:=.str p) rfl rfl (.inl rfl) (Aaa rfl rfl rfl) (An0 _ (by simp)) (Ach rfl)
 refine AcJ (xs:=[cS 1]) (ys:=[cS 2,cS 3]) (wpAny_mono (OL.ex W.O K hA' C2 hx1) (fun f s3 hf=>?_) fun _ _ e=>e.elim);refine AaG hf fun q hf_2=>?_;subst q;refine Abo hf_2 fun g3 C3=>?_;dsimp only;refine wpAny_execs_cons ?_;rw[AAW];refine wpAny_While (codeAny_mono (Amb (Av2 La p) (fun x=>x.2) ABG ADn (fun x b s g hb C=>?_) (fun x x' s g ht hn C=>?_) (x:=(p,[])) C3 hy) fun rr s4 hr=>?_)
 ·exact OL.test (x:="names") W.O K hA' C h0 rfl (k:=8) (by rw[e1];exact AuE hb)
 ·refine Aaf (Aak hn) fun e hs k1=>?_;refine Aaf (Aak k1) fun pp e2 k2=>?_;refine Aaf (AaY k2) fun h q1 k3=>?_;refine Aaf (AaY k3) fun t q2 k4=>?_;refine AaG (Abs k4) fun hz k5=>?_;have k6:=sj k5;subst k6;rw[Aks e2,q1,q2] at hs;have hx2:ex (Tcl.stm (Aam env.scope.names) env.scope) (ev Tcl 8 env.scope) (Aam env.scope.names) env.scope 8 (Av2 La p x) [cW 0]=some (.next ((("pair":Str),.tup [.str h,.str t]) :: Av2 La p x)):=by rw[e1];exact Ado (d:=.tup [.str h,.str t]) rfl rfl (.inl rfl) (AaR rfl rfl (AaK rfl rfl rfl rfl rfl rfl) rfl (Aao rfl rfl (Aaa rfl rfl rfl) (Aar rfl)) hs) (An0 _ (by simp)) (Ach rfl)
  refine AcJ (xs:=[cW 0]) (ys:=[cW 1,cW 2]) (wpAny_mono (OL.ex W.O K hA' C hx2) (fun f s3 hf=>?_) fun _ _ e=>e.elim);refine AaG hf fun q hf_2=>?_;subst q;refine Abo hf_2 fun g3 C3=>?_;dsimp only;refine wpAny_execs_cons (wpAny_mono (OL.append (k:=8) (T:=Tcl) (d:=.str t) W.O K hA' C3 AAX rfl rfl (by unfold interactive;rw[e1];kernel_rfl!) rfl rfl rfl ?_ h0 (by omega)) (fun f s4 hf=>?_) fun _ _ e=>e.elim)
  ·rw[e1];exact AaH rfl rfl (Aaa rfl rfl rfl) (Aac rfl rfl) rfl
  ·refine AaG hf fun q hf_2=>?_;subst q;refine Abo hf_2 fun g4 C4=>?_;dsimp only;refine wpAny_mono (OL.ex (k:=8) (m:=8) (T:=Tcl) (ρ':=(("here":Str),.str h) :: (("pair":Str),.tup [.str h,.str t]) :: Av2 La p x) W.O K hA' C4 ?_) (fun f s5 hf=>?_) fun _ _ e=>e.elim
   ·rw[e1];refine Ado (d:=.str h) rfl rfl (.inl rfl) ?_ (An0 _ (by simp)) (Ach rfl);exact AaH rfl rfl (Aaa rfl rfl rfl) (Aac rfl rfl) rfl
   ·refine AaG hf fun q hf_2=>?_;subst q;refine Abo hf_2 fun g5 C5=>?_;refine⟨rfl,g5,C5.weaken fun z d hz=>?_⟩;unfold Av2 at hz ⊢;simp only[Aab] at hz ⊢
    by_cases h1:z=("here":Str)
    ·rw[if_pos h1] at hz ⊢;exact hz
    ·rw[if_neg h1] at hz ⊢
     by_cases h2:z=("pair":Str)
     ·subst h2;rw[if_neg (by decide),if_neg (by decide)] at hz;exact Aah hz
     ·rw[if_neg h2,if_neg h1];exact hz
 ·refine AaG hr fun q hr_2=>?_;subst q;refine Abo hr_2 fun g4 C4=>?_;dsimp only;refine Abo (C4.shut (x:="names") h0 rfl) fun g5 F5=>?_;refine Ack W.O K hA' F5 (k:=8) (m:=8) ?_;rw[e1];exact AcU rfl rfl (Aaa rfl rfl rfl)
end
noncomputable def ABH:List (Str×Value):=[("_law_stretch",.ref AaB),("_law_numbers",.ref AaC),("_law_path",.ref Aa2),("_law_lower_figures",.ref Aal),("_law_text",.ref Aa7),("_law_turned",.ref AaE),("_law_climbed",.ref Aaz),("_law_down",.ref Aa3),("_law_read",.ref Aa8),("_law_next",.ref AaP),("_law_divided",.ref AaD),("_law_plain",.ref AaW),("_law_ways",.ref Aa9),("_law_due",.ref Abf),("_law_number",.ref AaJ),("_law_side",.ref Aba),("_law_compared",.ref Aay),("_law_in_order",.ref Aan),("_law_both_ways",.ref Aat)]
theorem AxG(p:Params):ABH.all (fun q=>Ak6 p q.1 == some q.2)=true:=by kernel_rfl!
theorem Ajc{B:Bs}(W:LW B)(x:Str)(v:Value)(h:(Aua++ABH).lookup x=some v):B.look x=some v:=by
 have hm:=PySem.mem_of_lookup h
 rcases List.mem_append.mp hm with hm|hm
 ·exact W.gl x v (eq_of_beq (List.all_eq_true.mp (Am8 B.w.params) _ hm))
 ·exact W.gl x v (eq_of_beq (List.all_eq_true.mp (AxG B.w.params) _ hm))
noncomputable def mkL(app:Value→Option (List D→Option D)):Tb:=⟨fun x=>(Aua++ABH).lookup x,app,Abx,fun _ _ _=>none,fun _ _ _ _=>none⟩
theorem Acn{B:Bs}(W:LW B){n:Nat}{app:Value→Option (List D→Option D)}(h:∀ v F,app v=some F→AbC B n v F)(s:Shared)(g:Gh)(I:Inv B s g):Acw B n (mkL app) s g where
 glob:=Ajc W
 app:=fun v F e=>(h v F e).at I
 spec:=fun _ _ _ _ _ _ _ _ _ e=>by exact Aah e
 stm:=fun _ _ _ _ _ _ _ _ _ _ _ _ e=>by exact Aah e
 meth:=AeR
noncomputable def Phi(a:Addr)(F:List D→Option D)(b:Addr):Option (List D→Option D):=if b=a then some F else none
theorem Asc{B:Bs}{n:Nat}{a:Addr}{F:List D→Option D}(h:AbC B n (.ref a) F):∀ b F',Phi a F b=some F'→AbC B n (.ref b) F':=fun b F' e=>by
 unfold Phi at e
 split at e
 ·rename_i hb;subst hb;cases e;exact h
 ·exact Aah e
noncomputable def AdU:Tb:=mkL (Adx [(.builtin "sum",bSum),(.type "range",bRange)])
noncomputable def stretchD:List D→Option D:=fnD AdU 16 24 ["script"] AcR AaS
theorem ApZ{B:Bs}{m:Nat}(W:LW B):AbC B (m+1) (.ref AaB) stretchD:=by have h:=AbK (n:=m+0) (T:=AdU) W.O (k:=16) (m:=24) (Agu W.G) (fun s g I=>Acn W (AaX (al (AvB W.O) (al (AfF W.O) an))) s g I);rw[Adc] at h;exact h
noncomputable def AdV:Tb:=mkL (Adx [(.builtin "sum",bSum),(.type "range",bRange)])
noncomputable def numbersD:List D→Option D:=fnD AdV 16 24 ["script"] AcS AaT
theorem Ap0{B:Bs}{m:Nat}(W:LW B):AbC B (m+1) (.ref AaC) numbersD:=by have h:=AbK (n:=m+0) (T:=AdV) W.O (k:=16) (m:=24) (Agw W.G) (fun s g I=>Acn W (AaX (al (AvB W.O) (al (AfF W.O) an))) s g I);rw[Ade] at h;exact h
noncomputable def Av4:Tb:=mkL (Adx [(.ref Adb,i2dD),(.ref AbO,Az1 (Phi AeJ joiD))])
noncomputable def pathD:List D→Option D:=fnD Av4 16 24 ["number"] Apu Apv
theorem Asd{B:Bs}{m:Nat}(W:LW B):AbC B (m+11) (.ref Aa2) pathD:=by have h:=AbK (n:=m+10) (T:=Av4) W.O (k:=16) (m:=24) (Aju W.G) (fun s g I=>Acn W (AaX (al ((AvU (m:=m) W).up (Nat.add_le_add_left (by decide) _)) (al (ArY W (Asc ((AAB (m:=m) W).up (Nat.add_le_add_left (by decide) _)))) an))) s g I);rw[Aek] at h;exact h
noncomputable def Av5:Tb:=mkL (Adx [(.ref Aal,lowD),(.builtin "str.join",bJoin)])
noncomputable def textD:List D→Option D:=fnD Av5 16 24 ["number"] Apw Apx
theorem AxH{B:Bs}{m:Nat}(W:LW B):AbC B (m+2) (.ref Aa7) textD:=by have h:=AbK (n:=m+1) (T:=Av5) W.O (k:=16) (m:=24) (Ajw W.G) (fun s g I=>Acn W (AaX (al (Av1 W) (al Aqt an))) s g I);rw[Ael] at h;exact h
noncomputable def An1:Tb:=mkL (Adx [(.ref Aal,lowD)])
noncomputable def turnedD:List D→Option D:=fnD An1 16 24 ["number"] AlO AlP
theorem Amc{B:Bs}{m:Nat}(W:LW B):AbC B (m+2) (.ref AaE) turnedD:=by have h:=AbK (n:=m+1) (T:=An1) W.O (k:=16) (m:=24) (Aht W.G) (fun s g I=>Acn W (AaX (al (Av1 W) an)) s g I);rw[Adt] at h;exact h
noncomputable def Av6:Tb:=mkL (Adx [])
noncomputable def downD:List D→Option D:=fnD Av6 16 24 ["pair","name"] Apy Apz
theorem Ase{B:Bs}{m:Nat}(W:LW B):AbC B (m+1) (.ref Aa3) downD:=by
 have h:=AbK (n:=m+0) (T:=Av6) W.O (k:=16) (m:=24) (Ajy W.G) (fun s g I=>Acn W (AaX fun p hp=>by
  cases hp) s g I)
 rw[Aem] at h;exact h
noncomputable def Av7:Tb:=mkL (Adx [(.ref Aaz,cliD),(.ref Aa2,pathD),(.ref AbO,Az1 (Phi Aa3 downD))])
noncomputable def readD:List D→Option D:=fnD Av7 16 24 ["k"] ApA ApB
theorem AxI{B:Bs}{m:Nat}(W:LW B):AbC B (m+12) (.ref Aa8) readD:=by have h:=AbK (n:=m+11) (T:=Av7) W.O (k:=16) (m:=24) (AjA W.G) (fun s g I=>Acn W (AaX (al ((Av3 (m:=m) W).up (Nat.add_le_add_left (by decide) _)) (al ((Asd (m:=m) W)) (al (ArY W (Asc ((Ase (m:=m) W).up (Nat.add_le_add_left (by decide) _)))) an)))) s g I);rw[Aen] at h;exact h
noncomputable def Amd:Tb:=mkL (Adx [])
noncomputable def dividedD:List D→Option D:=fnD Amd 16 24 ["pair"] AkU AkV
theorem Ap1{B:Bs}{m:Nat}(W:LW B):AbC B (m+1) (.ref AaD) dividedD:=by
 have h:=AbK (n:=m+0) (T:=Amd) W.O (k:=16) (m:=24) (AgF W.G) (fun s g I=>Acn W (AaX fun p hp=>by
  cases hp) s g I)
 rw[Adh] at h;exact h
noncomputable def Asf:Tb:=mkL (Adx [])
noncomputable def plnD:List D→Option D:=fnD Asf 16 24 ["pair"] AmZ Am0
theorem AuF{B:Bs}{m:Nat}(W:LW B):AbC B (m+1) (.ref AaW) plnD:=by
 have h:=AbK (n:=m+0) (T:=Asf) W.O (k:=16) (m:=24) (AiJ W.G) (fun s g I=>Acn W (AaX fun p hp=>by
  cases hp) s g I)
 rw[AdQ] at h;exact h
noncomputable def Av8:Tb:=mkL (Adx [(.type "range",bRange)])
noncomputable def waysD:List D→Option D:=fnD Av8 16 24 [] ApD ApE
theorem AxJ{B:Bs}{m:Nat}(W:LW B):AbC B (m+1) (.ref Aa9) waysD:=by have h:=AbK (n:=m+0) (T:=Av8) W.O (k:=16) (m:=24) (AjG W.G) (fun s g I=>Acn W (AaX (al (AfF W.O) an)) s g I);rw[Aeo] at h;exact h
noncomputable def AAZ:Tb:=mkL (Adx [])
noncomputable def dueD:List D→Option D:=fnD AAZ 16 24 ["k","ways"] Arr Ars
theorem Asg{B:Bs}{m:Nat}(W:LW B):AbC B (m+1) (.ref Abf) dueD:=by
 have h:=AbK (n:=m+0) (T:=AAZ) W.O (k:=16) (m:=24) (Ak0 W.G) (fun s g I=>Acn W (AaX fun p hp=>by
  cases hp) s g I)
 rw[AeM] at h;exact h
noncomputable def An2:Tb:=mkL (Adx [(.ref AcQ,idmD),(.ref AdB,d2iD)])
noncomputable def numberD:List D→Option D:=fnD An2 16 24 ["pair"] AlT AlU
theorem Ash{B:Bs}{m:Nat}(W:LW B):AbC B (m+15) (.ref AaJ) numberD:=by have h:=AbK (n:=m+14) (T:=An2) W.O (k:=16) (m:=24) (AhG W.G) (fun s g I=>Acn W (AaX (al (ArW W) (al ((AvT (m:=m) W).up (Nat.add_le_add_left (by decide) _)) an))) s g I);rw[Adu] at h;exact h
noncomputable def Ajd:Tb:=mkL (Adx [(.ref Aaz,cliD),(.ref AbO,Az1 (Phi Aa3 downD)),(.ref Abf,dueD),(.ref AaJ,numberD),(.ref AaE,turnedD)])
noncomputable def both_waysD:List D→Option D:=fnD Ajd 16 24 ["number","path","ways"] AiX AiY
theorem Ame{B:Bs}{m:Nat}(W:LW B):AbC B (m+16) (.ref Aat) both_waysD:=by have h:=AbK (n:=m+15) (T:=Ajd) W.O (k:=16) (m:=24) (Afs W.G) (fun s g I=>Acn W (AaX (al ((Av3 (m:=m) W).up (Nat.add_le_add_left (by decide) _)) (al (ArY W (Asc ((Ase (m:=m) W).up (Nat.add_le_add_left (by decide) _)))) (al ((Asg (m:=m) W).up (Nat.add_le_add_left (by decide) _)) (al (Ash W) (al ((Amc (m:=m) W).up (Nat.add_le_add_left (by decide) _)) an)))))) s g I);rw[AcH] at h;exact h
section
variable{B:Bs}{A:Around}{s₀ s s':Shared}{g₀ g g':Gh}{own:List Str}{env:Env}{ρ:Rho}{n:Nat}{T:Tb}
theorem Ap2{a b:Str}(hab:a≠b)(v w:Value):merged [] [(a,v),(b,w)]=[(a,v),(b,w)]:=by unfold merged stored;simp [hab]
theorem AxK{a b z:Str}{i1 i2 i0:Int}{t1 t2 t0:Tok}:Den g ((valueAt [(a,.int i1 t1),(b,.int i2 t2)] z).getD (.int i0 t0)) (.int (if z=a then i1 else if z=b then i2 else i0)):=by
 unfold valueAt
 by_cases ha:z=a
 ·subst ha;simp only[List.find?_cons,decide_true,Option.map_some,Option.getD_some,if_true];exact .int
 ·have ha':decide (a=z)=false:=decide_eq_false fun e=>ha e.symm;rw[if_neg ha]
  by_cases hb':z=b
  ·subst hb';simp only[List.find?_cons,ha',decide_true,Option.map_some,Option.getD_some,if_true];exact .int
  ·have hb'':decide (b=z)=false:=decide_eq_false fun e=>hb' e.symm;rw[if_neg hb'];simp only[List.find?_cons,ha',hb'',List.find?_nil,Option.map_none,Option.getD_none];exact .int
theorem AuG(O:B.Ok)(K:Acw B n T s₀ g₀)(hA:AOk n A){v1 v2:Expr}{a b:Str}{c1 c2:Nat}{p1 p2 pd:Pos}{i1 i2:Int}{k:Nat}(hab:a≠b)(h1:ev T k env.scope ρ v1=some (.int i1))(h2:ev T k env.scope ρ v2=some (.int i2))
  (F:Fm B s₀ g₀ own env ρ s g) {Q E:Value→Shared→Prop} (hq:∀ aD u1 u2 s3 g3,s.heap.get? aD=none→Aag B s g s3 g3→s3.heap.DictOf (strKind B.prog B.w) aD [(a,.int i1 u1),(b,.int i2 u2)]→Q (.ref aD) s3) :
  wpAny B.M A (eval (.Dict [some (.Constant (.str a) c1 p1),some (.Constant (.str b) c2 p2)] [v1,v2] pd) env) Q E s:=by
 have S:=(AaZ O K hA k).1 own env ρ;have xo:=Aag.open (o:={cls:=.type "dict",data:=.dict #[]}) O F.inv;have Fo:=F.step xo;have hDo:({s with heap:=s.heap.push {cls:=.type "dict",data:=.dict #[]}}:Shared).heap.get? s.heap.objs.size=some {cls:=.type "dict",data:=.dict #[]}:=Heap.get?_push_size _ rfl;have gD:g s.heap.objs.size=none:=F.inv.fresh;refine wpAny_Dict_walk (knd:=strKind B.prog B.w) rfl rfl (by simp) (by simp) ?_;have sD:s.heap.get? s.heap.objs.size=none:=Aa1 _;generalize ({s with heap:=s.heap.push {cls:=.type "dict",data:=.dict #[]}}:Shared)=so at xo Fo hDo ⊢;generalize s.heap.objs.size=aD at hDo gD sD ⊢;refine pairTrees_cons_walk (wpAny_Constant_str ?_);have xt1:=Aag.tok Fo.inv (so.toks+1);refine(S _ _ _ g h1 (Fo.step xt1)).useI fun _ s1 g1 x1=>?_;have F1:=(Fo.step xt1).step x1;refine pairTrees_cons_walk (wpAny_Constant_str ?_);have xt2:=Aag.tok F1.inv (s1.toks+1);refine(S _ _ _ g1 h2 (F1.step xt2)).useI fun _ s2 g2 x2=>?_;refine pairTrees_nil_walk ?_;rename_i w2t w1t;have Xo2:=((xt1.trans x1).trans xt2).trans x2;have hD2:=Xo2.ext.keep _ _ hDo (Aap rfl);have gD2:=Xo2.shutNone hDo gD;refine⟨[(a,.int i1 w2t),(b,.int i2 w1t)],⟨strKind_is _ _ a _,rfl,strKind_is _ _ b _,rfl,trivial⟩,⟨_,#[],0,hD2,⟨rfl,rfl,rfl⟩,rfl,fun _ he=>by simp at he,Pairs.nil,List.nodup_nil⟩,fun h3 hm hsb=>?_⟩;rw[Ap2 hab] at hm;exact hq aD w2t w1t _ g2 sD ((xo.trans Xo2).turn O sD gD2 hD2 (AaU rfl (by decide)) hsb rfl rfl) hm
theorem Alf(O:B.Ok)(hsys:∃ o,B.G.get? sysModules=some o)(K:Acw B n T s₀ g₀)(hA:AOk n A){e v1 v2 ey d0:Expr}{a b z:Str}{c1 c2:Nat}{p1 p2 pd apos pos:Pos}{i1 i2 i0:Int}{k:Nat}
  (he:e=.Call (.Attribute (.Dict [some (.Constant (.str a) c1 p1),some (.Constant (.str b) c2 p2)] [v1,v2] pd) "get" apos) [ey,d0] [] pos) (hab:a≠b) (hl:(apos.endLine == pos.line)=true)
  (h1:ev T k env.scope ρ v1=some (.int i1)) (h2:ev T k env.scope ρ v2=some (.int i2)) (h0:ev T k env.scope ρ d0=some (.int i0)) (hns:AbL d0=true) (hys:AbL ey=true) (hy:ev T k env.scope ρ ey=some (.str z))
  (F:Fm B s₀ g₀ own env ρ s g):Aaq B A s g (eval e env) fun g' v=>Den g' v (.int (if z=a then i1 else if z=b then i2 else i0)):=by
 subst he;have S:=(AaZ O K hA k).1 own env ρ;have hb:backTo pos (starEach [ey,d0] env)=[(false,eval ey env),(false,eval d0 env)]:=Aaw (al hys (al hns an));refine Ahj fun QQ EE hPost=>?_;refine wpAny_Call_method (T:="dict") (id:="dict.get") (AeU rfl) (by rw[hb];rfl) hl PySem.F.plainAttrs_dict PySem.F.slot_dict_get PySem.F.type_dict_get ?_;refine AuG O K hA hab h1 h2 F fun aD u1 u2 s3 g2 sD x3 hm=>?_;have F3:=F.step x3;refine⟨hm.mapOf.typeIs,hm.mapOf.noDict,?_⟩;rw[hb];refine Aby (g:=g2) (first:=[.ref aD]) (P:=fun g' vs=>Aav g' vs [.str z,.int i0]) (.inl ⟨_,rfl⟩) (by simp) (Calls.spliced_cons ((S _ _ _ _ hy F3).use fun v4 s4 g4 x4 hv4=>Calls.spliced_cons ((S _ _ _ _ h0 (F3.step x4)).use fun v5 s5 g5 x5 hv5=>wpAny_pure ⟨g5,x4.trans x5,.cons (hv4.mono x5.le) (.cons hv5 .nil)⟩))) fun us s4 g4 x4 hus=>?_;induction hus using Aav.consE with|cons hz hn=>?_
 induction hn using Aav.consE with|cons hi hn=>?_
 induction hn using Aav.nilE;induction hz using Den.strE;induction hi using Den.intE;have hne:(aD == sysModules)=false:=by refine Abo hsys fun o ho=>?_;have:=F.inv.real _ _ (F.inv.base _ _ ho);exact beq_eq_false_iff_ne.mpr fun e=>by rw[← e,sD] at this;exact Aah this
 have hm4:s4.heap.MapOf (strKind B.prog B.w) aD (valueAt [(a,.int i1 u1),(b,.int i2 u2)]):=by refine Avu hm.mapOf fun o es ep ho hex r=>?_;exact⟨o,es,ep,x4.ext.keep _ _ ho (Aap hex.1),hex,r⟩
 refine call_meetsIn PySem.F.slot_dict_get hm4.typeIs PySem.F.entry_dict_get (PySem.F.args_dict_get_3 _ _ _) (meets_dict_get_default (knd:=PySem.strKind B.prog B.w) (k:=z) (hkey:=strKind_is _ _ z _) (hd:=hne) (dflt:=_)) ⟨_,hm4,?_⟩;refine hPost _ _ ⟨g4,(x3.trans x4).trans (Aag.tok x4.inv _),AxK⟩
end
noncomputable def Av9(e:Expr)(i:Nat):Expr:=((Abb e).ks.getD i none).getD e
theorem ACA{e:Expr}(h:(Abb e).ks.length=2)(h0:((Abb e).ks.getD 0 none).isSome=true)(h1:((Abb e).ks.getD 1 none).isSome=true):(Abb e).ks=[some (Av9 e 0),some (Av9 e 1)]:=(As1 h).trans (AhR (AgS h0) (AgS h1))
theorem AxL{e f f':Expr}{a a':List Expr}{p:Pos}(h:e=.Call f a [] p)(hf:f=f')(ha:a=a'):e=.Call f' a' [] p:=by subst hf;subst ha;exact h
theorem AxM{e f f':Expr}{x y:Str}{p:Pos}(h:e=.Attribute f x p)(hf:f=f')(ha:x=y):e=.Attribute f' y p:=by subst hf;subst ha;exact h
theorem AxN{e:Expr}{k k':List (Option Expr)}{a a':List Expr}{p:Pos}(h:e=.Dict k a p)(hf:k=k')(ha:a=a'):e=.Dict k' a' p:=by subst hf;subst ha;exact h
noncomputable def evI(T:Tb)(sc:Scope)(ρ:Rho)(e:Expr):Option Int:=(ev T 4 sc ρ e).bind Aux
noncomputable def Afu(e:Expr):Expr:=(Abb (Abb e).f).f
noncomputable def ADM(T:Tb)(sc:Scope)(ρ:Rho)(e:Expr):Int:=
 if ((ev T 4 sc ρ (Aev e 0)).bind ApX).getD ""=(Abb (Av9 (Afu e) 0)).s then (evI T sc ρ (Aev (Afu e) 0)).getD 0 else if ((ev T 4 sc ρ (Aev e 0)).bind ApX).getD ""=(Abb (Av9 (Afu e) 1)).s then (evI T sc ρ (Aev (Afu e) 1)).getD 0 else (evI T sc ρ (Aev e 1)).getD 0
noncomputable def AA0(T:Tb)(sc:Scope)(ρ:Rho)(e:Expr):Option D:=
 if (Abb e).tag=1∧(Abb (Abb e).f).tag=2∧(Abb (Abb e).f).s = "get"∧(Abb (Afu e)).tag=5∧(Abb (Afu e)).ks.length=2∧((Abb (Afu e)).ks.getD 0 none).isSome=true∧((Abb (Afu e)).ks.getD 1 none).isSome=true∧(Abb (Av9 (Afu e) 0)).tag=7∧(Abb (Av9 (Afu e) 1)).tag=7∧(Abb (Afu e)).a.length=2∧(Abb e).a.length=2∧AbL (Aev e 0)=true ∧
  (Abb (Av9 (Afu e) 0)).s≠(Abb (Av9 (Afu e) 1)).s∧((Abb (Abb e).f).p.endLine == (Abb e).p.line)=true∧AbL (Aev e 1)=true∧(evI T sc ρ (Aev (Afu e) 0)).isSome=true∧(evI T sc ρ (Aev (Afu e) 1)).isSome=true∧(evI T sc ρ (Aev e 1)).isSome=true∧((ev T 4 sc ρ (Aev e 0)).bind ApX).isSome=true
 then some (.int (ADM T sc ρ e)) else none
section
variable{B:Bs}{m:Nat}
theorem AuH(O:B.Ok)(hsys:∃ o,B.G.get? sysModules=some o){n:Nat}{T:Tb}{A:Around}{own:List Str}{env:Env}{ρ:Rho}{e:Expr}{d:D}{s₀ s:Shared}{g₀ g:Gh}(K:Acw B n T s₀ g₀)(hA:AOk n A)(h:AA0 T env.scope ρ e=some d)(F:Fm B s₀ g₀ own env ρ s g):Aaq B A s g (eval e env) fun g' v=>Den g' v d:=by
 refine AaG (Abs h) fun q1 hd=>?_;refine ABP q1 fun c1 c2 c3 c4 c5 c6 c7 c8 c9 c10 c11 hys hab hl hns g1 g2 g0 hy=>?_
 cases hd
 exact Alf O hsys K hA (AxL (AvZ c1) (AxM (AAH c2) (AxN (AAJ c4) ((ACA c5 c6 c7).trans (AhR (congrArg some (AAL c8)) (congrArg some (AAL c9)))) (ACw c10)) c3) (ACw c11)) hab hl (Ar8 g1) (Ar8 g2) (Ar8 g0) hns hys (AAM hy) F
end
noncomputable def AA1:Scope→Rho→Expr→Option D:=AA0 Tl
section
variable{B:Bs}{m:Nat}
theorem AuI(W:LW B){A:Around}{own:List Str}{env:Env}{ρ:Rho}{e:Expr}{d:D}{s₀ s:Shared}{g₀ g:Gh}(hA:AOk m A)(h:AA1 env.scope ρ e=some d)(F:Fm B s₀ g₀ own env ρ s g):Aaq B A s g (eval e env) fun g' v=>Den g' v d:=AuH W.O W.cls.sys (AuC (m:=m) W s₀ _) hA h F
end
noncomputable def Asi:Tb:=⟨fun x=>(Aua++ABH).lookup x,Adx [(.builtin "len",bLen),(.builtin "str.strip",bStrip),(.builtin "str.split",bSplit)],Abx,AA1,fun _ _ _ _=>none⟩
section
variable{B:Bs}{m:Nat}
theorem Asj(W:LW B)(s:Shared)(g:Gh)(I:Inv B s g):Acw B m Asi s g where
 glob:=Ajc W
 app:=fun v F e=>(AaX (n:=m) (fun p hp=>by
  simp only[List.mem_cons,List.not_mem_nil,or_false] at hp
  rcases hp with rfl|rfl|rfl
  ·exact AnG
  ·exact Atd
  ·exact AnF W.O) v F e).at I
 spec:=fun _ _ _ _ _ _ _ _ hA h F=>AuI W hA h F
 stm:=fun _ _ _ _ _ _ _ _ _ _ _ _ e=>by exact Aah e
 meth:=AeR
noncomputable def sideD:List D→Option D:=fnD Asi 16 24 ["path","shared"] ApF ApG
theorem AxO(W:LW B):AbC B (m+1) (.ref Aba) sideD:=by have h:=AbK (n:=m) (T:=Asi) W.O (k:=16) (m:=24) (AjN W.G) (fun s g I=>Asj W s g I);rw[Aep] at h;exact h
noncomputable def Ac6:Tb:=mkL (Adx [(.ref AeL,comD),(.ref Aba,sideD)])
noncomputable def comparedD:List D→Option D:=fnD Ac6 16 24 ["one","other"] AdD AaQ
theorem Anj(W:LW B):AbC B (m+4) (.ref Aay) comparedD:=by have h:=AbK (n:=m+3) (T:=Ac6) W.O (k:=16) (m:=24) (Af6 W.G) (fun s g I=>Acn W (AaX (al (AAR W) (al ((AxO (m:=m) W).up (Nat.add_le_add_left (by decide) _)) an))) s g I);rw[AcM] at h;exact h
end
noncomputable def waysV:D:=.list [.int 1,.int 1,.int 2,.int 1,.int 3,.int 2,.int 3,.int 1,.int 4,.int 3,.int 5,.int 2,.int 5,.int 3,.int 4,.int 1,.int 5,.int 4,.int 7,.int 3,.int 8,.int 5,.int 7,.int 2,.int 7,.int 5,.int 8,.int 3,.int 7,.int 4,.int 5,.int 1,.int 6,.int 5,.int 9,.int 4,.int 11,.int 7,.int 10,.int 3]
theorem AxP:waysD []=some waysV:=by kernel_rfl!
noncomputable def Amf:List Int:=[1,2,3,4,5,6,7,8,9,10,11,12,13,14,15,16,17,18,19,20,21,22,23,24,25,26,27,28,29,30,31]
noncomputable def Ae9:List Str:=["/","/a","/ab","/a/a","/a/ab","/ab/a","/ab/ab","/a/a/a","/a/a/ab","/a/ab/a","/a/ab/ab","/ab/a/a","/ab/a/ab","/ab/ab/a","/ab/ab/ab","/a/a/a/a","/a/a/a/ab","/a/a/ab/a","/a/a/ab/ab","/a/ab/a/a","/a/ab/a/ab","/a/ab/ab/a","/a/ab/ab/ab","/ab/a/a/a","/ab/a/a/ab","/ab/a/ab/a","/ab/a/ab/ab","/ab/ab/a/a","/ab/ab/a/ab","/ab/ab/ab/a","/ab/ab/ab/ab"]
theorem AuJ:Amf.map (fun n=>pathD [.int n])=Ae9.map fun x=>some (.str x):=by kernel_rfl!
theorem AuK:Amf.map (fun n=>textD [.int n])=Ae9.map fun x=>some (.str x):=by kernel_rfl!
noncomputable def Ank:List Int:=[1,2,3,4,6,5,7,8,12,10,14,9,13,11,15,16,24,20,28,18,26,22,30,17,25,21,29,19,27,23,31]
theorem Ap3:Amf.map (fun n=>turnedD [.int n])=Ank.map fun x=>some (.int x):=by kernel_rfl!
noncomputable def ksL:List Int:=[-28,-27,-26,-25,-24,-23,-22,-21,-20,-19,-18,-17,-16,-15,-14,-13,-12,-11,-10,-9,-8,-7,-6,-5,-4,-3,-2,-1,0,1,2,3,4,5,6,7,8,9,10,11,12,13,14,15,16,17,18,19,20,21,22,23,24,25,26,27,28,29,30,31,32,33,34,35]
noncomputable def AsX:List (Int×Int):=[(-3,8),(-8,5),(-5,7),(-7,2),(-2,7),(-7,5),(-5,8),(-8,3),(-3,7),(-7,4),(-4,5),(-5,1),(-1,4),(-4,3),(-3,5),(-5,2),(-2,5),(-5,3),(-3,4),(-4,1),(-1,3),(-3,2),(-2,3),(-3,1),(-1,2),(-2,1),(-1,1),(1,0),(0,1),(1,1),(1,2),(2,1),(1,3),(3,2),(2,3),(3,1),(1,4),(4,3),(3,5),(5,2),(2,5),(5,3),(3,4),(4,1),(1,5),(5,4),(4,7),(7,3),(3,8),(8,5),(5,7),(7,2),(2,7),(7,5),(5,8),(8,3),(3,7),(7,4),(4,5),(5,1),(1,6),(6,5),(5,9),(9,4)]
theorem Ask:ksL.map (fun k=>dueD [.int k,waysV])=AsX.map fun p=>some (.tup [.int p.1,.int p.2]):=by kernel_rfl!
theorem AuL:ksL.map (fun k=>readD [.int k])=AsX.map fun p=>some (.tup [.int p.1,.int p.2]):=by kernel_rfl!
theorem AuM:(Amf.zip Ae9).map (fun q=>both_waysD [.int q.1,.str q.2,waysV])=Amf.map fun _=>some (.bool true):=by kernel_rfl!
section
variable{T:Tb}{n:Nat}{sc sc':Scope}{ρ:Rho}{e elt:Expr}{p:Pos}{g:Comprehension}{rest:List Comprehension}{x:D}{items out:List D}
theorem Amt(he:e=.ListComp elt (g :: rest) sc' p)(hc:(g :: rest).all (fun c=>c.is_async == 0)=true∧AcA g.iter=true∧AbD sc' sc=true)(hx:ev T n sc ρ g.iter=some x)(hi:Acq x=some items)
  (hf:Abi (Aam sc'.names) (AaA sc' sc) (fun ρ e=>Abc (ev T n (AaA sc' sc) ρ) e) g.target g.ifs (AfA (ev T n (AaA sc' sc)) (Aam sc'.names) (AaA sc' sc) elt rest) (Abt sc' ρ) items []=some out):ev T (n+1) sc ρ e=some (.list out):=by
 subst he;exact r_0 rfl (ift hc (Aau hx (Aau hi (Aau hf rfl))))
end
theorem Abn{α:Type}{own:List Str}{sc:Scope}{T:Rho→Expr→Option Bool}{target:Expr}{ifs:List Expr}{inner:Rho→α→Option α}{ρ ρ₁:Rho}{d:D}{ds:List D}{a a' r:α}
  (hk:(if (Aj2 target).all (fun x=>(ρ.lookup x).isNone)=true then Ac8 own sc target d ρ else none)=some ρ₁) (ht:Any T ρ₁ ifs=some true) (hi:inner ρ₁ a=some a') (h:Abi own sc T target ifs inner ρ ds a'=some r) :
  Abi own sc T target ifs inner ρ (d :: ds) a=some r:=by
 exact Aau (Aau hk (Aau ht hi)) h
theorem Ab9{E:Rho→Expr→Option D}{own:List Str}{sc:Scope}{elt:Expr}{ρ:Rho}{a:List D}{d:D}(h:E ρ elt=some d)(hl:a.length<1000000):AfA E own sc elt [] ρ a=some (a++[d]):=by exact Aau h (ift hl rfl)
theorem AA2{E:Rho→Expr→Option D}{elt:Expr}{ρ:Rho}{a:Nat}(h:E ρ elt=some (.bool true)):Ar4 E elt ρ a=some 1:=Aau h (Aau rfl (if_pos rfl))
theorem ACB{own:List Str}{sc scope:Scope}{ρ:Rho}{st:Stmt}{y:Str}{q q2 pos p:Pos}{k2:Nat}{elt target iter:Expr}{ifs:List Expr}{x:D}{items:List D}(hst:st=.Assign [.Tuple [.Name y q] k2 q2] (.SetComp elt [⟨target,iter,ifs,0⟩] scope pos) p)
  (hc:AcA iter=true∧AbD scope sc=true∧okT own sc y=true) (hx:ev Tc0 8 sc ρ iter=some x) (hi:Acq x=some items)
  (hf:Abi (Aam scope.names) (AaA scope sc) (fun ρ e=>Abc (ev Tc0 8 (AaA scope sc) ρ) e) target ifs (Ar4 (ev Tc0 8 (AaA scope sc)) elt) (Abt scope ρ) items 0=some 1):AAP own sc ρ st=some (.next ((y,.bool true) :: ρ)):=by
 subst hst;exact ift ⟨rfl,rfl,rfl,rfl,rfl,rfl,hc.1,hc.2.1,hc.2.2,Aau (Aau hx hi) hf⟩ rfl
noncomputable def Asl:Stmt:=(At4[3]?).getD AbZ
noncomputable def kS(i:Nat):Stmt:=((tryOf Asl)[i]?).getD AbZ
theorem AxQ:tryOf Asl=[kS 0,kS 1,kS 2,kS 3,kS 4,kS 5,kS 6,kS 7,kS 8]:=by kernel_rfl!
noncomputable def ACC:Expr:=lcElt (Aaj (kS 2))
noncomputable def ACD:Scope:=AaA (lcScope (Aaj (kS 2))) AcG
noncomputable def AuN(l:List D):Option D:=ev Tc 11 ACD [("s",.list l),("curdir",.str ".")] ACC
noncomputable abbrev XC:Rho→Stmt→Option Res:=Tc.stm (Aam AcG.names) AcG
noncomputable abbrev EC(k:Nat):Rho→Expr→Option D:=ev Tc k AcG
theorem AA3(ρ:Rho)(st:Stmt):XC ρ st=AAP (Aam AcG.names) AcG ρ st:=rfl
theorem ACE{a b:Str}{la lb fa fb:List D}{r:D}(h1:bSplit [.str a,.str "/"]=some (.list la))(h2:bSplit [.str b,.str "/"]=some (.list lb))(h3:Txt.startswith a "/"=true)(h4:Txt.startswith b "/"=true)
  (h5:AuN la=some (.list fa)) (h6:AuN lb=some (.list fb))
  (h:∀ ρ:Rho,ρ.lookup ("sep":Str)=some (.str "/")→ρ.lookup ("isabs":Str)=some (.bool true)→ρ.lookup ("split_paths":Str)=some (.list [.list fa,.list fb])→ρ.lookup ("min":Str)=none→ρ.lookup ("max":Str)=none→ex XC (EC 12) (Aam AcG.names) AcG 13 ρ [kS 3,kS 4,kS 5,kS 6,kS 7,kS 8]=some (.ret r)):comD [.list [.str a,.str b]]=some r:=by
 suffices hs:ex XC (EC 12) (Aam AcG.names) AcG 20 [("paths",.list [.str a,.str b])] At4=some (.ret r) by
  unfold comD fnD;rw[if_pos (show[("paths":Str)].length=[D.list [D.str a,D.str b]].length from rfl)];show(match ex XC (EC 12) (Aam AcG.names) AcG 20 [("paths",.list [.str a,.str b])] At4 with|some (.ret d)=>some d|some (.next _)=>some .none|_=>none)=_;rw[hs]
 refine Ado (d:=.tup [.str a,.str b]) rfl rfl (.inl rfl) (AvQ rfl rfl) (by kernel_rfl!) ?_;refine Adw rfl rfl (AaM (d:=.bool false) (Arz rfl (Aa6 rfl) rfl) rfl) (Ach rfl) ?_;refine Adw rfl rfl (AaM (d:=.bool false) ?_ rfl) ?_ ?_ (ρ':=[("curdir",.str "."),("sep",.str "/"),("paths",.tup [.str a,.str b]),("paths",.list [.str a,.str b])])
 ·exact AjQ rfl (AbP rfl (AaH rfl rfl (Aa6 rfl) (Aac rfl rfl) rfl) (AbP rfl (AaK rfl rfl rfl rfl rfl rfl) (Aar rfl))) rfl
 ·refine Ado (d:=.str "/") rfl rfl (.inl rfl) (Aac rfl rfl) (by kernel_rfl!) ?_;exact Ado (d:=.str ".") rfl rfl (.inl rfl) (Aac rfl rfl) (by kernel_rfl!) (Ach rfl)
 refine Axr rfl rfl ?_;show ex XC (EC 12) (Aam AcG.names) AcG 16 _ (tryOf Asl)=_;rw[AxQ];refine Ado (rest:=[kS 1,kS 2,kS 3,kS 4,kS 5,kS 6,kS 7,kS 8]) (d:=.list [.list la,.list lb]) rfl rfl (.inr rfl) ?_ (by kernel_rfl!) ?_
 ·refine Amt rfl ⟨rfl,rfl,by kernel_rfl!⟩ (Aa6 rfl) rfl ?_;refine Abn (ρ₁:=[("path",.str a),("sep",.str "/")]) (by kernel_rfl!) rfl (Ab9 (d:=.list la) ?_ (by simp)) ?_
  ·exact AdS rfl rfl ⟨rfl,rfl,by decide⟩ (Aa6 rfl) rfl rfl rfl (AbP rfl (Aa6 rfl) (Aar rfl)) h1
  refine Abn (ρ₁:=[("path",.str b),("sep",.str "/")]) (by kernel_rfl!) rfl (Ab9 (d:=.list lb) ?_ (by simp)) rfl;exact AdS rfl rfl ⟨rfl,rfl,by decide⟩ (Aa6 rfl) rfl rfl rfl (AbP rfl (Aa6 rfl) (Aar rfl)) h2
 refine AAy (ρ':=("isabs",.bool true) :: [("split_paths",.list [.list la,.list lb]),("curdir",.str "."),("sep",.str "/"),("paths",.tup [.str a,.str b]),("paths",.list [.str a,.str b])]) (rest:=[kS 2,kS 3,kS 4,kS 5,kS 6,kS 7,kS 8]) rfl rfl ?_ ?_
 ·refine AAz rfl ?_ (Ach rfl);refine(AA3 _ _).trans ?_;refine ACB rfl ?_ (Aa6 rfl) rfl ?_
  ·exact⟨rfl,by kernel_rfl!,by kernel_rfl!⟩
  refine Abn (ρ₁:=[("p",.str a),("sep",.str "/")]) (by kernel_rfl!) rfl (AA2 ?_) ?_
  ·exact AdS rfl rfl ⟨rfl,rfl,by decide⟩ (Aa6 rfl) rfl rfl rfl (AbP rfl (Aa6 rfl) (Aar rfl)) (by show some (D.bool _)=_;rw[h3])
  refine Abn (ρ₁:=[("p",.str b),("sep",.str "/")]) (by kernel_rfl!) rfl (AA2 ?_) rfl;exact AdS rfl rfl ⟨rfl,rfl,by decide⟩ (Aa6 rfl) rfl rfl rfl (AbP rfl (Aa6 rfl) (Aar rfl)) (by show some (D.bool _)=_;rw[h4])
 refine Ado (rest:=[kS 3,kS 4,kS 5,kS 6,kS 7,kS 8]) (d:=.list [.list fa,.list fb]) rfl rfl (.inr rfl) ?_ (by kernel_rfl!) ?_
 ·refine Amt rfl ⟨rfl,rfl,by kernel_rfl!⟩ (Aa6 rfl) rfl ?_;refine Abn (ρ₁:=[("s",.list la),("curdir",.str ".")]) (by kernel_rfl!) rfl (Ab9 (d:=.list fa) h5 (by simp)) ?_;exact Abn (ρ₁:=[("s",.list lb),("curdir",.str ".")]) (by kernel_rfl!) rfl (Ab9 (d:=.list fb) h6 (by simp)) rfl
 exact h _ rfl rfl rfl rfl rfl
noncomputable def AuO(s1 s2:List D):Nat→List D→Option (List D)
 |_,[]=>some s1
 |i,c :: cs=>(AdA (.list s2) (.int i)).bind fun d=>(eqD c d).bind fun b=>
  if b=true then AuO s1 s2 (i+1) cs else (AcC (.list s1) none (some i) none).bind fun y=>Adq y fun x=>some x
noncomputable def AyU:Expr:=tgtOf (kS 6)
noncomputable def ADo:List Stmt:=loopOf (kS 6)
noncomputable abbrev BDc:Rho→Option Res:=fun ρ=>ex (Tc0.stm (Aam AcG.names) AcG) (ev Tc0 8 AcG) (Aam AcG.names) AcG 8 ρ ADo
theorem AA4:kS 6=.For (.Tuple (tupEs AyU) 0 AyU.pos) (.Call (.Name "enumerate" (Ac7 (iterOf (kS 6)))) [.Name "s1" (Afw 0 (iterOf (kS 6))).pos] [] (iterOf (kS 6)).pos) ADo [] (Abp (kS 6)):=by kernel_rfl!
theorem An3(i:Int)(c:D)(ρ:Rho):Ac8 (Aam AcG.names) AcG (.Tuple (tupEs AyU) 0 AyU.pos) (.tup [.int i,c]) ρ=some ((("c":Str),c) :: (("i":Str),D.int i) :: ρ):=by kernel_rfl!
theorem Asm{c d:D}{i:Nat}{ρ:Rho}{s2:List D}(h2:ρ.lookup ("s2":Str)=some (.list s2))(hi:AdA (.list s2) (.int i)=some d)(he:eqD c d=some true) :
  BDc (("c",c) :: ("i",.int i) :: ρ)=some (.next (("c",c) :: ("i",.int i) :: ρ)):=by
 refine Adw rfl rfl (AaM (d:=.bool false) (Ab8 rfl rfl (Aa6 rfl) (AaH rfl rfl (Aaa rfl rfl h2) (Aa6 rfl) hi) (Ahc he)) rfl) (Ach rfl) (Ach rfl)
theorem Ap4{c d:D}{i:Nat}{ρ:Rho}{s1 s2 x:List D}(h1:ρ.lookup ("s1":Str)=some (.list s1))(h2:ρ.lookup ("s2":Str)=some (.list s2))(hi:AdA (.list s2) (.int i)=some d)(he:eqD c d=some false)(hs:AcC (.list s1) none (some i) none=some (.list x)) :
  BDc (("c",c) :: ("i",.int i) :: ρ)=some (.brk (("common",.list x) :: ("c",c) :: ("i",.int i) :: ρ)):=by
 refine Axs rfl rfl (AaM (d:=.bool true) (Ab8 rfl rfl (Aa6 rfl) (AaH rfl rfl (Aaa rfl rfl h2) (Aa6 rfl) hi) (Ahc he)) rfl) ?_;refine Ado (d:=.list x) rfl rfl (.inl rfl) ?_ (by kernel_rfl!) (ACu rfl rfl);exact Adj rfl (Aaa rfl rfl h1) (Ab1 rfl) (AcI rfl (Aa6 rfl)) (Ab1 rfl) hs
theorem Akh{s1 s2 r:List D}:∀ (cs:List D) (i:Nat) (ρ:Rho),ρ.lookup ("s1":Str)=some (.list s1)→ρ.lookup ("s2":Str)=some (.list s2)→ρ.lookup ("common":Str)=some (.list s1)→AuO s1 s2 i cs=some r →
  ∃ ρ',AmD (Aam AcG.names) AcG (.Tuple (tupEs AyU) 0 AyU.pos) BDc (ApW i cs) ρ=some (.next ρ')∧ρ'.lookup ("common":Str)=some (.list r)∧ρ'.lookup ("sep":Str)=ρ.lookup ("sep":Str)∧ρ'.lookup ("isabs":Str)=ρ.lookup ("isabs":Str)
 |[],i,ρ,h1,h2,h3,h=>by
  cases h
  exact⟨ρ,rfl,h3,rfl,rfl⟩
 |c :: cs,i,ρ,h1,h2,h3,h=>by
  refine Aaf (Aak h) fun d hi h=>?_;refine Aaf (Aak h) fun b he h=>?_
  ·induction b using Bool.casesOn with
   |true=>
    refine Amu (Akh cs (i+1) (("c",c) :: ("i",.int i) :: ρ) h1 h2 h3 h) fun ρ' e1 e2 e3 e4=>?_;exact⟨ρ',AvW (An3 _ _ _) (Asm h2 hi he) e1,e2,e3,e4⟩
   |false=>
    refine Aaf (Aak h) fun y hs h=>?_;refine Aaf (Abd h) fun x q1 h_1=>?_;subst q1;have h_1:=sj h_1;subst h_1;exact⟨_,ACs (An3 _ _ _) (Ap4 h1 h2 hi he hs),rfl,rfl,rfl⟩
theorem AA5{own:List Str}{sc:Scope}{ρ:Rho}{st:Stmt}{es:List Expr}{k2:Nat}{pt q q' p2 pos:Pos}{x:Str}{body:List Stmt}{ds:List D}{r:Res}(hst:st=.For (.Tuple es k2 pt) (.Call (.Name "enumerate" q) [.Name x q'] [] p2) body [] pos)
  (hc:AbB x=true∧sc.names.lookup ("enumerate":Str)=some .globalImplicit) (hx:ρ.lookup x=some (.list ds)) (hf:AmD own sc (.Tuple es k2 pt) (fun ρ=>ex (Tc0.stm own sc) (ev Tc0 8 sc) own sc 8 ρ body) (ApW 0 ds) ρ=some r):AAP own sc ρ st=some r:=by
 subst hst;have e:AAO sc ρ (.Call (.Name "enumerate" q) [.Name x q'] [] p2)=some ds:=Aau hx rfl;refine ift ⟨rfl,rfl,rfl,rfl,rfl,rfl,hc.1,hc.2,by rw[e];rfl⟩ ?_;rw[e];exact hf
theorem ACF{fa fb s1 s2 c:List D}{j:Str}{ρ:Rho}(h1:bMin [.list [.list fa,.list fb]]=some (.list s1))(h2:bMax [.list [.list fa,.list fb]]=some (.list s2))(h3:AuO s1 s2 0 s1=some c)(h4:bJoin [.str "/",.list c]=some (.str j))(h5:j.cps.size≤1000)
  (k1:ρ.lookup ("sep":Str)=some (.str "/")) (k2:ρ.lookup ("isabs":Str)=some (.bool true)) (k3:ρ.lookup ("split_paths":Str)=some (.list [.list fa,.list fb])) (k4:ρ.lookup ("min":Str)=none) (k5:ρ.lookup ("max":Str)=none) :
  ex XC (EC 12) (Aam AcG.names) AcG 13 ρ [kS 3,kS 4,kS 5,kS 6,kS 7,kS 8]=some (.ret (.str ("/"++j))):=by
 refine Ado (rest:=[kS 4,kS 5,kS 6,kS 7,kS 8]) (d:=.list s1) rfl rfl (.inl rfl) (AaR rfl rfl (AaK rfl rfl k4 rfl rfl rfl) rfl (AbP rfl (Aaa rfl rfl k3) (Aar rfl)) h1) (by kernel_rfl!) ?_;refine Ado (rest:=[kS 5,kS 6,kS 7,kS 8]) (d:=.list s2) rfl rfl (.inl rfl) (AaR rfl rfl (AaK rfl rfl k5 rfl rfl rfl) rfl (AbP rfl (Aaa rfl rfl k3) (Aar rfl)) h2) (by kernel_rfl!) ?_;refine Ado (rest:=[kS 6,kS 7,kS 8]) (d:=.list s1) rfl rfl (.inl rfl) (Aa6 rfl) (by kernel_rfl!) ?_;refine Amu (Akh (s1:=s1) (s2:=s2) s1 0 (("common",.list s1) :: ("s2",.list s2) :: ("s1",.list s1) :: ρ) rfl rfl rfl h3) fun ρ' e1 e2 e3 e4=>?_;refine AAz (st:=kS 6) (rest:=[kS 7,kS 8]) (ρ':=ρ') rfl ((AA3 _ _).trans (AA5 AA4 ⟨rfl,by kernel_rfl!⟩ rfl e1)) ?_;have k1':ρ'.lookup ("sep":Str)=some (.str "/"):=e3.trans k1;have k2':ρ'.lookup ("isabs":Str)=some (.bool true):=e4.trans k2;refine Ado (rest:=[kS 8]) (d:=.str "/") rfl rfl (.inl rfl) (ArA rfl (AaM (Aaa rfl rfl k2') rfl) (Aaa rfl rfl k1')) (by kernel_rfl!) ?_;refine AcU rfl rfl (Abh rfl (Aa6 rfl) (AdS rfl rfl ⟨rfl,rfl,by decide⟩ (Aaa rfl rfl k1') rfl rfl rfl (AbP rfl (Aaa rfl rfl e2) (Aar rfl)) h4) ?_);refine if_pos ?_;have:(("/":Str)).cps.size=1:=rfl
 omega
noncomputable def ADp(fa fb:List D):Option Str:=(bMin [.list [.list fa,.list fb]]).bind fun x=>Adq x fun s1=>(bMax [.list [.list fa,.list fb]]).bind fun y=>Adq y fun s2=>
 (AuO s1 s2 0 s1).bind fun c=>(bJoin [.str "/",.list c]).bind fun z=>Ad0 z fun j=>if j.cps.size≤1000 then some ("/"++j) else none
structure AxR(a:Str)(fa:List D):Prop where
 split:∃ la,bSplit [.str a,.str "/"]=some (.list la)∧AuN la=some (.list fa)
 abs:Txt.startswith a "/"=true
theorem Asn{a b:Str}{fa fb:List D}{r:Str}(ha:AxR a fa)(hb:AxR b fb)(h:ADp fa fb=some r):comD [.list [.str a,.str b]]=some (.str r):=by refine Aaf ha.split fun la a1 a2=>?_;refine Aaf hb.split fun lb b1 b2=>?_;refine Aaf (Aak h) fun x h1 h=>?_;refine Aaf (Abd h) fun s1 q1 h_1=>?_;subst q1;refine Aaf (Aak h_1) fun y h2 h=>?_;refine Aaf (Abd h) fun s2 q1 h_2=>?_;subst q1;refine Aaf (Aak h_2) fun c h3 h=>?_;refine Aaf (Aak h) fun z h4 h=>?_;refine Aaf (AaY h) fun j q1 h_3=>?_;subst q1;refine AaG (Abs h_3) fun h5 h=>?_;have h:=sj h;subst h;exact ACE a1 b1 ha.abs hb.abs a2 b2 fun ρ k1 k2 k3 k4 k5=>ACF h1 h2 h3 h4 h5 k1 k2 k3 k4 k5
noncomputable def nmL:List (List D):=[[],[.str "a"],[.str "ab"],[.str "a",.str "a"],[.str "a",.str "ab"],[.str "ab",.str "a"],[.str "ab",.str "ab"],[.str "a",.str "a",.str "a"],[.str "a",.str "a",.str "ab"],[.str "a",.str "ab",.str "a"],[.str "a",.str "ab",.str "ab"],[.str "ab",.str "a",.str "a"],[.str "ab",.str "a",.str "ab"],[.str "ab",.str "ab",.str "a"],[.str "ab",.str "ab",.str "ab"],[.str "a",.str "a",.str "a",.str "a"],[.str "a",.str "a",.str "a",.str "ab"],[.str "a",.str "a",.str "ab",.str "a"],[.str "a",.str "a",.str "ab",.str "ab"],[.str "a",.str "ab",.str "a",.str "a"],[.str "a",.str "ab",.str "a",.str "ab"],[.str "a",.str "ab",.str "ab",.str "a"],[.str "a",.str "ab",.str "ab",.str "ab"],[.str "ab",.str "a",.str "a",.str "a"],[.str "ab",.str "a",.str "a",.str "ab"],[.str "ab",.str "a",.str "ab",.str "a"],[.str "ab",.str "a",.str "ab",.str "ab"],[.str "ab",.str "ab",.str "a",.str "a"],[.str "ab",.str "ab",.str "a",.str "ab"],[.str "ab",.str "ab",.str "ab",.str "a"],[.str "ab",.str "ab",.str "ab",.str "ab"]]
theorem Aso:Ae9.all (fun a=>Txt.startswith a "/")=true:=by kernel_rfl!
noncomputable def ACG:List (List D):=[[.str "",.str ""],[.str "",.str "a"],[.str "",.str "ab"],[.str "",.str "a",.str "a"],[.str "",.str "a",.str "ab"],[.str "",.str "ab",.str "a"],[.str "",.str "ab",.str "ab"],[.str "",.str "a",.str "a",.str "a"],[.str "",.str "a",.str "a",.str "ab"],[.str "",.str "a",.str "ab",.str "a"],[.str "",.str "a",.str "ab",.str "ab"],[.str "",.str "ab",.str "a",.str "a"],[.str "",.str "ab",.str "a",.str "ab"],[.str "",.str "ab",.str "ab",.str "a"],[.str "",.str "ab",.str "ab",.str "ab"],[.str "",.str "a",.str "a",.str "a",.str "a"],[.str "",.str "a",.str "a",.str "a",.str "ab"],[.str "",.str "a",.str "a",.str "ab",.str "a"],[.str "",.str "a",.str "a",.str "ab",.str "ab"],[.str "",.str "a",.str "ab",.str "a",.str "a"],[.str "",.str "a",.str "ab",.str "a",.str "ab"],[.str "",.str "a",.str "ab",.str "ab",.str "a"],[.str "",.str "a",.str "ab",.str "ab",.str "ab"],[.str "",.str "ab",.str "a",.str "a",.str "a"],[.str "",.str "ab",.str "a",.str "a",.str "ab"],[.str "",.str "ab",.str "a",.str "ab",.str "a"],[.str "",.str "ab",.str "a",.str "ab",.str "ab"],[.str "",.str "ab",.str "ab",.str "a",.str "a"],[.str "",.str "ab",.str "ab",.str "a",.str "ab"],[.str "",.str "ab",.str "ab",.str "ab",.str "a"],[.str "",.str "ab",.str "ab",.str "ab",.str "ab"]]
theorem Asp:Ae9.map (fun a=>bSplit [.str a,.str "/"])=ACG.map (fun l=>some (.list l)):=by kernel_rfl!
theorem AuP:ACG.map AuN=nmL.map (fun l=>some (.list l)):=by kernel_rfl!
noncomputable def AcV(n:Nat):Str:=Ae9.getD (n - 1) ""
noncomputable def cpL:List (List Nat):=[[1,1,1,1,1,1,1,1,1,1,1,1,1,1,1,1,1,1,1,1,1,1,1,1,1,1,1,1,1,1,1],
 [1,2,1,2,2,1,1,2,2,2,2,1,1,1,1,2,2,2,2,2,2,2,2,1,1,1,1,1,1,1,1],
 [1,1,3,1,1,3,3,1,1,1,1,3,3,3,3,1,1,1,1,1,1,1,1,3,3,3,3,3,3,3,3],
 [1,2,1,4,2,1,1,4,4,2,2,1,1,1,1,4,4,4,4,2,2,2,2,1,1,1,1,1,1,1,1],
 [1,2,1,2,5,1,1,2,2,5,5,1,1,1,1,2,2,2,2,5,5,5,5,1,1,1,1,1,1,1,1],
 [1,1,3,1,1,6,3,1,1,1,1,6,6,3,3,1,1,1,1,1,1,1,1,6,6,6,6,3,3,3,3],
 [1,1,3,1,1,3,7,1,1,1,1,3,3,7,7,1,1,1,1,1,1,1,1,3,3,3,3,7,7,7,7],
 [1,2,1,4,2,1,1,8,4,2,2,1,1,1,1,8,8,4,4,2,2,2,2,1,1,1,1,1,1,1,1],
 [1,2,1,4,2,1,1,4,9,2,2,1,1,1,1,4,4,9,9,2,2,2,2,1,1,1,1,1,1,1,1],
 [1,2,1,2,5,1,1,2,2,10,5,1,1,1,1,2,2,2,2,10,10,5,5,1,1,1,1,1,1,1,1],
 [1,2,1,2,5,1,1,2,2,5,11,1,1,1,1,2,2,2,2,5,5,11,11,1,1,1,1,1,1,1,1],
 [1,1,3,1,1,6,3,1,1,1,1,12,6,3,3,1,1,1,1,1,1,1,1,12,12,6,6,3,3,3,3],
 [1,1,3,1,1,6,3,1,1,1,1,6,13,3,3,1,1,1,1,1,1,1,1,6,6,13,13,3,3,3,3],
 [1,1,3,1,1,3,7,1,1,1,1,3,3,14,7,1,1,1,1,1,1,1,1,3,3,3,3,14,14,7,7],
 [1,1,3,1,1,3,7,1,1,1,1,3,3,7,15,1,1,1,1,1,1,1,1,3,3,3,3,7,7,15,15],
 [1,2,1,4,2,1,1,8,4,2,2,1,1,1,1,16,8,4,4,2,2,2,2,1,1,1,1,1,1,1,1],
 [1,2,1,4,2,1,1,8,4,2,2,1,1,1,1,8,17,4,4,2,2,2,2,1,1,1,1,1,1,1,1],
 [1,2,1,4,2,1,1,4,9,2,2,1,1,1,1,4,4,18,9,2,2,2,2,1,1,1,1,1,1,1,1],
 [1,2,1,4,2,1,1,4,9,2,2,1,1,1,1,4,4,9,19,2,2,2,2,1,1,1,1,1,1,1,1],
 [1,2,1,2,5,1,1,2,2,10,5,1,1,1,1,2,2,2,2,20,10,5,5,1,1,1,1,1,1,1,1],
 [1,2,1,2,5,1,1,2,2,10,5,1,1,1,1,2,2,2,2,10,21,5,5,1,1,1,1,1,1,1,1],
 [1,2,1,2,5,1,1,2,2,5,11,1,1,1,1,2,2,2,2,5,5,22,11,1,1,1,1,1,1,1,1],
 [1,2,1,2,5,1,1,2,2,5,11,1,1,1,1,2,2,2,2,5,5,11,23,1,1,1,1,1,1,1,1],
 [1,1,3,1,1,6,3,1,1,1,1,12,6,3,3,1,1,1,1,1,1,1,1,24,12,6,6,3,3,3,3],
 [1,1,3,1,1,6,3,1,1,1,1,12,6,3,3,1,1,1,1,1,1,1,1,12,25,6,6,3,3,3,3],
 [1,1,3,1,1,6,3,1,1,1,1,6,13,3,3,1,1,1,1,1,1,1,1,6,6,26,13,3,3,3,3],
 [1,1,3,1,1,6,3,1,1,1,1,6,13,3,3,1,1,1,1,1,1,1,1,6,6,13,27,3,3,3,3],
 [1,1,3,1,1,3,7,1,1,1,1,3,3,14,7,1,1,1,1,1,1,1,1,3,3,3,3,28,14,7,7],
 [1,1,3,1,1,3,7,1,1,1,1,3,3,14,7,1,1,1,1,1,1,1,1,3,3,3,3,14,29,7,7],
 [1,1,3,1,1,3,7,1,1,1,1,3,3,7,15,1,1,1,1,1,1,1,1,3,3,3,3,7,7,30,15],
 [1,1,3,1,1,3,7,1,1,1,1,3,3,7,15,1,1,1,1,1,1,1,1,3,3,3,3,7,7,15,31]]
theorem AxS:nmL.map (fun a=>nmL.map fun b=>ADp a b)=cpL.map (fun l=>l.map fun n=>some (AcV n)):=by kernel_rfl!
noncomputable def AuQ:List (Nat×Nat×Int):=[(1,1,0),(2,1,-1),(2,2,0),(3,1,1),(3,3,0),(4,1,-1),(4,2,-1),(4,4,0),(5,1,-1),(5,2,1),(5,5,0),(6,1,1),(6,3,-1),(6,6,0),(7,1,1),(7,3,1),(7,7,0),(8,1,-1),(8,2,-1),(8,4,-1),(8,8,0),(9,1,-1),(9,2,-1),(9,4,1),(9,9,0),(10,1,-1),(10,2,1),(10,5,-1),(10,10,0),(11,1,-1),(11,2,1),(11,5,1),(11,11,0),(12,1,1),(12,3,-1),(12,6,-1),(12,12,0),(13,1,1),(13,3,-1),(13,6,1),(13,13,0),(14,1,1),(14,3,1),(14,7,-1),(14,14,0),(15,1,1),(15,3,1),(15,7,1),(15,15,0),(16,1,-1),(16,2,-1),(16,4,-1),(16,8,-1),(16,16,0),(17,1,-1),(17,2,-1),(17,4,-1),(17,8,1),(17,17,0),(18,1,-1),(18,2,-1),(18,4,1),(18,9,-1),(18,18,0),(19,1,-1),(19,2,-1),(19,4,1),(19,9,1),(19,19,0),(20,1,-1),(20,2,1),(20,5,-1),(20,10,-1),(20,20,0),(21,1,-1),(21,2,1),(21,5,-1),(21,10,1),(21,21,0),(22,1,-1),(22,2,1),(22,5,1),(22,11,-1),(22,22,0),(23,1,-1),(23,2,1),(23,5,1),(23,11,1),(23,23,0),(24,1,1),(24,3,-1),(24,6,-1),(24,12,-1),(24,24,0),(25,1,1),(25,3,-1),(25,6,-1),(25,12,1),(25,25,0),(26,1,1),(26,3,-1),(26,6,1),(26,13,-1),(26,26,0),(27,1,1),(27,3,-1),(27,6,1),(27,13,1),(27,27,0),(28,1,1),(28,3,1),(28,7,-1),(28,14,-1),(28,28,0),(29,1,1),(29,3,1),(29,7,-1),(29,14,1),(29,29,0),(30,1,1),(30,3,1),(30,7,1),(30,15,-1),(30,30,0),(31,1,1),(31,3,1),(31,7,1),(31,15,1),(31,31,0)]
theorem AuR:AuQ.map (fun q=>sideD [.str (AcV q.1),.str (AcV q.2.1)])=AuQ.map (fun q=>some (.int q.2.2)):=by kernel_rfl!
theorem Anl(x:Str)(h:x = "shared"):okT (Aam AaQ.names) AaQ x=true:=by subst h;kernel_rfl!
theorem Alg{a b r:Str}{u v:Int}(h:comD [.list [.str a,.str b]]=some (.str r))(h1:sideD [.str a,.str r]=some (.int u))(h2:sideD [.str b,.str r]=some (.int v)):comparedD [.str a,.str b]=some (.int (u - v)):=by
 suffices hs:ex (Ac6.stm (Aam AaQ.names) AaQ) (ev Ac6 16 AaQ) (Aam AaQ.names) AaQ 24 [("other",.str b),("one",.str a)] AdD=some (.ret (.int (u - v))) by
  unfold comparedD fnD;rw[if_pos (show[("one":Str),"other"].length=[D.str a,D.str b].length from rfl)];show(match ex (Ac6.stm (Aam AaQ.names) AaQ) (ev Ac6 16 AaQ) (Aam AaQ.names) AaQ 24 [("other",.str b),("one",.str a)] AdD with|some (.ret d)=>some d|some (.next _)=>some .none|_=>none)=_;rw[hs]
 refine Ado (d:=.str r) rfl rfl (.inl rfl) ?_ (Anl _ rfl) ?_
 ·exact AaR rfl rfl (AaK rfl rfl rfl rfl rfl rfl) rfl (Aao rfl rfl (ArC rfl (Aao rfl rfl (Aaa rfl rfl rfl) (Aao rfl rfl (Aaa rfl rfl rfl) (Aar rfl))) (by simp)) (Aar rfl)) h
 refine AcU rfl rfl (Abh rfl (AaR rfl rfl (AaK rfl rfl rfl rfl rfl rfl) rfl (Aao rfl rfl (Aaa rfl rfl rfl) (Aao rfl rfl (Aaa rfl rfl rfl) (Aar rfl))) h1) (AaR rfl rfl (AaK rfl rfl rfl rfl rfl rfl) rfl (Aao rfl rfl (Aaa rfl rfl rfl) (Aao rfl rfl (Aaa rfl rfl rfl) (Aar rfl))) h2) rfl)
theorem AbT{α β γ:Type}{f:α→γ}{g:β→γ}{xs:List α}{ys:List β}{i:Nat}{x:α}{y:β}(h:xs.map f=ys.map g)(hx:xs[i]?=some x)(hy:ys[i]?=some y):f x=g y:=by have:=congrArg (fun l=>l[i]?) h;simp only[List.getElem?_map,hx,hy,Option.map_some,Option.some.injEq] at this;exact this
theorem AeX{i:Nat}(h:1≤i∧i≤31):Ae9[i - 1]?=some (AcV i):=by
 have hl:i - 1<Ae9.length:=by show i - 1<31;omega
 unfold AcV;rw[List.getD_eq_getElem?_getD,List.getElem?_eq_getElem hl]
 rfl
theorem Agf{α:Type}{l:List α}{n i:Nat}(hl:l.length=n)(h:1≤i∧i≤n):∃ x,l[i - 1]?=some x:=⟨_,List.getElem?_eq_getElem (by omega)⟩
theorem An4{i:Nat}(h:1≤i∧i≤31){fa:List D}(hf:nmL[i - 1]?=some fa):AxR (AcV i) fa:=by refine Abo (Agf (l:=ACG) rfl h) fun la hla=>?_;have h1:=AbT Asp (AeX h) hla;have h2:=AbT AuP hla hf;have h3:Txt.startswith (AcV i) "/"=true:=List.all_eq_true.mp Aso _ (List.mem_of_getElem? (AeX h));exact⟨⟨la,h1,h2⟩,h3⟩
noncomputable def AuS(n p:Nat):Option Int:=(AuQ.find? fun q=>q.1 == n && q.2.1 == p).map (·.2.2)
theorem Asq{n p:Nat}{v:Int}(h:AuS n p=some v):sideD [.str (AcV n),.str (AcV p)]=some (.int v):=by
 unfold AuS at h
 cases e:AuQ.find? fun q=>q.1 == n && q.2.1 == p with
 |none=>rw[e] at h;exact Aah h
 |some q=>
  rw[e] at h;cases h;have hm:=List.mem_of_find?_eq_some e;have hq:=List.find?_some e;simp only[Bool.and_eq_true,beq_iff_eq] at hq;refine AaG hq fun z1 z2=>?_;subst z1;subst z2;exact List.map_inj_left.mp AuR q hm
noncomputable def cpN(i j:Nat):Nat:=((cpL[i - 1]?).bind (·[j - 1]?)).getD 0
noncomputable def ABI(i j:Nat):Option Int:=match AuS i (cpN i j),AuS j (cpN i j) with
 |some u,some v=>some (u - v)
 |_,_=>none
theorem AxT:cpL.all (fun l=>l.length == 31)=true:=by decide +kernel
theorem Amg{i j:Nat}{v:Int}(hi:1≤i∧i≤31)(hj:1≤j∧j≤31)(h:ABI i j=some v):comparedD [.str (AcV i),.str (AcV j)]=some (.int v):=by
 refine Abo (Agf (l:=nmL) rfl hi) fun fa hfa=>?_;refine Abo (Agf (l:=nmL) rfl hj) fun fb hfb=>?_;refine Abo (Agf (l:=cpL) rfl hi) fun row hrow=>?_;have hlen:row.length=31:=by have:=List.all_eq_true.mp AxT row (List.mem_of_getElem? hrow);simpa using this
 refine Abo (Agf (l:=row) hlen hj) fun p hp=>?_;have h1:=AbT AxS hfa hrow;have h2:=AbT h1 hfb hp;have hcp:cpN i j=p:=by unfold cpN;rw[hrow];simp [hp]
 unfold ABI at h;rw[hcp] at h
 split at h
 ·rename_i u w hu hw
  cases h
  exact Alg (Asn (An4 hi hfa) (An4 hj hfb) h2) (Asq hu) (Asq hw)
 ·exact Aah h
noncomputable def AcW(n:Nat):Nat:=(Ank.getD (n - 1) 0).toNat
noncomputable def Aje(k:Nat):Int×Int:=AsX.getD (k+28) (0,1)
noncomputable def Aeq(n:Nat):Int:=((Aje (AcW n)).1*840).fdiv (Aje (AcW n)).2
noncomputable def Awa(i j:Nat):Bool:=match ABI i j with
 |some v=>decide ((v<0 ↔ Aeq i<Aeq j)∧(v=0 ↔ Aeq i=Aeq j))
 |none=>false
theorem AuT:(List.range 31).all (fun i=>(List.range 31).all fun j=>Awa (i+1) (j+1))=true:=by decide +kernel
theorem Asr{i:Nat}(h:1≤i∧i≤31):i - 1<31:=Nat.lt_of_lt_of_le (Nat.sub_lt h.1 Nat.one_pos) h.2
theorem AxU{i j:Nat}(hi:1≤i∧i≤31)(hj:1≤j∧j≤31):∃ v,ABI i j=some v∧(v<0 ↔ Aeq i<Aeq j)∧(v=0 ↔ Aeq i=Aeq j):=by
 have h1:=List.all_eq_true.mp AuT (i - 1) (List.mem_range.mpr (Asr hi));have h2:=List.all_eq_true.mp h1 (j - 1) (List.mem_range.mpr (Asr hj));rw[Nat.sub_add_cancel hi.1,Nat.sub_add_cancel hj.1] at h2;unfold Awa at h2
 split at h2
 ·rename_i v hv;exact⟨v,hv,of_decide_eq_true h2⟩
 ·injection h2
noncomputable def Awb:Tb:=mkL (Adx [(.ref AcQ,idmD)])
noncomputable def nextD:List D→Option D:=fnD Awb 16 24 ["film","k"] AeV ApC
theorem Ass{B:Bs}{m:Nat}(W:LW B):AbC B (m+15) (.ref AaP) nextD:=by have h:=AbK (n:=m+14) (T:=Awb) W.O (k:=16) (m:=24) (Ae5 W.G) (fun s g I=>Acn W (AaX (al (ArW W) an)) s g I);rw[Ab5] at h;exact h
noncomputable def Agg(p:Int×Int)(t:D):D:=.tup [.tup [.int p.1,.int p.2],t]
structure Aca(fr:List Addr)(s s':Shared):Prop where
 keep:∀ a o,s.heap.get? a=some o→a ∉ fr→s'.heap.get? a=some o
 slot:∀ a o,s.heap.get? a=some o→a∈fr→∃ sl,s'.heap.get? a=some {o with slots:=sl}
 gens:s'.gens=s.gens
 os:s'.os=s.os
noncomputable def Ajf(fr:List Addr)(s₀ s:Shared)(g:Gh):Prop:=∀ a∈fr,s₀.heap.get? a=none∧g a=none∧∃ o es n,s.heap.get? a=some o∧o.data=.dict es n
section
variable{B:Bs}{s₀ s s':Shared}{g₀ g g':Gh}{own:List Str}{env:Env}{ρ:Rho}{fr:List Addr}
theorem Aca.ns(x:Aca fr s s'){a:Addr}{m:Str→Option Value}(h:s.heap.Ns a m):s'.heap.Ns a m:=by
 refine Avu h fun o es ep ho hd r=>?_
 by_cases ha:a∈fr
 ·refine Abo (x.slot a o ho ha) fun sl hs=>?_;exact⟨_,es,ep,hs,hd,r⟩
 ·exact⟨o,es,ep,x.keep a o ho ha,hd,r⟩
theorem Inv.readied(O:B.Ok)(I:Inv B s g)(H:Ajf fr s₀ s g)(x:Aca fr s s'):Inv B s' g:=by
 refine⟨I.base,fun a o e=>x.keep a o (I.real a o e) fun h=>?_,I.nt,O.tb _ _ I.tb fun a o e h=>x.keep a o e fun ha=>?_,x.gens.trans I.gens,x.os.trans I.os⟩
 ·have:=(H a h).2.1;rw[this] at e;exact Aah e
 ·refine Avt ((H a ha).2.2) fun o' es n e1 e2=>?_;rw[e] at e1;cases e1;refine AaG h fun z1 _=>?_;obtain⟨vs,ed⟩:=z1;rw[e2] at ed;injection ed
theorem Aag.readied(O:B.Ok)(y:Aag B s₀ g₀ s g)(H:Ajf fr s₀ s g)(x:Aca fr s s'):Aag B s₀ g₀ s' g:=by
 refine⟨y.le,y.inv.readied O H x,⟨fun a o e hn=>x.keep a o (y.ext.keep a o e hn) fun h=>?_,fun a o e=>?_⟩,y.new⟩
 ·rw[(H a h).1] at e;exact Aah e
 ·refine Abo (y.ext.live a o e) fun o' e'=>?_
  by_cases h:a∈fr
  ·rw[(H a h).1] at e;exact Aah e
  ·exact⟨o',x.keep a o' e' h⟩
theorem Fm.readied(O:B.Ok)(F:Fm B s₀ g₀ own env ρ s g)(H:Ajf fr s₀ s g)(x:Aca fr s s'):Fm B s₀ g₀ own env ρ s' g:=by
 refine Aaf F.vars fun m hm hv=>?_;have cell:∀ {c v},s.heap.IsCell c v→s'.heap.IsCell c v:=fun {c v} ⟨o,e1,e2⟩=>⟨o,x.keep c o e1 fun h=>(by
  refine Avt ((H c h).2.2) fun o' es n e3 e4=>?_;rw[e1] at e3;cases e3;rw[e2] at e4;injection e4),e2⟩
 refine⟨F.st.readied O H x,F.kind,F.glob,F.blt,⟨m,x.ns hm,hv⟩,fun y hy=>?_,F.kinds,F.loc,fun y hy=>?_⟩
 ·refine Adp (F.cells y hy) fun c v e1 e2 e3=>?_;exact⟨c,v,e1,cell e2,e3⟩
 ·refine Adp (F.own y hy) fun c v e1 e2 r=>?_;exact⟨c,v,e1,cell e2,r⟩
theorem Ajf.step(H:Ajf fr s₀ s g)(x:Aag B s g s' g'):Ajf fr s₀ s' g':=fun a ha=>by
 obtain⟨h1,h2,o,es,n,h3,h4⟩:=H a ha
 exact⟨h1,x.shutNone h3 h2,o,es,n,x.ext.keep a o h3 (Acr fun vs e=>by rw[h4] at e;injection e),h4⟩
theorem Ajf.readied{fr':List Addr}(H:Ajf fr s₀ s g)(x:Aca fr' s s'):Ajf fr s₀ s' g:=fun a ha=>by
 obtain⟨h1,h2,o,es,n,h3,h4⟩:=H a ha
 by_cases h:a∈fr'
 ·refine Abo (x.slot a o h3 h) fun sl hs=>?_;exact⟨h1,h2,_,es,n,hs,h4⟩
 ·exact⟨h1,h2,o,es,n,x.keep a o h3 h,h4⟩
theorem Fm.frAt(F:Fm B s₀ g₀ own env ρ s g):Ajf [env.locals] s₀ s g:=fun a ha=>by
 simp only[List.mem_cons,List.not_mem_nil,or_false] at ha;subst ha;refine Aaf F.vars fun m hm _=>?_;refine AgZ hm fun o ho _ _ es n hd=>?_;exact⟨F.loc.1,F.loc.2,o,es,n,ho,hd⟩
theorem Aca.of_stays(h:(hideAll s.heap fr).StaysIn s'.heap)(u:s.heap.UpToSlots s'.heap)(H:Ajf fr s₀ s g)(hg:s'.gens=s.gens)(ho:s'.os=s.os):Aca fr s s':=
 ⟨fun a o e ha=>h a o (hideAll_get _ e ha),(fun a o e ha=>by
  refine Avt ((H a ha).2.2) fun o' es n e3 e4=>?_;rw[e] at e3
  cases e3
  exact u a o e fun vs q=>by rw[e4] at q;injection q),hg,ho⟩
end
section
variable{B:Bs}{A:Around}{s:Shared}{g:Gh}{n:Nat}
theorem Fm.bindsX{s₀:Shared}{g₀:Gh}{own:List Str}{env:Env}(O:B.Ok)(f:Str×Value→PUnit→Sem (ForInStep PUnit))(hf:∀ n v u,f (n,v) u=(do storeName env n v;pure (.yield ⟨⟩))) :
  ∀ (xs:List Str) (vs:List Value) (ds:List D) (ρ:List (Str×D)) (s:Shared) (Q:PUnit→Shared→Prop),Fm B s₀ g₀ own env ρ s g→Aav g vs ds→xs.length=ds.length →
   (∀ x∈xs,env.kindOf x=some .local∨(env.kindOf x=some .cell∧x∈own)) →
   (∀ s',Fm B s₀ g₀ own env ((xs.zip ds).reverse++ρ) s' g→(∀ a o,¬ Loc env own a→s.heap.get? a=some o→s'.heap.get? a=some o)→Q ⟨⟩ s')→wpAny B.M A (forIn (xs.zip vs) ⟨⟩ f) Q (fun _ _=>False) s
 |[],_,_,ρ,s,Q,F,_,_,_,h=>by rw[List.zip_nil_left,List.forIn_nil];exact wpAny_pure (h s (by simpa using F) fun _ _ _ e=>e)
 |x :: xs,_,_,ρ,s,Q,F,.nil,hl,_,_=>by simp at hl
 |x :: xs,_,_,ρ,s,Q,F,.cons (d:=d) hd hr,hl,hk,h=>by
  rw[List.zip_cons_cons,List.forIn_cons,hf];refine wpAny_bind (wpAny_bind (F.store O (hk x (.head _)) hd fun s' F' k1=>wpAny_pure ?_));refine Fm.bindsX O f hf xs _ _ _ s' Q F' hr (by simpa using hl) (fun y hy=>hk y (.tail _ hy)) fun s'' F'' k2=>h s'' ?_ fun a o hn e=>k2 a o hn (k1 a o hn e);simpa using F''
theorem An5(O:B.Ok)(I:Inv B s g){scope:Scope}{qual:Str}{func:Option Addr}{code:Value}{xs:List Str}{vs:List Value}{ds:List D}{Q:Env→Shared→Prop}
  (hk:scope.kind=.function) (hfree:∀ x,scope.names.lookup x≠some .free) (hx:∀ x∈xs,scope.names.lookup x=some .local∨scope.names.lookup x=some .cell) (hl:xs.length=ds.length) (hv:Aav g vs ds)
  (h:∀ env s',env.scope=scope→env.code=code→env.qual=qual→env.frame=some env.locals→Fm B s g (Aam scope.names) env (xs.zip ds).reverse s' g→(∀ a o,s.heap.get? a=some o→s'.heap.get? a=some o)→Q env s') :
  wpAny B.M A (newFunctionEnv scope mainGlobals [] (xs.zip vs) qual func code none builtinsNs) Q (fun _ _=>False) s:=by
 simp only[newFunctionEnv,Option.isSome_none,Bool.false_eq_true,if_false];refine wpAny_bind (wpAny_alloc ?_);refine wpAny_bind (wpAny_layCells _ (fun name kind cells=>by cases hkc:kind == NameKind.cell<;>simp) _ _ _ _ ?_);rw[show({s with heap:=s.heap.push {cls:=.type "frame",data:=.dict #[]}}:Shared).heap.objs.size=s.heap.objs.size+1 from Heap.size_push ..];have kf:∀ x,scope.names.lookup x=some .cell→(x,NameKind.cell)∈scope.names:=fun x e=>PySem.mem_of_lookup e;have F:=Ant (names:=scope.names) (cl:=[]) (ρ:=[]) (cls:=.type "frame") (env:=newEnv scope s.heap.objs.size mainGlobals (cellsFrom (s.heap.objs.size+1) scope.names []) qual func code none builtinsNs) O I rfl rfl hk rfl rfl
  (fun x e=>e.elim (fun e=>.inl (kf x e)) fun e=>absurd e (hfree x)) (fun _ _ e=>by exact Aah e) (fun _ _ e=>by exact Aah e)
 have keep:∀ a o,s.heap.get? a=some o→(pushCells (s.heap.push {cls:=.type "frame",data:=.dict #[]}) scope.names).get? a=some o:=fun a o e=>pushCells_keeps _ _ _ _ (Heap.get?_push_of_some _ e);have nl:∀ a o,s.heap.get? a=some o→¬ Loc (newEnv scope s.heap.objs.size mainGlobals (cellsFrom (s.heap.objs.size+1) scope.names []) qual func code none builtinsNs) (Aam scope.names) a:=fun a o e=>by
  rintro(h|⟨x,hx,h⟩)
  ·have:=F.loc.1;rw[← h,e] at this;injection this
  ·refine Alo (F.own x hx) fun c u e1 _ e3 _=>?_;rw[h] at e1;cases e1;rw[e] at e3;injection e3
 refine wpAny_bind ?_;refine Fm.bindsX O _ (fun _ _ _=>rfl) xs vs ds [] _ _ F hv hl (fun x hxx=>?_) fun s' F' k=>wpAny_pure (h _ s' rfl rfl rfl rfl (by rw[List.append_nil] at F';exact F') fun a o e=>k a o (nl a o e) (keep a o e))
 rcases hx x hxx with e|e
 ·exact .inl e
 ·exact .inr ⟨e,Aey.mpr (kf x e)⟩
theorem Alh(O:B.Ok){a:Addr}{fd:FuncData}{params:List Str}{body:List Stmt}(Dd:AbJ B a fd params body){vs:List Value}{ds:List D}(hA:AOk (n+1) A)(I:Inv B s g)(hd:Aav g vs ds)(hl:params.length=ds.length){Q:Value→Shared→Prop}{E:Value→Shared→Prop}
  (h:∀ env s',env.scope=fd.scope→env.code=fd.code→env.qual=fd.qualname++".<locals>."→env.frame=some env.locals→Fm B s g (Aam fd.scope.names) env (params.zip ds).reverse s' g→(∀ a o,s.heap.get? a=some o→s'.heap.get? a=some o) →
   wpAny B.M (A.deeper env) (execs body env) (fun f s''=>Q (match f with|.ret v=>v|_=>.none) s'') (fun e s''=>wpAny B.M (A.deeper env) (leaving env e) (fun _ s3=>E e s3) E s'') s') :
  wpAny B.M A (call (.ref a) vs) Q E s:=by
 refine Aaf Dd.obj fun o ho hdat=>?_;refine Awh (AcO Dd.scope) fun h1 h2 h3 h4 h5=>?_;have keep:∀ b o,B.G.get? b=some o→s.heap.get? b=some o:=fun b o e=>I.get (I.base b o e);refine wpAny_call (codeAny_call_function hA.dlt (keep _ _ ho) hdat h3 h2 Dd.body (Dd.code.keeps keep) ?_);rw[Dd.bind vs (by rw[hd.length,hl])];refine wpAny_pure ?_;rw[Dd.glob,Dd.clos,Dd.blt];refine wpAny_mono (An5 O I h1 h4 h5 hl hd (Q:=fun env s'=>s'.heap.NoLimit∧codeAny B.M A (.func body env) (fun r s'=>match r with|.ok (.ret v)=>Q v s'|.ok _=>False|.error e=>E e s') s') fun env s' e1 e2 e3 e4 F k=>⟨?_,?_⟩) (fun _ _ h=>h) fun _ _ h=>h.elim
 ·refine Aaf O.lim fun mc hmc hno=>?_;exact⟨mc,F.inv.ns hmc,hno⟩
 ·exact codeAny_func (wpAny_mono (h env s' e1 e2 e3 e4 F k) (fun f s'' h=>h) fun _ _ h=>h)
end
noncomputable def AbY(outer:List Env)(s:Shared):Prop:=∀ env∈outer,env.scope.kind≠.module∧∃ L m,env.frame=some L∧s.heap.Ns L m
section
variable{B:Bs}{A:Around}{s₀ s s':Shared}{g₀ g g':Gh}{own:List Str}{env:Env}{ρ:Rho}{n:Nat}{outer:List Env}
theorem AbY.step(h:AbY outer s)(x:Aag B s g s' g'):AbY outer s':=fun e he=>by
 obtain⟨h1,L,m,h2,h3⟩:=h e he
 exact⟨h1,L,m,h2,Avw h3 x.ext⟩
theorem AbY.readied{fr:List Addr}(h:AbY outer s)(x:Aca fr s s'):AbY outer s':=fun e he=>by
 obtain⟨h1,L,m,h2,h3⟩:=h e he
 exact⟨h1,L,m,h2,x.ns h3⟩
theorem AbY.cons(h:AbY outer s)(F:Fm B s₀ g₀ own env ρ s g)(hf:env.frame=some env.locals):AbY (env :: outer) s:=fun e he=>by
 rcases List.mem_cons.mp he with rfl|he
 ·refine Aaf F.vars fun m hm _=>?_;exact⟨by rw[F.kind];decide,_,m,hf,hm⟩
 ·exact h e he
theorem AbY.fun(h:AbY outer s){fs:List Addr}(hs:∀ e∈outer,∀ L,e.frame=some L→L∈fs):s.heap.FunFrames (hideAll s.heap fs) outer:=by
 induction outer with
 |nil=>trivial
 |cons e r ih=>
  obtain⟨h1,L,m,h2,o,es,ep,h3,h4,_⟩:=h e (.head _)
  refine⟨h1,⟨L,o,h2,hideAll_none _ (hs e (.head _) L h2),h3,fun vs q=>by rw[h4] at q;injection q⟩,ih (fun x hx=>h x (.tail _ hx)) fun x hx=>hs x (.tail _ hx)⟩
theorem Fm.gnameX(O:B.Ok)(F:Fm B s₀ g₀ own env ρ s g){x:Str}{v:Value}{pos:Pos}(hk:env.kindOf x=some .globalImplicit)(hv:B.look x=some v)(hok:AbB x=true){E:Value→Shared→Prop} :
  wpAny B.M A (eval (.Name x pos) env) (fun v' s'=>v'=v∧s'=s) E s:=by
 refine wpAny_Name ?_ (Ako hok);rw[loadName_read F.kind hk];unfold loadGlobal;rw[F.glob,F.blt];refine wpAny_bind (wpAny_nsGet (F.inv.ns O.g) ?_);unfold Bs.look at hv
 cases e:B.mg x with
 |some v'=>
  rw[e] at hv
  cases hv
  exact wpAny_pure ⟨rfl,rfl⟩
 |none=>
  rw[e] at hv;refine wpAny_bind (wpAny_nsGet (F.inv.ns O.b) ?_);have hv:B.mb x=some v:=hv;rw[hv];exact wpAny_pure ⟨rfl,rfl⟩
noncomputable def AA6(B:Bs)(outer:List Env)(X:String)(s:Shared)(g:Gh)(e:Value)(s':Shared):Prop:=
 ∃ s2 g2 fs ea a0,Aag B s g s2 g2∧Ajf fs s s2 g2∧e=.ref ea∧Heap.FlyingW (hideAll s2.heap (fs++outer.filterMap (·.frame))) outer ea (.type X) a0 s'.heap∧s2.heap.UpToSlots s'.heap∧s'.gens=s2.gens∧s'.os=s2.os
theorem Ast:isSubtype (.type "ZeroDivisionError") (.type "ZeroDivisionError")=pure true:=by rw[isSubtype_type];kernel_rfl
noncomputable def ifB:List Stmt→List Stmt
 |.If _ b _ _ :: _=>b
 |_=>[]
noncomputable def ifT:List Stmt→Expr
 |.If t _ _ _ :: _=>t
 |_=>.Constant .none 0 ⟨0,0,0,0⟩
noncomputable def ADN:List Stmt→List Stmt
 |.If _ _ o _ :: _=>o
 |_=>[]
noncomputable def zSt:Stmt:=(Aw4[0]?).getD AbZ
theorem AA7:Aw4=[.If (ifT [zSt]) (ifB [zSt]) (ADN [zSt]) (Abp zSt)]:=by kernel_rfl!
noncomputable def zR:Stmt:=((ifB [zSt])[0]?).getD AbZ
theorem Anm:ifB [zSt]=[.Raise (some (.Name "ZeroDivisionError" (raiseOf zR).pos)) none (Abp zR)]:=by kernel_rfl!
theorem Asu(W:LW B)(hA:AOk (n+1) A)(I:Inv B s g){a:Int}{vs:List Value}(hd:Aav g vs [.int a,.int 0])(hfr:A.frames=some outer)(hl:AbY outer s) :
  wpAny B.M A (call (.ref AcQ) vs) (fun _ _=>False) (AA6 B outer "ZeroDivisionError" s g) s:=by
 refine Alh (n:=n) W.O (AfJ W.G) hA I hd rfl fun env s1 e1 e2 e3 e4 F k=>?_;have hA':AOk n (A.deeper env):=hA.deeper;rw[Act] at e1;rw[Act,show(Aad (nth AmY))=env.scope from e1.symm] at F;rw[show Aae (nth AmY)=Aw4 from rfl,AA7];have hk:env.kindOf ("ZeroDivisionError":Str)=some .globalImplicit:=by unfold Env.kindOf;rw[e1];kernel_rfl!
 have ht:Abc (ev Tl 8 env.scope ([("a":Str),"b"].zip [D.int a,D.int 0]).reverse) (ifT [zSt])=some true:=by rw[e1];exact AaM (d:=.bool true) (Ab8 rfl rfl (Aaa rfl rfl rfl) (Aac rfl rfl) (ArF rfl)) rfl
 refine wpAny_execs_cons (wpAny_If (((AaZ W.O (AuC (m:=n) W s g) hA' 8).2 _ env _ _ _ _ _ ht F).use fun b s2 g2 x2 hb=>?_));subst hb;have F2:=F.step x2;show wpAny _ _ (execs (ifB [zSt]) env) _ _ _;rw[Anm];refine wpAny_execs_cons (Raise_classB hA'.handled excClass_ZeroDivisionError Ast (F2.gnameX W.O hk (Abm W _ _ rfl) rfl) fun h' e hx=>?_)
 -- leaving
 have lf:AbY (env :: outer) s2:=(hl.step F2.st).cons F2 e4;have hs:∀ x∈env :: outer,∀ L,x.frame=some L→L∈[env.locals]++outer.filterMap (·.frame):=fun x hx L hL=>by
  rcases List.mem_cons.mp hx with rfl|hx
  ·rw[e4] at hL;cases hL;exact .head _
  ·exact List.mem_append_right _ (List.mem_filterMap.mpr ⟨x,hx,hL⟩)
 refine Adp hx.there fun ob tp he hcls hdat=>?_;have hen:(hideAll s2.heap ([env.locals]++outer.filterMap (·.frame))).get? e=none:=by
  cases q:(hideAll s2.heap ([env.locals]++outer.filterMap (·.frame))).get? e with
  |none=>rfl
  |some o=>have:=of_hideAll _ q;rw[hx.new] at this;exact Aah this
 refine wpAny_leaving_firstW (a0:=tp) (base:=hideAll s2.heap ([env.locals]++outer.filterMap (·.frame))) (Around.frames_deeper hfr) ((lf.fun hs).of_keeps fun b o hb _=>⟨o,hx.keeps b o hb,rfl⟩) e4 he (fun b o hb=>hx.keeps b o (of_hideAll _ hb)) hen hdat rfl rfl fun h3 hL=>?_;refine Aoa hL fun k1 z1 k3 k4=>?_;obtain⟨_,_,k2⟩:=z1;exact⟨s2,g2,[env.locals],e,tp,F2.st,F2.frAt,rfl,⟨k1,hen,k2,by rw[← hcls];exact k3⟩,(Heap.UpToSlots.of_keeps hx.keeps).trans k4,rfl,rfl⟩
end
noncomputable def nS(i:Nat):Stmt:=(AeV[i]?).getD AbZ
noncomputable def Agh(e:Expr):Prop:=∃ p1 p2 p3 p4 p5 p6 p7 p8 q1 q2 k1 k2 k3,e=.BinOp (.Name "film" p1) .Add (.List [.Tuple [.Tuple [.Constant (.int 0) q1 p7,.Constant (.int 1) q2 p8] k1 p2,.Tuple [] k2 p3] k3 p4] p5) p6
theorem Agh.use{e:Expr}{P:Prop}(h:Agh e)(k:∀ p1 p2 p3 p4 p5 p6 p7 p8 q1 q2 k1 k2 k3,e=.BinOp (.Name "film" p1) .Add (.List [.Tuple [.Tuple [.Constant (.int 0) q1 p7,.Constant (.int 1) q2 p8] k1 p2,.Tuple [] k2 p3] k3 p4] p5) p6→P):P:=by
 obtain⟨p1,p2,p3,p4,p5,p6,p7,p8,q1,q2,k1,k2,k3,h⟩:=h
 exact k _ _ _ _ _ _ _ _ _ _ _ _ _ h
section
variable{B:Bs}{A:Around}{s₀ s s':Shared}{g₀ g g':Gh}{own:List Str}{env:Env}{ρ:Rho}{n:Nat}{outer:List Env}
theorem Ali(O:B.Ok){es:List Expr}{k:Nat}{p:Pos}{ds:List D}(hn:∀ e∈es,AbL e=true)(hz:ds.length≤1000000)(h:Aaq B A s g (spliced (es.map fun e=>(false,eval e env))) fun g' vs=>Aav g' vs ds) :
  Aaq B A s g (eval (.Tuple es k p) env) fun g' v=>Den g' v (.tup ds):=by
 refine Tuple_ ?_;rw[Aaw hn];refine h.use fun vs s1 g1 x1 hd=>?_;refine wpAny_newTuple ?_ (by rw[hd.length];exact AaL hz);refine Aaf (AcB O x1.inv (vs:=vs.toArray) (by simpa using hd)) fun g2 x2 d2=>?_;exact⟨g2,x1.trans x2,d2⟩
theorem Asv(O:B.Ok){es:List Expr}{p:Pos}{ds:List D}(hn:∀ e∈es,AbL e=true)(hz:ds.length≤1000000)(h:Aaq B A s g (spliced (es.map fun e=>(false,eval e env))) fun g' vs=>Aav g' vs ds) :
  Aaq B A s g (eval (.List es p) env) fun g' v=>Den g' v (.list ds):=by
 refine List_ ?_;rw[Aaw hn];refine h.use fun vs s1 g1 x1 hd=>?_;refine wpAny_newList ?_ (by rw[hd.length];exact AaL hz);refine Aaf (Acs O x1.inv (vs:=vs.toArray) (by simpa using hd)) fun g2 x2 d2=>?_;exact⟨g2,x1.trans x2,d2⟩
theorem Amh(O:B.Ok){e:Expr}(he:Agh e){film:List D}(hz:film.length+1≤1000000)(F:Fm B s₀ g₀ own env ρ s g)(hf:ρ.lookup ("film":Str)=some (.list film)) :
  Aaq B A s g (eval e env) fun g' v=>Den g' v (.list (film++[Agg (0,1) (.tup [])])):=by
 refine he.use fun p1 p2 p3 p4 p5 p6 p7 p8 q1 q2 k1 k2 k3 hee=>?_;subst hee;refine wpAny_BinOp ((F.name hf rfl).use fun va s1 g1 x1 ha=>?_);have F1:=F.step x1;have hl:Aaq B A s1 g1 (eval (.List [.Tuple [.Tuple [.Constant (.int 0) q1 p7,.Constant (.int 1) q2 p8] k1 p2,.Tuple [] k2 p3] k3 p4] p5) env) fun g' v=>Den g' v (.list [Agg (0,1) (.tup [])]):=by
  refine Asv O (by intro e he;simp at he;subst he;rfl) (by simp) ?_;refine Calls.spliced_cons (Aaq.use (g:=g1) (P:=fun g' v=>Den g' v (Agg (0,1) (.tup []))) ?_ fun v s2 g2 x2 hv=>wpAny_pure ⟨g2,x2,.cons hv .nil⟩);refine Ali O (by intro e he;simp at he;rcases he with rfl|rfl<;>rfl) (by simp) ?_;refine Calls.spliced_cons (Aaq.use (g:=g1) (P:=fun g' v=>Den g' v (.tup [.int 0,.int 1])) ?_ fun v s2 g2 x2 hv=>?_)
  ·refine Ali O (by intro e he;simp at he;rcases he with rfl|rfl<;>rfl) (by simp) ?_;refine Calls.spliced_cons ((Afb F1.inv (d:=.int 0) rfl).use fun v s2 g2 x2 hv=>?_);refine Calls.spliced_cons ((Afb x2.inv (d:=.int 1) rfl).use fun v' s3 g3 x3 hv'=>?_);exact wpAny_pure ⟨g3,x2.trans x3,.cons (hv.mono x3.le) (.cons hv' .nil)⟩
  ·refine Calls.spliced_cons (Aaq.use (g:=g2) (P:=fun g' v=>Den g' v (.tup [])) ?_ fun v' s3 g3 x3 hv'=>wpAny_pure ⟨g3,x2.trans x3,.cons (hv.mono x3.le) (.cons hv' .nil)⟩);exact Ali O (by intro e he;cases he) (by simp) (wpAny_pure ⟨g2,Aag.refl x2.inv,.nil⟩)
 refine hl.use fun vb s2 g2 x2 hb=>?_;exact(Alq O x2.inv (ha.mono x2.le) hb (show Amr .Add (.list film) (.list [Agg (0,1) (.tup [])])=some (.list (film++[Agg (0,1) (.tup [])])) from if_pos (by simpa using hz))).from (x1.trans x2)
end
theorem Asw:AeV=[nS 0]++[nS 1,nS 2]:=by kernel_rfl!
theorem AuU{P:Prop}(k:∀ p1 p2 p3 p4 p5 p6 p7 p8 p9 e p,Agh e→nS 1=.Try [.Assign [.Name "told" p1] (.Call (.Name "int_divmod" p2) [.Name "upper" p3,.Name "lower" p4] [] p5) p6] [.ExceptHandler (some (.Name "ZeroDivisionError" p7)) none [.Return (some e) p] p8] [] [] p9→P):P:=
 k _ _ _ _ _ _ _ _ _ _ _ ⟨_,_,_,_,_,_,_,_,_,_,_,_,_,rfl⟩ rfl
theorem AxV:isSubtype (.type "ZeroDivisionError") (.type "BaseException")=pure true:=by rw[isSubtype_type];kernel_rfl
theorem AxW:isSubtype (.type ((Manifest.find? "ZeroDivisionError").elim "type" fun x=>x.metatype)) (.type "tuple")=pure false:=by rw[isSubtype_type];kernel_rfl
section
variable{B:Bs}{A:Around}{s₀ s s':Shared}{g₀ g g':Gh}{n:Nat}{outer:List Env}
theorem Ap5(W:LW B)(hA:AOk (n+2) A)(I:Inv B s g){vs:List Value}{film:List D}{u k:Int}{t:D}(hd:Aav g vs [.list film,.int k])(hf:AdA (.list film) (.int (-1))=some (Agg (u,0) t))(hz:film.length+1≤1000000)
  (hfr:A.frames=some outer) (hl:AbY outer s) (ho:Ajf (outer.filterMap (·.frame)) s₀ s g) (x0:Aag B s₀ g₀ s g) :
  wpAny B.M A (call (.ref AaP) vs) (fun v s'=>∃ sa ga sb g' fs,Aag B s g sa ga∧Ajf (fs++outer.filterMap (·.frame)) s₀ sa ga∧Aca (fs++outer.filterMap (·.frame)) sa sb∧Aag B sb ga s' g'∧Den g' v (.list (film++[Agg (0,1) (.tup [])]))) (fun _ _=>False) s:=by
 refine Alh (n:=n+1) W.O (Ae5 W.G) hA I hd rfl fun env s1 e1 e2 e3 e4 F _=>Ahj fun QQ EE hPost=>?_;have hA':AOk (n+1) (A.deeper env):=hA.deeper;rw[Ab5] at e1;rw[Ab5,show(Aad (nth Acf))=env.scope from e1.symm] at F;rw[show Aae (nth Acf)=AeV from rfl,Asw];have hk1:env.kindOf ("int_divmod":Str)=some .globalImplicit:=by unfold Env.kindOf;rw[e1];kernel_rfl!
 have hk2:env.kindOf ("ZeroDivisionError":Str)=some .globalImplicit:=by unfold Env.kindOf;rw[e1];kernel_rfl!
 have hx:ex (Tl.stm (Aam env.scope.names) env.scope) (ev Tl 8 env.scope) (Aam env.scope.names) env.scope 8 ([("film":Str),"k"].zip [D.list film,D.int k]).reverse [nS 0]=some (.next [("lower",.int 0),("upper",.int u),("k",.int k),("film",.list film)]):=by rw[e1];refine At9 rfl rfl ⟨rfl,rfl⟩ (ds:=[.int u,.int 0]) ?_ (by kernel_rfl!) (Ach rfl);exact AaH rfl rfl (AaH rfl rfl (Aaa rfl rfl rfl) (Arz rfl (Aac rfl rfl) rfl) hf) (Aac rfl rfl) rfl
 refine AcJ ((Acj W.O (AuC (m:=n+1) W s g) hA' 8 _ _ _ _ _ hx F).use fun f s2 g2 l2 en=>?_);refine AaG en fun z1 F2=>?_;subst z1;dsimp only;refine AuU fun p1 p2 p3 p4 p5 p6 p7 p8 p9 e p he htry=>?_;rw[htry];refine wpAny_execs_cons (wpAny_Try_except (wpAny_execs_cons (Aef rfl (wpAny_Call_NameR ((F2.gname W.O hk1 (Abm W "int_divmod" _ rfl) rfl).use fun fv s3 g3 x3 h3=>?_)))));subst h3;have F3:=F2.step x3;rw[Aaw (by intro e he;simp at he;rcases he with rfl|rfl<;>rfl)];refine Aby (g:=g3) (first:=[]) (P:=fun g' vs=>Aav g' vs [.int u,.int 0]) (((ArW (m:=n) W).at F3.inv).kp) (by simp) (Calls.spliced_cons ((F3.name (x:="upper") (d:=.int u) rfl rfl).use fun v4 s4 g4 x4 hv4=>Calls.spliced_cons ((((F3.step x4)).name (x:="lower") (d:=.int 0) rfl rfl).use fun v5 s5 g5 x5 hv5=>wpAny_pure ⟨g5,x4.trans x5,.cons (hv4.mono x5.le) (.cons hv5 .nil)⟩))) fun us s4 g4 x4 hus=>?_;have F4:=F3.step x4;have lf4:AbY (env :: outer) s4:=(hl.step F4.st).cons F4 e4;refine wpAny_mono (Asu (n:=n) (outer:=env :: outer) W hA' F4.inv hus (Around.frames_deeper hfr) lf4) (fun _ _ h=>h.elim) fun ev s5 hR=>?_;refine ADw hR fun s6 g6 fs ea a0 x6 hfs z2 hfly hup hg6 ho6=>?_;subst z2;have F6:=F4.step x6;have all:Ajf (fs++(env :: outer).filterMap (·.frame)) s₀ s6 g6:=fun a ha=>by
  rcases List.mem_append.mp ha with ha|ha
  ·refine AjX (hfs a ha) fun q1 q2 q3=>?_;have:s.heap.get? a=none:=F4.st.ext.dead q1;exact⟨x0.ext.dead this,q2,q3⟩
  ·refine Aaf (List.mem_filterMap.mp ha) fun x hx' hxf=>?_
   rcases List.mem_cons.mp hx' with hx'|hx'
   ·rw[hx',e4] at hxf;cases hxf;refine AjX (F6.frAt env.locals (.head _)) fun q1 q2 q3=>?_;exact⟨x0.ext.dead q1,q2,q3⟩
   ·exact(ho.step F6.st) a (List.mem_filterMap.mpr ⟨x,hx',hxf⟩)
 have mk:∀ h,(hideAll s6.heap (fs++(env :: outer).filterMap (·.frame))).StaysIn h→s6.heap.UpToSlots h→Aca (fs++(env :: outer).filterMap (·.frame)) s6 {s5 with heap:=h}:=fun h h1 h2=>Aca.of_stays (s':={s5 with heap:=h}) h1 h2 all hg6 ho6;refine wpAny_looks_onW (Around.frames_deeper hfr) e4 hfly fun h7 hheld hup7=>?_;refine wpAny_landsW (s:={s5 with heap:=h7}) hheld fun h8 hfly8 hup8=>?_;have u8:s6.heap.UpToSlots h8:=(hup.trans hup7).trans hup8;have r8:=mk h8 hfly8.1 u8;have F6':=F6.rebase x0;have F8:=F6'.readied W.O all r8;refine wpAny_handleBy_builtin (T:="ZeroDivisionError") (X:="ZeroDivisionError") (b:=true) AxV AxW Ast (wpAny_mono (F8.gnameX W.O hk2 (Abm W "ZeroDivisionError" _ rfl) rfl) (fun c s9 hc=>?_) fun _ _ e=>e);refine AaG hc fun z3 z4=>?_;subst z3;subst z4;refine⟨rfl,hfly8.there,?_⟩;rw[if_pos rfl];refine wpAny_setFlight_noneW (s:={s5 with heap:=h8}) hfly8.1 hfly8.2.2.1 hfly8.2.2.2 fun h9 b1 b2 b3 b4=>?_;have u9:s6.heap.UpToSlots h9:=u8.trans fun b o e hn=>⟨o.slots,b4 b o e hn⟩;have r9:=mk h9 b1 u9;have F9:=F6'.readied W.O all r9;refine wpAny_execs_cons (wpAny_Return_some ((Amh W.O he hz F9 rfl).use fun v s10 g10 x10 hv=>?_));refine hPost _ _ ⟨s6,g6,_,g10,fs++[env.locals],F6.st,?_,?_,x10,hv⟩
 ·have e:(env :: outer).filterMap (·.frame)=env.locals :: outer.filterMap (·.frame):=by rw[List.filterMap_cons,e4]
  rw[e] at all;simpa using all
 ·have e:(env :: outer).filterMap (·.frame)=env.locals :: outer.filterMap (·.frame):=by rw[List.filterMap_cons,e4]
  rw[e] at r9;simpa using r9
end
structure Mv(B:Bs)(s₀:Shared)(g₀:Gh)(s:Shared)(g:Gh)(s':Shared)(g':Gh):Prop where
 le:g.le g'
 st:Aag B s₀ g₀ s g→Aag B s₀ g₀ s' g'
 fm:∀ own env ρ,Fm B s₀ g₀ own env ρ s g→Fm B s₀ g₀ own env ρ s' g'
 fr:∀ fr,Ajf fr s₀ s g→Ajf fr s₀ s' g'
 live:∀ outer,AbY outer s→AbY outer s'
 stand:∀ a o,s.heap.get? a=some o→Abv o→(∀ es n,o.data≠.dict es n)→s'.heap.get? a=some o∧(g a=none→g' a=none)
section
variable{B:Bs}{s₀ s s' s'':Shared}{g₀ g g' g'':Gh}{fr:List Addr}
theorem Mv.trans(x:Mv B s₀ g₀ s g s' g')(y:Mv B s₀ g₀ s' g' s'' g''):Mv B s₀ g₀ s g s'' g'':=
 ⟨x.le.trans y.le,fun h=>y.st (x.st h),fun o e r h=>y.fm o e r (x.fm o e r h),fun f h=>y.fr f (x.fr f h),fun o h=>y.live o (x.live o h),fun a o e n d=>by
  refine AaG (x.stand a o e n d) fun e1 h1=>?_;refine AaG (y.stand a o e1 n d) fun e2 h2=>?_;exact⟨e2,fun h=>h2 (h1 h)⟩⟩
theorem Aag.mv(x:Aag B s g s' g'):Mv B s₀ g₀ s g s' g':=
 ⟨x.le,fun h=>h.trans x,fun _ _ _ h=>h.step x,fun _ h=>h.step x,fun _ h=>h.step x,fun a o e n _=>⟨x.ext.keep a o e n,x.shutNone e⟩⟩
theorem Aca.mv(O:B.Ok)(x:Aca fr s s')(H:Ajf fr s₀ s g):Mv B s₀ g₀ s g s' g:=
 ⟨g.le_refl,fun h=>h.readied O H x,fun _ _ _ h=>h.readied O H x,fun _ h=>h.readied x,fun _ h=>h.readied x,fun a o e _ d=>⟨x.keep a o e fun ha=>(by
  refine Avt ((H a ha).2.2) fun o' es n e1 e2=>?_;rw[e] at e1;cases e1;exact d _ _ e2),id⟩⟩
theorem AxX(W:LW B){A:Around}{n:Nat}{outer:List Env}(hA:AOk (n+2) A)(I:Inv B s g){vs:List Value}{film:List D}{u k:Int}{t:D}(hd:Aav g vs [.list film,.int k])(hf:AdA (.list film) (.int (-1))=some (Agg (u,0) t))(hz:film.length+1≤1000000)
  (hfr:A.frames=some outer) (hl:AbY outer s) (ho:Ajf (outer.filterMap (·.frame)) s₀ s g) (x0:Aag B s₀ g₀ s g) :
  wpAny B.M A (call (.ref AaP) vs) (fun v s'=>∃ g',Mv B s₀ g₀ s g s' g'∧Inv B s' g'∧Den g' v (.list (film++[Agg (0,1) (.tup [])]))) (fun _ _=>False) s:=
 wpAny_mono (Ap5 W hA I hd hf hz hfr hl ho x0) (fun v s' h=>by
  refine ADv h fun sa ga sb g' fs h1 h2 h3 h4 h5=>?_;exact⟨g',((Aag.mv h1).trans (Aca.mv W.O h3 h2)).trans (Aag.mv h4),h4.inv,h5⟩) fun _ _ h=>h
end
section
variable{B:Bs}{s₀ s s1 s2:Shared}{g₀ g g1:Gh}{b:Addr}
theorem Mv.turn(O:B.Ok)(x0:Aag B s₀ g₀ s g)(x:Mv B s₀ g₀ s g s1 g1){ob:Obj}(hb:s.heap.get? b=none)(gb:g1 b=none)(hob:s1.heap.get? b=some ob)(nt:¬ AcL ob)(nc:∀ v,ob.data≠.cell v)
  (k:∀ a o,a≠b→s1.heap.get? a=some o→s2.heap.get? a=some o) (hg:s2.gens=s1.gens) (ho:s2.os=s1.os):Mv B s₀ g₀ s g s2 g1:=by
 have hb0:s₀.heap.get? b=none:=x0.ext.dead hb;refine⟨x.le,fun h=>(x.st h).turnE O hb0 gb hob nt k hg ho,fun own env ρ F=>?_,fun fr H=>?_,fun outer H=>?_,fun a o e hn hdd=>?_⟩
 ·refine Aaf F.vars fun m hm _=>?_;refine Aaf (Afy hm) fun oL hL _=>?_;exact(x.fm own env ρ F).turnE O hb0 gb hob nt nc (fun e=>by rw[← e,hb] at hL;exact Aah hL) k hg ho
 ·intro a ha
  obtain⟨_,_,o',es',n',e1,_⟩:=H a ha
  obtain⟨h1,h2,o,es2,n2,h3,h4⟩:=x.fr fr H a ha
  exact⟨h1,h2,o,es2,n2,k a o (by intro q1;subst q1;rw[hb] at e1;exact Aah e1) h3,h4⟩
 ·intro e he
  obtain⟨_,L0,m0,f1,o0,es0,ep0,f2,_⟩:=H e he
  obtain⟨h1,L,m,h2,o,es1,ep1,h3,r⟩:=x.live outer H e he
  rw[f1] at h2;cases h2;exact⟨h1,_,m,f1,o,es1,ep1,k _ o (by intro q2;subst q2;rw[hb] at f2;exact Aah f2) h3,r⟩
 ·refine AaG (x.stand a o e hn hdd) fun h1 h2=>?_;exact⟨k a o (by intro q3;subst q3;rw[hb] at e;exact Aah e) h1,h2⟩
theorem Mv.store(O:B.Ok)(x0:Aag B s₀ g₀ s g)(x:Mv B s₀ g₀ s g s1 g1){own:List Str}{env:Env}{ρ ρ':Rho}(hown:own=[])(hL:s.heap.get? env.locals=none)(F:Fm B s₀ g₀ own env ρ s1 g1)(F':Fm B s₀ g₀ own env ρ' s2 g1)(k:Oth env own s1.heap s2.heap):Mv B s₀ g₀ s g s2 g1:=by
 refine Aaf F.vars fun m hm _=>?_;refine AgZ hm fun oL hoL _ nt es n hd=>?_;refine x.turn O x0 hL F.loc.2 hoL nt (fun v e=>by rw[hd] at e;injection e) (fun a o ha e=>k a o ?_ e) (F'.inv.gens.trans F.inv.gens.symm) (F'.inv.os.trans F.inv.os.symm)
 rintro(h|⟨y,hy,_⟩)
 ·exact ha h
 ·subst hown;cases hy
structure RdI(B:Bs)(s₀:Shared)(g₀:Gh)(env:Env)(own:List Str)(s:Shared)(g:Gh)(It a:Addr)(F:List D→Option D)(r:D)(items:List D)(ρ:Rho)(d:D)(s1:Shared)(g1:Gh):Prop where
 FR:Fm B s₀ g₀ own env ρ s1 g1
 M:Mv B s₀ g₀ s g s1 g1
 it:AaN s1.heap g1 It items
 gI:g1 It=none
 l1:ρ.lookup ("function":Str)=some (.val (.ref a))
 l2:ρ.lookup ("value":Str)=some d
 hr:AjP F d items=some r
theorem Asx(O:B.Ok){A:Around}{own:List Str}{env:Env}{It a:Addr}{F:List D→Option D}{body:List Stmt}{p1:Pos}{r:D}(hh:A.handled=none)(hown:own=[])(hb:AeO body)(hv:okT own env.scope "value"=true)(he:okT own env.scope "element"=true)
  (x0:Aag B s₀ g₀ s g) (hL:s.heap.get? env.locals=none) (hI:s.heap.get? It=none)
  (C:∀ s1 g1 vs d x r,F [d,x]=some r→Fm B s₀ g₀ own env [] s1 g1→Mv B s₀ g₀ s g s1 g1→Aav g1 vs [d,x]→wpAny B.M A (call (.ref a) vs) (fun v s'=>∃ g',Mv B s₀ g₀ s1 g1 s' g'∧Den g' v r) (fun _ _=>False) s1)
  (ka:∀ s1 g1,Fm B s₀ g₀ own env [] s1 g1→Kp g1 (.ref a)) {items:List D} {d:D} {ρ:Rho}
  (FR:Fm B s₀ g₀ own env ρ s1 g1) (M:Mv B s₀ g₀ s g s1 g1) (it:AaN s1.heap g1 It items) (gI:g1 It=none) (l1:ρ.lookup ("function":Str)=some (.val (.ref a))) (l2:ρ.lookup ("value":Str)=some d) (hr:AjP F d items=some r) :
  codeAny B.M A (.forLoop (.Name "element" p1) (.ref It) body [] env) (fun res s'=>res=.ok .next∧∃ g' ρ',Fm B s₀ g₀ own env ρ' s' g'∧Mv B s₀ g₀ s g s' g'∧ρ'.lookup ("value":Str)=some r) s1:=by
 refine ABS hb fun q2 q3 q4 q5 q6 q7 z1=>?_;subst z1;refine Aqp fun R hR=>AnD (fun items s1=>∃ ρ d g1,RdI B s₀ g₀ env own s g It a F r items ρ d s1 g1) ?_ ⟨ρ,d,g1,FR,M,it,gI,l1,l2,hr⟩;clear FR M it gI l1 l2 hr;intro items s1 hJ Q E q0 q1;refine AC1 hJ fun ρ d g1 V=>?_;refine Amv V.it.noTabby fun oi ho ht hnt hc hd _=>?_;have nl:It≠env.locals:=fun e=>V.FR.notLoc ho hc hd (.inl e);induction items using List.casesOn with
 |nil=>
  have hr:some d=some r:=V.hr;exact AhL V.FR.inv hh V.it fun h' k=>q0 rfl _ (hR _ _ ⟨rfl,g1,ρ,V.FR.turnE O (x0.ext.dead hI) V.gI ho ht hc nl k rfl rfl,V.M.turn O x0 hI V.gI ho ht hc k rfl rfl,V.l2.trans hr⟩)
 |cons x xs=>
  refine Aaf (Aak V.hr) fun r' er hr=>?_;refine AeA V.FR.inv V.it fun v h' tk hv' it' k=>q1 x xs rfl v _ fun X KF E kn _ _ hX=>?_;have FR2:Fm B s₀ g₀ own env ρ {s1 with heap:=h',toks:=tk} g1:=V.FR.turnE O (x0.ext.dead hI) V.gI ho ht hc nl k.extBut rfl rfl;have M2:Mv B s₀ g₀ s g {s1 with heap:=h',toks:=tk} g1:=V.M.turn O x0 hI V.gI ho ht hc k.extBut rfl rfl;have hs:∀ e∈[Expr.Name "value" q4,Expr.Name "element" q5],AbL e=true:=by intro e he;simp only[List.mem_cons,List.not_mem_nil,or_false] at he;rcases he with rfl|rfl<;>rfl
  refine Akt it' (Acc (ρ':=("element",x) :: ρ) O hh FR2 hv' (Aj3 he) fun s2 F2 k2=>hX s2 ?_);have k1:(("element",x) :: ρ:Rho).lookup ("function":Str)=some (.val (.ref a)):=by rw[Aab,if_neg (by decide)];exact V.l1
  have k3:(("element",x) :: ρ:Rho).lookup ("value":Str)=some d:=by rw[Aab,if_neg (by decide)];exact V.l2
  refine wpAny_execs_cons (Aef rfl (wpAny_Call_NameR ((F2.name k1 (by decide)).useV fun s3 g3 x3=>?_)));have F3:=F2.step x3;rw[Aaw hs];refine Aby (g:=g3) (first:=[]) (P:=fun g' vs=>Aav g' vs [d,x]) (ka s3 g3 (F3.weaken fun z dz hz=>Aah hz)) (by simp) (Calls.spliced_cons ((F3.name k3 (by decide)).use fun v4 s4 g4 x4 hv4=>Calls.spliced_cons ((((F3.step x4)).name (x:="element") (by rw[Aab,if_pos rfl]) (by decide)).use fun v5 s5 g5 x5 hv5=>wpAny_pure ⟨g5,x4.trans x5,.cons (hv4.mono x5.le) (.cons hv5 .nil)⟩))) fun us s4 g4 x4 hus=>?_;have st:=(Aag.mv (s₀:=s₀) (g₀:=g₀) x3).trans (Aag.mv x4);have M4:=(M2.store O x0 hown hL FR2 F2 k2).trans st;have F4:=F3.step x4;refine wpAny_mono (C s4 g4 us d x r' er (F4.weaken fun z dz hz=>Aah hz) M4 hus) (fun v5 s5 h5=>?_) fun _ _ e=>e.elim
  obtain⟨g5,M5,hv5⟩:=h5
  have F5:=M5.fm _ _ _ F4;have it2:=it'.oth FR2 k2;refine Amv it2.noTabby fun oq hoq _ hnq hcq hdq _=>?_;have sI:=(st.trans M5).stand It oq hoq hnq hdq;have it5:AaN s5.heap g5 It xs:=it2.keep (st.trans M5).le fun o e _=>by rw[hoq] at e;cases e;exact sI.1
  refine F5.store O (Abl hv) hv5 fun s6 F6 k6=>wpAny_execs_nil (kn _ ⟨("value",r') :: ("element",x) :: ρ,r',g5,F6,(M4.trans M5).store O x0 hown hL F5 F6 k6,it5.oth F5 k6,sI.2 V.gI,?_,by rw[Aab,if_pos rfl],hr⟩).1;rw[Aab,if_neg (by decide)];exact k1
end
end Mine
namespace Mine
open PySem PySem.W PyProof.Rows PySem.W.X PySem.Calls
section
variable{B:Bs}{A:Around}{s:Shared}{g:Gh}{n:Nat}
theorem AxY(O:B.Ok){a:Addr}{fd:FuncData}{params:List Str}{body:List Stmt}(Dd:AvE B a fd body)(hs:AaI fd.scope params=true){vs:List Value}(hA:AOk (n+1) A)(I:Inv B s g)
  {Q E:Value→Shared→Prop}
  (hb:wpAny B.M A.in1 (bindArgs fd ⟨vs,[]⟩) (fun binds s1=>∃ g1 vs' ds,Aag B s g s1 g1∧binds=params.zip vs'∧Aav g1 vs' ds∧params.length=ds.length ∧
   ∀ env s',env.scope=fd.scope→env.code=fd.code→env.qual=fd.qualname++".<locals>."→env.frame=some env.locals→Fm B s1 g1 (Aam fd.scope.names) env (params.zip ds).reverse s' g1 →
   wpAny B.M (A.deeper env) (execs body env) (fun f s''=>Q (match f with|.ret v=>v|_=>.none) s'') (fun _ _=>False) s') (fun _ _=>False) s) :
  wpAny B.M A (call (.ref a) vs) Q E s:=by
 refine Aaf Dd.obj fun o ho hdat=>?_;refine Awh (AcO hs) fun h1 h2 h3 h4 h5=>?_;have keep:∀ b o,B.G.get? b=some o→s.heap.get? b=some o:=fun b o e=>I.get (I.base b o e);refine wpAny_call (codeAny_call_function hA.dlt (keep _ _ ho) hdat h3 h2 Dd.body (Dd.code.keeps keep) ?_);refine wpAny_mono hb (fun binds s1 hb=>?_) fun _ _ (e:False)=>e.elim;refine AC2 hb fun g1 vs' ds x1 z1 hd hl h=>?_;subst z1;rw[Dd.glob,Dd.clos,Dd.blt];refine wpAny_mono (An5 O x1.inv h1 h4 h5 hl hd (Q:=fun env s'=>s'.heap.NoLimit∧codeAny B.M A (.func body env) (fun r s'=>match r with|.ok (.ret v)=>Q v s'|.ok _=>False|.error e=>E e s') s') fun env s' e1 e2 e3 e4 F _=>⟨?_,?_⟩) (fun _ _ h=>h) fun _ _ h=>h.elim
 ·refine Aaf O.lim fun mc hmc hno=>?_;exact⟨mc,F.inv.ns hmc,hno⟩
 ·exact codeAny_func (wpAny_mono (h env s' e1 e2 e3 e4 F) (fun f s'' h=>h) fun _ _ h=>h.elim)
theorem Asy(O:B.Ok){s₀:Shared}{g₀:Gh}{ad am:Addr}{fd:FuncData}{body:List Stmt}(R:At8 B ad fd body am)(hown:Aam fd.scope.names=[]){a:Addr}{F:List D→Option D}{vf vs vi:Value}{sq init r:D}{items:List D}(hk:Kp B.G.get? (.ref a))(hA:AOk (n+1) A)(I:Inv B s g)(x0:Aag B s₀ g₀ s g)
  (hf:vf=.ref a) (h2:Den g vs sq) (h3:Den g vi init) (hp:AlV init=true) (hi:Acq sq=some items) (hr:AjP F init items=some r)
  (C:∀ (env:Env) s1 g1 us d x r,env.frame=some env.locals→F [d,x]=some r→Fm B s₀ g₀ (Aam env.scope.names) env [] s1 g1→Mv B s₀ g₀ s g s1 g1→Aav g1 us [d,x]→wpAny B.M (A.deeper env) (call (.ref a) us) (fun v s'=>∃ g',Mv B s₀ g₀ s1 g1 s' g'∧Den g' v r) (fun _ _=>False) s1) :
  wpAny B.M A (call (.ref ad) [vf,vs,vi]) (fun v s'=>∃ g',Mv B s₀ g₀ s g s' g'∧Den g' v r) (fun _ _=>False) s:=by
 subst hf;refine AxY O R.d0 R.sc hA I (R.bind _ s g _ _ _ _ _ I ?_);refine⟨g,[.ref a,vs,vi],[.val (.ref a),sq,init],Aag.refl I,rfl,.cons .val (.cons h2 (.cons h3 .nil)),rfl,fun env s' e1 e2 e3 e4 F0=>?_⟩;refine R.is.use fun p1 p2 p3 p4 p5 p6 p7 p8 tr p9 p10 p11 p12 p13 p14 bd p15 p16 p17 hbd hbody=>?_;subst hbody;have hA':AOk n (A.deeper env):=hA.deeper;have hh:=hA'.handled;refine AjX R.lit fun t1 t2 t3=>?_;rw[← e1] at t1 t2 t3 F0;have hk1:env.kindOf ("iter":Str)=some .globalImplicit:=by unfold Env.kindOf;rw[e1];exact R.giter.1
 have hk2:env.kindOf ("_initial_missing":Str)=some .globalImplicit:=by unfold Env.kindOf;rw[e1];exact R.gmiss.1
 have l1:((([("function":Str),"sequence","initial"].zip [D.val (.ref a),sq,init]).reverse:Rho)).lookup ("function":Str)=some (.val (.ref a)):=rfl;have l2:((([("function":Str),"sequence","initial"].zip [D.val (.ref a),sq,init]).reverse:Rho)).lookup ("sequence":Str)=some sq:=rfl;have l3:((([("function":Str),"sequence","initial"].zip [D.val (.ref a),sq,init]).reverse:Rho)).lookup ("initial":Str)=some init:=rfl;generalize (([("function":Str),"sequence","initial"].zip [D.val (.ref a),sq,init]).reverse:Rho)=ρ at F0 l1 l2 l3
 -- it=iter(sequence)
 refine wpAny_execs_cons ?_;refine Aef rfl ?_;refine wpAny_Call_NameR ((F0.gname O hk1 R.giter.2 (by decide)).use fun fv s1 g1 x1 hfv=>?_);subst hfv;rw[Aaw (es:=[.Name "sequence" p3]) (by intro e he;simp at he;subst he;rfl)];have F1:=F0.step x1;have goal:∀ {Q:Value→Shared→Prop} {E:Value→Shared→Prop},(∀ v s2 g2,Aag B s1 g1 s2 g2→Den g2 v sq→wpAny B.M (A.deeper env) (call (.builtin "iter") [v]) Q E s2)→wpAny B.M (A.deeper env) (callWith p4 (.builtin "iter") [] [(false,eval (.Name "sequence" p3) env)] []) Q E s1:=fun {Q E} h=>by
  refine callWith_of (P:=fun _=>True) (by rfl) (fun _ _=>⟨.machine,.inr (.inl rfl),.now⟩) (AcD (by simp) ?_);refine Calls.spliced_cons ((F1.name l2 (by decide)).use fun v s2 g2 x2 hv=>?_);exact wpAny_pure ⟨trivial,h v s2 g2 x2 hv⟩
 refine goal fun v s2 g2 x2 hv=>?_;have F2:=F1.step x2;refine AlW (Ad1 O x2.inv hv hi fun o x3 it3=>?_);have F3:=F2.step x3;refine(F3.store O (Abl t1) .val fun s4 F4 k4=>?_);refine Amv it3.noTabby fun oi hoi hti hni hci hdi hsi=>?_;have it4:AaN s4.heap g2 s2.heap.objs.size items:=it3.keep g2.le_refl fun o e _=>k4 _ o (F3.notLoc hoi hci hdi) e;have h04:s'.heap.get? s2.heap.objs.size=none:=(x1.trans x2).ext.dead (Aa1 _);have gI4:g2 s2.heap.objs.size=none:=x2.inv.fresh
 -- if initial is _initial_missing
 refine wpAny_execs_cons (wpAny_If (wpAny_isTrue_Compare1 ((F4.name (x:="initial") (by rw[Aab,if_neg (by decide)];exact l3) (by decide)).use fun v5 s5 g5 x5 h5=>?_) rfl));refine((F4.step x5).gname O hk2 R.gmiss.2 (by decide)).use fun v6 s6 g6 x6 h6=>?_;subst h6;refine Aaf R.om fun om hom1 hom2=>?_;refine(Ai2 x6.inv hom1 hom2 (h5.mono x6.le) hp).use fun v7 s7 g7 x7 h7=>?_;subst h7;refine wpAny_truthy_bool ?_;have F7:=((F4.step x5).step x6).step x7;have keepIt:∀ {sa sb:Shared} {ga gb:Gh},Aag B sa ga sb gb→AaN sa.heap ga s2.heap.objs.size items→ga s2.heap.objs.size=none→AaN sb.heap gb s2.heap.objs.size items∧gb s2.heap.objs.size=none:=fun {sa sb ga gb} x it hg=>by
  refine Aaf it.noTabby fun oi hoi _=>?_;exact⟨it.keep x.le fun o e n=>x.ext.keep _ o e n,x.shutNone hoi hg⟩
 refine AaG (keepIt ((x5.trans x6).trans x7) it4 gI4) fun it7 gI7=>?_
 -- value=initial
 show wpAny _ _ (execs [.Assign [.Name "value" p9] (.Name "initial" p10) p11] env) _ _ _;refine wpAny_execs_cons (Aef rfl ((F7.name (x:="initial") (by rw[Aab,if_neg (by decide)];exact l3) (by decide)).use fun v8 s8 g8 x8 h8=>?_));have F8:=F7.step x8;refine AaG (keepIt x8 it7 gI7) fun it8 gI8=>?_;refine F8.store O (Abl t2) h8 fun s9 F9 k9=>?_;refine Amv it8.noTabby fun oj hoj _ _ hcj hdj _=>?_;have it9:AaN s9.heap g8 s2.heap.objs.size items:=it8.keep g8.le_refl fun o e _=>k9 _ o (F8.notLoc hoj hcj hdj) e;refine wpAny_execs_nil ?_
 -- the loop
 refine wpAny_execs_cons (wpAny_For ((F9.name (x:="it") (d:=.val (.ref s2.heap.objs.size)) (by rw[Aab,if_neg (by decide),Aab,if_pos rfl]) (by decide)).useV fun s10 g10 x10=>?_) (fun _=>rfl));have F10:=F9.step x10;refine AaG (keepIt x10 it9 gI8) fun it10 gI10=>?_;refine AhU it10 ?_;have F10':=F10.rebase x0;have own0:Aam env.scope.names=[]:=by rw[e1];exact hown
 have M10:Mv B s₀ g₀ s g s10 g10:=Aag.mv F10.st;refine codeAny_mono (Asx (s:=s) (g:=g) O hh own0 hbd t2 t3 x0 F0.loc.1 (F0.st.ext.dead h04) (fun s1 g1 us d x r er F M hus=>C env s1 g1 us d x r e4 er F M hus) (fun s1 g1 F=>(hk.mono fun a o e=>F.inv.base a o e)) F10' M10 it10 gI10 (by rw[Aab,if_neg (by decide),Aab,if_neg (by decide)];exact l1) (by rw[Aab,if_pos rfl]) hr) fun rr s1 hres=>?_
 obtain⟨rfl,g11,ρ',F11,M11,e5⟩:=hres
 refine wpAny_execs_cons (wpAny_Return_some ((F11.name e5 (by decide)).use fun v12 s12 g12 x12 h12=>?_));exact⟨g12,M11.trans (Aag.mv x12),h12⟩
end
end Mine
namespace Mine
open PySem PySem.W PyProof.Rows PySem.W.X
noncomputable def AuV:List D→Option D:=fn2 fun a b=>Adq a fun film=>Aci b fun k=>(AdA (.list film) (.int (-1))).bind fun e=>(Ay4 e).bind fun p=>(Ay4 p.1).bind fun q=>Aci q.1 fun _=>Aci q.2 fun l=>
 if l=0 then (if film.length+1≤1000000 then some (.list (film++[Agg (0,1) (.tup [])])) else none) else nextD [.list film,.int k]
section
variable{B:Bs}{A:Around}{s₀ s:Shared}{g₀ g:Gh}{n:Nat}{outer:List Env}
theorem AA8(W:LW B)(hA:AOk (n+16) A)(hfr:A.frames=some outer)(hl:AbY outer s)(ho:Ajf (outer.filterMap (·.frame)) s₀ s g)(env:Env)(s1:Shared)(g1:Gh)(us:List Value)(d x r:D)(e4:env.frame=some env.locals)(hF:AuV [d,x]=some r)
  (F:Fm B s₀ g₀ (Aam env.scope.names) env [] s1 g1) (M:Mv B s₀ g₀ s g s1 g1) (hus:Aav g1 us [d,x]):wpAny B.M (A.deeper env) (call (.ref AaP) us) (fun v s'=>∃ g',Mv B s₀ g₀ s1 g1 s' g'∧Den g' v r) (fun _ _=>False) s1:=by
 have hA':AOk (n+15) (A.deeper env):=hA.deeper;refine Afx (Ag5 hF) fun a b q1 k1=>?_;refine Aaf (Abd k1) fun film q2 k1=>?_;refine Aaf (Aas k1) fun k q3 k1=>?_;rw[q1,q2,q3] at hus;refine Aaf (Aak k1) fun e hi k1=>?_;refine Aaf (Aak k1) fun p p1 k1=>?_;refine Aaf (Aak k1) fun q p2 k1=>?_;refine Aaf (Aas k1) fun u p3 k1=>?_;refine Aaf (Aas k1) fun l p4 k1=>?_
 by_cases h0:l=0
 ·rw[if_pos h0] at k1;refine AaG (Abs k1) fun hz k1=>?_;rw[← sj k1];rw[Aks p1,Aks p2,p3,p4,h0] at hi;have hof:Ajf ((env :: outer).filterMap (·.frame)) s₀ s1 g1:=fun a ha=>by
   refine Aaf (List.mem_filterMap.mp ha) fun y hy hyf=>?_
   rcases List.mem_cons.mp hy with hy|hy
   ·rw[hy,e4] at hyf;cases hyf;exact F.frAt _ (.head _)
   ·exact M.fr _ ho a (List.mem_filterMap.mpr ⟨y,hy,hyf⟩)
  exact wpAny_mono (AxX (n:=n+13) (outer:=env :: outer) W hA' F.inv hus hi hz (Around.frames_deeper hfr) ((M.live _ hl).cons F e4) hof F.st) (fun v s' h=>Aew h fun g' h1 _ h3=>⟨g',h1,h3⟩) fun _ _ e=>e
 ·rw[if_neg h0] at k1;exact((Ass (m:=n) W).run (A.deeper env) s1 g1 us _ r hA' F.inv hus k1).use fun v s' g' x hv=>⟨g',Aag.mv x,hv⟩
theorem AxZ(p:Params):Aam (Aai p AbO).scope.names=[]:=by kernel_rfl!
theorem Ax0(W:LW B)(hA:AOk (n+17) A)(I:Inv B s g)(x0:Aag B s₀ g₀ s g)(hfr:A.frames=some outer)(hl:AbY outer s)(ho:Ajf (outer.filterMap (·.frame)) s₀ s g){vs vi:Value}{sq init r:D}{items:List D}
  (h2:Den g vs sq) (h3:Den g vi init) (hp:AlV init=true) (hi:Acq sq=some items) (hr:AjP AuV init items=some r) :
  wpAny B.M A (call (.ref AbO) [.ref AaP,vs,vi]) (fun v s'=>∃ g',Mv B s₀ g₀ s g s' g'∧Den g' v r) (fun _ _=>False) s:=
 Asy (n:=n+16) W.O (Axv W) (AxZ _) (Ass (m:=n) W).kp hA I x0 rfl h2 h3 hp hi hr fun env s1 g1 us d x r e4 hF F M hus=>AA8 (n:=n) W (hA.le (by omega)) hfr hl ho env s1 g1 us d x r e4 hF F M hus
end
noncomputable def ACH(s:(Int×Int)×D):(Int×Int)×D:=if s.1.2 == 0 then ((0,1),.tup []) else ((s.1.2,s.1.2*(s.1.1.fdiv s.1.2+1) - s.1.1.fmod s.1.2),.tup [.int (s.1.1.fdiv s.1.2),.int (s.1.1.fmod s.1.2)])
noncomputable def AuW(n:Nat):(Int×Int)×D→List D:=n.rec (fun _=>[]) fun _ f s=>Agg s.1 s.2 :: f (ACH s)
noncomputable def AgT:List (List D):=(AsX.take 57).map fun p=>AuW 8 (p,.tup [])
noncomputable def Asz:List D:=[.int 0,.int 1,.int 2,.int 3,.int 4,.int 5,.int 6]
theorem AuX:(AsX.take 57).map (fun p=>AjP AuV (.list [Agg p (.tup [])]) Asz)=AgT.map (fun l=>some (.list l)):=by kernel_rfl!
structure KF(K:Frag)(aC aM f0 f1:Addr):Prop where
 nt:∀ a o,K.lookup a=some o→Abv o
 makes:makesIn K aC=true
 init:findIn K (.ref aC) "__init__"=some (some (.ref f0))
 tf0:typeIn K (.ref f0)=some (.type "function")
 lt:findIn K (.ref aC) "__lt__"=some (some (.ref f1))
 tf1:typeIn K (.ref f1)=some (.type "function")
 sa:findIn K (.ref aC) "__setattr__"=some (some (.builtin "object.__setattr__"))
 plain:plainOver K aC=true
 taker:takerIn K aC "obj"=some (some (.ref aM))
 tM:typeIn K (.ref aM)=some (.type "member_descriptor")
 slot:slotIn K aM aC=some 0
 ga:findIn K (.ref aC) "__getattribute__"=some (some (.builtin "object.__getattribute__"))
 find:∀ od,findObj K aC od "obj"=some (.bind (.builtin "member_descriptor.__get__") (.ref aM))
 gt:findIn K (.ref aC) "__getattr__"=some none
theorem AuY{l:List (Addr×Obj)}{a:Addr}{o:Obj}(e:l.lookup a=some o):(a,o)∈l:=by
 induction l with
 |nil=>exact Aah e
 |cons q r ih=>
  rw[List.lookup_cons] at e
  split at e
  ·rename_i hq;cases e;have:=eq_of_beq hq;subst this;exact .head _
  ·exact .tail _ (ih e)
theorem Ax1{h:Heap}{l:List (Addr×Obj)}(hl:∀ p∈l,h.get? p.1=some p.2):Frag.In l h∧∀ p∈l,l.lookup p.1=some p.2:=by
 have h1:Frag.In l h:=by
  intro a o e;induction l with
  |nil=>exact Aah e
  |cons q r ih=>
   rw[List.lookup_cons] at e
   split at e
   ·rename_i hq;cases e;have:=eq_of_beq hq;subst this;exact hl _ (.head _)
   ·exact ih (fun p hp=>hl p (.tail _ hp)) e
 refine⟨h1,fun p hp=>?_⟩
 cases e:l.lookup p.1 with
 |some o=>have:=h1 _ _ e;rw[hl p hp] at this;cases this;rfl
 |none=>
  exfalso;clear h1 hl;induction l with
  |nil=>cases hp
  |cons q r ih=>
   rw[List.lookup_cons] at e
   split at e
   ·injection e
   ·rename_i hq
    rcases List.mem_cons.mp hp with rfl|hp
    ·simp at hq
    ·exact ih hp e
section
variable{K:Frag}{w:World}{aC:Addr}{d:KD}{fd0 fd1:FuncData}
theorem ACI(hn:∀ a o,K.lookup a=some o→Abv o)(kM:K.lookup d.aM=some (AyS aC d.tM))(kC:K.lookup aC=some (AwL aC d.aN d.b d.tk d.u1))(kN:K.lookup d.aN=some (Aax (d.ents w) 3))
 (k0:K.lookup d.f0=some ⟨.type "function",none,.func fd0,#[]⟩) (k1:K.lookup d.f1=some ⟨.type "function",none,.func fd1,#[]⟩):KF K aC d.aM d.f0 d.f1:=by
 unfold AyS at kM;unfold AwL at kC;unfold Aax at kN;have init:findIn K (.ref aC) "__init__"=some (some (.ref d.f0)):=by simp only[findIn,kC,alongIn,ownIn,nsIn,kN];kernel_rfl!
 have lt:findIn K (.ref aC) "__lt__"=some (some (.ref d.f1)):=by simp only[findIn,kC,alongIn,ownIn,nsIn,kN];kernel_rfl!
 have obj:findIn K (.ref aC) "obj"=some (some (.ref d.aM)):=by simp only[findIn,kC,alongIn,ownIn,nsIn,kN];kernel_rfl!
 have sa:findIn K (.ref aC) "__setattr__"=some (some (.builtin "object.__setattr__")):=by simp only[findIn,kC,alongIn,ownIn,nsIn,kN];kernel_rfl!
 have ga:findIn K (.ref aC) "__getattribute__"=some (some (.builtin "object.__getattribute__")):=by simp only[findIn,kC,alongIn,ownIn,nsIn,kN];kernel_rfl!
 have gt:findIn K (.ref aC) "__getattr__"=some none:=by simp only[findIn,kC,alongIn,ownIn,nsIn,kN];kernel_rfl!
 have tM:typeIn K (.ref d.aM)=some (.type "member_descriptor"):=congrArg (Option.map fun o:Obj=>o.cls) kM;have tC:typeIn K (.ref aC)=some (.type "type"):=congrArg (Option.map fun o:Obj=>o.cls) kC;have cl:clsIn K aC=some {name:="K",bases:=[.type "object"],mro:=[.ref aC,.type "object"],ns:=d.aN,qualname:="cmp_to_key.<locals>.K",hasDict:=false,slotNames:=["obj"]}:=by simp only[clsIn,kC]
 have sp:specialIn K (.ref aC) "__call__"=some (some (.builtin "type.__call__")):=by simp only[specialIn,tC];kernel_rfl!
 have iT:instIn K (.ref aC) (.type "type")=some true:=by simp only[instIn,tC];kernel_rfl!
 have tk:takesIn K (.ref d.aM)=some true:=by
  have:specialIn K (.ref d.aM) "__set__"=some (some (.builtin "member_descriptor.__set__")):=by simp only[specialIn,tM];kernel_rfl!
  unfold takesIn;rw[this]
 have gM:specialIn K (.ref d.aM) "__get__"=some (some (.builtin "member_descriptor.__get__")):=by simp only[specialIn,tM];kernel_rfl!
 refine⟨hn,?_,init,congrArg (Option.map fun o:Obj=>o.cls) k0,lt,congrArg (Option.map fun o:Obj=>o.cls) k1,sa,?_,?_,tM,?_,ga,fun od=>?_,gt⟩
 ·unfold makesIn;rw[kC];simp only[sp,iT];simp
 ·unfold plainOver;rw[cl];kernel_rfl!
 ·unfold takerIn;rw[obj];show(takesIn K (.ref d.aM)).map _=_;rw[tk];rfl
 ·unfold slotIn recIn;rw[kM,cl];simp
 ·unfold findObj;rw[cl,Option.bind_some,obj,Option.bind_some];dsimp only;rw[gM,Option.bind_some];dsimp only;rw[tk];rfl
end
noncomputable def KAt(h:Heap)(aC f0 f1:Addr):Prop:=∃ K aM,Frag.In K h∧KF K aC aM f0 f1
theorem KAt.ext{h h':Heap}{aC f0 f1:Addr}(k:KAt h aC f0 f1)(x:Ext h h'):KAt h' aC f0 f1:=
 let ⟨K,aM,i,f⟩:=k;⟨K,aM,fun a o e=>x.keep a o (i a o e) (f.nt a o e),f⟩
theorem ADq{α:Type}{P:α→Prop}{a b c d e:α}(h1:P a)(h2:P b)(h3:P c)(h4:P d)(h5:P e):∀ p∈[a,b,c,d,e],P p:=by
 intro p hp;simp only[List.mem_cons,List.not_mem_nil,or_false] at hp
 rcases hp with rfl|rfl|rfl|rfl|rfl<;>assumption
theorem KIs.kAt{B:Bs}{h₀ h:Heap}{s:Shared}{g:Gh}{cm aC:Addr}{d:KD}(I:Inv B s g)(k:KIs d B.w h₀ s g cm aC)(keep:∀ a o,Abv o→(∀ es n,o.data=.dict es n→h₀.get? a=none)→(∀ v,o.data≠.cell v)→s.heap.get? a=some o→h.get? a=some o):KAt h aC d.f0 d.f1:=by
 refine Abo k.k0 fun fd0 m0=>?_;refine Abo k.k1 fun fd1 m1=>?_;have F:=Ax1 (h:=h) (ADq (P:=fun p=>h.get? p.1=some p.2) (a:=(d.aM,AyS aC d.tM)) (b:=(aC,AwL aC d.aN d.b d.tk d.u1)) (c:=(d.aN,Aax (d.ents B.w) 3)) (d:=(d.f0,{cls:=.type "function",data:=.func fd0})) (e:=(d.f1,{cls:=.type "function",data:=.func fd1}))
  (keep _ _ (Aap rfl) (fun _ _ e=>nomatch e) (fun _ e=>nomatch e) k.eM) (keep _ _ (Aap rfl) (fun _ _ e=>nomatch e) (fun _ e=>nomatch e) k.eC) (keep _ _ (Aap rfl) (fun _ _ _=>k.en) (fun _ e=>nomatch e) k.eN)
  (keep _ _ (Aap rfl) (fun _ _ e=>nomatch e) (fun _ e=>nomatch e) (I.real _ _ m0.obj)) (keep _ _ (Aap rfl) (fun _ _ e=>nomatch e) (fun _ e=>nomatch e) (I.real _ _ m1.obj)))
 exact⟨_,d.aM,F.1,ACI (fun a o e=>ADq (P:=fun p=>Abv p.2) (Aap rfl) (Aap rfl) (Aap rfl) (Aap rfl) (Aap rfl) _ (AuY e)) (F.2 _ (.head _)) (F.2 _ (.tail _ (.head _))) (F.2 _ (.tail _ (.tail _ (.head _)))) (F.2 _ (.tail _ (.tail _ (.tail _ (.head _))))) (F.2 _ (.tail _ (.tail _ (.tail _ (.tail _ (.head _))))))⟩
theorem IsK.kAt{B:Bs}{h₀:Heap}{s:Shared}{g:Gh}{cm aC:Addr}(I:Inv B s g)(k:IsK B.w h₀ s g cm aC):∃ f0 f1,(∀ h,(∀ a o,Abv o→(∀ es n,o.data=.dict es n→h₀.get? a=none)→(∀ v,o.data≠.cell v)→s.heap.get? a=some o→h.get? a=some o)→KAt h aC f0 f1)∧KFn s g cm 2 f0∧KFn s g cm 3 f1:=
 k.elim fun d k=>⟨d.f0,d.f1,fun h keep=>k.kAt I keep,k.k0,k.k1⟩
end Mine
namespace Mine
open PySem PySem.W PyProof.Rows PySem.W.X PySem.Calls Builtin Builtin.ObjectAttr Builtin.Getset_descriptor
section
variable{B:Bs}{A:Around}{s s':Shared}{g g':Gh}{n:Nat}
theorem AsA(O:B.Ok){a:Addr}{fd:FuncData}{params:Arguments}{xs:List Str}{body:List Stmt}{scope:Scope}{cl:List (Str×Addr)}{σ:Rho}(Md:Ago s.heap g a fd params (.stmts body) scope cl)(hb:AmN params xs)(hs:AeI scope xs=true)(C:Ada s.heap g scope.names cl σ)
  {us:List Value} {ds:List D} (hA:AOk (n+1) A) (I:Inv B s g) (hd:Aav g us ds) (hl:xs.length=ds.length) {R:Result→Shared→Prop}
  (h:∀ env s',env.scope=scope→env.code=fd.code→Fm B s g (Aam scope.names) env ((xs.zip ds).reverse++σ) s' g →
   wpAny B.M (A.deeper env) (execs body env) (fun f s''=>R (.ok (.ret (match f with|.ret v=>v|_=>.none))) s'') (fun _ _=>False) s') :
  codeAny B.M A (.call (.ref a) ⟨us,[]⟩) R s:=by
 refine Alo Md.code fun c o _ _ _ hcd=>?_;refine Aoa (Adr hs) fun h1 h2 h3 h5=>?_;refine codeAny_call_function hA.dlt (I.get Md.obj) rfl (by rw[Md.scope];exact h3) (by rw[Md.scope];exact h2) Md.body hcd ?_;rw[hb fd us Md.params Md.defs.1 Md.defs.2 (by rw[hd.length,hl])];refine wpAny_pure ?_;rw[Md.glob,Md.clos,Md.blt,Md.scope];refine wpAny_mono (AhM O I h1 C h5 hl hd (Q:=fun env s'=>s'.heap.NoLimit∧codeAny B.M A (.func body env) R s') fun env s' e1 e2 e3 F=>⟨?_,?_⟩) (fun _ _ h=>h) fun _ _ h=>h.elim
 ·refine Aaf O.lim fun mc hmc hno=>?_;exact⟨mc,F.inv.ns hmc,hno⟩
 ·refine codeAny_mono (codeAny_func (R:=fun r s'=>match r with|.ok (.ret v)=>R (.ok (.ret v)) s'|_=>False) (wpAny_mono (h env s' e1 e2 F) (fun f s'' h=>h) fun _ _ h=>h.elim)) fun r s' hr=>?_
  rcases r with e|(v|_|_|_)<;>first|exact hr|exact hr.elim
theorem AOk.type_call{C:Addr}{vs:List Value}(h:AOk (n+1) A):AOk n (A.under (.builtin "type.__call__" ⟨.ref C :: vs,[]⟩)):=
 h.to (k:=1) h.handled (Nat.add_le_add_left (by decide:1≤8) A.depth) rfl (by decide)
theorem AsB(i:Nat)(x y:Str)(hi:(i=2∧x = "self"∧y = "obj")∨(i=3∧x = "self"∧y = "other")):∀ (fd:FuncData) (a b:Value),fd.params=Ags i→fd.defaults=.none→fd.kwdefaults=.none→bindArgs fd ⟨[a,b],[]⟩=pure [(x,a),(y,b)]:=by
 intro q1;obtain⟨nm,qn,pr,bd,sc,gl,cl,df,kd,dc,pm,an,cd,ct,bt⟩:=q1;intro a b h1 h2 h3;simp only at h1 h2 h3;subst h1 h2 h3
 rcases hi with ⟨rfl,rfl,rfl⟩|⟨rfl,rfl,rfl⟩<;>kernel_rfl!
theorem AuZ:AmN (Ags 2) ["self","obj"]:=fun fd vs e1 e2 e3 e4=>L2 (P:=fun vs=>bindArgs fd ⟨vs,[]⟩=pure ([("self":Str),"obj"].zip vs)) e4 fun u v=>AsB 2 "self" "obj" (.inl ⟨rfl,rfl,rfl⟩) fd u v e1 e2 e3
theorem Au0:AmN (Ags 3) ["self","other"]:=fun fd vs e1 e2 e3 e4=>L2 (P:=fun vs=>bindArgs fd ⟨vs,[]⟩=pure ([("self":Str),"other"].zip vs)) e4 fun u v=>AsB 3 "self" "other" (.inr ⟨rfl,rfl,rfl⟩) fd u v e1 e2 e3
theorem ACJ:AeI (kSc 2) ["self","obj"]=true:=by kernel_rfl!
theorem ACK:AeI (kSc 3) ["self","other"]=true:=by kernel_rfl!
theorem Ax2:∃ p1 p2 p3 p4,AkC 2=[.Assign [.Attribute (.Name "self" p1) "obj" p2] (.Name "obj" p3) p4]:=⟨_,_,_,_,rfl⟩
theorem Au1:(kSc 2).names=([("self",NameKind.local),("obj",NameKind.local)]:List (Str×NameKind)):=by kernel_rfl!
theorem Alj:(kSc 3).names=([("self",NameKind.local),("other",NameKind.local),("mycmp",NameKind.free)]:List (Str×NameKind)):=by kernel_rfl!
noncomputable def Ap6(C dd:Addr)(v:Value):Obj:={cls:=.ref C,dict:=some dd,data:=.plain,slots:=#[some v]}
theorem Ajg{C dd:Addr}{v:Value}:Abv (Ap6 C dd v):=Acr (by intro vs e;injection e)
theorem Aki{h:Heap}{g:Gh}{names:List (Str×NameKind)}(hn:∀ x,names.lookup x≠some .free):Ada h g names [] []:=
 And.intro (fun x e=>absurd e (hn x)) (And.intro (fun x c (e:List.lookup x []=some c)=>by exact Aah e) (fun x d (e:List.lookup x []=some d)=>by exact Aah e))
theorem Ax3(x:Str):(kSc 2).names.lookup x≠some .free:=by
 rw[Au1];intro e;simp only[List.lookup_cons,List.lookup_nil] at e
 split at e
 ·cases e
 ·split at e<;>(first|exact Aah e|cases e)
theorem ADO{prog:Program}{w:World}{A:Around}{K:Frag}{C x p:Addr}{R:Result→Shared→Prop}{s:Shared}{ox:Obj}{od:Option Obj}{v:Value}(X:K.In s.heap)(I:InstAt s.heap x ox C od)(hp:slotIn K p C=some 0)
  (h:R (.ok (.ret .none)) {s with heap:=s.heap.update x fun o=>{o with slots:=(o.slots++Array.replicate (1 - o.slots.size) none).setIfInBounds 0 (some v)}}) :
  codeAny (model prog w) A (.call (.builtin "member_descriptor.__set__") ⟨[.ref p,.ref x,v],[]⟩) R s:=by
 refine AsY (slot_of X hp) fun n tn owner behind q=>AsY q fun tb d sl cd q=>Awh q fun ho hc hm hb h0=>?_
 obtain⟨hh,g,dr,t,os⟩:=s
 have T0:=I.type (M:=model prog w);have T1:=looks_mroIn (M:=model prog w) X hm;have T2:Looks (model prog w) hh (Builtin.Slots.slotNamesOf (.ref C)) cd.slotNames:=(looks_clsIn X hc).andThen .now;have hx:=I.at_;dsimp only at ho hx T0 T1;have a0:=looks_field (M:=model prog w) ho 0 (v:=.str n tn) rfl;have a1:=looks_field (M:=model prog w) ho 1 (v:=owner) rfl;have a2:=looks_field (M:=model prog w) ho 3 (v:=.builtin "proto.slot#set") rfl;have a3:=looks_field (M:=model prog w) ho 4 (v:=.int behind tb) rfl;have a4:Looks (model prog w) hh (descrItself (.ref p)) [.ref p]:=((Looks.ld (part:=none) ho).andThen .now).andThen (Looks.of_pure (by kernel_rfl));refine codeAny_call_builtin KF.slot_mset.plain KF.entry_mset (KF.slot_mset.check _ _ _ _ _ _ _ _ ⟨_,ho,rfl⟩ (KF.args_mset _ _ _) ?_);unfold Builtin.«member_descriptor.__set__» descrSet descrStoreThrough descrCheckInstance descrNameAndClass isInstance
 repeat lk
 refine⟨Code.quiet_builtin _ (by decide +kernel),codeAny_builtin KF.entry_slotset ?_⟩;unfold Builtin.«proto.slot#set» Builtin.Slots.target
 repeat lk
 rw[if_neg hb,← h0];refine wpAny_pure (wpAny_bind ?_);unfold setSlotAt;dsimp only;rw[if_neg (by rw[sizeLine_eq];decide)];exact wpAny_updatePart hx (wpAny_pure h)
noncomputable def Alk(h:Heap)(C x:Addr)(v:Value):Prop:=∃ dd o,h.get? x=some (Ap6 C dd v)∧h.get? dd=some o∧Abv o
theorem Alk.ext{h h':Heap}{C x:Addr}{v:Value}(k:Alk h C x v)(x1:Ext h h'):Alk h' C x v:=
 let ⟨dd,o,e1,e2,e3⟩:=k;⟨dd,o,x1.keep _ _ e1 Ajg,x1.keep _ _ e2 e3,e3⟩
noncomputable def KIn(g:Gh)(C x:Addr)(v:Value):Prop:=∃ dd o,g x=some (Ap6 C dd v)∧g dd=some o∧Abv o
theorem KIn.mono{C x:Addr}{v:Value}(k:KIn g C x v)(h:g.le g'):KIn g' C x v:=let ⟨dd,o,e1,e2,e3⟩:=k;⟨dd,o,h _ _ e1,h _ _ e2,e3⟩
theorem KIn.inst{C x:Addr}{v:Value}(k:KIn g C x v)(I:Inv B s g):Alk s.heap C x v:=let ⟨dd,o,e1,e2,e3⟩:=k;⟨dd,o,I.real _ _ e1,I.real _ _ e2,e3⟩
theorem AA9(O:B.Ok)(hA:AOk (n+2) A)(I:Inv B s g){aC f0 f1 cm:Addr}(k:KAt s.heap aC f0 f1)(m0:KFn s g cm 2 f0){v:Value}{Q E:Value→Shared→Prop}
  (hq:∀ x s' g',Aag B s g s' g'→KIn g' aC x v→Q (.ref x) s'):wpAny B.M A (call (.ref aC) [v]) Q E s:=by
 refine Afx k fun K aM iK kf=>?_;refine Abo m0 fun fd m0=>?_;rw[if_pos rfl] at m0;have hs:s=⟨s.heap,s.gens,s.drawn,s.toks,s.os⟩:=rfl;have x1:=(Aag.open (o:=emptyDict) O I);have x2:=x1.trans (Aag.open (o:=instObj aC s.heap.objs.size) O x1.inv);have hD:((s.heap.push emptyDict).push (instObj aC s.heap.objs.size)).get? s.heap.objs.size=some emptyDict:=Heap.get?_push_of_some _ (Heap.get?_push_size _ rfl);have hX:((s.heap.push emptyDict).push (instObj aC s.heap.objs.size)).get? (s.heap.objs.size+1)=some (instObj aC s.heap.objs.size):=by
  have:=Heap.get?_push_size (h:=s.heap.push emptyDict) (o:=instObj aC s.heap.objs.size) rfl
  rwa [Heap.size_push] at this
 have hXn:s.heap.get? (s.heap.objs.size+1)=none:=Heap.get?_none_of_le (Nat.le_succ _);have hNs:((s.heap.push emptyDict).push (instObj aC s.heap.objs.size)).Ns s.heap.objs.size (fun _=>none):=(Heap.Ns.new s.heap (.type "dict")).keeps fun _ _ e=>Heap.get?_push_of_some _ e;refine wpAny_call ?_;show codeAny B.M A (.call (.ref aC) ⟨[v],[]⟩) _ ⟨s.heap,s.gens,s.drawn,s.toks,s.os⟩;refine make_core (makes_of iK kf.makes) (looks_findIn iK kf.init) (fun self=>bind_fn iK self kf.tf0) (.inl rfl) ?_;refine AsA O (s:=⟨(s.heap.push emptyDict).push (instObj aC s.heap.objs.size),s.gens,s.drawn,s.toks,s.os⟩) (g:=g) (ds:=[.val (.ref (s.heap.objs.size+1)),.val v]) (σ:=[]) (m0.step x2) AuZ ACJ (Aki Ax3) (AOk.type_call hA) x2.inv (.cons .val (.cons .val .nil)) rfl fun env s1 e1 e2 F=>?_;refine AsY Ax2 fun p1 p2 p3 p4 hb=>?_;rw[hb];refine wpAny_execs_cons ?_;refine plainObj_wpAny_Assign_Attribute ?_ rfl;refine(F.name (x:="obj") rfl rfl).useV fun s2 g2 y2=>?_;refine((F.step y2).name (x:="self") rfl rfl).useV fun s3 g3 y3=>?_;have F3:=(F.step y2).step y3;have X3:=x2.trans F3.st;have iK3:Frag.In K s3.heap:=fun a o e=>X3.ext.keep a o (iK a o e) (kf.nt a o e);have hX3:s3.heap.get? (s.heap.objs.size+1)=some (instObj aC s.heap.objs.size):=F3.st.ext.keep _ _ hX (Acr (by intro vs e;injection e));have hD3:s3.heap.get? s.heap.objs.size=some emptyDict:=F3.st.ext.keep _ _ hD (Aap rfl);have IA:InstAt s3.heap (s.heap.objs.size+1) (instObj aC s.heap.objs.size) aC (some emptyDict):=⟨hX3,rfl,rfl,hD3⟩;refine set_plain iK3 IA kf.sa ?_;refine osa_descr (s:={s3 with toks:=s3.toks+1}) KF.slot_mset iK3 IA kf.plain kf.taker kf.tM ?_;refine ADO (s:={s3 with toks:=s3.toks+1}) iK3 IA kf.slot ?_;refine wpAny_execs_nil ⟨rfl,?_⟩;have sb:=Heap.SameBut.update s3.heap (s.heap.objs.size+1) (fun o:Obj=>{o with slots:=(o.slots++Array.replicate (1 - o.slots.size) none).setIfInBounds 0 (some v)});have hU:=Heap.get?_update_self (h:=s3.heap) (a:=s.heap.objs.size+1) (fun o:Obj=>{o with slots:=(o.slots++Array.replicate (1 - o.slots.size) none).setIfInBounds 0 (some v)}) hX3 rfl;have gX:g3 (s.heap.objs.size+1)=none:=F3.st.shutNone hX (by
  cases e:g (s.heap.objs.size+1) with
  |none=>rfl
  |some o=>have:=I.real _ _ e;rw[hXn] at this;exact Aah this)
 have x4:Aag B s g _ g3:=X3.turn (s'':={s3 with heap:=s3.heap.update (s.heap.objs.size+1) fun o=>{o with slots:=(o.slots++Array.replicate (1 - o.slots.size) none).setIfInBounds 0 (some v)},toks:=s3.toks+1}) O hXn gX hX3 (Aex (by intro vs e;injection e)) sb rfl rfl;have hdx:s.heap.objs.size≠s.heap.objs.size+1:=Nat.ne_of_lt (Nat.lt_succ_self _);have hD4:(s3.heap.update (s.heap.objs.size+1) fun o=>{o with slots:=(o.slots++Array.replicate (1 - o.slots.size) none).setIfInBounds 0 (some v)}).get? s.heap.objs.size=some emptyDict:=(sb.2 s.heap.objs.size hdx).trans hD3;have x5:=Aag.shut (o:=Ap6 aC s.heap.objs.size v) x4 hXn hU gX Ajg;have x6:=Aag.shut (o:=emptyDict) x5 (Aa1 _) hD4 (by rw[Gh.put_other hdx];exact F3.st.shutNone hD I.fresh) (Aap rfl);exact hq _ _ _ x6 ⟨_,_,by rw[Gh.put_other hdx.symm];exact Gh.put_self ..,Gh.put_self ..,Aap rfl⟩
end
end Mine
namespace Mine
open PySem PySem.W PyProof.Rows PySem.W.X PySem.Calls
section
variable{B:Bs}{A:Around}{s₀ s s':Shared}{g₀ g g':Gh}{n:Nat}{own:List Str}{env:Env}{ρ:Rho}{aC f0 f1 cm x y:Addr}{v u:Value}
theorem Awc(k:KAt s.heap aC f0 f1)(hx:Alk s.heap aC x v)(hh:handedIn v=true)(F:Fm B s₀ g₀ own env ρ s g){nm:Str}{p1 p2:Pos}(hl:ρ.lookup nm=some (.val (.ref x)))(ho:AbB nm=true) :
  Aaq B A s g (eval (.Attribute (.Name nm p1) "obj" p2) env) fun _ r=>r=v:=by
 refine Attribute_name ((F.name hl ho).useV fun s1 g1 y1=>?_);refine Afx (k.ext y1.ext) fun K aM iK kf=>?_;refine Adp (hx.ext y1.ext) fun dd o e1 e2 e3=>?_;have IA:InstAt s1.heap x (Ap6 aC dd v) aC (some o):=⟨e1,rfl,rfl,e2⟩;refine get_bind iK IA kf.ga (kf.find _) kf.gt (wpAny_call (slot_get (s:={s1 with toks:=s1.toks+1}) iK IA kf.slot rfl ?_));show wpAny _ _ (handedOut v) _ _ _;rw[handedOut_of hh];exact wpAny_pure ⟨g1,y1.trans (Aag.tok y1.inv _),rfl⟩
theorem ABa{c:Prop}{hd:Decidable c}{α:Type}{x:Option α}{r:α}(h:(if c then x else none)=some r):c∧x=some r:=Abs h
noncomputable def AsC(x y lam:Addr)(c:Int)(ρ:Rho)(e:Expr):Option D:=open Classical in
 if (∃ q0 q1 q2 q3 q4 q5,e=.Call (.Name "mycmp" q0) [.Attribute (.Name "self" q1) "obj" q2,.Attribute (.Name "other" q3) "obj" q4] [] q5)∧ρ.lookup ("mycmp":Str)=some (.val (.ref lam))∧ρ.lookup ("self":Str)=some (.val (.ref x))∧ρ.lookup ("other":Str)=some (.val (.ref y)) then some (.int c) else none
noncomputable def T_K(x y lam:Addr)(c:Int):Tb:=⟨fun _=>none,fun _=>none,fun _ _=>none,fun _=>AsC x y lam c,fun _ _ _ _=>none⟩
theorem ABb(k:KAt s₀.heap aC f0 f1)(hx:Alk s₀.heap aC x v)(hy:Alk s₀.heap aC y u)(h1:handedIn v=true)(h2:handedIn u=true){lam:Addr}{Fn:List D→Option D}(hF:Amx B n s₀ g₀ (.ref lam) Fn){d e:D}(hv:Den g₀ v d)(hu:Den g₀ u e){c:Int}(hr:Fn [d,e]=some (.int c)) :
  Acw B n (T_K x y lam c) s₀ g₀ where
 glob:=fun _ _ e=>by exact Aah e
 app:=fun _ _ e=>by exact Aah e
 stm:=fun _ _ _ _ _ _ _ _ _ _ _ _ e=>by exact Aah e
 meth:=fun _ _ _ e=>by exact Aah e
 spec:=fun A own env ρ ex dd s g hA h F=>by
  change AsC x y lam c ρ ex=some dd at h
  unfold AsC at h;refine AaG (ABa h) fun qa h'=>?_;refine Aoa qa fun he l1 l2 l3=>?_;clear qa
  cases h'
  refine ABS he fun q0 q1 q2 q3 q4 q5 z1=>?_;subst z1;have hb:∀ pos,backTo pos (starEach [.Attribute (.Name "self" q1) "obj" q2,.Attribute (.Name "other" q3) "obj" q4] env)=[(false,eval (.Attribute (.Name "self" q1) "obj" q2) env),(false,eval (.Attribute (.Name "other" q3) "obj" q4) env)]:=fun pos=>Aaw (by intro e' he';simp at he';rcases he' with rfl|rfl<;>rfl);refine wpAny_Call_NameR ((F.name l1 (by decide)).useV fun s1 g1 x1=>?_);rw[hb];have X1:=F.st.trans x1;refine(Acv (P:=fun g' vs=>Aav g' vs [d,e]) ((hF.step X1).kp) (by simp) (Calls.spliced_cons ((Awc (k.ext X1.ext) (hx.ext X1.ext) h1 (F.step x1) l2 (by decide)).use fun w1 s2 g2 x2 e1=>Calls.spliced_cons ((Awc (k.ext (X1.trans x2).ext) (hy.ext (X1.trans x2).ext) h2 ((F.step x1).step x2) l3 (by decide)).use fun w2 s3 g3 x3 e2=>wpAny_pure ⟨g3,x2.trans x3,?_⟩))) fun us s2 g2 x2 hus=>?_).from x1
  ·exact hF.run A s2 g2 _ _ _ hA (X1.trans x2) hus hr
  ·subst e1 e2;exact .cons (hv.mono ((X1.trans x2).trans x3).le) (.cons (hu.mono ((X1.trans x2).trans x3).le) .nil)
theorem Au2{lam:Addr}(hc:s.heap.IsCell cm (some (.ref lam))):Ada s.heap g (kSc 3).names [(("mycmp":Str),cm)] [(("mycmp":Str),.val (.ref lam))]:=by
 have one:∀ {α:Type} {x:Str} {a b:α},[(("mycmp":Str),a)].lookup x=some b→x = "mycmp"∧a=b:=fun {α x a b} e=>by
  rw[List.lookup_cons] at e
  split at e
  ·rename_i hq;cases e;exact⟨eq_of_beq hq,rfl⟩
  ·exact Aah e
 have hl:∀ {α:Type} {a:α},[(("mycmp":Str),a)].lookup ("mycmp":Str)=some a:=fun {α a}=>by rw[List.lookup_cons];simp
 refine⟨fun z e=>?_,fun z c e=>?_,fun z d e=>?_⟩
 ·have:z = "mycmp":=by
   rw[Alj] at e;simp only[List.lookup_cons,List.lookup_nil] at e
   split at e
   ·cases e
   ·split at e
    ·cases e
    ·split at e
     ·rename_i hq;exact eq_of_beq hq
     ·exact Aah e
  subst this;exact⟨cm,_,hl,hc⟩
 ·refine AaG (one e) fun _ q2=>?_;subst q2;exact⟨_,hc⟩
 ·refine AaG (one e) fun q3 q4=>?_;subst q3;subst q4;exact⟨by rw[Alj];decide,by rw[Alj];kernel_rfl!,cm,_,hl,hc,.val⟩
theorem Au3{c:Int}{lam:Addr}{ρ:Rho}{q0 q1 q2 q3 q4 q5:Pos}(hm:ρ.lookup ("mycmp":Str)=some (.val (.ref lam)))(hs:ρ.lookup ("self":Str)=some (.val (.ref x)))(ho:ρ.lookup ("other":Str)=some (.val (.ref y))) :
  AsC x y lam c ρ (.Call (.Name "mycmp" q0) [.Attribute (.Name "self" q1) "obj" q2,.Attribute (.Name "other" q3) "obj" q4] [] q5)=some (.int c):=by
 exact if_pos ⟨⟨_,_,_,_,_,_,rfl⟩,hm,hs,ho⟩
theorem Au4{c:Int}{lam:Addr}{sc:Scope}{ρ:Rho}{e:Expr}:(T_K x y lam c).spec sc ρ e=AsC x y lam c ρ e:=rfl
theorem Ax4{c:Int}{lam:Addr}{own:List Str}:ex ((T_K x y lam c).stm own (kSc 3)) (ev (T_K x y lam c) 8 (kSc 3)) own (kSc 3) 8 ([(("other":Str),.val (.ref y)),("self",.val (.ref x)),("mycmp",.val (.ref lam))]:Rho) (AkC 3)=some (.ret (.bool (decide (c<0)))):=by refine AcU rfl rfl (Ab8 (a:=.int c) (b:=.int 0) rfl rfl (AvQ rfl ?_) (Aac rfl rfl) rfl);exact Au4.trans (Au3 rfl rfl rfl)
theorem ADP(O:B.Ok)(hA:AOk (n+2) A)(I:Inv B s g)(k:KAt s.heap aC f0 f1)(m1:KFn s g cm 3 f1)(hx:Alk s.heap aC x v)(hy:Alk s.heap aC y u)(h1:handedIn v=true)(h2:handedIn u=true){lam:Addr}(hc:s.heap.IsCell cm (some (.ref lam)))
  {Fn:List D→Option D} (hF:Amx B n s g (.ref lam) Fn) {d e:D} (hv:Den g v d) (hu:Den g u e) {c:Int} (hr:Fn [d,e]=some (.int c)) :
  Aaq B A s g (keyLt' oneType' (.ref x) (.ref y)) fun _ b=>b=decide (c<0):=by
 have k':=k;have hx':=hx;refine Afx k fun K aM iK kf=>?_;refine Adp hx fun dd o e1 e2 e3=>?_;refine Abo m1 fun fd m1=>?_;rw[if_neg (by decide)] at m1;have IA:InstAt s.heap x (Ap6 aC dd v) aC (some o):=⟨e1,rfl,rfl,e2⟩;have hu':A.units<cLine:=Nat.lt_of_le_of_lt (Nat.le_add_right _ 60) hA.units_lt;rw[keyLt'_oneType,oneLt'_eq];simp only[if_true];refine wpAny_bind (wpAny_cRoomFor hu' ?_);refine wpAny_bind (ifBound_K iK IA kf.lt (by unfold isFn;rw[kf.tf1];exact beq_self_eq_true _) ?_);have hA1:AOk (n+1) A:=hA.le (by omega);refine Ai4 O m1 Au0 ACK (Au2 hc) hA1 I (ds:=[.val (.ref x),.val (.ref y)]) (.cons .val (.cons .val .nil)) rfl fun env s1 e4 e5 F=>?_;have F':Fm B s g (Aam (kSc 3).names) env ([(("other":Str),.val (.ref y)),("self",.val (.ref x)),("mycmp",.val (.ref lam))]:Rho) s1 g:=F;refine wpAny_mono (Ack O (ABb k' hx' hy h1 h2 hF hv hu hr) hA1.deeper F' (by rw[e4];exact Ax4)) (fun f s2 hf=>?_) fun _ _ z=>z.elim;refine Aaf hf fun g2 x2 hd=>?_
 cases f with
 |ret w=>cases hd using Den.boolE;exact wpAny_truthy_bool ⟨g2,x2,rfl⟩
 |_=>cases hd using Den.boolE
end
noncomputable def kgo{α:Type}(ans:Nat→Nat→Bool)(n:Nat):KasT α→Option α
 |.ret a=>some a
 |.ask i j k=>if Nat.blt i n && Nat.blt j n then kgo ans n (k (ans i j)) else none
theorem AsD{α:Type}{ans:Nat→Nat→Bool}{n:Nat}{cmp:Nat→Nat→(Bool→Shared→Prop)→Shared→Prop}{P:Shared→Prop}(hc:∀ i j s (C:Bool→Shared→Prop),i<n→j<n→P s→(∀ s',P s'→C (ans i j) s')→cmp i j C s) :
  ∀ (t:KasT α) (s:Shared) (a:α) (Q:α→Shared→Prop),kgo ans n t=some a→P s→(∀ s',P s'→Q a s')→t.kasWp cmp Q s
 |.ret a,s,b,Q,h,hp,hq=>by cases h;exact hq s hp
 |.ask i j k,s,b,Q,h,hp,hq=>by
  refine AaG (Abs h) fun hb h1=>?_;have hb:=Bool.and_eq_true_iff.mp hb;exact hc i j s _ (Nat.blt_eq.mp hb.1) (Nat.blt_eq.mp hb.2) hp fun s' hp'=>AsD hc (k (ans i j)) s' b Q h1 hp' hq
section
variable{B:Bs}{A:Around}{s₀ s s' s'':Shared}{g₀ g g':Gh}{n m:Nat}
theorem Ab4{vs:Array Value}{c:Nat}:Abv (seqObj "list" vs c):=Aap rfl
theorem Ajh{vs:Array Value}{c:Nat}:¬ AcL (seqObj "list" vs c):=AaU rfl (by decide)
structure Abr(s₀:Shared)(s:Shared)(g:Gh)(a:Addr)(vs:Array Value):Prop where
 has:∃ c,s.heap.get? a=some (seqObj "list" vs c)
 new:s₀.heap.get? a=none
 out:g a=none
theorem Abr.step{a:Addr}{vs:Array Value}(o:Abr s₀ s g a vs)(x:Aag B s g s' g'):Abr s₀ s' g' a vs:=
 let ⟨c,e⟩:=o.has;⟨⟨c,x.ext.keep _ _ e Ab4⟩,o.new,x.shutNone e o.out⟩
theorem Abr.made(O:B.Ok)(x:Aag B s₀ g₀ s g){vs:Array Value}:Aag B s₀ g₀ {s with heap:=s.heap.push (seqObj "list" vs 0)} g∧Abr s₀ {s with heap:=s.heap.push (seqObj "list" vs 0)} g s.heap.objs.size vs:=
 ⟨x.trans (Aag.open O x.inv),⟨_,Heap.get?_push_size _ rfl⟩,x.ext.dead (Aa1 _),x.inv.fresh⟩
theorem Abr.turn(O:B.Ok){a b:Addr}{vs us:Array Value}{f:Array Value→Array Value}(x:Aag B s₀ g₀ s g)(o:Abr s₀ s g a vs)(q:Abr s₀ s g b us)(hab:a≠b) :
  Aag B s₀ g₀ {s with heap:=s.heap.update a (Obj.mapSeq f)} g∧Abr s₀ {s with heap:=s.heap.update a (Obj.mapSeq f)} g a (f vs)∧Abr s₀ {s with heap:=s.heap.update a (Obj.mapSeq f)} g b us:=by
 refine Abo o.has fun c e=>?_;refine Abo q.has fun c' e'=>?_;have sb:=Heap.SameBut.update s.heap a (Obj.mapSeq f);exact⟨x.turn O o.new o.out e Ajh sb rfl rfl,⟨⟨_,get?_update_seq e f⟩,o.new,o.out⟩,⟨⟨c',(sb.2 b hab.symm).trans e'⟩,q.new,q.out⟩⟩
theorem AOk.in2(h:AOk (n+1) A):AOk n A.in1.in1:=h.to (k:=2) h.handled (Nat.le_add_right _ _) rfl (by decide)
theorem Ax5(O:B.Ok){a kS:Addr}{ks:List Value}{st:SortSt}{c:Nat}{out:List Value}(x:Aag B s₀ g₀ s g)(oa:Abr s₀ s g a #[])(hc:s.heap.get? a=some (seqObj "list" #[] c))(ok:Abr s₀ s g kS ks.toArray)(hak:a≠kS)
  (hk:ks.length<64) (ho:out.length<64) (hout:(arrOf st).map (·.2)=out.toArray) (hf:failedOf st=none) {P:PySem.Fin→Shared→Prop} {E:Value→Shared→Prop}
  (hq:∀ s' g',Aag B s₀ g₀ s' g'→Abr s₀ s' g' a out.toArray→P (.done (.ret .none)) s'):wpAny B.M A (ksk_tail a false c (.ref kS) st) P E s:=by
 refine Abo ok.has fun ck ek=>?_;have t1:=Abr.turn O (f:=fun _=>#[]) x ok oa hak.symm;have e1:(s.heap.update kS (Obj.mapSeq fun _=>(#[]:Array Value))).get? a=some (seqObj "list" #[] c):=((Heap.SameBut.update s.heap kS (Obj.mapSeq fun _=>(#[]:Array Value))).2 a hak).trans hc;unfold ksk_tail;rw[hout];refine wpAny_bind (listUpdate_at ek rfl ?_ (by rw[List.size_toArray,sizeLine_eq];omega) (Nat.zero_le _));refine wpAny_bind (wpAny_letGo ?_);refine wpAny_bind (seqEpoch_at e1 rfl ?_);have t2:=Abr.turn O (f:=fun _=>out.toArray) t1.1 t1.2.2 t1.2.1 hak;refine wpAny_bind (listUpdate_at e1 rfl ?_ (Nat.zero_le _) (by show out.length≤_;rw[sizeLine_eq];omega));rw[hf];simp only[bne_self_eq_false,Bool.false_eq_true,if_false];exact wpAny_pure (hq _ _ t2.1 t2.2.1)
end
noncomputable def Ami(key:Gh→Value→Value→Prop)(g:Gh)(ks vs:List Value):Prop:=ks.length=vs.length∧∀ i,i<vs.length→key g (ks.getD i Value.none) (vs.getD i Value.none)
section
variable{B:Bs}{A:Around}{s₀ s s' s'':Shared}{g₀ g g':Gh}{n m:Nat}{key:Gh→Value→Value→Prop}
theorem Ami.snoc{ks vs:List Value}{k v:Value}(hm:∀ g g' x v,g.le g'→key g x v→key g' x v)(h:Ami key g ks vs)(hg:g.le g')(hk:key g' k v):Ami key g' (ks++[k]) (vs++[v]):=by
 refine⟨by simp [h.1],fun i hi=>?_⟩
 by_cases hl:i<vs.length
 ·have hl':i<ks.length:=by rw[h.1];exact hl
  have:=hm _ _ _ _ hg (h.2 i hl);simpa [List.getD,List.getElem?_append,hl,hl'] using this
 ·have e:i=vs.length:=by simp at hi;omega
  have e':i=ks.length:=by rw[h.1];exact e
  have h1:(ks++[k]).getD i Value.none=k:=by rw[e'];simp [List.getD]
  have h2:(vs++[v]).getD i Value.none=v:=by rw[e];simp [List.getD]
  rw[h1,h2];exact hk
theorem Abr.turn1(O:B.Ok){a:Addr}{vs:Array Value}{f:Array Value→Array Value}(x:Aag B s₀ g₀ s g)(o:Abr s₀ s g a vs) :
  Aag B s₀ g₀ {s with heap:=s.heap.update a (Obj.mapSeq f)} g∧Abr s₀ {s with heap:=s.heap.update a (Obj.mapSeq f)} g a (f vs):=by
 refine Abo o.has fun c e=>?_;have sb:=Heap.SameBut.update s.heap a (Obj.mapSeq f);exact⟨x.turn O o.new o.out e Ajh sb rfl rfl,⟨⟨_,get?_update_seq e f⟩,o.new,o.out⟩⟩
theorem AsE(hm:∀ g g' x v,g.le g'→key g x v→key g' x v){a kS:Addr}{c:Nat}{vs:List Value}{body:Value→PUnit→Sem (ForInStep PUnit)}
  (hb:∀ v s g ks,v∈vs→Aag B s₀ g₀ s g→s.heap.get? a=some (seqObj "list" #[] c)→g a=none→Abr s₀ s g kS (List.toArray ks)→ks.length<vs.length →
   wpAny B.M A (body v ⟨⟩) (fun r s'=>r=.yield ⟨⟩∧∃ g' k,Aag B s₀ g₀ s' g'∧g.le g'∧s'.heap.get? a=some (seqObj "list" #[] c)∧g' a=none∧Abr s₀ s' g' kS (List.toArray (ks++[k]))∧key g' k v) (fun _ _=>False) s) :
  ∀ (r done ks:List Value) (s:Shared) (g:Gh),done++r=vs→Aag B s₀ g₀ s g→s.heap.get? a=some (seqObj "list" #[] c)→g a=none→Abr s₀ s g kS (List.toArray ks)→Ami key g ks done →
   wpAny B.M A (forIn r PUnit.unit body) (fun _ s'=>∃ g' ks',Aag B s₀ g₀ s' g'∧s'.heap.get? a=some (seqObj "list" #[] c)∧g' a=none∧Abr s₀ s' g' kS (List.toArray ks')∧Ami key g' ks' vs) (fun _ _=>False) s
 |[],done,ks,s,g,e,x,ha,ga,ok,hk=>by
  rw[List.forIn_nil];rw[List.append_nil] at e;subst e;exact wpAny_pure ⟨g,ks,x,ha,ga,ok,hk⟩
 |v :: r,done,ks,s,g,e,x,ha,ga,ok,hk=>by
  rw[List.forIn_cons];refine wpAny_bind (wpAny_mono (hb v s g ks (by rw[← e];simp) x ha ga ok (by rw[hk.1,← e];simp)) (fun q s' h=>?_) fun _ _ h=>h)
  obtain⟨rfl,g',k,x',hle,ha',ga',ok',hk'⟩:=h
  exact AsE hm hb r (done++[v]) (ks++[k]) s' g' (by rw[← e];simp) x' ha' ga' ok' (hk.snoc hm hle hk')
theorem Ax6(O:B.Ok)(hA:AOk m A){q a:Addr}{vs:List Value}(x:Aag B s₀ g₀ s g)(oa:Abr s₀ s g a vs.toArray)(h2:2≤vs.length)(h64:vs.length<64){T:Value}{ans:Nat→Nat→Bool}{p:Array Nat}
  (hm:∀ g g' x v,g.le g'→key g x v→key g' x v)
  (hmk:∀ A' v s g,AOk m A'→v∈vs→Aag B s₀ g₀ s g→∀ (Q E:Value→Shared→Prop),(∀ x s' g',Aag B s g s' g'→key g' x v→Q x s')→wpAny B.M A' (call (.ref q) [v]) Q E s)
  (hty:∀ s g x v,Inv B s g→key g x v→Looks B.M s.heap (typeOf x) T) (hT1:(T != Value.type "tuple")=true) (hT2:(T == T)=true)
  (hlt:∀ A' s g i j x y,AOk m A'→Aag B s₀ g₀ s g→i<vs.length→j<vs.length→key g x (vs.getD i Value.none)→key g y (vs.getD j Value.none)→Aaq B A' s g (keyLt' oneType' x y) fun _ b=>b=ans i j)
  (hp:kgo ans vs.length (kas_sort vs.length)=some p) {P:PySem.Fin→Shared→Prop} {E:Value→Shared→Prop}
  (hq:∀ s' g',Aag B s₀ g₀ s' g'→Abr s₀ s' g' a (List.toArray (p.toList.map fun i=>vs.getD i Value.none))→P (.done (.ret .none)) s') :
  wpAny B.M A (ksk_tree a (.ref q) false) P E s:=by
 refine Abo oa.has fun c0 e0=>?_;unfold ksk_tree;refine wpAny_bind (listItems_at e0 rfl ?_);have t1:=Abr.turn1 O (f:=fun _=>#[]) x oa;refine wpAny_bind (listUpdate_at e0 rfl ?_ (by rw[List.size_toArray,sizeLine_eq];exact szl h64 (by decide)) (Nat.zero_le _));refine Abo t1.2.has fun c1 e1=>?_;refine wpAny_bind (seqEpoch_at e1 rfl ?_);refine wpAny_bind (wpAny_newTuple ?_ (by show vs.length≤_;rw[sizeLine_eq];exact szl h64 (by decide)));have t2:=Aag.open (o:={cls:=.type "tuple",data:=.seq vs.toArray.toList.toArray}) O t1.1.inv;have o2:=t1.2.step t2;refine wpAny_bind (wpAny_newList ?_ (Nat.zero_le _));have t3:=Abr.made O (t1.1.trans t2) (vs:=#[]);have o3:=o2.step (Aag.open (o:=seqObj "list" #[] 0) O t2.inv);have e3:=(Aag.open (o:=seqObj "list" #[] 0) O t2.inv).ext.keep _ _ (t2.ext.keep _ _ e1 Ab4) Ab4;refine wpAny_holding ?_;have hne:a≠((s.heap.update a (Obj.mapSeq fun _=>#[])).push {cls:=.type "tuple",data:=.seq vs.toArray.toList.toArray}).objs.size:=Nat.ne_of_lt (Heap.lt_size (t2.ext.keep _ _ e1 Ab4));unfold ksk_rest;refine wpAny_bind (wpAny_rule ?_);rw[List.forIn_toArray];refine wpAny_bind (wpAny_mono (AsE (a:=a) (c:=c1) (kS:=((s.heap.update a (Obj.mapSeq fun _=>#[])).push {cls:=.type "tuple",data:=.seq vs.toArray.toList.toArray}).objs.size) (vs:=vs) hm (fun v s4 g4 ks hv x4 ha4 ga4 ok4 hl4=>?_) vs [] [] _ g rfl t3.1 e3 o3.out t3.2 ⟨rfl,fun i hi=>absurd hi (Nat.not_lt_zero _)⟩) (fun _ s5 h5=>?_) fun _ _ z=>z.elim)
 ·refine wpAny_bind (wpAny_attempt (hmk _ v s4 g4 hA hv x4 _ _ fun k s5 g5 x5 hk=>?_));have ok5:=ok4.step x5;have oa5:Abr s₀ s5 g5 a #[]:=(Abr.mk ⟨c1,ha4⟩ oa.new ga4).step x5;refine Abo ok5.has fun ck ek=>?_;have ha5:=x5.ext.keep _ _ ha4 Ab4;have t6:=Abr.turn O (f:=(·.push k)) (x4.trans x5) ok5 oa5 hne.symm;dsimp only;refine wpAny_bind (listUpdate_at ek rfl ?_ (by rw[List.size_toArray,sizeLine_eq];exact szl (Nat.lt_trans hl4 h64) (by decide)) (Nat.le_trans (Nat.le_of_eq (Array.size_push ..)) (by rw[List.size_toArray,sizeLine_eq];exact szl (Nat.lt_of_le_of_lt hl4 h64) (by decide))));have ea:(List.toArray ks).push k=List.toArray (ks++[k]):=by simp
  refine wpAny_pure ⟨rfl,g5,k,t6.1,x5.le,?_,t6.2.2.out,by rw[← ea];exact t6.2.1,hk⟩;exact((Heap.SameBut.update s5.heap _ (Obj.mapSeq (·.push k))).2 a hne).trans ha5
 ·obtain⟨g5,ks,x5,ha5,ga5,ok5,hk5⟩:=h5
  refine Abo ok5.has fun ck ek=>?_;dsimp only;refine wpAny_bind (listItems_at ek rfl ?_);have hn2:¬ vs.toArray.size<2:=by rw[List.size_toArray];exact Nat.not_lt.mpr h2
  have hl:ks.length=vs.length:=hk5.1;unfold ksk_end
  try dsimp only
  simp only[Bool.false_eq_true,if_false];rw[if_neg hn2,if_neg hn2];refine wpAny_bind (kas_kind (T:=T) (by rw[hl];exact h2) (fun v hv=>?_) hT1 hT2 ?_)
  ·obtain⟨i,hi,rfl⟩:=List.mem_iff_getElem.mp hv
   have:=hk5.2 i (by rw[← hl];exact hi);rw[show ks.getD i Value.none=ks[i] by simp [hi]] at this;exact hty _ _ _ _ x5.inv this
  ·refine wpAny_bind (wpAny_mono (kat_run (G:=fun p' s'=>p'=p∧∃ g',Aag B s5 g5 s' g') (Q:=fun st' s'=>arrOf st'=p.map (kas_item (ks.toArray.zip vs.toArray))∧failedOf st'=none∧p.size=vs.length∧∃ g',Aag B s5 g5 s' g') hl h2 h64 (fun p' st' s' a1 a2 a3 a4=>by obtain⟨rfl,a4⟩:=a4;exact⟨a2,a3,a1,a4⟩)
    (AsD (P:=fun s'=>∃ g',Aag B s5 g5 s' g') (ans:=ans) (n:=vs.length) (fun i j s6 C hi hj hP hC=>?_) _ s5 p _ hp ⟨g5,Aag.refl x5.inv⟩ fun s' hs'=>⟨rfl,hs'⟩)) (fun r s6 h6=>?_) fun _ _ z=>z)
   ·obtain⟨g6,x6⟩:=hP
    exact(hlt _ s6 g6 i j _ _ hA (x5.trans x6) hi hj (hm _ _ _ _ x6.le (hk5.2 i hi)) (hm _ _ _ _ x6.le (hk5.2 j hj))).use fun b s7 g7 x7 hb=>by subst hb;exact hC s7 ⟨g7,x6.trans x7⟩
   ·obtain⟨⟨⟩,st'⟩:=r
    obtain⟨har,hf,hsz,g6,x6⟩:=h6
    have oa6:Abr s₀ s6 g6 a #[]:=(Abr.mk ⟨c1,ha5⟩ oa.new ga5).step x6;refine Ax5 O (x5.trans x6) oa6 (x6.ext.keep _ _ ha5 Ab4) (ok5.step x6) hne (by rw[hk5.1];exact h64) (by rw[List.length_map,Array.length_toList,hsz];exact h64) (kat_snds hl har) hf hq
theorem Ap7(O:B.Ok)(hA:AOk (m+1) A)(I₀:Inv B s₀ g₀){l q:Addr}{vs:List Value}(hl:s₀.heap.IsList l vs.toArray)(h2:2≤vs.length)(h64:vs.length<64){T:Value}{ans:Nat→Nat→Bool}{p:Array Nat}
  (hm:∀ g g' x v,g.le g'→key g x v→key g' x v)
  (hmk:∀ A' v s g,AOk m A'→v∈vs→Aag B s₀ g₀ s g→∀ (Q E:Value→Shared→Prop),(∀ x s' g',Aag B s g s' g'→key g' x v→Q x s')→wpAny B.M A' (call (.ref q) [v]) Q E s)
  (hty:∀ s g x v,Inv B s g→key g x v→Looks B.M s.heap (typeOf x) T) (hT1:(T != Value.type "tuple")=true) (hT2:(T == T)=true)
  (hlt:∀ A' s g i j x y,AOk m A'→Aag B s₀ g₀ s g→i<vs.length→j<vs.length→key g x (vs.getD i Value.none)→key g y (vs.getD j Value.none)→Aaq B A' s g (keyLt' oneType' x y) fun _ b=>b=ans i j)
  (hp:kgo ans vs.length (kas_sort vs.length)=some p) {Q E:Value→Shared→Prop}
  (hq:∀ D s' g',Aag B s₀ g₀ s' g'→Abr s₀ s' g' D (List.toArray (p.toList.map fun i=>vs.getD i Value.none))→Q (.ref D) s') :
  wpAny B.M A (call (.builtin "sorted") [.ref l] [(Str.ofString "key",.ref q)]) Q E s₀:=by
 refine call_function_entry_kw kind_sorted plain_sorted entry_sorted (ksk_s1 _ _) ?_;unfold Builtin.«sorted»;refine wpAny_bind (m:=checkCount "sorted" 1 1 _) (wpAny_pure ?_);refine wpAny_bind (collect_list hl ?_ (by rw[sizeLine_eq];exact szl h64 (by decide)));have t0:=Abr.made O (Aag.refl I₀) (vs:=#[]);have t1:=Abr.turn1 O (f:=(·++vs.toArray)) t0.1 t0.2;refine wpAny_bind (wpAny_newList ?_ (by rw[sizeLine_eq];exact szl h64 (by decide)));have t2:=Abr.made O t1.1 (vs:=vs.toArray);refine Abo t2.2.has fun c2 e2=>?_;refine wpAny_bind (wpAny_holding (wpAny_call_entry_kw slot_list_sort ⟨_,e2,rfl⟩ entry_list_sort ?body (ksk_l1 _ _)))
 case body=>
  show wpAny B.M A.in1.in1 (Builtin.«list.sort» ⟨[.ref _],[(Str.ofString "key",.ref q)]⟩) _ _ _;rw[ksk_t1];exact Ax6 O hA.in2 t2.1 t2.2 h2 h64 hm hmk hty hT1 hT2 hlt hp fun s' g' x' o'=>⟨_,rfl,wpAny_pure ⟨_,rfl,hq _ s' g' x' o'⟩⟩
end
noncomputable def tpD(p:Int×Int):D:=.tup [.int p.1,.int p.2]
noncomputable def ltP(p q:Int×Int):Bool:=if p.1=q.1 then (if p.2=q.2 then false else decide (p.2<q.2)) else decide (p.1<q.1)
section
variable{B:Bs}{A:Around}{s₀ s s' s'':Shared}{g₀ g g':Gh}{n m:Nat}
theorem Au5{l:List Value}{a b:Int}(h:Aav g l [.int a,.int b]):∃ t u,l=[.int a t,.int b u]:=by
 induction h using Aav.consE with|cons h1 h=>?_
 induction h using Aav.consE with|cons h2 h=>?_
 induction h using Aav.nilE;induction h1 using Den.intE;induction h2 using Den.intE;exact⟨_,_,rfl⟩
theorem Alm{x:Value}{p:Int×Int}(h:Den g x (tpD p)):∃ ad vs n t u,x=.ref ad∧g ad=some {cls:=.type "tuple",data:=.seq vs n}∧vs.toList=[.int p.1 t,.int p.2 u]:=by
 unfold tpD at h;induction h using Den.tupE with|tup e d=>?_
 refine Avs (Au5 d) fun t u hl=>?_;exact⟨_,_,_,t,u,rfl,e,hl⟩
theorem Ax7(I:Inv B s g){x y:Value}{p q:Int×Int}(hx:Den g x (tpD p))(hy:Den g y (tpD q)):Aaq B A s g (keyLt' (tuples' true) x y) fun _ r=>r=ltP p q:=by
 refine ABR (Alm hx) fun ax vs n t1 t2 q1 ex lx=>?_;subst q1;refine ABR (Alm hy) fun ay us k t3 t4 q2 ey ly=>?_;subst q2;have sx:vs.size=2:=by rw[← Array.length_toList,lx];rfl
 have sy:us.size=2:=by rw[← Array.length_toList,ly];rfl
 refine kat_lt (I.real _ _ ex) rfl (I.real _ _ ey) rfl ?_;rw[lx,ly,sx,sy];refine kat_cons (wpAny_eqBool_int ?_);unfold ltP
 by_cases h1:p.1=q.1
 ·rw[if_pos h1,show(p.1 == q.1)=true from by rw[h1];exact beq_self_eq_true _];refine kat_yes (kat_cons (wpAny_eqBool_int ?_))
  by_cases h2:p.2=q.2
  ·rw[if_pos h2,show(p.2 == q.2)=true from by rw[h2];exact beq_self_eq_true _];exact kat_yes (kat_nil ⟨g,Aag.refl I,rfl⟩)
  ·rw[if_neg h2,show(p.2 == q.2)=false from beq_eq_false_iff_ne.mpr h2];refine kat_no ?_;show wpAny _ _ (oneLt' false _ _) _ _ _;exact kat_one _ _ (PyProof.Rows.lt_int ⟨g,Aag.refl I,rfl⟩)
 ·rw[if_neg h1,show(p.1 == q.1)=false from beq_eq_false_iff_ne.mpr h1];refine kat_no ?_;show wpAny _ _ (oneLt' true _ _) _ _ _;exact oneLt_int ⟨g,Aag.refl I,rfl⟩
theorem AsF(I:Inv B s g):∀ {vs:List Value} {ps:List (Int×Int)},Aav g vs (ps.map tpD)→∃ fs,KatTups s.heap vs fs∧fs.length=vs.length∧∀ v∈fs,∃ i t,v=.int i t
 |[],ps,h=>⟨[],KatTups.nil,rfl,fun v hv=>by cases hv⟩
 |v :: vs,[],h=>by cases h using Aav.nilE
 |v :: vs,p :: ps,h=>by
  cases h using Aav.consE with|cons h1 h=>?_
  refine Aew (AsF I h) fun fs k hl hi=>?_;refine ABR (Alm h1) fun ad us n t u q3 e hu=>?_;subst q3;refine⟨.int p.1 t :: fs,KatTups.cons (I.real _ _ e) rfl rfl (by rw[← Array.getElem?_toList,hu];rfl) k,by simp [hl],fun v hv=>?_⟩
  rcases List.mem_cons.mp hv with rfl|hv
  ·exact⟨_,_,rfl⟩
  ·exact hi v hv
theorem Amj{vs:List Value}{ps:List (Int×Int)}(h:Aav g vs (ps.map tpD)){i:Nat}(hi:i<ps.length):Den g (vs.getD i Value.none) (tpD (ps.getD i (0,0))):=by refine Aaf (h.get (i:=i) (d:=tpD ps[i]) (by simp [hi])) fun v e hv=>?_;rw[show vs.getD i Value.none=v by simp [e],show ps.getD i (0,0)=ps[i] by simp [hi]];exact hv
theorem Ax8(O:B.Ok){a:Addr}{vs:List Value}{ps:List (Int×Int)}{p:Array Nat}(x:Aag B s₀ g₀ s g)(oa:Abr s₀ s g a vs.toArray)(hd:Aav g vs (ps.map tpD))(h2:2≤vs.length)(h64:vs.length<64)
  (hp:kgo (fun i j=>ltP (ps.getD i (0,0)) (ps.getD j (0,0))) vs.length (kas_sort vs.length)=some p) {P:PySem.Fin→Shared→Prop} {E:Value→Shared→Prop}
  (hq:∀ s' g',Aag B s₀ g₀ s' g'→Abr s₀ s' g' a (List.toArray (p.toList.map fun i=>vs.getD i Value.none))→P (.done (.ret .none)) s') :
  wpAny B.M A (Builtin.«list.sort» ⟨[.ref a],[]⟩) P E s:=by
 have hlen:ps.length=vs.length:=by have:=hd.length;simpa using this.symm
 refine Abo oa.has fun c0 e0=>?_;rw[list_sort_plain];refine wpAny_bind (listItems_at e0 rfl ?_);have t1:=Abr.turn1 O (f:=fun _=>#[]) x oa;refine wpAny_bind (listUpdate_at e0 rfl ?_ (by rw[List.size_toArray,sizeLine_eq];exact szl h64 (by decide)) (Nat.zero_le _));refine Abo t1.2.has fun c1 e1=>?_;refine wpAny_bind (seqEpoch_at e1 rfl ?_);refine wpAny_bind (wpAny_newTuple ?_ (by show vs.length≤_;rw[sizeLine_eq];exact szl h64 (by decide)));have t2:=Aag.open (o:={cls:=.type "tuple",data:=.seq vs.toArray.toList.toArray}) O t1.1.inv;have o2:=t1.2.step t2;refine wpAny_bind (wpAny_newList ?_ (Nat.zero_le _));have t3:=Aag.open (o:=seqObj "list" #[] 0) O t2.inv;have x3:=(t1.1.trans t2).trans t3;have o3:=o2.step t3;have e3:=t3.ext.keep _ _ (t2.ext.keep _ _ e1 Ab4) Ab4;refine wpAny_holding ?_;have hn2:¬ vs.toArray.size<2:=by rw[List.size_toArray];exact Nat.not_lt.mpr h2
 rw[if_neg hn2,if_neg hn2];refine Aew (AsF x3.inv hd) fun fs kt hfl hfi=>?_;refine wpAny_bind (kat_kind (T:=.type "int") kt (by rw[hfl];exact Nat.lt_of_lt_of_le (by decide) h2) (fun v hv=>by refine Avs (hfi v hv) fun i t q4=>?_;subst q4;exact Looks.of_pure rfl) (by decide) ?_);refine wpAny_bind (wpAny_mono (kat_run (ks:=vs) (vs:=vs) (G:=fun p' s'=>p'=p∧∃ g',Aag B _ g s' g') (Q:=fun st' s'=>arrOf st'=p.map (kas_item (vs.toArray.zip vs.toArray))∧failedOf st'=none∧p.size=vs.length∧∃ g',Aag B _ g s' g') rfl h2 h64 (fun p' st' s' a1 a2 a3 a4=>by obtain⟨rfl,a4⟩:=a4;exact⟨a2,a3,a1,a4⟩)
  (AsD (P:=fun s'=>∃ g',Aag B _ g s' g') (n:=vs.length) (fun i j s6 C hi hj hP hC=>?_) _ _ p _ hp ⟨g,Aag.refl x3.inv⟩ fun s' hs'=>⟨rfl,hs'⟩)) (fun r s6 h6=>?_) fun _ _ z=>z)
 ·obtain⟨g6,x6⟩:=hP
  exact(Ax7 x6.inv ((Amj hd (by rw[hlen];exact hi)).mono x6.le) ((Amj hd (by rw[hlen];exact hj)).mono x6.le)).use fun b s7 g7 x7 hb=>by subst hb;exact hC s7 ⟨g7,x6.trans x7⟩
 ·obtain⟨⟨⟩,st'⟩:=r
  obtain⟨har,hf,hsz,g6,x6⟩:=h6
  have oa6:=o3.step x6;have e6:=x6.ext.keep _ _ e3 Ab4;dsimp only at har hf ⊢;rw[kat_snds rfl har];refine wpAny_bind (seqEpoch_at e6 rfl ?_);have t7:=Abr.turn1 O (f:=fun _=>List.toArray (p.toList.map fun i=>vs.getD i Value.none)) (x3.trans x6) oa6;refine wpAny_bind (listUpdate_at e6 rfl ?_ (Nat.zero_le _) (by show(List.toArray (p.toList.map fun i=>vs.getD i Value.none)).size≤_;rw[List.size_toArray,List.length_map,Array.length_toList,hsz,sizeLine_eq];exact szl h64 (by decide)));rw[hf];simp only[bne_self_eq_false,Bool.false_eq_true,if_false];exact wpAny_pure (hq _ _ t7.1 t7.2)
theorem Amk(O:B.Ok)(I₀:Inv B s₀ g₀){l:Addr}{vs:List Value}{ps:List (Int×Int)}{p:Array Nat}(hl:s₀.heap.IsList l vs.toArray)(hd:Aav g₀ vs (ps.map tpD))(h2:2≤vs.length)(h64:vs.length<64)
  (hp:kgo (fun i j=>ltP (ps.getD i (0,0)) (ps.getD j (0,0))) vs.length (kas_sort vs.length)=some p) {Q E:Value→Shared→Prop}
  (hq:∀ D s' g',Aag B s₀ g₀ s' g'→Abr s₀ s' g' D (List.toArray (p.toList.map fun i=>vs.getD i Value.none))→Q (.ref D) s') :
  wpAny B.M A (call (.builtin "sorted") [.ref l]) Q E s₀:=by
 refine Calls.call_function_entry kind_sorted plain_sorted entry_sorted (args_sorted1 _) ?_;unfold Builtin.«sorted»;refine wpAny_bind (m:=checkCount "sorted" 1 1 _) (wpAny_pure ?_);refine wpAny_bind (collect_list hl ?_ (by rw[sizeLine_eq];exact szl h64 (by decide)));have t0:=Abr.made O (Aag.refl I₀) (vs:=#[]);have t1:=Abr.turn1 O (f:=(·++vs.toArray)) t0.1 t0.2;refine wpAny_bind (wpAny_newList ?_ (by rw[sizeLine_eq];exact szl h64 (by decide)));have t2:=Abr.made O t1.1 (vs:=vs.toArray);refine Abo t2.2.has fun c2 e2=>?_;refine wpAny_bind (wpAny_holding (wpAny_call_entry slot_list_sort ⟨_,e2,rfl⟩ entry_list_sort ?body (args_list_sort _)))
 case body=>
  exact Ax8 O t2.1 t2.2 hd h2 h64 hp fun s' g' x' o'=>⟨_,rfl,wpAny_pure ⟨_,rfl,hq _ s' g' x' o'⟩⟩
end
section
variable{B:Bs}{A:Around}{s₀ s s':Shared}{g₀ g g':Gh}{n m:Nat}
structure Ann(s:Shared)(g:Gh)(lam aC:Addr):Prop where
 k:∃ f0 f1 cm,KAt s.heap aC f0 f1∧KFn s g cm 2 f0∧KFn s g cm 3 f1∧s.heap.IsCell cm (some (.ref lam))
theorem Ann.step{lam aC:Addr}(k:Ann s g lam aC)(x:Aag B s g s' g'):Ann s' g' lam aC:=
 let ⟨f0,f1,cm,k1,⟨fd0,k2⟩,⟨fd1,k3⟩,k4⟩:=k;⟨f0,f1,cm,k1.ext x.ext,⟨fd0,k2.step x⟩,⟨fd1,k3.step x⟩,AcY k4 x.ext⟩
theorem AgU{vs:List Value}{ds:List D}(h:Aav g vs ds)(i:Nat):Den g (vs.getD i Value.none) (ds.getD i .none):=by
 by_cases hi:i<ds.length
 ·refine Aaf (h.get (i:=i) (d:=ds[i]) (by simp [hi])) fun v e hv=>?_;rw[show vs.getD i Value.none=v by simp [e],show ds.getD i .none=ds[i] by simp [hi]];exact hv
 ·have hv:¬ i<vs.length:=by rw[h.length];exact hi
  rw[show vs.getD i Value.none=Value.none by simp [Nat.le_of_not_lt hv],show ds.getD i .none=D.none by simp [Nat.le_of_not_lt hi]];exact .none
theorem Aji{vs:List Value}{ds:List D}(h:Aav g vs ds):∀ l:List Nat,Aav g (l.map fun i=>vs.getD i Value.none) (l.map fun i=>ds.getD i .none)
 |[]=>.nil
 |i :: l=>.cons (AgU h i) (Aji h l)
theorem Abr.shut{a:Addr}{vs:List Value}{ds:List D}(x:Aag B s₀ g₀ s g)(o:Abr s₀ s g a (List.toArray vs))(hd:Aav g vs ds):∃ g',Aag B s₀ g₀ s g'∧Den g' (.ref a) (.list ds):=by refine Abo o.has fun c e=>?_;refine⟨g.put a (seqObj "list" (List.toArray vs) c),Aag.shut x o.new e o.out Ab4,.list (Gh.put_self ..) (hd.mono (Gh.le_put _ o.out))⟩
theorem An6{v:Value}{ds:List D}(h:Den g v (.list ds)):∃ a vs n,v=.ref a∧g a=some {cls:=.type "list",data:=.seq (List.toArray vs) n}∧Aav g vs ds:=by
 induction h using Den.listE with|list e d=>?_
 exact⟨_,_,_,rfl,by rw[Array.toArray_toList];exact e,d⟩
theorem Akj{v:Value}{l:List D}(h:Den g v (.tup l)):handedIn v=true:=by induction h using Den.tupE;rfl
theorem Au6(O:B.Ok)(hA:AOk (m+3) A)(I:Inv B s g){lam aC:Addr}(km:Ann s g lam aC){Fn:List D→Option D}(hF:Amx B m s g (.ref lam) Fn){v:Value}{ds:List D}(hv:Den g v (.list ds))(h2:2≤ds.length)(h64:ds.length<64)
  (ht:∀ i,i<ds.length→∃ l,ds.getD i .none=.tup l) {ans:Nat→Nat→Bool} {p:Array Nat} (hans:∀ i j,i<ds.length→j<ds.length→∃ c,Fn [ds.getD i .none,ds.getD j .none]=some (.int c)∧ans i j=decide (c<0))
  (hp:kgo ans ds.length (kas_sort ds.length)=some p):Aaq B A s g (call (.builtin "sorted") [v] [(Str.ofString "key",.ref aC)]) fun g' r=>Den g' r (.list (p.toList.map fun i=>ds.getD i .none)):=by
 refine Avu (An6 hv) fun a vs n q1 e dl=>?_;subst q1;have hlen:vs.length=ds.length:=dl.length;refine Ap7 (m:=m+2) (key:=fun g x v=>∃ xr,x=.ref xr∧KIn g aC xr v) (T:=.ref aC) (ans:=ans) (p:=p) O hA I ⟨_,I.real _ _ e,rfl,_,rfl⟩ (by rw[hlen];exact h2) (by rw[hlen];exact h64) ?_ ?_ ?_ rfl (beq_self_eq_true _) ?_ (by rw[hlen];exact hp) ?_
 ·intro g g' x v hg q2;refine Aaf q2 fun xr z1 k=>?_;subst z1;exact⟨xr,rfl,k.mono hg⟩
 ·intro A' v s1 g1 hA' hv' x1 Q E hQ;refine Ay1 ((km.step x1).k) fun f0 f1 cm k1 k2 k3 k4=>?_;exact AA9 O hA' x1.inv k1 k2 fun x s2 g2 x2 ki=>hQ _ s2 g2 x2 ⟨x,rfl,ki⟩
 ·intro s1 g1 x v I1 q3;obtain⟨xr,rfl,dd,o,k,_⟩:=q3;exact(Looks.ld (I1.real _ _ k)).andThen .now
 ·intro A' s1 g1 i j x y hA' x1 hi hj q4;refine Aaf q4 fun xr z3 kx=>?_;subst z3;intro q5;refine Aaf q5 fun yr z4 ky=>?_;subst z4;rw[hlen] at hi hj;refine Ay1 ((km.step x1).k) fun f0 f1 cm k1 k2 k3 k4=>?_;have di:=(AgU dl i).mono x1.le;have dj:=(AgU dl j).mono x1.le;refine Aaf (hans i j hi hj) fun c hc ha=>?_;refine Abo (ht i hi) fun li ei=>?_;refine Abo (ht j hj) fun lj ej=>?_;rw[ha];exact ADP O hA' x1.inv k1 k3 (kx.inst x1.inv) (ky.inst x1.inv) (Akj (by rw[ei] at di;exact di)) (Akj (by rw[ej] at dj;exact dj)) k4 (hF.step x1) di dj hc
 ·intro D s1 g1 x1 o1;refine Aaf (Abr.shut x1 o1 (Aji (dl.mono x1.le) p.toList)) fun g2 x2 hd=>?_;exact⟨g2,x2,hd⟩
noncomputable def Awd(d:D):Option (Int×Int):=(Ay4 d).bind fun p=>Aci p.1 fun a=>Aci p.2 fun b=>some (a,b)
theorem AsG{d:D}{p:Int×Int}(h:Awd d=some p):d=tpD p:=by refine Aaf (Aak h) fun q e k_1=>?_;refine Aaf (Aas k_1) fun a q1 k_2=>?_;refine Aaf (Aas k_2) fun b q2 k_3=>?_;rw[← sj k_3,Aks e,q1,q2];rfl
noncomputable def Aln:List D→Option (List (Int×Int))
 |[]=>some []
 |d :: ds=>(Awd d).bind fun p=>(Aln ds).bind fun ps=>some (p :: ps)
theorem Ahd:∀ {ds:List D} {ps:List (Int×Int)},Aln ds=some ps→ds=ps.map tpD
 |[],ps,h=>by cases h;rfl
 |d :: ds,ps,h=>by
  refine Aaf (Aak h) fun p h1 k_1=>?_;refine Aaf (Aak k_1) fun ps' h2 k_2=>?_;rw[← sj k_2,List.map_cons,← Ahd h2,AsG h1]
noncomputable def sortD:List D→Option D:=fn1 fun a=>Adq a fun ds=>(Aln ds).bind fun ps=>
 if 2≤ds.length∧ds.length<64 then (kgo (fun i j=>ltP (ps.getD i (0,0)) (ps.getD j (0,0))) ds.length (kas_sort ds.length)).map fun p=>.list (p.toList.map fun i=>ds.getD i .none) else none
theorem AsH(O:B.Ok):AbC B n (.builtin "sorted") sortD:=by
 refine⟨.inl ⟨_,rfl⟩,fun A s g vs ds r hA I hd hr=>?_⟩;refine Aaf (Ah1 hr) fun a0 q1 k_1=>?_;subst q1;refine Aaf (Abd k_1) fun ds q2 ka=>?_;subst q2;refine Aaf (Aak ka) fun ps hps k_2=>?_;refine AaG (Abs k_2) fun hc hr=>?_;refine Aaf (Option.map_eq_some_iff.mp hr) fun p hp q6=>?_;subst q6;induction hd using Aav.consE with|cons h1 hd=>?_
 induction hd using Aav.nilE;refine Avu (An6 h1) fun a vs n q7 e dl=>?_;subst q7;have hlen:vs.length=ds.length:=dl.length;have hm:=Ahd hps;refine Amk (ps:=ps) (p:=p) O I ⟨_,I.real _ _ e,rfl,_,rfl⟩ (by rw[← hm];exact dl) (by rw[hlen];exact hc.1) (by rw[hlen];exact hc.2) (by rw[hlen];exact hp) fun D s1 g1 x1 o1=>?_;refine Aaf (Abr.shut x1 o1 (Aji (dl.mono x1.le) p.toList)) fun g2 x2 hd=>?_;exact⟨g2,x2,hd⟩
end
noncomputable def AsI:Stmt:=((Aae (nth AkE))[1]?).getD AbZ
noncomputable def AsJ:Expr:=Aaj kSt
theorem Au7:Aae (nth AkE)=[kSt,AsI]:=by kernel_rfl!
theorem ABc:kSt=.ClassDef "K" [.Name "object" AsJ.pos] [] (Aae kSt) [] [] AfI none "K" ["obj"] (Abp kSt):=by kernel_rfl!
theorem An7:AgR AfI Arc=true:=by kernel_rfl!
theorem Au8(env:Env):clos env AfI.names []=[(("mycmp":Str),(env.cells.lookup ("mycmp":Str)).getD 0)]:=by kernel_rfl!
theorem Ax9:okT (Aam Arc.names) Arc "K"=true:=by kernel_rfl!
theorem AsK:Arc.names=([("mycmp",NameKind.cell),("K",NameKind.local),("object",NameKind.globalImplicit)]:List (Str×NameKind)):=by kernel_rfl!
theorem Aya:∃ p q,AsI=.Return (some (.Name "K" p)) q:=⟨_,_,rfl⟩
section
variable{M:Model}{A:Around}{E:Value→Shared→Prop}{s:Shared}
theorem Ajj{f:Value}{x:Sem Value}{Q:Args→Shared→Prop}(h:wpAny M A x (fun v s'=>Q ⟨[v],[]⟩ s') E s):wpAny M A (evalArgs f false [(false,x)] []) Q E s:=by unfold evalArgs;show wpAny M A (spliced [(false,x)] >>= _) Q E s;refine wpAny_bind (Calls.spliced_cons (wpAny_mono h (fun v s' h'=>?_) fun _ _ x=>x));refine wpAny_pure ?_;exact wpAny_holding (wpAny_bind (wpAny_pure (wpAny_bind (wpAny_pure (wpAny_pure h')))))
theorem Ano{f:Value}{x y:Sem Value}{k:Str}{Q:Args→Shared→Prop}(h:wpAny M A x (fun v s1=>wpAny M A y (fun u s2=>Q ⟨[v],[(k,u)]⟩ s2) E s1) E s):wpAny M A (evalArgs f true [(false,x)] [(some k,y)]) Q E s:=by unfold evalArgs;show wpAny M A (spliced [(false,x)] >>= _) Q E s;refine wpAny_bind (Calls.spliced_cons (wpAny_mono h (fun v s1 h1=>?_) fun _ _ x=>x));refine wpAny_pure (wpAny_holding ?_);show wpAny M A (evalAll [y] >>= _) Q E s1;refine wpAny_bind (evalAll_cons (wpAny_mono h1 (fun u s2 h2=>evalAll_nil ?_) fun _ _ x=>x));exact wpAny_bind (wpAny_pure (wpAny_pure h2))
end
section
variable{B:Bs}{A:Around}{s s':Shared}{g g':Gh}{n m:Nat}
noncomputable def ABd(s s' s'':Shared):Prop:=∀ a o,Abv o→((∃ es n,o.data=.dict es n)∨(∃ v,o.data=.cell v)→s.heap.get? a=none)→s'.heap.get? a=some o→s''.heap.get? a=some o
theorem Ago.keepK{s1:Shared}{a:Addr}{fd:FuncData}{params:Arguments}{body:FuncBody}{scope:Scope}{cl:List (Str×Addr)}(m:Ago s'.heap g a fd params body scope cl)(k:ABd s s' s1):Ago s1.heap g a fd params body scope cl:=by
 refine Alo m.code fun c' o' e1 e2 e3 e4=>?_;have e5:s1.heap.get? c'=some o':=by
  refine k c' o' e3 (fun h=>?_) e2;rw[e1] at e4;refine Avv e4 fun c₂ o₂ vs t f1 f2 f3 _=>?_
  cases f1;rw[e2] at f2;cases f2
  rcases h with ⟨es,n,h⟩|⟨v,h⟩<;>rw[f3] at h<;>(first|(injection h;done)|cases h)
 refine⟨m.obj,⟨c',o',e1,e5,e3,?_⟩,m.params,m.body,m.scope,m.glob,m.blt,m.clos,m.defs⟩;rw[e1] at e4 ⊢;exact AbG e4 e2 e5
theorem Au9(W:LW B)(hA:AOk (n+2) A)(I:Inv B s g){lam:Addr}{Q E:Value→Shared→Prop}(hq:∀ aC s' g',Aag B s g s' g'→(∀ s'',ABd s s' s''→Ann s'' g' lam aC)→Q (.ref aC) s'):wpAny B.M A (call (.ref AdC) [.ref lam]) Q E s:=by
 have D0:=AlM W.G;refine Agp (n:=n+1) W.O D0.to0 D0.scope hA I ?_;rw[D0.bind [.ref lam] rfl];refine wpAny_pure ⟨g,[.ref lam],[.val (.ref lam)],Aag.refl I,rfl,.cons .val .nil,rfl,fun env s1 e1 e2 e3 F=>?_⟩;have hA':AOk (n+1) (A.deeper env):=hA.deeper;rw[Afg] at e1;rw[Afg,← e1] at F;rw[show Aae (nth AkE)=[kSt,AsI] from Au7];refine wpAny_execs_cons ?_;rw[ABc,arm_exec_ClassDef];refine Adp (F.cells "mycmp" (.inl (by unfold Env.kindOf;rw[e1];kernel_rfl!))) fun cm cv c1 c2 c3=>?_;refine Aaf (c3 (.val (.ref lam)) rfl) fun v' q1 c4=>?_;subst q1;induction c4 using Den.valE;refine Abo W.cls.nm fun bm bmO=>?_;refine Aaf W.cls.st fun mc hmc hno=>?_;refine Afx (Ak8 (a:=AdC) W (Az0 B.w.params)) fun c P hcd hmem=>?_;refine wpAny_bind (wpAny_pure (wpAny_bind (wpAny_standAt (wpAny_bind ?_))));unfold buildClassGuard;rw[F.blt];refine wpAny_bind (wpAny_nsGet (F.inv.ns W.O.b) ?_);rw[W.cls.bc];refine wpAny_pure (wpAny_bind (wpAny_holding ?_));refine wpAny_bind ?_;show wpAny _ _ (evalArgs (.builtin "__build_class__") false (backTo _ (starEach [.Name "object" AsJ.pos] env)) []) _ _ _;rw[Aaw (es:=[.Name "object" AsJ.pos]) (by intro e he;rcases List.mem_cons.mp he with rfl|he;rfl;cases he)];refine Ajj ((F.gname W.O (by unfold Env.kindOf;rw[e1];kernel_rfl!) W.cls.obj rfl).use fun ov s2 g2 x2 ho=>?_);subst ho;have F2:=F.step x2;refine wpAny_bind (wpAny_standAt (wpAny_holding ?_));have hq0:qualnameIn env "K" "K" = "cmp_to_key.<locals>.K":=by
  unfold qualnameIn;have:(env.kindOf ("K":Str) == some NameKind.globalExplicit)=false:=by unfold Env.kindOf;rw[e1];kernel_rfl!
  rw[this,if_neg Bool.false_ne_true,e3,AzZ];rfl
 rw[hq0];refine AaG (AeP F2 (scope:=AfI) (fun x hx=>(Abj An7 x hx).1) (fun x hx=>by unfold Env.kindOf;rw[e1];exact(Abj An7 x hx).2)) fun hcl _=>?_;rw[Au8,c1] at hcl;refine ArJ W.O W.bm W.TT W.cls F2.inv (e2.trans hcd) hmem F.glob F.blt hcl ADG bmO hA'.dlt ACh hmc hno fun aC s3 g3 x3 k=>?_;have F3:=F2.step x3;refine Adp (k.kAt F3.inv) fun f0 f1 kk k0 k1=>?_;refine wpAny_bind (Ab3 (show decorate ((([]:List Value).zip (([]:List Expr).map (·.pos))).reverse) (.ref aC)=pure (.ref aC) from rfl) ?_);refine wpAny_bind (wpAny_standAt (wpAny_bind (wpAny_bindName ?_)));refine F3.store W.O (Abl (by rw[e1];exact Ax9)) (d:=.val (.ref aC)) .val fun s4 F4 oth=>wpAny_pure ?_;refine wpAny_execs_cons ?_;refine Avs Aya fun p q hr=>?_;rw[hr];refine wpAny_Return_some ((F4.name (x:="K") rfl rfl).useV fun s5 g5 x5=>?_);have Fx:=F4.step x5;refine hq aC s5 g5 Fx.st fun s6 kp=>⟨f0,f1,cm,kk s6.heap (fun a o hn hd hc e=>kp a o hn (fun h=>?_) (x5.ext.keep a o (oth a o (fun hl=>?_) e) hn)),?_,?_,?_⟩
 ·rcases h with ⟨es,n,h⟩|⟨v,h⟩
  ·exact F2.st.ext.dead (hd es n h)
  ·exact absurd h (hc v)
 ·rcases hl with rfl|⟨x,hx,e4⟩
  ·refine Aaf F3.vars fun m3 h3 _=>?_;refine AgZ h3 fun o3 ho3 _ _ es n3 hdat=>?_;rw[e] at ho3;cases ho3;refine Aaf F2.vars fun m2 h2 _=>?_;refine Aaf (Afy h2) fun o2 ho2 _=>?_;rw[hd es n3 hdat] at ho2;exact Aah ho2
  ·refine Adp (F3.own x hx) fun cc v d1 q2 _=>?_;obtain⟨o3,ho3,hdat⟩:=q2;rw[e4] at d1;cases d1;rw[e] at ho3;cases ho3;exact hc _ hdat
 ·obtain⟨fd,m⟩:=k0
  exact⟨fd,((m.oth F3 oth).step x5).keepK kp⟩
 ·obtain⟨fd,m⟩:=k1
  exact⟨fd,((m.oth F3 oth).step x5).keepK kp⟩
 ·refine Adp (Fx.cells "mycmp" (.inl (by unfold Env.kindOf;rw[e1];kernel_rfl!))) fun c' v d1 d2 d3=>?_;refine Aaf (d3 (.val (.ref lam)) rfl) fun v' q3 d4=>?_;subst q3;induction d4 using Den.valE;rw[c1] at d1;cases d1;refine Alo (Fx.own "mycmp" (by rw[e1];exact Aey.mpr (by rw[show Aad (nth AkE)=Arc from rfl,AsK];exact .head _))) fun c2' v2 q1 q2 q3 _=>?_;rw[c1] at q1;cases q1
  obtain⟨oc,ho,hdat⟩:=d2
  exact⟨oc,kp _ _ (Acr fun vs e=>by rw[hdat] at e;injection e) (fun _=>q3) ho,hdat⟩
end
theorem Ajk{α:Type}{ans ans':Nat→Nat→Bool}{n:Nat}(h:∀ i j,i<n→j<n→ans i j=ans' i j)(t:KasT α):kgo ans n t=kgo ans' n t:=by
 induction t with
 |ret a=>rfl
 |ask i j k ih=>
  show(if (Nat.blt i n && Nat.blt j n)=true then kgo ans n (k (ans i j)) else none)=(if (Nat.blt i n && Nat.blt j n)=true then kgo ans' n (k (ans' i j)) else none)
  cases hb:(Nat.blt i n && Nat.blt j n) with
  |false=>rfl
  |true=>
   simp only[Bool.and_eq_true,Nat.blt_eq] at hb;rw[if_pos rfl,if_pos rfl,h i j hb.1 hb.2];exact ih _
theorem ADQ:∀ i:Nat,i<6→(i=0∨i=1∨i=2∨i=3∨i=4∨i=5):=by decide +kernel
theorem six{i:Nat}(hi:i<6):i=0∨i=1∨i=2∨i=3∨i=4∨i=5:=ADQ i hi
noncomputable def a1(l:List Nat)(i j:Nat):Bool:=Nat.blt (l.getD i 0) (l.getD j 0)
noncomputable def a2(l:List Nat)(i j:Nat):Bool:=cond (Nat.beq (l.getD i 0) (l.getD j 0)) (Nat.blt i j) (Nat.blt (l.getD i 0) (l.getD j 0))
noncomputable def ADr(x y:Option (Array Nat)):Bool:=x.elim false fun p=>y.elim false fun q=>p.toList == q.toList && (Nat.ble p.toList.length 6 && p.toList.all fun i=>Nat.blt i 6)
noncomputable def Ayb(l:List Nat):Bool:=ADr (kgo (a1 l) 6 (kas_sort 6)) (kgo (a2 l) 6 (kas_sort 6))
noncomputable def cnt(p:Nat→Bool)(l:List Nat):Nat:=l.rec 0 fun x _ c=>cond (p x) (c+1) c
noncomputable def Ayc(l:List Nat):Bool:=l.all fun x=>Nat.beq x (cnt (fun y=>Nat.blt y x) l)
noncomputable def L6:List Nat:=[0,1,2,3,4,5]
noncomputable def Ayd(p:Nat→Bool):Bool:=(List.range 6).all p
noncomputable def AdW(a:Nat):Bool:=Ayd fun b=>Ayd fun c=>Ayd fun d=>Ayd fun e=>Ayd fun f=>cond (Ayc [a,b,c,d,e,f]) (Ayb [a,b,c,d,e,f]) true
theorem ch0:AdW 0=true:=by kernel_rfl
theorem ch1:AdW 1=true:=by kernel_rfl
theorem ch2:AdW 2=true:=by kernel_rfl
theorem ch3:AdW 3=true:=by kernel_rfl
theorem ch4:AdW 4=true:=by kernel_rfl
theorem ch5:AdW 5=true:=by kernel_rfl
theorem AgV{p:Nat→Bool}(h:Ayd p=true){i:Nat}(hi:i<6):p i=true:=List.all_eq_true.mp h i (List.mem_range.mpr hi)
theorem ABe:Ayd AdW=true:=by show(AdW 0 && (AdW 1 && (AdW 2 && (AdW 3 && (AdW 4 && (AdW 5 && true))))))=true;rw[ch0,ch1,ch2,ch3,ch4,ch5];rfl
theorem Ava{p q:Nat→Bool}(h:∀ k,p k=true→q k=true)(l:List Nat):cnt p l≤cnt q l:=by
 induction l with
 |nil=>exact Nat.le_refl _
 |cons n l ih=>
  show cond (p n) (cnt p l+1) (cnt p l)≤cond (q n) (cnt q l+1) (cnt q l)
  cases hp:p n with
  |true=>rw[h n hp];exact Nat.succ_le_succ ih
  |false=>cases q n with
   |true=>exact Nat.le_succ_of_le ih
   |false=>exact ih
theorem Awe{p q:Nat→Bool}(h:∀ k,p k=true→q k=true){i:Nat}(hp:p i=false)(hq:q i=true){l:List Nat}(hi:i∈l):cnt p l<cnt q l:=by
 induction hi with
 |head l=>
  show cond (p i) (cnt p l+1) (cnt p l)<cond (q i) (cnt q l+1) (cnt q l);rw[hp,hq];exact Nat.lt_succ_of_le (Ava h l)
 |tail n hi ih=>
  rename_i l;show cond (p n) (cnt p l+1) (cnt p l)<cond (q n) (cnt q l+1) (cnt q l)
  cases hp:p n with
  |true=>rw[h n hp];exact Nat.succ_lt_succ ih
  |false=>cases q n with
   |true=>exact Nat.lt_succ_of_lt ih
   |false=>exact ih
theorem AsL{p q:Nat→Bool}(l:List Nat)(h:∀ k,k∈l→p k=q k):cnt p l=cnt q l:=by
 induction l with
 |nil=>rfl
 |cons n l ih=>
  show cond (p n) (cnt p l+1) (cnt p l)=cond (q n) (cnt q l+1) (cnt q l);rw[ih fun k hk=>h k (List.mem_cons_of_mem _ hk),h n List.mem_cons_self]
theorem in6{i:Nat}(hi:i<6):i∈L6:=List.mem_range.mpr hi
section
variable(w:Nat→Int)
noncomputable def rI(i:Nat):Nat:=cnt (fun k=>decide (w k<w i)) L6
theorem ABf{i j:Nat}(hi:i<6)(h:w i<w j):rI w i<rI w j:=
 Awe (fun k hk=>decide_eq_true (Int.lt_trans (of_decide_eq_true hk) h)) (i:=i) (decide_eq_false (Int.lt_irrefl _)) (decide_eq_true h) (in6 hi)
theorem ACL{i:Nat}(hi:i<6):rI w i<6:=
 Nat.lt_of_lt_of_eq (Awe (fun _ _=>rfl) (i:=i) (decide_eq_false (Int.lt_irrefl _)) rfl (in6 hi)) (rfl:cnt (fun _=>true) L6=6)
theorem Aml{i j:Nat}(hi:i<6)(hj:j<6):Nat.blt (rI w i) (rI w j)=decide (w i<w j):=by
 by_cases h:w i<w j
 ·rw[decide_eq_true h];exact Nat.blt_eq.mpr (ABf w hi h)
 ·rw[decide_eq_false h]
  cases hb:Nat.blt (rI w i) (rI w j) with
  |false=>rfl
  |true=>
   have hb:=Nat.blt_eq.mp hb
   rcases Int.lt_or_eq_of_le (Int.not_lt.mp h) with h1|h1
   ·exact absurd (ABf w hj h1) (Nat.lt_asymm hb)
   ·unfold rI at hb;rw[h1] at hb;exact absurd hb (Nat.lt_irrefl _)
noncomputable def lI:List Nat:=L6.map (rI w)
theorem ABJ{i:Nat}(hi:i<6):(lI w).getD i 0=rI w i:=by
 rcases six hi with rfl|rfl|rfl|rfl|rfl|rfl<;>rfl
theorem Avb:Ayc (lI w)=true:=
 List.all_eq_true.mpr fun x hx=>by
  refine Aaf (List.mem_map.mp hx) fun i hi e=>?_;subst e;show Nat.beq (rI w i) (cnt (fun k=>Nat.blt (rI w k) (rI w i)) L6)=true;refine(congrArg (Nat.beq _) (AsL L6 fun k hk=>?_)).trans (Nat.beq_refl (rI w i));exact Aml w (List.mem_range.mp hk) (List.mem_range.mp hi)
theorem Aye:Ayb (lI w)=true:=by have g:=fun k hk=>ACL w (i:=k) hk;have h0:=AgV (AgV (AgV (AgV (AgV (AgV ABe (g 0 (by decide))) (g 1 (by decide))) (g 2 (by decide))) (g 3 (by decide))) (g 4 (by decide))) (g 5 (by decide));have h1:cond (Ayc (lI w)) (Ayb (lI w)) true=true:=h0;rw[Avb w] at h1;exact h1
theorem Avc{x y:Option (Array Nat)}(h:ADr x y=true):∃ P Q,x=some P∧y=some Q∧P.toList=Q.toList∧P.toList.length≤6∧∀ i∈P.toList,i<6:=by
 induction x using Option.casesOn with
 |none=>injection h
 |some P=>induction y using Option.casesOn with
  |none=>injection h
  |some Q=>
   have h:(P.toList == Q.toList && (Nat.ble P.toList.length 6 && P.toList.all fun i=>Nat.blt i 6))=true:=h;have h1:=Bool.and_eq_true_iff.mp h;have h2:=Bool.and_eq_true_iff.mp h1.2;exact⟨P,Q,rfl,rfl,eq_of_beq h1.1,Nat.le_of_ble_eq_true h2.1,fun i hi=>Nat.blt_eq.mp (List.all_eq_true.mp h2.2 i hi)⟩
theorem ACM:∃ P Q:Array Nat,kgo (fun i j=>decide (w i<w j)) 6 (kas_sort 6)=some P∧kgo (fun i j=>ltP (w i,(i:Int)) (w j,(j:Int))) 6 (kas_sort 6)=some Q∧P.toList=Q.toList∧P.toList.length≤6∧∀ i∈P.toList,i<6:=by
 have e1:kgo (fun i j=>decide (w i<w j)) 6 (kas_sort 6)=kgo (a1 (lI w)) 6 (kas_sort 6):=Ajk (fun i j hi hj=>by
  unfold a1;rw[ABJ w hi,ABJ w hj,Aml w hi hj]) _
 have e2:kgo (fun i j=>ltP (w i,(i:Int)) (w j,(j:Int))) 6 (kas_sort 6)=kgo (a2 (lI w)) 6 (kas_sort 6):=Ajk (fun i j hi hj=>by
  unfold a2 ltP;dsimp only;rw[ABJ w hi,ABJ w hj,Aml w hi hj]
  by_cases he:w i=w j
  ·rw[if_pos he,show Nat.beq (rI w i) (rI w j)=true from by unfold rI;rw[he];exact Nat.beq_refl _];show _=Nat.blt i j
   by_cases hij:i<j
   ·rw[if_neg (by omega),decide_eq_true (by omega),Nat.blt_eq.mpr hij]
   ·rw[show Nat.blt i j=false from Bool.eq_false_iff.mpr fun h=>hij (Nat.blt_eq.mp h)]
    split
    ·rfl
    ·exact decide_eq_false (by omega)
  ·rw[if_neg he]
   cases hb:Nat.beq (rI w i) (rI w j) with
   |false=>rfl
   |true=>
    have e:=Nat.eq_of_beq_eq_true hb;have h1:=Aml w hi hj;have h2:=Aml w hj hi;rw[e] at h1 h2;have n:Nat.blt (rI w j) (rI w j)=false:=Bool.eq_false_iff.mpr fun h=>Nat.lt_irrefl _ (Nat.blt_eq.mp h);have h1:=of_decide_eq_false (h1.symm.trans n);have h2:=of_decide_eq_false (h2.symm.trans n);exact absurd (Int.le_antisymm (Int.not_lt.mp h2) (Int.not_lt.mp h1)) he) _
 rw[e1,e2];exact Avc (Aye w)
end
end Mine
namespace Mine
open PySem PySem.W PyProof.Rows PySem.W.X
theorem Awf{own:List Str}{sc:Scope}{T0:Rho→Expr→Option Bool}{x:Str}{q:Pos}{elt:Expr}{E:Rho→Expr→Option D}{ρ:Rho}{f:D→D}
  (hb:∀ d,(if (Aj2 (.Name x q)).all (fun x=>(ρ.lookup x).isNone)=true then Ac8 own sc (.Name x q) d ρ else none)=some ((x,d) :: ρ)) :
  ∀ (items acc:List D),(∀ d∈items,E ((x,d) :: ρ) elt=some (f d))→acc.length+items.length<1000000→Abi own sc T0 (.Name x q) [] (AfA E own sc elt []) ρ items acc=some (acc++items.map f)
 |[],acc,_,_=>by rw[List.map_nil,List.append_nil];rfl
 |d :: ds,acc,h,hl=>by
  simp only[List.length_cons] at hl;refine Abn (hb d) rfl (Ab9 (h d (.head _)) (by omega)) ?_;have:=Awf (T0:=T0) hb ds (acc++[f d]) (fun d' hd'=>h d' (.tail _ hd')) (by simp;omega);rw[this,List.map_cons,List.append_assoc];rfl
noncomputable def AsM:D→Bool
 |.int _=>true
 |.str x=>PyData.canLay0 (.str x)
 |_=>false
theorem Akk:∀ {l:List D},l.all AsM=true→∃ ps,Awk l=some ps∧PyData.canLayAll0 ps=true∧PyData.depthAll ps=0∧PyData.eqvAll ps ps=true
 |[],_=>⟨[],by simp only[Awk],by simp only[PyData.canLayAll0],by simp only[PyData.depthAll],by simp only[PyData.eqvAll]⟩
 |d :: l,h=>by
  simp only[List.all_cons,Bool.and_eq_true] at h;refine Amu (Akk h.2) fun ps e1 e2 e3 e4=>?_;induction d using D.casesOn with
  |int i=>exact⟨.int i :: ps,Aau rfl (Aau e1 rfl),by simp only[PyData.canLayAll0,PyData.canLay0,e2,Bool.and_self],by simp only[PyData.depthAll,PyData.depth,e3,Nat.max_self],by simp only[PyData.eqvAll,PyData.eqv,e4,beq_self_eq_true,Bool.and_self]⟩
  |str x=>exact⟨.str x :: ps,Aau rfl (Aau e1 rfl),by simp only[PyData.canLayAll0,e2,Bool.and_true];exact h.1,by simp only[PyData.depthAll,PyData.depth,e3,Nat.max_self],by simp only[PyData.eqvAll,PyData.eqv,e4,beq_self_eq_true,Bool.and_self]⟩
  |_=>simp [AsM] at h
theorem An8{l:List D}(h:l.all AsM=true):eqD (.list l) (.list l)=some true:=by refine Amu (Akk h) fun ps e1 e2 e3 e4=>?_;have hp:pyD (.list l)=some (.list ps):=Aau e1 rfl;exact Aau hp (Aau hp (ift ⟨by simp only[PyData.canLay0,e2],by simp only[PyData.canLay0,e2],by simp only[PyData.depth,e3];omega⟩ (by simp only[PyData.eqv,e4])))
end Mine
namespace Mine
open PySem PySem.W PyProof.Rows PySem.W.X PySem.Calls
noncomputable def oS(i:Nat):Stmt:=((Aae (nth Aa5))[i]?).getD AbZ
noncomputable def g0(e:Expr):Comprehension:=((Ay2 e)[0]?).getD ⟨e,e,[],0⟩
noncomputable def AhH:Expr:=AsZ (Aaj (oS 0))
noncomputable abbrev s_ord:Scope:=AjO
theorem ABg:Aae (nth Aa5)=[oS 0,oS 1,oS 2,oS 3]:=by kernel_rfl!
theorem ADR:oS 0=.Assign [.Name "key" (AbH (oS 0)).pos] (.Call (.Name "cmp_to_key" (Ac7 (Aaj (oS 0)))) [AhH] [] (Aaj (oS 0)).pos) (Abp (oS 0)):=by kernel_rfl!
theorem ABh:AhH=.Lambda (Agj AhH) (lamBody AhH) (AcX AhH) AhH.pos:=by kernel_rfl!
theorem ADS:oS 1=.Assign [.Name "places" (AbH (oS 1)).pos] (.ListComp (lcElt (Aaj (oS 1))) [g0 (Aaj (oS 1))] (AcX (Aaj (oS 1))) (Aaj (oS 1)).pos) (Abp (oS 1)):=by kernel_rfl!
noncomputable def oIt:Expr:=(g0 (Aaj (oS 1))).iter
noncomputable def oX:Expr:=AsZ oIt
noncomputable def kw0:Keyword:=((ABV oIt)[0]?).getD ⟨none,oIt,⟨0,0,0,0⟩⟩
theorem ADT:g0 (Aaj (oS 1))=⟨.Name "item" (g0 (Aaj (oS 1))).target.pos,oIt,[],0⟩:=by kernel_rfl!
theorem ADU:oIt=.Call (.Name "sorted" (Ac7 oIt)) [oX] [⟨some "key",.Name "key" kw0.value.pos,kw0.pos⟩] oIt.pos:=by kernel_rfl!
theorem Ayf:AbL oX=true:=by kernel_rfl!
theorem AsN:(AcX AhH).names=([("one",NameKind.local),("other",NameKind.local),("_law_compared",NameKind.globalImplicit)]:List (Str×NameKind)):=by kernel_rfl!
theorem Avd(x:Str):(AcX AhH).names.lookup x≠some .free:=by
 rw[AsN];intro e;simp only[List.lookup_cons,List.lookup_nil] at e
 split at e
 ·cases e
 ·split at e
  ·cases e
  ·split at e<;>(first|exact Aah e|cases e)
theorem ABi:AeI (AcX AhH) ["one","other"]=true:=by kernel_rfl!
theorem AsO:AgR (AcX AhH) s_ord=true:=by kernel_rfl!
theorem Ave(env:Env):clos env (AcX AhH).names []=[]:=by kernel_rfl!
theorem Avf(env:Env):defaultsOf (Agj AhH) env=([],[]):=by kernel_rfl!
theorem Ap8:∀ (fd:FuncData) (a b:Value),fd.params=Agj AhH→fd.defaults=.none→fd.kwdefaults=.none→bindArgs fd ⟨[a,b],[]⟩=pure [(("one":Str),a),("other",b)]:=by
 intro q1;obtain⟨nm,qn,pr,bd,sc,gl,cl,df,kd,dc,pm,an,cd,ct,bt⟩:=q1;intro a b h1 h2 h3;simp only at h1 h2 h3;subst h1 h2 h3
 kernel_rfl!
theorem AsP:AmN (Agj AhH) ["one","other"]:=fun fd vs e1 e2 e3 e4=>L2 (P:=fun vs=>bindArgs fd ⟨vs,[]⟩=pure ([("one":Str),"other"].zip vs)) e4 fun u v=>Ap8 fd u v e1 e2 e3
theorem Ayg:okT (Aam s_ord.names) s_ord "key"=true:=by kernel_rfl!
noncomputable def ABj:Tb:=mkL (Adx [(.ref Aay,comparedD)])
noncomputable def lamD(ds:List D):Option D:=if [("one":Str),"other"].length=ds.length then ev ABj 8 (AcX AhH) ([("one":Str),"other"].zip ds).reverse (lamBody AhH) else none
theorem Avg{a b:Str}{i j c:Int}(h:comparedD [.str a,.str b]=some (.int c)):lamD [.tup [.str a,.int i],.tup [.str b,.int j]]=some (.int c):=by unfold lamD;rw[if_pos (show[("one":Str),"other"].length=[D.tup [.str a,.int i],D.tup [.str b,.int j]].length from rfl)];exact AaR rfl rfl (AaK rfl rfl rfl rfl rfl rfl) rfl (Aao rfl rfl (AaH rfl rfl (Aaa rfl rfl rfl) (Aac rfl rfl) rfl) (Aao rfl rfl (AaH rfl rfl (Aaa rfl rfl rfl) (Aac rfl rfl) rfl) (Aar rfl))) h
section
variable{B:Bs}{A:Around}{s₀ s s':Shared}{g₀ g g':Gh}{m n:Nat}{own:List Str}{env:Env}{ρ:Rho}
theorem ABk(W:LW B)(I:Inv B s g){a:Addr}{fd:FuncData}(Md:Ago s.heap g a fd (Agj AhH) (.expr (lamBody AhH)) (AcX AhH) []):Amx B (m+5) s g (.ref a) lamD:=by
 refine⟨.inr (.inr ⟨a,_,fd,rfl,Md.obj,rfl⟩),fun A s1 g1 vs ds r hA x hd hr=>?_⟩;unfold lamD at hr
 split at hr
 ·rename_i hl;refine Awy W.O (Md.step x) AsP ABi (Aki Avd) hA x.inv hd hl fun env s2 e1 e2 F=>?_;rw[List.append_nil] at F;refine(AaZ W.O (n:=m+4) (T:=ABj) (Acn W (AaX (al (Anj (m:=m) W) an)) s1 g1 x.inv) hA.deeper 8).1 _ env _ _ r s2 g1 (by rw[e1];exact hr) F
 ·exact Aah hr
theorem Avh(W:LW B)(F:Fm B s₀ g₀ own env ρ s g)(e1:env.scope=s_ord)(e2:env.code=(Aai B.w.params Aan).code)(e3:env.qual=(Aai B.w.params Aan).qualname++".<locals>."){Q E:Value→Shared→Prop}
  (hq:∀ a fd s' g',Aag B s g s' g'→Ago s'.heap g' a fd (Agj AhH) (.expr (lamBody AhH)) (AcX AhH) []→Q (.ref a) s'):wpAny B.M A (eval AhH env) Q E s:=by
 refine Afx (Ak8 (a:=Aan) W (Ai1 B.w.params)) fun c P hcd hmem=>?_;refine AaG (AeP F (scope:=AcX AhH) (fun x hx=>(Abj AsO x hx).1) (fun x hx=>by unfold Env.kindOf;rw[e1];exact(Abj AsO x hx).2)) fun hcl _=>?_;rw[Ave] at hcl;rw[ABh];refine kla_eval (Avf env) ?_;refine Aqx W.O W.bm W.TT F.inv hcl F.glob (e2.trans hcd) hmem ?_ fun a fd s' g' x M=>hq a fd s' g' x M;rw[e3,Ai0];exact AzU
theorem Avi(W:LW B)(hA:AOk (m+8) A)(F:Fm B s₀ g₀ own env ρ s g)(e1:env.scope=s_ord){lam aC:Addr}(km:Ann s g lam aC)(hF:Amx B (m+5) s g (.ref lam) lamD)(hk:ρ.lookup ("key":Str)=some (.val (.ref aC))){ds:List D}
  (hX:∀ s1 g1,Fm B s₀ g₀ own env ρ s1 g1→Aaq B A s1 g1 (eval oX env) fun g' v=>Den g' v (.list ds)) (h2:2≤ds.length) (h64:ds.length<64) (ht:∀ i,i<ds.length→∃ l,ds.getD i .none=.tup l) {ans:Nat→Nat→Bool} {p:Array Nat}
  (hans:∀ i j,i<ds.length→j<ds.length→∃ c,lamD [ds.getD i .none,ds.getD j .none]=some (.int c)∧ans i j=decide (c<0)) (hp:kgo ans ds.length (kas_sort ds.length)=some p) :
  Aaq B A s g (eval oIt env) fun g' r=>Den g' r (.list (p.toList.map fun i=>ds.getD i .none)):=by
 rw[ADU];show wpAny B.M A (do callWith oIt.pos (← eval (.Name "sorted" (Ac7 oIt)) env) [] (backTo oIt.pos (starEach [oX] env)) (backToKw oIt.pos (keywordEach [⟨some "key",.Name "key" kw0.value.pos,kw0.pos⟩] env))) _ _ s;refine wpAny_bind ((F.gname W.O (x:="sorted") (v:=.builtin "sorted") (by unfold Env.kindOf;rw[e1];kernel_rfl!) (Abm W "sorted" _ rfl) rfl).use fun fv s1 g1 x1 hf=>?_);subst hf;have F1:=F.step x1;rw[Aaw (es:=[oX]) (by intro e he;rcases List.mem_cons.mp he with rfl|he;exact Ayf;cases he)];refine callWith_of (P:=fun _=>True) rfl (fun h _=>⟨.machine,.inr (.inl rfl),.now⟩) ?_;show wpAny B.M A (evalArgs (.builtin "sorted") true [(false,eval oX env)] [(some "key",eval (.Name "key" kw0.value.pos) env >>= fun v=>standAt oIt.pos >>= fun _=>pure v)]) _ _ s1;refine Ano ((hX s1 g1 F1).use fun v s2 g2 x2 hv=>?_);refine wpAny_bind (((F1.step x2).name hk (by decide)).useV fun s3 g3 x3=>?_);refine wpAny_bind (wpAny_standAt (wpAny_pure ⟨trivial,?_⟩));have x:=(x1.trans x2).trans x3;exact(Au6 W.O hA x.inv (km.step x) (hF.step x) (hv.mono x3.le) h2 h64 ht hans hp).from x
end
noncomputable def AhI:Tb:=mkL (Adx [(.ref Abf,dueD),(.ref AaE,turnedD),(.builtin "sorted",sortD),(.type "range",bRange)])
section
variable{B:Bs}{A:Around}{s s':Shared}{g g':Gh}{m:Nat}
theorem Avj(W:LW B)(s:Shared)(g:Gh)(I:Inv B s g):Acw B (m+8) AhI s g:=Acn W (AaX (al ((Asg (m:=m) W).up (Nat.add_le_add_left (by decide) _)) (al ((Amc (m:=m) W).up (Nat.add_le_add_left (by decide) _)) (al (AsH W.O) (al (AfF W.O) an))))) s g I
noncomputable def ADV(nums ps:List D)(ways:D):Rho:=[("ways",ways),("paths",.list ps),("numbers",.list nums)]
noncomputable abbrev AyV(aC:Addr)(nums ps:List D)(ways:D):Rho:=[("key",.val (.ref aC)),("ways",ways),("paths",.list ps),("numbers",.list nums)]
noncomputable abbrev ACN(aC:Addr)(nums ps out:List D)(ways:D):Rho:=[("places",.list out),("key",.val (.ref aC)),("ways",ways),("paths",.list ps),("numbers",.list nums)]
theorem Ap9(aC:Addr)(nums ps out:List D)(ways:D):Ac8 (Aam s_ord.names) s_ord (.Name "places" (AbH (oS 1)).pos) (.list out) (AyV aC nums ps ways)=some (ACN aC nums ps out ways):=by kernel_rfl!
theorem Avk:AbD (AcX (Aaj (oS 1))) s_ord=true:=by kernel_rfl!
theorem Ayh:AcA oIt=true:=by kernel_rfl!
theorem Avl(W:LW B)(hA:AOk (m+10) A)(I:Inv B s g){v1 v2 v3:Value}{nums ps ds out:List D}{ways r:D}(hd:Aav g [v1,v2,v3] [.list nums,.list ps,ways])
  (hX:∀ aC,ev AhI 12 s_ord (AyV aC nums ps ways) oX=some (.list ds)) (h2:2≤ds.length) (h64:ds.length<64) (ht:∀ i,i<ds.length→∃ l,ds.getD i .none=.tup l) {ans:Nat→Nat→Bool} {p:Array Nat}
  (hans:∀ i j,i<ds.length→j<ds.length→∃ c,lamD [ds.getD i .none,ds.getD j .none]=some (.int c)∧ans i j=decide (c<0)) (hp:kgo ans ds.length (kas_sort ds.length)=some p)
  (hf:∀ aC,Abi (Aam (AcX (Aaj (oS 1))).names) (AaA (AcX (Aaj (oS 1))) s_ord) (fun ρ e=>Abc (ev AhI 8 (AaA (AcX (Aaj (oS 1))) s_ord) ρ) e) (.Name "item" (g0 (Aaj (oS 1))).target.pos) [] (AfA (ev AhI 8 (AaA (AcX (Aaj (oS 1))) s_ord)) (Aam (AcX (Aaj (oS 1))).names) (AaA (AcX (Aaj (oS 1))) s_ord) (lcElt (Aaj (oS 1))) []) (Abt (AcX (Aaj (oS 1))) (AyV aC nums ps ways)) (p.toList.map fun i=>ds.getD i .none) []=some out)
  (hrest:∀ aC,ex (AhI.stm (Aam s_ord.names) s_ord) (ev AhI 16 s_ord) (Aam s_ord.names) s_ord 20 (ACN aC nums ps out ways) [oS 2,oS 3]=some (.ret r)) :
  Aaq B A s g (call (.ref Aan) [v1,v2,v3]) fun g' v=>Den g' v r:=by
 have D0:=Adv W.G;refine AnE W.O D0 hA I hd rfl fun env s1 e1 e2 e3 F=>?_;rw[Ab0] at e1;rw[Ab0,← e1] at F;have F:Fm B s g (Aam env.scope.names) env (ADV nums ps ways) s1 g:=F;have e1:env.scope=s_ord:=e1;have hA':AOk (m+9) (A.deeper env):=hA.deeper;have hA8:AOk (m+8) (A.deeper env):=hA'.le (Nat.add_le_add_left (by decide) _);have K:=Avj (m:=m) W s g I;rw[show Aae (nth Aa5)=[oS 0,oS 1,oS 2,oS 3] from ABg];refine wpAny_execs_cons ?_;rw[ADR];refine AdK rfl (wpAny_Call_NameR ((F.gname W.O (x:="cmp_to_key") (v:=.ref AdC) (by unfold Env.kindOf;rw[e1];kernel_rfl!) (Abm W "cmp_to_key" _ rfl) rfl).use fun fv s2 g2 x2 hf2=>?_));subst hf2;have F2:=F.step x2;rw[Aaw (es:=[AhH]) (by intro e he;rcases List.mem_cons.mp he with rfl|he;(rw[ABh];rfl);cases he)];refine Aaf ((AlM W.G).obj) fun oc hoc hdc=>?_;refine callWith_of (P:=fun h=>∃ o fd,h.get? AdC=some o∧o.data=.func fd) rfl (fun h hp=>?_) (Calls.evalArgs_plain (Calls.spliced_cons (Avh W F2 e1 e2 e3 fun lam fd s3 g3 x3 M3=>wpAny_pure ⟨⟨oc,_,x3.inv.get (x3.inv.base _ _ hoc),hdc⟩,?_⟩)))
 ·refine Afx hp fun o fd h1 h2=>?_;refine⟨.frame,.inl rfl,?_⟩;unfold keeperOf;refine(Looks.ld (part:=none) h1).andThen ?_;rw[h2];exact .now
 have F3:=F2.step x3;refine Au9 (n:=m+6) W hA8 x3.inv fun aC s4 g4 x4 kmk=>?_;have F4:=F3.step x4;refine F4.store W.O (Abl (by rw[e1];exact Ayg)) (d:=.val (.ref aC)) .val fun s5 F5 oth=>?_;have F5:Fm B s g (Aam env.scope.names) env (AyV aC nums ps ways) s5 g4:=F5;have km:Ann s5 g4 lam aC:=kmk s5 fun a o hn hdd e=>oth a o (fun hl=>by
  rcases hl with rfl|⟨x,hx,e4⟩
  ·refine Aaf F4.vars fun m4 h4 _=>?_;refine AgZ h4 fun o4 ho4 _ _ es n4 hdat=>?_;rw[e] at ho4;cases ho4;refine Aaf F3.vars fun m3 h3 _=>?_;refine Aaf (Afy h3) fun o3 ho3 _=>?_;rw[hdd (.inl ⟨es,n4,hdat⟩)] at ho3;exact Aah ho3
  ·refine Adp (F4.own x hx) fun cc v d1 q1 _=>?_;refine Aaf q1 fun o4 ho4 hdat=>?_;rw[e4] at d1;cases d1;rw[e] at ho4;cases ho4;refine Adp (F3.own x hx) fun cc v d1 q2 _=>?_;refine Aaf q2 fun o3 ho3 _=>?_;rw[e4] at d1;cases d1;rw[hdd (.inr ⟨_,hdat⟩)] at ho3;exact Aah ho3) e
 have hlam:Amx B (m+5) s5 g4 (.ref lam) lamD:=ABk W F5.inv ((M3.step x4).oth F4 oth);refine wpAny_execs_cons ?_;rw[ADS,ADT];have X5:=hX aC;rw[← e1] at X5;have Hk:=Avi (m:=m) W hA8 F5 e1 km hlam rfl (fun s1 g1 F1=>(AaZ W.O K hA8 12).1 _ env _ _ _ s1 g1 X5 F1) h2 h64 ht hans hp;refine(Ag4 (E:=fun ρ e=>ev AhI 8 (AaA (AcX (Aaj (oS 1))) env.scope) ρ e) W.O hA8.handled (fun s₁ g₁ own' cenv ρ' xx hsc=>by have:=(AaZ W.O (K.step xx) hA8 8).1 own' cenv ρ';rw[hsc,← Abz] at this;exact this)
  (fun s₁ g₁ own' cenv ρ' xx hsc=>by have:=(AaZ W.O (K.step xx) hA8 8).2 own' cenv ρ';rw[hsc,← Abz] at this;exact this) rfl Ayh (by rw[e1];exact Avk) Hk rfl (by rw[e1];exact hf aC) (by rw[e1];exact Ap9 aC nums ps out ways) F5).use fun f s6 g6 l6 e6=>?_
 refine AaG e6 fun z1 F6=>?_;subst z1;refine Ack W.O K hA8 F6 (k:=16) (m:=20) ?_;rw[e1];exact hrest aC
end
theorem Anp{own:List Str}{sc:Scope}{T0:Rho→Expr→Option Bool}{x:Str}{q:Pos}{elt:Expr}{E:Rho→Expr→Option D}{ρ:Rho}{h f:Nat→D}
  (hb:∀ d,(if (Aj2 (.Name x q)).all (fun x=>(ρ.lookup x).isNone)=true then Ac8 own sc (.Name x q) d ρ else none)=some ((x,d) :: ρ)) :
  ∀ (L:List Nat) (acc:List D),(∀ i∈L,E ((x,h i) :: ρ) elt=some (f i))→acc.length+L.length<1000000→Abi own sc T0 (.Name x q) [] (AfA E own sc elt []) ρ (L.map h) acc=some (acc++L.map f)
 |[],acc,_,_=>by show some acc=some (acc++[]);rw[List.append_nil]
 |i :: L,acc,hE,hl=>by
  simp only[List.length_cons] at hl;rw[List.map_cons];refine Abn (hb _) rfl (Ab9 (hE i (.head _)) (by omega)) ?_;have:=Anp (T0:=T0) hb L (acc++[f i]) (fun d' hd'=>hE d' (.tail _ hd')) (by simp;omega);rw[this,List.map_cons,List.append_assoc];rfl
theorem Ayi(i:Nat)(x:Nat→D)(hi:i<6):[D.tup [x 0,.int 0],.tup [x 1,.int 1],.tup [x 2,.int 2],.tup [x 3,.int 3],.tup [x 4,.int 4],.tup [x 5,.int 5]].getD i .none=.tup [x i,.int i]:=by
 rcases six hi with rfl|rfl|rfl|rfl|rfl|rfl<;>rfl
section
variable(n:Nat→Nat)
noncomputable abbrev ABl(x:Nat→D):List D:=[D.tup [x 0,.int 0],.tup [x 1,.int 1],.tup [x 2,.int 2],.tup [x 3,.int 3],.tup [x 4,.int 4],.tup [x 5,.int 5]]
noncomputable abbrev pth(k:Nat):D:=.str (AcV (n k))
noncomputable abbrev Ayj:List D:=[.int (n 0),.int (n 1),.int (n 2),.int (n 3),.int (n 4),.int (n 5)]
noncomputable abbrev Awg:List D:=[pth n 0,pth n 1,pth n 2,pth n 3,pth n 4,pth n 5]
theorem AsQ:AbD (AcX oX) s_ord=true:=by kernel_rfl!
theorem ADW(aC:Addr)(p0 p1 p2 p3 p4 p5:Str)(nums:List D)(ways:D):ev AhI 12 s_ord (AyV aC nums [.str p0,.str p1,.str p2,.str p3,.str p4,.str p5] ways) oX=some (.list [.tup [.str p0,.int 0],.tup [.str p1,.int 1],.tup [.str p2,.int 2],.tup [.str p3,.int 3],.tup [.str p4,.int 4],.tup [.str p5,.int 5]]):=by refine Amt (x:=.rng 0 6) (items:=[.int 0,.int 1,.int 2,.int 3,.int 4,.int 5]) rfl ⟨rfl,rfl,AsQ⟩ (AaR rfl rfl (AaK rfl rfl rfl rfl rfl rfl) rfl (Aao rfl rfl (Aac rfl rfl) (Aar rfl)) rfl) rfl ?_;refine Abn (ρ₁:=[("k",.int 0),("paths",.list [.str p0,.str p1,.str p2,.str p3,.str p4,.str p5])]) (by kernel_rfl!) rfl (Ab9 (d:=.tup [.str p0,.int 0]) (Adn rfl (Aao rfl rfl (AaH rfl rfl (Aaa rfl rfl rfl) (Aaa rfl rfl rfl) rfl) (Aao rfl rfl (Aaa rfl rfl rfl) (Aar rfl))) (by simp)) (by simp)) ?_;refine Abn (ρ₁:=[("k",.int 1),("paths",.list [.str p0,.str p1,.str p2,.str p3,.str p4,.str p5])]) (by kernel_rfl!) rfl (Ab9 (d:=.tup [.str p1,.int 1]) (Adn rfl (Aao rfl rfl (AaH rfl rfl (Aaa rfl rfl rfl) (Aaa rfl rfl rfl) rfl) (Aao rfl rfl (Aaa rfl rfl rfl) (Aar rfl))) (by simp)) (by simp)) ?_;refine Abn (ρ₁:=[("k",.int 2),("paths",.list [.str p0,.str p1,.str p2,.str p3,.str p4,.str p5])]) (by kernel_rfl!) rfl (Ab9 (d:=.tup [.str p2,.int 2]) (Adn rfl (Aao rfl rfl (AaH rfl rfl (Aaa rfl rfl rfl) (Aaa rfl rfl rfl) rfl) (Aao rfl rfl (Aaa rfl rfl rfl) (Aar rfl))) (by simp)) (by simp)) ?_;refine Abn (ρ₁:=[("k",.int 3),("paths",.list [.str p0,.str p1,.str p2,.str p3,.str p4,.str p5])]) (by kernel_rfl!) rfl (Ab9 (d:=.tup [.str p3,.int 3]) (Adn rfl (Aao rfl rfl (AaH rfl rfl (Aaa rfl rfl rfl) (Aaa rfl rfl rfl) rfl) (Aao rfl rfl (Aaa rfl rfl rfl) (Aar rfl))) (by simp)) (by simp)) ?_;refine Abn (ρ₁:=[("k",.int 4),("paths",.list [.str p0,.str p1,.str p2,.str p3,.str p4,.str p5])]) (by kernel_rfl!) rfl (Ab9 (d:=.tup [.str p4,.int 4]) (Adn rfl (Aao rfl rfl (AaH rfl rfl (Aaa rfl rfl rfl) (Aaa rfl rfl rfl) rfl) (Aao rfl rfl (Aaa rfl rfl rfl) (Aar rfl))) (by simp)) (by simp)) ?_;exact Abn (ρ₁:=[("k",.int 5),("paths",.list [.str p0,.str p1,.str p2,.str p3,.str p4,.str p5])]) (by kernel_rfl!) rfl (Ab9 (d:=.tup [.str p5,.int 5]) (Adn rfl (Aao rfl rfl (AaH rfl rfl (Aaa rfl rfl rfl) (Aaa rfl rfl rfl) rfl) (Aao rfl rfl (Aaa rfl rfl rfl) (Aar rfl))) (by simp)) (by simp)) rfl
theorem ABm(aC:Addr)(nums ps:List D)(ways:D){ds:List D}{L:List Nat}{x:Nat→D}(hL:∀ i∈L,ds.getD i .none=.tup [x i,.int i])(hl:L.length<1000000) :
  Abi (Aam (AcX (Aaj (oS 1))).names) (AaA (AcX (Aaj (oS 1))) s_ord) (fun ρ e=>Abc (ev AhI 8 (AaA (AcX (Aaj (oS 1))) s_ord) ρ) e) (.Name "item" (g0 (Aaj (oS 1))).target.pos) [] (AfA (ev AhI 8 (AaA (AcX (Aaj (oS 1))) s_ord)) (Aam (AcX (Aaj (oS 1))).names) (AaA (AcX (Aaj (oS 1))) s_ord) (lcElt (Aaj (oS 1))) []) (Abt (AcX (Aaj (oS 1))) (AyV aC nums ps ways)) (L.map fun i=>ds.getD i .none) []=some (L.map fun (i:Nat)=>D.int i):=by
 refine Anp (x:="item") (f:=fun (i:Nat)=>D.int i) (fun d=>by kernel_rfl!) L [] (fun i hi=>?_) (by simpa using hl);rw[hL i hi];exact AaH rfl rfl (Aaa rfl rfl rfl) (Aac rfl rfl) rfl
noncomputable def oR:Expr:=Aaj (oS 3)
noncomputable def oR2:Expr:=cmpR oR
noncomputable def ADX:Expr:=(g0 oR2).iter
noncomputable def oX2:Expr:=AsZ ADX
theorem Ayk:AbD (AcX oR2) s_ord=true:=by kernel_rfl!
theorem Ayl:AbD (AcX oX2) s_ord=true:=by kernel_rfl!
theorem Aym:AbD (AcX (Aaj (oS 2))) s_ord=true:=by kernel_rfl!
theorem ACO:okT (Aam s_ord.names) s_ord "worths"=true:=by kernel_rfl!
theorem Avm(aC:Addr)(ps out:List D)(ways:D){n0 n1 n2 n3 n4 n5 t0 t1 t2 t3 t4 t5 a0 a1 a2 a3 a4 a5 b0 b1 b2 b3 b4 b5:Int}
  (ht0:turnedD [.int n0]=some (.int t0)) (hd0:dueD [.int t0,ways]=some (.tup [.int a0,.int b0])) (hm0:a0.natAbs<2 ^ 64) (hb0:b0≠0∧b0.natAbs<1073741824)
  (ht1:turnedD [.int n1]=some (.int t1)) (hd1:dueD [.int t1,ways]=some (.tup [.int a1,.int b1])) (hm1:a1.natAbs<2 ^ 64) (hb1:b1≠0∧b1.natAbs<1073741824)
  (ht2:turnedD [.int n2]=some (.int t2)) (hd2:dueD [.int t2,ways]=some (.tup [.int a2,.int b2])) (hm2:a2.natAbs<2 ^ 64) (hb2:b2≠0∧b2.natAbs<1073741824)
  (ht3:turnedD [.int n3]=some (.int t3)) (hd3:dueD [.int t3,ways]=some (.tup [.int a3,.int b3])) (hm3:a3.natAbs<2 ^ 64) (hb3:b3≠0∧b3.natAbs<1073741824)
  (ht4:turnedD [.int n4]=some (.int t4)) (hd4:dueD [.int t4,ways]=some (.tup [.int a4,.int b4])) (hm4:a4.natAbs<2 ^ 64) (hb4:b4≠0∧b4.natAbs<1073741824)
  (ht5:turnedD [.int n5]=some (.int t5)) (hd5:dueD [.int t5,ways]=some (.tup [.int a5,.int b5])) (hm5:a5.natAbs<2 ^ 64) (hb5:b5≠0∧b5.natAbs<1073741824)
  {Q:Array Nat} (hQ:kgo (fun i j=>ltP (([((a0*840).fdiv b0,0),((a1*840).fdiv b1,1),((a2*840).fdiv b2,2),((a3*840).fdiv b3,3),((a4*840).fdiv b4,4),((a5*840).fdiv b5,5)]:List (Int×Int)).getD i (0,0)) (([((a0*840).fdiv b0,0),((a1*840).fdiv b1,1),((a2*840).fdiv b2,2),((a3*840).fdiv b3,3),((a4*840).fdiv b4,4),((a5*840).fdiv b5,5)]:List (Int×Int)).getD j (0,0))) 6 (kas_sort 6)=some Q) (hQ6:∀ i∈Q.toList,i<6) (hQl:Q.toList.length<1000000) (hout:out=Q.toList.map fun (i:Nat)=>D.int i) :
  ex (AhI.stm (Aam s_ord.names) s_ord) (ev AhI 16 s_ord) (Aam s_ord.names) s_ord 20 (ACN aC [.int n0,.int n1,.int n2,.int n3,.int n4,.int n5] ps out ways) [oS 2,oS 3]=some (.ret (.bool true)):=by
 refine Ado (rest:=[oS 3]) (d:=.list [.tup [.int a0,.int b0],.tup [.int a1,.int b1],.tup [.int a2,.int b2],.tup [.int a3,.int b3],.tup [.int a4,.int b4],.tup [.int a5,.int b5]]) rfl rfl (.inr rfl) ?_ ACO ?_
 ·refine Amt (x:=.list [.int n0,.int n1,.int n2,.int n3,.int n4,.int n5]) (items:=[.int n0,.int n1,.int n2,.int n3,.int n4,.int n5]) rfl ⟨rfl,rfl,Aym⟩ (Aaa rfl rfl rfl) rfl ?_;refine Abn (ρ₁:=[("number",.int n0),("ways",ways)]) (by kernel_rfl!) rfl (Ab9 (d:=.tup [.int a0,.int b0]) (AaR rfl rfl (AaK rfl rfl rfl rfl rfl rfl) rfl (Aao rfl rfl (AaR rfl rfl (AaK rfl rfl rfl rfl rfl rfl) rfl (Aao rfl rfl (Aaa rfl rfl rfl) (Aar rfl)) ht0) (Aao rfl rfl (Aaa rfl rfl rfl) (Aar rfl))) hd0) (by simp)) ?_;refine Abn (ρ₁:=[("number",.int n1),("ways",ways)]) (by kernel_rfl!) rfl (Ab9 (d:=.tup [.int a1,.int b1]) (AaR rfl rfl (AaK rfl rfl rfl rfl rfl rfl) rfl (Aao rfl rfl (AaR rfl rfl (AaK rfl rfl rfl rfl rfl rfl) rfl (Aao rfl rfl (Aaa rfl rfl rfl) (Aar rfl)) ht1) (Aao rfl rfl (Aaa rfl rfl rfl) (Aar rfl))) hd1) (by simp)) ?_;refine Abn (ρ₁:=[("number",.int n2),("ways",ways)]) (by kernel_rfl!) rfl (Ab9 (d:=.tup [.int a2,.int b2]) (AaR rfl rfl (AaK rfl rfl rfl rfl rfl rfl) rfl (Aao rfl rfl (AaR rfl rfl (AaK rfl rfl rfl rfl rfl rfl) rfl (Aao rfl rfl (Aaa rfl rfl rfl) (Aar rfl)) ht2) (Aao rfl rfl (Aaa rfl rfl rfl) (Aar rfl))) hd2) (by simp)) ?_;refine Abn (ρ₁:=[("number",.int n3),("ways",ways)]) (by kernel_rfl!) rfl (Ab9 (d:=.tup [.int a3,.int b3]) (AaR rfl rfl (AaK rfl rfl rfl rfl rfl rfl) rfl (Aao rfl rfl (AaR rfl rfl (AaK rfl rfl rfl rfl rfl rfl) rfl (Aao rfl rfl (Aaa rfl rfl rfl) (Aar rfl)) ht3) (Aao rfl rfl (Aaa rfl rfl rfl) (Aar rfl))) hd3) (by simp)) ?_;refine Abn (ρ₁:=[("number",.int n4),("ways",ways)]) (by kernel_rfl!) rfl (Ab9 (d:=.tup [.int a4,.int b4]) (AaR rfl rfl (AaK rfl rfl rfl rfl rfl rfl) rfl (Aao rfl rfl (AaR rfl rfl (AaK rfl rfl rfl rfl rfl rfl) rfl (Aao rfl rfl (Aaa rfl rfl rfl) (Aar rfl)) ht4) (Aao rfl rfl (Aaa rfl rfl rfl) (Aar rfl))) hd4) (by simp)) ?_;exact Abn (ρ₁:=[("number",.int n5),("ways",ways)]) (by kernel_rfl!) rfl (Ab9 (d:=.tup [.int a5,.int b5]) (AaR rfl rfl (AaK rfl rfl rfl rfl rfl rfl) rfl (Aao rfl rfl (AaR rfl rfl (AaK rfl rfl rfl rfl rfl rfl) rfl (Aao rfl rfl (Aaa rfl rfl rfl) (Aar rfl)) ht5) (Aao rfl rfl (Aaa rfl rfl rfl) (Aar rfl))) hd5) (by simp)) rfl
 refine AcU (rest:=[]) rfl rfl (Ab8 (a:=.list out) (b:=.list out) (q:=true) rfl rfl (Aaa rfl rfl rfl) ?_ (An8 ?_))
 ·refine Amt (x:=.list (Q.toList.map fun i=>([.tup [.int ((a0*840).fdiv b0),.int 0],.tup [.int ((a1*840).fdiv b1),.int 1],.tup [.int ((a2*840).fdiv b2),.int 2],.tup [.int ((a3*840).fdiv b3),.int 3],.tup [.int ((a4*840).fdiv b4),.int 4],.tup [.int ((a5*840).fdiv b5),.int 5]]:List D).getD i .none)) (items:=Q.toList.map fun i=>([.tup [.int ((a0*840).fdiv b0),.int 0],.tup [.int ((a1*840).fdiv b1),.int 1],.tup [.int ((a2*840).fdiv b2),.int 2],.tup [.int ((a3*840).fdiv b3),.int 3],.tup [.int ((a4*840).fdiv b4),.int 4],.tup [.int ((a5*840).fdiv b5),.int 5]]:List D).getD i .none) rfl ⟨rfl,rfl,Ayk⟩ (AaR rfl rfl (AaK rfl rfl rfl rfl rfl rfl) rfl (Aao rfl rfl (d:=.list [.tup [.int ((a0*840).fdiv b0),.int 0],.tup [.int ((a1*840).fdiv b1),.int 1],.tup [.int ((a2*840).fdiv b2),.int 2],.tup [.int ((a3*840).fdiv b3),.int 3],.tup [.int ((a4*840).fdiv b4),.int 4],.tup [.int ((a5*840).fdiv b5),.int 5]]) ?_ (Aar rfl)) ?_) rfl ?_
  ·refine Amt (x:=.rng 0 6) (items:=[.int 0,.int 1,.int 2,.int 3,.int 4,.int 5]) rfl ⟨rfl,rfl,Ayl⟩ (AaR rfl rfl (AaK rfl rfl rfl rfl rfl rfl) rfl (Aao rfl rfl (Aac rfl rfl) (Aar rfl)) rfl) rfl ?_;refine Abn (ρ₁:=[("k",.int 0),("worths",.list [.tup [.int a0,.int b0],.tup [.int a1,.int b1],.tup [.int a2,.int b2],.tup [.int a3,.int b3],.tup [.int a4,.int b4],.tup [.int a5,.int b5]])]) (by kernel_rfl!) rfl (Ab9 (d:=.tup [.int ((a0*840).fdiv b0),.int 0]) (Adn rfl (Aao rfl rfl (Abh rfl (Abh rfl (AaH rfl rfl (AaH rfl rfl (Aaa rfl rfl rfl) (Aaa rfl rfl rfl) rfl) (Aac rfl rfl) rfl) (Aac rfl rfl) (Al0 ⟨hm0,by decide⟩)) (AaH rfl rfl (AaH rfl rfl (Aaa rfl rfl rfl) (Aaa rfl rfl rfl) rfl) (Aac rfl rfl) rfl) (Ag9 hb0)) (Aao rfl rfl (Aaa rfl rfl rfl) (Aar rfl))) (by simp)) (by simp)) ?_;refine Abn (ρ₁:=[("k",.int 1),("worths",.list [.tup [.int a0,.int b0],.tup [.int a1,.int b1],.tup [.int a2,.int b2],.tup [.int a3,.int b3],.tup [.int a4,.int b4],.tup [.int a5,.int b5]])]) (by kernel_rfl!) rfl (Ab9 (d:=.tup [.int ((a1*840).fdiv b1),.int 1]) (Adn rfl (Aao rfl rfl (Abh rfl (Abh rfl (AaH rfl rfl (AaH rfl rfl (Aaa rfl rfl rfl) (Aaa rfl rfl rfl) rfl) (Aac rfl rfl) rfl) (Aac rfl rfl) (Al0 ⟨hm1,by decide⟩)) (AaH rfl rfl (AaH rfl rfl (Aaa rfl rfl rfl) (Aaa rfl rfl rfl) rfl) (Aac rfl rfl) rfl) (Ag9 hb1)) (Aao rfl rfl (Aaa rfl rfl rfl) (Aar rfl))) (by simp)) (by simp)) ?_;refine Abn (ρ₁:=[("k",.int 2),("worths",.list [.tup [.int a0,.int b0],.tup [.int a1,.int b1],.tup [.int a2,.int b2],.tup [.int a3,.int b3],.tup [.int a4,.int b4],.tup [.int a5,.int b5]])]) (by kernel_rfl!) rfl (Ab9 (d:=.tup [.int ((a2*840).fdiv b2),.int 2]) (Adn rfl (Aao rfl rfl (Abh rfl (Abh rfl (AaH rfl rfl (AaH rfl rfl (Aaa rfl rfl rfl) (Aaa rfl rfl rfl) rfl) (Aac rfl rfl) rfl) (Aac rfl rfl) (Al0 ⟨hm2,by decide⟩)) (AaH rfl rfl (AaH rfl rfl (Aaa rfl rfl rfl) (Aaa rfl rfl rfl) rfl) (Aac rfl rfl) rfl) (Ag9 hb2)) (Aao rfl rfl (Aaa rfl rfl rfl) (Aar rfl))) (by simp)) (by simp)) ?_;refine Abn (ρ₁:=[("k",.int 3),("worths",.list [.tup [.int a0,.int b0],.tup [.int a1,.int b1],.tup [.int a2,.int b2],.tup [.int a3,.int b3],.tup [.int a4,.int b4],.tup [.int a5,.int b5]])]) (by kernel_rfl!) rfl (Ab9 (d:=.tup [.int ((a3*840).fdiv b3),.int 3]) (Adn rfl (Aao rfl rfl (Abh rfl (Abh rfl (AaH rfl rfl (AaH rfl rfl (Aaa rfl rfl rfl) (Aaa rfl rfl rfl) rfl) (Aac rfl rfl) rfl) (Aac rfl rfl) (Al0 ⟨hm3,by decide⟩)) (AaH rfl rfl (AaH rfl rfl (Aaa rfl rfl rfl) (Aaa rfl rfl rfl) rfl) (Aac rfl rfl) rfl) (Ag9 hb3)) (Aao rfl rfl (Aaa rfl rfl rfl) (Aar rfl))) (by simp)) (by simp)) ?_;refine Abn (ρ₁:=[("k",.int 4),("worths",.list [.tup [.int a0,.int b0],.tup [.int a1,.int b1],.tup [.int a2,.int b2],.tup [.int a3,.int b3],.tup [.int a4,.int b4],.tup [.int a5,.int b5]])]) (by kernel_rfl!) rfl (Ab9 (d:=.tup [.int ((a4*840).fdiv b4),.int 4]) (Adn rfl (Aao rfl rfl (Abh rfl (Abh rfl (AaH rfl rfl (AaH rfl rfl (Aaa rfl rfl rfl) (Aaa rfl rfl rfl) rfl) (Aac rfl rfl) rfl) (Aac rfl rfl) (Al0 ⟨hm4,by decide⟩)) (AaH rfl rfl (AaH rfl rfl (Aaa rfl rfl rfl) (Aaa rfl rfl rfl) rfl) (Aac rfl rfl) rfl) (Ag9 hb4)) (Aao rfl rfl (Aaa rfl rfl rfl) (Aar rfl))) (by simp)) (by simp)) ?_;exact Abn (ρ₁:=[("k",.int 5),("worths",.list [.tup [.int a0,.int b0],.tup [.int a1,.int b1],.tup [.int a2,.int b2],.tup [.int a3,.int b3],.tup [.int a4,.int b4],.tup [.int a5,.int b5]])]) (by kernel_rfl!) rfl (Ab9 (d:=.tup [.int ((a5*840).fdiv b5),.int 5]) (Adn rfl (Aao rfl rfl (Abh rfl (Abh rfl (AaH rfl rfl (AaH rfl rfl (Aaa rfl rfl rfl) (Aaa rfl rfl rfl) rfl) (Aac rfl rfl) rfl) (Aac rfl rfl) (Al0 ⟨hm5,by decide⟩)) (AaH rfl rfl (AaH rfl rfl (Aaa rfl rfl rfl) (Aaa rfl rfl rfl) rfl) (Aac rfl rfl) rfl) (Ag9 hb5)) (Aao rfl rfl (Aaa rfl rfl rfl) (Aar rfl))) (by simp)) (by simp)) rfl
  ·show sortD [.list [.tup [.int ((a0*840).fdiv b0),.int 0],.tup [.int ((a1*840).fdiv b1),.int 1],.tup [.int ((a2*840).fdiv b2),.int 2],.tup [.int ((a3*840).fdiv b3),.int 3],.tup [.int ((a4*840).fdiv b4),.int 4],.tup [.int ((a5*840).fdiv b5),.int 5]]]=_;show(if 2≤6∧6<64 then (kgo (fun i j=>ltP (([((a0*840).fdiv b0,0),((a1*840).fdiv b1,1),((a2*840).fdiv b2,2),((a3*840).fdiv b3,3),((a4*840).fdiv b4,4),((a5*840).fdiv b5,5)]:List (Int×Int)).getD i (0,0)) (([((a0*840).fdiv b0,0),((a1*840).fdiv b1,1),((a2*840).fdiv b2,2),((a3*840).fdiv b3,3),((a4*840).fdiv b4,4),((a5*840).fdiv b5,5)]:List (Int×Int)).getD j (0,0))) 6 (kas_sort 6)).map (fun p=>D.list (p.toList.map fun i=>([.tup [.int ((a0*840).fdiv b0),.int 0],.tup [.int ((a1*840).fdiv b1),.int 1],.tup [.int ((a2*840).fdiv b2),.int 2],.tup [.int ((a3*840).fdiv b3),.int 3],.tup [.int ((a4*840).fdiv b4),.int 4],.tup [.int ((a5*840).fdiv b5),.int 5]]:List D).getD i .none)) else none)=_;rw[if_pos (by decide),hQ]
   rfl
  ·rw[hout];refine Anp (x:="item") (f:=fun (i:Nat)=>D.int i) ?hb Q.toList [] (fun i hi=>?_) (by simpa using hQl)
   case hb=>intro d;kernel_rfl!
   rcases six (hQ6 i hi) with rfl|rfl|rfl|rfl|rfl|rfl<;>exact AaH rfl rfl (Aaa rfl rfl rfl) (Aac rfl rfl) rfl
 ·rw[hout];simp [AsM]
end
theorem Avn:(List.range 31).all (fun j=>Amf[j]? == some (((j+1:Nat)):Int))=true:=by decide +kernel
theorem Avo:(List.range 31).all (fun j=>Ank[j]? == some ((AcW (j+1):Nat):Int) && decide (AcW (j+1)≤31))=true:=by decide +kernel
theorem ABn:(List.range 32).all (fun j=>ksL[j+28]? == some (j:Int) && AsX[j+28]? == some (Aje j))=true:=by decide +kernel
theorem AsR:(List.range 31).all (fun j=>decide ((Aje (AcW (j+1))).1.natAbs<2 ^ 64∧(Aje (AcW (j+1))).2≠0∧(Aje (AcW (j+1))).2.natAbs<1073741824))=true:=by decide +kernel
theorem AyW{i:Nat}(h:1≤i∧i≤31):i - 1∈List.range 31∧i - 1+1=i:=⟨List.mem_range.mpr (Asr h),Nat.sub_add_cancel h.1⟩
theorem Ajl{i:Nat}(h:1≤i∧i≤31):Amf[i - 1]?=some (i:Int):=by
 have:=eq_of_beq (List.all_eq_true.mp Avn _ (AyW h).1)
 rwa [(AyW h).2] at this
theorem Ayn{i:Nat}(h:1≤i∧i≤31):turnedD [.int (i:Int)]=some (.int (AcW i:Nat))∧AcW i≤31:=by have:=List.all_eq_true.mp Avo _ (AyW h).1;simp only[Bool.and_eq_true] at this;rw[(AyW h).2] at this;exact⟨AbT (f:=fun n=>turnedD [.int n]) (g:=fun x=>some (D.int x)) Ap3 (Ajl h) (eq_of_beq this.1),of_decide_eq_true this.2⟩
theorem ABo{k:Nat}(h:k≤31):dueD [.int (k:Int),waysV]=some (.tup [.int (Aje k).1,.int (Aje k).2]):=by have:=List.all_eq_true.mp ABn k (List.mem_range.mpr (by omega));simp only[Bool.and_eq_true] at this;exact AbT (f:=fun k=>dueD [.int k,waysV]) (g:=fun p:Int×Int=>some (D.tup [.int p.1,.int p.2])) Ask (eq_of_beq this.1) (eq_of_beq this.2)
theorem Avp{i:Nat}(h:1≤i∧i≤31):(Aje (AcW i)).1.natAbs<2 ^ 64∧(Aje (AcW i)).2≠0∧(Aje (AcW i)).2.natAbs<1073741824:=by
 have:=of_decide_eq_true (List.all_eq_true.mp AsR _ (AyW h).1)
 rwa [(AyW h).2] at this
section
variable{B:Bs}{A:Around}{s s':Shared}{g g':Gh}{m:Nat}
theorem Aqa(W:LW B)(hA:AOk (m+10) A)(I:Inv B s g){v1 v2 v3:Value}(n:Nat→Nat)(hn:∀ k,k<6→1≤n k∧n k≤31)(hd:Aav g [v1,v2,v3] [.list (Ayj n),.list (Awg n),waysV]) :
  Aaq B A s g (call (.ref Aan) [v1,v2,v3]) fun g' v=>Den g' v (.bool true):=by
 refine Ay0 (ACM (fun k=>Aeq (n k))) fun P Q hP hQ hPQ hPs hP6=>?_;have hPl:P.toList.length<1000000:=by omega
 have g5:=fun k=>fun hk:k<6=>Ayi k (pth n) hk;refine Avl W hA I hd (ds:=ABl (pth n)) (out:=P.toList.map fun (i:Nat)=>D.int i) (ans:=fun i j=>decide (Aeq (n i)<Aeq (n j))) (p:=P) (fun aC=>ADW aC _ _ _ _ _ _ _ _) (Nat.le_of_ble_eq_true rfl) (Nat.le_of_ble_eq_true rfl) (fun i hi=>⟨_,g5 i hi⟩) (fun i j hi hj=>?_) hP (fun aC=>ABm aC _ _ _ (fun i hi=>g5 i (hP6 i hi)) hPl) (fun aC=>?_)
 ·refine Aew (AxU (hn i hi) (hn j hj)) fun v hv h1 h2=>?_;refine⟨v,?_,?_⟩
  ·rw[g5 i hi,g5 j hj];exact Avg (Amg (hn i hi) (hn j hj) hv)
  ·exact decide_eq_decide.mpr h1.symm
 ·have T:=fun k (hk:k<6)=>Ayn (hn k hk);have Dq:=fun k (hk:k<6)=>ABo (T k hk).2;have Wq:=fun k (hk:k<6)=>Avp (hn k hk);refine Avm aC _ _ waysV (T 0 (by decide)).1 (Dq 0 (by decide)) (Wq 0 (by decide)).1 (Wq 0 (by decide)).2 (T 1 (by decide)).1 (Dq 1 (by decide)) (Wq 1 (by decide)).1 (Wq 1 (by decide)).2 (T 2 (by decide)).1 (Dq 2 (by decide)) (Wq 2 (by decide)).1 (Wq 2 (by decide)).2
   (T 3 (by decide)).1 (Dq 3 (by decide)) (Wq 3 (by decide)).1 (Wq 3 (by decide)).2 (T 4 (by decide)).1 (Dq 4 (by decide)) (Wq 4 (by decide)).1 (Wq 4 (by decide)).2 (T 5 (by decide)).1 (Dq 5 (by decide)) (Wq 5 (by decide)).1 (Wq 5 (by decide)).2 (Q:=Q) ?_ (by rw[← hPQ];exact hP6) (by rw[← hPQ];exact hPl) (by rw[← hPQ])
  rw[← hQ];refine Ajk (fun i j hi hj=>?_) _;have L:∀ k,k<6→([(((Aje (AcW (n 0))).1*840).fdiv (Aje (AcW (n 0))).2,0),(((Aje (AcW (n 1))).1*840).fdiv (Aje (AcW (n 1))).2,1),(((Aje (AcW (n 2))).1*840).fdiv (Aje (AcW (n 2))).2,2),(((Aje (AcW (n 3))).1*840).fdiv (Aje (AcW (n 3))).2,3),(((Aje (AcW (n 4))).1*840).fdiv (Aje (AcW (n 4))).2,4),(((Aje (AcW (n 5))).1*840).fdiv (Aje (AcW (n 5))).2,5)]:List (Int×Int)).getD k (0,0)=(Aeq (n k),(k:Int)):=fun k hk=>by
   rcases six hk with rfl|rfl|rfl|rfl|rfl|rfl<;>rfl
  rw[L i hi,L j hj]
end
theorem Anq{l:List D}{xs:List Int}(h:AdI l=some xs):∀ is:List Nat,∃ ys,AdI (is.filterMap (l[·]?))=some ys:=by
 have hm:=Akc h;intro is;induction is with
 |nil=>exact⟨[],rfl⟩
 |cons i is ih=>
  refine Abo ih fun ys hy=>?_
  cases hd:l[i]? with
  |none=>rw[List.filterMap_cons_none (by exact hd)];exact⟨ys,hy⟩
  |some d=>
   rw[List.filterMap_cons_some (by exact hd)];rw[hm,List.getElem?_map] at hd;refine Aaf (Option.map_eq_some_iff.mp hd) fun x hx q1=>?_;subst q1;exact⟨x :: ys,Aau hy rfl⟩
theorem Afv{l:List D}{xs:List Int}(h:AdI l=some xs):bSum [.list l]=some (.int xs.sum):=Aau h rfl
theorem ACP:okT (Aam AaS.names) AaS "start"=true:=by kernel_rfl!
noncomputable def stE:Expr:=Aaj ((AcR[1]?).getD AbZ)
theorem Ayo:AbD (AcX stE) AaS=true:=by kernel_rfl!
noncomputable def Aco(t:Int):Int:=(t+24).fmod 57 - 28
theorem Ahe(t:Int):-28≤Aco t∧Aco t≤28:=by
 unfold Aco;have h1:=Int.fmod_nonneg_of_pos (t+24) (show(0:Int)<57 by decide);have h2:=Int.fmod_lt_of_pos (t+24) (show(0:Int)<57 by decide)
 omega
noncomputable def Amm(k:Int):List D:=[.int k,.int (k+1),.int (k+2),.int (k+3),.int (k+4),.int (k+5),.int (k+6),.int (k+7)]
theorem Aqb(k:Int):Afz k 8=Amm k:=by
 simp only[Afz,Amm];simp only[Int.add_assoc]
 rfl
theorem Amn{l:List D}{xs:List Int}(h:AdI l=some xs):stretchD [.list l]=some (.list (Amm (Aco xs.sum))):=by
 suffices hs:ex (AdU.stm (Aam AaS.names) AaS) (ev AdU 16 AaS) (Aam AaS.names) AaS 24 [("script",.list l)] AcR=some (.ret (.list (Amm (Aco xs.sum)))) by
  unfold stretchD fnD;rw[if_pos (show[("script":Str)].length=[D.list l].length from rfl)];show(match ex (AdU.stm (Aam AaS.names) AaS) (ev AdU 16 AaS) (Aam AaS.names) AaS 24 [("script",.list l)] AcR with|some (.ret d)=>some d|some (.next _)=>some .none|_=>none)=_;rw[hs]
 have hb:=Ahe xs.sum;refine Ado (d:=.int (Aco xs.sum)) rfl rfl (.inl rfl) ?_ ACP ?_
 ·refine Abh rfl (Abh rfl (Abh rfl (AaR (d:=.int xs.sum) rfl rfl (AaK rfl rfl rfl rfl rfl rfl) rfl (Aao rfl rfl (Aaa rfl rfl rfl) (Aar rfl)) ?_) (Aac rfl rfl) rfl) (Aac rfl rfl) (Al1 (by decide))) (Aac rfl rfl) rfl;exact Afv h
 refine AcU rfl rfl ?_;refine Amt (x:=.rng (Aco xs.sum) (Aco xs.sum+8)) (items:=Amm (Aco xs.sum)) rfl ⟨rfl,rfl,Ayo⟩ (AaR rfl rfl (AaK rfl rfl rfl rfl rfl rfl) rfl (Aao rfl rfl (Aaa rfl rfl rfl) (Aao rfl rfl (Abh rfl (Aaa rfl rfl rfl) (Aac rfl rfl) rfl) (Aar rfl))) rfl) ?_ ?_
 ·show(if _ then _ else _)=_;rw[if_pos (by omega),show(Aco xs.sum+8 - Aco xs.sum).toNat=8 by omega,Aqb]
 ·refine(Awf (x:="k") (f:=fun d=>d) ?hb (Amm (Aco xs.sum)) [] (fun d hd=>?_) (Nat.lt_of_le_of_lt (Nat.le_refl 8) (by decide))).trans ?_
  case hb=>intro d;kernel_rfl!
  ·exact Aaa rfl rfl rfl
  ·rw[List.map_id'];rfl
noncomputable def nuE:Expr:=Aaj ((AcS[1]?).getD AbZ)
theorem ACQ:okT (Aam AaT.names) AaT "starts"=true:=by kernel_rfl!
theorem Ayp:AbD (AcX nuE) AaT=true:=by kernel_rfl!
noncomputable def Ab2(t s:Int):Nat:=((t+s).fmod 31+1).toNat
theorem ADY(f:Int)(h1:0≤f)(h2:f<31):1≤(f+1).toNat∧(f+1).toNat≤31∧((f+1).toNat:Int)=f+1:=by
 have h3:((f+1).toNat:Int)=f+1:=Int.toNat_of_nonneg (Int.add_nonneg h1 (by decide));refine⟨?_,?_,h3⟩
 ·exact Int.ofNat_le.mp (by rw[h3];exact Int.le_add_of_nonneg_left h1)
 ·exact Int.ofNat_le.mp (by rw[h3];exact h2)
theorem Aa4(t s:Int):1≤Ab2 t s∧Ab2 t s≤31∧((Ab2 t s:Nat):Int)=(t+s).fmod 31+1:=
 ADY _ (Int.fmod_nonneg_of_pos (t+s) (show(0:Int)<31 by decide)) (Int.fmod_lt_of_pos (t+s) (show(0:Int)<31 by decide))
theorem Amo{l:List D}{xs:List Int}(h:AdI l=some xs)(hl:l.length≤1000000):∃ n:Nat→Nat,(∀ k,k<6→1≤n k∧n k≤31)∧numbersD [.list l]=some (.list (Ayj n)):=by
 have pk:=fun k:Int=>Anq h (sliceRange (sliceBounds (some k) none (some 6) l.length).1 (sliceBounds (some k) none (some 6) l.length).2.1 (sliceBounds (some k) none (some 6) l.length).2.2);refine Abo (pk 0) fun y0 h0=>?_;have s0:AcC (.list l) (some 0) none (some 6)=some (.list (Akp l (some 0) none (some 6))):=if_pos ⟨by decide,hl⟩;refine Abo (pk 1) fun y1 h1=>?_;have s1:AcC (.list l) (some 1) none (some 6)=some (.list (Akp l (some 1) none (some 6))):=if_pos ⟨by decide,hl⟩;refine Abo (pk 2) fun y2 h2=>?_;have s2:AcC (.list l) (some 2) none (some 6)=some (.list (Akp l (some 2) none (some 6))):=if_pos ⟨by decide,hl⟩;refine Abo (pk 3) fun y3 h3=>?_;have s3:AcC (.list l) (some 3) none (some 6)=some (.list (Akp l (some 3) none (some 6))):=if_pos ⟨by decide,hl⟩;refine Abo (pk 4) fun y4 h4=>?_;have s4:AcC (.list l) (some 4) none (some 6)=some (.list (Akp l (some 4) none (some 6))):=if_pos ⟨by decide,hl⟩;refine Abo (pk 5) fun y5 h5=>?_;have s5:AcC (.list l) (some 5) none (some 6)=some (.list (Akp l (some 5) none (some 6))):=if_pos ⟨by decide,hl⟩;refine⟨fun k=>match k with|0=>Ab2 y0.sum 10|1=>Ab2 y1.sum 4|2=>Ab2 y2.sum 12|3=>Ab2 y3.sum 20|4=>Ab2 y4.sum 5|_=>Ab2 y5.sum 4,fun k hk=>?_,?_⟩
 ·rcases six hk with rfl|rfl|rfl|rfl|rfl|rfl
  ·exact⟨(Aa4 y0.sum 10).1,(Aa4 y0.sum 10).2.1⟩
  ·exact⟨(Aa4 y1.sum 4).1,(Aa4 y1.sum 4).2.1⟩
  ·exact⟨(Aa4 y2.sum 12).1,(Aa4 y2.sum 12).2.1⟩
  ·exact⟨(Aa4 y3.sum 20).1,(Aa4 y3.sum 20).2.1⟩
  ·exact⟨(Aa4 y4.sum 5).1,(Aa4 y4.sum 5).2.1⟩
  ·exact⟨(Aa4 y5.sum 4).1,(Aa4 y5.sum 4).2.1⟩
 show numbersD [.list l]=some (.list [.int (Ab2 y0.sum 10:Nat),.int (Ab2 y1.sum 4:Nat),.int (Ab2 y2.sum 12:Nat),.int (Ab2 y3.sum 20:Nat),.int (Ab2 y4.sum 5:Nat),.int (Ab2 y5.sum 4:Nat)])
 suffices hs:ex (AdV.stm (Aam AaT.names) AaT) (ev AdV 16 AaT) (Aam AaT.names) AaT 24 [("script",.list l)] AcS=some (.ret (.list [.int (Ab2 y0.sum 10:Nat),.int (Ab2 y1.sum 4:Nat),.int (Ab2 y2.sum 12:Nat),.int (Ab2 y3.sum 20:Nat),.int (Ab2 y4.sum 5:Nat),.int (Ab2 y5.sum 4:Nat)])) by
  unfold numbersD fnD;rw[if_pos (show[("script":Str)].length=[D.list l].length from rfl)];show(match ex (AdV.stm (Aam AaT.names) AaT) (ev AdV 16 AaT) (Aam AaT.names) AaT 24 [("script",.list l)] AcS with|some (.ret d)=>some d|some (.next _)=>some .none|_=>none)=_;rw[hs]
 refine Ado (d:=.list [.int 10,.int 4,.int 12,.int 20,.int 5,.int 4]) rfl rfl (.inl rfl) (by kernel_rfl!) ACQ ?_;refine AcU rfl rfl ?_;refine Amt (x:=.rng 0 6) (items:=[.int 0,.int 1,.int 2,.int 3,.int 4,.int 5]) rfl ⟨rfl,rfl,Ayp⟩ (AaR rfl rfl (AaK rfl rfl rfl rfl rfl rfl) rfl (Aao rfl rfl (Aac rfl rfl) (Aar rfl)) rfl) rfl ?_;have e0:D.int ((y0.sum+10).fmod 31+1)=.int (Ab2 y0.sum 10:Nat):=by rw[(Aa4 y0.sum 10).2.2]
 have e1:D.int ((y1.sum+4).fmod 31+1)=.int (Ab2 y1.sum 4:Nat):=by rw[(Aa4 y1.sum 4).2.2]
 have e2:D.int ((y2.sum+12).fmod 31+1)=.int (Ab2 y2.sum 12:Nat):=by rw[(Aa4 y2.sum 12).2.2]
 have e3:D.int ((y3.sum+20).fmod 31+1)=.int (Ab2 y3.sum 20:Nat):=by rw[(Aa4 y3.sum 20).2.2]
 have e4:D.int ((y4.sum+5).fmod 31+1)=.int (Ab2 y4.sum 5:Nat):=by rw[(Aa4 y4.sum 5).2.2]
 have e5:D.int ((y5.sum+4).fmod 31+1)=.int (Ab2 y5.sum 4:Nat):=by rw[(Aa4 y5.sum 4).2.2]
 refine Abn (ρ₁:=("k",.int 0) :: Abt (AcX nuE) [("starts",.list [.int 10,.int 4,.int 12,.int 20,.int 5,.int 4]),("script",.list l)]) (by kernel_rfl!) rfl (Ab9 (d:=.int (Ab2 y0.sum 10:Nat)) (Abh rfl (Abh rfl (Abh rfl (AaR (d:=.int y0.sum) rfl rfl (AaK rfl rfl rfl rfl rfl rfl) rfl (Aao rfl rfl (Adj rfl (Aaa rfl rfl rfl) (AcI rfl (Aaa rfl rfl rfl)) (Ab1 rfl) (AcI rfl (Aac rfl rfl)) s0) (Aar rfl)) (Afv h0)) (AaH rfl rfl (Aaa rfl rfl rfl) (Aaa rfl rfl rfl) rfl) rfl) (Aac rfl rfl) (Al1 (by decide))) (Aac rfl rfl) (congrArg some e0)) (by simp)) ?_;refine Abn (ρ₁:=("k",.int 1) :: Abt (AcX nuE) [("starts",.list [.int 10,.int 4,.int 12,.int 20,.int 5,.int 4]),("script",.list l)]) (by kernel_rfl!) rfl (Ab9 (d:=.int (Ab2 y1.sum 4:Nat)) (Abh rfl (Abh rfl (Abh rfl (AaR (d:=.int y1.sum) rfl rfl (AaK rfl rfl rfl rfl rfl rfl) rfl (Aao rfl rfl (Adj rfl (Aaa rfl rfl rfl) (AcI rfl (Aaa rfl rfl rfl)) (Ab1 rfl) (AcI rfl (Aac rfl rfl)) s1) (Aar rfl)) (Afv h1)) (AaH rfl rfl (Aaa rfl rfl rfl) (Aaa rfl rfl rfl) rfl) rfl) (Aac rfl rfl) (Al1 (by decide))) (Aac rfl rfl) (congrArg some e1)) (by simp)) ?_;refine Abn (ρ₁:=("k",.int 2) :: Abt (AcX nuE) [("starts",.list [.int 10,.int 4,.int 12,.int 20,.int 5,.int 4]),("script",.list l)]) (by kernel_rfl!) rfl (Ab9 (d:=.int (Ab2 y2.sum 12:Nat)) (Abh rfl (Abh rfl (Abh rfl (AaR (d:=.int y2.sum) rfl rfl (AaK rfl rfl rfl rfl rfl rfl) rfl (Aao rfl rfl (Adj rfl (Aaa rfl rfl rfl) (AcI rfl (Aaa rfl rfl rfl)) (Ab1 rfl) (AcI rfl (Aac rfl rfl)) s2) (Aar rfl)) (Afv h2)) (AaH rfl rfl (Aaa rfl rfl rfl) (Aaa rfl rfl rfl) rfl) rfl) (Aac rfl rfl) (Al1 (by decide))) (Aac rfl rfl) (congrArg some e2)) (by simp)) ?_;refine Abn (ρ₁:=("k",.int 3) :: Abt (AcX nuE) [("starts",.list [.int 10,.int 4,.int 12,.int 20,.int 5,.int 4]),("script",.list l)]) (by kernel_rfl!) rfl (Ab9 (d:=.int (Ab2 y3.sum 20:Nat)) (Abh rfl (Abh rfl (Abh rfl (AaR (d:=.int y3.sum) rfl rfl (AaK rfl rfl rfl rfl rfl rfl) rfl (Aao rfl rfl (Adj rfl (Aaa rfl rfl rfl) (AcI rfl (Aaa rfl rfl rfl)) (Ab1 rfl) (AcI rfl (Aac rfl rfl)) s3) (Aar rfl)) (Afv h3)) (AaH rfl rfl (Aaa rfl rfl rfl) (Aaa rfl rfl rfl) rfl) rfl) (Aac rfl rfl) (Al1 (by decide))) (Aac rfl rfl) (congrArg some e3)) (by simp)) ?_;refine Abn (ρ₁:=("k",.int 4) :: Abt (AcX nuE) [("starts",.list [.int 10,.int 4,.int 12,.int 20,.int 5,.int 4]),("script",.list l)]) (by kernel_rfl!) rfl (Ab9 (d:=.int (Ab2 y4.sum 5:Nat)) (Abh rfl (Abh rfl (Abh rfl (AaR (d:=.int y4.sum) rfl rfl (AaK rfl rfl rfl rfl rfl rfl) rfl (Aao rfl rfl (Adj rfl (Aaa rfl rfl rfl) (AcI rfl (Aaa rfl rfl rfl)) (Ab1 rfl) (AcI rfl (Aac rfl rfl)) s4) (Aar rfl)) (Afv h4)) (AaH rfl rfl (Aaa rfl rfl rfl) (Aaa rfl rfl rfl) rfl) rfl) (Aac rfl rfl) (Al1 (by decide))) (Aac rfl rfl) (congrArg some e4)) (by simp)) ?_;exact Abn (ρ₁:=("k",.int 5) :: Abt (AcX nuE) [("starts",.list [.int 10,.int 4,.int 12,.int 20,.int 5,.int 4]),("script",.list l)]) (by kernel_rfl!) rfl (Ab9 (d:=.int (Ab2 y5.sum 4:Nat)) (Abh rfl (Abh rfl (Abh rfl (AaR (d:=.int y5.sum) rfl rfl (AaK rfl rfl rfl rfl rfl rfl) rfl (Aao rfl rfl (Adj rfl (Aaa rfl rfl rfl) (AcI rfl (Aaa rfl rfl rfl)) (Ab1 rfl) (AcI rfl (Aac rfl rfl)) s5) (Aar rfl)) (Afv h5)) (AaH rfl rfl (Aaa rfl rfl rfl) (Aaa rfl rfl rfl) rfl) rfl) (Aac rfl rfl) (Al1 (by decide))) (Aac rfl rfl) (congrArg some e5)) (by simp)) rfl
noncomputable def zS(i:Nat):Stmt:=((Aae (nth AiZ))[i]?).getD AbZ
theorem Avq:Aae (nth AiZ)=[zS 0,zS 1,zS 2,zS 3]++([zS 4]++[zS 5,zS 6,zS 7,zS 8,zS 9,zS 10,zS 11]):=by kernel_rfl!
noncomputable abbrev s_l:Scope:=AzR
theorem Akl(x:Str)(h:x = "ways"∨x = "stretch"∨x = "fractions"∨x = "film"∨x = "numbers"∨x = "paths"):okT (Aam s_l.names) s_l x=true:=by rcases h with rfl|rfl|rfl|rfl|rfl|rfl<;>kernel_rfl!
noncomputable def ACR:Tb:=mkL (Adx [(.ref Aa9,waysD),(.ref AaB,stretchD),(.ref Abf,dueD),(.ref Aa8,readD)])
noncomputable def lc2:Expr:=Aaj (zS 2)
noncomputable def lc3:Expr:=leftOf (tstE (zS 3))
theorem ABp:AbD (AcX lc2) s_l=true:=by kernel_rfl!
theorem ABq:AbD (AcX lc3) s_l=true:=by kernel_rfl!
noncomputable abbrev ACS(sc ks fr:List D):Rho:=[("fractions",.list fr),("stretch",.list ks),("ways",waysV),("script",.list sc)]
theorem Ahf{own:List Str}{sc:Scope}{T0:Rho→Expr→Option Bool}{x:Str}{q:Pos}{elt:Expr}{E:Rho→Expr→Option D}{ρ:Rho}{f:D→Option D}
  (hb:∀ d,(if (Aj2 (.Name x q)).all (fun x=>(ρ.lookup x).isNone)=true then Ac8 own sc (.Name x q) d ρ else none)=some ((x,d) :: ρ)) (hE:∀ d r,f d=some r→E ((x,d) :: ρ) elt=some r) (items:List D) :
  ∀ (rs acc:List D),items.map f=rs.map some→acc.length+items.length<1000000→Abi own sc T0 (.Name x q) [] (AfA E own sc elt []) ρ items acc=some (acc++rs):=by
 induction items using List.rec with
 |nil=>
  intro rs acc h _;rw[List.map_eq_nil_iff.mp h.symm,List.append_nil];rfl
 |cons d ds ih=>
  intro rs acc h hl;rw[List.length_cons] at hl;refine Adp (List.map_eq_cons_iff.mp h.symm) fun r l e e1 e2=>?_;rw[e];refine Abn (hb d) rfl (Ab9 (hE d r e1.symm) (by omega)) ?_;rw[ih l _ e2.symm (by rw[List.length_append,List.length_singleton];omega),List.append_assoc];rfl
theorem Ayq{sc ks fr:List D}(hst:stretchD [.list sc]=some (.list ks))(hu:ks.map (fun k=>dueD [k,waysV])=fr.map some)(hr:ks.map (fun k=>readD [k])=fr.map some)(hl:0+ks.length<1000000)
  (he:eqD (.list fr) (.list fr)=some true) :
  ex (ACR.stm (Aam s_l.names) s_l) (ev ACR 16 s_l) (Aam s_l.names) s_l 20 [("script",.list sc)] [zS 0,zS 1,zS 2,zS 3]=some (.next (ACS sc ks fr)):=by
 refine Ado (rest:=[zS 1,zS 2,zS 3]) (d:=waysV) rfl rfl (.inl rfl) (AaR (F:=waysD) (ds:=[]) rfl rfl (AaK rfl rfl rfl rfl rfl rfl) rfl (Aar rfl) AxP) (Akl _ (by simp)) ?_;refine Ado (rest:=[zS 2,zS 3]) (d:=.list ks) rfl rfl (.inl rfl) (AaR rfl rfl (AaK rfl rfl rfl rfl rfl rfl) rfl (Aao rfl rfl (Aaa rfl rfl rfl) (Aar rfl)) hst) (Akl _ (by simp)) ?_;refine Ado (rest:=[zS 3]) (d:=.list fr) rfl rfl (.inr rfl) (Amt (x:=.list ks) (items:=ks) rfl ⟨rfl,rfl,ABp⟩ (Aaa rfl rfl rfl) rfl (Ahf (x:="k") (f:=fun k=>dueD [k,waysV]) (fun d=>by kernel_rfl!) (fun d r h=>AaR rfl rfl (AaK rfl rfl rfl rfl rfl rfl) rfl (Aao rfl rfl (Aaa rfl rfl rfl) (Aao rfl rfl (Aaa rfl rfl rfl) (Aar rfl))) h) ks fr [] hu hl)) (Akl _ (by simp)) ?_;exact Adw (rest:=[]) rfl rfl (AaM (d:=.bool false) (Ab8 (a:=.list fr) (b:=.list fr) (q:=false) rfl rfl (Amt (x:=.list ks) (items:=ks) rfl ⟨rfl,rfl,ABq⟩ (Aaa rfl rfl rfl) rfl (Ahf (x:="k") (f:=fun k=>readD [k]) (fun d=>by kernel_rfl!) (fun d r h=>AaR rfl rfl (AaK rfl rfl rfl rfl rfl rfl) rfl (Aao rfl rfl (Aaa rfl rfl rfl) (Aar rfl)) h) ks fr [] hr hl)) (Aaa rfl rfl rfl) (Ahc he)) rfl) (Ach rfl) (Ach rfl)
noncomputable def ABK(n:Nat→Nat)(ds:List D):Option D:=open Classical in if ds=[.list [.int (n 0),.int (n 1),.int (n 2),.int (n 3),.int (n 4),.int (n 5)],.list [.str (AcV (n 0)),.str (AcV (n 1)),.str (AcV (n 2)),.str (AcV (n 3)),.str (AcV (n 4)),.str (AcV (n 5))],waysV] then some (.bool true) else none
noncomputable def ABr(n:Nat→Nat):Tb:=mkL (Adx [(.ref AaW,plnD),(.ref AaD,dividedD),(.ref AaC,numbersD),(.ref Aa2,pathD),(.ref Aa7,textD),(.ref Aat,both_waysD),(.ref Aan,ABK n),(.builtin "all",bAll),(.type "range",bRange)])
noncomputable def lc5:Expr:=leftOf (tstE (zS 5))
noncomputable def lc6:Expr:=leftOf (tstE (zS 6))
noncomputable def ADZ:Expr:=cmpR (tstE (zS 6))
noncomputable def lc8:Expr:=Aaj (zS 8)
noncomputable def lc9:Expr:=cmpR (tstE (zS 9))
noncomputable def AD0:Expr:=AsZ (unOf (tstE (zS 10)))
theorem ABs:AbD (AcX lc5) s_l=true:=by kernel_rfl!
theorem ABt:AbD (AcX lc6) s_l=true:=by kernel_rfl!
theorem Ayr:AbD (AcX ADZ) s_l=true:=by kernel_rfl!
theorem ABu:AbD (AcX lc8) s_l=true:=by kernel_rfl!
theorem ABv:AbD (AcX lc9) s_l=true:=by kernel_rfl!
theorem Ays:AbD (AcX AD0) s_l=true:=by kernel_rfl!
noncomputable def Amp(F:List D→Option D)(s:D):Option D:=(AdA s (.int 0)).bind fun a=>F [a]
noncomputable def ACT:List D:=[.int 0,.int 1,.int 2,.int 3,.int 4,.int 5]
noncomputable def ACU:List D:=[.bool true,.bool true,.bool true,.bool true,.bool true,.bool true]
theorem Ayt{n:Nat→Nat}{sc ks fr fm f1 f0 bs ns ps:List D}(hp:fm.map (Amp plnD)=fr.map some)(h1:AcC (.list fm) (some 1) none none=some (.list f1))(h0:AcC (.list fm) none (some (-1)) none=some (.list f0))
  (hb1:f1.map (fun s=>AdA s (.int 1))=bs.map some) (hd:f0.map (Amp dividedD)=bs.map some) (l8:0+fm.length<1000000) (l1:0+f1.length<1000000) (l0:0+f0.length<1000000) (l6:0+ns.length<1000000)
  (he:eqD (.list fr) (.list fr)=some true) (hb:eqD (.list bs) (.list bs)=some true) (hn:numbersD [.list sc]=some (.list ns))
  (hq:ns.map (fun d=>pathD [d])=ps.map some) (ht:ns.map (fun d=>textD [d])=ps.map some) (hw:ACT.map (fun k=>(AdA (.list ns) k).bind fun a=>(AdA (.list ps) k).bind fun b=>both_waysD [a,b,waysV])=ACU.map some)
  (hs:eqD (.list ps) (.list ps)=some true) (ho:ABK n [.list ns,.list ps,waysV]=some (.bool true)) :
  ex ((ABr n).stm (Aam s_l.names) s_l) (ev (ABr n) 16 s_l) (Aam s_l.names) s_l 20 (("film",D.list fm) :: ACS sc ks fr:Rho) [zS 5,zS 6,zS 7,zS 8,zS 9,zS 10,zS 11]=some (.ret (.bool true)):=by
 refine Adw (rest:=[zS 6,zS 7,zS 8,zS 9,zS 10,zS 11]) rfl rfl (AaM (d:=.bool false) (Ab8 (a:=.list fr) (b:=.list fr) (q:=false) rfl rfl (Amt (x:=.list fm) (items:=fm) rfl ⟨rfl,rfl,ABs⟩ (Aaa rfl rfl rfl) rfl (Ahf (x:="stop") (f:=Amp plnD) (fun d=>by kernel_rfl!) (fun d r h=>?_) fm fr [] hp l8)) (Aaa rfl rfl rfl) (Ahc he)) rfl) (Ach rfl) ?_
 ·refine Aaf (Aak h) fun a ha hr=>?_;exact AaR rfl rfl (AaK rfl rfl rfl rfl rfl rfl) rfl (Aao rfl rfl (AaH rfl rfl (Aaa rfl rfl rfl) (Aac rfl rfl) ha) (Aar rfl)) hr
 refine Adw (rest:=[zS 7,zS 8,zS 9,zS 10,zS 11]) rfl rfl (AaM (d:=.bool false) (Ab8 (a:=.list bs) (b:=.list bs) (q:=false) rfl rfl (Amt (x:=.list f1) (items:=f1) rfl ⟨rfl,rfl,ABt⟩ (Adj rfl (Aaa rfl rfl rfl) (AcI rfl (Aac rfl rfl)) (Ab1 rfl) (Ab1 rfl) h1) rfl (Ahf (x:="stop") (f:=fun s=>AdA s (.int 1)) (fun d=>by kernel_rfl!) (fun d r h=>AaH rfl rfl (Aaa rfl rfl rfl) (Aac rfl rfl) h) f1 bs [] hb1 l1))
  (Amt (x:=.list f0) (items:=f0) rfl ⟨rfl,rfl,Ayr⟩ (Adj rfl (Aaa rfl rfl rfl) (Ab1 rfl) (AcI rfl (Arz rfl (Aac rfl rfl) rfl)) (Ab1 rfl) h0) rfl (Ahf (x:="stop") (f:=Amp dividedD) (fun d=>by kernel_rfl!) (fun d r h=>?_) f0 bs [] hd l0)) (Ahc hb)) rfl) (Ach rfl) ?_
 ·refine Aaf (Aak h) fun a ha hr=>?_;exact AaR rfl rfl (AaK rfl rfl rfl rfl rfl rfl) rfl (Aao rfl rfl (AaH rfl rfl (Aaa rfl rfl rfl) (Aac rfl rfl) ha) (Aar rfl)) hr
 refine Ado (rest:=[zS 8,zS 9,zS 10,zS 11]) (d:=.list ns) rfl rfl (.inl rfl) (AaR rfl rfl (AaK rfl rfl rfl rfl rfl rfl) rfl (Aao rfl rfl (Aaa rfl rfl rfl) (Aar rfl)) hn) (Akl _ (by simp)) ?_;refine Ado (rest:=[zS 9,zS 10,zS 11]) (d:=.list ps) rfl rfl (.inr rfl) (Amt (x:=.list ns) (items:=ns) rfl ⟨rfl,rfl,ABu⟩ (Aaa rfl rfl rfl) rfl (Ahf (x:="number") (f:=fun d=>pathD [d]) (fun d=>by kernel_rfl!) (fun d r h=>AaR rfl rfl (AaK rfl rfl rfl rfl rfl rfl) rfl (Aao rfl rfl (Aaa rfl rfl rfl) (Aar rfl)) h) ns ps [] hq l6)) (Akl _ (by simp)) ?_;refine Adw (rest:=[zS 10,zS 11]) rfl rfl (AaM (d:=.bool false) (Ab8 (a:=.list ps) (b:=.list ps) (q:=false) rfl rfl (Aaa rfl rfl rfl) (Amt (x:=.list ns) (items:=ns) rfl ⟨rfl,rfl,ABv⟩ (Aaa rfl rfl rfl) rfl (Ahf (x:="number") (f:=fun d=>textD [d]) (fun d=>by kernel_rfl!) (fun d r h=>AaR rfl rfl (AaK rfl rfl rfl rfl rfl rfl) rfl (Aao rfl rfl (Aaa rfl rfl rfl) (Aar rfl)) h) ns ps [] ht l6)) (Ahc hs)) rfl) (Ach rfl) ?_;refine Adw (rest:=[zS 11]) rfl rfl (AaM (d:=.bool false) (Arz rfl (AaR (d:=.bool true) rfl rfl (AaK rfl rfl rfl rfl rfl rfl) rfl (Aao rfl rfl (d:=.list ACU) (Amt (x:=.rng 0 6) (items:=ACT) rfl ⟨rfl,rfl,Ays⟩ (AaR rfl rfl (AaK rfl rfl rfl rfl rfl rfl) rfl (Aao rfl rfl (Aac rfl rfl) (Aar rfl)) rfl) rfl (Ahf (x:="k") (f:=fun k=>(AdA (.list ns) k).bind fun a=>(AdA (.list ps) k).bind fun b=>both_waysD [a,b,waysV]) (fun d=>by kernel_rfl!) (fun d r h=>?_) ACT ACU [] hw (by decide))) (Aar rfl)) rfl) rfl) rfl) (Ach rfl) ?_
 ·refine Aaf (Aak h) fun a ha h=>?_;refine Aaf (Aak h) fun b hb hr=>?_;exact AaR rfl rfl (AaK rfl rfl rfl rfl rfl rfl) rfl (Aao rfl rfl (AaH rfl rfl (Aaa rfl rfl rfl) (Aaa rfl rfl rfl) ha) (Aao rfl rfl (AaH rfl rfl (Aaa rfl rfl rfl) (Aaa rfl rfl rfl) hb) (Aao rfl rfl (Aaa rfl rfl rfl) (Aar rfl)))) hr
 exact AcU (rest:=[]) rfl rfl (AaR rfl rfl (AaK rfl rfl rfl rfl rfl rfl) rfl (Aao rfl rfl (Aaa rfl rfl rfl) (Aao rfl rfl (Aaa rfl rfl rfl) (Aao rfl rfl (Aaa rfl rfl rfl) (Aar rfl)))) ho)
noncomputable def AyX(p:Int×Int):D:=.tup [.int p.1,.int p.2]
noncomputable def Ajm(l:List D):List (Option D):=l.map some
noncomputable def fr8(i:Nat):List (Int×Int):=(AsX.drop i).take 8
noncomputable def ks8(i:Nat):List Int:=(ksL.drop i).take 8
noncomputable def frD(i:Nat):List D:=(fr8 i).map AyX
noncomputable def ksD(i:Nat):List D:=(ks8 i).map D.int
noncomputable def bsD(l:List D):List D:=(l.drop 1).map fun d=>(AdA d (.int 1)).getD .none
theorem Ayu:AgT.all (fun l=>l.length == 8)=true:=by kernel_rfl!
theorem ABw:(List.range 57).map (fun i=>(frD i).head?)=(AsX.take 57).map fun p=>some (AyX p):=by kernel_rfl!
theorem Ayv:AgT.map (fun l=>l.map (Amp plnD))=(List.range 57).map fun i=>Ajm (frD i):=by kernel_rfl!
theorem Ayw:AgT.map (fun l=>AcC (.list l) (some 1) none none)=AgT.map fun l=>some (.list (l.drop 1)):=by kernel_rfl!
theorem Ayx:AgT.map (fun l=>AcC (.list l) none (some (-1)) none)=AgT.map fun l=>some (.list (l.take 7)):=by kernel_rfl!
theorem Ayy:AgT.map (fun l=>(l.drop 1).map fun s=>AdA s (.int 1))=AgT.map fun l=>Ajm (bsD l):=by kernel_rfl!
theorem Ayz:AgT.map (fun l=>(l.take 7).map (Amp dividedD))=AgT.map fun l=>Ajm (bsD l):=by kernel_rfl!
theorem AyA:(List.range 57).all (fun i=>eqD (.list (frD i)) (.list (frD i)) == some true)=true:=by kernel_rfl!
theorem AyB:AgT.all (fun l=>eqD (.list (bsD l)) (.list (bsD l)) == some true)=true:=by kernel_rfl!
theorem AyC:(List.range 57).map (fun (i:Nat)=>Amm ((i:Int) - 28))=(List.range 57).map ksD:=by kernel_rfl!
theorem Akm{f:Int→Option D}(h:ksL.map f=AsX.map fun p=>some (AyX p))(i:Nat):(ks8 i).map f=Ajm (frD i):=by have:=congrArg (fun l=>(l.drop i).take 8) h;unfold ks8 Ajm frD fr8;rw[List.map_map,List.map_take,List.map_drop,List.map_take,List.map_drop];exact this
structure ACV(i:Nat)(p:Int×Int)(fr fm:List D):Prop where
 film:AjP AuV (.list [Agg p (.tup [])]) Asz=some (.list fm)
 hd:frD i=AyX p :: fr
 l8:fm.length=8
 er:eqD (.list (frD i)) (.list (frD i))=some true
 eb:eqD (.list (bsD fm)) (.list (bsD fm))=some true
 pl:fm.map (Amp plnD)=Ajm (frD i)
 s1:AcC (.list fm) (some 1) none none=some (.list (fm.drop 1))
 s0:AcC (.list fm) none (some (-1)) none=some (.list (fm.take 7))
 sn:(fm.drop 1).map (fun s=>AdA s (.int 1))=Ajm (bsD fm)
 dv:(fm.take 7).map (Amp dividedD)=Ajm (bsD fm)
 ks:Amm ((i:Int) - 28)=ksD i
 du:(ksD i).map (fun k=>dueD [k,waysV])=Ajm (frD i)
 rd:(ksD i).map (fun k=>readD [k])=Ajm (frD i)
theorem Anr{i:Nat}(hi:i<57):∃ p fr fm,ACV i p fr fm:=by
 have hm:i∈List.range 57:=List.mem_range.mpr hi;have hr:(List.range 57)[i]?=some i:=by rw[List.getElem?_range hi]
 obtain⟨F,hF⟩:∃ F,AgT[i]?=some F:=⟨_,List.getElem?_eq_getElem (show i<57 from hi)⟩
 obtain⟨p,hp⟩:∃ p,(AsX.take 57)[i]?=some p:=⟨_,List.getElem?_eq_getElem (show i<57 from hi)⟩
 have hFm:=List.mem_of_getElem? hF;refine Abo (List.head?_eq_some_iff.mp (AbT (f:=fun i=>(frD i).head?) (g:=fun p=>some (AyX p)) ABw hr hp)) fun fr hfr=>?_;have g1:=AbT AuX hp hF;have g2:=AbT Ayv hF hr;have g3:=AbT Ayw hF hF;have g4:=AbT Ayx hF hF;have g5:=AbT Ayy hF hF;have g6:=AbT Ayz hF hF;have g7:=AbT AyC hr hr;refine⟨p,fr,F,g1,hfr,eq_of_beq (List.all_eq_true.mp Ayu F hFm),eq_of_beq (List.all_eq_true.mp AyA i hm),eq_of_beq (List.all_eq_true.mp AyB F hFm),g2,g3,g4,g5,g6,g7,?_,?_⟩
 ·unfold ksD;rw[List.map_map];exact Akm Ask i
 ·unfold ksD;rw[List.map_map];exact Akm AuL i
theorem AyD:Ae9.all (fun x=>PyData.canLay0 (.str x))=true:=by kernel_rfl!
theorem AyE{i:Nat}(h:1≤i∧i≤31):pathD [.int (i:Int)]=some (.str (AcV i)):=AbT (f:=fun n=>pathD [.int n]) (g:=fun x:Str=>some (D.str x)) AuJ (Ajl h) (AeX h)
theorem AyF{i:Nat}(h:1≤i∧i≤31):textD [.int (i:Int)]=some (.str (AcV i)):=AbT (f:=fun n=>textD [.int n]) (g:=fun x:Str=>some (D.str x)) AuK (Ajl h) (AeX h)
theorem AyG{i:Nat}(h:1≤i∧i≤31):(Amf.zip Ae9)[i - 1]?=some ((i:Int),AcV i):=by rw[List.getElem?_zip_eq_some];exact⟨Ajl h,AeX h⟩
theorem AyH{i:Nat}(h:1≤i∧i≤31):both_waysD [.int (i:Int),.str (AcV i),waysV]=some (.bool true):=by have h1:=AbT (f:=fun q:Int×Str=>both_waysD [.int q.1,.str q.2,waysV]) (g:=fun _:Int=>some (D.bool true)) (x:=((i:Int),AcV i)) (y:=(i:Int)) AuM (AyG h) (Ajl h);dsimp only at h1;exact h1
theorem ABx{i:Nat}(h:1≤i∧i≤31):AsM (.str (AcV i))=true:=List.all_eq_true.mp AyD _ (List.mem_of_getElem? (AeX h))
theorem z4:zS 4=.Assign [.Name "film" (AbH (zS 4)).pos] (.Call (.Name "reduce" (Ac7 (Aaj (zS 4)))) [.Name "_law_next" (Afw 0 (Aaj (zS 4))).pos,Afw 1 (Aaj (zS 4)),Afw 2 (Aaj (zS 4))] [] (Aaj (zS 4)).pos) (Abp (zS 4)):=by kernel_rfl!
theorem AsS:AbL (Afw 1 (Aaj (zS 4)))=true∧AbL (Afw 2 (Aaj (zS 4)))=true:=⟨by kernel_rfl!,by kernel_rfl!⟩
section
variable{B:Bs}{A:Around}{s s':Shared}{g g':Gh}
theorem AyI(W:LW B){n:Nat→Nat}(hn:∀ k,k<6→1≤n k∧n k≤31):AbC B 30 (.ref Aan) (ABK n):=by
 refine Aaf ((Adv W.G).obj) fun o ho hdat=>?_;refine⟨.inr (.inr ⟨_,o,_,rfl,ho,hdat⟩),fun A s g vs ds r hA I hd hr=>?_⟩;unfold ABK at hr;refine AaG (ABa hr) fun he hr'=>?_
 cases hr'
 subst he;induction hd using Aav.consE with|cons h1 hd=>?_
 induction hd using Aav.consE with|cons h2 hd=>?_
 induction hd using Aav.consE with|cons h3 hd=>?_
 induction hd using Aav.nilE;exact Aqa (m:=20) W hA I n hn (.cons h1 (.cons h2 (.cons h3 .nil)))
theorem AyJ(W:LW B)(s:Shared)(g:Gh)(I:Inv B s g):Acw B 30 ACR s g:=Acn W (AaX (al ((AxJ (m:=0) W).up (by decide)) (al ((ApZ (m:=0) W).up (by decide)) (al ((Asg (m:=0) W).up (by decide)) (al ((AxI (m:=0) W).up (by decide)) an))))) s g I
theorem AsT(W:LW B){n:Nat→Nat}(hn:∀ k,k<6→1≤n k∧n k≤31)(s:Shared)(g:Gh)(I:Inv B s g):Acw B 30 (ABr n) s g:=Acn W (AaX (al ((AuF (m:=0) W).up (by decide)) (al ((Ap1 (m:=0) W).up (by decide)) (al ((Ap0 (m:=0) W).up (by decide)) (al ((Asd (m:=0) W).up (by decide)) (al ((AxH (m:=0) W).up (by decide)) (al ((Ame (m:=0) W).up (by decide)) (al (AyI W hn) (al (Azk W.O) (al (AfF W.O) an)))))))))) s g I
theorem ABy{ρ:Rho}(h:ρ.lookup ("range":Str)=none):ev (ABr fun _=>1) 8 s_l ρ (Afw 1 (Aaj (zS 4)))=some (.rng 0 7):=AaR rfl rfl (AaK rfl rfl h rfl rfl rfl) rfl (Aao rfl rfl (Aac rfl rfl) (Aar rfl)) rfl
theorem AyK{ρ:Rho}{p:Int×Int}{l:List D}(h:ρ.lookup ("fractions":Str)=some (.list (AyX p :: l)))(hl:l.length<1000000):ev (ABr fun _=>1) 8 s_l ρ (Afw 2 (Aaj (zS 4)))=some (.list [Agg p (.tup [])]):=
 ArC rfl (Aao rfl rfl (Adn rfl (Aao rfl rfl (AaH rfl rfl (Aaa rfl rfl h) (Aac rfl rfl) (ArH (by decide) (by show l.length+1≤_;omega) rfl)) (Aao rfl rfl (Adn rfl (Aar rfl) (by decide)) (Aar rfl))) (by show 2≤_;omega)) (Aar rfl)) (by show 1≤_;omega)
theorem AsU{f g:Nat→D}{F:D→Option D}(h:∀ k,k<6→F (f k)=some (g k)):[f 0,f 1,f 2,f 3,f 4,f 5].map F=[g 0,g 1,g 2,g 3,g 4,g 5].map some:=by show((List.range 6).map f).map F=((List.range 6).map g).map some;rw[List.map_map,List.map_map];exact List.map_congr_left fun k hk=>h k (List.mem_range.mp hk)
theorem AyL{f:Nat→D}{d:D}(h:d∈[f 0,f 1,f 2,f 3,f 4,f 5]):∃ k,k<6∧d=f k:=by refine Aaf (List.mem_map.mp (show d∈(List.range 6).map f from h)) fun k hk e=>?_;exact⟨k,List.mem_range.mp hk,e.symm⟩
theorem An9{f:Nat→D}{k:Nat}(h:k<6):AdA (.list [f 0,f 1,f 2,f 3,f 4,f 5]) (.int k)=some (f k):=
 ArH (Int.natCast_nonneg k) (show 6≤1000000 by decide) (show((List.range 6).map f)[k]?=some (f k) by rw[List.getElem?_map,List.getElem?_range h];rfl)
theorem AsV(W:LW B)(hA:AOk 31 A)(I:Inv B s g)(hfr:A.frames=some []){v:Value}{sc:List D}{xs:List Int}(hd:Den g v (.list sc))(hx:AdI sc=some xs)(hlen:sc.length≤1000000) :
  wpAny B.M A (call (.ref Adi) [v]) (fun r s'=>∃ g',Aag B s g s' g'∧r=.bool true) (fun _ _=>False) s:=by
 have hb:=Ahe xs.sum
 obtain⟨i,hi,hk⟩:∃ i:Nat,i<57∧Aco xs.sum=(i:Int) - 28:=⟨(Aco xs.sum+28).toNat,by omega,by omega⟩
 refine AC1 (Anr hi) fun p fr fm S=>?_;refine Aaf (Amo hx hlen) fun n hn hnum=>?_;have l8:=S.l8;have hst:stretchD [.list sc]=some (.list (ksD i)):=by rw[Amn hx,hk,S.ks]
 have hkl:(ksD i).length=8:=by rw[← S.ks];rfl
 have hfl:=congrArg List.length S.rd;unfold Ajm at hfl;rw[List.length_map,List.length_map,hkl,S.hd,List.length_cons] at hfl;have W1:=Ayq hst S.du S.rd (by omega) S.er;have W2:=Ayt (n:=n) (ks:=ksD i) (ns:=Ayj n) (ps:=Awg n) S.pl S.s1 S.s0 S.sn S.dv (by omega) (by rw[List.length_drop];omega) (by rw[List.length_take];omega) (show 0+6<1000000 by decide) S.er S.eb hnum
  (AsU (f:=fun k=>.int (n k)) (g:=pth n) fun k h=>AyE (hn k h)) (AsU (f:=fun k=>.int (n k)) (g:=pth n) fun k h=>AyF (hn k h)) (AsU (f:=fun k=>.int k) (g:=fun _=>.bool true) fun k h=>Aau (An9 (f:=fun k=>.int (n k)) h) (Aau (An9 (f:=pth n) h) (AyH (hn k h))))
  (An8 (List.all_eq_true.mpr fun d hd=>by
   refine Aaf (AyL (f:=pth n) hd) fun k h e=>?_;rw[e];exact ABx (hn k h))) (if_pos rfl)
 refine Alh (n:=30) W.O (ApI W.G) hA I (.cons hd .nil) rfl fun env s1 e1 e2 e3 e4 F hkeep=>?_;rw[AeN] at e1;rw[AeN,← e1] at F;have e1:env.scope=s_l:=e1;have F:Fm B s g (Aam env.scope.names) env [("script",.list sc)] s1 g:=F;have hA':AOk 30 (A.deeper env):=hA.deeper;rw[Avq];rw[← e1] at W1;refine AcJ ((Acj W.O (AyJ W s g I) hA' 20 _ _ _ s1 g W1 F).use fun f s2 g2 l2 en=>?_);refine AaG en fun z1 F2=>?_;subst z1;show wpAny B.M (A.deeper env) (execs (zS 4 :: [zS 5,zS 6,zS 7,zS 8,zS 9,zS 10,zS 11]) env) _ _ s2;refine wpAny_execs_cons ?_;rw[z4];refine AdK rfl (wpAny_Call_NameR ((F2.gname W.O (x:="reduce") (v:=.ref AbO) (by unfold Env.kindOf;rw[e1];kernel_rfl!) (Abm W "reduce" _ rfl) rfl).use fun fv s3 g3 x3 hf3=>?_));subst hf3;have F3:=F2.step x3;rw[Aaw (es:=[.Name "_law_next" (Afw 0 (Aaj (zS 4))).pos,Afw 1 (Aaj (zS 4)),Afw 2 (Aaj (zS 4))]) (by
  intro e he;simp only[List.mem_cons,List.not_mem_nil,or_false] at he
  rcases he with rfl|rfl|rfl
  ·rfl
  ·exact AsS.1
  ·exact AsS.2)]
 refine Aaf ((Axv W).d0.obj) fun oc hoc hdc=>?_;have K1:=AsT W (n:=fun _=>1) (fun k _=>⟨by decide,by decide⟩) s g I;have EV:=(AaZ W.O K1 hA' 8).1 (Aam env.scope.names) env (ACS sc (ksD i) (frD i));refine callWith_of (P:=fun h=>∃ o fd,h.get? AbO=some o∧o.data=.func fd) rfl (fun h hp=>?_) (Calls.evalArgs_plain (Calls.spliced_cons ((F3.gname W.O (x:="_law_next") (v:=.ref AaP) (by unfold Env.kindOf;rw[e1];kernel_rfl!) (Ajc W "_law_next" _ rfl) rfl).use fun nv s4 g4 x4 hn4=>Calls.spliced_cons ((EV _ _ _ _ (by rw[e1];exact ABy rfl) (F3.step x4)).use fun sq s5 g5 x5 hsq=>Calls.spliced_cons ((EV _ _ _ _ (by rw[e1];exact AyK (l:=fr) (congrArg (fun l=>some (D.list l)) S.hd) (by omega)) ((F3.step x4).step x5)).use fun vi s6 g6 x6 hvi=>wpAny_pure ⟨⟨oc,_,x6.inv.get (x6.inv.base _ _ hoc),hdc⟩,?_⟩)))))
 ·refine Afx hp fun o fd h1 h2=>?_;refine⟨.frame,.inl rfl,?_⟩;unfold keeperOf;refine(Looks.ld (part:=none) h1).andThen ?_;rw[h2];exact .now
 subst hn4;have F6:=((F3.step x4).step x5).step x6;have hl:AbY [env] s6:=AbY.cons (fun e he=>by cases he) F6 e4;have hof:Ajf ([env].filterMap (·.frame)) s s6 g6:=fun a ha=>by
  refine Aaf (List.mem_filterMap.mp ha) fun y hy hyf=>?_;rw[List.mem_singleton] at hy;rw[hy,e4] at hyf;cases hyf;exact F6.frAt _ (.head _)
 refine wpAny_mono (Ax0 (n:=13) (outer:=[env]) W hA' F6.inv F6.st (Around.frames_deeper hfr) hl hof (hsq.mono x6.le) hvi rfl (show Acq (.rng 0 7)=some Asz from rfl) S.film) (fun r s7 h7=>?_) fun _ _ z=>z.elim;refine Aaf h7 fun g7 M hr7=>?_;have F7:=M.fm _ _ _ F6;refine F7.store W.O (Abl (by rw[e1];exact Akl _ (by simp))) hr7 fun s8 F8 oth=>?_;rw[← e1] at W2;refine wpAny_mono (Ack W.O (AsT W hn s g I) hA' F8 W2) (fun f s9 h9=>?_) fun _ _ z=>z.elim;refine Aaf h9 fun g9 x9 h9=>?_;refine⟨g9,x9,?_⟩
 cases f with
 |ret w=>cases h9 using Den.boolE;rfl
 |_=>cases h9 using Den.boolE
end
theorem Aqc{K:Frag}{h:Heap}{a:Addr}{m:Str→Option Value}{n:Str}(X:K.In h)(G:h.Ns a m)(e:nsIn K a n=some none):m n=none:=by
 refine Ay1 G fun o es ep ho hd _ hf=>?_
 cases q:K.lookup a with
 |none=>unfold nsIn at e;rw[q] at e;exact Aah e
 |some o'=>
  have:=X _ _ q;rw[ho] at this
  cases this
  unfold nsIn at e;rw[q] at e
  obtain⟨c,d,dt,sl⟩:=o
  dsimp only at hd;subst hd;dsimp only at e
  split at e
  ·cases e
  ·rename_i he;rw[← hf];unfold nsFind findBy;rw[← Array.find?_toList,he]
   rfl
theorem AyM(p:Params):((nsIn (hpL p) mainGlobals "__name__").bind id).isSome=true:=by kernel_rfl!
theorem Avr(p:Params):((hpL p).lookup sysModules).isSome=true:=by kernel_rfl!
theorem AyN:sysModules ∉ tabA:=by decide
theorem AyO(p:Params):nsIn (hpL p) cStatics "thirdparty.any"=some none:=by kernel_rfl!
theorem AyP:bootBuiltins "__build_class__"=some (.builtin "__build_class__"):=by kernel_rfl!
section
variable{prog p:Program}{w:World}{s₁:Shared}{mg mb:Str→Option Value}{loose:List Str}{mean:ExcName→Option Value}
theorem ACW(KX:(hpL w.params).In s₁.heap)(T:Top p loose mean mg mb s₁.heap):LW (mkB prog w s₁ mg mb tabsL Ae6):=by
 have hT:TabsAt tabsL s₁.heap:=AlF KX (Aq1 w.params);have gl:∀ x v,Ak6 w.params x=some v→(mkB prog w s₁ mg mb tabsL Ae6).look x=some v:=fun x v h=>by
  unfold Ak6 at h;show(mg x).or (mb x)=some v
  split at h
  ·rename_i v' e
   cases h
   rw[mg_of KX T.g e];rfl
  ·rename_i e
   split at h
   ·exact Aah h
   ·rename_i hx;rw[mg_none_of KX T.g e,T.builtins x (fun e'=>hx (by rw[e'];exact beq_self_eq_true _))];exact h
  ·exact Aah h
 refine⟨Azp hT T,Azq hT T,Atg,AqG KX,gl,?_,?_,?_,?_,?_⟩
 ·exact(T.builtins _ (by decide)).trans AyP
 ·exact gl "object" _ (eq_of_beq (List.all_eq_true.mp (Am8 w.params) (("object":Str),Value.type "object") (by unfold Aua;simp)))
 ·refine Abo (Option.isSome_iff_exists.mp (AyM w.params)) fun v hv=>?_;refine Aaf (Option.bind_eq_some_iff.mp hv) fun q e1 e2=>?_;have e2:q=some v:=e2;subst e2;exact⟨v,mg_of KX T.g e1⟩
 ·refine Abo (Option.isSome_iff_exists.mp (Avr w.params)) fun o ho=>?_;exact⟨o,(AqG (prog:=prog) (mg:=mg) (mb:=mb) (names:=Ae6) (tabs:=tabsL) KX).inG _ _ ho AyN⟩
 ·refine Aaf T.nolimit fun mc hmc _=>?_;exact⟨mc,ghost_ns hT hmc,Aqc KX hmc (AyO w.params)⟩
theorem Ans(xs:List Int):AdI (xs.map D.int)=some xs:=by
 induction xs with
 |nil=>rfl
 |cons x xs ih=>exact Aau ih rfl
theorem Amq{P:Params}{h:Heap}{g:Gh}:∀ {vs:List Value} {xs:List Int},WellAll P h vs (xs.map WData.int)→Aav g vs (xs.map D.int)
 |_,[],h=>by cases h;exact .nil
 |_,x :: xs,h=>by
  cases h with|cons h1 h2=>?_
  cases h1
  exact .cons .int (Amq h2)
theorem ACX:AOk 31 callerA:=⟨rfl,by decide,by decide⟩
theorem AyQ(KX:(hpL w.params).In s₁.heap)(T:Top p loose mean mg mb s₁.heap)(hg:s₁.gens=#[]){l:Addr}{xs:List Int}(hW:Well w.params s₁.heap (.ref l) (.list (xs.map WData.int)))(hlen:xs.length≤63)
  {c:ClaimW} {cl:Str→Option Addr} {args:List WData} (hn:∀ cls,c.raises args cls=false) (hp:c.post args (.bool true) args=true) {E:Value→Shared→Prop} :
  wpAny (model prog w) callerA (call (.ref 311) [.ref l]) (fun v s'=>GoodWG c cl mean args s₁ (.ok (.ret v)) s') E s₁:=by
 have hT:TabsAt tabsL s₁.heap:=AlF KX (Aq1 w.params);have W:=ACW (prog:=prog) KX T;have I:=AwJ (prog:=prog) (w:=w) (mg:=mg) (mb:=mb) (names:=Ae6) hT hg
 cases hW with|list ho hw=>?_
 have hG:=ghost_get hT ho (fun q=>by cases q);refine wpAny_mono (AsV W ACX I rfl (sc:=xs.map D.int) (xs:=xs) (.list hG (Amq hw)) (Ans xs) (by rw[List.length_map];omega)) (fun v s' h=>?_) fun _ _ z=>z.elim;refine Aaf h fun g' x z1=>?_;subst z1;exact AwK hT x hn hp
end
end Mine
open Mine PySem PySem.W PyProof.Rows PySem.W.X
theorem PySem.Challenge.cw_qw0061_02_holds : PySem.Challenge.rw_qw0061_02.Holds := by
 exact Mine.hd (by
 k_fill
 intro w s₀ s₁ mg mb G Y fa o pm cd doc dV kV ho hd hcd hD hmg hg args vals as hpre hlay hrd hwl hlo;have KX:=kIn_of Y;have X:=(Ground.X G).1;have V:=(Ground.X G).2;refine Ground.open G ?_;intro T B D TE TW
 wrow_args hpre hlay hrd hwl hlo
 all_goals (
  x_fa T KX hmg)
 rename_i xs hs hlay0 hL1 hr1 hl2 w4 w3 w2 w1 w0 hL ra hW r0 hI hr hc1 hc2;refine AyQ KX T hg (xs:=xs) ?_ (by omega) ?_ ?_
 ·have e:ofPy (PyData.list (xs.map PyData.int))=WData.list (xs.map WData.int):=by
   simp only[ofPy,ofPys_eq,List.map_map]
   congr 1
  rw[← e];exact hW
 ·intro cls;rfl
 ·kernel_rfl!)

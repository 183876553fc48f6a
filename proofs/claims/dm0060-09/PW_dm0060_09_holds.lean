import PyProof.Rows.All
import Wide.All
import OpenK.AllK
import Wide.FinOn
import Open.Tops
import Flt.RightMore
import Flt.Ops
import KE.KSortAsk
import PySem.Challenge.RW_dm0060_09
open PySem PySem.W PyProof.Rows
set_option Elab.async false
set_option linter.unusedVariables false
set_option maxRecDepth 100000
open _root_.PySem.Str renaming ofString→Qq
open _root_.PySem renaming wpAny_bind→Qw, wpAny_pure→Qr, wpAny_holding→Qf, sizeLine→Qc, compareOp→QQ, builtinLookup_eq_fast→QG, wpAny_mono→Q5, foldedSetIterable→Q8, mainGlobals→Wy, wpAny_call_entry→Wu
open _root_.Nat renaming le_trans→Qe, le_refl→Qt, lt_of_lt_of_le→Qy, ne_of_lt→Qg, lt_of_le_of_lt→Qj, lt_succ_self→Qk, zero_le→Qz, le_of_lt→Qx, le_of_lt_succ→Qv, ne_of_gt→QE, le_succ_of_le→QT, le_add_right→QP, le_of_eq→QK, succ_le_succ→QC, le_of_ble_eq_true→QV, not_lt_zero→Q0, add_le_add_left→Q2, le_add_left→Q9, add_assoc→Wq, le_of_succ_le→We, add_right_comm→Wr, add_le_add_right→Wi
open _root_.PySem.Heap renaming get?_push_size→Qu, get?_push_of_some→Qd
open _root_.PySem.PyData renaming keyHash→Qi, strOk→QH
open _root_.List renaming length_map→Qo, getElem?_eq_some_iff→Qp, mem_of_getElem?→Qa, mem_singleton→Qs, getElem?_eq_getElem→Qh, prefix_refl→Ql, getElem?_map→Qb, length_append→Qn, mem_cons→QY, mem_map→QO, not_mem_nil→QZ, length_filter_le→QX, getD_eq_getElem?_getD→QN, map_cons→Q3, append_nil→Q4, map_map→Q7, map_append→Wt, range→Wo, mem_filter→Wp
open _root_.Bool renaming false_eq_true→Qm
open _root_.Option renaming map_eq_some_iff→QW
open _root_.Array renaming length_toList→QD
open _root_.PySem.SetTable renaming below→QJ
open _root_.PySem.Builtin.Range renaming rangeSize→Q6
open _root_.Int renaming ofNat_lt→Ww
set_option maxHeartbeats 4000000
set_option tactic.hygienic false
set_option compiler.extract_closed false
set_option genInjectivity false
set_option genSizeOf false
namespace Mine
def aR:Lean.Syntax:= .node .none `Lean.Parser.Tactic.tacticSeq #[.node .none `Lean.Parser.Tactic.tacticSeq1Indented #[.node .none `null #[.node .none `Lean.Parser.Tactic.tacticRfl #[.atom .none "rfl"]]]]
def aI:Lean.Syntax:= .node .none `Lean.Parser.Tactic.tacticSeq #[.node .none `Lean.Parser.Tactic.tacticSeq1Indented #[.node .none `null #[.node .none `Lean.Parser.Tactic.intros #[.atom .none "intros", .node .none `null #[]], .atom .none ";", .node .none `Lean.Parser.Tactic.tacticRfl #[.atom .none "rfl"]]]]
def aD:Lean.Syntax:= .node .none `Lean.Parser.Tactic.tacticSeq #[.node .none `Lean.Parser.Tactic.tacticSeq1Indented #[.node .none `null #[.node .none `Lean.Parser.Tactic.decide #[.atom .none "decide", .node .none `Lean.Parser.Tactic.optConfig #[.node .none `null #[]]]]]]
def aW:Lean.Syntax:= .node .none `Lean.Parser.Tactic.tacticSeq #[.node .none `Lean.Parser.Tactic.tacticSeq1Indented #[.node .none `null #[.node .none `Lean.Parser.Tactic.withUnfoldingAll #[.atom .none "with_unfolding_all", .node .none `Lean.Parser.Tactic.tacticSeq #[.node .none `Lean.Parser.Tactic.tacticSeq1Indented #[.node .none `null #[.node .none `Lean.Parser.Tactic.tacticRfl #[.atom .none "rfl"]]]]]]]]
def aS:Lean.Syntax:= .node .none `Lean.Parser.Tactic.tacticSeq #[.node .none `Lean.Parser.Tactic.tacticSeq1Indented #[.node .none `null #[.node .none `Lean.Parser.Tactic.simp #[.atom .none "simp", .node .none `Lean.Parser.Tactic.optConfig #[.node .none `null #[]], .node .none `null #[], .node .none `null #[], .node .none `null #[], .node .none `null #[]]]]]
theorem x_A {p0:Prop} {p1:Prop} {P:Prop} (h:p0∧p1) (k:p0→p1→P):P:=k h.1 h.2
theorem x_E {a0:Sort _} {p0:a0→Prop} {P:Prop} (h:∃x0:a0,p0 x0) (k:∀x0:a0,p0 x0→P):P:=h.elim fun x0 h0=>k x0 h0
theorem x_AA {p0:Prop} {p1:Prop} {p2:Prop} {P:Prop} (h:p0∧p1∧p2) (k:p0→p1→p2→P):P:=k h.1 h.2.1 h.2.2
theorem x_EA {a0:Sort _} {p0:a0→Prop} {p1:a0→Prop} {P:Prop} (h:∃x0:a0,p0 x0∧p1 x0) (k:∀x0:a0,p0 x0→p1 x0→P):P:=h.elim fun x0 h0=>k x0 h0.1 h0.2
theorem x_EE {a0:Sort _} {a1:Sort _} {p0:a0→a1→Prop} {P:Prop} (h:∃x0:a0,∃x1:a1,p0 x0 x1) (k:∀x0:a0,∀x1:a1,p0 x0 x1→P):P:=h.elim fun x0 h0=>h0.elim fun x1 h1=>k x0 x1 h1
theorem x_AEA {a0:Sort _} {p0:Prop} {p1:a0→Prop} {p2:a0→Prop} {P:Prop} (h:p0∧∃x0:a0,p1 x0∧p2 x0) (k:p0→∀x0:a0,p1 x0→p2 x0→P):P:=h.2.elim fun x0 h1=>k h.1 x0 h1.1 h1.2
theorem x_EAA {a0:Sort _} {p0:a0→Prop} {p1:a0→Prop} {p2:a0→Prop} {P:Prop} (h:∃x0:a0,p0 x0∧p1 x0∧p2 x0) (k:∀x0:a0,p0 x0→p1 x0→p2 x0→P):P:=h.elim fun x0 h0=>k x0 h0.1 h0.2.1 h0.2.2
theorem x_EEA {a0:Sort _} {a1:Sort _} {p0:a0→a1→Prop} {p1:a0→a1→Prop} {P:Prop} (h:∃x0:a0,∃x1:a1,p0 x0 x1∧p1 x0 x1) (k:∀x0:a0,∀x1:a1,p0 x0 x1→p1 x0 x1→P):P:=h.elim fun x0 h0=>h0.elim fun x1 h1=>k x0 x1 h1.1 h1.2
theorem x_EAAA {a0:Sort _} {p0:a0→Prop} {p1:a0→Prop} {p2:a0→Prop} {p3:a0→Prop} {P:Prop} (h:∃x0:a0,p0 x0∧p1 x0∧p2 x0∧p3 x0) (k:∀x0:a0,p0 x0→p1 x0→p2 x0→p3 x0→P):P:=h.elim fun x0 h0=>k x0 h0.1 h0.2.1 h0.2.2.1 h0.2.2.2
theorem x_EAAE {a0:Sort _} {a1:Sort _} {p0:a0→Prop} {p1:a0→Prop} {p2:a0→a1→Prop} {P:Prop} (h:∃x0:a0,p0 x0∧p1 x0∧∃x1:a1,p2 x0 x1) (k:∀x0:a0,p0 x0→p1 x0→∀x1:a1,p2 x0 x1→P):P:=h.elim fun x0 h0=>h0.2.2.elim fun x1 h3=>k x0 h0.1 h0.2.1 x1 h3
theorem x_EAEA {a0:Sort _} {a1:Sort _} {p0:a0→Prop} {p1:a0→a1→Prop} {p2:a0→a1→Prop} {P:Prop} (h:∃x0:a0,p0 x0∧∃x1:a1,p1 x0 x1∧p2 x0 x1) (k:∀x0:a0,p0 x0→∀x1:a1,p1 x0 x1→p2 x0 x1→P):P:=h.elim fun x0 h0=>h0.2.elim fun x1 h2=>k x0 h0.1 x1 h2.1 h2.2
theorem x_EEAA {a0:Sort _} {a1:Sort _} {p0:a0→a1→Prop} {p1:a0→a1→Prop} {p2:a0→a1→Prop} {P:Prop} (h:∃x0:a0,∃x1:a1,p0 x0 x1∧p1 x0 x1∧p2 x0 x1) (k:∀x0:a0,∀x1:a1,p0 x0 x1→p1 x0 x1→p2 x0 x1→P):P:=h.elim fun x0 h0=>h0.elim fun x1 h1=>k x0 x1 h1.1 h1.2.1 h1.2.2
theorem x_EEEA {a0:Sort _} {a1:Sort _} {a2:Sort _} {p0:a0→a1→a2→Prop} {p1:a0→a1→a2→Prop} {P:Prop} (h:∃x0:a0,∃x1:a1,∃x2:a2,p0 x0 x1 x2∧p1 x0 x1 x2) (k:∀x0:a0,∀x1:a1,∀x2:a2,p0 x0 x1 x2→p1 x0 x1 x2→P):P:=h.elim fun x0 h0=>h0.elim fun x1 h1=>h1.elim fun x2 h2=>k x0 x1 x2 h2.1 h2.2
theorem x_EEAAA {a0:Sort _} {a1:Sort _} {p0:a0→a1→Prop} {p1:a0→a1→Prop} {p2:a0→a1→Prop} {p3:a0→a1→Prop} {P:Prop} (h:∃x0:a0,∃x1:a1,p0 x0 x1∧p1 x0 x1∧p2 x0 x1∧p3 x0 x1) (k:∀x0:a0,∀x1:a1,p0 x0 x1→p1 x0 x1→p2 x0 x1→p3 x0 x1→P):P:=h.elim fun x0 h0=>h0.elim fun x1 h1=>k x0 x1 h1.1 h1.2.1 h1.2.2.1 h1.2.2.2
theorem x_EEEAA {a0:Sort _} {a1:Sort _} {a2:Sort _} {p0:a0→a1→a2→Prop} {p1:a0→a1→a2→Prop} {p2:a0→a1→a2→Prop} {P:Prop} (h:∃x0:a0,∃x1:a1,∃x2:a2,p0 x0 x1 x2∧p1 x0 x1 x2∧p2 x0 x1 x2) (k:∀x0:a0,∀x1:a1,∀x2:a2,p0 x0 x1 x2→p1 x0 x1 x2→p2 x0 x1 x2→P):P:=h.elim fun x0 h0=>h0.elim fun x1 h1=>h1.elim fun x2 h2=>k x0 x1 x2 h2.1 h2.2.1 h2.2.2
theorem x_EEAAAA {a0:Sort _} {a1:Sort _} {p0:a0→a1→Prop} {p1:a0→a1→Prop} {p2:a0→a1→Prop} {p3:a0→a1→Prop} {p4:a0→a1→Prop} {P:Prop} (h:∃x0:a0,∃x1:a1,p0 x0 x1∧p1 x0 x1∧p2 x0 x1∧p3 x0 x1∧p4 x0 x1) (k:∀x0:a0,∀x1:a1,p0 x0 x1→p1 x0 x1→p2 x0 x1→p3 x0 x1→p4 x0 x1→P):P:=h.elim fun x0 h0=>h0.elim fun x1 h1=>k x0 x1 h1.1 h1.2.1 h1.2.2.1 h1.2.2.2.1 h1.2.2.2.2
theorem x_EEEAAA {a0:Sort _} {a1:Sort _} {a2:Sort _} {p0:a0→a1→a2→Prop} {p1:a0→a1→a2→Prop} {p2:a0→a1→a2→Prop} {p3:a0→a1→a2→Prop} {P:Prop} (h:∃x0:a0,∃x1:a1,∃x2:a2,p0 x0 x1 x2∧p1 x0 x1 x2∧p2 x0 x1 x2∧p3 x0 x1 x2) (k:∀x0:a0,∀x1:a1,∀x2:a2,p0 x0 x1 x2→p1 x0 x1 x2→p2 x0 x1 x2→p3 x0 x1 x2→P):P:=h.elim fun x0 h0=>h0.elim fun x1 h1=>h1.elim fun x2 h2=>k x0 x1 x2 h2.1 h2.2.1 h2.2.2.1 h2.2.2.2
theorem x_EEEEAA {a0:Sort _} {a1:Sort _} {a2:Sort _} {a3:Sort _} {p0:a0→a1→a2→a3→Prop} {p1:a0→a1→a2→a3→Prop} {p2:a0→a1→a2→a3→Prop} {P:Prop} (h:∃x0:a0,∃x1:a1,∃x2:a2,∃x3:a3,p0 x0 x1 x2 x3∧p1 x0 x1 x2 x3∧p2 x0 x1 x2 x3) (k:∀x0:a0,∀x1:a1,∀x2:a2,∀x3:a3,p0 x0 x1 x2 x3→p1 x0 x1 x2 x3→p2 x0 x1 x2 x3→P):P:=h.elim fun x0 h0=>h0.elim fun x1 h1=>h1.elim fun x2 h2=>h2.elim fun x3 h3=>k x0 x1 x2 x3 h3.1 h3.2.1 h3.2.2
theorem x_EEAAAAA {a0:Sort _} {a1:Sort _} {p0:a0→a1→Prop} {p1:a0→a1→Prop} {p2:a0→a1→Prop} {p3:a0→a1→Prop} {p4:a0→a1→Prop} {p5:a0→a1→Prop} {P:Prop} (h:∃x0:a0,∃x1:a1,p0 x0 x1∧p1 x0 x1∧p2 x0 x1∧p3 x0 x1∧p4 x0 x1∧p5 x0 x1) (k:∀x0:a0,∀x1:a1,p0 x0 x1→p1 x0 x1→p2 x0 x1→p3 x0 x1→p4 x0 x1→p5 x0 x1→P):P:=h.elim fun x0 h0=>h0.elim fun x1 h1=>k x0 x1 h1.1 h1.2.1 h1.2.2.1 h1.2.2.2.1 h1.2.2.2.2.1 h1.2.2.2.2.2
theorem x_EEEEAAA {a0:Sort _} {a1:Sort _} {a2:Sort _} {a3:Sort _} {p0:a0→a1→a2→a3→Prop} {p1:a0→a1→a2→a3→Prop} {p2:a0→a1→a2→a3→Prop} {p3:a0→a1→a2→a3→Prop} {P:Prop} (h:∃x0:a0,∃x1:a1,∃x2:a2,∃x3:a3,p0 x0 x1 x2 x3∧p1 x0 x1 x2 x3∧p2 x0 x1 x2 x3∧p3 x0 x1 x2 x3) (k:∀x0:a0,∀x1:a1,∀x2:a2,∀x3:a3,p0 x0 x1 x2 x3→p1 x0 x1 x2 x3→p2 x0 x1 x2 x3→p3 x0 x1 x2 x3→P):P:=h.elim fun x0 h0=>h0.elim fun x1 h1=>h1.elim fun x2 h2=>h2.elim fun x3 h3=>k x0 x1 x2 x3 h3.1 h3.2.1 h3.2.2.1 h3.2.2.2
theorem x_AEEAAAAA {a0:Sort _} {a1:Sort _} {p0:Prop} {p1:a0→a1→Prop} {p2:a0→a1→Prop} {p3:a0→a1→Prop} {p4:a0→a1→Prop} {p5:a0→a1→Prop} {p6:a0→a1→Prop} {P:Prop} (h:p0∧∃x0:a0,∃x1:a1,p1 x0 x1∧p2 x0 x1∧p3 x0 x1∧p4 x0 x1∧p5 x0 x1∧p6 x0 x1) (k:p0→∀x0:a0,∀x1:a1,p1 x0 x1→p2 x0 x1→p3 x0 x1→p4 x0 x1→p5 x0 x1→p6 x0 x1→P):P:=h.2.elim fun x0 h1=>h1.elim fun x1 h2=>k h.1 x0 x1 h2.1 h2.2.1 h2.2.2.1 h2.2.2.2.1 h2.2.2.2.2.1 h2.2.2.2.2.2
theorem x_EEEAAAAA {a0:Sort _} {a1:Sort _} {a2:Sort _} {p0:a0→a1→a2→Prop} {p1:a0→a1→a2→Prop} {p2:a0→a1→a2→Prop} {p3:a0→a1→a2→Prop} {p4:a0→a1→a2→Prop} {p5:a0→a1→a2→Prop} {P:Prop} (h:∃x0:a0,∃x1:a1,∃x2:a2,p0 x0 x1 x2∧p1 x0 x1 x2∧p2 x0 x1 x2∧p3 x0 x1 x2∧p4 x0 x1 x2∧p5 x0 x1 x2) (k:∀x0:a0,∀x1:a1,∀x2:a2,p0 x0 x1 x2→p1 x0 x1 x2→p2 x0 x1 x2→p3 x0 x1 x2→p4 x0 x1 x2→p5 x0 x1 x2→P):P:=h.elim fun x0 h0=>h0.elim fun x1 h1=>h1.elim fun x2 h2=>k x0 x1 x2 h2.1 h2.2.1 h2.2.2.1 h2.2.2.2.1 h2.2.2.2.2.1 h2.2.2.2.2.2
theorem x_EEEEAAAA {a0:Sort _} {a1:Sort _} {a2:Sort _} {a3:Sort _} {p0:a0→a1→a2→a3→Prop} {p1:a0→a1→a2→a3→Prop} {p2:a0→a1→a2→a3→Prop} {p3:a0→a1→a2→a3→Prop} {p4:a0→a1→a2→a3→Prop} {P:Prop} (h:∃x0:a0,∃x1:a1,∃x2:a2,∃x3:a3,p0 x0 x1 x2 x3∧p1 x0 x1 x2 x3∧p2 x0 x1 x2 x3∧p3 x0 x1 x2 x3∧p4 x0 x1 x2 x3) (k:∀x0:a0,∀x1:a1,∀x2:a2,∀x3:a3,p0 x0 x1 x2 x3→p1 x0 x1 x2 x3→p2 x0 x1 x2 x3→p3 x0 x1 x2 x3→p4 x0 x1 x2 x3→P):P:=h.elim fun x0 h0=>h0.elim fun x1 h1=>h1.elim fun x2 h2=>h2.elim fun x3 h3=>k x0 x1 x2 x3 h3.1 h3.2.1 h3.2.2.1 h3.2.2.2.1 h3.2.2.2.2
theorem x_EEEEAAAAA {a0:Sort _} {a1:Sort _} {a2:Sort _} {a3:Sort _} {p0:a0→a1→a2→a3→Prop} {p1:a0→a1→a2→a3→Prop} {p2:a0→a1→a2→a3→Prop} {p3:a0→a1→a2→a3→Prop} {p4:a0→a1→a2→a3→Prop} {p5:a0→a1→a2→a3→Prop} {P:Prop} (h:∃x0:a0,∃x1:a1,∃x2:a2,∃x3:a3,p0 x0 x1 x2 x3∧p1 x0 x1 x2 x3∧p2 x0 x1 x2 x3∧p3 x0 x1 x2 x3∧p4 x0 x1 x2 x3∧p5 x0 x1 x2 x3) (k:∀x0:a0,∀x1:a1,∀x2:a2,∀x3:a3,p0 x0 x1 x2 x3→p1 x0 x1 x2 x3→p2 x0 x1 x2 x3→p3 x0 x1 x2 x3→p4 x0 x1 x2 x3→p5 x0 x1 x2 x3→P):P:=h.elim fun x0 h0=>h0.elim fun x1 h1=>h1.elim fun x2 h2=>h2.elim fun x3 h3=>k x0 x1 x2 x3 h3.1 h3.2.1 h3.2.2.1 h3.2.2.2.1 h3.2.2.2.2.1 h3.2.2.2.2.2
theorem x_EEEEEAAAAA {a0:Sort _} {a1:Sort _} {a2:Sort _} {a3:Sort _} {a4:Sort _} {p0:a0→a1→a2→a3→a4→Prop} {p1:a0→a1→a2→a3→a4→Prop} {p2:a0→a1→a2→a3→a4→Prop} {p3:a0→a1→a2→a3→a4→Prop} {p4:a0→a1→a2→a3→a4→Prop} {p5:a0→a1→a2→a3→a4→Prop} {P:Prop} (h:∃x0:a0,∃x1:a1,∃x2:a2,∃x3:a3,∃x4:a4,p0 x0 x1 x2 x3 x4∧p1 x0 x1 x2 x3 x4∧p2 x0 x1 x2 x3 x4∧p3 x0 x1 x2 x3 x4∧p4 x0 x1 x2 x3 x4∧p5 x0 x1 x2 x3 x4) (k:∀x0:a0,∀x1:a1,∀x2:a2,∀x3:a3,∀x4:a4,p0 x0 x1 x2 x3 x4→p1 x0 x1 x2 x3 x4→p2 x0 x1 x2 x3 x4→p3 x0 x1 x2 x3 x4→p4 x0 x1 x2 x3 x4→p5 x0 x1 x2 x3 x4→P):P:=h.elim fun x0 h0=>h0.elim fun x1 h1=>h1.elim fun x2 h2=>h2.elim fun x3 h3=>h3.elim fun x4 h4=>k x0 x1 x2 x3 x4 h4.1 h4.2.1 h4.2.2.1 h4.2.2.2.1 h4.2.2.2.2.1 h4.2.2.2.2.2
theorem oP {k r:Nat} (h:r≤k+1):(k:Int)-r+1=((k+1-r:Nat):Int):=by rw[Int.ofNat_sub h];show(k:Int)-r+1=(k:Int)+1-r;rw[Int.sub_eq_add_neg,Int.add_right_comm,←Int.sub_eq_add_neg]
theorem oT {a m n L c:Nat} (h:m≤n) (h2:a+c*n<L):a+c*m<L:=Qj (Q2 (Nat.mul_le_mul_left c h) a) h2
theorem oV {x:Int} {m:Nat}:max 0 (min x (m:Int))≤m:=Int.max_le.mpr ⟨Int.natCast_nonneg _,Int.min_le_right _ _⟩
theorem p1 {j b k e:Nat} (h:b≤j) (h2:j+k≤e):j-b+k≤e-b:=by rw[←Nat.sub_add_comm h];exact Nat.sub_le_sub_right h2 _
theorem p2 {p b k e:Nat} (h:b≤e) (h2:p+k≤e-b):b+p+k≤e:=by rw[Wq];exact Nat.add_le_of_le_sub' h h2
theorem p3 {p n L:Nat} (h:p<n) (h2:n≤L):min p n≤L:=Qe (Nat.min_le_right _ _) h2
theorem p4 {z:Int} {j:Nat} (h:¬(j:Int)=z) (h0:0≤z) (e:z.toNat=j):False:=h (by rw[←e,Int.toNat_of_nonneg h0])
theorem p5 {a b c:Nat} (h:a<min b c):a<c:=Qy h (Nat.min_le_right _ _)
theorem p6 {k:Int} {n:Nat} (h0:0≤k) (h:k<n):k.toNat<n:=(Int.toNat_lt h0).mpr h
theorem p7 {a b k:Nat} (h:a≤k) (h2:b≤k):max a b≤k:=Nat.max_le.mpr ⟨h,h2⟩
theorem p8 {a b c d:Nat} (h:a≤b+1) (h2:b≤c):a≤c+1:=Qe h (QC h2)
theorem p9 {a m k:Nat} (h:a=m) (h1:k≤m) (h2:a≤k):k=m:=Nat.le_antisymm h1 (h▸h2)
theorem q1 {i k n L:Nat} (h:L≤n) (h2:i+k≤L):i+k≤n:=Qe h2 h
theorem q2 {a b:Nat} {u:Int} (h:(a:Int)-b=u) (h2:b≤a):u=((a-b:Nat):Int):=by rw[←h,Int.ofNat_sub h2]
end Mine
namespace Mine
noncomputable abbrev AnyT:=Array Nat→(Nat→Bool)→Nat→Nat→Bool
noncomputable def anyL (as:Array Nat) (p:Nat→Bool) (a b:Nat):Bool :=
 @Bool.rec (fun _=>Bool) (Array.any as p a b) (as.toList.any p) (Nat.beq a 0&&Nat.beq b as.size)
theorem anyL_eq:@Array.any Nat=anyL:=by
 funext as p a b
 unfold anyL
 cases h:(Nat.beq a 0&&Nat.beq b as.size) with
 |false=>rfl
 |true =>
  refine x_A (Bool.and_eq_true_iff.mp h) fun h1 h2=> ?_
  have e1:=Nat.eq_of_beq_eq_true h1
  have e2:=Nat.eq_of_beq_eq_true h2
  subst e1;subst e2
  exact Array.any_toList.symm
inductive Carrier (b:Builtin):Type where
 |mk:Carrier b
noncomputable def fromType {b:Builtin} (_:Carrier b):Builtin:=b
noncomputable def newF (g:AnyT) (h:@Array.any Nat=g):Builtin:=by
 have key:Carrier PySem.Builtin.«type.__new__»:= .mk
 delta PySem.Builtin.«type.__new__» at key
 exact fromType (h▸key)
theorem newF_eq (g:AnyT) (h:@Array.any Nat=g):PySem.Builtin.«type.__new__»=newF g h:=by
 subst h
 delta newF fromType
 rfl
noncomputable def newFast:Builtin:=newF anyL anyL_eq
noncomputable def tbl (id:String):Option Builtin:=@Bool.rec (fun _=>Option Builtin) (treeTable id) (some newFast) (Nat.beq (code id) 29827186395103491166823348853)
theorem find_new:treeTable "type.__new__" = some PySem.Builtin.«type.__new__»:=by
 unfold treeTable
 rfl
theorem code_new:code "type.__new__" = 29827186395103491166823348853:=by decide +kernel
theorem tbl_eq:treeTable=tbl:=by
 funext id
 unfold tbl
 cases h:Nat.beq (code id) 29827186395103491166823348853 with
 |false=>rfl
 |true =>
  have h1:=Nat.eq_of_beq_eq_true h
  show treeTable id=some newFast
  unfold treeTable
  rw[h1,←code_new]
  have:=find_new
  unfold treeTable at this
  rw[this]
  exact congrArg some (newF_eq anyL anyL_eq)
theorem primeB:((fun(_:Params→Heap) (_:Params→Obj)=>(Qq "a" == Qq "a")) boot_heap boot_o_0)=true:=by k_qdec
noncomputable def dcd (k N:Nat):List Nat:=Nat.rec (motive:=fun _=>Nat→List Nat) (fun _=>[]) (fun _ r n=>n % 256::r (n / 256)) k N
theorem dcdE {s:String} {l:List Nat} {d:Str} (h:s=String.ofList (l.map Char.ofNat)) (e:(⟨⟨(l.map Char.ofNat).map Char.toNat⟩⟩:Str)=d):Qq s=d:=by rw[h,PySem.W.Fast.ofString_ofList];exact e
noncomputable def docS0:String := "Return a new Match object replacing specified fields with new values"
noncomputable def docN0:List Nat:=dcd 68 (by
 refine' (?f:∀x,(docS0.toList.map Char.toNat).foldr (fun c r=>c+256*r) 0=x→Nat) _ ?h
 case h=>simp only[docS0,String.reduceToList,List.map,Char.reduceToNat,List.foldr,Nat.reduceMul,Nat.reduceAdd];exact rfl
 case f=>exact fun x _=>x)
noncomputable def docT0:Str:=⟨⟨docN0⟩⟩
theorem docT0e:Qq docS0=docT0:=dcdE (l:=docN0) (by kernel_rfl) (by kernel_rfl)
noncomputable def docS1:String := "Set the two sequences to be compared.\n\n>>> s = SequenceMatcher()\n>>> s.set_seqs(\"abcd\", \"bcde\")\n>>> s.ratio()\n0.75\n"
noncomputable def docN1:List Nat:=dcd 115 (by
 refine' (?f:∀x,(docS1.toList.map Char.toNat).foldr (fun c r=>c+256*r) 0=x→Nat) _ ?h
 case h=>simp only[docS1,String.reduceToList,List.map,Char.reduceToNat,List.foldr,Nat.reduceMul,Nat.reduceAdd];exact rfl
 case f=>exact fun x _=>x)
noncomputable def docT1:Str:=⟨⟨docN1⟩⟩
theorem docT1e:Qq docS1=docT1:=dcdE (l:=docN1) (by kernel_rfl) (by kernel_rfl)
noncomputable def docS2:String := "\nReturn True for ignorable character: iff `ch` is a space or tab.\n\nExamples:\n\n>>> IS_CHARACTER_JUNK(' ')\nTrue\n>>> IS_CHARACTER_JUNK('\\t')\nTrue\n>>> IS_CHARACTER_JUNK('\\n')\nFalse\n>>> IS_CHARACTER_JUNK('x')\nFalse\n"
noncomputable def docN2:List Nat:=dcd 210 (by
 refine' (?f:∀x,(docS2.toList.map Char.toNat).foldr (fun c r=>c+256*r) 0=x→Nat) _ ?h
 case h=>simp only[docS2,String.reduceToList,List.map,Char.reduceToNat,List.foldr,Nat.reduceMul,Nat.reduceAdd];exact rfl
 case f=>exact fun x _=>x)
noncomputable def docT2:Str:=⟨⟨docN2⟩⟩
theorem docT2e:Qq docS2=docT2:=dcdE (l:=docN2) (by kernel_rfl) (by kernel_rfl)
noncomputable def docS3:String := "Set the first sequence to be compared.\n\nThe second sequence to be compared is not changed.\n\n>>> s = SequenceMatcher(None, \"abcd\", \"bcde\")\n>>> s.ratio()\n0.75\n>>> s.set_seq1(\"bcde\")\n>>> s.ratio()\n1.0\n>>>\n\nSequenceMatcher computes and caches detailed information about the\nsecond sequence, so if you want to compare one sequence S against\nmany sequences, use .set_seq2(S) once and call .set_seq1(x)\nrepeatedly for each of the other sequences.\n\nSee also set_seqs() and set_seq2().\n"
noncomputable def docN3:List Nat:=dcd 477 (by
 refine' (?f:∀x,(docS3.toList.map Char.toNat).foldr (fun c r=>c+256*r) 0=x→Nat) _ ?h
 case h=>simp only[docS3,String.reduceToList,List.map,Char.reduceToNat,List.foldr,Nat.reduceMul,Nat.reduceAdd];exact rfl
 case f=>exact fun x _=>x)
noncomputable def docT3:Str:=⟨⟨docN3⟩⟩
theorem docT3e:Qq docS3=docT3:=dcdE (l:=docN3) (by kernel_rfl) (by kernel_rfl)
noncomputable def docS4:String := "Set the second sequence to be compared.\n\nThe first sequence to be compared is not changed.\n\n>>> s = SequenceMatcher(None, \"abcd\", \"bcde\")\n>>> s.ratio()\n0.75\n>>> s.set_seq2(\"abcd\")\n>>> s.ratio()\n1.0\n>>>\n\nSequenceMatcher computes and caches detailed information about the\nsecond sequence, so if you want to compare one sequence S against\nmany sequences, use .set_seq2(S) once and call .set_seq1(x)\nrepeatedly for each of the other sequences.\n\nSee also set_seqs() and set_seq1().\n"
noncomputable def docN4:List Nat:=dcd 477 (by
 refine' (?f:∀x,(docS4.toList.map Char.toNat).foldr (fun c r=>c+256*r) 0=x→Nat) _ ?h
 case h=>simp only[docS4,String.reduceToList,List.map,Char.reduceToNat,List.foldr,Nat.reduceMul,Nat.reduceAdd];exact rfl
 case f=>exact fun x _=>x)
noncomputable def docT4:Str:=⟨⟨docN4⟩⟩
theorem docT4e:Qq docS4=docT4:=dcdE (l:=docN4) (by kernel_rfl) (by kernel_rfl)
noncomputable def docS5:String := "Return a measure of the sequences' similarity (float in [0,1]).\n\nWhere T is the total number of elements in both sequences, and\nM is the number of matches, this is 2.0*M / T.\nNote that this is 1 if the sequences are identical, and 0 if\nthey have nothing in common.\n\n.ratio() is expensive to compute if you haven't already computed\n.get_matching_blocks() or .get_opcodes(), in which case you may\nwant to try .quick_ratio() or .real_quick_ratio() first to get an\nupper bound.\n\n>>> s = SequenceMatcher(None, \"abcd\", \"bcde\")\n>>> s.ratio()\n0.75\n>>> s.quick_ratio()\n0.75\n>>> s.real_quick_ratio()\n1.0\n"
noncomputable def docN5:List Nat:=dcd 594 (by
 refine' (?f:∀x,(docS5.toList.map Char.toNat).foldr (fun c r=>c+256*r) 0=x→Nat) _ ?h
 case h=>simp only[docS5,String.reduceToList,List.map,Char.reduceToNat,List.foldr,Nat.reduceMul,Nat.reduceAdd];exact rfl
 case f=>exact fun x _=>x)
noncomputable def docT5:Str:=⟨⟨docN5⟩⟩
theorem docT5e:Qq docS5=docT5:=dcdE (l:=docN5) (by kernel_rfl) (by kernel_rfl)
noncomputable def docS6:String := "Return list of triples describing matching subsequences.\n\nEach triple is of the form (i, j, n), and means that\na[i:i+n] == b[j:j+n].  The triples are monotonically increasing in\ni and in j.  New in Python 2.5, it's also guaranteed that if\n(i, j, n) and (i', j', n') are adjacent triples in the list, and\nthe second is not the last triple in the list, then i+n != i' or\nj+n != j'.  IOW, adjacent triples never describe adjacent equal\nblocks.\n\nThe last triple is a dummy, (len(a), len(b), 0), and is the only\ntriple with n==0.\n\n>>> s = SequenceMatcher(None, \"abxcd\", \"abcd\")\n>>> list(s.get_matching_blocks())\n[Match(a=0, b=0, size=2), Match(a=3, b=2, size=2), Match(a=5, b=4, size=0)]\n"
noncomputable def docN6:List Nat:=dcd 683 (by
 refine' (?f:∀x,(docS6.toList.map Char.toNat).foldr (fun c r=>c+256*r) 0=x→Nat) _ ?h
 case h=>simp only[docS6,String.reduceToList,List.map,Char.reduceToNat,List.foldr,Nat.reduceMul,Nat.reduceAdd];exact rfl
 case f=>exact fun x _=>x)
noncomputable def docT6:Str:=⟨⟨docN6⟩⟩
theorem docT6e:Qq docS6=docT6:=dcdE (l:=docN6) (by kernel_rfl) (by kernel_rfl)
noncomputable def docS7:String := "Construct a SequenceMatcher.\n\nOptional arg isjunk is None (the default), or a one-argument\nfunction that takes a sequence element and returns true iff the\nelement is junk.  None is equivalent to passing \"lambda x: 0\", i.e.\nno elements are considered to be junk.  For example, pass\n    lambda x: x in \" \\t\"\nif you're comparing lines as sequences of characters, and don't\nwant to synch up on blanks or hard tabs.\n\nOptional arg a is the first of two sequences to be compared.  By\ndefault, an empty string.  The elements of a must be hashable.  See\nalso .set_seqs() and .set_seq1().\n\nOptional arg b is the second of two sequences to be compared.  By\ndefault, an empty string.  The elements of b must be hashable. See\nalso .set_seqs() and .set_seq2().\n\nOptional arg autojunk should be set to False to disable the\n\"automatic junk heuristic\" that treats popular elements as junk\n(see module documentation for more information).\n"
noncomputable def docN7:List Nat:=dcd 921 (by
 refine' (?f:∀x,(docS7.toList.map Char.toNat).foldr (fun c r=>c+256*r) 0=x→Nat) _ ?h
 case h=>simp only[docS7,String.reduceToList,List.map,Char.reduceToNat,List.foldr,Nat.reduceMul,Nat.reduceAdd];exact rfl
 case f=>exact fun x _=>x)
noncomputable def docT7:Str:=⟨⟨docN7⟩⟩
theorem docT7e:Qq docS7=docT7:=dcdE (l:=docN7) (by kernel_rfl) (by kernel_rfl)
noncomputable def docS8:String := "Find longest matching block in a[alo:ahi] and b[blo:bhi].\n\nBy default it will find the longest match in the entirety of a and b.\n\nIf isjunk is not defined:\n\nReturn (i,j,k) such that a[i:i+k] is equal to b[j:j+k], where\n    alo <= i <= i+k <= ahi\n    blo <= j <= j+k <= bhi\nand for all (i',j',k') meeting those conditions,\n    k >= k'\n    i <= i'\n    and if i == i', j <= j'\n\nIn other words, of all maximal matching blocks, return one that\nstarts earliest in a, and of all those maximal matching blocks that\nstart earliest in a, return the one that starts earliest in b.\n\n>>> s = SequenceMatcher(None, \" abcd\", \"abcd abcd\")\n>>> s.find_longest_match(0, 5, 0, 9)\nMatch(a=0, b=4, size=5)\n\nIf isjunk is defined, first the longest matching block is\ndetermined as above, but with the additional restriction that no\njunk element appears in the block.  Then that block is extended as\nfar as possible by matching (only) junk elements on both sides.  So\nthe resulting block never matches on junk except as identical junk\nhappens to be adjacent to an \"interesting\" match.\n\nHere's the same example as before, but considering blanks to be\njunk.  That prevents \" abcd\" from matching the \" abcd\" at the tail\nend of the second sequence directly.  Instead only the \"abcd\" can\nmatch, and matches the leftmost \"abcd\" in the second sequence:\n\n>>> s = SequenceMatcher(lambda x: x==\" \", \" abcd\", \"abcd abcd\")\n>>> s.find_longest_match(0, 5, 0, 9)\nMatch(a=1, b=0, size=4)\n\nIf no blocks match, return (alo, blo, 0).\n\n>>> s = SequenceMatcher(None, \"ab\", \"c\")\n>>> s.find_longest_match(0, 2, 0, 1)\nMatch(a=0, b=0, size=0)\n"
noncomputable def docN8:List Nat:=dcd 1593 (by
 refine' (?f:∀x,(docS8.toList.map Char.toNat).foldr (fun c r=>c+256*r) 0=x→Nat) _ ?h
 case h=>simp only[docS8,String.reduceToList,List.map,Char.reduceToNat,List.foldr,Nat.reduceMul,Nat.reduceAdd];exact rfl
 case f=>exact fun x _=>x)
noncomputable def docT8:Str:=⟨⟨docN8⟩⟩
theorem docT8e:Qq docS8=docT8:=dcdE (l:=docN8) (by kernel_rfl) (by kernel_rfl)
noncomputable def docS9:String := "\nSequenceMatcher is a flexible class for comparing pairs of sequences of\nany type, so long as the sequence elements are hashable.  The basic\nalgorithm predates, and is a little fancier than, an algorithm\npublished in the late 1980's by Ratcliff and Obershelp under the\nhyperbolic name \"gestalt pattern matching\".  The basic idea is to find\nthe longest contiguous matching subsequence that contains no \"junk\"\nelements (R-O doesn't address junk).  The same idea is then applied\nrecursively to the pieces of the sequences to the left and to the right\nof the matching subsequence.  This does not yield minimal edit\nsequences, but does tend to yield matches that \"look right\" to people.\n\nSequenceMatcher tries to compute a \"human-friendly diff\" between two\nsequences.  Unlike e.g. UNIX(tm) diff, the fundamental notion is the\nlongest *contiguous* & junk-free matching subsequence.  That's what\ncatches peoples' eyes.  The Windows(tm) windiff has another interesting\nnotion, pairing up elements that appear uniquely in each sequence.\nThat, and the method here, appear to yield more intuitive difference\nreports than does diff.  This method appears to be the least vulnerable\nto syncing up on blocks of \"junk lines\", though (like blank lines in\nordinary text files, or maybe \"<P>\" lines in HTML files).  That may be\nbecause this is the only method of the 3 that has a *concept* of\n\"junk\" <wink>.\n\nExample, comparing two strings, and considering blanks to be \"junk\":\n\n>>> s = SequenceMatcher(lambda x: x == \" \",\n...                     \"private Thread currentThread;\",\n...                     \"private volatile Thread currentThread;\")\n>>>\n\n.ratio() returns a float in [0, 1], measuring the \"similarity\" of the\nsequences.  As a rule of thumb, a .ratio() value over 0.6 means the\nsequences are close matches:\n\n>>> print(round(s.ratio(), 2))\n0.87\n>>>\n\nIf you're only interested in where the sequences match,\n.get_matching_blocks() is handy:\n\n>>> for block in s.get_matching_blocks():\n...     print(\"a[%d] and b[%d] match for %d elements\" % block)\na[0] and b[0] match for 8 elements\na[8] and b[17] match for 21 elements\na[29] and b[38] match for 0 elements\n\nNote that the last tuple returned by .get_matching_blocks() is always a\ndummy, (len(a), len(b), 0), and this is the only case in which the last\ntuple element (number of elements matched) is 0.\n\nIf you want to know how to change the first sequence into the second,\nuse .get_opcodes():\n\n>>> for opcode in s.get_opcodes():\n...     print(\"%6s a[%d:%d] b[%d:%d]\" % opcode)\n equal a[0:8] b[0:8]\ninsert a[8:8] b[8:17]\n equal a[8:29] b[17:38]\n\nSee the Differ class for a fancy human-friendly file differencer, which\nuses SequenceMatcher both to compare sequences of lines, and to compare\nsequences of characters within similar (near-matching) lines.\n\nSee also function get_close_matches() in this module, which shows how\nsimple code building on SequenceMatcher can be used to do useful work.\n\nTiming:  Basic R-O is cubic time worst case and quadratic time expected\ncase.  SequenceMatcher is quadratic time for the worst case and has\nexpected-case behavior dependent in a complicated way on how many\nelements the sequences have in common; best case time is linear.\n"
noncomputable def docN9:List Nat:=dcd 3202 (by
 refine' (?f:∀x,(docS9.toList.map Char.toNat).foldr (fun c r=>c+256*r) 0=x→Nat) _ ?h
 case h=>simp only[docS9,String.reduceToList,List.map,Char.reduceToNat,List.foldr,Nat.reduceMul,Nat.reduceAdd];exact rfl
 case f=>exact fun x _=>x)
noncomputable def docT9:Str:=⟨⟨docN9⟩⟩
theorem docT9e:Qq docS9=docT9:=dcdE (l:=docN9) (by kernel_rfl) (by kernel_rfl)
noncomputable def pM (d0 d1 d2 d3 d4 d5 d6 d7 d8 d9:Str):Program:=by
 refine' (?f:∀(x:Program) (h:Qq docS0=d0→Qq docS1=d1→Qq docS2=d2→Qq docS3=d3→Qq docS4=d4→Qq docS5=d5→Qq docS6=d6→Qq docS7=d7→Qq docS8=d8→Qq docS9=d9→PySem.Challenge.pw_dm0060_09=x),Program) _ ?h
 case h =>
  intro h0 h1 h2 h3 h4 h5 h6 h7 h8 h9
  unfold docS0 at h0;unfold docS1 at h1;unfold docS2 at h2;unfold docS3 at h3;unfold docS4 at h4;unfold docS5 at h5;unfold docS6 at h6;unfold docS7 at h7;unfold docS8 at h8;unfold docS9 at h9
  (conv=>lhs;unfold PySem.Challenge.pw_dm0060_09;simp only[h0,h1,h2,h3,h4,h5,h6,h7,h8,h9];simp only[Str.ofString_eq_byList,Str.ofStringByList,String.reduceToList,List.map,Char.reduceToNat])
 case f=>exact fun x _=>x
theorem pMe:PySem.Challenge.pw_dm0060_09=pM (Qq docS0) (Qq docS1) (Qq docS2) (Qq docS3) (Qq docS4) (Qq docS5) (Qq docS6) (Qq docS7) (Qq docS8) (Qq docS9):=by kernel_rfl
noncomputable def pT:Program:=pM docT0 docT1 docT2 docT3 docT4 docT5 docT6 docT7 docT8 docT9
theorem pTe:PySem.Challenge.pw_dm0060_09=pT:=by rw[pMe,docT0e,docT1e,docT2e,docT3e,docT4e,docT5e,docT6e,docT7e,docT8e,docT9e];rfl
end Mine
lay_quick PySem.W.topFrame PySem.W.topAfter PySem.W.behindTheImports PySem.W.segRun PySem.W.topGo PySem.W.topRun PySem.W.segRunT PySem.W.topStub PySem.W.blockOf PySem.W.piecesOf PySem.W.SharedT.abs PySem.W.doneF PySem.W.staticsOk importedModules PySem.W.namesBound PySem.W.gensDone PySem.W.laidKept PySem.W.openSeen PySem.W.openGood PySem.W.view PySem.W.recOk PySem.Heap.isNs PySem.Heap.nsMap
namespace Mine
noncomputable abbrev pw:Program:=PySem.Challenge.pw_dm0060_09
noncomputable def stAt:List Stmt→Nat→Stmt
 |s::_,0=>s
 |_::r,n+1=>stAt r n
 |[],_=> .Pass ⟨0,0,0,0⟩
noncomputable def clsBody:Stmt→List Stmt
 | .ClassDef _ _ _ b _ _ _ _ _ _ _=>b
 |_=>[]
noncomputable def fnParams:Stmt→Arguments
 | .FunctionDef _ a _ _ _ _ _ _ _ _=>a
 |_=>⟨[],[],none,[],[],none,[]⟩
noncomputable def fnBody:Stmt→List Stmt
 | .FunctionDef _ _ b _ _ _ _ _ _ _=>b
 |_=>[]
noncomputable def fnScope:Stmt→Scope
 | .FunctionDef _ _ _ _ _ _ s _ _ _=>s
 |_=>default
noncomputable def docAt (b:List Stmt):Str:=(docOf b).getD default
noncomputable def k1 (P:Params):Obj:={cls:=(.type "dict"),dict:=none,data:=(.dict [⟨Qi P (Qq "builtins"),(.str (Qq "builtins") 162),(.ref 4)⟩,⟨Qi P (Qq "__main__"),(.str (Qq "__main__") 163),(.ref 5)⟩].toArray 2),slots:=[].toArray }
noncomputable def k2 (_P:Params):Obj:={cls:= .none,dict:=none,data:=(.dict [].toArray 0),slots:=[].toArray }
noncomputable def k3 (P:Params):Obj:={cls:=(.type "dict"),dict:=none,data:=(.dict [⟨Qi P (Qq "__name__"),(.str (Qq "__name__") 165),(.str (Qq "law_dm0060_09") 585)⟩,⟨Qi P (Qq "__doc__"),(.str (Qq "__doc__") 166), .none⟩,⟨Qi P (Qq "__package__"),(.str (Qq "__package__") 167), .none⟩,⟨Qi P (Qq "__loader__"),(.str (Qq "__loader__") 168),(.builtin "__main__.__loader__#opaque")⟩,⟨Qi P (Qq "__spec__"),(.str (Qq "__spec__") 169), .none⟩,⟨Qi P (Qq "__annotations__"),(.str (Qq "__annotations__") 170),(.ref 6)⟩,⟨Qi P (Qq "__builtins__"),(.str (Qq "__builtins__") 171),(.ref 4)⟩,⟨Qi P (Qq "__file__"),(.str (Qq "__file__") 173),(.str (Qq "/claim/cut.py") 172)⟩,⟨Qi P (Qq "__cached__"),(.str (Qq "__cached__") 174), .none⟩,⟨Qi P (Qq "_wall"),(.str (Qq "_wall") 193),(.ref 21)⟩,⟨Qi P (Qq "_tuplegetter"),(.str (Qq "_tuplegetter") 252),(.ref 60)⟩,⟨Qi P (Qq "Match"),(.str (Qq "Match") 380),(.ref 135)⟩,⟨Qi P (Qq "_calculate_ratio"),(.str (Qq "_calculate_ratio") 388),(.ref 145)⟩,⟨Qi P (Qq "SequenceMatcher"),(.str (Qq "SequenceMatcher") 574),(.ref 242)⟩,⟨Qi P (Qq "IS_CHARACTER_JUNK"),(.str (Qq "IS_CHARACTER_JUNK") 584),(.ref 254)⟩,⟨Qi P (Qq "_law_blocks"),(.str (Qq "_law_blocks") 592),(.ref 259)⟩,⟨Qi P (Qq "_law_standing"),(.str (Qq "_law_standing") 598),(.ref 264)⟩,⟨Qi P (Qq "law"),(.str (Qq "law") 604),(.ref 269)⟩].toArray 18),slots:=[].toArray }
noncomputable def k4 (_P:Params):Obj:={cls:=(.type "module"),dict:=some 0,data:= .plain,slots:=[].toArray }
noncomputable def k36 (_P:Params):Obj:={cls:=(.type "tuple"),dict:=none,data:=(.seq [.none].toArray 0),slots:=[].toArray }
noncomputable def k42 (_P:Params):Obj:={cls:=(.type "code"),dict:=none,data:=(.fields [(.str (Qq "__get__") 217),(.str (Qq "_tuplegetter.__get__") 218),(.str (Qq "/claim/cut.py") 219),(.int (11) 0),(.int (3) 0),(.int (0) 0),(.int (0) 0),(.int (3) 0),(.ref 37),(.bool true),(.int (181) 0),(.ref 38), .none,(.ref 39),(.ref 40),(.ref 41),(.int (223) 0),(.int (11) 0),(.str (Qq "/claim/cut.py") 224)].toArray),slots:=[].toArray }
noncomputable def k43 (_P:Params):Obj:={cls:=(.type "function"),dict:=none,data:=(.func {name:=(Qq "__get__"),qualname:=(Qq "_tuplegetter.__get__"),params:=fnParams (stAt (clsBody (stAt pw.main.body 2)) 1),body:= .stmts (fnBody (stAt (clsBody (stAt pw.main.body 2)) 1)),scope:=fnScope (stAt (clsBody (stAt pw.main.body 2)) 1),globals:=3,closure:=[],defaults:=(.ref 36),kwdefaults:= .none,doc:= .none,pyModule:=(.str (Qq "cpy313.difflib") 194),annotations:=none,code:=(.ref 42),closureTuple:= .none,builtins:=0 }),slots:=[].toArray }
noncomputable def k59 (P:Params):Obj:={cls:=(.type "dict"),dict:=none,data:=(.dict [⟨Qi P (Qq "__module__"),(.str (Qq "__module__") 203),(.str (Qq "cpy313.difflib") 194)⟩,⟨Qi P (Qq "__firstlineno__"),(.str (Qq "__firstlineno__") 207),(.int (5) 206)⟩,⟨Qi P (Qq "__init__"),(.str (Qq "__init__") 216),(.ref 35)⟩,⟨Qi P (Qq "__get__"),(.str (Qq "__get__") 225),(.ref 43)⟩,⟨Qi P (Qq "__set__"),(.str (Qq "__set__") 234),(.ref 50)⟩,⟨Qi P (Qq "__delete__"),(.str (Qq "__delete__") 242),(.ref 57)⟩,⟨Qi P (Qq "__static_attributes__"),(.str (Qq "__static_attributes__") 245),(.ref 58)⟩,⟨Qi P (Qq "__dict__"),(.str (Qq "__dict__") 247),(.ref 61)⟩,⟨Qi P (Qq "__weakref__"),(.str (Qq "__weakref__") 249),(.ref 62)⟩,⟨Qi P (Qq "__doc__"),(.str (Qq "__doc__") 250), .none⟩].toArray 4),slots:=[].toArray }
noncomputable def k60 (_P:Params):Obj:={cls:=(.type "type"),dict:=none,data:=(.cls {name:=(Qq "_tuplegetter"),bases:=[(.type "object")],mro:=[(.ref 60),(.type "object")],ns:=59,qualname:=(Qq "_tuplegetter"),hasDict:=true,slotNames:=[],subclasses:=[],abstract:=false,collection:=none,hasDel:=false }),slots:=[none,none,(some (.str (Qq "_tuplegetter") 196)),(some (.str (Qq "_tuplegetter") 204)),(some (.builtin "object.__new__")),(some (.bool true))].toArray }
noncomputable def k81 (_P:Params):Obj:={cls:=(.type "code"),dict:=none,data:=(.fields [(.str (Qq "__new__") 274),(.str (Qq "Match.__new__") 275),(.str (Qq "/claim/cut.py") 276),(.int (29) 0),(.int (4) 0),(.int (0) 0),(.int (0) 0),(.int (3) 0),(.ref 76),(.bool true),(.int (181) 0),(.ref 77), .none,(.ref 78),(.ref 79),(.ref 80),(.int (281) 0),(.int (29) 0),(.str (Qq "/claim/cut.py") 282)].toArray),slots:=[].toArray }
noncomputable def k82 (_P:Params):Obj:={cls:=(.type "function"),dict:=none,data:=(.func {name:=(Qq "__new__"),qualname:=(Qq "Match.__new__"),params:=fnParams (stAt (clsBody (stAt pw.main.body 3)) 4),body:= .stmts (fnBody (stAt (clsBody (stAt pw.main.body 3)) 4)),scope:=fnScope (stAt (clsBody (stAt pw.main.body 3)) 4),globals:=3,closure:=[],defaults:= .none,kwdefaults:= .none,doc:=(.str (docAt (fnBody (stAt (clsBody (stAt pw.main.body 3)) 4))) 283),pyModule:=(.str (Qq "cpy313.difflib") 194),annotations:=none,code:=(.ref 81),closureTuple:= .none,builtins:=0 }),slots:=[].toArray }
noncomputable def k88 (_P:Params):Obj:={cls:=(.type "code"),dict:=none,data:=(.fields [(.str (Qq "_make") 285),(.str (Qq "Match._make") 286),(.str (Qq "/claim/cut.py") 287),(.int (33) 0),(.int (2) 0),(.int (0) 0),(.int (0) 0),(.int (3) 0),(.ref 83),(.bool true),(.int (181) 0),(.ref 84), .none,(.ref 85),(.ref 86),(.ref 87),(.int (291) 0),(.int (33) 0),(.str (Qq "/claim/cut.py") 292)].toArray),slots:=[].toArray }
noncomputable def k89 (_P:Params):Obj:={cls:=(.type "function"),dict:=none,data:=(.func {name:=(Qq "_make"),qualname:=(Qq "Match._make"),params:=fnParams (stAt (clsBody (stAt pw.main.body 3)) 5),body:= .stmts (fnBody (stAt (clsBody (stAt pw.main.body 3)) 5)),scope:=fnScope (stAt (clsBody (stAt pw.main.body 3)) 5),globals:=3,closure:=[],defaults:= .none,kwdefaults:= .none,doc:=(.str (docAt (fnBody (stAt (clsBody (stAt pw.main.body 3)) 5))) 293),pyModule:=(.str (Qq "cpy313.difflib") 194),annotations:=some 92,code:=(.ref 88),closureTuple:= .none,builtins:=0 }),slots:=[].toArray }
noncomputable def k91 (_P:Params):Obj:={cls:=(.type "classmethod"),dict:=some 90,data:=(.fields [(.ref 89),(.bool false)].toArray),slots:=[].toArray }
noncomputable def k123 (P:Params):Obj:={cls:=(.type "dict"),dict:=none,data:=(.dict [⟨Qi P (Qq "index"),(.str (Qq "index") 352),(.int (0) 346)⟩,⟨Qi P (Qq "__doc__"),(.str (Qq "__doc__") 354),(.str (Qq "Alias for field number 0") 347)⟩].toArray 2),slots:=[].toArray }
noncomputable def k124 (_P:Params):Obj:={cls:=(.ref 60),dict:=some 123,data:= .plain,slots:=[].toArray }
noncomputable def k126 (P:Params):Obj:={cls:=(.type "dict"),dict:=none,data:=(.dict [⟨Qi P (Qq "index"),(.str (Qq "index") 362),(.int (1) 356)⟩,⟨Qi P (Qq "__doc__"),(.str (Qq "__doc__") 364),(.str (Qq "Alias for field number 1") 357)⟩].toArray 2),slots:=[].toArray }
noncomputable def k127 (_P:Params):Obj:={cls:=(.ref 60),dict:=some 126,data:= .plain,slots:=[].toArray }
noncomputable def k129 (P:Params):Obj:={cls:=(.type "dict"),dict:=none,data:=(.dict [⟨Qi P (Qq "index"),(.str (Qq "index") 372),(.int (2) 366)⟩,⟨Qi P (Qq "__doc__"),(.str (Qq "__doc__") 374),(.str (Qq "Alias for field number 2") 367)⟩].toArray 2),slots:=[].toArray }
noncomputable def k130 (_P:Params):Obj:={cls:=(.ref 60),dict:=some 129,data:= .plain,slots:=[].toArray }
noncomputable def k134 (P:Params):Obj:={cls:=(.type "dict"),dict:=none,data:=(.dict [⟨Qi P (Qq "__module__"),(.str (Qq "__module__") 260),(.str (Qq "cpy313.difflib") 194)⟩,⟨Qi P (Qq "__firstlineno__"),(.str (Qq "__firstlineno__") 264),(.int (23) 263)⟩,⟨Qi P (Qq "__doc__"),(.str (Qq "__doc__") 266),(.str (Qq "Match(a, b, size)") 265)⟩,⟨Qi P (Qq "__slots__"),(.str (Qq "__slots__") 268),(.ref 73)⟩,⟨Qi P (Qq "_fields"),(.str (Qq "_fields") 272),(.ref 74)⟩,⟨Qi P (Qq "_field_defaults"),(.str (Qq "_field_defaults") 273),(.ref 75)⟩,⟨Qi P (Qq "__new__"),(.str (Qq "__new__") 284),(.ref 136)⟩,⟨Qi P (Qq "_make"),(.str (Qq "_make") 306),(.ref 91)⟩,⟨Qi P (Qq "_replace"),(.str (Qq "_replace") 317),(.ref 100)⟩,⟨Qi P (Qq "__replace__"),(.str (Qq "__replace__") 318),(.ref 100)⟩,⟨Qi P (Qq "__repr__"),(.str (Qq "__repr__") 326),(.ref 107)⟩,⟨Qi P (Qq "_asdict"),(.str (Qq "_asdict") 333),(.ref 114)⟩,⟨Qi P (Qq "__getnewargs__"),(.str (Qq "__getnewargs__") 341),(.ref 121)⟩,⟨Qi P (Qq "__match_args__"),(.str (Qq "__match_args__") 345),(.ref 122)⟩,⟨Qi P (Qq "a"),(.str (Qq "a") 355),(.ref 124)⟩,⟨Qi P (Qq "b"),(.str (Qq "b") 365),(.ref 127)⟩,⟨Qi P (Qq "size"),(.str (Qq "size") 375),(.ref 130)⟩,⟨Qi P (Qq "__static_attributes__"),(.str (Qq "__static_attributes__") 376),(.ref 132)⟩].toArray 2),slots:=[].toArray }
noncomputable def k135 (_P:Params):Obj:={cls:=(.type "type"),dict:=none,data:=(.cls {name:=(Qq "Match"),bases:=[(.type "tuple")],mro:=[(.ref 135),(.type "tuple"),(.type "object")],ns:=134,qualname:=(Qq "Match"),hasDict:=false,slotNames:=[],subclasses:=[],abstract:=false,collection:=none,hasDel:=false }),slots:=[(some (.ref 65)),none,(some (.str (Qq "Match") 253)),(some (.str (Qq "Match") 261)),(some .none),(some (.bool false))].toArray }
noncomputable def k136 (_P:Params):Obj:={cls:=(.type "staticmethod"),dict:=none,data:=(.fields [(.ref 82)].toArray),slots:=[].toArray }
noncomputable def k153 (_P:Params):Obj:={cls:=(.type "tuple"),dict:=none,data:=(.seq [.none,(.str (Qq "") 404),(.str (Qq "") 405),(.bool true)].toArray 0),slots:=[].toArray }
noncomputable def k159 (_P:Params):Obj:={cls:=(.type "code"),dict:=none,data:=(.fields [(.str (Qq "__init__") 406),(.str (Qq "SequenceMatcher.__init__") 407),(.str (Qq "/claim/cut.py") 408),(.int (145) 0),(.int (5) 0),(.int (0) 0),(.int (0) 0),(.int (3) 0),(.ref 154),(.bool true),(.int (181) 0),(.ref 155), .none,(.ref 156),(.ref 157),(.ref 158),(.int (414) 0),(.int (145) 0),(.str (Qq "/claim/cut.py") 415)].toArray),slots:=[].toArray }
noncomputable def k160 (_P:Params):Obj:={cls:=(.type "function"),dict:=none,data:=(.func {name:=(Qq "__init__"),qualname:=(Qq "SequenceMatcher.__init__"),params:=fnParams (stAt (clsBody (stAt pw.main.body 5)) 1),body:= .stmts (fnBody (stAt (clsBody (stAt pw.main.body 5)) 1)),scope:=fnScope (stAt (clsBody (stAt pw.main.body 5)) 1),globals:=3,closure:=[],defaults:=(.ref 153),kwdefaults:= .none,doc:=(.str (docAt (fnBody (stAt (clsBody (stAt pw.main.body 5)) 1))) 416),pyModule:=(.str (Qq "cpy313.difflib") 194),annotations:=none,code:=(.ref 159),closureTuple:= .none,builtins:=0 }),slots:=[].toArray }
noncomputable def k166 (_P:Params):Obj:={cls:=(.type "code"),dict:=none,data:=(.fields [(.str (Qq "set_seqs") 418),(.str (Qq "SequenceMatcher.set_seqs") 419),(.str (Qq "/claim/cut.py") 420),(.int (173) 0),(.int (3) 0),(.int (0) 0),(.int (0) 0),(.int (3) 0),(.ref 161),(.bool true),(.int (181) 0),(.ref 162), .none,(.ref 163),(.ref 164),(.ref 165),(.int (424) 0),(.int (173) 0),(.str (Qq "/claim/cut.py") 425)].toArray),slots:=[].toArray }
noncomputable def k167 (_P:Params):Obj:={cls:=(.type "function"),dict:=none,data:=(.func {name:=(Qq "set_seqs"),qualname:=(Qq "SequenceMatcher.set_seqs"),params:=fnParams (stAt (clsBody (stAt pw.main.body 5)) 2),body:= .stmts (fnBody (stAt (clsBody (stAt pw.main.body 5)) 2)),scope:=fnScope (stAt (clsBody (stAt pw.main.body 5)) 2),globals:=3,closure:=[],defaults:= .none,kwdefaults:= .none,doc:=(.str (docAt (fnBody (stAt (clsBody (stAt pw.main.body 5)) 2))) 426),pyModule:=(.str (Qq "cpy313.difflib") 194),annotations:=none,code:=(.ref 166),closureTuple:= .none,builtins:=0 }),slots:=[].toArray }
noncomputable def k173 (_P:Params):Obj:={cls:=(.type "code"),dict:=none,data:=(.fields [(.str (Qq "set_seq1") 428),(.str (Qq "SequenceMatcher.set_seq1") 429),(.str (Qq "/claim/cut.py") 430),(.int (184) 0),(.int (2) 0),(.int (0) 0),(.int (0) 0),(.int (3) 0),(.ref 168),(.bool true),(.int (181) 0),(.ref 169), .none,(.ref 170),(.ref 171),(.ref 172),(.int (433) 0),(.int (184) 0),(.str (Qq "/claim/cut.py") 434)].toArray),slots:=[].toArray }
noncomputable def k174 (_P:Params):Obj:={cls:=(.type "function"),dict:=none,data:=(.func {name:=(Qq "set_seq1"),qualname:=(Qq "SequenceMatcher.set_seq1"),params:=fnParams (stAt (clsBody (stAt pw.main.body 5)) 3),body:= .stmts (fnBody (stAt (clsBody (stAt pw.main.body 5)) 3)),scope:=fnScope (stAt (clsBody (stAt pw.main.body 5)) 3),globals:=3,closure:=[],defaults:= .none,kwdefaults:= .none,doc:=(.str (docAt (fnBody (stAt (clsBody (stAt pw.main.body 5)) 3))) 435),pyModule:=(.str (Qq "cpy313.difflib") 194),annotations:=none,code:=(.ref 173),closureTuple:= .none,builtins:=0 }),slots:=[].toArray }
noncomputable def k180 (_P:Params):Obj:={cls:=(.type "code"),dict:=none,data:=(.fields [(.str (Qq "set_seq2") 437),(.str (Qq "SequenceMatcher.set_seq2") 438),(.str (Qq "/claim/cut.py") 439),(.int (209) 0),(.int (2) 0),(.int (0) 0),(.int (0) 0),(.int (3) 0),(.ref 175),(.bool true),(.int (181) 0),(.ref 176), .none,(.ref 177),(.ref 178),(.ref 179),(.int (442) 0),(.int (209) 0),(.str (Qq "/claim/cut.py") 443)].toArray),slots:=[].toArray }
noncomputable def k181 (_P:Params):Obj:={cls:=(.type "function"),dict:=none,data:=(.func {name:=(Qq "set_seq2"),qualname:=(Qq "SequenceMatcher.set_seq2"),params:=fnParams (stAt (clsBody (stAt pw.main.body 5)) 4),body:= .stmts (fnBody (stAt (clsBody (stAt pw.main.body 5)) 4)),scope:=fnScope (stAt (clsBody (stAt pw.main.body 5)) 4),globals:=3,closure:=[],defaults:= .none,kwdefaults:= .none,doc:=(.str (docAt (fnBody (stAt (clsBody (stAt pw.main.body 5)) 4))) 444),pyModule:=(.str (Qq "cpy313.difflib") 194),annotations:=none,code:=(.ref 180),closureTuple:= .none,builtins:=0 }),slots:=[].toArray }
noncomputable def k187 (_P:Params):Obj:={cls:=(.type "code"),dict:=none,data:=(.fields [(.str (Qq "__chain_b") 446),(.str (Qq "SequenceMatcher.__chain_b") 447),(.str (Qq "/claim/cut.py") 448),(.int (236) 0),(.int (1) 0),(.int (0) 0),(.int (0) 0),(.int (3) 0),(.ref 182),(.bool true),(.int (181) 0),(.ref 183), .none,(.ref 184),(.ref 185),(.ref 186),(.int (461) 0),(.int (236) 0),(.str (Qq "/claim/cut.py") 462)].toArray),slots:=[].toArray }
noncomputable def k188 (_P:Params):Obj:={cls:=(.type "function"),dict:=none,data:=(.func {name:=(Qq "__chain_b"),qualname:=(Qq "SequenceMatcher.__chain_b"),params:=fnParams (stAt (clsBody (stAt pw.main.body 5)) 5),body:= .stmts (fnBody (stAt (clsBody (stAt pw.main.body 5)) 5)),scope:=fnScope (stAt (clsBody (stAt pw.main.body 5)) 5),globals:=3,closure:=[],defaults:= .none,kwdefaults:= .none,doc:= .none,pyModule:=(.str (Qq "cpy313.difflib") 194),annotations:=none,code:=(.ref 187),closureTuple:= .none,builtins:=0 }),slots:=[].toArray }
noncomputable def k189 (_P:Params):Obj:={cls:=(.type "tuple"),dict:=none,data:=(.seq [(.int (0) 464), .none,(.int (0) 465), .none].toArray 0),slots:=[].toArray }
noncomputable def k195 (_P:Params):Obj:={cls:=(.type "code"),dict:=none,data:=(.fields [(.str (Qq "find_longest_match") 466),(.str (Qq "SequenceMatcher.find_longest_match") 467),(.str (Qq "/claim/cut.py") 468),(.int (260) 0),(.int (5) 0),(.int (0) 0),(.int (0) 0),(.int (3) 0),(.ref 190),(.bool true),(.int (181) 0),(.ref 191), .none,(.ref 192),(.ref 193),(.ref 194),(.int (488) 0),(.int (260) 0),(.str (Qq "/claim/cut.py") 489)].toArray),slots:=[].toArray }
noncomputable def k196 (_P:Params):Obj:={cls:=(.type "function"),dict:=none,data:=(.func {name:=(Qq "find_longest_match"),qualname:=(Qq "SequenceMatcher.find_longest_match"),params:=fnParams (stAt (clsBody (stAt pw.main.body 5)) 6),body:= .stmts (fnBody (stAt (clsBody (stAt pw.main.body 5)) 6)),scope:=fnScope (stAt (clsBody (stAt pw.main.body 5)) 6),globals:=3,closure:=[],defaults:=(.ref 189),kwdefaults:= .none,doc:=(.str (docAt (fnBody (stAt (clsBody (stAt pw.main.body 5)) 6))) 490),pyModule:=(.str (Qq "cpy313.difflib") 194),annotations:=none,code:=(.ref 195),closureTuple:= .none,builtins:=0 }),slots:=[].toArray }
noncomputable def k202 (_P:Params):Obj:={cls:=(.type "code"),dict:=none,data:=(.fields [(.str (Qq "get_matching_blocks") 492),(.str (Qq "SequenceMatcher.get_matching_blocks") 493),(.str (Qq "/claim/cut.py") 494),(.int (335) 0),(.int (1) 0),(.int (0) 0),(.int (0) 0),(.int (3) 0),(.ref 197),(.bool true),(.int (181) 0),(.ref 198), .none,(.ref 199),(.ref 200),(.ref 201),(.int (515) 0),(.int (335) 0),(.str (Qq "/claim/cut.py") 516)].toArray),slots:=[].toArray }
noncomputable def k203 (_P:Params):Obj:={cls:=(.type "function"),dict:=none,data:=(.func {name:=(Qq "get_matching_blocks"),qualname:=(Qq "SequenceMatcher.get_matching_blocks"),params:=fnParams (stAt (clsBody (stAt pw.main.body 5)) 7),body:= .stmts (fnBody (stAt (clsBody (stAt pw.main.body 5)) 7)),scope:=fnScope (stAt (clsBody (stAt pw.main.body 5)) 7),globals:=3,closure:=[],defaults:= .none,kwdefaults:= .none,doc:=(.str (docAt (fnBody (stAt (clsBody (stAt pw.main.body 5)) 7))) 517),pyModule:=(.str (Qq "cpy313.difflib") 194),annotations:=none,code:=(.ref 202),closureTuple:= .none,builtins:=0 }),slots:=[].toArray }
noncomputable def k224 (_P:Params):Obj:={cls:=(.type "code"),dict:=none,data:=(.fields [(.str (Qq "ratio") 535),(.str (Qq "SequenceMatcher.ratio") 536),(.str (Qq "/claim/cut.py") 537),(.int (389) 0),(.int (1) 0),(.int (0) 0),(.int (0) 0),(.int (3) 0),(.ref 219),(.bool true),(.int (181) 0),(.ref 220), .none,(.ref 221),(.ref 222),(.ref 223),(.int (540) 0),(.int (389) 0),(.str (Qq "/claim/cut.py") 541)].toArray),slots:=[].toArray }
noncomputable def k241 (P:Params):Obj:={cls:=(.type "dict"),dict:=none,data:=(.dict [⟨Qi P (Qq "__module__"),(.str (Qq "__module__") 396),(.str (Qq "cpy313.difflib") 194)⟩,⟨Qi P (Qq "__firstlineno__"),(.str (Qq "__firstlineno__") 400),(.int (70) 399)⟩,⟨Qi P (Qq "__doc__"),(.str (Qq "__doc__") 402),(.str (docAt (clsBody (stAt pw.main.body 5))) 401)⟩,⟨Qi P (Qq "__init__"),(.str (Qq "__init__") 417),(.ref 160)⟩,⟨Qi P (Qq "set_seqs"),(.str (Qq "set_seqs") 427),(.ref 167)⟩,⟨Qi P (Qq "set_seq1"),(.str (Qq "set_seq1") 436),(.ref 174)⟩,⟨Qi P (Qq "set_seq2"),(.str (Qq "set_seq2") 445),(.ref 181)⟩,⟨Qi P (Qq "_SequenceMatcher__chain_b"),(.str (Qq "_SequenceMatcher__chain_b") 463),(.ref 188)⟩,⟨Qi P (Qq "find_longest_match"),(.str (Qq "find_longest_match") 491),(.ref 196)⟩,⟨Qi P (Qq "get_matching_blocks"),(.str (Qq "get_matching_blocks") 518),(.ref 203)⟩,⟨Qi P (Qq "get_opcodes"),(.str (Qq "get_opcodes") 525),(.ref 210)⟩,⟨Qi P (Qq "get_grouped_opcodes"),(.str (Qq "get_grouped_opcodes") 534),(.ref 218)⟩,⟨Qi P (Qq "ratio"),(.str (Qq "ratio") 543),(.ref 225)⟩,⟨Qi P (Qq "quick_ratio"),(.str (Qq "quick_ratio") 550),(.ref 232)⟩,⟨Qi P (Qq "real_quick_ratio"),(.str (Qq "real_quick_ratio") 557),(.ref 239)⟩,⟨Qi P (Qq "__static_attributes__"),(.str (Qq "__static_attributes__") 568),(.ref 240)⟩,⟨Qi P (Qq "__dict__"),(.str (Qq "__dict__") 570),(.ref 243)⟩,⟨Qi P (Qq "__weakref__"),(.str (Qq "__weakref__") 572),(.ref 244)⟩].toArray 3),slots:=[].toArray }
noncomputable def k242 (_P:Params):Obj:={cls:=(.type "type"),dict:=none,data:=(.cls {name:=(Qq "SequenceMatcher"),bases:=[(.type "object")],mro:=[(.ref 242),(.type "object")],ns:=241,qualname:=(Qq "SequenceMatcher"),hasDict:=true,slotNames:=[],subclasses:=[],abstract:=false,collection:=none,hasDel:=false }),slots:=[none,none,(some (.str (Qq "SequenceMatcher") 389)),(some (.str (Qq "SequenceMatcher") 397)),(some (.builtin "object.__new__")),(some (.bool true))].toArray }
noncomputable def k247 (_P:Params):Obj:={cls:=(.type "tuple"),dict:=none,data:=(.seq [(.str (Qq " \t") 575)].toArray 0),slots:=[].toArray }
noncomputable def k253 (_P:Params):Obj:={cls:=(.type "code"),dict:=none,data:=(.fields [(.str (Qq "IS_CHARACTER_JUNK") 576),(.str (Qq "IS_CHARACTER_JUNK") 577),(.str (Qq "/claim/cut.py") 578),(.int (418) 0),(.int (2) 0),(.int (0) 0),(.int (0) 0),(.int (3) 0),(.ref 248),(.bool true),(.int (181) 0),(.ref 249), .none,(.ref 250),(.ref 251),(.ref 252),(.int (581) 0),(.int (418) 0),(.str (Qq "/claim/cut.py") 582)].toArray),slots:=[].toArray }
noncomputable def k254 (_P:Params):Obj:={cls:=(.type "function"),dict:=none,data:=(.func {name:=(Qq "IS_CHARACTER_JUNK"),qualname:=(Qq "IS_CHARACTER_JUNK"),params:=fnParams (stAt pw.main.body 6),body:= .stmts (fnBody (stAt pw.main.body 6)),scope:=fnScope (stAt pw.main.body 6),globals:=3,closure:=[],defaults:=(.ref 247),kwdefaults:= .none,doc:=(.str (docAt (fnBody (stAt pw.main.body 6))) 583),pyModule:=(.str (Qq "cpy313.difflib") 194),annotations:=none,code:=(.ref 253),closureTuple:= .none,builtins:=0 }),slots:=[].toArray }
noncomputable def k258 (_P:Params):Obj:={cls:=(.type "code"),dict:=none,data:=(.fields [(.str (Qq "_law_blocks") 587),(.str (Qq "_law_blocks") 588),(.str (Qq "/claim/cut.py") 589),(.int (435) 0),(.int (3) 0),(.int (0) 0),(.int (0) 0),(.int (3) 0),(.ref 255),(.bool true),(.int (181) 0),(.ref 256), .none, .none, .none,(.ref 257),(.int (590) 0),(.int (435) 0),(.str (Qq "/claim/cut.py") 591)].toArray),slots:=[].toArray }
noncomputable def k259 (_P:Params):Obj:={cls:=(.type "function"),dict:=none,data:=(.func {name:=(Qq "_law_blocks"),qualname:=(Qq "_law_blocks"),params:=fnParams (stAt pw.main.body 8),body:= .stmts (fnBody (stAt pw.main.body 8)),scope:=fnScope (stAt pw.main.body 8),globals:=3,closure:=[],defaults:= .none,kwdefaults:= .none,doc:= .none,pyModule:=(.str (Qq "law_dm0060_09") 585),annotations:=none,code:=(.ref 258),closureTuple:= .none,builtins:=0 }),slots:=[].toArray }
noncomputable def k263 (_P:Params):Obj:={cls:=(.type "code"),dict:=none,data:=(.fields [(.str (Qq "_law_standing") 593),(.str (Qq "_law_standing") 594),(.str (Qq "/claim/cut.py") 595),(.int (437) 0),(.int (2) 0),(.int (0) 0),(.int (0) 0),(.int (3) 0),(.ref 260),(.bool true),(.int (181) 0),(.ref 261), .none, .none, .none,(.ref 262),(.int (596) 0),(.int (437) 0),(.str (Qq "/claim/cut.py") 597)].toArray),slots:=[].toArray }
noncomputable def k264 (_P:Params):Obj:={cls:=(.type "function"),dict:=none,data:=(.func {name:=(Qq "_law_standing"),qualname:=(Qq "_law_standing"),params:=fnParams (stAt pw.main.body 9),body:= .stmts (fnBody (stAt pw.main.body 9)),scope:=fnScope (stAt pw.main.body 9),globals:=3,closure:=[],defaults:= .none,kwdefaults:= .none,doc:= .none,pyModule:=(.str (Qq "law_dm0060_09") 585),annotations:=none,code:=(.ref 263),closureTuple:= .none,builtins:=0 }),slots:=[].toArray }
noncomputable def k268 (_P:Params):Obj:={cls:=(.type "code"),dict:=none,data:=(.fields [(.str (Qq "law") 599),(.str (Qq "law") 600),(.str (Qq "/claim/cut.py") 601),(.int (439) 0),(.int (1) 0),(.int (0) 0),(.int (0) 0),(.int (3) 0),(.ref 265),(.bool true),(.int (181) 0),(.ref 266), .none, .none, .none,(.ref 267),(.int (602) 0),(.int (439) 0),(.str (Qq "/claim/cut.py") 603)].toArray),slots:=[].toArray }
noncomputable def k269 (_P:Params):Obj:={cls:=(.type "function"),dict:=none,data:=(.func {name:=(Qq "law"),qualname:=(Qq "law"),params:=fnParams (stAt pw.main.body 10),body:= .stmts (fnBody (stAt pw.main.body 10)),scope:=fnScope (stAt pw.main.body 10),globals:=3,closure:=[],defaults:= .none,kwdefaults:= .none,doc:= .none,pyModule:=(.str (Qq "law_dm0060_09") 585),annotations:=none,code:=(.ref 268),closureTuple:= .none,builtins:=0 }),slots:=[].toArray }
noncomputable def kt220 (_P:Params):Obj:={cls:= .none,dict:=none,data:=(.fields [].toArray),slots:=[].toArray }
noncomputable def kt266 (_P:Params):Obj:={cls:= .none,dict:=none,data:=(.fields [].toArray),slots:=[].toArray }
noncomputable def Kv (P:Params):List (Option Obj):=[some (k1 P),some (k2 P),some (k3 P),some (k4 P),some (k36 P),some (k42 P),some (k43 P),some (k59 P),some (k60 P),some (k81 P),some (k82 P),some (k88 P),some (k89 P),some (k91 P),some (k123 P),some (k124 P),some (k126 P),some (k127 P),some (k129 P),some (k130 P),some (k134 P),some (k135 P),some (k136 P),some (k153 P),some (k159 P),some (k160 P),some (k166 P),some (k167 P),some (k173 P),some (k174 P),some (k180 P),some (k181 P),some (k187 P),some (k188 P),some (k189 P),some (k195 P),some (k196 P),some (k202 P),some (k203 P),some (k224 P),some (k241 P),some (k242 P),some (k247 P),some (k253 P),some (k254 P),some (k258 P),some (k259 P),some (k263 P),some (k264 P),some (k268 P),some (k269 P),some (kt220 P),some (kt266 P)]
noncomputable def Ka:List Addr:=[1,2,3,4,36,42,43,59,60,81,82,88,89,91,123,124,126,127,129,130,134,135,136,153,159,160,166,167,173,174,180,181,187,188,189,195,196,202,203,224,241,242,247,253,254,258,259,263,264,268,269,220,266]
noncomputable def Kt:List Addr:=[220,266]
noncomputable def KvQ (p:Program) (P:Params):List (Option Obj):=by
 refine' (?f:∀x,(pw=p→Kv P=x)→List (Option Obj)) _ ?h
 case h=>intro h;simp only[Kv,k1,k2,k3,k4,k36,k42,k43,k59,k60,k81,k82,k88,k89,k91,k123,k124,k126,k127,k129,k130,k134,k135,k136,k153,k159,k160,k166,k167,k173,k174,k180,k181,k187,k188,k189,k195,k196,k202,k203,k224,k241,k242,k247,k253,k254,k258,k259,k263,k264,k268,k269,kt220,kt266,h,Str.ofString_eq_byList,Str.ofStringByList,String.reduceToList,List.map,Char.reduceToNat];exact rfl
 case f=>exact fun x _=>x
noncomputable def env1:Env:={scope:=pT.main.scope,locals:=mainNs,globals:=mainNs,cells:=[],code:= .ref 13,frame:=some 14 }
noncomputable def tB (P:Params):BT :=
 BT.node (boot_o_0 P)
  (BT.node (boot_o_1 P)
   (BT.node (boot_o_3 P) (BT.node (boot_o_7 P) BT.nil BT.nil) (BT.node {cls:= .type "tuple",data:= .seq #[] } BT.nil BT.nil))
   (BT.node (boot_o_5 P) (BT.node (boot_o_9 P) BT.nil BT.nil) (BT.node {cls:= .type "code",data:= .fields #[.str ⟨⟨[60,109,111,100,117,108,101,62]⟩⟩ 182, .str ⟨⟨[60,109,111,100,117,108,101,62]⟩⟩ 183, .str ⟨⟨[47,99,108,97,105,109,47,99,117,116,46,112,121]⟩⟩ 184, .int 1 0, .int 0 0, .int 0 0, .int 0 0, .int 0 0, .ref 11, .bool false, .int 181 0, .ref 12, .none, .none, .none, .none, .int 185 0, .int 1 0, .str ⟨⟨[47,99,108,97,105,109,47,99,117,116,46,112,121]⟩⟩ 186] } BT.nil BT.nil)))
  (BT.node (boot_o_2 P)
   (BT.node (boot_o_4 P) (BT.node (boot_o_8 P) BT.nil BT.nil) (BT.node {cls:= .none,data:= .fields #[] } BT.nil BT.nil))
   (BT.node (boot_o_6 P) (BT.node (boot_o_10 P) BT.nil BT.nil) (BT.node {cls:= .type "frame",slots:=#[some (.ref 13),some (.ref 3),some (.ref 3),none,some (.str ⟨⟨[95,95,109,97,105,110,95,95]⟩⟩ 164),none,some (.ref 0)] } BT.nil BT.nil)))
noncomputable def codeB:Code:= .body (behindTheImports pT) env1
noncomputable abbrev q0:Pos:=⟨0,0,0,0⟩
noncomputable abbrev annV:Option Value:=some (.ref 6)
noncomputable def SB (w:World) (os:OsState):SharedT:=⟨tB w.params,15,{},Array.mk [],{},187,os⟩
noncomputable def S0 (w:World) (os:OsState):Shared:=⟨boot_heap w.params,Array.mk [],boot_drawn,boot_toks,os⟩
noncomputable def qv:Program:=view pT [10]
noncomputable def loose:List Str:=[⟨⟨[95,119,97,108,108]⟩⟩,⟨⟨[95,116,117,112,108,101,103,101,116,116,101,114]⟩⟩,⟨⟨[77,97,116,99,104]⟩⟩,⟨⟨[95,99,97,108,99,117,108,97,116,101,95,114,97,116,105,111]⟩⟩,⟨⟨[83,101,113,117,101,110,99,101,77,97,116,99,104,101,114]⟩⟩,⟨⟨[73,83,95,67,72,65,82,65,67,84,69,82,95,74,85,78,75]⟩⟩,⟨⟨[95,108,97,119,95,98,108,111,99,107,115]⟩⟩,⟨⟨[95,108,97,119,95,115,116,97,110,100,105,110,103]⟩⟩]
noncomputable def Xt (s:Shared):Bool:=recOk [] s
theorem obs_keeps:∀(as:List Addr) (os:List (Option Obj)) (h h':Heap),(∀o∈os,o.isSome=true)→as.map h.get? =os→(∀b o,h.get? b=some o→h'.get? b=some o)→as.map h'.get? =os
 |[],os,_,_,_,e,_=>by rw[←e];rfl
 |a::as,[],_,_,_,e,_=>by cases e
 |a::as,o::os,h,h',hs,e,k=>by
  refine x_A (List.cons.inj e) fun e1 e2=> ?_
  refine x_E (Option.isSome_iff_exists.mp (hs _ (.head _))) fun x z1=> ?_;subst z1
  rw[Q3,k _ _ e1,obs_keeps as os h h' (fun o ho=>hs o (.tail _ ho)) e2 k]
theorem Kv_some (P:Params):∀o∈Kv P,o.isSome=true:=List.all_eq_true.mp (by kernel_rfl:(Kv P).all (·.isSome)=true)
theorem KvE (P:Params):KvQ pT P=Kv P:=by rw[←pTe];kernel_rfl
noncomputable def hook:Hook:=⟨List (Option Obj),fun s=>Ka.map s.heap.get?,fun w=>Kv w.params,fun w h=>Ka.map h.get? =Kv w.params,fun _ _ e=>e,fun w h h' e k=>obs_keeps _ _ h h' (Kv_some w.params) e k⟩
noncomputable def e1 (w:World) (os:OsState):Option (Thread × Flow × Shared × Code × Pos) :=
 (topGo treeTable pT w 11 annV 12 (S0 w os) (topStub pT)).bind fun x =>
  (segRun treeTable pT w 11 annV 1 1 x.1 (blockOf (behindTheImports pT) env1 codeB q0 [topFrame q0])).map fun r=>(x.2,r)
noncomputable def e1r (w:World) (os:OsState):Option (Thread × Flow × Shared × Code × Pos):=some (⟨denote treeTable codeB,codeB,q0,[topFrame q0]⟩, .next,(SB w os).abs,codeB,q0)
noncomputable def e2 (w:World) (os:OsState) :=
 (segRunT tbl pT w 11 annV 1 2209 (SB w os) (piecesOf (behindTheImports pT) env1 codeB q0 [topFrame q0])).bind fun r =>
  (topRun tbl pT w 11 annV 2 r.2.1.abs ⟨doneF .next,r.2.2.1,r.2.2.2,[topFrame q0]⟩).map fun s =>
   (r.1,r.2.2.1,(staticsOk (importedModules pT.main.body) (boot_heap w.params) s.heap&&namesBound pT s.heap&&gensDone s&&laidKept (boot_heap w.params) s.heap),openSeen qv loose (importedModules pT.main.body) Xt true s,Ka.map s.heap.get?)
noncomputable def e2r (w:World) (_os:OsState):=some (Flow.next,codeB,true,openGood qv loose,KvQ pT w.params)
noncomputable def e3 (w:World) (_os:OsState):=((boot_heap w.params).isNs Wy&&(Array.mk []:Array GenState).size==0,(boot_heap w.params).objs.size,(boot_heap w.params).nsMap Wy "__annotations__")
end Mine
lay_quick Mine.e1 Mine.e1r Mine.e2 Mine.e2r Mine.e3
namespace Mine
theorem e1q:∀(w:World) (os:OsState),PySem.W.Fast.tw2758588111626016893 w os=PySem.W.Fast.tw3336267605350037314 w os:=by intro w os;kernel_rfl
theorem e2q:∀(w:World) (os:OsState),PySem.W.Fast.tw3392370520221732884 w os=PySem.W.Fast.tw4722635641337964970 w os:=by intro w os;kernel_rfl
theorem e3q:∀(w:World) (os:OsState),PySem.W.Fast.tw133392957147307173 w os=(true,11,annV):=by intro w os;kernel_rfl
theorem e1e (w:World) (os:OsState):e1 w os=e1r w os:=by rw[PySem.W.Fast.te2758588111626016893,PySem.W.Fast.te3336267605350037314];exact e1q w os
theorem e2e (w:World) (os:OsState):e2 w os=e2r w os:=by rw[PySem.W.Fast.te3392370520221732884,PySem.W.Fast.te4722635641337964970];exact e2q w os
theorem e3e (w:World) (os:OsState):e3 w os=(true,11,annV):=by rw[PySem.W.Fast.te133392957147307173];exact e3q w os
theorem openE:opening pT=plainProg pT.main.scope.names:=by kernel_rfl
theorem fenceE (s:Shared):fenceModules? pT s=some s:=by kernel_rfl
theorem runs (w:World) (os:OsState):∃s,topRun treeTable pT w 11 annV 2224 (S0 w os) (topStub pT)=some s ∧
 (staticsOk (importedModules pT.main.body) (boot_heap w.params) s.heap&&namesBound pT s.heap&&gensDone s&&laidKept (boot_heap w.params) s.heap)=true ∧
 openSeen qv loose (importedModules pT.main.body) Xt true s=openGood qv loose∧Ka.map s.heap.get? =Kv w.params:=by
 have h1:=e1e w os
 unfold e1 e1r at h1
 refine x_EA (Option.bind_eq_some_iff.mp h1) fun z2 g1 g2=> ?_;obtain⟨Sa,t0⟩:=z2
 refine x_EA (QW.mp g2) fun r g3 g4=> ?_
 refine x_A (Prod.mk.inj g4) fun z3 z4=> ?_;subst z3;subst z4
 have h2:=e2e w os
 unfold e2 e2r at h2
 rw[←tbl_eq] at h2
 refine x_EA (Option.bind_eq_some_iff.mp h2) fun z5 k1 k2=> ?_;obtain⟨f,S',c,p'⟩:=z5
 refine x_EA (QW.mp k2) fun s k3 k4=> ?_
 refine x_A (Prod.mk.inj k4) fun z6 k5=> ?_;subst z6
 refine x_A (Prod.mk.inj k5) fun z7 k6=> ?_;subst z7
 refine x_A (Prod.mk.inj k6) fun k7 k8=> ?_
 refine x_A (Prod.mk.inj k8) fun k9 k10=> ?_
 refine⟨s, ?_,k7,k9,k10.trans (KvE _)⟩
 have fin:topRun treeTable pT w 11 annV 2 S'.abs (restOf [] env1 codeB p' [topFrame q0])=some s:=k3
 have pc:=piece_app (segRun_of k1) fin
 rw[Q4] at pc
 exact go_top (n:=12) g1 (piece_block (n:=1) g3 pc)
theorem left_of {p q:Program} {loose:List Str} {Xt:Shared→Bool} {α:Type} {Yf:Shared→α} {Ya:World→α} {N:Nat} {H₀:Params→Heap} {gs₀:Array GenState} {d₀:Drawn} {k₀ m₀ M:Nat} {ann:Option Value}
 (open_:∀w:World,(fencedOpening treeTable p w N).map (fun s=>(s.heap,s.gens,s.drawn,s.toks))=some (H₀ w.params,gs₀,d₀,k₀))
 (size:∀w:World,((H₀ w.params).isNs Wy&&gs₀.size==0,(H₀ w.params).objs.size,(H₀ w.params).nsMap Wy "__annotations__")=(true,m₀,ann))
 (run:∀(w:World) (os:OsState),∃s,topRun treeTable p w m₀ ann M ⟨H₀ w.params,gs₀,d₀,k₀,os⟩ (topStub p)=some s ∧
  (staticsOk (importedModules p.main.body) (H₀ w.params) s.heap&&namesBound p s.heap&&gensDone s&&laidKept (H₀ w.params) s.heap)=true ∧
  openSeen q loose (importedModules p.main.body) Xt true s=openGood q loose∧Yf s=Ya w) (le:Nat.ble M N=true):LeftO p q loose Xt Yf Ya N:=by
 intro w
 obtain⟨⟨h,gs,d,k,os⟩,e,e'⟩:=QW.mp (open_ w)
 obtain⟨rfl,rfl,rfl,rfl⟩:h=H₀ w.params∧gs=gs₀∧d=d₀∧k=k₀:=by simpa using e'
 obtain⟨z1,z2,z3⟩:_∧_∧_:=by simpa only[Prod.mk.injEq] using size w
 obtain⟨s,r,l1,l2,l3⟩:=run w os
 have r:=topRun_mono (N-M) _ _ _ _ r
 rw[show M+(N-M)=N by have:=QV le;omega] at r
 have t:topFrom treeTable p w N ⟨H₀ w.params,gs,d,k,os⟩=some s:=by
  unfold topFrom
  dsimp only
  rw[z1,z2,z3,r]
  show(match staticsOk (importedModules p.main.body) (H₀ w.params) s.heap&&namesBound p s.heap&&gensDone s&&laidKept (H₀ w.params) s.heap with|true=>_|false=>_)=_
  rw[l1]
 unfold openEnds
 rw[e]
 show(topFrom treeTable p w N _).map _=_
 rw[t]
 exact congrArg some (Prod.ext l2 l3)
theorem leftT:LeftO pT (view pT [10]) loose Xt (Hook.obs hook) (Hook.val hook) 4448 :=
 left_of (M:=2224) (boot_open (p:=pT) (N:=4448) openE (by decide) fenceE) (fun w=>e3e w default) (fun w os=>runs w os) (by decide)
noncomputable def qw:Program:=view pw [10]
theorem left:LeftO pw qw loose Xt (Hook.obs hook) (Hook.val hook) 4448:=by
 have h:=leftT
 rw[←pTe] at h
 exact h
theorem postG {c:ClaimW} {cl:Str→Option Addr} {mean:ExcName→Option Value} {args:List WData} {s₁ s':Shared} (hr:∀cls,c.raises args cls=false) (hp:c.post args (.bool true) args=true)
 (h:OldK s₁.heap s'.heap∧s'.os=s₁.os∧AllBare s'.gens):GoodWG c cl mean args s₁ (.ok (.ret (.bool true))) s' :=
 ⟨.inl ⟨_, .bool true,[],rfl,hr, .bool true,hp,fun _=>⟨.nil,fun _ h=>nomatch h⟩⟩,h⟩
theorem inK {P:Params} {h:Heap} {a:Addr} {o:Obj} (Y:Ka.map h.get? =Kv P) (e:(Ka.zip (Kv P)).lookup a=some (some o)):h.get? a=some o:=by
 rw[←Y] at e
 generalize Ka=l at e
 clear Y
 induction l with
 |nil=>cases e
 |cons b l ih =>
  simp only[Q3,List.zip_cons_cons,List.lookup_cons] at e
  by_cases hb:(a==b)=true
  ·rw[hb] at e;cases beq_iff_eq.mp hb;exact Option.some.inj e
  ·rw[Bool.not_eq_true] at hb;rw[hb] at e;exact ih e
noncomputable def Walk:Prop:=∀(w:World) (s₁:Shared) (mb:Str→Option Value) (a:Addr) (vs:List Value) (ns:List Int),
 s₁.heap.Ns builtinsNs mb→(∀x:Str,x ≠ "__name__" → mb x=bootBuiltins x)→s₁.heap.NoLimit→Ka.map s₁.heap.get? =Kv w.params→s₁.gens=#[] →
 s₁.heap.PlainList a vs.toArray→IntsAre vs ns→ns.length≤63→PyData.layable0 (.list (ns.map .int))=true → 
 wpAny (model pw w) callerA (call (.ref 269) [.ref a]) (fun v s'=>v= .bool true∧OldK s₁.heap s'.heap∧s'.os=s₁.os∧AllBare s'.gens) (fun _ _=>False) s₁
theorem plain_of {P:Params} {h:Heap} {a:Addr} {vs:List Value} {args:List WData} {vals:List Value} (hw:WellAll P h (.ref a::vals) args) (hl:h.IsList a vs.toArray):h.PlainList a vs.toArray:=by
 refine x_EAAE hl fun o ho hc n hd=> ?_
 cases hw with
 |cons hv _ =>
  cases hv with
  | @list _ vs' xs hg _ =>
   rw[ho] at hg
   injection hg with hg
   rw[hg] at hd hc
   injection hd with hd1 hd2
   refine⟨0, ?_⟩
   rw[ho,hg,hd1]
  |_=>simp_all<;>(subst_vars;simp at hc)
noncomputable def rwT:PySem.W.OpenLaw:={prog:=pT,name:=⟨⟨[108,97,119]⟩⟩,about:=[⟨⟨[73,83,95,67,72,65,82,65,67,84,69,82,95,74,85,78,75]⟩⟩],foot:=3,most:=some 63,bound:=none,writes:=false }
theorem rwE:PySem.Challenge.rw_dm0060_09=rwT:=(by kernel_rfl:PySem.Challenge.rw_dm0060_09={rwT with prog:=pw }).trans (by rw[show pw=pT from pTe];rfl)
theorem holdsT (h:rwT.row.wellSaid=true→rwT.row.Holds):rwT.Holds:=by
 o_law
 exact h (by assumption)
theorem holds_of (walk:Walk):PySem.Challenge.rw_dm0060_09.Holds:=by
 rw[rwE]
 refine holdsT ?_
 rw[←rwE]
 intro said
 refine PySem.W.holds_open (r:=PySem.Challenge.rw_dm0060_09.row) (q:=qw) (loose:=loose) (Xt:=Xt) (XP:=fun _ _=>True) (Yf:=Hook.obs hook) (Ya:=Hook.val hook) (YP:=Hook.says hook) left (Hook.of hook) (Hook.keeps hook) (fun _ _=>trivial) (fun _ _ _ _ _=>trivial) (by rfl) (by rfl) (by rfl) (fun s e=>recFacts_of e) (by rfl) said (by decide +kernel) ⟨rfl,rfl,rfl,rfl,rfl,by decide +kernel⟩ ?hw ?hc
 case hw=>w_witness2
 case hc =>
  intro w s₀ s₁ mg mb G Y a o pm cd doc dV kV ho hd hcd hD hmg hg args vals as hpre hlay hrd hwl hlo
  have T:=G.T
  have Y:Ka.map s₁.heap.get? =Kv w.params:=Y
  clear hD hcd hd ho G
  have ha:a=269:=by
   refine x_EEEAAA T.g fun o3 es ep h3 hd3 _ hf=> ?_
   have e3:s₁.heap.get? 3=some (k3 w.params):=inK Y (by rfl)
   rw[show Wy=3 from rfl,e3] at h3
   cases h3
   cases hd3
   have:=(hf "law").trans hmg
   have e:(some (Value.ref 269):Option Value)=some (.ref a):=this
   cases e;rfl
  subst ha
  have hwl2:=hwl
  wrow_args hpre hlay hrd hwl hlo
  rename_i hL hI hc1 hc2
  refine Q5 (walk w s₁ mb _ _ _ T.b T.builtins T.nolimit Y hg (plain_of hwl2 (by assumption)) (by assumption) (by(omega)) (by assumption)) (fun v s' h=> ?_) (fun _ _ h=>h.elim)
  refine x_A h ?_;clear h;intro z8 h;subst z8
  exact postG (fun _=>rfl) (postW_of rfl (w_eq_bool (k:=true) (l:=true) (w_res rfl) w_lit) rfl) h
end Mine
namespace Mine.Internal
set_option genInjectivity true in
inductive Key where
 |i (n:Int)|s (x:Str)
 deriving DecidableEq,Inhabited
inductive V where
 |none|bool (b:Bool)|int (i:Int)|flt (b:UInt64)|str (s:Str)
 |ty (n:String)|blt (n:String)|top (a:Addr)
 |ref (i:Nat)|obj (i:Nat) (C:Addr)
 |tup (xs:List V)|mat (C:Addr) (xs:List V)|lst (xs:List V)|fdict (kvs:List (Key × V))|fset (ks:List Key)
 |bm (id:String) (x:V)|meth (f:Addr) (x:V)|view (ty:String) (x:V)
 |lam (params:Arguments) (body:Expr) (scope:Scope) (qual:Str) (cl:List (Str × Nat))
 |rng (a b c:Int)|enm (x:V)|mp (f x:V)
 deriving Inhabited
noncomputable def Key.v:Key→V
 | .i n=> .int n
 | .s x=> .str x
inductive AO where
 |dead|list (xs:List V)|dict (kvs:List (Key × V))|dictE (ep:Nat) (kvs:List (Key × V))|set (ks:List Key)|setO (o:Obj) (ks:List Key)|inst (fs:List (Str × V))|cell (v:Option V)
 deriving Inhabited
set_option bootstrap.genMatcherCode false
noncomputable abbrev G:=Addr→Option Obj
noncomputable def Key.is:Key→Value→Bool
 | .i n,v=>Value.isInt n v
 | .s x,v=>Value.isStrOf x v
noncomputable def Key.hash (w:World):Key→Int
 | .i n=>hashInt n
 | .s x=>hashStr w x
theorem eqBool_int_str {prog:Program} {w:World} {A:Around} {E:Value→Shared→Prop} {s:Shared} {a:Int} {t:Tok} {b:Str} {u:Tok} {Q:Bool→Shared→Prop} (h:Q false s) :
 wpAny (model prog w) A (PySem.eqBool (.int a t) (.str b u)) Q E s:=by
 unfold PySem.eqBool
 refine Qf ?_
 rw[if_neg (by simp)]
 exact Qw (EqMixed.eq_int_str (wpAny_truthy_bool h))
theorem eqBool_str_int {prog:Program} {w:World} {A:Around} {E:Value→Shared→Prop} {s:Shared} {a:Int} {t:Tok} {b:Str} {u:Tok} {Q:Bool→Shared→Prop} (h:Q false s) :
 wpAny (model prog w) A (PySem.eqBool (.str b u) (.int a t)) Q E s:=by
 unfold PySem.eqBool
 refine Qf ?_
 rw[if_neg (by simp)]
 exact Qw (EqMixed.eq_str_int (wpAny_truthy_bool h))
noncomputable def kk (prog:Program) (w:World):KeyKind prog w Key where
 is:=Key.is
 hash:=Key.hash w
 inj:=fun v a b ha hb=>by
  cases a<;>cases b
  ·rw[Value.isInt_inj v _ _ ha hb]
  ·refine x_E (Value.isInt_shape ha) fun t z9=> ?_;subst z9;cases hb
  ·refine x_E (Value.isInt_shape hb) fun t z10=> ?_;subst z10;cases ha
  ·rw[Value.isStrOf_inj v _ _ ha hb]
 byValue:=fun k v h=>by
  cases k
  ·refine x_E (Value.isInt_shape h) fun t z11=> ?_;subst z11;rfl
  ·refine x_E (Value.isStrOf_shape h) fun t z12=> ?_;subst z12;rfl
 pyHash:=fun{A E s k v Q} hv h=>by
  cases k
  ·refine x_E (Value.isInt_shape hv) fun t z13=> ?_;subst z13;exact wpAny_pyHash_int h
  ·refine x_E (Value.isStrOf_shape hv) fun t z14=> ?_;subst z14;exact wpAny_pyHash_str h
 eqBool:=fun{A E s a b u v Q} hu hv h=>by
  cases a<;>cases b
  · refine x_E (Value.isInt_shape hu) fun t z15=> ?_;subst z15
    refine x_E (Value.isInt_shape hv) fun t' z16=> ?_;subst z16
    refine wpAny_eqBool_int ?_
    have e:∀x y:Int,decide (Key.i x=Key.i y)=(x==y):=fun x y=>by
     by_cases hxy:x=y<;>simp[hxy]
    rw[e] at h;exact h
  · refine x_E (Value.isInt_shape hu) fun t z17=> ?_;subst z17
    refine x_E (Value.isStrOf_shape hv) fun t' z18=> ?_;subst z18
    exact eqBool_int_str (by simpa using h)
  · refine x_E (Value.isStrOf_shape hu) fun t z19=> ?_;subst z19
    refine x_E (Value.isInt_shape hv) fun t' z20=> ?_;subst z20
    exact eqBool_str_int (by simpa using h)
  · refine x_E (Value.isStrOf_shape hu) fun t z21=> ?_;subst z21
    refine x_E (Value.isStrOf_shape hv) fun t' z22=> ?_;subst z22
    refine wpAny_eqBool_str ?_
    have e:∀x y:Str,decide (Key.s x=Key.s y)=decide (x=y):=fun x y=>by
     by_cases hxy:x=y<;>simp[hxy]
    rw[e] at h
    exact h
 «strs»:=fun k x t v h=>by
  cases k
  ·simp[Key.is,Value.isInt] at h
  ·exact(strKind prog w).«strs» _ x t v h
structure Cx where
 prog:Program
 w:World
 os:OsState
 tabs:List Addr
 tabq:Addr→Str
 h₀:Heap
noncomputable abbrev Cx.k (C:Cx):KeyKind C.prog C.w Key:=kk C.prog C.w
noncomputable abbrev Cx.M (C:Cx):Model:=model C.prog C.w
noncomputable def SetObj (C:Cx) (o:Obj) (ks:List Key):Prop :=
 ∃es ep t,o.ExactSet∧o.data= .set es ep t∧ElemsOf C.k es.toList∧(∀k,k∈ks↔∃e∈es.toList,C.k.is k e.2=true)∧ks.Nodup∧es.size=ks.length∧es.size<scanBound ∧
  t.fits es.size=true∧t.led=(!C.w.params.followText "set-order")∧t.place.toList.Pairwise (· < ·)
mutual
inductive Conc (C:Cx) (g:G) (ρ:List Addr):V→Value→Prop
 |none:Conc C g ρ .none .none
 |bool (b:Bool):Conc C g ρ (.bool b) (.bool b)
 |int (i:Int) (t:Tok):Conc C g ρ (.int i) (.int i t)
 |flt (b:UInt64) (t:Tok):Conc C g ρ (.flt b) (.float b t)
 |str (x:Str) (t:Tok):Conc C g ρ (.str x) (.str x t)
 |ty (n:String):Conc C g ρ (.ty n) (.type n)
 |blt (n:String):Conc C g ρ (.blt n) (.builtin n)
 |top (a:Addr):Conc C g ρ (.top a) (.ref a)
 |ref {i:Nat} {a:Addr}:ρ[i]? =some a→Conc C g ρ (.ref i) (.ref a)
 |obj {i:Nat} {K x dx:Addr}:g x=some ⟨.ref K,some dx, .plain,#[]⟩→ρ[i]? =some dx→Conc C g ρ (.obj i K) (.ref x)
 |tup {xs:List V} {vs:List Value} {a:Addr} {o:Obj} {n:Nat}:g a=some o→o.cls= .type "tuple" → o.data= .seq vs.toArray n→Concs C g ρ xs vs→Conc C g ρ (.tup xs) (.ref a)
 |mat {K:Addr} {xs:List V} {vs:List Value} {a dx:Addr}:g a=some ⟨.ref K,some dx, .seq vs.toArray 0,#[]⟩→g dx=some {cls:= .type "dict",data:= .dict #[] }→Concs C g ρ xs vs→Conc C g ρ (.mat K xs) (.ref a)
 |lst {xs:List V} {vs:List Value} {a:Addr} {n:Nat}:g a=some {cls:= .type "list",data:= .seq vs.toArray n }→Concs C g ρ xs vs→Conc C g ρ (.lst xs) (.ref a)
 |fdict {kvs:List (Key × V)} {kvs':List (Key × Value)} {a:Addr} {o:Obj}:g a=some o→o.IsDictOf C.k kvs'→C.h₀.get? a=Option.none→kvs'.map (·.1)=kvs.map (·.1)→Concs C g ρ (kvs.map (·.2)) (kvs'.map (·.2))→Conc C g ρ (.fdict kvs) (.ref a)
 |fset {ks:List Key} {a:Addr} {o:Obj}:g a=some o→SetObj C o ks→Conc C g ρ (.fset ks) (.ref a)
 |bm {id:String} {v:V} {y:Value} {a:Addr}:g a=some {cls:= .type "builtin_function_or_method",data:= .fields #[.builtin id,y] }→Conc C g ρ v y→Conc C g ρ (.bm id v) (.ref a)
 |meth {f:Addr} {v:V} {y:Value} {a:Addr}:g a=some {cls:= .type "method",data:= .fields #[.ref f,y] }→Conc C g ρ v y→Conc C g ρ (.meth f v) (.ref a)
 |view {t:String} {v:V} {y:Value} {a:Addr}:g a=some {cls:= .type t,data:= .fields #[y] }→Conc C g ρ v y→Conc C g ρ (.view t v) (.ref a)
 |lam {params:Arguments} {body:Expr} {scope:Scope} {qual:Str} {cl:List (Str × Nat)} {a c:Addr} {o oc:Obj} {fd:FuncData} {vs:Array Value} {t:Tok}:g a=some o→o.cls= .type "function" → o.data= .func fd→fd.params=params→fd.body= .expr body →
  fd.scope=scope→fd.qualname=qual→fd.globals=Wy→fd.builtins=builtinsNs→fd.defaults= .none→fd.kwdefaults= .none→fd.closure.map (·.1)=cl.map (·.1)→cl.map (fun x=>ρ[x.2]?)=fd.closure.map (fun x=>some x.2) →
  fd.code= .ref c→g c=some oc→oc.data= .fields vs→vs[1]? =some (.str qual t)→Conc C g ρ (.lam params body scope qual cl) (.ref a)
 |rng {a b c:Int} {x:Addr} {t t' t'':Tok}:g x=some {cls:= .type "range",data:= .fields #[.int a t, .int b t', .int c t''] }→Conc C g ρ (.rng a b c) (.ref x)
inductive Concs (C:Cx) (g:G) (ρ:List Addr):List V→List Value→Prop
 |nil:Concs C g ρ [] []
 |cons {x:V} {v:Value} {xs:List V} {vs:List Value}:Conc C g ρ x v→Concs C g ρ xs vs→Concs C g ρ (x::xs) (v::vs)
end
noncomputable def Inv (C:Cx) (g:G) (ρ:List Addr):V→Value→Prop
 | .none,x=>x= .none
 | .bool b,x=>x= .bool b
 | .int i,x=>∃t,x= .int i t
 | .flt b,x=>∃t,x= .float b t
 | .str s,x=>∃t,x= .str s t
 | .ty n,x=>x= .type n
 | .blt n,x=>x= .builtin n
 | .top a,x=>x= .ref a
 | .ref i,x=>∃a,x= .ref a∧ρ[i]? =some a
 | .lst xs,x=>∃vs a n,x= .ref a∧g a=some {cls:= .type "list",data:= .seq vs.toArray n }∧Concs C g ρ xs vs
 | .tup xs,x=>∃vs a o n,x= .ref a∧g a=some o∧o.cls= .type "tuple" ∧ o.data= .seq vs.toArray n∧Concs C g ρ xs vs
 | .obj i K,x=>∃a dx,x= .ref a∧g a=some ⟨.ref K,some dx, .plain,#[]⟩∧ρ[i]? =some dx
 | .mat K xs,x=>∃vs a dx,x= .ref a∧g a=some ⟨.ref K,some dx, .seq vs.toArray 0,#[]⟩∧g dx=some {cls:= .type "dict",data:= .dict #[] }∧Concs C g ρ xs vs
 | .rng a b c,x=>∃y t t' t'',x= .ref y∧g y=some {cls:= .type "range",data:= .fields #[.int a t, .int b t', .int c t''] }
 | .view k v,x=>∃y a,x= .ref a∧g a=some {cls:= .type k,data:= .fields #[y] }∧Conc C g ρ v y
 | .fset ks,x=>∃a o,x= .ref a∧g a=some o∧SetObj C o ks
 | .fdict kvs,x=>∃kvs' a o,x= .ref a∧g a=some o∧o.IsDictOf C.k kvs'∧C.h₀.get? a=Option.none∧kvs'.map (·.1)=kvs.map (·.1)∧Concs C g ρ (kvs.map (·.2)) (kvs'.map (·.2))
 |_,_=>True
theorem Conc.toInv {C:Cx} {g:G} {ρ:List Addr} {v:V} {x:Value} (c:Conc C g ρ v x):Inv C g ρ v x:=by
 cases c with
 |ref h=>exact⟨_,rfl,h⟩
 |lst h c=>exact⟨_,_,_,rfl,h,c⟩
 |tup a b c d=>exact⟨_,_,_,_,rfl,a,b,c,d⟩
 |mat a b c=>exact⟨_,_,_,rfl,a,b,c⟩
 |int _ t=>exact⟨t,rfl⟩
 |flt _ t=>exact⟨t,rfl⟩
 |str _ t=>exact⟨t,rfl⟩
 |none=>rfl
 |bool=>rfl
 |ty=>rfl
 |blt=>rfl
 |top=>rfl
 |obj a b=>exact⟨_,_,rfl,a,b⟩
 |rng a=>exact⟨_,_,_,_,rfl,a⟩
 |view a b=>exact⟨_,_,rfl,a,b⟩
 |fset a b=>exact⟨_,_,rfl,a,b⟩
 |fdict a b c d e=>exact⟨_,_,_,rfl,a,b,c,d,e⟩
 |_=>trivial
noncomputable def Sub (g g':G):Prop:=∀a o,g a=some o→g' a=some o
theorem Sub.refl (g:G):Sub g g:=fun _ _ e=>e
theorem Sub.trans {a b c:G} (x:Sub a b) (y:Sub b c):Sub a c:=fun _ _ e=>y _ _ (x _ _ e)
theorem pre_get {ρ ρ':List Addr} (p:ρ <+: ρ') {i:Nat} {a:Addr} (h:ρ[i]? =some a):ρ'[i]? =some a:=by
 refine x_E p fun t z23=> ?_;subst z23
 rw[List.getElem?_append_left (by exact(Qp.mp h).1)]
 exact h
theorem pre_cl {ρ ρ':List Addr} (p:ρ <+: ρ'):∀{cl:List (Str × Nat)} {fc:List (Str × Addr)},cl.map (fun x=>ρ[x.2]?)=fc.map (fun x=>some x.2)→cl.map (fun x=>ρ'[x.2]?)=fc.map (fun x=>some x.2)
 |[],[],_=>rfl
 |[],_::_,h=>by cases h
 |_::_,[],h=>by cases h
 |c::cl,f::fc,h=>by
  simp only[Q3,List.cons.injEq] at h ⊢
  exact⟨pre_get p h.1,pre_cl p h.2⟩
theorem Conc.mono {C:Cx} {g g':G} {ρ ρ':List Addr} (hs:Sub g g') (hp:ρ <+: ρ') {v:V} {x:Value} (c:Conc C g ρ v x):Conc C g' ρ' v x :=
 Conc.rec (motive_1:=fun v x _=>Conc C g' ρ' v x) (motive_2:=fun v x _=>Concs C g' ρ' v x) .none (fun b=> .bool b) (fun i t=> .int i t) (fun b t=> .flt b t) (fun x t=> .str x t) (fun n=> .ty n) (fun n=> .blt n) (fun a=> .top a) (fun h=> .ref (pre_get hp h)) (fun h k=> .obj (hs _ _ h) (pre_get hp k))
  (fun a b c _ d=> .tup (hs _ _ a) b c d) (fun a b _ d=> .mat (hs _ _ a) (hs _ _ b) d) (fun a _ d=> .lst (hs _ _ a) d) (fun a b c d _ e=> .fdict (hs _ _ a) b c d e) (fun a b=> .fset (hs _ _ a) b) (fun a _ b=> .bm (hs _ _ a) b) (fun a _ b=> .meth (hs _ _ a) b) (fun a _ b=> .view (hs _ _ a) b)
  (fun a b c d e f h i j k l m n o p q r=> .lam (hs _ _ a) b c d e f h i j k l m (pre_cl hp n) o (hs _ _ p) q r) (fun a=> .rng (hs _ _ a)) .nil (fun _ _ a b=> .cons a b) c
theorem Concs.ind {C:Cx} {g:G} {ρ:List Addr} {P:List V→List Value→Prop} (h0:P [] []) (h1:∀{v x vs xs},Conc C g ρ v x→Concs C g ρ vs xs→P vs xs→P (v::vs) (x::xs)) {v:List V} {x:List Value} (c:Concs C g ρ v x):P v x :=
  Concs.rec (motive_1:=fun _ _ _=>True) (motive_2:=fun v x _=>P v x) trivial (fun _=>trivial) (fun _ _=>trivial) (fun _ _=>trivial) (fun _ _=>trivial) (fun _=>trivial) (fun _=>trivial) (fun _=>trivial) (fun _=>trivial) (fun _ _=>trivial) (fun _ _ _ _ _=>trivial) (fun _ _ _ _=>trivial) (fun _ _ _=>trivial) (fun _ _ _ _ _ _=>trivial) (fun _ _=>trivial) (fun _ _ _=>trivial) (fun _ _ _=>trivial) (fun _ _ _=>trivial)
    (fun _ _ _ _ _ _ _ _ _ _ _ _ _ _ _ _ _=>trivial) (fun _=>trivial) h0 (fun a c _ b=>h1 a c b) c
theorem Concs.mono {C:Cx} {g g':G} {ρ ρ':List Addr} (hs:Sub g g') (hp:ρ <+: ρ') {v:List V} {x:List Value} (c:Concs C g ρ v x):Concs C g' ρ' v x:=c.ind .nil fun a _ b=> .cons (a.mono hs hp) b
theorem cs_nil {C:Cx} {g:G} {ρ:List Addr} {xs:List Value} (c:Concs C g ρ [] xs):xs=[]:=by cases c;rfl
theorem cs_cons {C:Cx} {g:G} {ρ:List Addr} {v:V} {vs:List V} {xs:List Value} (c:Concs C g ρ (v::vs) xs):∃x r,xs=x::r∧Conc C g ρ v x∧Concs C g ρ vs r:=by
 cases c with
 |cons c cs=>exact⟨_,_,rfl,c,cs⟩
theorem kw0 {ks:List (Str × Value)} (h:ks.map (·.1)=[]):ks=[]:=List.map_eq_nil_iff.mp h
@[elab_as_elim] theorem eqE {α : Type} {x y : α} {P : α → Prop} (h : x = y) (k : P y) : P x := h ▸ k
@[elab_as_elim] theorem kw0E {ks : List (Str × Value)} {P : List (Str × Value) → Prop} (h : ks.map (·.1) = []) (k : P []) : P ks := eqE (kw0 h) k
@[elab_as_elim] theorem Conc.eInt {C : Cx} {g : G} {ρ : List Addr} {i : Int} {x : Value} {P : Value → Prop} (c : Conc C g ρ (.int i) x) (k : ∀ t, P (.int i t)) : P x := c.toInv.elim fun t e => e ▸ k t
@[elab_as_elim] theorem Conc.eStr {C : Cx} {g : G} {ρ : List Addr} {i : Str} {x : Value} {P : Value → Prop} (c : Conc C g ρ (.str i) x) (k : ∀ t, P (.str i t)) : P x := c.toInv.elim fun t e => e ▸ k t
@[elab_as_elim] theorem Conc.eRef {C : Cx} {g : G} {ρ : List Addr} {i : Nat} {x : Value} {P : Value → Prop} (c : Conc C g ρ (.ref i) x) (k : ∀ a, ρ[i]? = some a → P (.ref a)) : P x := c.toInv.elim fun a h => eqE h.1 (k a h.2)
@[elab_as_elim] theorem Conc.eObj {C : Cx} {g : G} {ρ : List Addr} {i : Nat} {K : Addr} {x : Value} {P : Value → Prop} (c : Conc C g ρ (.obj i K) x) (k : ∀ a dx, g a = some ⟨.ref K, some dx, .plain, #[]⟩ → ρ[i]? = some dx → P (.ref a)) : P x := c.toInv.elim fun a h => h.elim fun b h => eqE h.1 (k a b h.2.1 h.2.2)
@[elab_as_elim] theorem Conc.eLst {C : Cx} {g : G} {ρ : List Addr} {xs : List V} {x : Value} {P : Value → Prop} (c : Conc C g ρ (.lst xs) x) (k : ∀ vs a n, g a = some { cls := .type "list", data := .seq (List.toArray vs) n } → Concs C g ρ xs vs → P (.ref a)) : P x := c.toInv.elim fun a h => h.elim fun b h => h.elim fun n h => eqE h.1 (k a b n h.2.1 h.2.2)
@[elab_as_elim] theorem Conc.eTup {C : Cx} {g : G} {ρ : List Addr} {xs : List V} {x : Value} {P : Value → Prop} (c : Conc C g ρ (.tup xs) x) (k : ∀ vs a o n, g a = some o → o.cls = .type "tuple" → o.data = .seq (List.toArray vs) n → Concs C g ρ xs vs → P (.ref a)) : P x := c.toInv.elim fun a h => h.elim fun b h => h.elim fun o h => h.elim fun n h => eqE h.1 (k a b o n h.2.1 h.2.2.1 h.2.2.2.1 h.2.2.2.2)
@[elab_as_elim] theorem Conc.eMat {C : Cx} {g : G} {ρ : List Addr} {K : Addr} {xs : List V} {x : Value} {P : Value → Prop} (c : Conc C g ρ (.mat K xs) x) (k : ∀ vs a dx, g a = some ⟨.ref K, some dx, .seq (List.toArray vs) 0, #[]⟩ → g dx = some { cls := .type "dict", data := .dict #[] } → Concs C g ρ xs vs → P (.ref a)) : P x := c.toInv.elim fun a h => h.elim fun b h => h.elim fun n h => eqE h.1 (k a b n h.2.1 h.2.2.1 h.2.2.2)
@[elab_as_elim] theorem Concs.e {C : Cx} {g : G} {ρ : List Addr} {v : V} {vs : List V} {xs : List Value} {P : List Value → Prop} (c : Concs C g ρ (v :: vs) xs) (k : ∀ x r, Conc C g ρ v x → Concs C g ρ vs r → P (x :: r)) : P xs := by cases c with | cons a b => exact k _ _ a b
@[elab_as_elim] theorem Concs.e0 {C : Cx} {g : G} {ρ : List Addr} {xs : List Value} {P : List Value → Prop} (c : Concs C g ρ [] xs) (k : P []) : P xs := by cases c; exact k
set_option genInjectivity true in
structure Hs where
 σ:Nat→AO
 nx:Nat
noncomputable def Hs.upd (h:Hs) (i:Nat) (x:AO):Hs:=⟨fun j=>if j=i then x else h.σ j,h.nx⟩
noncomputable def Hs.new (h:Hs) (x:AO):Hs:=⟨fun j=>if j=h.nx then x else h.σ j,h.nx+1⟩
structure Wd where
 g:G
 ρ:List Addr
 s:Shared
noncomputable def ObjA (C:Cx) (g:G) (ρ:List Addr) (o:Obj):AO→Prop
 | .dead=>True
 | .list xs=>∃vs n,o={cls:= .type "list",data:= .seq vs n }∧Concs C g ρ xs vs.toList
 | .dict kvs=>∃kvs':List (Key × Value),o.IsDictOf C.k kvs'∧kvs'.map (·.1)=kvs.map (·.1)∧Concs C g ρ (kvs.map (·.2)) (kvs'.map (·.2))
 | .dictE ep kvs=>∃kvs':List (Key × Value),(∃es,o.data= .dict es ep)∧o.IsDictOf C.k kvs'∧kvs'.map (·.1)=kvs.map (·.1)∧Concs C g ρ (kvs.map (·.2)) (kvs'.map (·.2))
 | .set ks=>SetObj C o ks
 | .setO o' ks=>o=o'∧SetObj C o ks
 | .inst fs=>∃es n,o=W.dictOf es n∧es.length≤fs.length∧∀x,(match fs.lookup x with
  |some v=>∃y,W.getL x es=some (some y)∧Conc C g ρ v y
  |none=>W.getL x es=some none)
 | .cell v=>∃v',o.data= .cell v'∧(match v with|some x=>∃y,v'=some y∧Conc C g ρ x y|none=>v'=none)
theorem ObjA.mono {C:Cx} {g g':G} {ρ ρ':List Addr} {o:Obj} {ao:AO} (R:ObjA C g ρ o ao) (hs:Sub g g') (hp:ρ <+: ρ'):ObjA C g' ρ' o ao:=by
 cases ao with
 |dead=>trivial
 |list xs=>refine x_EEA R fun vs n r c=> ?_;exact⟨vs,n,r,c.mono hs hp⟩
 |dict kvs=>refine x_EAA R fun kvs' r r2 c=> ?_;exact⟨kvs',r,r2,c.mono hs hp⟩
 |dictE ep kvs=>refine x_EAAA R fun kvs' r0 r r2 c=> ?_;exact⟨kvs',r0,r,r2,c.mono hs hp⟩
 |set ks=>exact R
 |setO o' ks=>exact R
 |inst fs =>
  refine x_EEAA R fun es k ho hl r=> ?_
  refine⟨es,k,ho,hl,fun x=> ?_⟩
  have:=r x
  cases q:fs.lookup x with
  |none=>rw[q] at this;exact this
  |some v=>rw[q] at this;refine x_EA this fun y h1 h2=> ?_;exact⟨y,h1,h2.mono hs hp⟩
 |cell v =>
  refine x_EA R fun v' ho r=> ?_
  refine⟨v',ho, ?_⟩
  cases v with
  |none=>exact r
  |some x=>refine x_EA r fun y h1 h2=> ?_;exact⟨y,h1,h2.mono hs hp⟩
noncomputable def TabOk (q:Str) (g:G) (o:Obj):Prop:=∃ps,o=W.tabObj ps∧TriplesOk ps.toList∧∀pos cv,codeAmong pos ps.toList=some cv→∃c oc vs t,cv= .ref c∧g c=some oc∧oc.data= .fields vs∧vs[1]? =some (.str q t)
theorem TabOk.mono {q:Str} {g g':G} {o:Obj} (h:TabOk q g o) (hs:Sub g g'):TabOk q g' o :=
 let⟨ps,h1,h2,h3⟩:=h
 ⟨ps,h1,h2,fun pos cv e=>let⟨c,oc,vs,t,e1,e2,e3⟩:=h3 pos cv e;⟨c,oc,vs,t,e1,hs _ _ e2,e3⟩⟩
structure Rep (C:Cx) (w:Wd) (h:Hs):Prop where
 keep:∀a o,w.g a=some o→w.s.heap.get? a=some o
 len:w.ρ.length=h.nx
 nd:w.ρ.Nodup
 off:∀i a,w.ρ[i]? =some a→h.σ i≠ .dead→w.g a=none
 dead:∀i,h.nx≤i→h.σ i= .dead
 obj:∀i a,w.ρ[i]? =some a→∃o,w.s.heap.get? a=some o∧ObjA C w.g w.ρ o (h.σ i)
 new:∀a∈w.ρ,C.h₀.get? a=none
 os:w.s.os=C.os
 bare:AllBare w.s.gens
 top:∀a o,C.h₀.get? a=some o→a∉C.tabs→w.g a=some o
 tab:∀a∈C.tabs,∃o,w.s.heap.get? a=some o∧TabOk (C.tabq a) w.g o
 offtab:∀a∈C.tabs,w.g a=none∧a∉w.ρ
structure Ext (C:Cx) (X:List Addr) (w w':Wd):Prop where
 sub:Sub w.g w'.g
 new:∀a o,w'.g a=some o→w.g a=some o∨w.s.heap.get? a=none∨a∈w.ρ
 pre:w.ρ <+: w'.ρ
 newρ:∀a∈w'.ρ,a∈w.ρ∨w.s.heap.get? a=none
 kept:∀b o,w.s.heap.get? b=some o→b∉w.ρ→b∉X→b∉C.tabs→w'.s.heap.get? b=some o
 live:∀b o,w.s.heap.get? b=some o→∃o',w'.s.heap.get? b=some o'
theorem get_none {h h':Heap} {a:Addr} (live:∀b o,h.get? b=some o→∃o',h'.get? b=some o') (e:h'.get? a=none):h.get? a=none:=by
 cases q:h.get? a with
 |none=>rfl
 |some o=>refine x_E (live _ _ q) fun o' e'=> ?_;rw[e] at e';cases e'
section
variable {C:Cx} {X:List Addr} {w w' w'':Wd} {h h':Hs}
theorem Ext.refl:Ext C X w w:=⟨.refl _,fun _ _ e=> .inl e,Ql _,fun _ h=> .inl h,fun _ _ e _ _ _=>e,fun _ o e=>⟨o,e⟩⟩
theorem Ext.trans (x:Ext C X w w') (y:Ext C X w' w''):Ext C X w w'' where
 sub:=x.sub.trans y.sub
 new:=fun a o e=>(y.new a o e).elim (x.new a o) fun q=>q.elim (fun q=> .inr (.inl (get_none x.live q))) fun q=> .inr (x.newρ a q).symm
 pre:=x.pre.trans y.pre
 newρ:=fun a e=>(y.newρ a e).elim (x.newρ a) fun q=> .inr (get_none x.live q)
 kept:=fun b o e h1 h2 h3=>y.kept b o (x.kept b o e h1 h2 h3) (fun q=>(x.newρ b q).elim h1 fun z=>by rw[e] at z;cases z) h2 h3
 live:=fun b o e=>let⟨_,e'⟩:=x.live b o e;y.live b _ e'
theorem Ext.widen {Y:List Addr} (x:Ext C X w w') (h:∀a∈X,a∈Y):Ext C Y w w' :=
 ⟨x.sub,x.new,x.pre,x.newρ,fun b o e h1 h2 h3=>x.kept b o e h1 (fun q=>h2 (h _ q)) h3,x.live⟩
theorem Ext.wide {Y:List Addr} (x:Ext C [] w w'):Ext C Y w w':=x.widen (by simp)
theorem Conc.ext {v:V} {x:Value} (c:Conc C w.g w.ρ v x) (e:Ext C X w w'):Conc C w'.g w'.ρ v x:=c.mono e.sub e.pre
theorem Concs.ext {v:List V} {x:List Value} (c:Concs C w.g w.ρ v x) (e:Ext C X w w'):Concs C w'.g w'.ρ v x:=c.mono e.sub e.pre
noncomputable abbrev Wd.at (w:Wd) (hp:Heap) (k:Nat):Wd:=⟨w.g,w.ρ,{w.s with heap:=hp,toks:=k }⟩
noncomputable abbrev Wd.toks (w:Wd) (k:Nat):Wd:=⟨w.g,w.ρ,{w.s with toks:=k }⟩
theorem Ext.toks {k:Nat}:Ext C X w (w.toks k):=⟨.refl _,fun _ _ e=> .inl e,Ql _,fun _ h=> .inl h,fun _ _ e _ _ _=>e,fun _ o e=>⟨o,e⟩⟩
theorem Rep.toks {k:Nat} (R:Rep C w h):Rep C (w.toks k) h:=⟨R.keep,R.len,R.nd,R.off,R.dead,R.obj,R.new,R.os,R.bare,R.top,R.tab,R.offtab⟩
theorem fresh_none {hp:Heap} {a:Addr} (h:hp.objs.size≤a):hp.get? a=none:=by
 cases q:hp.get? a with
 |none=>rfl
 |some o=>exact absurd (Heap.lt_size q) (Nat.not_lt.mpr h)
theorem Rep.off_fresh (R:Rep C w h) {a:Addr} (hn:w.s.heap.get? a=none):w.g a=none∧a∉w.ρ∧a∉C.tabs:=by
 refine⟨?_,fun q=> ?_,fun q=> ?_⟩
 · cases e:w.g a with
   |none=>rfl
   |some o=>rw[R.keep a o e] at hn;cases hn
 · obtain⟨i,hi⟩:=List.getElem?_of_mem q
   refine x_EA (R.obj i a hi) fun o ho _=> ?_
   rw[ho] at hn;cases hn
 ·refine x_EA (R.tab a q) fun o ho _=> ?_;rw[ho] at hn;cases hn
theorem Rep.grow {hp:Heap} {k:Nat} (R:Rep C w h) (hk:∀b o,w.s.heap.get? b=some o→hp.get? b=some o):Rep C (w.at hp k) h where
 keep:=fun a o e=>hk _ _ (R.keep a o e)
 len:=R.len
 nd:=R.nd
 off:=R.off
 dead:=R.dead
 obj:=fun i a h3=>let⟨o,h4,h5⟩:=R.obj i a h3;⟨o,hk _ _ h4,h5⟩
 new:=R.new
 os:=R.os
 bare:=R.bare
 top:=R.top
 tab:=fun a ha=>let⟨o,e,q⟩:=R.tab a ha;⟨o,hk _ _ e,q⟩
 offtab:=R.offtab
theorem Ext.grow {hp:Heap} {k:Nat} (hk:∀b o,w.s.heap.get? b=some o→hp.get? b=some o):Ext C X w (w.at hp k) where
 sub:= .refl _
 new:=fun _ _ e=> .inl e
 pre:=Ql _
 newρ:=fun _ h=> .inl h
 kept:=fun b o e _ _ _=>hk b o e
 live:=fun b o e=>⟨o,hk b o e⟩
theorem Rep.apart {hp:Heap} {k:Nat} {wr:List Addr} (R:Rep C w h) (hk:∀b o,b∉wr→w.s.heap.get? b=some o→hp.get? b=some o) (h1:∀a∈wr,w.g a=none∧a∉w.ρ∧a∉C.tabs):Rep C (w.at hp k) h where
 keep:=fun a o e=>hk a o (fun q=>by rw[(h1 a q).1] at e;cases e) (R.keep a o e)
 len:=R.len
 nd:=R.nd
 off:=R.off
 dead:=R.dead
 obj:=fun i a h3=>let⟨o,h4,h5⟩:=R.obj i a h3;⟨o,hk a o (fun q=>(h1 a q).2.1 (Qa h3)) h4,h5⟩
 new:=R.new
 os:=R.os
 bare:=R.bare
 top:=R.top
 tab:=fun a ha=>let⟨o,e,z⟩:=R.tab a ha;⟨o,hk a o (fun q=>(h1 a q).2.2 ha) e,z⟩
 offtab:=R.offtab
theorem nodup_inj {ρ:List Addr} (h:ρ.Nodup) {i j:Nat} {a:Addr} (hi:ρ[i]? =some a) (hj:ρ[j]? =some a):i=j:=by
 obtain⟨l1,e1⟩:=Qp.mp hi
 obtain⟨l2,e2⟩:=Qp.mp hj
 have e:=e1.trans e2.symm
 rcases Nat.lt_trichotomy i j with q|q|q
 ·exact absurd e (List.pairwise_iff_getElem.mp h i j l1 l2 q)
 ·exact q
 ·exact absurd e.symm (List.pairwise_iff_getElem.mp h j i l2 l1 q)
theorem Rep.change {hp:Heap} {a:Addr} {i k:Nat} {o':Obj} {ao:AO} (R:Rep C w h) (hi:w.ρ[i]? =some a) (hd:h.σ i≠ .dead) (hs:∀b o,b≠a→w.s.heap.get? b=some o→hp.get? b=some o) (ho:hp.get? a=some o') (hr:ObjA C w.g w.ρ o' ao):Rep C (w.at hp k) (h.upd i ao) where
 keep:=fun b o e=>hs b o (fun q=>by subst q;rw[R.off _ _ hi hd] at e;cases e) (R.keep b o e)
 len:=R.len
 nd:=R.nd
 off:=fun j b h1 h2=>by
  by_cases hj:j=i
  ·subst hj;exact R.off j b h1 hd
  ·refine R.off j b h1 ?_;simpa [Hs.upd,hj] using h2
 dead:=fun j hj=>by
  have hl:i<h.nx:=by rw[←R.len];exact(Qp.mp hi).1
  have hj:h.nx≤j:=hj
  have:j≠i:=by exact QE (Qy (by assumption) (by assumption))
  simpa [Hs.upd,this] using R.dead j hj
 obj:=fun j b h1=>by
  by_cases hj:j=i
  · subst hj
    have h1:w.ρ[j]? =some b:=h1
    rw[hi] at h1;cases h1
    exact⟨o',ho,by simpa [Hs.upd] using hr⟩
  · refine x_EA (R.obj j b h1) fun o h4 h5=> ?_
    exact⟨o,hs b o (fun q=>hj (nodup_inj R.nd h1 (q▸hi))) h4,by simpa [Hs.upd,hj] using h5⟩
 new:=R.new
 os:=R.os
 bare:=R.bare
 top:=R.top
 tab:=fun b hb=>let⟨o,e,z⟩:=R.tab b hb;⟨o,hs b o (fun q=>(R.offtab b hb).2 (q▸Qa hi)) e,z⟩
 offtab:=R.offtab
theorem Ext.change {hp:Heap} {a:Addr} {i k:Nat} {o':Obj} (hi:w.ρ[i]? =some a) (hs:∀b o,b≠a→w.s.heap.get? b=some o→hp.get? b=some o) (ho:hp.get? a=some o'):Ext C X w (w.at hp k) where
 sub:= .refl _
 new:=fun _ _ e=> .inl e
 pre:=Ql _
 newρ:=fun _ h=> .inl h
 kept:=fun b o e h1 _ _=>hs b o (fun q=>h1 (q▸Qa hi)) e
 live:=fun b o e=>by
  by_cases hb:b=a
  ·subst hb;exact⟨o',ho⟩
  ·exact⟨o,hs b o hb e⟩
noncomputable def gset (g:G) (a:Addr) (o:Obj):G:=fun b=>if b=a then some o else g b
theorem gset_self {g:G} {a:Addr} {o:Obj}:gset g a o a=some o:=if_pos rfl
theorem gset_sub {g:G} {a:Addr} {o:Obj} (h:g a=none):Sub g (gset g a o):=fun b x e=>by
 unfold gset;rw[if_neg (fun q=>by subst q;rw[h] at e;cases e)];exact e
theorem push_keeps {h:Heap} {o:Obj}:∀b x,h.get? b=some x→(h.push o).get? b=some x:=fun _ _ e=>Qd o e
noncomputable abbrev Wd.frz (w:Wd) (a:Addr) (o:Obj) (hp:Heap) (k:Nat):Wd:=⟨gset w.g a o,w.ρ,{w.s with heap:=hp,toks:=k }⟩
theorem Rep.frozen {hp:Heap} {a:Addr} {o:Obj} {k:Nat} (R:Rep C w h) (hn:w.s.heap.get? a=none) (hk:∀b x,w.s.heap.get? b=some x→hp.get? b=some x) (ho:hp.get? a=some o):Rep C (w.frz a o hp k) h:=by
 have off:=R.off_fresh hn
 have hs:=gset_sub (o:=o) off.1
 refine⟨fun b x e=> ?_,R.len,R.nd,fun i b h1 h2=> ?_,R.dead,fun i b h1=> ?_,R.new,R.os,R.bare,fun b x e ht=>hs _ _ (R.top b x e ht),fun b hb=>let⟨x,e,z⟩:=R.tab b hb;⟨x,hk _ _ e,z.mono hs⟩,fun b hb=>⟨?_,(R.offtab b hb).2⟩⟩
 · have e:gset w.g a o b=some x:=e
   unfold gset at e
   split at e
   ·rename_i q;cases e;rw[q];exact ho
   ·exact hk _ _ (R.keep b x e)
 · show gset w.g a o b=none
   unfold gset
   rw[if_neg (fun q:b=a=>off.2.1 (q▸Qa h1))];exact R.off i b h1 h2
 · refine x_EA (R.obj i b h1) fun x h4 h5=> ?_
   exact⟨x,hk _ _ h4,h5.mono hs (Ql _)⟩
 · show gset w.g a o b=none
   unfold gset
   rw[if_neg (fun q:b=a=>off.2.2 (q▸hb))];exact(R.offtab b hb).1
theorem Ext.frozen {hp:Heap} {a:Addr} {o:Obj} {k:Nat} (R:Rep C w h) (hn:w.s.heap.get? a=none) (hk:∀b x,w.s.heap.get? b=some x→hp.get? b=some x):Ext C X w (w.frz a o hp k) where
 sub:=gset_sub (R.off_fresh hn).1
 new:=fun b x e=>by
  have e:gset w.g a o b=some x:=e
  unfold gset at e
  split at e
  ·rename_i q;right;left;rw[q];exact hn
  ·exact .inl e
 pre:=Ql _
 newρ:=fun _ h=> .inl h
 kept:=fun b x e _ _ _=>hk b x e
 live:=fun b x e=>⟨x,hk b x e⟩
noncomputable abbrev Wd.more (w:Wd) (a:Addr) (hp:Heap) (k:Nat):Wd:=⟨w.g,w.ρ++[a],{w.s with heap:=hp,toks:=k }⟩
theorem Rep.fresh {hp:Heap} {a:Addr} {o:Obj} {k:Nat} {ao:AO} (R:Rep C w h) (hn:w.s.heap.get? a=none) (hk:∀b x,w.s.heap.get? b=some x→hp.get? b=some x) (ho:hp.get? a=some o) (hA:ObjA C w.g (w.ρ++[a]) o ao) (h0:C.h₀.get? a=none):Rep C (w.more a hp k) (h.new ao):=by
 have off:=R.off_fresh hn
 refine⟨fun b x e=>hk _ _ (R.keep b x e),by show(w.ρ++[a]).length=h.nx+1;simp[R.len], ?_,fun i b h1 h2=> ?_,fun i hi=> ?_,fun i b h1=> ?_,fun b hb=> ?_,R.os,R.bare,R.top,fun b hb=>let⟨x,e,z⟩:=R.tab b hb;⟨x,hk _ _ e,z⟩,fun b hb=>⟨(R.offtab b hb).1,fun q=> ?_⟩⟩
 ·exact List.nodup_append.mpr ⟨R.nd,by simp,fun b hb c hc=>by rw[Qs.mp hc];intro q;exact off.2.1 (q▸hb)⟩
 · have h1:(w.ρ++[a])[i]? =some b:=h1
   by_cases hi:i<w.ρ.length
   · rw[List.getElem?_append_left hi] at h1
     refine R.off i b h1 ?_
     have:i≠h.nx:=Qg (R.len▸hi)
     simpa [Hs.new,this] using h2
   · rw[List.getElem?_append_right (Nat.le_of_not_lt hi)] at h1
     have hb:b=a:=by
      cases q:i-w.ρ.length with
      |zero=>rw[q] at h1;simpa using h1.symm
      |succ m=>rw[q] at h1;simp at h1
     rw[hb];exact off.1
 · have hi:h.nx+1≤i:=hi
   have:i≠h.nx:=QE hi
   simpa [Hs.new,this] using R.dead i (We hi)
 · have h1:(w.ρ++[a])[i]? =some b:=h1
   by_cases hi:i<w.ρ.length
   · rw[List.getElem?_append_left hi] at h1
     refine x_EA (R.obj i b h1) fun x h4 h5=> ?_
     have:i≠h.nx:=Qg (R.len▸hi)
     exact⟨x,hk _ _ h4,by simpa [Hs.new,this] using h5.mono (.refl _) (List.prefix_append _ _)⟩
   · rw[List.getElem?_append_right (Nat.le_of_not_lt hi)] at h1
     have h0:i-w.ρ.length=0:=by
      cases q:i-w.ρ.length with
      |zero=>rfl
      |succ m=>rw[q] at h1;simp at h1
     have hi':i=h.nx:=(Nat.le_antisymm (Nat.le_of_sub_eq_zero h0) (Nat.le_of_not_lt hi)).trans R.len
     rw[h0] at h1
     cases h1
     exact⟨o,ho,by simpa [Hs.new,hi'] using hA⟩
 · have hb:b∈w.ρ++[a]:=hb
   rcases List.mem_append.mp hb with q|q
   ·exact R.new b q
   ·rw[Qs.mp q];exact h0
 · have q:b∈w.ρ++[a]:=q
   rcases List.mem_append.mp q with q|q
   ·exact(R.offtab b hb).2 q
   ·exact off.2.2 (Qs.mp q▸hb)
theorem Ext.fresh {hp:Heap} {a:Addr} {k:Nat} (hn:w.s.heap.get? a=none) (hk:∀b x,w.s.heap.get? b=some x→hp.get? b=some x):Ext C X w (w.more a hp k) where
 sub:= .refl _
 new:=fun _ _ e=> .inl e
 pre:=List.prefix_append _ _
 newρ:=fun b h=>(List.mem_append.mp h).imp id fun q=>by rw[Qs.mp q];exact hn
 kept:=fun b x e _ _ _=>hk b x e
 live:=fun b x e=>⟨x,hk b x e⟩
theorem Rep.more_at (R:Rep C w h) {a:Addr}:(w.ρ++[a])[h.nx]? =some a:=by rw[←R.len];simp
theorem Rep.fresh0 (R:Rep C w h) {a:Addr} (hn:w.s.heap.get? a=none):C.h₀.get? a=none:=by
 cases q:C.h₀.get? a with
 |none=>rfl
 |some o =>
  by_cases ht:a∈C.tabs
  ·refine x_EA (R.tab a ht) fun x hx _=> ?_;rw[hn] at hx;cases hx
  ·rw[R.keep _ _ (R.top a o q ht)] at hn;cases hn
noncomputable def AO.le:AO→AO→Prop
 |_, .dead=>True
 | .dictE _ kvs, .dict kvs'=>kvs=kvs'
 | .setO _ ks, .set ks'=>ks=ks'
 |x,y=>x=y
theorem AO.le_refl (x:AO):x.le x:=by cases x<;>simp[AO.le]
set_option tactic.hygienic true in
theorem ObjA.le {g:G} {ρ:List Addr} {o:Obj} {x y:AO} (R:ObjA C g ρ o x) (l:x.le y):ObjA C g ρ o y:=by
 cases y with
 |dead=>trivial
 |dict kvs =>
  cases x<;>simp only[AO.le] at l
  case dictE ep kvs'=>subst l;refine x_EA R fun k _ r=> ?_;exact⟨k,r⟩
  all_goals first|(cases l;done)|(cases l;exact R)
 |set ks =>
  cases x<;>simp only[AO.le] at l
  case setO o' ks'=>subst l;exact R.2
  all_goals first|(cases l;done)|(cases l;exact R)
 |_=>cases x<;>simp only[AO.le] at l<;>first|(cases l;done)|(cases l;exact R)
noncomputable def Hs.Le (h h':Hs):Prop:=h.nx=h'.nx∧∀i,(h.σ i).le (h'.σ i)
theorem AO.le_dead {x y:AO} (l:x.le y) (hy:y≠ .dead):x≠ .dead:=by
 intro q;subst q;cases y<;>simp_all [AO.le]
theorem Rep.weaken (R:Rep C w h) (l:h.Le h'):Rep C w h' where
 keep:=R.keep
 len:=R.len.trans l.1
 nd:=R.nd
 off:=fun i a h1 h2=>R.off i a h1 (AO.le_dead (l.2 i) h2)
 dead:=fun i hi=>by
  have h1:=l.2 i
  rw[R.dead i (by rw[l.1];exact hi)] at h1
  revert h1
  cases h'.σ i<;>simp[AO.le]
 obj:=fun i a h1=>let⟨o,h2,h3⟩:=R.obj i a h1;⟨o,h2,h3.le (l.2 i)⟩
 new:=R.new
 os:=R.os
 bare:=R.bare
 top:=R.top
 tab:=R.tab
 offtab:=R.offtab
end
noncomputable abbrev Loc:=List (Str × V)
structure Fr where
 env:Env
 cel:List (Str × Nat)
structure Frm (C:Cx) (w:Wd) (F:Fr) (loc:Loc):Prop where
 ns:∃m,w.s.heap.Ns F.env.locals m∧∀x v,loc.lookup x=some v→∃y,m x=some y∧Conc C w.g w.ρ v y
 off:w.g F.env.locals=none
 offρ:F.env.locals∉w.ρ
 offt:F.env.locals∉C.tabs
 cells:∀x i,F.cel.lookup x=some i→∃a,F.env.cells.lookup x=some a∧w.ρ[i]? =some a
 kind:F.env.scope.kind= .function
 globals:F.env.globals=Wy
 blt:F.env.builtins=builtinsNs
theorem Frm.ext {C:Cx} {X:List Addr} {w w':Wd} {F:Fr} {loc:Loc} (f:Frm C w F loc) (e:Ext C X w w') (hX:F.env.locals∉X):Frm C w' F loc:=by
 refine x_EA f.ns fun m z24 hm=> ?_;obtain⟨o,es,ep,ho,r⟩:=z24
 refine⟨⟨m,⟨o,es,ep,e.kept _ _ ho f.offρ hX f.offt,r⟩,fun x v hx=> ?_⟩, ?_, ?_,f.offt,fun x i hx=> ?_,f.kind,f.globals,f.blt⟩
 · refine x_EA (hm x v hx) fun y h1 h2=> ?_
   exact⟨y,h1,h2.ext e⟩
 · cases q:w'.g F.env.locals with
   |none=>rfl
   |some o' =>
    rcases e.new _ _ q with h|h|h
    ·rw[f.off] at h;cases h
    ·rw[ho] at h;cases h
    ·exact absurd h f.offρ
 · intro q
   rcases e.newρ _ q with h|h
   ·exact f.offρ h
   ·rw[ho] at h;cases h
 · refine x_EA (f.cells x i hx) fun a h1 h2=> ?_
   exact⟨a,h1,pre_get e.pre h2⟩
theorem Frm.ext0 {C:Cx} {w w':Wd} {F:Fr} {loc:Loc} (f:Frm C w F loc) (e:Ext C [] w w'):Frm C w' F loc:=f.ext e (by simp)
theorem Frm.live {C:Cx} {w:Wd} {F:Fr} {loc:Loc} (f:Frm C w F loc):∃o,w.s.heap.get? F.env.locals=some o:=let⟨_,⟨o,_,_,ho,_⟩,_⟩:=f.ns;⟨o,ho⟩
structure AOk (A:Around) (n:Nat):Prop where
 handled:A.handled=none
 depth:A.depth+4*n<recursionLimit
 units:A.units+40*n<cLine
structure Ev (C:Cx) (n:Nat) (F:Fr) (loc:Loc) (h:Hs) (e:Expr) (Q:V→Hs→Prop):Prop where
 run:∀(A:Around) (w:Wd) (Q':Value→Shared→Prop) (E:Value→Shared→Prop),AOk A n→Rep C w h→Frm C w F loc →
  (∀(x:Value) (v:V) (h':Hs) (w':Wd),Q v h'→Ext C [] w w'→Rep C w' h'→Conc C w'.g w'.ρ v x→Q' x w'.s)→wpAny C.M A (eval e F.env) Q' E w.s
structure EvB (C:Cx) (n:Nat) (F:Fr) (loc:Loc) (h:Hs) (e:Expr) (Q:Bool→Hs→Prop):Prop where
 run:∀(A:Around) (w:Wd) (Q':Bool→Shared→Prop) (E:Value→Shared→Prop),AOk A n→Rep C w h→Frm C w F loc →
  (∀(b:Bool) (h':Hs) (w':Wd),Q b h'→Ext C [] w w'→Rep C w' h'→Q' b w'.s)→wpAny C.M A (isTrue e F.env (eval e F.env)) Q' E w.s
structure Op1 (C:Cx) (n:Nat) (f:Value→Sem Value) (h:Hs) (a:V) (Q:V→Hs→Prop):Prop where
 run:∀(A:Around) (w:Wd) (Q':Value→Shared→Prop) (E:Value→Shared→Prop) (x:Value),AOk A n→Rep C w h→Conc C w.g w.ρ a x →
  (∀(r:Value) (v:V) (h':Hs) (w':Wd),Q v h'→Ext C [] w w'→Rep C w' h'→Conc C w'.g w'.ρ v r→Q' r w'.s)→wpAny C.M A (f x) Q' E w.s
structure Op2 (C:Cx) (n:Nat) (f:Value→Value→Sem Value) (h:Hs) (a b:V) (Q:V→Hs→Prop):Prop where
 run:∀(A:Around) (w:Wd) (Q':Value→Shared→Prop) (E:Value→Shared→Prop) (x y:Value),AOk A n→Rep C w h→Conc C w.g w.ρ a x→Conc C w.g w.ρ b y →
  (∀(r:Value) (v:V) (h':Hs) (w':Wd),Q v h'→Ext C [] w w'→Rep C w' h'→Conc C w'.g w'.ρ v r→Q' r w'.s)→wpAny C.M A (f x y) Q' E w.s
structure Up2 (C:Cx) (n:Nat) (f:Value→Value→Sem Unit) (h:Hs) (a b:V) (Q:Hs→Prop):Prop where
 run:∀(A:Around) (w:Wd) (Q':Unit→Shared→Prop) (E:Value→Shared→Prop) (x y:Value),AOk A n→Rep C w h→Conc C w.g w.ρ a x→Conc C w.g w.ρ b y →
  (∀(h':Hs) (w':Wd),Q h'→Ext C [] w w'→Rep C w' h'→Q' () w'.s)→wpAny C.M A (f x y) Q' E w.s
structure Up3 (C:Cx) (n:Nat) (f:Value→Value→Value→Sem Unit) (h:Hs) (a b c:V) (Q:Hs→Prop):Prop where
 run:∀(A:Around) (w:Wd) (Q':Unit→Shared→Prop) (E:Value→Shared→Prop) (x y z:Value),AOk A n→Rep C w h→Conc C w.g w.ρ a x→Conc C w.g w.ρ b y→Conc C w.g w.ρ c z →
  (∀(h':Hs) (w':Wd),Q h'→Ext C [] w w'→Rep C w' h'→Q' () w'.s)→wpAny C.M A (f x y z) Q' E w.s
structure Tru (C:Cx) (n:Nat) (h:Hs) (a:V) (Q:Bool→Hs→Prop):Prop where
 run:∀(A:Around) (w:Wd) (Q':Bool→Shared→Prop) (E:Value→Shared→Prop) (x:Value),AOk A n→Rep C w h→Conc C w.g w.ρ a x →
  (∀(b:Bool) (h':Hs) (w':Wd),Q b h'→Ext C [] w w'→Rep C w' h'→Q' b w'.s)→wpAny C.M A (truthy x) Q' E w.s
inductive Fl where
 |next|brk|cont|ret (v:V)
inductive ConcF (C:Cx) (w:Wd):Fl→Flow→Prop
 |next:ConcF C w .next .next
 |brk:ConcF C w .brk .brk
 |cont:ConcF C w .cont .cont
 |ret {v:V} {x:Value}:Conc C w.g w.ρ v x→ConcF C w (.ret v) (.ret x)
structure Ex (C:Cx) (n:Nat) (F:Fr) (loc:Loc) (h:Hs) (st:Stmt) (Q:Fl→Loc→Hs→Prop):Prop where
 run:∀(A:Around) (w:Wd) (Q':Flow→Shared→Prop) (E:Value→Shared→Prop),AOk A n→Rep C w h→Frm C w F loc →
  (∀(f:Flow) (fl:Fl) (loc':Loc) (h':Hs) (w':Wd),Q fl loc' h'→Ext C [F.env.locals] w w'→Rep C w' h'→Frm C w' F loc'→ConcF C w' fl f→Q' f w'.s)→wpAny C.M A (exec st F.env) Q' E w.s
structure Exs (C:Cx) (n:Nat) (F:Fr) (loc:Loc) (h:Hs) (sts:List Stmt) (Q:Fl→Loc→Hs→Prop):Prop where
 run:∀(A:Around) (w:Wd) (Q':Flow→Shared→Prop) (E:Value→Shared→Prop),AOk A n→Rep C w h→Frm C w F loc →
  (∀(f:Flow) (fl:Fl) (loc':Loc) (h':Hs) (w':Wd),Q fl loc' h'→Ext C [F.env.locals] w w'→Rep C w' h'→Frm C w' F loc'→ConcF C w' fl f→Q' f w'.s)→wpAny C.M A (execs sts F.env) Q' E w.s
structure As (C:Cx) (n:Nat) (F:Fr) (loc:Loc) (h:Hs) (t:Expr) (v:V) (Q:Loc→Hs→Prop):Prop where
 run:∀(A:Around) (w:Wd) (Q':Unit→Shared→Prop) (E:Value→Shared→Prop) (x:Value),AOk A n→Rep C w h→Frm C w F loc→Conc C w.g w.ρ v x →
  (∀(loc':Loc) (h':Hs) (w':Wd),Q loc' h'→Ext C [F.env.locals] w w'→Rep C w' h'→Frm C w' F loc'→Q' () w'.s)→wpAny C.M A (assign t F.env x) Q' E w.s
section
variable {C:Cx} {n:Nat} {F:Fr} {loc:Loc} {h:Hs} {Q:V→Hs→Prop} {QB:Bool→Hs→Prop} {QF:Fl→Loc→Hs→Prop} {QL:Loc→Hs→Prop} {QU:Hs→Prop}
theorem Ev.mono {e:Expr} {Q₀:V→Hs→Prop} (H:Ev C n F loc h e Q₀) (k:∀v h',Q₀ v h'→Q v h'):Ev C n F loc h e Q :=
 ⟨fun A w Q' E a R f c=>H.run A w Q' E a R f fun x v h' w' q=>c x v h' w' (k _ _ q)⟩
theorem EvB.mono {e:Expr} {Q₀:Bool→Hs→Prop} (H:EvB C n F loc h e Q₀) (k:∀v h',Q₀ v h'→QB v h'):EvB C n F loc h e QB :=
 ⟨fun A w Q' E a R f c=>H.run A w Q' E a R f fun b h' w' q=>c b h' w' (k _ _ q)⟩
theorem Exs.mono {e:List Stmt} {Q₀:Fl→Loc→Hs→Prop} (H:Exs C n F loc h e Q₀) (k:∀f l h',Q₀ f l h'→QF f l h'):Exs C n F loc h e QF :=
 ⟨fun A w Q' E a R f c=>H.run A w Q' E a R f fun x v l h' w' q=>c x v l h' w' (k _ _ _ q)⟩
theorem Ev.weak {e:Expr} (H:Ev C n F loc h e fun v h'=>∃h'',h'.Le h''∧Q v h''):Ev C n F loc h e Q :=
 ⟨fun A w Q' E a R f c=>H.run A w Q' E a R f fun x v h' w' ⟨h'',le,q⟩ e' R'=>c x v h'' w' q e' (R'.weaken le)⟩
theorem Frm.sub {w:Wd} {l:Loc} (f:Frm C w F loc) (hl:∀x v,l.lookup x=some v→loc.lookup x=some v):Frm C w F l:=by
 refine x_EA f.ns fun m a b=> ?_
 exact⟨⟨m,a,fun x v e=>b x v (hl x v e)⟩,f.off,f.offρ,f.offt,f.cells,f.kind,f.globals,f.blt⟩
theorem ev_int {i:Int} {k:Nat} {p:Pos} (q:Q (.int i) h):Ev C n F loc h (.Constant (.int i) k p) Q:=⟨fun A w Q' E _ R f c=>wpAny_Constant_int (c _ _ _ (w.toks _) q .toks R.toks (.int i _))⟩
theorem ev_none {k:Nat} {p:Pos} (q:Q .none h):Ev C n F loc h (.Constant .none k p) Q:=⟨fun A w Q' E _ R f c=>wpAny_Constant_none (c _ _ _ w q .refl R .none)⟩
theorem ev_str {x:Str} {k:Nat} {p:Pos} (q:Q (.str x) h):Ev C n F loc h (.Constant (.str x) k p) Q:=⟨fun A w Q' E _ R f c=>wpAny_Constant_str (c _ _ _ (w.toks _) q .toks R.toks (.str x _))⟩
theorem ev_local {x:Str} {p:Pos} {v:V} (hk:F.env.kindOf x=some .local) (hl:loc.lookup x=some v) (q:Q v h) (hd:autoParam ((x==("__debug__" : Str))=false) aD):Ev C n F loc h (.Name x p) Q:=⟨fun A w Q' E _ R f c=>by
 refine x_EA f.ns fun m hn hm=> ?_
 refine x_EA (hm x v hl) fun y h1 h2=> ?_
 exact wpAny_Name (wpAny_loadName_local f.kind hk hn h1 (c y v h w q .refl R h2)) hd⟩
theorem ev_bin {l r:Expr} {op:Operator} {p:Pos} (H:Ev C n F loc h l fun a h1=>Ev C n F loc h1 r fun b h2=>Op2 C n (binaryOp op) h2 a b Q):Ev C n F loc h (.BinOp l op r p) Q:=⟨fun A w Q' E a0 R f c =>
 wpAny_BinOp (H.run A w _ _ a0 R f fun x a h1 w1 q1 e1 R1 c1=>q1.run A w1 _ _ a0 R1 (f.ext0 e1) fun y b h2 w2 q2 e2 R2 c2 =>
  q2.run A w2 _ _ x y a0 R2 (c1.ext e2) c2 fun z v h3 w3 q3 e3 R3 c3=>c z v h3 w3 q3 (e1.trans (e2.trans e3)) R3 c3)⟩
theorem ev_cmp {l r:Expr} {op:CmpOp} {p:Pos} (H:Ev C n F loc h l fun a h1=>Ev C n F loc h1 r fun b h2=>Op2 C n (QQ op) h2 a b Q) (hm:autoParam (behindInMarks op r=false) aW):Ev C n F loc h (.Compare l [op] [r] p) Q:=⟨fun A w Q' E a0 R f c =>
 wpAny_Compare1 (H.run A w _ _ a0 R f fun x a h1 w1 q1 e1 R1 c1=>q1.run A w1 _ _ a0 R1 (f.ext0 e1) fun y b h2 w2 q2 e2 R2 c2 =>
  q2.run A w2 _ _ x y a0 R2 (c1.ext e2) c2 fun z v h3 w3 q3 e3 R3 c3=>c z v h3 w3 q3 (e1.trans (e2.trans e3)) R3 c3) hm⟩
theorem ev_unary {x:Expr} {op:UnaryOp} {p:Pos} (H:Ev C n F loc h x fun a h1=>Op1 C n (unaryOp op) h1 a Q):Ev C n F loc h (.UnaryOp op x p) Q:=⟨fun A w Q' E a0 R f c =>
 wpAny_UnaryOp (H.run A w _ _ a0 R f fun x a h1 w1 q1 e1 R1 c1=>q1.run A w1 _ _ x a0 R1 c1 fun z v h3 w3 q3 e3 R3 c3=>c z v h3 w3 q3 (e1.trans e3) R3 c3)⟩
theorem ev_ifexp {t a b:Expr} {p:Pos} (H:EvB C n F loc h t fun c h1=>if c then Ev C n F loc h1 a Q else Ev C n F loc h1 b Q):Ev C n F loc h (.IfExp t a b p) Q:=⟨fun A w Q' E a0 R f c =>
 wpAny_IfExp (H.run A w _ _ a0 R f fun x h1 w1 q1 e1 R1=>by
  cases x
  ·exact q1.run A w1 _ _ a0 R1 (f.ext0 e1) fun y b h2 w2 q2 e2 R2 c2=>c y b h2 w2 q2 (e1.trans e2) R2 c2
  ·exact q1.run A w1 _ _ a0 R1 (f.ext0 e1) fun y b h2 w2 q2 e2 R2 c2=>c y b h2 w2 q2 (e1.trans e2) R2 c2)⟩
theorem evB_value {e:Expr} (H:Ev C n F loc h e fun v h1=>Tru C n h1 v QB) (he:autoParam (∀whole,isTrue e F.env whole=(do let v ←whole;standAt e.pos;holding [v] (truthy v))) aI):EvB C n F loc h e QB:=⟨fun A w Q' E a0 R f c =>
 wpAny_isTrue_value (H.run A w _ _ a0 R f fun x v h1 w1 q1 e1 R1 c1=>q1.run A w1 _ _ x a0 R1 c1 fun b h2 w2 q2 e2 R2=>c b h2 w2 q2 (e1.trans e2) R2) (he _)⟩
theorem evB_cmp {l r:Expr} {op:CmpOp} {p:Pos} (H:Ev C n F loc h l fun a h1=>Ev C n F loc h1 r fun b h2=>Op2 C n (QQ op) h2 a b fun v h3=>Tru C n h3 v QB) (hm:autoParam (behindInMarks op r=false) aW):EvB C n F loc h (.Compare l [op] [r] p) QB:=⟨fun A w Q' E a0 R f c =>
 wpAny_isTrue_Compare1 (H.run A w _ _ a0 R f fun x a h1 w1 q1 e1 R1 c1=>q1.run A w1 _ _ a0 R1 (f.ext0 e1) fun y b h2 w2 q2 e2 R2 c2 =>
  q2.run A w2 _ _ x y a0 R2 (c1.ext e2) c2 fun z v h3 w3 q3 e3 R3 c3=>q3.run A w3 _ _ z a0 R3 c3 fun b h4 w4 q4 e4 R4=>c b h4 w4 q4 (e1.trans (e2.trans (e3.trans e4))) R4) hm⟩
theorem evB_not {x:Expr} {p:Pos} (H:EvB C n F loc h x fun b h1=>QB (!b) h1):EvB C n F loc h (.UnaryOp .Not x p) QB:=⟨fun A w Q' E a0 R f c =>
 wpAny_isTrue_Not (H.run A w _ _ a0 R f fun b h1 w1 q1 e1 R1=>c _ h1 w1 q1 e1 R1)⟩
theorem evB_and_nil {p:Pos} (q:QB true h):EvB C n F loc h (.BoolOp .And [] p) QB:=⟨fun A w Q' E a0 R f c=>isTrue_and_nil (c _ h w q .refl R)⟩
theorem evB_and {x:Expr} {r:List Expr} {p:Pos} (H:EvB C n F loc h x fun b h1=>if b then EvB C n F loc h1 (.BoolOp .And r p) QB else QB false h1):EvB C n F loc h (.BoolOp .And (x::r) p) QB:=⟨fun A w Q' E a0 R f c =>
 isTrue_and (H.run A w _ _ a0 R f fun b h1 w1 q1 e1 R1=>by
  cases b
  ·exact c _ h1 w1 q1 e1 R1
  ·exact q1.run A w1 _ _ a0 R1 (f.ext0 e1) fun b h2 w2 q2 e2 R2=>c b h2 w2 q2 (e1.trans e2) R2)⟩
theorem evB_or_nil {p:Pos} (q:QB false h):EvB C n F loc h (.BoolOp .Or [] p) QB:=⟨fun A w Q' E a0 R f c=>isTrue_or_nil (c _ h w q .refl R)⟩
theorem evB_or {x:Expr} {r:List Expr} {p:Pos} (H:EvB C n F loc h x fun b h1=>if b then QB true h1 else EvB C n F loc h1 (.BoolOp .Or r p) QB):EvB C n F loc h (.BoolOp .Or (x::r) p) QB:=⟨fun A w Q' E a0 R f c =>
 isTrue_or (H.run A w _ _ a0 R f fun b h1 w1 q1 e1 R1=>by
  cases b
  ·exact q1.run A w1 _ _ a0 R1 (f.ext0 e1) fun b h2 w2 q2 e2 R2=>c b h2 w2 q2 (e1.trans e2) R2
  ·exact c _ h1 w1 q1 e1 R1)⟩
theorem tru_bool {b:Bool} (q:QB b h):Tru C n h (.bool b) QB:=⟨fun A w Q' E x a0 R c k=>by refine eqE c.toInv ?_;exact wpAny_truthy_bool (k b h w q .refl R)⟩
theorem tru_int {a:Int} (q:QB (a != 0) h):Tru C n h (.int a) QB:=⟨fun A w Q' E x a0 R c k=>by refine c.eInt fun _=> ?_;exact truthy_int (k _ h w q .refl R)⟩
theorem exs_nil (q:QF .next loc h):Exs C n F loc h [] QF:=⟨fun A w Q' E a0 R f c=>wpAny_execs_nil (c _ _ _ h w q .refl R f .next)⟩
theorem exs_cons {st:Stmt} {rest:List Stmt} (H:Ex C n F loc h st fun fl loc1 h1=>match fl with | .next=>Exs C n F loc1 h1 rest QF|fl=>QF fl loc1 h1):Exs C n F loc h (st::rest) QF:=⟨fun A w Q' E a0 R f c =>
 wpAny_execs_cons (H.run A w _ _ a0 R f fun fl' fl l1 h1 w1 q1 e1 R1 f1 c1=>by
  cases c1 with
  |next=>exact q1.run A w1 _ _ a0 R1 f1 fun fl' fl l2 h2 w2 q2 e2 R2 f2 c2=>c fl' fl l2 h2 w2 q2 (e1.trans e2) R2 f2 c2
  |brk=>exact c _ _ l1 h1 w1 q1 e1 R1 f1 .brk
  |cont=>exact c _ _ l1 h1 w1 q1 e1 R1 f1 .cont
  |ret cx=>exact c _ _ l1 h1 w1 q1 e1 R1 f1 (.ret cx))⟩
theorem ex_if {t:Expr} {b o:List Stmt} {p:Pos} (H:EvB C n F loc h t fun c h1=>if c then Exs C n F loc h1 b QF else Exs C n F loc h1 o QF):Ex C n F loc h (.If t b o p) QF:=⟨fun A w Q' E a0 R f c =>
 wpAny_If (H.run A w _ _ a0 R f fun x h1 w1 q1 e1 R1=>by
  cases x
  ·exact q1.run A w1 _ _ a0 R1 (f.ext0 e1) fun fl' fl l2 h2 w2 q2 e2 R2 f2 c2=>c fl' fl l2 h2 w2 q2 (e1.wide.trans e2) R2 f2 c2
  ·exact q1.run A w1 _ _ a0 R1 (f.ext0 e1) fun fl' fl l2 h2 w2 q2 e2 R2 f2 c2=>c fl' fl l2 h2 w2 q2 (e1.wide.trans e2) R2 f2 c2)⟩
theorem ex_return {e:Expr} {p:Pos} (H:Ev C n F loc h e fun v h1=>QF (.ret v) loc h1):Ex C n F loc h (.Return (some e) p) QF:=⟨fun A w Q' E a0 R f c =>
 wpAny_Return_some (H.run A w _ _ a0 R f fun x v h1 w1 q1 e1 R1 c1=>c _ _ loc h1 w1 q1 e1.wide R1 (f.ext0 e1) (.ret c1))⟩
theorem ex_break {p:Pos} (q:QF .brk loc h):Ex C n F loc h (.Break p) QF:=⟨fun A w Q' E a0 R f c=>wpAny_Break (c _ _ loc h w q .refl R f .brk)⟩
theorem ex_continue {p:Pos} (q:QF .cont loc h):Ex C n F loc h (.Continue p) QF:=⟨fun A w Q' E a0 R f c=>wpAny_Continue (c _ _ loc h w q .refl R f .cont)⟩
theorem ex_expr {e:Expr} {p:Pos} (H:Ev C n F loc h e fun v h1=>QF .next loc h1) (hi:autoParam (interactive F.env=false) aR) (hs:autoParam (swapsWith e none p.line F.env=pure false) aR):Ex C n F loc h (.Expr e p) QF:=⟨fun A w Q' E a0 R f c =>
 wpAny_Expr_any (H.run A w _ _ a0 R f fun x v h1 w1 q1 e1 R1 c1=>c _ _ loc h1 w1 q1 e1.wide R1 (f.ext0 e1) .next) hi hs⟩
noncomputable def upd (x:Str) (v:V):Loc→Loc
 |[]=>[(x,v)]
 |(y,u)::r=>if y=x then(x,v)::r else(y,u)::upd x v r
theorem lookup_upd {x y:Str} {v:V}:∀{l:Loc},(upd x v l).lookup y=if y=x then some v else l.lookup y
 |[]=>by
  by_cases h:y=x
  ·subst h;simp[upd]
  ·simp only[upd,List.lookup_cons,beq_eq_false_iff_ne.mpr h,if_neg h]
 |(z,u)::r=>by
  unfold upd
  by_cases hz:z=x
  · subst hz
    rw[if_pos rfl]
    by_cases h:y=z
    ·subst h;simp
    ·simp only[List.lookup_cons,beq_eq_false_iff_ne.mpr h,if_neg h]
  · rw[if_neg hz]
    by_cases h:y=z
    ·subst h;simp[hz]
    · simp only[List.lookup_cons,beq_eq_false_iff_ne.mpr h]
      exact lookup_upd
theorem store_local {w:Wd} {x:Str} {v:V} {y:Value} {A:Around} {Q':Unit→Shared→Prop} {E:Value→Shared→Prop} (R:Rep C w h) (f:Frm C w F loc) (c:Conc C w.g w.ρ v y) (hk:F.env.kindOf x=some .local)
 (k:∀w',Ext C [F.env.locals] w w'→Rep C w' h→Frm C w' F (upd x v loc)→Q' () w'.s):wpAny C.M A (storeName F.env x y) Q' E w.s:=by
 refine x_EA f.ns fun m hn hm=> ?_
 refine wpAny_storeName_local hk hn (fun h' hn' hs=>k (w.at h' _) ?_ (R.apart (wr:=[F.env.locals]) (fun b o hb e=>(hs.2 b (by simpa using hb)).trans e) (by simp;exact⟨f.off,f.offρ,f.offt⟩)) ?_) (by rw[f.kind];rfl)
 · refine x_EEEA hn' fun o' _ _ ho' _=> ?_
   refine⟨.refl _,fun _ _ e=> .inl e,Ql _,fun _ h=> .inl h,fun b o e h1 h2 h3=>(hs.2 b (by simpa using h2)).trans e,fun b o e=> ?_⟩
   by_cases hb:b=F.env.locals
   ·exact⟨o',hb▸ho'⟩
   ·exact⟨o,(hs.2 b hb).trans e⟩
 · refine⟨⟨_,hn',fun z u hz=> ?_⟩,f.off,f.offρ,f.offt,f.cells,f.kind,f.globals,f.blt⟩
   rw[lookup_upd] at hz
   by_cases e:z=x
   ·rw[if_pos e] at hz;cases hz;exact⟨y,if_pos e,c⟩
   ·rw[if_neg e] at hz;refine x_EA (hm z u hz) fun w' h1 h2=> ?_;exact⟨w',(if_neg e).trans h1,h2⟩
theorem as_local {x:Str} {p:Pos} {v:V} (hk:F.env.kindOf x=some .local) (q:QL (upd x v loc) h):As C n F loc h (.Name x p) v QL:=⟨fun A w Q' E y a0 R f c k =>
 wpAny_assign_Name (store_local R f c hk fun w' e' R' f'=>k _ h w' q e' R' f')⟩
theorem ex_assign {t e:Expr} {p:Pos} (H:Ev C n F loc h e fun v h1=>As C n F loc h1 t v fun loc2 h2=>QF .next loc2 h2) (hs:autoParam (swapsWith e (some t) p.line F.env=pure false) aR) (hw:autoParam (swappedStores [t] e F.env=pure none) aR) (he:autoParam ((assignEach [t] F.env).map (·.2)=[assign t F.env]) aR) :
 Ex C n F loc h (.Assign [t] e p) QF:=⟨fun A w Q' E a0 R f c =>
 wpAny_Assign_stores (H.run A w _ _ a0 R f fun x v h1 w1 q1 e1 R1 c1=>by
  rw[he]
  exact q1.run A w1 _ _ x a0 R1 (f.ext0 e1) c1 fun l2 h2 w2 q2 e2 R2 f2=>c _ _ l2 h2 w2 q2 (e1.wide.trans e2) R2 f2 .next) hs hw⟩
theorem ex_assign2 {t u e:Expr} {p:Pos} (H:Ev C n F loc h e fun v h1=>As C n F loc h1 t v fun loc2 h2=>As C n F loc2 h2 u v fun loc3 h3=>QF .next loc3 h3) (hw:autoParam (swappedStores [t,u] e F.env=pure none) aR) (he:autoParam ((assignEach [t,u] F.env).map (·.2)=[assign t F.env,assign u F.env]) aR) :
 Ex C n F loc h (.Assign [t,u] e p) QF:=⟨fun A w Q' E a0 R f c =>
 wpAny_Assign_two (H.run A w _ _ a0 R f fun x v h1 w1 q1 e1 R1 c1 =>
  q1.run A w1 _ _ x a0 R1 (f.ext0 e1) c1 fun l2 h2 w2 q2 e2 R2 f2=>q2.run A w2 _ _ x a0 R2 f2 (c1.ext e2) fun l3 h3 w3 q3 e3 R3 f3=>c _ _ l3 h3 w3 q3 (e1.wide.trans (e2.trans e3)) R3 f3 .next) he hw⟩
theorem ex_assign3 {t u t3 e:Expr} {p:Pos} (H:Ev C n F loc h e fun v h1=>As C n F loc h1 t v fun loc2 h2=>As C n F loc2 h2 u v fun loc3 h3=>As C n F loc3 h3 t3 v fun loc4 h4=>QF .next loc4 h4) (hw:autoParam (swappedStores [t,u,t3] e F.env=pure none) aR) (he:autoParam ((assignEach [t,u,t3] F.env).map (·.2)=[assign t F.env,assign u F.env,assign t3 F.env]) aR) :
 Ex C n F loc h (.Assign [t,u,t3] e p) QF:=⟨fun A w Q' E a0 R f c =>
 wpAny_Assign_three (H.run A w _ _ a0 R f fun x v h1 w1 q1 e1 R1 c1 =>
  q1.run A w1 _ _ x a0 R1 (f.ext0 e1) c1 fun l2 h2 w2 q2 e2 R2 f2=>q2.run A w2 _ _ x a0 R2 f2 (c1.ext e2) fun l3 h3 w3 q3 e3 R3 f3 =>
   q3.run A w3 _ _ x a0 R3 f3 ((c1.ext e2).ext e3) fun l4 h4 w4 q4 e4 R4 f4=>c _ _ l4 h4 w4 q4 (e1.wide.trans (e2.trans (e3.trans e4))) R4 f4 .next) he hw⟩
theorem ex_aug {x:Str} {q p:Pos} {op:Operator} {e:Expr} {v:V} (hk:F.env.kindOf x=some .local) (hl:loc.lookup x=some v) (H:Ev C n F loc h e fun b h1=>Op2 C n (inplaceOp op) h1 v b fun r h2=>QF .next (upd x r loc) h2):Ex C n F loc h (.AugAssign (.Name x q) op e p) QF:=⟨fun A w Q' E a0 R f c=>by
 refine x_EA f.ns fun m hn hm=> ?_
 refine x_EA (hm x v hl) fun y h1 h2=> ?_
 exact wpAny_AugAssign_Name (wpAny_loadName_local f.kind hk hn h1 (H.run A w _ _ a0 R f fun z b h1 w1 q1 e1 R1 c1=>q1.run A w1 _ _ y z a0 R1 (h2.ext e1) c1 fun r v' h2 w2 q2 e2 R2 c2 =>
  store_local R2 ((f.ext0 e1).ext0 e2) c2 hk fun w3 e3 R3 f3=>c _ _ _ h2 w3 q2 ((e1.trans e2).wide.trans e3) R3 f3 .next))⟩
end
theorem while_step {prog:Program} {w:World} {A:Around} {s:Shared} {R:Result→Shared→Prop} {test:Expr} {body orelse:List Stmt} {env:Env}
 (h:wpAny (model prog w) A (isTrue test env (eval test env)) (fun b s₂ =>
  if b then wpAny (model prog w) A (execs body env) (fun f s₃=>match f with
   | .next | .cont=>codeAny (model prog w) A (.whileLoop test body orelse env) R s₃
   | .brk=>R (.ok .next) s₃
   | .ret v=>R (.ok (.ret v)) s₃) (fun _ _=>False) s₂
  else wpAny (model prog w) A (execs orelse env) (fun f s₃=>R (.ok f) s₃) (fun _ _=>False) s₂) (fun _ _=>False) s):codeAny (model prog w) A (.whileLoop test body orelse env) R s:=by
 refine codeAny_of_tree ?_
 show wpAny _ A ((whileTurn test body orelse env).onRaise (fun x=>do noteFrame x env;theTreesLotGoes x)) _ _ s
 refine wpAny_noted ?_
 simp only[whileTurn]
 refine Qw (Q5 h (fun b s₂ h₂=> ?_) fun _ _ h'=>h'.elim)
 cases b with
 |false =>
  simp only[Qm,if_false] at h₂ ⊢
  exact Qw (Q5 h₂ (fun f s₃ h₃=>Qr h₃) fun _ _ h'=>h'.elim)
 |true =>
  simp only[if_true] at h₂ ⊢
  refine Qw (Q5 h₂ (fun f s₃ h₃=> ?_) fun _ _ h'=>h'.elim)
  cases f with
  |next=>exact Qr ⟨rfl,h₃⟩
  |cont=>exact Qr ⟨rfl,h₃⟩
  |brk=>exact Qr h₃
  |ret v=>exact Qr h₃
theorem ex_while {C:Cx} {n:Nat} {F:Fr} {loc:Loc} {h:Hs} {QF:Fl→Loc→Hs→Prop} {t:Expr} {b:List Stmt} {p:Pos} (Inv:Nat→Loc→Hs→Prop) (k:Nat) (h0:Inv k loc h)
 (H:∀k loc h,Inv k loc h→EvB C n F loc h t fun c h1=>if c then Exs C n F loc h1 b fun fl l2 h2=>match fl with
  | .next | .cont=>∃k',k'<k∧Inv k' l2 h2
  | .brk=>QF .next l2 h2
  | .ret v=>QF (.ret v) l2 h2
  else QF .next loc h1):Ex C n F loc h (.While t b [] p) QF:=by
 have main:∀(k:Nat) (loc:Loc) (h:Hs),Inv k loc h→∀(A:Around) (w:Wd) (Rr:Result→Shared→Prop),AOk A n→Rep C w h→Frm C w F loc →
  (∀(f:Flow) (fl:Fl) (loc':Loc) (h':Hs) (w':Wd),QF fl loc' h'→Ext C [F.env.locals] w w'→Rep C w' h'→Frm C w' F loc'→ConcF C w' fl f→Rr (.ok f) w'.s)→codeAny C.M A (.whileLoop t b [] F.env) Rr w.s:=by
  intro k
  induction k using Nat.strongRecOn with
  |_ k ih =>
   intro loc h hI A w Rr a0 R f c
   refine while_step ((H k loc h hI).run A w _ _ a0 R f fun x h1 w1 q1 e1 R1=> ?_)
   cases x with
   |false =>
    simp only[Qm,if_false] at q1 ⊢
    exact wpAny_execs_nil (c _ _ loc h1 w1 q1 e1.wide R1 (f.ext0 e1) .next)
   |true =>
    simp only[if_true] at q1 ⊢
    refine q1.run A w1 _ _ a0 R1 (f.ext0 e1) fun fl' fl l2 h2 w2 q2 e2 R2 f2 c2=> ?_
    have go:(∃k',k'<k∧Inv k' l2 h2)→codeAny C.M A (.whileLoop t b [] F.env) Rr w2.s:=fun⟨k',hk,hI'⟩ =>
     ih k' hk l2 h2 hI' A w2 Rr a0 R2 f2 fun fl' fl l3 h3 w3 q3 e3 R3 f3 c3=>c fl' fl l3 h3 w3 q3 (e1.wide.trans (e2.trans e3)) R3 f3 c3
    cases c2 with
    |next=>exact go q2
    |cont=>exact go q2
    |brk=>exact c _ _ l2 h2 w2 q2 (e1.wide.trans e2) R2 f2 .next
    |ret cx=>exact c _ _ l2 h2 w2 q2 (e1.wide.trans e2) R2 f2 (.ret cx)
 exact⟨fun A w Q' E a0 R f c=>wpAny_While (main k loc h h0 A w _ a0 R f fun fw fl l h' w' q e' R' fm c'=>c fw fl l h' w' q e' R' fm c')⟩
section
variable {C:Cx} {n:Nat} {F:Fr} {loc:Loc} {h:Hs} {Q:V→Hs→Prop} {QB:Bool→Hs→Prop} {QF:Fl→Loc→Hs→Prop} {QL:Loc→Hs→Prop} {QU:Hs→Prop}
theorem op2_pure {f:Value→Value→Sem Value} {a b v:V} (q:Q v h) (H:∀(A:Around) (w:Wd) (Q':Value→Shared→Prop) (E:Value→Shared→Prop) (x y:Value),AOk A n→Rep C w h→Conc C w.g w.ρ a x→Conc C w.g w.ρ b y →
 (∀(r:Value) (k:Nat),Conc C w.g w.ρ v r→Q' r {w.s with toks:=k })→wpAny C.M A (f x y) Q' E w.s):Op2 C n f h a b Q :=
 ⟨fun A w Q' E x y a0 R c1 c2 k=>H A w Q' E x y a0 R c1 c2 fun r t c=>k r v h (w.toks t) q .toks R.toks c⟩
theorem add_int {a b:Int} (q:Q (.int (a+b)) h):Op2 C n (binaryOp .Add) h (.int a) (.int b) Q:=op2_pure q fun A w Q' E x y a0 R c1 c2 k=>by refine c1.eInt fun _=> ?_;refine c2.eInt fun _=> ?_;exact PyProof.Rows.add_int (k _ _ (.int _ _))
theorem sub_int {a b:Int} (q:Q (.int (a-b)) h):Op2 C n (binaryOp .Sub) h (.int a) (.int b) Q:=op2_pure q fun A w Q' E x y a0 R c1 c2 k=>by refine c1.eInt fun _=> ?_;refine c2.eInt fun _=> ?_;exact PyProof.Rows.sub_int (k _ _ (.int _ _))
theorem mod_int {a b:Int} (hb:b≠0) (q:Q (.int (a.fmod b)) h):Op2 C n (binaryOp .Mod) h (.int a) (.int b) Q:=op2_pure q fun A w Q' E x y a0 R c1 c2 k=>by refine c1.eInt fun _=> ?_;refine c2.eInt fun _=> ?_;exact PyProof.Rows.mod_int' hb (k _ _ (.int _ _))
theorem div_int {a b:Int} (hb:b≠0) (hp:Builtin.divisionGoesByPylong a b=false) (q:Q (.int (a.fdiv b)) h):Op2 C n (binaryOp .FloorDiv) h (.int a) (.int b) Q:=op2_pure q fun A w Q' E x y a0 R c1 c2 k=>by refine c1.eInt fun _=> ?_;refine c2.eInt fun _=> ?_;exact PyProof.Rows.floordiv_int hb (k _ _ (.int _ _)) (.inl ‹_›)
theorem eq_int {a b:Int} (q:Q (.bool (a==b)) h):Op2 C n (QQ .Eq) h (.int a) (.int b) Q:=op2_pure q fun A w Q' E x y a0 R c1 c2 k=>by refine c1.eInt fun _=> ?_;refine c2.eInt fun _=> ?_;exact PyProof.Rows.eq_int (k _ _ (.bool _))
theorem ne_int {a b:Int} (q:Q (.bool (a != b)) h):Op2 C n (QQ .NotEq) h (.int a) (.int b) Q:=op2_pure q fun A w Q' E x y a0 R c1 c2 k=>by refine c1.eInt fun _=> ?_;refine c2.eInt fun _=> ?_;exact PyProof.Rows.ne_int (k _ _ (.bool _))
theorem lt_int {a b:Int} (q:Q (.bool (decide (a<b))) h):Op2 C n (QQ .Lt) h (.int a) (.int b) Q:=op2_pure q fun A w Q' E x y a0 R c1 c2 k=>by refine c1.eInt fun _=> ?_;refine c2.eInt fun _=> ?_;exact PyProof.Rows.lt_int (k _ _ (.bool _))
theorem gt_int {a b:Int} (q:Q (.bool (decide (b<a))) h):Op2 C n (QQ .Gt) h (.int a) (.int b) Q:=op2_pure q fun A w Q' E x y a0 R c1 c2 k=>by refine c1.eInt fun _=> ?_;refine c2.eInt fun _=> ?_;exact PyProof.Rows.gt_int (k _ _ (.bool _))
theorem ge_int {a b:Int} (q:Q (.bool (decide (b≤a))) h):Op2 C n (QQ .GtE) h (.int a) (.int b) Q:=op2_pure q fun A w Q' E x y a0 R c1 c2 k=>by refine c1.eInt fun _=> ?_;refine c2.eInt fun _=> ?_;exact PyProof.Rows.ge_int (k _ _ (.bool _))
theorem iadd_int {a b:Int} (q:Q (.int (a+b)) h):Op2 C n (inplaceOp .Add) h (.int a) (.int b) Q:=op2_pure q fun A w Q' E x y a0 R c1 c2 k=>by refine c1.eInt fun _=> ?_;refine c2.eInt fun _=> ?_;exact PyProof.Rows.iadd_int (k _ _ (.int _ _))
theorem Rep.cell {w:Wd} {i:Nat} {a:Addr} {v:V} (R:Rep C w h) (hi:w.ρ[i]? =some a) (hv:h.σ i= .cell (some v)):∃y,w.s.heap.IsCell a (some y)∧Conc C w.g w.ρ v y:=by
 refine x_EA (R.obj i a hi) fun o h1 h2=> ?_
 rw[hv] at h2
 refine x_EAEA h2 fun v' h3 y z25 c=> ?_;subst z25
 exact⟨y,⟨o,h1,h3⟩,c⟩
theorem ev_cell {x:Str} {p:Pos} {i:Nat} {v:V} (hk:F.env.kindOf x=some .cell) (hc:F.cel.lookup x=some i) (hv:h.σ i= .cell (some v)) (q:Q v h) (hd:autoParam ((x==("__debug__" : Str))=false) aD):Ev C n F loc h (.Name x p) Q:=⟨fun A w Q' E _ R f c=>by
 refine x_EA (f.cells x i hc) fun a h1 h2=> ?_
 refine x_EA (R.cell h2 hv) fun y h3 h4=> ?_
 exact wpAny_Name (wpAny_loadName_cell f.kind hk h1 h3 (c y v h w q .refl R h4)) hd⟩
theorem ev_free {x:Str} {p:Pos} {i:Nat} {v:V} (hk:F.env.kindOf x=some .free) (hc:F.cel.lookup x=some i) (hv:h.σ i= .cell (some v)) (q:Q v h) (hd:autoParam ((x==("__debug__" : Str))=false) aD) (hd':autoParam ((x==("__classdict__" : Str))=false) aD):Ev C n F loc h (.Name x p) Q:=⟨fun A w Q' E _ R f c=>by
 refine x_EA (f.cells x i hc) fun a h1 h2=> ?_
 refine x_EA (R.cell h2 hv) fun y h3 h4=> ?_
 exact wpAny_Name (wpAny_loadName_free f.kind hk h1 h3 (c y v h w q .refl R h4) hd') hd⟩
theorem store_cell {w:Wd} {x:Str} {i:Nat} {u:Option V} {v:V} {y:Value} {A:Around} {Q':Unit→Shared→Prop} {E:Value→Shared→Prop} (R:Rep C w h) (f:Frm C w F loc) (c:Conc C w.g w.ρ v y) (hk:F.env.kindOf x=some .cell) (hc:F.cel.lookup x=some i) (hv:h.σ i= .cell u)
 (k:∀w',Ext C [] w w'→Rep C w' (h.upd i (.cell (some v)))→Q' () w'.s):wpAny C.M A (storeName F.env x y) Q' E w.s:=by
 refine x_EA (f.cells x i hc) fun a h1 h2=> ?_
 refine x_EA (R.obj i a h2) fun o h3 h4=> ?_
 rw[hv] at h4
 refine x_EA h4 fun v' h5 _=> ?_
 refine wpAny_storeName_cell f.kind hk h1 ⟨o,h3,h5⟩ fun h' hc' hs=> ?_
 refine x_EA hc' fun o' h6 h7=> ?_
 have hs':∀b o,b≠a→w.s.heap.get? b=some o→h'.get? b=some o:=fun b o hb e=>(hs.2 b hb).trans e
 exact k (w.at h' w.s.toks) (Ext.change h2 hs' h6) (R.change h2 (by rw[hv];simp) hs' h6 ⟨_,h7,y,rfl,c⟩)
theorem as_cell {x:Str} {p:Pos} {i:Nat} {u:Option V} {v:V} (hk:F.env.kindOf x=some .cell) (hc:F.cel.lookup x=some i) (hv:h.σ i= .cell u) (q:QL loc (h.upd i (.cell (some v)))):As C n F loc h (.Name x p) v QL:=⟨fun A w Q' E y a0 R f c k =>
 wpAny_assign_Name (store_cell R f c hk hc hv fun w' e' R'=>k _ _ w' q e'.wide R' (f.ext0 e'))⟩
structure Tp (C:Cx) (mg mb:Str→Option Value):Prop where
 g:C.h₀.Ns Wy mg
 b:C.h₀.Ns builtinsNs mb
 gt:Wy∉C.tabs
 bt:builtinsNs∉C.tabs
 lim:∃mc,C.h₀.Ns cStatics mc∧mc "sys.recursionlimit" = none
 limt:cStatics∉C.tabs
theorem Rep.up {w:Wd} {a:Addr} {o:Obj} (R:Rep C w h) (e:C.h₀.get? a=some o) (ht:a∉C.tabs):w.s.heap.get? a=some o:=R.keep _ _ (R.top _ _ e ht)
theorem Rep.ns {w:Wd} {a:Addr} {m:Str→Option Value} (R:Rep C w h) (hn:C.h₀.Ns a m) (ht:a∉C.tabs):w.s.heap.Ns a m:=by
 refine x_EEEA hn fun o es ep ho r=> ?_
 exact⟨o,es,ep,R.up ho ht,r⟩
noncomputable def vOf:V→Option Value
 | .top a=>some (.ref a)
 | .blt x=>some (.builtin x)
 | .ty x=>some (.type x)
 |_=>none
noncomputable def VOf (v:V) (x:Value):Prop:=vOf v=some x
theorem VOf.conc {v:V} {x:Value} (hv:VOf v x) (g:G) (ρ:List Addr):Conc C g ρ v x:=by
 cases v<;>cases hv<;>constructor
theorem ev_global {mg mb:Str→Option Value} {x:Str} {p:Pos} {v:V} {y:Value} (T:Tp C mg mb) (hk:F.env.kindOf x=some .globalImplicit) (hv:mg x=some y) (hc:VOf v y) (q:Q v h) (hd:autoParam ((x==("__debug__" : Str))=false) aD):Ev C n F loc h (.Name x p) Q:=⟨fun A w Q' E _ R f c =>
 Calls.Name_function_global f.kind hk (Calls.loadGlobal_global (by rw[f.globals];exact R.ns T.g T.gt) hv (c y v h w q .refl R (hc.conc _ _))) hd⟩
theorem ev_builtin {mg mb:Str→Option Value} {x:Str} {p:Pos} {v:V} {y:Value} (T:Tp C mg mb) (hk:F.env.kindOf x=some .globalImplicit) (hm:mg x=none) (hv:mb x=some y) (hc:VOf v y) (q:Q v h) (hd:autoParam ((x==("__debug__" : Str))=false) aD):Ev C n F loc h (.Name x p) Q:=⟨fun A w Q' E _ R f c =>
 Calls.Name_function_global f.kind hk (Calls.loadGlobal_builtin (by rw[f.globals];exact R.ns T.g T.gt) hm (by rw[f.blt];exact R.ns T.b T.bt) hv (c y v h w q .refl R (hc.conc _ _))) hd⟩
end
structure Evs (C:Cx) (n:Nat) (F:Fr) (loc:Loc) (h:Hs) (es:List Expr) (Q:List V→Hs→Prop):Prop where
 run:∀(A:Around) (w:Wd) (pos:Pos) (Q':List Value→Shared→Prop) (E:Value→Shared→Prop),AOk A n→Rep C w h→Frm C w F loc →
  (∀(xs:List Value) (vs:List V) (h':Hs) (w':Wd),Q vs h'→Ext C [] w w'→Rep C w' h'→Concs C w'.g w'.ρ vs xs→Q' xs w'.s)→wpAny C.M A (spliced (backTo pos (starEach es F.env))) Q' E w.s
structure Evk (C:Cx) (n:Nat) (F:Fr) (loc:Loc) (h:Hs) (ks:List Keyword) (Q:List V→Hs→Prop):Prop where
 run:∀(A:Around) (w:Wd) (pos:Pos) (Q':List Value→Shared→Prop) (E:Value→Shared→Prop),AOk A n→Rep C w h→Frm C w F loc →
  (∀(xs:List Value) (vs:List V) (h':Hs) (w':Wd),Q vs h'→Ext C [] w w'→Rep C w' h'→Concs C w'.g w'.ρ vs xs→Q' xs w'.s)→wpAny C.M A (evalAll ((backToKw pos (keywordEach ks F.env)).map (·.2))) Q' E w.s
structure Cl (C:Cx) (n:Nat) (h:Hs) (f:V) (args:List V) (kw:List (Str × V)) (Q:V→Hs→Prop):Prop where
 run:∀(A:Around) (w:Wd) (Q':Value→Shared→Prop) (E:Value→Shared→Prop) (fx:Value) (xs:List Value) (ks:List (Str × Value)),AOk A n→Rep C w h→Conc C w.g w.ρ f fx→Concs C w.g w.ρ args xs →
  ks.map (·.1)=kw.map (·.1)→Concs C w.g w.ρ (kw.map (·.2)) (ks.map (·.2)) →
  (∀(r:Value) (v:V) (h':Hs) (w':Wd),Q v h'→Ext C [] w w'→Rep C w' h'→Conc C w'.g w'.ρ v r→Q' r w'.s)→wpAny C.M A (call fx xs ks) Q' E w.s
noncomputable def Kp (C:Cx) (f:V):Prop:=∀(w:Wd) (h:Hs) (fx:Value),Rep C w h→Conc C w.g w.ρ f fx→∃k,W.Looks C.M w.s.heap (keeperOf fx) k
section
variable {C:Cx} {n:Nat} {F:Fr} {loc:Loc} {h:Hs} {Q:V→Hs→Prop} {QS:List V→Hs→Prop} {QB:Bool→Hs→Prop} {QF:Fl→Loc→Hs→Prop}
theorem Cl.mono {f:V} {args:List V} {kw:List (Str × V)} {Q₀:V→Hs→Prop} (H:Cl C n h f args kw Q₀) (k:∀v h',Q₀ v h'→Q v h'):Cl C n h f args kw Q :=
 ⟨fun A w Q' E fx xs ks a R cf ca hk ck c=>H.run A w Q' E fx xs ks a R cf ca hk ck fun x v h' w' q=>c x v h' w' (k _ _ q)⟩
theorem Cl.weak {f:V} {args:List V} {kw:List (Str × V)} (H:Cl C n h f args kw fun v h'=>∃h'',h'.Le h''∧Q v h''):Cl C n h f args kw Q :=
 ⟨fun A w Q' E fx xs ks a R cf ca hk ck c=>H.run A w Q' E fx xs ks a R cf ca hk ck fun x v h' w' ⟨h'',le,q⟩ e' R'=>c x v h'' w' q e' (R'.weaken le)⟩
theorem evs_nil (q:QS [] h):Evs C n F loc h [] QS:=⟨fun A w pos Q' E a0 R f c=>Qr (c [] [] h w q .refl R .nil)⟩
theorem evs_cons {e:Expr} {es:List Expr} (H:Ev C n F loc h e fun v h1=>Evs C n F loc h1 es fun vs h2=>QS (v::vs) h2) (he:autoParam (starEach (e::es) F.env=(false,eval e F.env)::starEach es F.env) aR):Evs C n F loc h (e::es) QS :=
 ⟨fun A w pos Q' E a0 R f c=>by
  rw[he]
  show wpAny _ _ (spliced ((false,eval e F.env)::backTo pos (starEach es F.env))) Q' E w.s
  unfold spliced
  refine Qw (H.run A w _ _ a0 R f fun x v h1 w1 q1 e1 R1 c1=> ?_)
  refine Qw (Qr (Qw (Qf (q1.run A w1 pos _ _ a0 R1 (f.ext0 e1) fun xs vs h2 w2 q2 e2 R2 c2=> ?_))))
  exact Qr (c _ _ h2 w2 q2 (e1.trans e2) R2 (.cons (c1.ext e2) c2))⟩
theorem evk_nil (q:QS [] h):Evk C n F loc h [] QS:=⟨fun A w pos Q' E a0 R f c=>Qr (c [] [] h w q .refl R .nil)⟩
theorem evk_cons {x:Str} {e:Expr} {p:Pos} {ks:List Keyword} (H:Ev C n F loc h e fun v h1=>Evk C n F loc h1 ks fun vs h2=>QS (v::vs) h2):Evk C n F loc h (⟨some x,e,p⟩::ks) QS:=⟨fun A w pos Q' E a0 R f c=>by
 show wpAny _ _ (evalAll ((do let v ←eval e F.env;standAt pos;pure v)::(backToKw pos (keywordEach ks F.env)).map (·.2))) Q' E w.s
 unfold evalAll
 refine Qw (Qw (H.run A w _ _ a0 R f fun y v h1 w1 q1 e1 R1 c1=>Qw (wpAny_standAt (Qr ?_))))
 refine Qw (Qf (q1.run A w1 pos _ _ a0 R1 (f.ext0 e1) fun xs vs h2 w2 q2 e2 R2 c2=> ?_))
 exact Qr (c _ _ h2 w2 q2 (e1.trans e2) R2 (.cons (c1.ext e2) c2))⟩
theorem Concs.length {g:G} {ρ:List Addr} {vs:List V} {xs:List Value} (c:Concs C g ρ vs xs):xs.length=vs.length:=c.ind (P:=fun vs xs=>xs.length=vs.length) rfl fun _ _ e=>congrArg (·+1) e
theorem Concs.app {g:G} {ρ:List Addr} {a b:List V} {x y:List Value} (c:Concs C g ρ a x) (k:Concs C g ρ b y):Concs C g ρ (a++b) (x++y):=c.ind (P:=fun a x=>Concs C g ρ (a++b) (x++y)) k fun h _ e=> .cons h e
noncomputable def noStar:List Expr→Bool
 |[]=>true
 | .Starred .. ::_=>false
 |_::r=>noStar r
noncomputable def kwNames:List Keyword→Option (List Str)
 |[]=>some []
 |⟨some x,_,_⟩::r=>(kwNames r).map (x::·)
 |⟨none,_,_⟩::_=>none
theorem star_shape {env:Env} {es:List Expr} {pos:Pos} (h:noStar es=true):backTo pos (starEach es env)=[]∨∃t r,backTo pos (starEach es env)=(false,t)::r:=by
 cases es with
 |nil=>exact .inl rfl
 |cons e es=>cases e<;>first|(cases h;done)|exact .inr ⟨_,_,rfl⟩
theorem kw_shape {env:Env} {pos:Pos}:∀{ks:List Keyword} {ns:List Str},kwNames ks=some ns→(backToKw pos (keywordEach ks env)).all (·.1.isSome)=true∧(backToKw pos (keywordEach ks env)).filterMap (·.1)=ns
 |[],ns,e=>by cases e;exact⟨rfl,rfl⟩
 |⟨some x,_,_⟩::r,ns,e=>by
  refine x_EA (QW.mp e) fun ms h1 z26=> ?_;subst z26
  refine x_A (kw_shape (env:=env) (pos:=pos) h1) fun h2 h3=> ?_
  exact⟨by show(true&&_)=true;exact h2,by show x::_=x::_;exact congrArg _ h3⟩
 |⟨none,_,_⟩::_,_,e=>by cases e
theorem evalArgs_rest {M:Model} {A:Around} {E:Value→Shared→Prop} {s:Shared} {f:Value} {bt:List (Bool × Sem Value)} {kws:List (Option Str × Sem Value)} {Q:Args→Shared→Prop} (hb:bt=[]∨∃t r,bt=(false,t)::r) (hk:kws.all (·.1.isSome)=true)
 (h:wpAny M A (spliced bt) (fun xs s₁=>wpAny M A (evalAll (kws.map (·.2))) (fun ys s₂=>Q ⟨xs,(kws.filterMap (·.1)).zip ys⟩ s₂) E s₁) E s):wpAny M A (evalArgs f true bt kws) Q E s:=by
 unfold evalArgs
 rcases hb with rfl|⟨t,r,rfl⟩
 · show wpAny M A (spliced [] >>= _) Q E s
   refine Qw (Q5 h (fun xs s₁ h₁=>Qw (Qr (Qf ?_))) fun _ _ x=>x)
   dsimp only
   rw[if_pos hk]
   exact Qw (Q5 h₁ (fun ys s₂ h₂=>Qw (Qr (Qr h₂))) fun _ _ x=>x)
 · show wpAny M A (spliced ((false,t)::r) >>= _) Q E s
   refine Qw (Q5 h (fun xs s₁ h₁=>Qw (Qr (Qf ?_))) fun _ _ x=>x)
   dsimp only
   rw[if_pos hk]
   exact Qw (Q5 h₁ (fun ys s₂ h₂=>Qw (Qr (Qr h₂))) fun _ _ x=>x)
theorem args_all {A:Around} {w:Wd} {pos:Pos} {f:Value} {es:List Expr} {ks:List Keyword} {ns:List Str} {Q':Args→Shared→Prop} {E:Value→Shared→Prop} {QA:List V→List V→Hs→Prop}
 (hs:noStar es=true) (hn:kwNames ks=some ns) (H:Evs C n F loc h es fun vs h1=>Evk C n F loc h1 ks fun kv h2=>QA vs kv h2) (a0:AOk A n) (R:Rep C w h) (fm:Frm C w F loc)
 (k:∀(xs:List Value) (kx:List (Str × Value)) (vs kv:List V) (h':Hs) (w':Wd),QA vs kv h'→Ext C [] w w'→Rep C w' h'→Concs C w'.g w'.ρ vs xs→kx.map (·.1)=(ns.zip kv).map (·.1)→Concs C w'.g w'.ρ ((ns.zip kv).map (·.2)) (kx.map (·.2))→Q' ⟨xs,kx⟩ w'.s) :
 wpAny C.M A (evalArgs f true (backTo pos (starEach es F.env)) (backToKw pos (keywordEach ks F.env))) Q' E w.s:=by
 refine x_A (kw_shape (env:=F.env) (pos:=pos) hn) fun k1 k2=> ?_
 refine evalArgs_rest (star_shape hs) k1 (H.run A w pos _ _ a0 R fm fun xs vs h1 w1 q1 e1 R1 c1=>q1.run A w1 pos _ _ a0 R1 (fm.ext0 e1) fun ys kv h2 w2 q2 e2 R2 c2=> ?_)
 rw[k2]
 have z1:∀(l:List Str) (a b:List Value) (c d:List V),Concs C w2.g w2.ρ c a→(l.zip a).map (·.1)=(l.zip c).map (·.1)∧Concs C w2.g w2.ρ ((l.zip c).map (·.2)) ((l.zip a).map (·.2)):=by
  intro l
  induction l with
  |nil=>intro a b c d cc;exact⟨rfl, .nil⟩
  |cons x l ih =>
   intro a b c d cc
   cases cc with
   |nil=>exact⟨rfl, .nil⟩
   |cons cx cxs=>refine x_A (ih _ b _ d cxs) fun i1 i2=> ?_;exact⟨by simp[i1], .cons cx i2⟩
 refine x_A (z1 ns ys ys kv kv c2) fun i1 i2=> ?_
 exact k xs _ vs kv h2 w2 q2 (e1.trans e2) R2 (c1.ext e2) i1 i2
theorem kp_blt {id:String}:Kp C (.blt id):=fun w h fx R c=>by refine eqE c.toInv ?_;exact⟨.machine,W.Looks.of_pure rfl⟩
theorem kp_ty {id:String}:Kp C (.ty id):=fun w h fx R c=>by refine eqE c.toInv ?_;exact⟨.machine,W.Looks.of_pure rfl⟩
theorem callWith_any {M:Model} {A:Around} {E:Value→Shared→Prop} {s:Shared} {Q:Value→Shared→Prop} {pos:Pos} {f:Value} {first:List Value} {args:List (Bool × Sem Value)} {keywords:List (Option Str × Sem Value)}
 (h:wpAny M A (evalArgs f true args keywords) (fun a s₁=>(∃k,W.Looks M s₁.heap (keeperOf f) k)∧wpAny M A (call f (first++a.pos) a.kw) Q E s₁) E s):wpAny M A (callWith pos f first args keywords) Q E s:=by
 unfold callWith
 refine Qw (Qf (Q5 h (fun a s₁ h₁=>Qw (wpAny_standAt ?_)) fun _ _ x=>x))
 refine x_A h₁ fun z27 h₁=> ?_;obtain⟨k,L⟩:=z27
 refine Qw (L.here ?_)
 have tail:∀{t:Sem Value},wpAny M A t Q E s₁→wpAny M A (t >>= fun r=>holding [r] point >>= fun _=>pure r) Q E s₁ :=
  fun ht=>Qw (Q5 ht (fun r s₂ hr=>Qw (Qf (wpAny_point (Qr hr)))) fun _ _ x=>x)
 have marked (mk:Value):wpAny M A (callMarked mk f (first++a.pos) a.kw) Q E s₁:=by unfold callMarked;exact Calls.wpAny_keep h₁
 have oper (l:List Value):wpAny M A (operate l (call f (first++a.pos) a.kw)) Q E s₁:=fun Γ p hΓ=>by rw[Sem.wp_operate];exact h₁ Γ p hΓ
 cases k<;>cases(args.any (·.1)||keywords.any (·.1.isNone))<;>dsimp only<;>first|exact tail h₁|exact tail (marked _)|exact tail (oper _)|(split<;>first|exact tail h₁|exact tail (marked _)|exact tail (oper _))
theorem ev_call {x:Str} {p' p:Pos} {es:List Expr} {ks:List Keyword} {ns:List Str} (H:Ev C n F loc h (.Name x p') fun f h1=>Kp C f∧Evs C n F loc h1 es fun vs h2=>Evk C n F loc h2 ks fun kv h3=>Cl C n h3 f vs (ns.zip kv) Q) (hs:autoParam (noStar es=true) aR) (hn:autoParam (kwNames ks=some ns) aR) :
 Ev C n F loc h (.Call (.Name x p') es ks p) Q:=⟨fun A w Q' E a0 R f c =>
 wpAny_Call_ofName (H.run A w _ _ a0 R f fun fx fv h1 w1 ⟨kp,q1⟩ e1 R1 c1=>callWith_any (args_all hs hn q1 a0 R1 (f.ext0 e1) fun xs kx vs kv h2 w2 q2 e2 R2 c2 hnm c3=>⟨kp w2 h2 fx R2 (c1.ext e2),
  q2.run A w2 _ _ fx ([]++xs) kx a0 R2 (c1.ext e2) c2 hnm c3 fun r v h3 w3 q3 e3 R3 c4=>c r v h3 w3 q3 (e1.trans (e2.trans e3)) R3 c4⟩))⟩
end
variable {C:Cx} {n:Nat} {F:Fr} {loc:Loc} {h h':Hs} {w:Wd} {Q:V→Hs→Prop} {QB:Bool→Hs→Prop} {QF:Fl→Loc→Hs→Prop} {QL:Loc→Hs→Prop} {rest:List Stmt} {A:Around} {E:Value→Shared→Prop} {s:Shared} {prog:Program} {aV bV:V} {ka kb junk:List Key} {D:List (Key × V)} {fs:List (Str × V)}
noncomputable def celFrom (nx:Nat):List (Str × NameKind)→List (Str × Nat)→List (Str × Nat)
 |[],acc=>acc
 |(x,k)::r,acc=>if k== .cell then celFrom (nx+1) r ((x,nx)::acc) else celFrom nx r acc
noncomputable def hsCells:List (Str × NameKind)→Hs→Hs
 |[],h=>h
 |(_,k)::r,h=>if k== .cell then hsCells r (h.new (.cell none)) else hsCells r h
noncomputable def bindAll (names:List (Str × NameKind)) (cel:List (Str × Nat)):List (Str × V)→Loc→Hs→Option (Loc × Hs)
 |[],loc,h=>some (loc,h)
 |(x,v)::r,loc,h=>match names.lookup x,cel.lookup x with
  |some .local,_=>bindAll names cel r (upd x v loc) h
  |some .cell,some i=>match h.σ i with
   | .cell _=>bindAll names cel r loc (h.upd i (.cell (some v)))
   |_=>none
  |_,_=>none
section
noncomputable def CelOk (ρ:List Addr) (cel:List (Str × Nat)) (cells:List (Str × Addr)):Prop:=∀x i,cel.lookup x=some i→∃a,cells.lookup x=some a∧ρ[i]? =some a
theorem CelOk.pre {ρ ρ':List Addr} {cel:List (Str × Nat)} {cells:List (Str × Addr)} (k:CelOk ρ cel cells) (p:ρ <+: ρ'):CelOk ρ' cel cells:=fun x i e=>let⟨a,h1,h2⟩:=k x i e;⟨a,h1,pre_get p h2⟩
theorem CelOk.cons {ρ:List Addr} {cel:List (Str × Nat)} {cells:List (Str × Addr)} {x:Str} {i:Nat} {a:Addr} (k:CelOk ρ cel cells) (hi:ρ[i]? =some a):CelOk ρ ((x,i)::cel) ((x,a)::cells):=fun y j e=>by
 rw[List.lookup_cons] at e ⊢
 cases q:y==x with
 |true=>rw[q] at e;cases e;exact⟨a,rfl,hi⟩
 |false=>rw[q] at e;exact k y j e
theorem lay_cells {X:List Addr} {A:Around} {E:Value→Shared→Prop} (f:Str × NameKind→List (Str × Addr)→Sem (ForInStep (List (Str × Addr))))
 (hf:∀name kind cells,f (name,kind) cells=if kind== .cell then(do let a ←alloc {cls:= .type "cell",data:= .cell none };pure (.yield ((name,a)::cells))) else pure (.yield cells)) :
 ∀(names:List (Str × NameKind)) (cel:List (Str × Nat)) (cells:List (Str × Addr)) (w:Wd) (h:Hs) (Q':List (Str × Addr)→Shared→Prop),Rep C w h→CelOk w.ρ cel cells →
  (∀cells' w',Ext C X w w'→Rep C w' (hsCells names h)→CelOk w'.ρ (celFrom h.nx names cel) cells'→Q' cells' w'.s)→wpAny C.M A (forIn names cells f) Q' E w.s
 |[],cel,cells,w,h,Q',R,k,c=>by rw[List.forIn_nil];exact Qr (c cells w .refl R k)
 |(name,kind)::r,cel,cells,w,h,Q',R,k,c=>by
  rw[List.forIn_cons,hf]
  unfold hsCells celFrom at c
  split at c
  · rename_i hk
    rw[if_pos hk]
    refine Qw (Qw (wpAny_alloc (Qr ?_)))
    have hn:w.s.heap.get? w.s.heap.objs.size=none:=fresh_none (Qt _)
    have e1:Ext C X w (w.more w.s.heap.objs.size (w.s.heap.push {cls:= .type "cell",data:= .cell none }) w.s.toks):=Ext.fresh hn push_keeps
    have R1:=R.fresh (k:=w.s.toks) (ao:= .cell none) (o:={cls:= .type "cell",data:= .cell none }) hn push_keeps (Qu _ rfl) ⟨none,rfl,rfl⟩ (R.fresh0 hn)
    exact lay_cells f hf r _ _ _ _ Q' R1 ((k.pre e1.pre).cons R.more_at) fun cells' w' e' R' k'=>c cells' w' (e1.trans e') R' k'
  · rename_i hk
    rw[if_neg hk]
    exact Qw (Qr (lay_cells f hf r cel cells w h Q' R k c))
set_option tactic.hygienic true in
theorem bind_params {A:Around} {E:Value→Shared→Prop} {F:Fr} (f:Str × Value→PUnit→Sem (ForInStep PUnit)) (hf:∀n v u,f (n,v) u=(do storeName F.env n v;pure (.yield ⟨⟩))) :
 ∀(ab:List (Str × V)) (bs:List (Str × Value)) (loc loc':Loc) (w:Wd) (h h':Hs) (Q':PUnit→Shared→Prop),bindAll F.env.scope.names F.cel ab loc h=some (loc',h')→bs.map (·.1)=ab.map (·.1)→Concs C w.g w.ρ (ab.map (·.2)) (bs.map (·.2))→Rep C w h→Frm C w F loc →
  (∀w',Ext C [F.env.locals] w w'→Rep C w' h'→Frm C w' F loc'→Q' ⟨⟩ w'.s)→wpAny C.M A (forIn bs ⟨⟩ f) Q' E w.s
 |[],[],loc,loc',w,h,h',Q',hb,_,_,R,fm,k=>by
  cases hb;rw[List.forIn_nil];exact Qr (k w .refl R fm)
 |[],_::_,_,_,_,_,_,_,_,e,_,_,_,_=>by cases e
 |_::_,[],_,_,_,_,_,_,_,e,_,_,_,_=>by cases e
 |(x,v)::ab,(x',y)::bs,loc,loc',w,h,h',Q',hb,e,c,R,fm,k=>by
  simp only[Q3,List.cons.injEq] at e
  refine x_A e ?_;clear e;intro z28 e;subst z28
  cases c with
  |cons c1 c2 =>
   rw[List.forIn_cons,hf]
   refine Qw (Qw ?_)
   unfold bindAll at hb
   split at hb
   · rename_i hk
     exact store_local R fm c1 hk fun w1 e1 R1 f1=>Qr (bind_params f hf ab bs _ loc' w1 h h' Q' hb e (c2.ext e1) R1 f1 fun w2 e2 R2 f2=>k w2 (e1.trans e2) R2 f2)
   · rename_i i hk hi
     split at hb
     · rename_i u hu
       exact store_cell R fm c1 hk hi hu fun w1 e1 R1=>Qr (bind_params f hf ab bs loc loc' w1 _ h' Q' hb e (c2.ext e1) R1 (fm.ext0 e1) fun w2 e2 R2 f2=>k w2 (e1.wide.trans e2) R2 f2)
     ·cases hb
   ·cases hb
theorem new_env {A:Around} {E:Value→Shared→Prop} {scope:Scope} {cl:List (Str × Addr)} {cel₀:List (Str × Nat)} {ab:List (Str × V)} {bs:List (Str × Value)} {qual:Str} {func:Option Addr} {code:Value} {w:Wd} {loc':Loc} {h h1:Hs} {Q':Env→Shared→Prop}
 (hk:scope.kind= .function) (R:Rep C w h) (k0:CelOk w.ρ cel₀ cl) (hb:bindAll scope.names (celFrom h.nx scope.names cel₀) ab [] (hsCells scope.names h)=some (loc',h1)) (hn:bs.map (·.1)=ab.map (·.1)) (hc:Concs C w.g w.ρ (ab.map (·.2)) (bs.map (·.2)))
 (k:∀L cells w',w.s.heap.get? L=none→Ext C [L] w w'→Rep C w' h1→Frm C w' ⟨newEnv scope L Wy cells qual func code none builtinsNs,celFrom h.nx scope.names cel₀⟩ loc'→Q' (newEnv scope L Wy cells qual func code none builtinsNs) w'.s) :
 wpAny C.M A (newFunctionEnv scope Wy cl bs qual func code none builtinsNs) Q' E w.s:=by
 simp only[newFunctionEnv,Option.isSome_none,Qm,if_false]
 refine Qw (wpAny_alloc ?_)
 have hn0:w.s.heap.get? w.s.heap.objs.size=none:=fresh_none (Qt _)
 have R0:Rep C (w.at (w.s.heap.push {cls:= .type "frame",data:= .dict #[] }) w.s.toks) h:=R.grow push_keeps
 have e0:Ext C [w.s.heap.objs.size] w (w.at (w.s.heap.push {cls:= .type "frame",data:= .dict #[] }) w.s.toks):=Ext.grow push_keeps
 refine Qw (lay_cells (X:=[]) _ (fun name kind cells=>by cases hkc:kind==NameKind.cell<;>simp[hkc]) scope.names cel₀ cl (w.at (w.s.heap.push {cls:= .type "frame",data:= .dict #[] }) w.s.toks) h _ R0 k0 fun cells w1 e1 R1 k1=> ?_)
 have off:=R.off_fresh hn0
 have hL:w1.s.heap.get? w.s.heap.objs.size=some {cls:= .type "frame",data:= .dict #[] }:=e1.kept _ _ (Qu _ rfl) off.2.1 (by simp) off.2.2
 have F1:Frm C w1 ⟨newEnv scope w.s.heap.objs.size Wy cells qual func code none builtinsNs,celFrom h.nx scope.names cel₀⟩ []:=by
  refine⟨⟨fun _=>none,⟨_,#[],0,hL,rfl,fun _ he=>by simp at he,fun _=>rfl⟩,fun x v hx=>by cases hx⟩, ?_, ?_,off.2.2,k1,hk,rfl,rfl⟩
  · cases q:w1.g w.s.heap.objs.size with
    |none=>exact q
    |some o =>
     rcases e1.new _ _ q with z|z|z
     · have z:w.g w.s.heap.objs.size=some o:=z
       rw[off.1] at z;cases z
     · have z:(w.s.heap.push _).get? w.s.heap.objs.size=none:=z
       rw[Qu _ rfl] at z;cases z
     ·exact absurd z off.2.1
  · intro q
    rcases e1.newρ _ q with z|z
    ·exact off.2.1 z
    ·have z:(w.s.heap.push _).get? w.s.heap.objs.size=none:=z;rw[Qu _ rfl] at z;cases z
 refine Qw (bind_params (F:=⟨newEnv scope w.s.heap.objs.size Wy cells qual func code none builtinsNs,celFrom h.nx scope.names cel₀⟩) _ (fun _ _ _=>rfl) ab bs [] loc' w1 _ h1 _ hb hn (hc.ext (e0.trans e1.wide)) R1 F1 fun w2 e2 R2 f2=>Qr ?_)
 exact k _ cells w2 hn0 (e0.trans (e1.wide.trans e2)) R2 f2
theorem Ext.under {X:List Addr} {L:Addr} {w w':Wd} (x:Ext C [L] w w') (hL:w.s.heap.get? L=none):Ext C X w w' :=
 ⟨x.sub,x.new,x.pre,x.newρ,fun b o e h1 _ h3=>x.kept b o e h1 (fun q=>by rw[Qs.mp q,hL] at e;cases e) h3,x.live⟩
theorem stepLt {a m c d L:Nat} (h:a+c*(m+1)<L) (hd:d≤c):a+d+c*m<L :=
 Qj (Qe (QK (Wq ..)) (Q2 (Qe (Wi hd _) (QK (Nat.add_comm ..))) a)) h
theorem AOk.deeper {A:Around} {e:Env} (h:AOk A (n+1)):AOk (A.deeper e) n:=⟨h.handled,stepLt (d:=1) h.depth (by decide),stepLt (d:=3) h.units (by decide)⟩
theorem AOk.room {A:Around} (h:AOk A n):A.depth<recursionLimit:=Qj (QP ..) h.depth
theorem AOk.in1 {A:Around} (h:AOk A (n+1)):AOk A.in1 n:=⟨h.handled,stepLt (d:=0) h.depth (by decide),stepLt (d:=1) h.units (by decide)⟩
theorem AOk.less {A:Around} {m:Nat} (h:AOk A n) (hm:m≤n):AOk A m:=⟨h.handled,Qj (Q2 (Nat.mul_le_mul_left 4 hm) _) h.depth,Qj (Q2 (Nat.mul_le_mul_left 40 hm) _) h.units⟩
theorem AOk.u8 {A:Around} {m:Nat} (h:AOk A (n+1)) (hm:m≤8):A.units+m<cLine:=Qj (Q2 (Qe hm (Qe (by decide:8≤40*1) (Nat.mul_le_mul_left 40 (Q9 1 n)))) _) h.units
noncomputable def Binds (C:Cx) (fd:FuncData) (args:List V) (kw:List (Str × V)) (ab:List (Str × V)):Prop :=
 ∀(w:Wd) (h:Hs) (xs:List Value) (ks:List (Str × Value)),Rep C w h→Concs C w.g w.ρ args xs→ks.map (·.1)=kw.map (·.1)→Concs C w.g w.ρ (kw.map (·.2)) (ks.map (·.2)) →
  ∃bs:List (Str × Value),BindsTo w.s fd ⟨xs,ks⟩ bs∧bs.map (·.1)=ab.map (·.1)∧Concs C w.g w.ρ (ab.map (·.2)) (bs.map (·.2))
structure FnOk (C:Cx) (f:Addr) (fd:FuncData) (body:List Stmt):Prop where
 at_:∃o,C.h₀.get? f=some o∧o.data= .func fd
 off:f∉C.tabs
 co:fd.scope.isCoroutine=false
 gen:fd.scope.isGenerator=false
 body:fd.body= .stmts body
 kind:fd.scope.kind= .function
 globals:fd.globals=Wy
 blt:fd.builtins=builtinsNs
 closure:fd.closure=[]
 code:∃c o vs t,fd.code= .ref c∧C.h₀.get? c=some o∧o.data= .fields vs∧vs[1]? =some (.str fd.qualname t)∧c∉C.tabs
 lim:∃mc,C.h₀.Ns cStatics mc∧mc "sys.recursionlimit" = none
 limt:cStatics∉C.tabs
theorem kp_fn {f:Addr} {fd:FuncData} {body:List Stmt} (K:FnOk C f fd body):Kp C (.top f):=fun w h fx R c=>by
 refine eqE c.toInv ?_
 refine x_EA K.at_ fun o ho hd=> ?_
 refine⟨.frame,fun A Q E s' hk q=> ?_⟩
 unfold keeperOf
 refine Qw (wpAny_load (hk _ _ (R.up ho K.off)) ?_)
 rw[hd];exact Qr q
noncomputable def envFn (f:Addr) (fd:FuncData) (L:Addr) (cells:List (Str × Addr)):Env:=newEnv fd.scope L Wy cells (fd.qualname ++ ".<locals>.") (some f) fd.code none builtinsNs
noncomputable def RetQ (Q:V→Hs→Prop):Fl→Loc→Hs→Prop
 | .ret v,_,h=>Q v h
 | .next,_,h=>Q .none h
 |_,_,_=>False
theorem NoLimit_up {w:Wd} (R:Rep C w h) (l:∃mc,C.h₀.Ns cStatics mc∧mc "sys.recursionlimit" = none) (lt:cStatics∉C.tabs):w.s.heap.NoLimit:=by
 refine x_EA l fun mc ns hm=> ?_
 exact⟨mc,R.ns ns lt,hm⟩
theorem cl_fn {f:Addr} {fd:FuncData} {body:List Stmt} {args:List V} {kw ab:List (Str × V)} {loc:Loc} {h1:Hs} (K:FnOk C f fd body) (hb:Binds C fd args kw ab) (hent:bindAll fd.scope.names (celFrom h.nx fd.scope.names []) ab [] (hsCells fd.scope.names h)=some (loc,h1))
 (H:∀L cells,Exs C n ⟨envFn f fd L cells,celFrom h.nx fd.scope.names []⟩ loc h1 body (RetQ Q)):Cl C (n+1) h (.top f) args kw Q:=⟨by
 intro A w Q' E fx xs ks a0 R cf cx hk ck c
 refine eqE cf.toInv ?_
 refine x_EA K.at_ fun o ho hd=> ?_
 refine x_EEEEAAAA K.code fun cd oc vs t h1' h2 h3 h4 h5=> ?_
 refine wpAny_call (codeAny_call_function a0.room (R.up ho K.off) hd K.co K.gen K.body ⟨cd,oc,vs,t,h1',R.up h2 h5,h3,h4⟩ ?_)
 refine x_EAA (hb w h xs ks R cx hk ck) fun bs hbs hn hc=> ?_
 refine hbs _ _ _ _ ?_
 rw[K.globals,K.closure,K.blt]
 refine new_env K.kind R (fun x i e=>by cases e) hent hn hc fun L cells w1 hL e1 R1 f1=>⟨NoLimit_up R1 K.lim K.limt,codeAny_func ?_⟩
 refine(H L cells).run (A.deeper _) w1 _ _ a0.deeper R1 f1 fun fv fl l2 h2 w2 q2 e2 R2 f2 c2=> ?_
 have e3:Ext C [] w w2:=(e1.trans e2).under hL
 cases c2 with
 |ret cv=>exact c _ _ h2 w2 q2 e3 R2 cv
 |next=>exact c _ _ h2 w2 q2 e3 R2 .none
 |brk=>exact q2.elim
 |cont=>exact q2.elim⟩
theorem cel_lookup {ρ:List Addr}:∀{cl:List (Str × Nat)} {fc:List (Str × Addr)},fc.map (·.1)=cl.map (·.1)→cl.map (fun x=>ρ[x.2]?)=fc.map (fun x=>some x.2)→CelOk ρ cl fc
 |[],[],_,_=>fun x i e=>by cases e
 |[],_::_,h,_=>by cases h
 |_::_,[],h,_=>by cases h
 |(x,i)::cl,(y,a)::fc,h,h'=>by
  simp only[Q3,List.cons.injEq] at h h'
  refine x_A h ?_;clear h;intro z29 h;subst z29
  exact(cel_lookup h h'.2).cons h'.1
theorem cl_lam {params:Arguments} {body:Expr} {scope:Scope} {qual:Str} {cl:List (Str × Nat)} {args:List V} {kw ab:List (Str × V)} {loc:Loc} {h1:Hs} {mg mb:Str→Option Value} (T:Tp C mg mb) (hk0:scope.kind= .function) (hco:scope.isCoroutine=false) (hgen:scope.isGenerator=false)
 (hb:∀fd:FuncData,fd.params=params→fd.defaults= .none→fd.kwdefaults= .none→Binds C fd args kw ab) (hent:bindAll scope.names (celFrom h.nx scope.names cl) ab [] (hsCells scope.names h)=some (loc,h1))
 (H:∀f L cells code,Ev C n ⟨newEnv scope L Wy cells (qual ++ ".<locals>.") (some f) code none builtinsNs,celFrom h.nx scope.names cl⟩ loc h1 body Q):Cl C (n+1) h (.lam params body scope qual cl) args kw Q:=⟨by
 intro A w Q' E fx xs ks a0 R cf cx hk ck c
 cases cf with
 | @lam _ _ _ _ _ a cd o oc fd vs t g1 g2 g3 g4 g5 g6 g7 g8 g9 g10 g11 g12 g13 g14 g15 g16 g17 =>
  subst g6;subst g7
  refine wpAny_call (W.kla_callFunE a0.room (R.keep _ _ g1) g3 hco hgen g5 ⟨cd,oc,vs,t,g14,R.keep _ _ g15,g16,g17⟩ ?_)
  refine x_EAA (hb fd g4 g10 g11 w h xs ks R cx hk ck) fun bs hbs hn hc=> ?_
  refine hbs _ _ _ _ ?_
  rw[g8,g9]
  refine new_env hk0 R (cel_lookup g12 g13) hent hn hc fun L cells w1 hL e1 R1 f1=>⟨NoLimit_up R1 T.lim T.limt,W.kla_codeExpr ?_⟩
  refine(H a L cells fd.code).run (A.deeper _) w1 _ _ a0.deeper R1 f1 fun x v h2 w2 q2 e2 R2 c2=> ?_
  exact c _ _ h2 w2 q2 ((e1.trans e2.wide).under hL) R2 c2⟩
theorem kp_lam {params:Arguments} {body:Expr} {scope:Scope} {qual:Str} {cl:List (Str × Nat)}:Kp C (.lam params body scope qual cl):=fun w h fx R c=>by
 cases c with
 |lam g1 g2 g3 =>
  refine⟨.frame,fun A Q E s' hk q=> ?_⟩
  unfold keeperOf
  refine Qw (wpAny_load (hk _ _ (R.keep _ _ g1)) ?_)
  rw[g3];exact Qr q
noncomputable def InC (C:Cx) (K:W.Frag):Prop:=∀a o,K.lookup a=some o→C.h₀.get? a=some o∧a∉C.tabs
theorem InC.here {K:W.Frag} {w:Wd} (I:InC C K) (R:Rep C w h):K.In w.s.heap:=fun a o e=>R.up (I a o e).1 (I a o e).2
structure Get (C:Cx) (n:Nat) (h:Hs) (a:V) (name:Str) (Q:V→Hs→Prop):Prop where
 run:∀(A:Around) (w:Wd) (Q':Value→Shared→Prop) (E:Value→Shared→Prop) (x:Value) (ex:Bool),AOk A n→Rep C w h→Conc C w.g w.ρ a x →
  (∀(r:Value) (v:V) (h':Hs) (w':Wd),Q v h'→Ext C [] w w'→Rep C w' h'→Conc C w'.g w'.ρ v r→Q' r w'.s)→wpAny C.M A (getAttr x name ex) Q' E w.s
theorem ev_attr {o:Expr} {attr:Str} {p:Pos} (H:Ev C n F loc h o fun a h1=>Get C n h1 a attr Q) (hb:autoParam (attributeBase o attr F.env (eval o F.env)=eval o F.env) aR):Ev C n F loc h (.Attribute o attr p) Q:=⟨fun A w Q' E a0 R f c=>by
 rw[arm_eval_Attribute,hb]
 refine Qw (H.run A w _ _ a0 R f fun y v h1 w1 q1 e1 R1 c1=>Qw (wpAny_standAt (Qw (Qf (q1.run A w1 _ _ y true a0 R1 c1 fun z v2 h2 w2 q2 e2 R2 c2=> ?_)))))
 refine Qw (wpAny_letTemporaryGo (Qr (c z v2 h2 w2 q2 (e1.trans e2) R2 c2)))⟩
theorem conc_handed {g:G} {ρ:List Addr} {v:V} {y:Value} (c:Conc C g ρ v y) (h:∀id,v≠ .blt id):W.handedIn y=true:=by
 cases c<;>first|rfl|exact absurd rfl (h _)
theorem Rep.inst {w:Wd} {i:Nat} {dx:Addr} {fs:List (Str × V)} (R:Rep C w h) (hx:w.ρ[i]? =some dx) (hi:h.σ i= .inst fs):∃es n,w.s.heap.get? dx=some (W.dictOf es n)∧es.length≤fs.length∧∀x,(match fs.lookup x with
 |some v=>∃y,W.getL x es=some (some y)∧Conc C w.g w.ρ v y
 |none=>W.getL x es=some none):=by
 refine x_EA (R.obj i dx hx) fun o h1 h2=> ?_
 rw[hi] at h2
 refine x_EEA h2 fun es k z30 h3=> ?_;subst z30
 exact⟨es,k,h1,h3⟩
theorem get_field {K:W.Frag} {i:Nat} {cl:Addr} {fs:List (Str × V)} {name:Str} {v:V} {attr:Option Value} (I:InC C K) (hi:h.σ i= .inst fs) (hv:fs.lookup name=some v) (hb:∀id,v≠ .blt id)
 (hg:W.plainGet K cl name=true) (hh:W.hasDictIn K cl=true) (ha:W.findIn K (.ref cl) name=some attr) (hn:W.noGet K attr=true) (q:Q v h):Get C n h (.obj i cl) name Q:=⟨by
 intro A w Q' E x ex a0 R cx c
 refine cx.eObj fun _ _ gx hx=> ?_
 ·
  refine x_EEAA (R.inst hx hi) fun es k ho hl hf=> ?_
  have:=hf name
  rw[hv] at this
  refine x_EA this fun y h1 c1=> ?_
  exact W.get_value (I.here R) ⟨R.keep _ _ gx,rfl,rfl,ho⟩ (W.plainGet_of hg).1 (W.findObj_own hh ha hn (by rw[W.lookIn_dict];exact h1)) (conc_handed c1 hb) (c y v h (w.toks _) q .toks R.toks c1)⟩
structure Mth (C:Cx) (n:Nat) (h:Hs) (a:V) (name:Str) (Q:V→List V→Hs→Prop):Prop where
 run:∀(A:Around) (w:Wd) (Q':Value × List Value→Shared→Prop) (E:Value→Shared→Prop) (x:Value) (pl:Sem Bool),AOk A n→Rep C w h→Conc C w.g w.ρ a x →
  (∀(r:Value) (fs:List Value) (f:V) (first:List V) (h':Hs) (w':Wd),Q f first h'→Ext C [] w w'→Rep C w' h'→Conc C w'.g w'.ρ f r→Concs C w'.g w'.ρ first fs→Q' (r,fs) w'.s)→wpAny C.M A (getMethod x name pl) Q' E w.s
theorem mth_own {K:W.Frag} {i:Nat} {cl f:Addr} {fs:List (Str × V)} {name:Str} {QM:V→List V→Hs→Prop} (I:InC C K) (hi:h.σ i= .inst fs) (hv:fs.lookup name=none)
 (hg:W.plainGet K cl name=true) (hf:W.findIn K (.ref cl) name=some (some (.ref f))) (ht:W.isFn K (.ref f)=true) (q:QM (.top f) [.obj i cl] h):Mth C n h (.obj i cl) name QM:=⟨by
 intro A w Q' E x pl a0 R cx c
 refine cx.eObj fun _ _ gx hx=> ?_
 ·
  refine x_EEAA (R.inst hx hi) fun es k ho hl hff=> ?_
  have:=hff name
  rw[hv] at this
  refine W.method_fn (od:=some (W.dictOf es k)) (I.here R) ⟨R.keep _ _ gx,rfl,rfl,ho⟩ (W.plainGet_of hg).1 (W.plainGet_of hg).2 hf (beq_iff_eq.mp ht) (by show(W.lookIn name (W.dictOf es k)).map _=_;rw[W.lookIn_dict,this];rfl) (c _ _ _ _ h w q .refl R (.top f) (.cons (.obj gx hx) .nil))⟩
theorem ev_mcall {o:Expr} {name:Str} {p' p:Pos} {es:List Expr} {ks:List Keyword} {ns:List Str} (H:Ev C n F loc h o fun a h1=>Mth C n h1 a name fun f first h2=>Kp C f∧Evs C n F loc h2 es fun vs h3=>Evk C n F loc h3 ks fun kv h4=>Cl C n h4 f (first++vs) (ns.zip kv) Q)
 (hs:autoParam (noStar es=true) aR) (hn:autoParam (kwNames ks=some ns) aR) (hb:autoParam (attributeBase o name F.env (eval o F.env)=eval o F.env) aR)
 (hf:autoParam (methodCallForm (es.length+ks.length) (backTo p (starEach es F.env)) (backToKw p (keywordEach ks F.env))=true) aR) (hl:autoParam ((p'.endLine==p.line)=true) aR) :
 Ev C n F loc h (.Call (.Attribute o name p') es ks p) Q:=⟨fun A w Q' E a0 R f c=>by
 rw[arm_eval_Call,hb]
 refine Qw (H.run A w _ _ a0 R f fun x a h1 w1 q1 e1 R1 c1=>Qw (wpAny_standAt ?_))
 have hpos:methodCallPos true o F.env p' p=pure p:=by unfold methodCallPos;simp[hl]
 unfold methodCall
 rw[hf,hpos]
 refine Qw (Qf ?_)
 show wpAny _ _ (getMethod x name _) _ _ _
 refine q1.run A w1 _ _ x _ a0 R1 c1 fun r fs fv first h2 w2 ⟨kp,q2⟩ e2 R2 c2 c3=>Qw (Qr ?_)
 have f2:=(f.ext0 e1).ext0 e2
 refine callWith_any (args_all hs hn q2 a0 R2 f2 fun xs kx vs kv h3 w3 q3 e3 R3 c4 hnm c5=>⟨kp w3 h3 r R3 (c2.ext e3),
  q3.run A w3 _ _ r (fs++xs) kx a0 R3 (c2.ext e3) ((c3.ext e3).app c4) hnm c5 fun z v h4 w4 q4 e4 R4 c6=>c z v h4 w4 q4 (e1.trans (e2.trans (e3.trans e4))) R4 c6⟩)⟩
end
theorem look_some {name:Str} {es:List DictEntry} {n:Nat} (hl:(W.getL name es).isSome=true):(!es.toArray.any (·.key.isStr name)&&es.toArray.any (·.refKey))=false:=by
 rw[←Array.any_toList,←Array.any_toList]
 show(!es.any _&&es.any _)=false
 unfold W.getL at hl
 cases q:es.find? (·.key.isStr name) with
 |some en=>rw[List.any_eq_true.mpr ⟨en,List.mem_of_find?_eq_some q,List.find?_some q⟩];rfl
 |none =>
  rw[q] at hl
  cases z:es.any (·.refKey) with
  |false=>rw[Bool.and_false]
  |true=>rw[z] at hl;cases hl
theorem putL_length (name:Str) (hsh:Int) (key v:Value):∀es:List DictEntry,(W.putL name hsh key v es).length≤es.length+1
 |[]=>Qt _
 |e::r=>by
  unfold W.putL
  split
  ·simp
  ·have:=putL_length name hsh key v r;simp only[List.length_cons];omega
theorem putL_same {name:Str} {hsh:Int} {key v:Value}:∀{es:List DictEntry},es.any (·.key.isStr name)=true→(W.putL name hsh key v es).length=es.length
 |[],h=>by cases h
 |e::r,h=>by
  unfold W.putL
  cases q:e.key.isStr name with
  |true=>rw[if_pos rfl];rfl
  |false =>
   rw[List.any_cons,q,Bool.false_or] at h
   rw[if_neg (by simp)]
   simp[putL_same h]
theorem getL_any {name:Str} {y:Value} {es:List DictEntry} (h:W.getL name es=some (some y)):es.any (·.key.isStr name)=true:=by
 unfold W.getL at h
 cases q:es.find? (·.key.isStr name) with
 |some e=>exact List.any_eq_true.mpr ⟨e,List.mem_of_find?_eq_some q,by have:=List.find?_some (p:=fun z:DictEntry=>z.key.isStr name) q;exact this⟩
 |none =>
  rw[q] at h
  cases z:es.any (·.refKey) with
  |true=>simp[z] at h
  |false=>simp[z] at h
theorem upd_same {x:Str} {v u:V}:∀{l:Loc},l.lookup x=some u→(upd x v l).length=l.length
 |[],h=>by cases h
 |(y,z)::r,h=>by
  unfold upd
  by_cases e:y=x
  ·rw[if_pos e];rfl
  · rw[if_neg e]
    rw[List.lookup_cons,beq_eq_false_iff_ne.mpr (Ne.symm e)] at h
    simp[upd_same h]
theorem upd_new {x:Str} {v:V}:∀{l:Loc},l.lookup x=none→(upd x v l).length=l.length+1
 |[],h=>rfl
 |(y,z)::r,h=>by
  unfold upd
  by_cases e:y=x
  ·subst e;simp at h
  · rw[if_neg e]
    rw[List.lookup_cons,beq_eq_false_iff_ne.mpr (Ne.symm e)] at h
    simp[upd_new h]
set_option tactic.hygienic true in
theorem isStr_other {k:Value} {x name:Str} (h:k.isStr name=true) (hx:x≠name):k.isStr x=false:=by
 cases k<;>try rfl
 rename_i y t
 have e:(y==name)=true:=h
 show(y==x)=false
 rw[beq_iff_eq.mp e]
 exact beq_eq_false_iff_ne.mpr (Ne.symm hx)
theorem putL_find_other {name x:Str} {hsh:Int} {t:Tok} {v:Value} (hx:x≠name):∀es:List DictEntry,(W.putL name hsh (.str name t) v es).find? (·.key.isStr x)=es.find? (·.key.isStr x)
 |[]=>by
  show List.find? _ [_]=none
  rw[List.find?_cons,show(Value.str name t).isStr x=false from isStr_other (by show(name==name)=true;simp) hx];rfl
 |e::r=>by
  unfold W.putL
  cases q:e.key.isStr name with
  |true=>rw[if_pos rfl,List.find?_cons,List.find?_cons];simp only[isStr_other q hx]
  |false=>rw[if_neg (by simp),List.find?_cons,List.find?_cons,putL_find_other hx r]
theorem putL_find_self {name:Str} {hsh:Int} {t:Tok} {v:Value}:∀es:List DictEntry,∃e,(W.putL name hsh (.str name t) v es).find? (·.key.isStr name)=some e∧e.val=v
 |[]=>⟨_,by show List.find? _ [_]=some _;rw[List.find?_cons,show(Value.str name t).isStr name=true from by show(name==name)=true;simp],rfl⟩
 |e::r=>by
  unfold W.putL
  cases q:e.key.isStr name with
  |true=>rw[if_pos rfl,List.find?_cons];simp only[q];exact⟨_,rfl,rfl⟩
  |false =>
   rw[if_neg (by simp),List.find?_cons];simp only[q]
   exact putL_find_self r
theorem putL_ref {name:Str} {hsh:Int} {t:Tok} {v:Value}:∀es:List DictEntry,(W.putL name hsh (.str name t) v es).any (·.refKey)=es.any (·.refKey)
 |[]=>rfl
 |e::r=>by
  unfold W.putL
  cases q:e.key.isStr name with
  |true=>rw[if_pos rfl,List.any_cons,List.any_cons];rfl
  |false=>rw[if_neg (by simp),List.any_cons,List.any_cons,putL_ref r]
theorem putL_get (name:Str) (hsh:Int) (t:Tok) (v:Value) (x:Str) (es:List DictEntry):W.getL x (W.putL name hsh (.str name t) v es)=if x=name then some (some v) else W.getL x es:=by
 by_cases h:x=name
 · subst h
   refine x_EA (putL_find_self (name:=x) (hsh:=hsh) (t:=t) (v:=v) es) fun e h1 h2=> ?_
   rw[if_pos rfl]
   unfold W.getL
   rw[h1,←h2]
 · rw[if_neg h]
   unfold W.getL
   rw[putL_find_other h,putL_ref]
theorem setattr_same {prog:Program} {w:World} {A:Around} {E:Value→Shared→Prop} {s:Shared} {K:W.Frag} {x Cl dx:Addr} {es:List DictEntry} {n:Nat} {name:Str} {v:Value} {Q:Unit→Shared→Prop}
 (X:K.In s.heap) (hx:s.heap.get? x=some ⟨.ref Cl,some dx, .plain,#[]⟩) (hdx:s.heap.get? dx=some (W.dictOf es n))
 (hs:W.findIn K (.ref Cl) "__setattr__" = some (some (.builtin "object.__setattr__"))) (hp:W.plainOver K Cl=true) (ht:W.takerIn K Cl name=some none) (hh:W.hasDictIn K Cl=true)
 (hl:(W.getL name es).isSome=true) (hz:es.length≤50)
 (h:∀h' tk,Heap.SameBut dx s.heap h'→h'.get? dx=some (W.dictOf (W.putL name (Qi w.params name) (.str name (s.toks+1)) v es) (W.putN name es n))→Q () {s with heap:=h',toks:=tk }) :
 wpAny (model prog w) A (setAttr (.ref x) name v) Q E s:=by
 have I:W.InstAt s.heap x ⟨.ref Cl,some dx, .plain,#[]⟩ Cl (some (W.dictOf es n)):=⟨hx,rfl,rfl,hdx⟩
 refine W.set_plain X I hs (W.osa_open (s:={s with toks:=s.toks+1 }) X I hp ht fun b=> ?_)
 refine x_EA (W.any_some hh) fun cd hc hd'=> ?_
 refine Qw (Qr (Qw (Qw (wpAny_loadPart (s:={s with toks:=s.toks+1 }) hx ?_))))
 dsimp only
 refine Qw ((W.looks_clsIn (M:=model prog w) (h:=s.heap) X hc).here (s:={s with toks:=s.toks+1 }) ?_)
 rw[hd']
 refine Qr (a:=some dx) (Qw (Qr (Qw ?_)))
 unfold nsSet
 refine Qw (Qw (wpAny_askSetting (Qr (Qw (wpAny_mkText (Qw (wpAny_loadPart (s:={s with toks:=s.toks+1+1 }) hdx ?_)))))))
 dsimp only
 rw[aRefKeyMayBeTheName_at,look_some (n:=n) hl]
 have hput:=W.putName_dict name (Qi w.params name) (.str name (s.toks+1)) v es n
 have hsame:Heap.SameBut dx s.heap (s.heap.update dx (Obj.putName name (Qi w.params name) (.str name (s.toks+1)) v)):=Heap.SameBut.update ..
 have hget:(s.heap.update dx (Obj.putName name (Qi w.params name) (.str name (s.toks+1)) v)).get? dx=some (W.dictOf (W.putL name (Qi w.params name) (.str name (s.toks+1)) v es) (W.putN name es n)):=by
  rw[Heap.get?_update_self _ hdx (by rw[hput];rfl),hput]
 refine wpAny_updatePart (s:={s with toks:=s.toks+1+1 }) hdx ?_
 refine Qw (wpAny_lookBehind hget (pastItsLine_dict (by rw[List.size_toArray,sizeLine_eq];have:=putL_length name (Qi w.params name) (.str name (s.toks+1)) v es;omega)) ?_)
 exact Qr (h _ _ hsame hget)
section
variable {QU:Hs→Prop}
theorem set_field {K:W.Frag} {i:Nat} {cl:Addr} {fs:List (Str × V)} {name:Str} {v:V} (I:InC C K) (hi:h.σ i= .inst fs)
 (hs:W.findIn K (.ref cl) "__setattr__" = some (some (.builtin "object.__setattr__"))) (hpo:W.plainOver K cl=true) (ht:W.takerIn K cl name=some none) (hh:W.hasDictIn K cl=true) (q:QU (h.upd i (.inst (upd name v fs)))) (hz:autoParam (fs.length<50) aD) :
 Up2 C n (fun x y=>setAttr x name y) h (.obj i cl) v QU:=⟨by
 intro A w Q' E x y a0 R cx cy c
 refine cx.eObj fun _ _ gx hx=> ?_
 ·
  refine x_EEAA (R.inst hx hi) fun es k ho hl hf=> ?_
  have hsome:(W.getL name es).isSome=true:=by
   have:=hf name
   cases q:fs.lookup name with
   |none=>rw[q] at this;rw[this];rfl
   |some u=>rw[q] at this;refine x_EA this fun z h1 _=> ?_;rw[h1];rfl
  refine setattr_same (I.here R) (R.keep _ _ gx) ho hs hpo ht hh hsome (by exact Qe (by assumption) (Qx (by assumption))) fun h' tk sb hget=> ?_
  have hr:ObjA C w.g w.ρ (W.dictOf (W.putL name (Qi C.w.params name) (.str name (w.s.toks+1)) y es) (W.putN name es k)) (.inst (upd name v fs)):=by
   refine⟨_,_,rfl, ?_,fun z=> ?_⟩
   · have hfn:=hf name
     cases q:fs.lookup name with
     |some u =>
      rw[q] at hfn
      refine x_EA hfn fun z h1 _=> ?_
      rw[putL_same (getL_any h1),upd_same q];exact hl
     |none =>
      rw[upd_new q]
      exact Qe (putL_length ..) (Wi hl 1)
   · rw[putL_get,lookup_upd]
     by_cases e:z=name
     ·rw[if_pos e,if_pos e];exact⟨y,rfl,cy⟩
     ·rw[if_neg e,if_neg e];exact hf z
  have sb':∀b o,b≠_→w.s.heap.get? b=some o→h'.get? b=some o:=fun b o hb e=>(sb.2 b hb).trans e
  exact c _ (w.at h' tk) q (Ext.change hx sb' hget) (R.change hx (by rw[hi];simp) sb' hget hr)⟩
theorem as_attr {o:Expr} {attr:Str} {p:Pos} {v:V} (H:Ev C n F loc h o fun a h1=>Up2 C n (fun x y=>setAttr x attr y) h1 a v fun h2=>QL loc h2):As C n F loc h (.Attribute o attr p) v QL:=⟨fun A w Q' E y a0 R f c k=>by
 rw[arm_assign_Attribute]
 refine Qw (Qf (H.run A w _ _ a0 R f fun x a h1 w1 q1 e1 R1 c1=>Qw (wpAny_standAt ?_)))
 refine Qw (Qf (q1.run A w1 _ _ x y a0 R1 c1 (c.ext e1) fun h2 w2 q2 e2 R2=>wpAny_release ?_))
 exact k _ h2 w2 q2 (e1.trans e2).wide R2 ((f.ext0 e1).ext0 e2)⟩
theorem as_sub {o i:Expr} {p:Pos} {v:V} (H:Ev C n F loc h o fun a h1=>Ev C n F loc h1 i fun b h2=>Up3 C n setItem h2 a b v fun h3=>QL loc h3):As C n F loc h (.Subscript o i p) v QL:=⟨fun A w Q' E y a0 R f c k=>by
 rw[arm_assign_Subscript]
 refine Qw (Qf (H.run A w _ _ a0 R f fun x a h1 w1 q1 e1 R1 c1=>Qw (Qf (q1.run A w1 _ _ a0 R1 (f.ext0 e1) fun x2 b h2 w2 q2 e2 R2 c2=>Qw (wpAny_standAt ?_)))))
 refine Qw (Qf (q2.run A w2 _ _ x x2 y a0 R2 (c1.ext e2) c2 ((c.ext e1).ext e2) fun h3 w3 q3 e3 R3=>wpAny_release ?_))
 exact k _ h3 w3 q3 (e1.trans (e2.trans e3)).wide R3 (((f.ext0 e1).ext0 e2).ext0 e3)⟩
theorem ex_del_sub {o i:Expr} {p' p:Pos} (H:Ev C n F loc h o fun a h1=>Ev C n F loc h1 i fun b h2=>Up2 C n delItem h2 a b fun h3=>QF .next loc h3):Ex C n F loc h (.Delete [.Subscript o i p'] p) QF:=⟨fun A w Q' E a0 R f c=>by
 refine wpAny_Delete (wpAny_deleteEach_cons ?_)
 rw[arm_delete_Subscript]
 refine Qw (H.run A w _ _ a0 R f fun x a h1 w1 q1 e1 R1 c1=>Qw (Qf (q1.run A w1 _ _ a0 R1 (f.ext0 e1) fun x2 b h2 w2 q2 e2 R2 c2=>Qw (wpAny_standAt ?_))))
 refine Qw (Qf (q2.run A w2 _ _ x x2 a0 R2 (c1.ext e2) c2 fun h3 w3 q3 e3 R3=>wpAny_release (wpAny_deleteEach_nil ?_)))
 exact c _ _ loc h3 w3 q3 (e1.trans (e2.trans e3)).wide R3 (((f.ext0 e1).ext0 e2).ext0 e3) .next⟩
end
structure Itr (C:Cx) (n:Nat) (it:Value) (wr:List Addr) (J:Nat→Heap→Prop) (ok:Hs→Prop) (tg:Expr→Prop) (src:V) (x0:Value) (items:List V):Prop where
 next:∀(A:Around) (w:Wd) (h:Hs) (k:Nat) (v:V) (t:Expr) (Q':Value→Shared→Prop) (E:Value→Shared→Prop),AOk A n→Rep C w h→Conc C w.g w.ρ src x0→ok h→J k w.s.heap→(∀b∈wr,w.g b=none∧b∉w.ρ∧b∉C.tabs)→items[k]? =some v→tg t →
  (∀(x:Value) (w':Wd),Ext C wr w w'→w'.ρ=w.ρ→Rep C w' h→J (k+1) w'.s.heap→Conc C w'.g w'.ρ v x→Q' x w'.s) →
  wpAny C.M A (pyNext it) (fun r s₁=>match r with|some x=>wpAny C.M A (letOwnedTupleGo t it x) (fun _=>Q' x) E s₁|none=>False) E w.s
 stop:∀(A:Around) (w:Wd) (h:Hs) (k:Nat) (Q':Option Value→Shared→Prop) (E:Value→Shared→Prop),AOk A n→Rep C w h→Conc C w.g w.ρ src x0→ok h→J k w.s.heap→(∀b∈wr,w.g b=none∧b∉w.ρ∧b∉C.tabs)→items[k]? =none →
  (∀(hp:Heap) (tk:Nat),(∀b o,b∉wr→w.s.heap.get? b=some o→hp.get? b=some o)→Q' none {w.s with heap:=hp,toks:=tk })→wpAny C.M A (pyNext it) Q' E w.s
 keep:∀k hp hp',J k hp→(∀b∈wr,hp'.get? b=hp.get? b)→J k hp'
 live:∀k hp,J k hp→∀b∈wr,∃o,hp.get? b=some o
 self:∀(A:Around) (k:Nat) (s:Shared) (Q':Value→Shared→Prop) (E:Value→Shared→Prop),J k s.heap→Q' it s→wpAny C.M A (pyIter it) Q' E s
structure Its (C:Cx) (n:Nat) (h:Hs) (tg:Expr→Prop) (src:V) (K:Hs→(Hs→Prop)→List V→Prop):Prop where
 run:∀(A:Around) (w:Wd) (Q':Value→Shared→Prop) (E:Value→Shared→Prop) (x0:Value),AOk A n→Rep C w h→Conc C w.g w.ρ src x0 →
  (∀(it:Value) (wr:List Addr) (J:Nat→Heap→Prop) (w':Wd) (h1:Hs) (ok:Hs→Prop) (items:List V) (src':V) (x':Value),K h1 ok items→Ext C [] w w'→Rep C w' h1→(∀b∈wr,w.s.heap.get? b=none)→(∀b∈wr,w'.g b=none∧b∉w'.ρ∧b∉C.tabs)→J 0 w'.s.heap→Conc C w'.g w'.ρ src' x'→Itr C n it wr J ok tg src' x' items→Q' it w'.s) →
  wpAny C.M A (pyIter x0) Q' E w.s
noncomputable def FoW (C:Cx) (n:Nat) (F:Fr) (ok:Hs→Prop) (t:Expr) (b:List Stmt) (QF:Fl→Loc→Hs→Prop):List V→Loc→Hs→Prop
 |[],loc,h=>ok h∧QF .next loc h
 |v::vs,loc,h=>ok h∧As C n F loc h t v fun loc1 h1=>Exs C n F loc1 h1 b fun fl loc2 h2=>match fl with
  | .next | .cont=>FoW C n F ok t b QF vs loc2 h2
  | .brk=>QF .next loc2 h2
  | .ret u=>QF (.ret u) loc2 h2
theorem for_step {prog:Program} {w:World} {A:Around} {s:Shared} {R:Result→Shared→Prop} {target:Expr} {it:Value} {body:List Stmt} {env:Env}
 (h:wpAny (model prog w) A (pyNext it) (fun r s₁=>match r with
  |none=>R (.ok .next) s₁
  |some v=>wpAny (model prog w) A (letOwnedTupleGo target it v) (fun _ s₁'=>wpAny (model prog w) A (assign target env v) (fun _ s₂=>wpAny (model prog w) A (execs body env) (fun f s₃=>match f with
   | .next | .cont=>codeAny (model prog w) A (.forLoop target it body [] env) R s₃
   | .brk=>R (.ok .next) s₃
   | .ret v=>R (.ok (.ret v)) s₃) (fun _ _=>False) s₂) (fun _ _=>False) s₁') (fun _ _=>False) s₁) (fun _ _=>False) s):codeAny (model prog w) A (.forLoop target it body [] env) R s:=by
 refine codeAny_of_tree ?_
 show wpAny _ A ((forTurn target it body [] env).onRaise (fun x=>do noteFrame x env;theTreesLotGoes x)) _ _ s
 refine wpAny_noted ?_
 simp only[forTurn]
 refine Qw (wpAny_standAt (Qw (wpAny_onRaise (Q5 h (fun r s₁ h₁=> ?_) fun _ _ h'=>h'.elim))))
 cases r with
 |none=>exact Qr ⟨rfl,codeAny_block (wpAny_execs_nil h₁)⟩
 |some v =>
  refine Qw (Q5 h₁ (fun _ s₁' h₁=> ?_) fun _ _ h'=>h'.elim)
  refine Qw (Q5 h₁ (fun _ s₂ h₂=>Qw (Q5 h₂ (fun f s₃ h₃=> ?_) fun _ _ h'=>h'.elim)) fun _ _ h'=>h'.elim)
  cases f with
  |next=>exact Qr ⟨rfl,h₃⟩
  |cont=>exact Qr ⟨rfl,h₃⟩
  |brk=>exact Qr h₃
  |ret v=>exact Qr h₃
section
theorem Ext.base {X:List Addr} {wr:List Addr} {w0 w:Wd} {hp:Heap} {tk:Nat} (e:Ext C X w0 w) (hf:∀b∈wr,w0.s.heap.get? b=none) (ha:∀b∈wr,b∉w.ρ) (hk:∀b o,b∉wr→w.s.heap.get? b=some o→hp.get? b=some o):Ext C X w0 (w.at hp tk) where
 sub:=e.sub
 new:=e.new
 pre:=e.pre
 newρ:=e.newρ
 kept:=fun b o e0 h1 h2 h3=>hk b o (fun q=>by rw[hf b q] at e0;cases e0) (e.kept b o e0 h1 h2 h3)
 live:=fun b o e0=>let⟨o',e1⟩:=e.live b o e0;⟨o',hk b o' (fun q=>by rw[hf b q] at e0;cases e0) e1⟩
theorem Ext.baseX {X wr:List Addr} {w0 w w':Wd} (e:Ext C X w0 w) (hf:∀b∈wr,w0.s.heap.get? b=none) (e1:Ext C wr w w'):Ext C X w0 w':=by
 have e2:Ext C (X++wr) w0 w':=(e.widen (fun a h=>by simp[h])).trans (e1.widen (fun a h=>by simp[h]))
 exact⟨e2.sub,e2.new,e2.pre,e2.newρ,fun b o e0 h1 h2 h3=>e2.kept b o e0 h1 (fun q=>by
  rcases List.mem_append.mp q with q|q
  ·exact h2 q
  ·rw[hf b q] at e0;cases e0) h3,e2.live⟩
theorem apart_ext {X wr:List Addr} {w w':Wd} (ha:∀b∈wr,w.g b=none∧b∉w.ρ∧b∉C.tabs) (hl:∀b∈wr,∃o,w.s.heap.get? b=some o) (e:Ext C X w w'):∀b∈wr,w'.g b=none∧b∉w'.ρ∧b∉C.tabs:=fun b hb=>by
 refine x_AA (ha b hb) fun h1 h2 h3=> ?_
 refine x_E (hl b hb) fun o ho=> ?_
 refine⟨?_,fun q=> ?_,h3⟩
 · cases q:w'.g b with
   |none=>rfl
   |some o' =>
    rcases e.new _ _ q with z|z|z
    ·rw[h1] at z;cases z
    ·rw[ho] at z;cases z
    ·exact absurd z h2
 · rcases e.newρ _ q with z|z
   ·exact h2 z
   ·rw[ho] at z;cases z
theorem Frm.apart {wr:List Addr} {w:Wd} {hp:Heap} {tk:Nat} (f:Frm C w F loc) (hk:∀b o,b∉wr→w.s.heap.get? b=some o→hp.get? b=some o) (hL:F.env.locals∉wr):Frm C (w.at hp tk) F loc:=by
 refine x_EA f.ns fun m z31 hm=> ?_;obtain⟨o,es,ep,ho,r⟩:=z31
 exact⟨⟨m,⟨o,es,ep,hk _ o hL ho,r⟩,hm⟩,f.off,f.offρ,f.offt,f.cells,f.kind,f.globals,f.blt⟩
theorem for_code {src:V} {x0 it:Value} {wr:List Addr} {J:Nat→Heap→Prop} {ok:Hs→Prop} {tg:Expr→Prop} {items:List V} {t:Expr} {b:List Stmt} (T:Itr C n it wr J ok tg src x0 items) (ht:tg t) :
 ∀(vs:List V) (k:Nat) (A:Around) (w0 w:Wd) (loc:Loc) (h:Hs) (Rr:Result→Shared→Prop),items.drop k=vs→FoW C n F ok t b QF vs loc h→AOk A n→Rep C w h→Frm C w F loc→Conc C w.g w.ρ src x0→J k w.s.heap→(∀b∈wr,w0.s.heap.get? b=none) →
 (∀b∈wr,w.g b=none∧b∉w.ρ∧b∉C.tabs)→F.env.locals∉wr→Ext C [F.env.locals] w0 w →
 (∀(f:Flow) (fl:Fl) (loc':Loc) (h':Hs) (w':Wd),QF fl loc' h'→Ext C [F.env.locals] w0 w'→Rep C w' h'→Frm C w' F loc'→ConcF C w' fl f→Rr (.ok f) w'.s) →
 codeAny C.M A (.forLoop t it b [] F.env) Rr w.s:=by
 intro vs
 induction vs with
 |nil =>
  intro k A w0 w loc h Rr hd hW a0 R f c0 hJ hf ha hL e0 q
  have hk:items[k]? =none:=by rw[←List.head?_drop,hd];rfl
  refine for_step (T.stop A w h k _ _ a0 R c0 hW.1 hJ ha hk fun hp tk keep=> ?_)
  exact q _ _ loc h (w.at hp tk) hW.2 (e0.base hf (fun b hb=>(ha b hb).2.1) keep) (R.apart keep ha) (f.apart keep hL) .next
 |cons v vs ih =>
  intro k A w0 w loc h Rr hd hW a0 R f c0 hJ hf ha hL e0 q
  have hk:items[k]? =some v:=by rw[←List.head?_drop,hd];rfl
  refine for_step (Q5 (T.next A w h k v t (fun x s₁'=>wpAny C.M A (assign t F.env x) (fun _ s₂=>wpAny C.M A (execs b F.env) (fun f s₃=>match f with
   | .next | .cont=>codeAny C.M A (.forLoop t it b [] F.env) Rr s₃
   | .brk=>Rr (.ok .next) s₃
   | .ret v=>Rr (.ok (.ret v)) s₃) (fun _ _=>False) s₂) (fun _ _=>False) s₁') (fun _ _=>False) a0 R c0 hW.1 hJ ha hk ht fun x w1 e1 hρ R1 hJ1 cx=> ?_) (fun r s₁ h₁=> ?_) fun _ _ z=>z)
  · have f1:Frm C w1 F loc:=f.ext e1 hL
    refine hW.2.run A w1 _ _ x a0 R1 f1 cx fun loc2 h2 w2 q2 e2 R2 f2=> ?_
    refine q2.run A w2 _ _ a0 R2 f2 fun fw fl loc3 h3 w3 q3 e3 R3 f3 c3=> ?_
    have e23:=e2.trans e3
    have l1:=T.live _ _ hJ1
    have ha1:=apart_ext ha (T.live _ _ hJ) e1
    have ha3:=apart_ext ha1 l1 e23
    have e03:Ext C [F.env.locals] w0 w3:=(e0.baseX hf e1).trans e23
    have hJ3:J (k+1) w3.s.heap:=T.keep _ _ _ hJ1 fun b hb=>by
     refine x_E (l1 b hb) fun o ho=> ?_
     rw[ho];exact e23.kept b o ho (ha1 b hb).2.1 (by simp;rintro rfl;exact hL hb) (ha1 b hb).2.2
    have go:FoW C n F ok t b QF vs loc3 h3→codeAny C.M A (.forLoop t it b [] F.env) Rr w3.s:=fun hW' =>
     ih (k+1) A w0 w3 loc3 h3 Rr (by rw[←List.drop_drop,hd];rfl) hW' a0 R3 f3 ((c0.ext e1).ext e23) hJ3 hf ha3 hL e03 q
    cases c3 with
    |next=>exact go q3
    |cont=>exact go q3
    |brk=>exact q _ _ loc3 h3 w3 q3 e03 R3 f3 .next
    |ret cv=>exact q _ _ loc3 h3 w3 q3 e03 R3 f3 (.ret cv)
  · cases r with
    |none=>exact h₁.elim
    |some x=>exact h₁
theorem ex_for {t it:Expr} {b:List Stmt} {p:Pos} {tg:Expr→Prop} (H:Ev C n F loc h it fun src h1=>Its C n h1 tg src fun h2 ok items=>FoW C n F ok t b QF items loc h2) (ht:tg t) (hs:autoParam (∀x,Q8 it F.env x=pure x) aI):Ex C n F loc h (.For t it b [] p) QF:=⟨fun A w Q' E a0 R f c=>by
 refine wpAny_For (H.run A w _ _ a0 R f fun x src h1 w1 q1 e1 R1 c1=>q1.run A w1 _ _ x a0 R1 c1 fun itv wr J w2 h2 ok items src' x' q2 e2 R2 hf ha hJ c2 T=> ?_) hs
 have f2:=(f.ext0 e1).ext0 e2
 have hL:F.env.locals∉wr:=fun z=>by
  refine x_E ((f.ext0 e1).live) fun o ho=> ?_
  have:=hf _ z;rw[ho] at this;cases this
 exact for_code T ht items 0 A w1 w2 loc h2 _ rfl q2 a0 R2 f2 c2 hJ hf ha hL e2.wide fun fw fl l h' w' q e' R' f' c'=>c fw fl l h' w' q (e1.wide.trans e') R' f' c'⟩
end
theorem compTurn_one (elt t1 i1:Expr) (f1:List Expr) (scope:Scope) (pos:Pos) (it acc:Value) (env:Env) :
 compTurn (.ListComp elt [⟨t1,i1,f1,0⟩] scope pos) 0 it acc env=(standAt i1.pos >>= fun _=>pyNext it >>= fun r=>match r with
  |none=>pure (.done .next)
  |some v=>letOwnedTupleGo t1 it v >>= fun _=>assign t1 env v >>= fun _=>compTests f1 env >>= fun ok =>
   (if ok=true then((eval elt env >>= fun x=>call (.builtin "list.append") [acc,x] >>= fun _=>pure ()) >>= fun _=>again (.compLoop (.ListComp elt [⟨t1,i1,f1,0⟩] scope pos) 0 it acc env))
    else again (.compLoop (.ListComp elt [⟨t1,i1,f1,0⟩] scope pos) 0 it acc env))):=by
 unfold compTurn compTests
 simp only[bind_pure]
 rfl
theorem compTurn_dict (k v t1 i1:Expr) (f1:List Expr) (scope:Scope) (pos:Pos) (it:Value) (d:Addr) (env:Env) :
 compTurn (.DictComp k v [⟨t1,i1,f1,0⟩] scope pos) 0 it (.ref d) env=(standAt i1.pos >>= fun _=>pyNext it >>= fun r=>match r with
  |none=>pure (.done .next)
  |some x=>letOwnedTupleGo t1 it x >>= fun _=>assign t1 env x >>= fun _=>compTests f1 env >>= fun ok =>
   (if ok=true then((eval k env >>= fun kv=>holding [kv] (eval v env) >>= fun vv=>standAt {k.pos with endLine:=v.pos.endLine,endCol:=v.pos.endCol } >>= fun _=>holding [kv,vv] (dictSet d kv vv)) >>= fun _=>again (.compLoop (.DictComp k v [⟨t1,i1,f1,0⟩] scope pos) 0 it (.ref d) env))
    else again (.compLoop (.DictComp k v [⟨t1,i1,f1,0⟩] scope pos) 0 it (.ref d) env))):=by
 unfold compTurn compTests
 simp only[bind_pure]
 rfl
structure Bd (C:Cx) (n:Nat) (F:Fr) (ρ0:List Addr) (t:Sem Unit) (loc:Loc) (h:Hs) (Q:Loc→Hs→Prop):Prop where
 run:∀(A:Around) (w:Wd) (Q':Unit→Shared→Prop) (E:Value→Shared→Prop),ρ0 <+: w.ρ→AOk A n→Rep C w h→Frm C w F loc →
  (∀(loc':Loc) (h':Hs) (w':Wd),Q loc' h'→Ext C [F.env.locals] w w'→Rep C w' h'→Frm C w' F loc'→Q' () w'.s)→wpAny C.M A t Q' E w.s
noncomputable def TestsW (C:Cx) (n:Nat) (F:Fr) (loc:Loc) (Q:Bool→Hs→Prop):List Expr→Hs→Prop
 |[],h=>Q true h
 |c::cs,h=>EvB C n F loc h c fun b h1=>if b then TestsW C n F loc Q cs h1 else Q false h1
noncomputable def TurnW (C:Cx) (n:Nat) (F:Fr) (t:Expr) (fs:List Expr) (body:Loc→Hs→(Loc→Hs→Prop)→Prop) (v:V) (loc:Loc) (h:Hs) (Q:Loc→Hs→Prop):Prop :=
 As C n F loc h t v fun l1 h1=>TestsW C n F l1 (fun b h2=>if b then body l1 h2 Q else Q l1 h2) fs h1
noncomputable def LpW (ok:Hs→Prop) (turn:V→Loc→Hs→(Loc→Hs→Prop)→Prop) (Q:Loc→Hs→Prop):List V→Loc→Hs→Prop
 |[],loc,h=>ok h∧Q loc h
 |v::vs,loc,h=>ok h∧turn v loc h fun l1 h1=>LpW ok turn Q vs l1 h1
section
theorem tests_run (fs:List Expr):∀(A:Around) (w:Wd) (h:Hs) (Q':Bool→Shared→Prop) (E:Value→Shared→Prop),TestsW C n F loc QB fs h→AOk A n→Rep C w h→Frm C w F loc →
 (∀(b:Bool) (h':Hs) (w':Wd),QB b h'→Ext C [] w w'→Rep C w' h'→Q' b w'.s)→wpAny C.M A (compTests fs F.env) Q' E w.s:=by
 have skip:∀(fs:List Expr) (A:Around) (s:Shared) (Q':Bool→Shared→Prop) (E:Value→Shared→Prop),Q' false s→wpAny C.M A (forIn fs false fun c r=>if r=true then do let ok ←isTrue c F.env (eval c F.env);pure (ForInStep.yield ok) else pure (ForInStep.yield r)) Q' E s:=by
  intro fs
  induction fs with
  |nil=>intro A s Q' E q;rw[List.forIn_nil];exact Qr q
  |cons c fs ih=>intro A s Q' E q;rw[List.forIn_cons];exact Qw (Qr (ih A s Q' E q))
 have main:∀(fs:List Expr) (A:Around) (w:Wd) (h:Hs) (Q':Bool→Shared→Prop) (E:Value→Shared→Prop),TestsW C n F loc QB fs h→AOk A n→Rep C w h→Frm C w F loc →
  (∀(b:Bool) (h':Hs) (w':Wd),QB b h'→Ext C [] w w'→Rep C w' h'→Q' b w'.s)→wpAny C.M A (forIn fs true fun c r=>if r=true then do let ok ←isTrue c F.env (eval c F.env);pure (ForInStep.yield ok) else pure (ForInStep.yield r)) Q' E w.s:=by
  intro fs
  induction fs with
  |nil=>intro A w h Q' E H a0 R f c;rw[List.forIn_nil];exact Qr (c _ h w H .refl R)
  |cons e fs ih =>
   intro A w h Q' E H a0 R f c
   rw[List.forIn_cons]
   simp only[if_true]
   refine Qw (Qw (H.run A w _ _ a0 R f fun b h1 w1 q1 e1 R1=>Qr ?_))
   cases b with
   |true=>exact ih A w1 h1 Q' E q1 a0 R1 (f.ext0 e1) fun b h2 w2 q2 e2 R2=>c b h2 w2 q2 (e1.trans e2) R2
   |false=>exact skip fs A w1.s Q' E (c _ h1 w1 q1 e1 R1)
 intro A w h Q' E H a0 R f c
 unfold compTests
 exact Qw (main fs A w h _ E H a0 R f fun b h' w' q e' R'=>Qr (c b h' w' q e' R'))
theorem loop_run {src:V} {x0 it:Value} {wr:List Addr} {J:Nat→Heap→Prop} {ok:Hs→Prop} {tg:Expr→Prop} {items:List V} {t:Expr} {fs:List Expr} {c:Code} {tree:Sem Fin} {body:Sem Unit} {p:Pos} {bodyW:Loc→Hs→(Loc→Hs→Prop)→Prop}
 (T:Itr C n it wr J ok tg src x0 items) (ht:tg t)
 (htree:tree=(standAt p >>= fun _=>pyNext it >>= fun r=>match r with
  |none=>pure (.done .next)
  |some v=>letOwnedTupleGo t it v >>= fun _=>assign t F.env v >>= fun _=>compTests fs F.env >>= fun okb=>(if okb=true then(body >>= fun _=>again c) else again c)))
 (hq:c.quiet=true) (hstep:∀(A:Around) (R:Result→Shared→Prop) (s:Shared),wpAny C.M A tree (fun fin s'=>match fin with | .done f=>R (.ok f) s' | .again c'=>c'.quiet=true∧codeAny C.M A c' R s') (fun _ _=>False) s→codeAny C.M A c R s)
 {ρ0:List Addr} (hbody:∀loc h Q,bodyW loc h Q→Bd C n F ρ0 body loc h Q) :
 ∀(vs:List V) (k:Nat) (A:Around) (w0 w:Wd) (loc:Loc) (h:Hs) (Rr:Result→Shared→Prop),items.drop k=vs→LpW ok (TurnW C n F t fs bodyW) QL vs loc h→ρ0 <+: w.ρ→AOk A n→Rep C w h→Frm C w F loc→Conc C w.g w.ρ src x0→J k w.s.heap→(∀b∈wr,w0.s.heap.get? b=none) →
 (∀b∈wr,w.g b=none∧b∉w.ρ∧b∉C.tabs)→F.env.locals∉wr→Ext C [F.env.locals] w0 w →
 (∀(loc':Loc) (h':Hs) (w':Wd),QL loc' h'→Ext C [F.env.locals] w0 w'→ρ0 <+: w'.ρ→Rep C w' h'→Frm C w' F loc'→Rr (.ok .next) w'.s) →
 codeAny C.M A c Rr w.s:=by
 intro vs
 induction vs with
 |nil =>
  intro k A w0 w loc h Rr hd hW hρ0 a0 R f c0 hJ hf ha hL e0 q
  have hk:items[k]? =none:=by rw[←List.head?_drop,hd];rfl
  refine hstep A Rr w.s ?_
  rw[htree]
  refine Qw (wpAny_standAt (Qw (T.stop A w h k _ _ a0 R c0 hW.1 hJ ha hk fun hp tk keep=>Qr ?_)))
  exact q loc h (w.at hp tk) hW.2 (e0.base hf (fun b hb=>(ha b hb).2.1) keep) hρ0 (R.apart keep ha) (f.apart keep hL)
 |cons v vs ih =>
  intro k A w0 w loc h Rr hd hW hρ0 a0 R f c0 hJ hf ha hL e0 q
  have hk:items[k]? =some v:=by rw[←List.head?_drop,hd];rfl
  refine hstep A Rr w.s ?_
  rw[htree]
  refine Qw (wpAny_standAt (Qw (Q5 (T.next A w h k v t (fun x s₁'=>wpAny C.M A (assign t F.env x >>= fun _=>compTests fs F.env >>= fun okb=>(if okb=true then(body >>= fun _=>again c) else again c)) (fun fin s'=>match fin with | .done f=>Rr (.ok f) s' | .again c'=>c'.quiet=true∧codeAny C.M A c' Rr s') (fun _ _=>False) s₁')
   (fun _ _=>False) a0 R c0 hW.1 hJ ha hk ht fun x w1 e1 hρ R1 hJ1 cx=> ?_) (fun r s₁ h₁=> ?_) fun _ _ z=>z)))
  · have f1:Frm C w1 F loc:=f.ext e1 hL
    have l1:=T.live _ _ hJ1
    have ha1:=apart_ext ha (T.live _ _ hJ) e1
    have go:∀(loc3:Loc) (h3:Hs) (w3:Wd),Ext C [F.env.locals] w1 w3→Rep C w3 h3→Frm C w3 F loc3→LpW ok (TurnW C n F t fs bodyW) QL vs loc3 h3→codeAny C.M A c Rr w3.s:=fun loc3 h3 w3 e23 R3 f3 hW'=>by
     have ha3:=apart_ext ha1 l1 e23
     have e03:Ext C [F.env.locals] w0 w3:=(e0.baseX hf e1).trans e23
     have hJ3:J (k+1) w3.s.heap:=T.keep _ _ _ hJ1 fun b hb=>by
      refine x_E (l1 b hb) fun o ho=> ?_
      rw[ho];exact e23.kept b o ho (ha1 b hb).2.1 (by simp;rintro rfl;exact hL hb) (ha1 b hb).2.2
     exact ih (k+1) A w0 w3 loc3 h3 Rr (by rw[←List.drop_drop,hd];rfl) hW' (hρ0.trans (e1.pre.trans e23.pre)) a0 R3 f3 ((c0.ext e1).ext e23) hJ3 hf ha3 hL e03 q
    have hT:TurnW C n F t fs bodyW v loc h fun l1 h1=>LpW ok (TurnW C n F t fs bodyW) QL vs l1 h1:=hW.2
    refine Qw (hT.run A w1 _ _ x a0 R1 f1 cx fun loc2 h2 w2 q2 e2 R2 f2=> ?_)
    refine Qw (tests_run fs A w2 h2 _ _ q2 a0 R2 f2 fun b h3 w3 q3 e3 R3=> ?_)
    cases b with
    |false=>exact Qr ⟨hq,go loc2 h3 w3 (e2.trans e3.wide) R3 (f2.ext0 e3) q3⟩
    |true =>
     refine Qw ((hbody _ _ _ q3).run A w3 _ _ (hρ0.trans (e1.pre.trans (e2.pre.trans e3.pre))) a0 R3 (f2.ext0 e3) fun loc4 h4 w4 q4 e4 R4 f4=>Qr ⟨hq, ?_⟩)
     exact go loc4 h4 w4 (e2.trans (e3.wide.trans e4)) R4 f4 q4
  · cases r with
    |none=>exact h₁.elim
    |some x=>exact Qw h₁
noncomputable def cloA (cel:List (Str × Nat)):List (Str × NameKind)→List (Str × Nat)→Option (List (Str × Nat))
 |[],acc=>some acc
 |(x,k)::r,acc=>if k== .free then(match cel.lookup x with|some i=>cloA cel r ((x,i)::acc)|none=>none) else cloA cel r acc
theorem closure_for {w:Wd} {scope:Scope} {cl:List (Str × Nat)} (f:Frm C w F loc) (hc:cloA F.cel scope.names []=some cl):∃fc,closureFor scope F.env=pure fc∧fc.map (·.1)=cl.map (·.1)∧cl.map (fun x=>w.ρ[x.2]?)=fc.map (fun x=>some x.2):=by
 have main:∀(names:List (Str × NameKind)) (acc cl:List (Str × Nat)) (ac:List (Str × Addr)),cloA F.cel names acc=some cl→ac.map (·.1)=acc.map (·.1)→acc.map (fun x=>w.ρ[x.2]?)=ac.map (fun x=>some x.2) →
  ∃fc,(forIn names ac fun(x:Str × NameKind) (cs:List (Str × Addr))=>if(x.2== .free)=true then(do let a ←cellOf F.env x.1;pure (ForInStep.yield ((x.1,a)::cs))) else pure (ForInStep.yield cs):Sem (List (Str × Addr)))=pure fc∧fc.map (·.1)=cl.map (·.1)∧cl.map (fun x=>w.ρ[x.2]?)=fc.map (fun x=>some x.2):=by
  intro names
  induction names with
  |nil=>intro acc cl ac hc h1 h2;cases hc;exact⟨ac,rfl,h1,h2⟩
  |cons nk r ih =>
   obtain⟨x,k⟩:=nk
   intro acc cl ac hc h1 h2
   unfold cloA at hc
   split at hc
   · rename_i hk
     split at hc
     · rename_i i hi
       refine x_EA (f.cells x i hi) fun a h3 h4=> ?_
       refine x_EAA (ih ((x,i)::acc) cl ((x,a)::ac) hc (by simp[h1]) (by simp[h2,h4])) fun fc h5 h6 h7=> ?_
       refine⟨fc, ?_,h6,h7⟩
       rw[List.forIn_cons]
       simp only[hk,if_true]
       have:cellOf F.env x=pure a:=by unfold cellOf;rw[h3]
       rw[this]
       exact h5
     ·cases hc
   · rename_i hk
     refine x_EAA (ih acc cl ac hc h1 h2) fun fc h5 h6 h7=> ?_
     refine⟨fc, ?_,h6,h7⟩
     rw[List.forIn_cons]
     simp only[hk,if_false,Qm]
     exact h5
 refine x_EAA (main scope.names [] cl [] hc rfl rfl) fun fc h1 h2 h3=> ?_
 refine⟨fc, ?_,h2,h3⟩
 unfold closureFor
 show(forIn scope.names [] _ >>= fun cs=>pure cs)=pure fc
 rw[bind_pure]
 exact h1
noncomputable def compEnv (scope:Scope) (env:Env) (L:Addr) (cells:List (Str × Addr)):Env :=
 { scope := relabel scope env, locals := L, globals := env.globals, cells := cells, qual := env.qual, func := none, code := env.code, frame := env.frame, builtins := env.builtins }
theorem comp_env {A:Around} {E:Value→Shared→Prop} {scope:Scope} {cl:List (Str × Nat)} {fc:List (Str × Addr)} {w:Wd} {h:Hs} {Q':Env→Shared→Prop}
 (hk:scope.kind= .function) (R:Rep C w h) (f:Frm C w F loc) (k0:CelOk w.ρ cl fc)
 (k:∀L cells w',w.s.heap.get? L=none→Ext C [] w w'→Rep C w' (hsCells scope.names h)→Frm C w' ⟨compEnv scope F.env L cells,celFrom h.nx scope.names cl⟩ []→Q' {scope:=scope,locals:=L,globals:=F.env.globals,cells:=cells,qual:=F.env.qual,func:=none,code:=F.env.code,frame:=F.env.frame,builtins:=F.env.builtins } w'.s) :
 wpAny C.M A (newFunctionEnv scope F.env.globals fc [] F.env.qual none .none (some F.env)) Q' E w.s:=by
 simp only[newFunctionEnv,Option.isSome_some,if_true]
 refine Qw (wpAny_alloc ?_)
 have hn0:w.s.heap.get? w.s.heap.objs.size=none:=fresh_none (Qt _)
 have R0:Rep C (w.at (w.s.heap.push {cls:= .type "dict",data:= .dict #[] }) w.s.toks) h:=R.grow push_keeps
 have e0:Ext C [] w (w.at (w.s.heap.push {cls:= .type "dict",data:= .dict #[] }) w.s.toks):=Ext.grow push_keeps
 refine Qw (lay_cells (X:=[]) _ (fun name kind cells=>by cases hkc:kind==NameKind.cell<;>simp) scope.names cl fc (w.at (w.s.heap.push {cls:= .type "dict",data:= .dict #[] }) w.s.toks) h _ R0 k0 fun cells w1 e1 R1 k1=> ?_)
 have off:=R.off_fresh hn0
 have hL:w1.s.heap.get? w.s.heap.objs.size=some {cls:= .type "dict",data:= .dict #[] }:=e1.kept _ _ (Qu _ rfl) off.2.1 (by simp) off.2.2
 have F1:Frm C w1 ⟨compEnv scope F.env w.s.heap.objs.size cells,celFrom h.nx scope.names cl⟩ []:=by
  refine⟨⟨fun _=>none,⟨_,#[],0,hL,rfl,fun _ he=>by simp at he,fun _=>rfl⟩,fun x v hx=>by cases hx⟩, ?_, ?_,off.2.2,k1,hk,f.globals,f.blt⟩
  · cases q:w1.g w.s.heap.objs.size with
    |none=>exact q
    |some o =>
     rcases e1.new _ _ q with z|z|z
     · have z:w.g w.s.heap.objs.size=some o:=z
       rw[off.1] at z;cases z
     · have z:(w.s.heap.push _).get? w.s.heap.objs.size=none:=z
       rw[Qu _ rfl] at z;cases z
     ·exact absurd z off.2.1
  · intro q
    rcases e1.newρ _ q with z|z
    ·exact off.2.1 z
    ·have z:(w.s.heap.push _).get? w.s.heap.objs.size=none:=z;rw[Qu _ rfl] at z;cases z
 refine Qw ?_
 rw[List.forIn_nil]
 exact Qr (Qr (k _ cells w1 hn0 (e0.trans e1) R1 F1))
end
section
theorem Rep.list {w:Wd} {i:Nat} {a:Addr} {xs:List V} (R:Rep C w h) (hi:w.ρ[i]? =some a) (hs:h.σ i= .list xs):∃vs,w.s.heap.PlainList a vs∧Concs C w.g w.ρ xs vs.toList:=by
 refine x_EA (R.obj i a hi) fun o h1 h2=> ?_
 rw[hs] at h2
 refine x_EEA h2 fun vs k z32 c=> ?_;subst z32
 exact⟨vs,⟨k,h1⟩,c⟩
theorem Rep.setList {w:Wd} {hp:Heap} {i tk:Nat} {a:Addr} {xs ys:List V} {vs:Array Value} (R:Rep C w h) (hi:w.ρ[i]? =some a) (hs:h.σ i= .list xs) (hl:hp.PlainList a vs) (hsb:∀b o,b≠a→w.s.heap.get? b=some o→hp.get? b=some o) (c:Concs C w.g w.ρ ys vs.toList):Rep C (w.at hp tk) (h.upd i (.list ys))∧∀X,Ext C X w (w.at hp tk):=by
 refine x_E hl fun k e=> ?_
 exact⟨R.change hi (by rw[hs];simp) hsb e ⟨vs,k,rfl,c⟩,fun X=>Ext.change hi hsb e⟩
theorem app_list {w:Wd} {i:Nat} {a:Addr} {xs:List V} {v:V} {x:Value} {A:Around} {Q':Value→Shared→Prop} {E:Value→Shared→Prop} (R:Rep C w h) (hi:w.ρ[i]? =some a) (hs:h.σ i= .list xs) (hz:xs.length≤Qc) (cx:Conc C w.g w.ρ v x)
 (k:∀w',(∀X,Ext C X w w')→Rep C w' (h.upd i (.list (xs++[v])))→Q' .none w'.s):wpAny C.M A (call (.builtin "list.append") [.ref a,x]) Q' E w.s:=by
 refine x_EA (R.list hi hs) fun vs hl c=> ?_
 refine wpAny_list_append_plain hl (fun h' hl' sb=> ?_) (by rw[←QD,c.length];exact hz)
 refine x_A (R.setList (tk:=w.s.toks) hi hs hl' (fun b o hb e=>(sb.2 b hb).trans e) (ys:=xs++[v]) (by rw[Array.toList_push];exact c.app (.cons cx .nil))) fun R' e'=> ?_
 exact k _ e' R'
noncomputable def EmL (C:Cx) (n:Nat) (F:Fr) (p:Nat) (elt:Expr) (loc:Loc) (h:Hs) (Q:Loc→Hs→Prop):Prop :=
 Ev C n F loc h elt fun v h1=>∃xs,h1.σ p= .list xs∧xs.length≤Qc∧Q loc (h1.upd p (.list (xs++[v])))
theorem EmL.bd {ρ0:List Addr} {p:Nat} {D:Addr} {elt:Expr} (hD:ρ0[p]? =some D) (H:EmL C n F p elt loc h QL):Bd C n F ρ0 (eval elt F.env >>= fun x=>call (.builtin "list.append") [.ref D,x] >>= fun _=>pure ()) loc h QL:=⟨fun A w Q' E hρ a0 R f c=>by
 refine Qw (H.run A w _ _ a0 R f fun x v h1 w1 ⟨xs,hs,hz,q1⟩ e1 R1 c1=>Qw ?_)
 exact app_list R1 (pre_get (hρ.trans e1.pre) hD) hs hz c1 fun w2 e2 R2=>Qr (c loc _ w2 q1 (e1.wide.trans (e2 _)) R2 ((f.ext0 e1).ext0 (e2 _)))⟩
theorem comp_stepL {A:Around} {elt:Expr} {gens:List Comprehension} {sc:Scope} {p:Pos} {depth:Nat} {it acc:Value} {env:Env}:∀(R:Result→Shared→Prop) (s:Shared),wpAny C.M A (compTurn (.ListComp elt gens sc p) depth it acc env) (fun fin s'=>match fin with | .done f=>R (.ok f) s' | .again c'=>c'.quiet=true∧codeAny C.M A c' R s') (fun _ _=>False) s→codeAny C.M A (.compLoop (.ListComp elt gens sc p) depth it acc env) R s:=by
 intro R s H
 refine codeAny_of_tree ?_
 rw[Around.under_of_weight (A:=A) (c:= .compLoop (.ListComp elt gens sc p) depth it acc env) (by rfl)]
 exact wpAny_noted (Q5 H (fun _ _ q=>q) fun _ _ z=>z.elim)
theorem comp_stepD {A:Around} {k v:Expr} {gens:List Comprehension} {sc:Scope} {p:Pos} {depth:Nat} {it acc:Value} {env:Env}:∀(R:Result→Shared→Prop) (s:Shared),wpAny C.M A (compTurn (.DictComp k v gens sc p) depth it acc env) (fun fin s'=>match fin with | .done f=>R (.ok f) s' | .again c'=>c'.quiet=true∧codeAny C.M A c' R s') (fun _ _=>False) s→codeAny C.M A (.compLoop (.DictComp k v gens sc p) depth it acc env) R s:=by
 intro R s H
 refine codeAny_of_tree ?_
 rw[Around.under_of_weight (A:=A) (c:= .compLoop (.DictComp k v gens sc p) depth it acc env) (by rfl)]
 exact wpAny_noted (Q5 H (fun _ _ q=>q) fun _ _ z=>z.elim)
theorem comp_startL {A:Around} {elt:Expr} {gens:List Comprehension} {g:Comprehension} {sc:Scope} {p:Pos} {depth:Nat} {it acc:Value} {env:Env} {R:Result→Shared→Prop} {s:Shared} (hg:gens[depth]? =some g) (ha:g.is_async=0) (hs:∀(Q':Value→Shared→Prop) (E:Value→Shared→Prop),Q' it s→wpAny C.M A (pyIter it) Q' E s)
 (H:codeAny C.M A (.compLoop (.ListComp elt gens sc p) depth it acc env) R s):codeAny C.M A (.compStart (.ListComp elt gens sc p) depth it acc env) R s:=by
 refine codeAny_of_tree ?_
 rw[Around.under_of_weight (A:=A) (c:= .compStart (.ListComp elt gens sc p) depth it acc env) (by rfl)]
 show wpAny _ _ ((compStart (.ListComp elt gens sc p) depth it acc env).onRaise (fun x=>do noteFrame x env;standAt theWindowsPlace)) _ _ s
 refine wpAny_notedAt ?_
 unfold compStart
 have hc:(clausesOf (.ListComp elt gens sc p))[depth]? =some g:=hg
 rw[hc]
 have hb:((some g).elim false fun x=>x.is_async != 0)=false:=by simp[ha]
 rw[hb]
 simp only[Qm,if_false]
 refine Qw (wpAny_askSetting ?_)
 split
 ·exact Qw (Qr (Qr (And.intro rfl H)))
 ·exact Qw (wpAny_rule (Qw (wpAny_standAt (Qw (hs _ _ (Qr (And.intro rfl H)))))))
theorem comp_startD {A:Around} {k v:Expr} {gens:List Comprehension} {g:Comprehension} {sc:Scope} {p:Pos} {depth:Nat} {it acc:Value} {env:Env} {R:Result→Shared→Prop} {s:Shared} (hg:gens[depth]? =some g) (ha:g.is_async=0) (hs:∀(Q':Value→Shared→Prop) (E:Value→Shared→Prop),Q' it s→wpAny C.M A (pyIter it) Q' E s)
 (H:codeAny C.M A (.compLoop (.DictComp k v gens sc p) depth it acc env) R s):codeAny C.M A (.compStart (.DictComp k v gens sc p) depth it acc env) R s:=by
 refine codeAny_of_tree ?_
 rw[Around.under_of_weight (A:=A) (c:= .compStart (.DictComp k v gens sc p) depth it acc env) (by rfl)]
 show wpAny _ _ ((compStart (.DictComp k v gens sc p) depth it acc env).onRaise (fun x=>do noteFrame x env;standAt theWindowsPlace)) _ _ s
 refine wpAny_notedAt ?_
 unfold compStart
 have hc:(clausesOf (.DictComp k v gens sc p))[depth]? =some g:=hg
 rw[hc]
 have hb:((some g).elim false fun x=>x.is_async != 0)=false:=by simp[ha]
 rw[hb]
 simp only[Qm,if_false]
 refine Qw (wpAny_askSetting ?_)
 split
 ·exact Qw (Qr (Qr (And.intro rfl H)))
 ·exact Qw (wpAny_rule (Qw (wpAny_standAt (Qw (hs _ _ (Qr (And.intro rfl H)))))))
noncomputable def namesOk (names:List (Str × NameKind)):Bool:=names.all fun x=>x.2 != .local||names.lookup x.1==some .local
theorem namesOk_spec {names:List (Str × NameKind)} (hn:namesOk names=true):∀x∈names,x.2= .local→names.lookup x.1=some .local:=fun x hx hl=>by
 have:=List.all_eq_true.mp hn x hx
 simpa [hl] using this
noncomputable def CompOk (C:Cx) (n:Nat) (e t:Expr) (tw:Fr→Nat→V→Loc→Hs→(Loc→Hs→Prop)→Prop):Prop :=
 ∀(F:Fr) (p:Nat) (D:Addr) (ρ0:List Addr) (it:Value) (wr:List Addr) (J:Nat→Heap→Prop) (ok:Hs→Prop) (src:V) (x0:Value) (items:List V),ρ0[p]? =some D→Itr C n it wr J ok (·=t) src x0 items →
  ∀(A:Around) (w0 w:Wd) (loc:Loc) (h:Hs) (Rr:Result→Shared→Prop) (QL:Loc→Hs→Prop),LpW ok (tw F p) QL items loc h→ρ0 <+: w.ρ→AOk A n→Rep C w h→Frm C w F loc→Conc C w.g w.ρ src x0→J 0 w.s.heap→(∀b∈wr,w0.s.heap.get? b=none) →
  (∀b∈wr,w.g b=none∧b∉w.ρ∧b∉C.tabs)→F.env.locals∉wr→Ext C [F.env.locals] w0 w →
  (∀(loc':Loc) (h':Hs) (w':Wd),QL loc' h'→Ext C [F.env.locals] w0 w'→w.ρ <+: w'.ρ→Rep C w' h'→Frm C w' F loc'→Rr (.ok .next) w'.s) →
  codeAny C.M A (.compStart e 0 it (.ref D) F.env) Rr w.s
theorem compOk_one {elt t i:Expr} {fs:List Expr} {scope:Scope} {pos:Pos}:CompOk C n (.ListComp elt [⟨t,i,fs,0⟩] scope pos) t (fun F p=>TurnW C n F t fs (EmL C n F p elt)):=by
 intro F p D ρ0 it wr J ok src x0 items hD T A w0 w loc h Rr QL hW hρ a0 R f c0 hJ hf ha hL e0 q
 refine comp_startL (g:=⟨t,i,fs,0⟩) rfl rfl (fun Q' E z=>T.self A 0 _ _ _ hJ z) ?_
 exact loop_run (QL:=QL) (ρ0:=w.ρ) T rfl (compTurn_one elt t i fs scope pos it (.ref D) F.env) rfl (fun A R s z=>comp_stepL R s z) (fun loc h Q z=>EmL.bd (pre_get hρ hD) z) items 0 A w0 w loc h Rr rfl hW (Ql _) a0 R f c0 hJ hf ha hL e0 q
theorem comp_core {e:Expr} {scope:Scope} {pos:Pos} {t i:Expr} {fs:List Expr} {gs:List Comprehension} {newAcc:Sem Value} {ao:AO} {use:Option (Value→Sem Unit)} {cl:List (Str × Nat)} {A:Around} {w:Wd} {E:Value→Shared→Prop} {Q':Value→Shared→Prop} {tw:Fr→Nat→V→Loc→Hs→(Loc→Hs→Prop)→Prop} {QA:Nat→Hs→Prop}
 (hok:CompOk C n e t tw) (hcl:clausesOf e=⟨t,i,fs,0⟩::gs) (hs:∀x,Q8 i F.env x=pure x) (hclo:cloA F.cel scope.names []=some cl) (hk:scope.kind= .function) (hnm:namesOk scope.names=true)
 (hacc:∀(w:Wd) (h:Hs) (Q':Value→Shared→Prop) (E:Value→Shared→Prop),Rep C w h→(∀D w',w.s.heap.get? D=none→w'.ρ=w.ρ++[D]→Ext C [] w w'→Rep C w' (h.new ao)→Q' (.ref D) w'.s)→wpAny C.M A newAcc Q' E w.s)
 (a0:AOk A n) (R:Rep C w h) (f:Frm C w F loc)
 (H:Ev C n F loc h i fun src h1=>Its C n h1 (·=t) src fun h2 ok items=>∀L cells,LpW ok (tw ⟨compEnv scope F.env L cells,celFrom (h2.nx+1) scope.names cl⟩ h2.nx) (fun _ h'=>QA h2.nx h') items [] (hsCells scope.names (h2.new ao)))
 (Hend:∀(L:Addr) (cells:List (Str × Addr)) (cel:List (Str × Nat)) (D:Addr) (p:Nat) (loc':Loc) (h':Hs) (w1 w':Wd),QA p h'→Ext C [] w w1→w1.s.heap.get? L=none→Ext C [L] w1 w'→w'.ρ[p]? =some D→Rep C w' h'→Frm C w' ⟨compEnv scope F.env L cells,cel⟩ loc'→compPost C.M A E use Q' (.ref D) L (.ok .next) w'.s) :
 wpAny C.M A (comprehension e scope F.env pos newAcc false (eval i F.env) use) Q' E w.s:=by
 refine x_EAA (closure_for f hclo) fun fc hfc hm1 hm2=> ?_
 refine wpAny_comprehension_free (g:=⟨t,i,fs,0⟩) hcl hs hfc hk (namesOk_spec hnm) (H.run A w _ _ a0 R f fun x src h1 w1 q1 e1 R1 c1=>q1.run A w1 _ _ x a0 R1 c1 fun it wr J w2 h2 ok items src' x' q2 e2 R2 hf ha hJ c2 T=> ?_)
 refine hacc w2 h2 _ _ R2 fun D w3 hD hρ e3 R3=> ?_
 have f3:Frm C w3 F loc:=((f.ext0 e1).ext0 e2).ext0 e3
 have k3:CelOk w3.ρ cl fc:=(cel_lookup hm1 hm2).pre (e1.pre.trans (e2.pre.trans e3.pre))
 refine comp_env hk R3 f3 k3 fun L cells w4 hL e4 R4 f4=> ?_
 have hL1:w1.s.heap.get? L=none:=get_none (e2.trans e3).live hL
 have l2:=T.live _ _ hJ
 have l3:∀b∈wr,∃o,w4.s.heap.get? b=some o:=fun b hb=>let⟨o,ho⟩:=l2 b hb;(e3.trans e4).live b o ho
 have hLw:L∉wr:=fun z=>by
  refine x_E (l2 L z) fun o ho=> ?_
  refine x_E (e3.live L o ho) fun o' ho'=> ?_
  rw[hL] at ho';cases ho'
 have hp:w4.ρ[h2.nx]? =some D:=pre_get e4.pre (by rw[hρ];exact R2.more_at)
 refine hok ⟨compEnv scope F.env L cells,celFrom (h2.nx+1) scope.names cl⟩ h2.nx D w4.ρ it wr J ok src' x' items hp T A w1 w4 [] _ _ (fun _ h'=>QA h2.nx h') (q2 L cells) (Ql _) a0 R4 f4 ((c2.ext e3).ext e4) (T.keep _ _ _ hJ fun b hb=> ?_) hf (apart_ext ha l2 (e3.trans e4)) hLw (e2.trans (e3.trans e4)).wide fun loc' h' w' z e' hp' R' f'=> ?_
 · refine x_E (l2 b hb) fun o ho=> ?_
   rw[ho];exact(e3.trans e4).kept b o ho (ha b hb).2.1 (by simp) (ha b hb).2.2
 ·exact Hend L cells _ D h2.nx loc' h' w1 w' z e1 hL1 e' (pre_get hp' hp) R' f'
theorem acc_list {A:Around}:∀(w:Wd) (h:Hs) (Q':Value→Shared→Prop) (E:Value→Shared→Prop),Rep C w h→(∀D w',w.s.heap.get? D=none→w'.ρ=w.ρ++[D]→Ext C [] w w'→Rep C w' (h.new (.list []))→Q' (.ref D) w'.s)→wpAny C.M A (newList []) Q' E w.s:=fun w h Q' E R c=>by
 have hn:w.s.heap.get? w.s.heap.objs.size=none:=fresh_none (Qt _)
 exact wpAny_newList (c _ (w.more _ _ w.s.toks) hn rfl (Ext.fresh hn push_keeps) (R.fresh hn push_keeps (Qu _ rfl) ⟨#[],0,rfl, .nil⟩ (R.fresh0 hn)))
theorem comp_end {A:Around} {E:Value→Shared→Prop} {Q':Value→Shared→Prop} {scope:Scope} {L:Addr} {cells:List (Str × Addr)} {cel:List (Str × Nat)} {D:Addr} {p:Nat} {loc':Loc} {h':Hs} {w w1 w':Wd} (e1:Ext C [] w w1) (hL:w1.s.heap.get? L=none) (e':Ext C [L] w1 w') (hp:w'.ρ[p]? =some D) (R':Rep C w' h') (f':Frm C w' ⟨compEnv scope F.env L cells,cel⟩ loc')
 (c:∀w'',Ext C [] w w''→Rep C w'' h'→w''.ρ[p]? =some D→Q' (.ref D) w''.s):compPost C.M A E none Q' (.ref D) L (.ok .next) w'.s:=by
 refine x_EA f'.ns fun m hn _=> ?_
 refine⟨m,hn,fun hp' sb=>c (w'.at hp' w'.s.toks) (e1.trans (Ext.under (Ext.base (wr:=[L]) e' (by simpa using hL) (by simp;exact f'.offρ) fun b o hb e=>(sb.2 b (by simpa using hb)).trans e) hL)) (R'.apart (wr:=[L]) (fun b o hb e=>(sb.2 b (by simpa using hb)).trans e) (by simpa using ⟨f'.off,f'.offρ,f'.offt⟩)) hp⟩
theorem comp_end_use {A:Around} {E:Value→Shared→Prop} {Q':Value→Shared→Prop} {scope:Scope} {L:Addr} {cells:List (Str × Addr)} {cel:List (Str × Nat)} {D:Addr} {p:Nat} {loc':Loc} {h':Hs} {w w1 w':Wd} {t:Expr} (a0:AOk A n) (f:Frm C w F loc) (e1:Ext C [] w w1) (hL:w1.s.heap.get? L=none) (e':Ext C [L] w1 w') (hp:w'.ρ[p]? =some D) (R':Rep C w' h') (f':Frm C w' ⟨compEnv scope F.env L cells,cel⟩ loc')
 (H:As C n F loc h' t (.ref p) QL) (c:∀loc2 h2 w'',QL loc2 h2→Ext C [F.env.locals] w w''→Rep C w'' h2→Frm C w'' F loc2→Q' .none w''.s):compPost C.M A E (some (assign t F.env)) Q' (.ref D) L (.ok .next) w'.s:=by
 have hne:F.env.locals≠L:=by
  refine x_E ((f.ext0 e1).live) fun o ho=> ?_
  rintro rfl;rw[hL] at ho;cases ho
 have fo:Frm C w' F loc:=(f.ext0 e1).ext e' (by simpa using hne)
 show wpAny C.M A (assign t F.env (.ref D)) _ E w'.s
 refine H.run A w' _ _ _ a0 R' fo (.ref hp) fun loc2 h2 w2 q2 e2 R2 f2=> ?_
 have f2':=f'.ext e2 (by simpa [compEnv] using fun z:L=F.env.locals=>hne z.symm)
 refine x_EA f2'.ns fun m hn _=> ?_
 refine⟨m,hn,fun hp' sb=> ?_⟩
 have e3:Ext C [L,F.env.locals] w1 w2:=(e'.widen (by simp)).trans (e2.widen (by simp))
 have e4:Ext C [L,F.env.locals] w1 (w2.at hp' w2.s.toks):=Ext.base (wr:=[L]) e3 (by simpa using hL) (by simp;exact f2'.offρ) fun b o hb e=>(sb.2 b (by simpa using hb)).trans e
 have e5:Ext C [F.env.locals] w1 (w2.at hp' w2.s.toks):=⟨e4.sub,e4.new,e4.pre,e4.newρ,fun b o e h1 h2 h3=>e4.kept b o e h1 (fun q=>by
  rcases QY.mp q with q|q
  ·rw[q,hL] at e;cases e
  ·exact h2 q) h3,e4.live⟩
 exact c loc2 h2 _ q2 (e1.wide.trans e5) (R2.apart (wr:=[L]) (fun b o hb e=>(sb.2 b (by simpa using hb)).trans e) (by simpa using ⟨f2'.off,f2'.offρ,f2'.offt⟩)) (f2.apart (wr:=[L]) (fun b o hb e=>(sb.2 b (by simpa using hb)).trans e) (by simpa using hne))
theorem ev_listcomp {elt t i:Expr} {fs:List Expr} {gs:List Comprehension} {scope:Scope} {pos:Pos} {cl:List (Str × Nat)} {tw:Fr→Nat→V→Loc→Hs→(Loc→Hs→Prop)→Prop} (hok:CompOk C n (.ListComp elt (⟨t,i,fs,0⟩::gs) scope pos) t tw)
 (H:Ev C n F loc h i fun src h1=>Its C n h1 (·=t) src fun h2 ok items=>∀L cells,LpW ok (tw ⟨compEnv scope F.env L cells,celFrom (h2.nx+1) scope.names cl⟩ h2.nx) (fun _ h'=>Q (.ref h2.nx) h') items [] (hsCells scope.names (h2.new (.list []))))
 (hclo:autoParam (cloA F.cel scope.names []=some cl) aR) (hk:autoParam (scope.kind= .function) aR) (hnm:autoParam (namesOk scope.names=true) aR) (hs:autoParam (∀x,Q8 i F.env x=pure x) aI):Ev C n F loc h (.ListComp elt (⟨t,i,fs,0⟩::gs) scope pos) Q:=⟨fun A w Q' E a0 R f c=>by
 rw[eval_ListComp]
 exact comp_core (use:=none) (QA:=fun p h'=>Q (.ref p) h') hok rfl hs hclo hk hnm acc_list a0 R f H fun L cells cel D p loc' h' w1 w' q e1 hL e' hp R' f'=>comp_end e1 hL e' hp R' f' fun w'' e'' R'' hp''=>c _ _ h' w'' q e'' R'' (.ref hp'')⟩
theorem ex_assign_listcomp {elt t i u:Expr} {fs:List Expr} {gs:List Comprehension} {scope:Scope} {pos p:Pos} {cl:List (Str × Nat)} {tw:Fr→Nat→V→Loc→Hs→(Loc→Hs→Prop)→Prop} (hok:CompOk C n (.ListComp elt (⟨t,i,fs,0⟩::gs) scope pos) t tw)
 (hsw:swapsWith (.ListComp elt (⟨t,i,fs,0⟩::gs) scope pos) (some u) p.line F.env=pure true)
 (H:Ev C n F loc h i fun src h1=>Its C n h1 (·=t) src fun h2 ok items=>∀L cells,LpW ok (tw ⟨compEnv scope F.env L cells,celFrom (h2.nx+1) scope.names cl⟩ h2.nx) (fun _ h'=>As C n F loc h' u (.ref h2.nx) fun loc2 h2=>QF .next loc2 h2) items [] (hsCells scope.names (h2.new (.list []))))
 (hclo:autoParam (cloA F.cel scope.names []=some cl) aR) (hk:autoParam (scope.kind= .function) aR) (hnm:autoParam (namesOk scope.names=true) aR) (hs:autoParam (∀x,Q8 i F.env x=pure x) aI) (he:autoParam ((assignEach [u] F.env).map (·.2)=[assign u F.env]) aR):Ex C n F loc h (.Assign [u] (.ListComp elt (⟨t,i,fs,0⟩::gs) scope pos) p) QF:=⟨fun A w Q' E a0 R f c=>by
 rw[exec_Assign_arm]
 refine Qw (wpAny_standAt ?_)
 have:swapsWithSole [u] (.ListComp elt (⟨t,i,fs,0⟩::gs) scope pos) p.line F.env=pure true:=hsw
 rw[this]
 refine Qw (Qr ?_)
 rw[if_pos rfl,he]
 refine Qw ?_
 show wpAny _ A (do let _ ←comprehension (.ListComp elt (⟨t,i,fs,0⟩::gs) scope pos) scope F.env _ (newList []) false (eval i F.env) (some (assign u F.env))) _ _ w.s
 refine Qw (comp_core (use:=some (assign u F.env)) (QA:=fun p h'=>As C n F loc h' u (.ref p) fun loc2 h2=>QF .next loc2 h2) hok rfl hs hclo hk hnm acc_list a0 R f H fun L cells cel D p loc' h' w1 w' q e1 hL e' hp R' f'=>comp_end_use a0 f e1 hL e' hp R' f' q fun loc2 h2 w'' q2 e'' R'' f''=> ?_)
 exact Qr (Qr (c _ _ loc2 h2 w'' q2 e'' R'' f'' .next))⟩
end
noncomputable def owned:List String:=["enumerate", "zip", "dict_itemiterator", "dict_reverseitemiterator", "odict_iterator", "itertools.zip_longest", "itertools.pairwise"]
theorem letGo_other {M:Model} {A:Around} {E:Value→Shared→Prop} {s:Shared} {t:Expr} {I:Addr} {o:Obj} {nm:String} {x:Value} {Q:Unit→Shared→Prop} (ho:s.heap.get? I=some o) (hc:o.cls= .type nm) (hn:owned.contains nm=false) (q:Q () s):wpAny M A (letOwnedTupleGo t (.ref I) x) Q E s:=by
 have main:wpAny M A (do
  let(.ref r, .ref a):=(Value.ref I,x)|return
  let o ←load r
  match o.cls,o.data with
  | .type n, .fields vs =>
   if owned.contains n&&vs[0]? ==some (rawInt a) then
    rule "for.unpacks-the-owned-tuple"
    updateField r 0 .none
  |_,_=>pure ()) Q E s:=by
  cases x<;>try exact Qr q
  refine Qw (wpAny_load ho ?_)
  rw[hc]
  cases o.data<;>try exact Qr q
  dsimp only
  rw[hn]
  simp only[Bool.false_and,Qm,if_false]
  exact Qr q
 cases t<;>first|exact Qr q|exact main
section
variable {K:Hs→(Hs→Prop)→List V→Prop} {tg:Expr→Prop}
theorem itr_walks {I:Addr} {J:Nat→Heap→Prop} {ok:Hs→Prop} {src:V} {x0:Value} {items:List V}
 (hcls:∀k hp,J k hp→∃o nm,hp.get? I=some o∧o.cls= .type nm∧owned.contains nm=false) (hkeep:∀k hp hp',J k hp→hp'.get? I=hp.get? I→J k hp')
 (hself:∀(A:Around) (k:Nat) (s:Shared) (Q':Value→Shared→Prop) (E:Value→Shared→Prop),J k s.heap→Q' (.ref I) s→wpAny C.M A (pyIter (.ref I)) Q' E s)
 (hW:∀(A:Around) (w:Wd) (h:Hs) (k:Nat),AOk A n→Rep C w h→Conc C w.g w.ρ src x0→ok h→J k w.s.heap→w.g I=none→I∉w.ρ→∃(fp:List Addr) (m:Nat) (P:Nat→Value→Prop) (St:Nat→Heap→Prop),Walks C.prog C.w A I fp [I] m P St∧items.length=m∧k≤m∧St k w.s.heap ∧
  (∀v x,items[k]? =some v→P k x→Conc C w.g w.ρ v x)∧(∀hp',St (k+1) hp'→k<m→J (k+1) hp')):Itr C n (.ref I) [I] J ok tg src x0 items where
 next:=fun A w h k v t Q' E a0 R c0 hok hJ ha hk _ q=>by
  refine x_AA (ha I (by simp)) fun h1 h2 h3=> ?_
  refine x_EEEEAAAAA (hW A w h k a0 R c0 hok hJ h1 h2) fun fp m P St W hm hkm hst hP hJ'=> ?_
  have hlt:k<m:=by rw[←hm];exact(Qp.mp hk).1
  refine W.item k w.s _ _ hlt hst fun x hp tk hx hst' keep=> ?_
  have hJ1:=hJ' hp hst' hlt
  refine x_EEAA (hcls _ _ hJ1) fun o nm ho hc hn=> ?_
  refine letGo_other (s:={w.s with heap:=hp,toks:=tk }) ho hc hn (q x (w.at hp tk) ⟨.refl _,fun _ _ e=> .inl e,Ql _,fun _ z=> .inl z,fun b o e _ hb _=>keep b o hb e,fun b o' e=> ?_⟩ rfl (R.apart keep ha) hJ1 (hP v x hk hx))
  by_cases hb:b=I
  ·exact⟨o,hb▸ho⟩
  ·exact⟨o',keep b o' (by simpa using hb) e⟩
 stop:=fun A w h k Q' E a0 R c0 hok hJ ha hk q=>by
  refine x_AA (ha I (by simp)) fun h1 h2 h3=> ?_
  refine x_EEEEAAAAA (hW A w h k a0 R c0 hok hJ h1 h2) fun fp m P St W hm hkm hst _ _=> ?_
  have:k=m:=by have:=List.getElem?_eq_none_iff.mp hk;omega
  subst this
  exact W.done w.s _ _ hst fun hp tk keep=>q hp tk keep
 keep:=fun k hp hp' hJ e=>hkeep k hp hp' hJ (e I (by simp))
 live:=fun k hp hJ b hb=>by refine x_EEA (hcls k hp hJ) fun o _ ho _=> ?_;exact⟨o,by rw[Qs.mp hb];exact ho⟩
 self:=hself
theorem Concs.get {g:G} {ρ:List Addr} {vs:List V} {xs:List Value} (c:Concs C g ρ vs xs) {k:Nat} {v:V} (h:vs[k]? =some v):∃x,xs[k]? =some x∧Conc C g ρ v x:=by
 refine c.ind (P:=fun vs xs=>∀k:Nat,vs[k]? =some v→∃x,xs[k]? =some x∧Conc C g ρ v x) (fun k h=>by cases h) (fun a _ e k h=> ?_) k h
 cases k with
 |zero=>cases h;exact⟨_,rfl,a⟩
 |succ k=>exact e k h
noncomputable def IsLst (h:Hs):V→List V→Prop
 | .lst xs,ys=>xs=ys
 | .ref i,ys=>h.σ i= .list ys
 |_,_=>False
theorem IsLst.at {v:V} {xs:List V} {x:Value} {w:Wd} (hv:IsLst h v xs) (R:Rep C w h) (c:Conc C w.g w.ρ v x):∃a vs,x= .ref a∧w.s.heap.PlainList a vs∧Concs C w.g w.ρ xs vs.toList∧((∃o,w.g a=some o)∨a∈w.ρ):=by
 cases v with
 |lst ys =>
  cases hv
  refine c.eLst fun _ _ _ hg cs=> ?_
  ·exact⟨_,_,rfl,⟨_,R.keep _ _ hg⟩,by simpa using cs, .inl ⟨_,hg⟩⟩
 |ref i =>
  refine c.eRef fun _ hi=> ?_
  ·
   refine x_EA (R.list hi hv) fun vs hl cs=> ?_
   exact⟨_,vs,rfl,hl,cs, .inr (Qa hi)⟩
 |_=>exact hv.elim
@[elab_as_elim] theorem IsLst.e {v : V} {xs : List V} {x : Value} {w : Wd} {P : Value → Prop} (hv : IsLst h v xs) (R : Rep C w h) (c : Conc C w.g w.ρ v x) (k : ∀ a vs, w.s.heap.PlainList a vs → Concs C w.g w.ρ xs vs.toList → ((∃ o, w.g a = some o) ∨ a ∈ w.ρ) → P (.ref a)) : P x := (hv.at R c).elim fun a h => h.elim fun b h => eqE h.1 (k a b h.2.1 h.2.2.1 h.2.2.2)
theorem its_list {v:V} {xs:List V} (hv:IsLst h v xs) (q:K h (fun h'=>IsLst h' v xs) xs):Its C n h tg v K:=⟨fun A w Q' E x0 a0 R c k=>by
 refine x_EEAAA (hv.at R c) fun l vs z33 hl cs hin=> ?_;subst z33
 have hn:w.s.heap.get? w.s.heap.objs.size=none:=fresh_none (Qt _)
 have off:=R.off_fresh hn
 refine wpAny_pyIter_list hl.isList (k (.ref w.s.heap.objs.size) [w.s.heap.objs.size] (fun j hp=>j≤xs.length∧hp.IsListIter w.s.heap.objs.size l j) (w.at _ w.s.toks) h _ xs v (.ref l) q (Ext.grow push_keeps) (R.grow push_keeps) (by simpa using hn) (by simpa using off) ⟨Qz _,_,Qu _ rfl,rfl,rfl⟩ c ?_)
 refine itr_walks (fun k hp hJ=>let⟨o,e1,e2,_⟩:=hJ.2;⟨o,_,e1,e2,rfl⟩) (fun k hp hp' hJ e=>⟨hJ.1,let⟨o,e1,r⟩:=hJ.2;⟨o,e.trans e1,r⟩⟩) (fun A k s Q' E hJ q=>wpAny_pyIter_listiter hJ.2 q) fun A' w' h' j a1 R' c' hok hJ hg hρ=> ?_
 refine x_EEAAA (IsLst.at hok R' c') fun l' vs' e hl' cs' hin'=> ?_
 cases e
 have hlen:vs'.size=xs.length:=by rw[←QD,cs'.length]
 have hne:l≠w.s.heap.objs.size:=by
  rintro rfl
  rcases hin' with⟨o,z⟩|z
  ·rw[hg] at z;cases z
  ·exact hρ z
 refine⟨_,_,_,_,Walks.list a1.handled _ l hne vs',hlen.symm,by rw[hlen];exact hJ.1,⟨hJ.2,hl'.isList⟩,fun v x hv hx=> ?_,fun hp' st hlt=>⟨by rw[←hlen];exact hlt,st.1⟩⟩
 refine x_EA (cs'.get hv) fun y hy cy=> ?_
 have hx:vs'[j]? =some x:=hx
 rw[←Array.getElem?_toList,hy] at hx
 cases hx;exact cy⟩
noncomputable def rangeV (a c:Int) (m:Nat):List V:=(Wo m).map fun(i:Nat)=>V.int (a+(i:Int)*c)
theorem its_rng {a b c:Int} (hs:Builtin.Range.small a b c=true) (h0:0≤Q6 a b c) (q:K h (fun _=>True) (rangeV a c (Q6 a b c).toNat)):Its C n h tg (.rng a b c) K:=⟨fun A w Q' E x0 a0 R cc k=>by
 obtain⟨x,t,t',t'',rfl,hg⟩:=cc.toInv
 ·
  have hn:w.s.heap.get? w.s.heap.objs.size=none:=fresh_none (Qt _)
  have off:=R.off_fresh hn
  have hlen:(rangeV a c (Q6 a b c).toNat).length=(Q6 a b c).toNat:=by simp[rangeV]
  refine wpAny_pyIter_range (R.keep _ _ hg) hs (k (.ref w.s.heap.objs.size) [w.s.heap.objs.size] (fun j hp=>j≤(Q6 a b c).toNat∧IsRangeIter hp w.s.heap.objs.size (a+(j:Nat)*c) (((Q6 a b c).toNat:Int)-(j:Nat)) c) (w.at _ w.s.toks) h _ _ .none .none q (Ext.grow push_keeps) (R.grow push_keeps) (by simpa using hn) (by simpa using off) ⟨Qz _, ?_⟩ .none ?_)
  · have:((Q6 a b c).toNat:Int)=Q6 a b c:=Int.toNat_of_nonneg h0
    have e:(w.s.heap.push {cls:= .type "range_iterator",data:= .fields #[rawInt a,rawInt (Q6 a b c),rawInt c] }).get? w.s.heap.objs.size=_:=Qu _ rfl
    simpa [IsRangeIter,this,rawInt] using e
  · refine itr_walks (fun k hp hJ=>⟨_,_,hJ.2,rfl,rfl⟩) (fun k hp hp' hJ e=>⟨hJ.1,e.trans hJ.2⟩) (fun A k s Q' E hJ q=>wpAny_pyIter_rangeiter hJ.2 q) fun A' w' h' j a1 R' c' hok hJ hg' hρ=> ?_
    refine⟨_,_,_,_,Walks.range a1.handled _ a c (Q6 a b c).toNat,hlen,hJ.1,hJ.2,fun v x hv hx=> ?_,fun hp' st hlt=>⟨hlt,st⟩⟩
    refine x_E hx fun t z34=> ?_;subst z34
    have:v= .int (a+(j:Int)*c):=by
     simp only[rangeV,Qb,QW] at hv
     refine x_EA hv fun i hi z35=> ?_;subst z35
     rw[List.getElem?_range (by have:=(Qp.mp hi).1;simpa using this)] at hi
     cases hi;rfl
    rw[this];exact .int _ _⟩
end
noncomputable def kget {β:Type} (kvs:List (Key × β)) (k:Key):Option β:=(kvs.find? fun kv=>kv.1=k).map (·.2)
noncomputable def kput {β:Type} (kvs:List (Key × β)) (k:Key) (v:β):List (Key × β):=if kvs.any (fun kv=>kv.1=k) then kvs.map (fun kv=>if kv.1=k then(kv.1,v) else kv) else kvs++[(k,v)]
noncomputable def kdel {β:Type} (kvs:List (Key × β)) (k:Key):List (Key × β):=kvs.filter fun kv=> !decide (kv.1=k)
inductive DRel (C:Cx) (g:G) (ρ:List Addr):List (Key × V)→List (Key × Value)→Prop
 |nil:DRel C g ρ [] []
 |cons {k:Key} {v:V} {y:Value} {a:List (Key × V)} {b:List (Key × Value)}:Conc C g ρ v y→DRel C g ρ a b→DRel C g ρ ((k,v)::a) ((k,y)::b)
section
variable {g:G} {ρ:List Addr}
theorem DRel.of:∀{a:List (Key × V)} {b:List (Key × Value)},b.map (·.1)=a.map (·.1)→Concs C g ρ (a.map (·.2)) (b.map (·.2))→DRel C g ρ a b
 |[],[],_,_=> .nil
 |[],_::_,h,_=>by cases h
 |_::_,[],h,_=>by cases h
 |(k,v)::a,(k',y)::b,h,c=>by
  simp only[Q3,List.cons.injEq] at h
  refine x_A h ?_;clear h;intro z36 h;subst z36
  cases c with
  |cons c1 c2=>exact .cons c1 (DRel.of h c2)
theorem DRel.keys {a:List (Key × V)} {b:List (Key × Value)} (r:DRel C g ρ a b):b.map (·.1)=a.map (·.1):=by
 induction r with
 |nil=>rfl
 |cons _ _ ih=>simp[ih]
theorem DRel.vals {a:List (Key × V)} {b:List (Key × Value)} (r:DRel C g ρ a b):Concs C g ρ (a.map (·.2)) (b.map (·.2)):=by
 induction r with
 |nil=>exact .nil
 |cons c _ ih=>exact .cons c ih
theorem DRel.length {a:List (Key × V)} {b:List (Key × Value)} (r:DRel C g ρ a b):b.length=a.length:=by
 have:=congrArg List.length r.keys;simpa using this
theorem DRel.get {a:List (Key × V)} {b:List (Key × Value)} (r:DRel C g ρ a b) (k:Key):(∀v,kget a k=some v→∃y,valueAt b k=some y∧Conc C g ρ v y)∧(kget a k=none→valueAt b k=none):=by
 induction r with
 |nil=>exact⟨fun v h=>by simp[kget] at h,fun _=>rfl⟩
 | @cons k' v' y' a b c _ ih =>
  by_cases hk:k'=k
  · subst hk
    exact⟨fun v h=>by simp[kget] at h;subst h;exact⟨y',by simp[valueAt],c⟩,fun h=>by simp[kget] at h⟩
  · have e1:kget ((k',v')::a) k=kget a k:=by simp[kget,hk]
    have e2:valueAt ((k',y')::b) k=valueAt b k:=by simp[valueAt,hk]
    rw[e1,e2];exact ih
theorem DRel.map_put {a:List (Key × V)} {b:List (Key × Value)} (r:DRel C g ρ a b) (k:Key) {v:V} {y:Value} (c:Conc C g ρ v y):DRel C g ρ (a.map fun kv=>if kv.1=k then(kv.1,v) else kv) (b.map fun kv=>if kv.1=k then(kv.1,y) else kv):=by
 induction r with
 |nil=>exact .nil
 | @cons k' v' y' a b c' _ ih =>
  simp only[Q3]
  by_cases hk:k'=k
  ·rw[if_pos hk,if_pos hk];exact .cons c ih
  ·rw[if_neg hk,if_neg hk];exact .cons c' ih
theorem DRel.app {a a':List (Key × V)} {b b':List (Key × Value)} (r:DRel C g ρ a b) (r':DRel C g ρ a' b'):DRel C g ρ (a++a') (b++b'):=by
 induction r with
 |nil=>exact r'
 |cons c _ ih=>exact .cons c ih
theorem DRel.any {a:List (Key × V)} {b:List (Key × Value)} (r:DRel C g ρ a b) (k:Key):b.any (fun kv=>decide (kv.1=k))=a.any (fun kv=>decide (kv.1=k)):=by
 induction r with
 |nil=>rfl
 |cons c _ ih=>simp[ih]
theorem DRel.put {a:List (Key × V)} {b:List (Key × Value)} (r:DRel C g ρ a b) (k:Key) {v:V} {y:Value} (c:Conc C g ρ v y):DRel C g ρ (kput a k v) (stored b k y):=by
 unfold kput stored
 rw[r.any k]
 split
 ·exact r.map_put k c
 ·exact r.app (.cons c .nil)
theorem DRel.del {a:List (Key × V)} {b:List (Key × Value)} (r:DRel C g ρ a b) (k:Key):DRel C g ρ (kdel a k) (without b k):=by
 unfold kdel without
 induction r with
 |nil=>exact .nil
 | @cons k' v' y' a b c' _ ih =>
  simp only[List.filter_cons]
  by_cases hk:k'=k
  ·simp[hk];simpa using ih
  ·simp[hk];exact .cons c' (by simpa using ih)
end
section
variable {QU:Hs→Prop} {K:Hs→(Hs→Prop)→List V→Prop} {tg:Expr→Prop} {QM:V→List V→Hs→Prop}
theorem key_is {g:G} {ρ:List Addr} {k:Key} {x:Value} (c:Conc C g ρ k.v x):C.k.is k x=true:=by
 cases k with
 |i n=>refine x_E c.toInv fun _ z37=> ?_;subst z37;simp[kk,Key.is,Value.isInt]
 |s y=>refine x_E c.toInv fun _ z38=> ?_;subst z38;simp[kk,Key.is,Value.isStrOf]
theorem key_scan {g:G} {ρ:List Addr} {k:Key} {x:Value} (c:Conc C g ρ k.v x):x.scannable=true:=by
 cases k<;>(refine x_E c.toInv fun _ z39=> ?_;subst z39;rfl)
theorem key_conc {g:G} {ρ:List Addr} {k:Key} {x:Value} (c:C.k.is k x=true):Conc C g ρ k.v x:=by
 cases k with
 |i n=>refine x_E (Value.isInt_shape c) fun t z40=> ?_;subst z40;exact .int _ _
 |s y=>refine x_E (Value.isStrOf_shape c) fun t z41=> ?_;subst z41;exact .str _ _
noncomputable def IsDct (h:Hs):V→List (Key × V)→Prop
 | .fdict a,b=>a=b
 | .ref i,b=>h.σ i= .dict b∨∃ep,h.σ i= .dictE ep b
 |_,_=>False
theorem IsDct.at {v:V} {kvs:List (Key × V)} {x:Value} {w:Wd} (hv:IsDct h v kvs) (R:Rep C w h) (c:Conc C w.g w.ρ v x):∃a kvs',x= .ref a∧w.s.heap.DictOf C.k a kvs'∧DRel C w.g w.ρ kvs kvs'∧C.h₀.get? a=none∧((∃o,w.g a=some o)∨a∈w.ρ):=by
 cases v with
 |fdict b =>
  cases hv
  refine x_EEEAAAAA c.toInv fun _ _ _ z42 hg ho h0 hk cs=> ?_;subst z42
  ·exact⟨_,_,rfl,Heap.dictOf_iff.mpr ⟨_,R.keep _ _ hg,ho⟩, .of hk cs,h0, .inl ⟨_,hg⟩⟩
 |ref i =>
  refine c.eRef fun _ hi=> ?_
  ·
   refine x_EA (R.obj i _ hi) fun o h1 h2=> ?_
   rcases hv with hv|⟨ep,hv⟩
   · rw[hv] at h2
     refine x_EAA h2 fun kvs' h3 h4 h5=> ?_
     exact⟨_,kvs',rfl,Heap.dictOf_iff.mpr ⟨o,h1,h3⟩, .of h4 h5,R.new _ (Qa hi), .inr (Qa hi)⟩
   · rw[hv] at h2
     refine x_EAAA h2 fun kvs' _ h3 h4 h5=> ?_
     exact⟨_,kvs',rfl,Heap.dictOf_iff.mpr ⟨o,h1,h3⟩, .of h4 h5,R.new _ (Qa hi), .inr (Qa hi)⟩
 |_=>exact hv.elim
@[elab_as_elim] theorem IsDct.e {v : V} {kvs : List (Key × V)} {x : Value} {w : Wd} {P : Value → Prop} (hv : IsDct h v kvs) (R : Rep C w h) (c : Conc C w.g w.ρ v x) (k : ∀ a kvs', w.s.heap.DictOf C.k a kvs' → DRel C w.g w.ρ kvs kvs' → C.h₀.get? a = none → ((∃ o, w.g a = some o) ∨ a ∈ w.ρ) → P (.ref a)) : P x := (hv.at R c).elim fun a h => h.elim fun b h => eqE h.1 (k a b h.2.1 h.2.2.1 h.2.2.2.1 h.2.2.2.2)
theorem Rep.setDict {w:Wd} {hp:Heap} {i tk:Nat} {a:Addr} {kvs:List (Key × V)} {kvs':List (Key × Value)} (R:Rep C w h) (hi:w.ρ[i]? =some a) (hs:h.σ i≠ .dead) (hl:hp.DictOf C.k a kvs') (hsb:∀b o,b≠a→w.s.heap.get? b=some o→hp.get? b=some o) (c:DRel C w.g w.ρ kvs kvs'):Rep C (w.at hp tk) (h.upd i (.dict kvs))∧∀X,Ext C X w (w.at hp tk):=by
 refine x_EA (Heap.dictOf_iff.mp hl) fun o ho hd=> ?_
 exact⟨R.change hi hs hsb ho ⟨kvs',hd,c.keys,c.vals⟩,fun X=>Ext.change hi hsb ho⟩
theorem IsDct.mut {i:Nat} {kvs:List (Key × V)} {x:Value} {w:Wd} (hv:h.σ i= .dict kvs) (R:Rep C w h) (c:Conc C w.g w.ρ (.ref i) x):∃a kvs',x= .ref a∧w.ρ[i]? =some a∧w.s.heap.DictOf C.k a kvs'∧DRel C w.g w.ρ kvs kvs'∧C.h₀.get? a=none:=by
 refine x_EEAAAA (IsDct.at (v:= .ref i) (.inl hv) R c) fun a kvs' z43 h1 h2 h3 _=> ?_;subst z43
 refine x_EA c.toInv fun _ e hi=> ?_
 cases e
 exact⟨a,kvs',rfl,hi,h1,h2,h3⟩
noncomputable def SysIn (C:Cx):Prop:=∃o,C.h₀.get? sysModules=some o
theorem SysIn.ne {a:Addr} (S:SysIn C) (h0:C.h₀.get? a=none):(a==sysModules)=false:=by
 rw[beq_eq_false_iff_ne];rintro rfl;refine x_E S fun o ho=> ?_;rw[h0] at ho;cases ho
theorem ev_dict0 {p:Pos} (q:Q (.ref h.nx) (h.new (.dict []))):Ev C n F loc h (.Dict [] [] p) Q:=⟨fun A w Q' E a0 R f c=>by
 have hn:w.s.heap.get? w.s.heap.objs.size=none:=fresh_none (Qt _)
 refine wpAny_Dict_empty ?_
 refine c _ _ _ (w.more _ _ w.s.toks) q (Ext.fresh hn push_keeps) (R.fresh (o:={cls:= .type "dict",data:= .dict #[] }) hn push_keeps (Qu _ rfl) ?_ (R.fresh0 hn)) (.ref R.more_at)
 refine x_EA (Heap.dictOf_iff.mp (Heap.DictOf.new (knd:=C.k) w.s.heap)) fun o ho hd=> ?_
 rw[Qu _ rfl] at ho;cases ho
 exact⟨[],hd,rfl, .nil⟩⟩
theorem dct_in {S:SysIn C} {v:V} {k:Key} {kvs:List (Key × V)} (hv:IsDct h v kvs) (q:Q (.bool (kget kvs k).isSome) h):Op2 C n (QQ .In) h k.v v Q:=⟨fun A w Q' E x y a0 R cx cy c=>by
 refine hv.e R cy fun a kvs' hd r h0 _=> ?_
 refine wpAny_in_of (key_is cx) (S.ne h0) hd.mapOf ?_
 have e:(valueAt kvs' k).isSome=(kget kvs k).isSome:=by
  cases q:kget kvs k with
  |none=>rw[(r.get k).2 q];rfl
  |some v=>refine x_EA ((r.get k).1 v q) fun y h1 _=> ?_;rw[h1];rfl
 rw[e]
 exact c _ _ h (w.toks _) q .toks R.toks (.bool _)⟩
theorem dct_set {i:Nat} {k:Key} {u:V} {kvs:List (Key × V)} (hv:h.σ i= .dict kvs) (hz:kvs.length≤Qc) (q:QU (h.upd i (.dict (kput kvs k u)))):Up3 C n setItem h (.ref i) k.v u QU:=⟨fun A w Q' E x y z a0 R cx cy cz c=>by
 refine x_EEAAAA (IsDct.mut hv R cx) fun a kvs' z44 hi hd r h0=> ?_;subst z44
 refine wpAny_setItem_pairs (key_is cy) hd (fun h' hd' sb=> ?_) (by rw[r.length];exact hz)
 refine x_A (R.setDict (tk:=w.s.toks+1) hi (by rw[hv];simp) hd' (fun b o hb e=>(sb.2 b hb).trans e) (r.put k cz)) fun R' e'=> ?_
 exact c _ _ q (e' _) R'⟩
theorem dct_del {i:Nat} {k:Key} {kvs:List (Key × V)} (hv:h.σ i= .dict kvs) (hk:(kget kvs k).isSome=true) (hz:kvs.length≤Qc) (q:QU (h.upd i (.dict (kdel kvs k)))):Up2 C n delItem h (.ref i) k.v QU:=⟨fun A w Q' E x y a0 R cx cy c=>by
 refine x_EEAAAA (IsDct.mut hv R cx) fun a kvs' z45 hi hd r h0=> ?_;subst z45
 refine x_E (Option.isSome_iff_exists.mp hk) fun u hu=> ?_
 refine x_EA ((r.get k).1 u hu) fun z h1 h2=> ?_
 refine wpAny_delItem_slot hd.typeIs (by decide) F.slot_dict_delitem (call_meetsIn F.slot_dict_delitem hd.typeIs F.entry_dict_delitem (F.args_dict_delitem_2 _ _) (meets_dict_delitem_pairs C.k a (key_is cy)) ⟨kvs',hd,by rw[r.length];exact hz,by rw[h1];rfl,fun h' hd' sb=> ?_⟩)
 refine x_A (R.setDict (tk:=w.s.toks+1) hi (by rw[hv];simp) hd' (fun b o hb e=>(sb.2 b hb).trans e) (r.del k)) fun R' e'=> ?_
 exact c _ _ q (e' _) R'⟩
theorem mth_dct {v:V} {name:Str} {id:String} {kvs:List (Key × V)} (hv:IsDct h v kvs) (slot:Slot "dict" name id) (ht:typeOf (.builtin id)=pure (.type "method_descriptor")) (q:QM (.blt id) [v] h):Mth C n h v name QM:=⟨fun A w Q' E x pl a0 R cx c=>by
 refine x_EEAAAA (hv.at R cx) fun a kvs' z46 hd r h0 _=> ?_;subst z46
 exact getMethod_builtin hd.typeIs F.plainAttrs_dict slot ht (fun b e=>by cases e;refine x_EEEAA hd fun o es ep ho hc _=> ?_;exact⟨o,ho,hc.2.1⟩) (c _ _ _ _ h w q .refl R (.blt id) (.cons cx .nil))⟩
theorem cl_dct_get2 {S:SysIn C} {v d:V} {k:Key} {kvs:List (Key × V)} (hv:IsDct h v kvs) (q:Q ((kget kvs k).getD d) h):Cl C n h (.blt "dict.get") [v,k.v,d] [] Q:=⟨fun A w Q' E fx xs ks a0 R cf cx hk ck c=>by
 refine eqE cf.toInv ?_
 refine cx.e fun x1 r1 cx cn=> ?_
 refine cn.e fun x2 r2 cy cn=> ?_
 refine cn.e fun x3 r3 cd cn=> ?_
 refine cn.e0 ?_
 refine kw0E hk ?_
 · · · · refine hv.e R cx fun a kvs' hd r h0 _ => ?_
         refine call_meetsIn F.slot_dict_get hd.typeIs F.entry_dict_get (F.args_dict_get_3 _ _ _) (meets_dict_get_default C.k a (key_is cy) (S.ne h0) _) ⟨_,hd.mapOf, ?_⟩
         cases z:kget kvs k with
         |none=>rw[z] at q;rw[(r.get k).2 z];exact c _ _ h (w.toks _) q .toks R.toks cd
         |some u=>rw[z] at q;refine x_EA ((r.get k).1 u z) fun y h1 h2=> ?_;rw[h1];exact c _ _ h (w.toks _) q .toks R.toks h2⟩
end
section
variable {QU:Hs→Prop} {K:Hs→(Hs→Prop)→List V→Prop} {tg:Expr→Prop} {QM:V→List V→Hs→Prop}
theorem Rep.adopt {w:Wd} {a:Addr} {o:Obj} (R:Rep C w h) (ho:w.s.heap.get? a=some o) (hg:w.g a=none) (hρ:a∉w.ρ) (ht:a∉C.tabs):Rep C ⟨gset w.g a o,w.ρ,w.s⟩ h:=by
 have hs:=gset_sub (o:=o) hg
 refine⟨fun b x e=> ?_,R.len,R.nd,fun i b h1 h2=> ?_,R.dead,fun i b h1=> ?_,R.new,R.os,R.bare,fun b x e h2=>hs _ _ (R.top b x e h2),fun b hb=>let⟨x,e,z⟩:=R.tab b hb;⟨x,e,z.mono hs⟩,fun b hb=>⟨?_,(R.offtab b hb).2⟩⟩
 · have e:gset w.g a o b=some x:=e
   unfold gset at e
   split at e
   ·rename_i q;cases e;rw[q];exact ho
   ·exact R.keep b x e
 · show gset w.g a o b=none
   unfold gset
   rw[if_neg (fun q:b=a=>hρ (q▸Qa h1))];exact R.off i b h1 h2
 · refine x_EA (R.obj i b h1) fun x h4 h5=> ?_
   exact⟨x,h4,h5.mono hs (Ql _)⟩
 · show gset w.g a o b=none
   unfold gset
   rw[if_neg (fun q:b=a=>ht (q▸hb))];exact(R.offtab b hb).1
theorem itr_walksT {it:Addr} {wr:List Addr} {J:Nat→Heap→Prop} {ok:Hs→Prop} {src:V} {x0:Value} {items:List V} (htg:∀t,tg t→∃elts k p,t=Expr.Tuple elts k p)
 (hlive:∀k hp,J k hp→∀b∈wr,∃o,hp.get? b=some o) (hkeep:∀k hp hp',J k hp→(∀b∈wr,hp'.get? b=hp.get? b)→J k hp')
 (hself:∀(A:Around) (k:Nat) (s:Shared) (Q':Value→Shared→Prop) (E:Value→Shared→Prop),J k s.heap→Q' (.ref it) s→wpAny C.M A (pyIter (.ref it)) Q' E s)
 (hW:∀(A:Around) (w:Wd) (h:Hs) (k:Nat),AOk A n→Rep C w h→Conc C w.g w.ρ src x0→ok h→J k w.s.heap→(∀b∈wr,w.g b=none∧b∉w.ρ∧b∉C.tabs)→∃(fp:List Addr) (m:Nat) (P:Nat→Array Value→Prop) (St:Nat→Heap→Prop) (Mid:Nat→Addr→Heap→Prop),WalksT C.prog C.w A it fp wr m P St Mid∧items.length=m∧k≤m∧St k w.s.heap ∧
  (∀v xs,items[k]? =some v→P k xs→∃vs,v= .tup vs∧Concs C w.g w.ρ vs xs.toList)∧(∀hp',St (k+1) hp'→k<m→J (k+1) hp')):Itr C n (.ref it) wr J ok tg src x0 items where
 next:=fun A w h k v t Q' E a0 R c0 hok hJ ha hk ht q=>by
  refine x_EEEEEAAAAA (hW A w h k a0 R c0 hok hJ ha) fun fp m P St Mid W hm hkm hst hP hJ'=> ?_
  have hlt:k<m:=by rw[←hm];exact(Qp.mp hk).1
  obtain⟨elts,kk,p,rfl⟩:=htg t ht
  refine W.item k w.s _ _ hlt hst fun T vals hp tk hx hT htup hmid keep=> ?_
  refine W.go elts kk p k T {w.s with heap:=hp,toks:=tk } _ _ hmid fun hp' hst' keep'=> ?_
  have hTw:=W.apart _ _ _ hmid
  have hJ1:=hJ' hp' hst' hlt
  refine x_EA (hP v vals hk hx) fun vs z47 cs=> ?_;subst z47
  refine x_EAAE htup fun o ho hc m' hd=> ?_
  have ho':hp'.get? T=some o:=keep' T o hTw ho
  have keep2:∀b o,b∉wr→w.s.heap.get? b=some o→hp'.get? b=some o:=fun b o hb e=>keep' b o hb (keep b o hb e)
  have hn:w.s.heap.get? T=none:=fresh_none hT
  have off:=R.off_fresh hn
  have R1:Rep C (w.at hp' tk) h:=R.apart keep2 ha
  have R2:=R1.adopt ho' off.1 off.2.1 off.2.2
  have hs:=gset_sub (o:=o) off.1
  refine q (.ref T) ⟨gset w.g T o,w.ρ,{w.s with heap:=hp',toks:=tk }⟩ ⟨hs,fun b x e=> ?_,Ql _,fun _ z=> .inl z,fun b x e _ hb _=>keep2 b x hb e,fun b x e=> ?_⟩ rfl R2 hJ1 (.tup gset_self hc (by rw[hd]) ((cs.mono hs (Ql _))))
  · have e:gset w.g T o b=some x:=e
    unfold gset at e
    split at e
    ·rename_i z;right;left;rw[z];exact hn
    ·exact .inl e
  · by_cases hb:b∈wr
    ·exact hlive _ _ hJ1 b hb
    ·exact⟨x,keep2 b x hb e⟩
 stop:=fun A w h k Q' E a0 R c0 hok hJ ha hk q=>by
  refine x_EEEEEAAAAA (hW A w h k a0 R c0 hok hJ ha) fun fp m P St Mid W hm hkm hst _ _=> ?_
  have:k=m:=by have:=List.getElem?_eq_none_iff.mp hk;omega
  subst this
  exact W.done w.s _ _ hst fun hp tk keep=>q hp tk keep
 keep:=hkeep
 live:=hlive
 self:=hself
structure ItE (C:Cx) (n:Nat) (F:Fr) (loc:Loc) (h:Hs) (tg:Expr→Prop) (e:Expr) (K:Hs→(Hs→Prop)→List V→Prop):Prop where
 run:∀(A:Around) (w:Wd) (Q':Value→Shared→Prop) (E:Value→Shared→Prop),AOk A n→Rep C w h→Frm C w F loc →
  (∀(it:Value) (wr:List Addr) (J:Nat→Heap→Prop) (w1 w':Wd) (h1:Hs) (ok:Hs→Prop) (items:List V) (src:V) (x0:Value),K h1 ok items→Ext C [] w w1→Ext C [] w1 w'→Rep C w' h1→(∀b∈wr,w1.s.heap.get? b=none)→(∀b∈wr,w'.g b=none∧b∉w'.ρ∧b∉C.tabs)→J 0 w'.s.heap→Conc C w'.g w'.ρ src x0→Itr C n it wr J ok tg src x0 items→Q' it w'.s) →
  wpAny C.M A (eval e F.env) (fun x s₁=>wpAny C.M A (pyIter x) Q' E s₁) E w.s
theorem ex_forI {t it:Expr} {b:List Stmt} {p:Pos} (H:ItE C n F loc h tg it fun h2 ok items=>FoW C n F ok t b QF items loc h2) (ht:tg t) (hs:autoParam (∀x,Q8 it F.env x=pure x) aI):Ex C n F loc h (.For t it b [] p) QF:=⟨fun A w Q' E a0 R f c=>by
 refine wpAny_For (H.run A w _ _ a0 R f fun itv wr J w1 w2 h2 ok items src x q2 e1 e2 R2 hf ha hJ c1 T=> ?_) hs
 have f2:=(f.ext0 e1).ext0 e2
 have hL:F.env.locals∉wr:=fun z=>by
  refine x_E ((f.ext0 e1).live) fun o ho=> ?_
  have:=hf _ z;rw[ho] at this;cases this
 exact for_code T ht items 0 A w1 w2 loc h2 _ rfl q2 a0 R2 f2 c1 hJ hf ha hL e2.wide fun fw fl l h' w' q e' R' f' c'=>c fw fl l h' w' q (e1.wide.trans e') R' f' c'⟩
noncomputable def enumV:Nat→List V→List V
 |_,[]=>[]
 |k,v::vs=> .tup [.int k,v]::enumV (k+1) vs
theorem enumV_length:∀(k:Nat) (xs:List V),(enumV k xs).length=xs.length
 |_,[]=>rfl
 |k,v::vs=>by simp[enumV,enumV_length (k+1) vs]
theorem enumV_get:∀(k:Nat) (xs:List V) (j:Nat) (v:V),(enumV k xs)[j]? =some v→∃u,xs[j]? =some u∧v= .tup [.int ((k+j:Nat):Int),u]
 |_,[],j,v,e=>by simp[enumV] at e
 |k,u::us,0,v,e=>by simp[enumV] at e;exact⟨u,rfl,e.symm⟩
 |k,u::us,j+1,v,e=>by
  refine x_EA (enumV_get (k+1) us j v (by simpa [enumV] using e)) fun z h1 h2=> ?_
  exact⟨z,by simpa using h1,by rw[h2];congr 3;omega⟩
theorem ite_enum {x:Str} {p' p:Pos} {e:Expr} {mg mb:Str→Option Value} (T:Tp C mg mb) (hx:x=("enumerate" : Str)) (hk:F.env.kindOf x=some .globalImplicit) (hm:mg x=none) (hv:mb x=some (.type "enumerate"))
 (htg:∀t,tg t→∃elts k p,t=Expr.Tuple elts k p) (H:Ev C n F loc h e fun src h1=>∃xs,IsLst h1 src xs∧K h1 (fun h'=>IsLst h' src xs) (enumV 0 xs))
 (he:autoParam (starEach [e] F.env=[(false,eval e F.env)]) aR) (hd:autoParam ((x==("__debug__" : Str))=false) aD):ItE C n F loc h tg (.Call (.Name x p') [e] [] p) K:=⟨fun A w Q' E a0 R f c=>by
 refine wpAny_Call_ofName ?_
 refine Calls.Name_function_global f.kind hk (Calls.loadGlobal_builtin (by rw[f.globals];exact R.ns T.g T.gt) hm (by rw[f.blt];exact R.ns T.b T.bt) hv ?_) hd
 refine callWith_any (evalArgs_rest ?_ rfl ?_)
 ·rw[he];exact .inr ⟨_,_,rfl⟩
 rw[he]
 show wpAny _ _ (spliced [(false,eval e F.env)]) _ _ _
 unfold spliced
 refine Qw (H.run A w _ _ a0 R f fun y src h1 w1 ⟨xs,hl,q1⟩ e1 R1 c1=> ?_)
 refine Qw (Qr (Qw (Qf (Qr (Qr (Qr ⟨⟨.machine,W.Looks.of_pure rfl⟩, ?_⟩))))))
 refine x_EEAAA (hl.at R1 c1) fun l vs z48 hpl cs hin=> ?_;subst z48
 refine call_enumerate_list hpl.isList fun hp hen hit hsz keep=> ?_
 refine wpAny_pyIter_enum hen ?_
 have hn0:w1.s.heap.get? w1.s.heap.objs.size=none:=fresh_none (Qt _)
 have hn1:w1.s.heap.get? (w1.s.heap.objs.size+1)=none:=fresh_none (Nat.le_succ _)
 have o0:=R1.off_fresh hn0
 have o1:=R1.off_fresh hn1
 refine c (.ref (w1.s.heap.objs.size+1)) [w1.s.heap.objs.size+1,w1.s.heap.objs.size] (fun k hp=>k≤xs.length∧(∃old,IsEnum hp (w1.s.heap.objs.size+1) w1.s.heap.objs.size k old)∧hp.IsListIter w1.s.heap.objs.size l k) w1 (w1.at hp w1.s.toks) h1 _ _ src (.ref l) q1 e1 (Ext.grow keep) (R1.grow keep) (by simp;exact⟨hn1,hn0⟩) (by simp;exact⟨o1,o0⟩) ⟨Qz _,⟨_,hen⟩,hit⟩ c1 ?_
 refine itr_walksT htg (fun k hp hJ b hb=> ?_) (fun k hp hp' hJ hb=> ?_) (fun A k s Q' E hJ q=>let⟨_,⟨_,hen'⟩,_⟩:=hJ;wpAny_pyIter_enum hen' q) (fun A' w' h' j a1 R' c' hok hJ ha=> ?_)
 · refine x_AA hJ fun _ z49 hit'=> ?_;obtain⟨old,hen'⟩:=z49
   rcases QY.mp hb with rfl|hb
   ·exact⟨_,hen'⟩
   ·rw[Qs.mp hb];refine x_EA hit' fun o ho _=> ?_;exact⟨o,ho⟩
 · refine x_AA hJ fun hj z50 z51=> ?_;obtain⟨old,hen'⟩:=z50;obtain⟨o,ho,r⟩:=z51
   exact⟨hj,⟨old,(hb _ (by simp)).trans hen'⟩,o,(hb _ (by simp)).trans ho,r⟩
 · refine x_EEAAA (IsLst.at hok R' c') fun l' vs' e' hl' cs' hin'=> ?_
   cases e'
   have hlen:vs'.size=xs.length:=by rw[←QD,cs'.length]
   have hne:∀b∈[w1.s.heap.objs.size+1,w1.s.heap.objs.size],l≠b:=fun b hb=>by
    rintro rfl
    rcases hin' with⟨o,z⟩|z
    ·rw[(ha _ hb).1] at z;cases z
    ·exact(ha _ hb).2.1 z
   refine⟨_,_,_,_,_,WalksT.enumerate a1.handled (w1.s.heap.objs.size+1) w1.s.heap.objs.size l (Nat.succ_ne_self _) (hne _ (by simp)) (hne _ (by simp)) vs',by rw[enumV_length,hlen],by rw[hlen];exact hJ.1,⟨hJ.2.1,hJ.2.2,hl'.isList⟩,fun v ys hv hx=> ?_,fun hp' st hlt=>⟨by rw[←hlen];exact hlt,by simpa using st.1,st.2.1⟩⟩
   refine x_EA (enumV_get 0 xs j v hv) fun u hu z52=> ?_;subst z52
   refine x_EEA hx fun t z hz z53=> ?_;subst z53
   refine x_EA (cs'.get hu) fun y hy cy=> ?_
   rw[←Array.getElem?_toList,hy] at hz
   cases hz
   exact⟨_,rfl,by simpa using Concs.cons (.int _ _) (.cons cy .nil)⟩⟩
theorem Rep.epoch {w:Wd} {i:Nat} {a:Addr} {kvs:List (Key × V)} (R:Rep C w h) (hi:w.ρ[i]? =some a) (hv:h.σ i= .dict kvs):∃ep,Rep C w (h.upd i (.dictE ep kvs)):=by
 refine x_EA (R.obj i a hi) fun o h1 h2=> ?_
 rw[hv] at h2
 refine x_EAA h2 fun kvs' h3 h4 h5=> ?_
 refine x_EE (id h3) fun es ep r=> ?_
 refine⟨ep, ?_⟩
 have:=R.change (hp:=w.s.heap) (k:=w.s.toks) (ao:= .dictE ep kvs) hi (by rw[hv];simp) (fun b o _ e=>e) h1 ⟨kvs',⟨es,r.2.1⟩,h3,h4,h5⟩
 exact this
theorem Rep.dictE {w:Wd} {i:Nat} {a:Addr} {ep:Nat} {kvs:List (Key × V)} (R:Rep C w h) (hi:w.ρ[i]? =some a) (hv:h.σ i= .dictE ep kvs):∃kvs',w.s.heap.DictAt C.k a kvs' ep∧DRel C w.g w.ρ kvs kvs':=by
 refine x_EA (R.obj i a hi) fun o h1 h2=> ?_
 rw[hv] at h2
 refine x_EAAA h2 fun kvs' z54 z55 h4 h5=> ?_;obtain⟨es',he'⟩:=z54;obtain⟨es,ep',hx,hd,r⟩:=z55
 rw[he'] at hd;cases hd
 exact⟨kvs',⟨o,es',h1,hx,he',r⟩, .of h4 h5⟩
theorem cl_keys {S:SysIn C} {v:V} {kvs:List (Key × V)} (hv:IsDct h v kvs) (q:Q (.view "dict_keys" v) h):Cl C n h (.blt "dict.keys") [v] [] Q:=⟨fun A w Q' E fx xs ks a0 R cf cx hk ck c=>by
 refine eqE cf.toInv ?_
 refine cx.e fun x1 r1 cx cn=> ?_
 refine cn.e0 ?_
 refine kw0E hk ?_
 · · refine x_EEAAAA (hv.at R cx) fun a kvs' z56 hd r h0 _ => ?_; subst z56
     have hn:w.s.heap.get? w.s.heap.objs.size=none:=fresh_none (Qt _)
     refine call_meetsIn PySem.F.slot_dict_keys hd.typeIs PySem.F.entry_dict_keys (PySem.F.args_dict_keys_1 _) (W.kdl_meets_keys C.k a (S.ne h0)) ⟨⟨kvs',hd⟩, ?_⟩
     exact c _ _ h (w.frz _ _ _ w.s.toks) q (Ext.frozen R hn push_keeps) (R.frozen hn push_keeps (Qu _ rfl)) (.view gset_self (cx.mono (gset_sub (R.off_fresh hn).1) (Ql _)))⟩
theorem its_keys {i:Nat} {kvs:List (Key × V)} (hv:h.σ i= .dict kvs) (q:∀ep,K (h.upd i (.dictE ep kvs)) (fun h'=>h'.σ i= .dictE ep kvs) (kvs.map (·.1.v))):Its C n h tg (.view "dict_keys" (.ref i)) K:=⟨fun A w Q' E x0 a0 R c k=>by
 refine x_EEAA c.toInv fun y av z57 hg cy=> ?_;subst z57
 · refine x_EA cy.toInv fun a z58 hi=> ?_;subst z58
   ·
    refine x_E (R.epoch hi hv) fun ep R1=> ?_
    refine x_EA (R1.dictE (ep:=ep) (kvs:=kvs) hi (by simp[Hs.upd])) fun kvs' hd r=> ?_
    have hn:w.s.heap.get? w.s.heap.objs.size=none:=fresh_none (Qt _)
    have off:=R.off_fresh hn
    refine W.kdl_pyIter_keys ⟨_,R.keep _ _ hg,rfl,rfl⟩ hd (k (.ref w.s.heap.objs.size) [w.s.heap.objs.size] (fun j hp=>j≤kvs.length∧hp.IsKeyIter w.s.heap.objs.size a j kvs.length ep) (w.at _ w.s.toks) _ _ _ (.ref i) (.ref a) (q ep) (Ext.grow push_keeps) (R1.grow push_keeps) (by simpa using hn) (by simpa using off) ⟨Qz _,_,Qu _ rfl,rfl,by rw[r.length];rfl⟩ (.ref hi) ?_)
    refine itr_walks (fun k hp hJ=>let⟨o,e1,e2,_⟩:=hJ.2;⟨o,_,e1,e2,rfl⟩) (fun k hp hp' hJ e=>⟨hJ.1,let⟨o,e1,r⟩:=hJ.2;⟨o,e.trans e1,r⟩⟩) (fun A k s Q' E hJ q=>wpAny_pyIter_keyiter hJ.2 q) fun A' w' h' j a1 R' c' hok hJ hg' hρ=> ?_
    cases c' with
    |ref hi' =>
     refine x_EA (R'.dictE hi' hok) fun kvs2 hd2 r2=> ?_
     have hne:a≠w.s.heap.objs.size:=by rintro rfl;exact hρ (Qa hi')
     refine⟨_,_,_,_,Walks.dictKeys a1.handled _ a hne kvs2 ep,by simp[r2.length],by rw[r2.length];exact hJ.1,⟨by rw[r2.length];exact hJ.2,hd2⟩,fun v x hv hx=> ?_,fun hp' st hlt=>⟨by rw[←r2.length];exact hlt,by rw[←r2.length];exact st.1⟩⟩
     refine x_EEA hx fun k' y' h1 h2=> ?_
     have:v=k'.v:=by
      have e1:(kvs2.map (·.1))[j]? =some k':=by rw[Qb,h1];rfl
      rw[r2.keys,Qb] at e1
      rw[Qb] at hv
      refine x_EA (QW.mp hv) fun z hz z59=> ?_;subst z59
      rw[hz] at e1;cases e1;rfl
     rw[this];exact key_conc h2⟩
end
theorem setDefault_pairs {prog:Program} {w:World} {knd:KeyKind prog w Key} {A:Around} {E:Value→Shared→Prop} {s:Shared} {d:Addr} {kvs:List (Key × Value)} {k:Key} {key dflt:Value} {Q:Value→Shared→Prop} (hkey:knd.is k key=true) (hm:s.heap.DictOf knd d kvs) (hsz:kvs.length≤Qc)
 (hthere:∀v,valueAt kvs k=some v→Q v {s with toks:=s.toks+1 })
 (hnew:valueAt kvs k=none→∀h',h'.DictOf knd d (kvs++[(k,dflt)])→Heap.SameBut d s.heap h'→Q dflt {s with heap:=h',toks:=s.toks+1 }):wpAny (model prog w) A (dictSetDefault d key dflt) Q E s:=by
 refine x_EEEAAAAA hm fun o es ep ho hc hd hk hp hn=> ?_
 have hes:es.size≤Qc:=by rw[←QD,hp.length];exact hsz
 have hidx:(es.findIdx? fun e=>knd.is k e.key)=kvs.findIdx? fun kv=>decide (kv.1=k):=by rw[←hp.findIdx k];cases es;simp
 unfold dictSetDefault
 refine Qf (Qw (knd.pyHash hkey (Qw (wpAny_dictFind_of (s:={s with toks:=s.toks+1 }) hkey ho hd hk ?_))))
 cases hi:es.findIdx? fun e=>knd.is k e.key with
 |some i =>
  have hl:(es.toList.findIdx? fun e=>knd.is k e.key)=some i:=by rw[←hi];cases es;simp
  refine x_EAA (hp.at hl) fun e he hek hev=> ?_
  have he':es[i]? =some e:=by rw[←he];cases es;simp
  refine Qw (wpAny_dictEntries (s:={s with toks:=s.toks+1 }) ho hd ?_)
  rw[he']
  exact Qw (wpAny_rule (Qr (hthere e.val hev)))
 |none =>
  have hnot:k∉kvs.map (·.1):=not_mem_of_findIdx_none (hidx▸hi)
  have hv:valueAt kvs k=none:=by
   unfold valueAt
   rw[List.find?_eq_none.mpr fun kv hkv=>by simpa using fun e:kv.1=k=>hnot (QO.mpr ⟨kv,hkv,e⟩)];rfl
  refine Qw (wpAny_rule (Qw (wpAny_updateDictKeys (hz:=hes) (s:={s with toks:=s.toks+1 }) ho hd (Qr (hnew hv _ ⟨_,_,ep+1,Heap.get?_update_self _ ho (Obj.isFreed_of_dict (Obj.data_mapDictKeys hd _)),
   hc.mapDictKeys _,Obj.data_mapDictKeys hd _,hk.push hkey _, ?_, ?_⟩ (Heap.SameBut.update ..))))))
  · have:=hp.append hkey (knd.hash k) dflt
    cases es;simpa using this
  · rw[Wt,List.nodup_append]
    exact⟨hn,by simp,fun a ha b hb=>by simp at hb;subst hb;exact fun e=>hnot (e▸ha)⟩
theorem meets_setdefault {prog:Program} {w:World} (knd:KeyKind prog w Key) {k:Key} {key:Value} (d:Addr) (hkey:knd.is k key=true) (hd:(d==sysModules)=false) (dflt:Value) :
 MeetsIn prog w (Builtin.«dict.setdefault» ⟨[.ref d,key,dflt],[]⟩) (fun _ R s=>∃kvs,s.heap.DictOf knd d kvs∧kvs.length≤Qc ∧
  (∀v,valueAt kvs k=some v→R (.ok (.ret v)) {s with toks:=s.toks+1 }) ∧
  (valueAt kvs k=none→∀h',h'.DictOf knd d (kvs++[(k,dflt)])→Heap.SameBut d s.heap h'→R (.ok (.ret dflt)) {s with heap:=h',toks:=s.toks+1 })) :=
 .of_wp fun A R s ⟨kvs,hm,hz,h1,h2⟩=>by
  unfold Builtin.«dict.setdefault»
  refine Qw ?_
  unfold Builtin.Dict.keyAndDefault
  refine Qw (wpAny_notOrdered_dict hm.typeIs ?_)
  show wpAny _ _ (pure (d,key,some dflt)) _ _ s
  refine Qr ?_
  show wpAny _ _ (if(d==sysModules)=true then _ else(dictSetDefault d key dflt >>= _)) _ _ s
  rw[if_neg (by rw[hd];exact Bool.false_ne_true)]
  exact Qw (setDefault_pairs hkey hm hz (fun v hv=>Qr ⟨v,rfl,h1 v hv⟩) fun hn h' hm' hs'=>Qr ⟨dflt,rfl,h2 hn h' hm' hs'⟩)
section
variable {QU:Hs→Prop} {K:Hs→(Hs→Prop)→List V→Prop} {tg:Expr→Prop} {QM:V→List V→Hs→Prop}
theorem cl_setdefault {S:SysIn C} {i:Nat} {d:V} {k:Key} {kvs:List (Key × V)} (hv:h.σ i= .dict kvs) (hz:kvs.length≤Qc) (q1:∀u,kget kvs k=some u→Q u h) (q2:kget kvs k=none→Q d (h.upd i (.dict (kvs++[(k,d)])))):Cl C n h (.blt "dict.setdefault") [.ref i,k.v,d] [] Q:=⟨fun A w Q' E fx xs ks a0 R cf cx hk ck c=>by
 refine eqE cf.toInv ?_
 refine cx.e fun x1 r1 cx cn=> ?_
 refine cn.e fun x2 r2 cy cn=> ?_
 refine cn.e fun x3 r3 cd cn=> ?_
 refine cn.e0 ?_
 refine kw0E hk ?_
 · · · · refine x_EEAAAA (IsDct.mut hv R cx) fun a kvs' z60 hi hd r h0 => ?_; subst z60
         refine call_meetsIn PySem.F.slot_dict_setdefault hd.typeIs PySem.F.entry_dict_setdefault (PySem.F.args_dict_setdefault_3 _ _ _) (meets_setdefault C.k a (key_is cy) (S.ne h0) _) ⟨kvs',hd,by rw[r.length];exact hz,fun y hy=> ?_,fun hy h' hd' sb=> ?_⟩
         · cases z:kget kvs k with
           |none=>rw[(r.get k).2 z] at hy;cases hy
           |some u=>refine x_EA ((r.get k).1 u z) fun y' h1 h2=> ?_;rw[h1] at hy;cases hy;exact c _ _ h (w.toks _) (q1 u z) .toks R.toks h2
         · cases z:kget kvs k with
           |some u=>refine x_EA ((r.get k).1 u z) fun y' h1 h2=> ?_;rw[h1] at hy;cases hy
           |none =>
            refine x_A (R.setDict (tk:=w.s.toks+1) hi (by rw[hv];simp) hd' (fun b o hb e=>(sb.2 b hb).trans e) (r.app (.cons cd .nil))) fun R' e'=> ?_
            exact c _ _ _ _ (q2 z) (e' _) R' cd⟩
end
noncomputable def Rises (xs:Array Nat):Prop:=xs.toList.Pairwise (· < ·)
theorem Rises.lt {xs:Array Nat} (r:Rises xs) {i j:Nat} (hj:j<xs.size) (hij:i<j):xs[i]'(Nat.lt_trans hij hj)<xs[j]:=by
 have:=List.pairwise_iff_getElem.mp r i j (by simpa using Nat.lt_trans hij hj) (by simpa using hj) hij
 simpa using this
theorem mid {lo hi:Nat} (h:lo<hi):lo≤(lo+hi) / 2∧(lo+hi) / 2<hi :=
 ⟨(Nat.le_div_iff_mul_le Nat.two_pos).mpr (by rw[Nat.mul_two];exact Q2 (Qx h) _),(Nat.div_lt_iff_lt_mul Nat.two_pos).mpr (by rw[Nat.mul_two];exact Nat.add_lt_add_right h _)⟩
theorem below_go {xs:Array Nat} (r:Rises xs) (j:Nat):∀(fuel lo hi:Nat),hi-lo≤fuel→lo≤hi→hi≤xs.size→(∀i (h:i<xs.size),i<lo→xs[i]<j)→(∀i (h:i<xs.size),hi≤i→j≤xs[i]) →
 QJ.go xs j fuel lo hi≤xs.size∧(∀i (h:i<xs.size),i<QJ.go xs j fuel lo hi→xs[i]<j)∧(∀i (h:i<xs.size),QJ.go xs j fuel lo hi≤i→j≤xs[i])
 |0,lo,hi,hf,hlh,hs,h1,h2=>by
  have:lo=hi:=Nat.le_antisymm hlh (Nat.le_of_sub_eq_zero (Nat.le_zero.mp hf))
  subst this
  unfold QJ.go
  exact⟨hs,h1,h2⟩
 |fuel+1,lo,hi,hf,hlh,hs,h1,h2=>by
  unfold QJ.go
  by_cases hlt:lo<hi
  · rw[if_pos hlt]
    refine x_A (mid hlt) fun hlm hmh=> ?_
    have hm:(lo+hi) / 2<xs.size:=Qy hmh hs
    have e:xs.getD ((lo+hi) / 2) j=xs[(lo+hi) / 2]:=by simp[Array.getD,hm]
    dsimp only
    rw[e]
    by_cases hc:xs[(lo+hi) / 2]<j
    · rw[if_pos hc]
      refine below_go r j fuel _ hi (Qv (Qy (Nat.sub_lt_sub_left hmh (Qk _)) (Qe (Nat.sub_le_sub_left hlm hi) hf))) hmh hs (fun i h hi'=> ?_) h2
      rcases Nat.lt_or_eq_of_le (Qv hi') with z|z
      ·exact Nat.lt_trans (r.lt hm z) hc
      ·subst z;exact hc
    · rw[if_neg hc]
      refine below_go r j fuel lo _ (Qv (Qy (Nat.sub_lt_sub_right hlm hmh) hf)) hlm (Qx hm) h1 (fun i h hi'=> ?_)
      rcases Nat.lt_or_eq_of_le hi' with z|z
      ·exact Qe (Nat.le_of_not_lt hc) (Qx (r.lt h z))
      ·subst z;exact Nat.le_of_not_lt hc
  · rw[if_neg hlt]
    have:lo=hi:=Nat.le_antisymm hlh (Nat.le_of_not_lt hlt)
    subst this
    exact⟨hs,h1,h2⟩
theorem below_spec {xs:Array Nat} (r:Rises xs) (j:Nat):QJ xs j≤xs.size∧(∀i (h:i<xs.size),i<QJ xs j→xs[i]<j)∧(∀i (h:i<xs.size),QJ xs j≤i→j≤xs[i]) :=
 below_go r j _ 0 _ (Nat.sub_le ..) (Qz _) (Qt _) (fun _ _ h=>absurd h (Q0 _)) (fun i h h'=>absurd h (Nat.not_lt.mpr h'))
theorem not_at {xs:Array Nat} (r:Rises xs) {j:Nat} (hn:xs[QJ xs j]? ≠some j):∀i (h:i<xs.size),xs[i]≠j:=fun i h e=>by
 refine x_AA (below_spec r j) fun h1 h2 h3=> ?_
 by_cases hi:i<QJ xs j
 ·exact absurd e (Qg (h2 i h hi))
 · have hle:=Nat.le_of_not_lt hi
   have hb:QJ xs j<xs.size:=Qj hle h
   rcases Nat.lt_or_eq_of_le hle with z|z
   ·exact Nat.lt_irrefl _ (Qy (r.lt h z) (Qe (QK e) (h3 _ hb (Qt _))))
   · refine hn ?_
     rw[Array.getElem?_eq_getElem hb]
     subst z;rw[e]
theorem insert_rises {xs:Array Nat} (r:Rises xs) {j:Nat} (hn:∀i (h:i<xs.size),xs[i]≠j):Rises (SetTable.insertAt xs (QJ xs j) j):=by
 refine x_AA (below_spec r j) fun h1 h2 h3=> ?_
 unfold Rises
 rw[SetTable.toList_insertAt]
 have hr:xs.toList.Pairwise (· < ·):=r
 have hsplit:xs.toList=xs.toList.take (QJ xs j)++xs.toList.drop (QJ xs j):=(List.take_append_drop _ _).symm
 have hp:=hr
 rw[hsplit,List.pairwise_append] at hp
 have A:∀a∈xs.toList.take (QJ xs j),a<j:=fun a ha=>by
  obtain⟨i,hi,rfl⟩:=List.getElem_of_mem ha
  simp only[List.length_take,QD] at hi
  simp only[List.getElem_take,Array.getElem_toList]
  exact h2 i (Qy hi (Nat.min_le_right ..)) (Qy hi (Nat.min_le_left ..))
 have B:∀b∈xs.toList.drop (QJ xs j),j<b:=fun b hb=>by
  obtain⟨i,hi,rfl⟩:=List.getElem_of_mem hb
  simp only[List.length_drop,QD] at hi
  simp only[List.getElem_drop,Array.getElem_toList]
  exact Nat.lt_of_le_of_ne (h3 _ (Nat.add_lt_of_lt_sub' hi) (QP ..)) (Ne.symm (hn _ _))
 simp only[List.pairwise_append,List.pairwise_cons]
 refine⟨hp.1,⟨B,hp.2.1⟩,fun a ha b hb=> ?_⟩
 rcases QY.mp hb with rfl|hb
 ·exact A a ha
 ·exact hp.2.2 a ha b hb
theorem probe_free {t:SetTable} (r:Rises t.place) (hashAt:Nat→Int) (h:Int):∀(fuel:Nat) (p:SetTable.Probe) (j:Nat) (dm:Option Nat),(∀d,p.dummy=some d→t.place[QJ t.place d]? ≠some d)→SetTable.probe.go t hashAt h fuel p=some (.empty j dm) →
 t.place[QJ t.place j]? ≠some j∧∀d,dm=some d→t.place[QJ t.place d]? ≠some d
 |0,p,j,dm,_,e=>by cases e
 |fuel+1,p,j,dm,hd,e=>by
  unfold SetTable.probe.go at e
  have hs:∀k,(t.slot k= .empty∨t.slot k= .dummy)→t.place[QJ t.place k]? ≠some k:=fun k hk z=>by
   unfold SetTable.slot at hk
   dsimp only at hk
   rw[if_pos (by simpa using z)] at hk
   rcases hk with hk|hk<;>cases hk
  split at e
  · rename_i hsl
    cases e
    exact⟨hs _ (.inl hsl),hd⟩
  · rename_i hsl
    refine probe_free r hashAt h fuel _ j dm (fun d hd'=> ?_) e
    have:(t.advance {p with dummy:=some p.j }).dummy=some p.j:=by unfold SetTable.advance;split<;>rfl
    rw[this] at hd';cases hd'
    exact hs _ (.inr hsl)
  · split at e
    ·cases e
    · refine probe_free r hashAt h fuel _ j dm (fun d hd'=>hd d ?_) e
      have:(t.advance p).dummy=p.dummy:=by unfold SetTable.advance;split<;>rfl
      rw[this] at hd';exact hd'
set_option tactic.hygienic true in
theorem freeSlot_free {t:SetTable} (r:Rises t.place) {h:Int} {slot:Nat} {b:Bool} (e:t.freeSlot h=some (slot,b)):∀i (hi:i<t.place.size),t.place[i]≠slot:=by
 unfold SetTable.freeSlot at e
 split at e
 · rename_i j dm hp
   cases e
   refine x_A (probe_free r _ _ _ _ j dm (fun d hd=>by cases hd) hp) fun h1 h2=> ?_
   cases dm with
   |none=>exact not_at r h1
   |some d=>exact not_at r (h2 d rfl)
 ·cases e
theorem standIn_rises (t:SetTable) (n:Nat):Rises (t.standIn n).place:=by
 unfold Rises
 show(Array.range n).toList.Pairwise (· < ·)
 rw[Array.toList_range]
 exact List.pairwise_lt_range
set_option tactic.hygienic true in
theorem layNew_rises {t:SetTable} (r:Rises t.place) (es:Array (Int × Value)) (h:Int) (x:Value):Rises (layNew t es h x).2.1.place∧(layNew t es h x).2.1.led=t.led:=by
 unfold layNew
 split
 · rename_i slot b e
   have hi:=insert_rises r (freeSlot_free r e)
   have aux:∀(t':SetTable) (m:Nat),Rises t'.place→t'.led=t.led→Rises (t'.orStandIn m).place∧(t'.orStandIn m).led=t.led:=fun t' m h1 h2=>by
    unfold SetTable.orStandIn
    by_cases hc:t'.fits m=true
    ·rw[if_pos hc];exact⟨h1,h2⟩
    ·rw[if_neg hc];exact⟨standIn_rises _ _,h2⟩
   exact aux (t.put slot).1 _ hi rfl
 ·exact⟨standIn_rises _ _,rfl⟩
theorem filterMap_rises {β:Type} (f:Nat→Option β):∀(l:List Nat),l.Pairwise (· < ·)→((l.filterMap fun j=>(f j).map (j,·)).map (·.1)).Pairwise (· < ·):=by
 intro l hl
 have:(l.filterMap fun j=>(f j).map (j,·)).map (·.1)=l.filter fun j=>(f j).isSome:=by
  clear hl
  induction l with
  |nil=>rfl
  |cons a l ih =>
   simp only[List.filterMap_cons,List.filter_cons]
   cases f a<;>simp[ih]
 rw[this]
 exact hl.filter _
set_option tactic.hygienic true in
theorem relayAll_rises {t:SetTable} (r:Rises t.place) (es:Array (Int × Value)) (wanted:Nat):Rises (relayAll t es wanted).2.1.place∧(relayAll t es wanted).2.1.led=t.led:=by
 unfold relayAll
 split
 · rename_i t' order e
   dsimp only
   split
   · unfold SetTable.relaid SetTable.laid at e
     refine x_EA (Option.bind_eq_some_iff.mp e) fun owner h1 h2=> ?_
     cases h2
     refine⟨?_,rfl⟩
     show(_:List Nat).toArray.toList.Pairwise _
     exact filterMap_rises _ _ List.pairwise_lt_range
   ·exact⟨standIn_rises _ _,rfl⟩
 ·exact⟨standIn_rises _ _,rfl⟩
noncomputable def SetAt (C:Cx) (hp:Heap) (a:Addr) (ks:List Key):Prop:=∃o,hp.get? a=some o∧SetObj C o ks
section
variable {a:Addr} {ks:List Key}
theorem SetAt.setOf (x:SetAt C s.heap a ks):s.heap.SetOf C.k a (fun k=>decide (k∈ks)) ks.length:=by
 obtain⟨o,ho,es,ep,t,h1,h2,h3,h4,h5,h6,h7,h8,_⟩:=x
 exact⟨o,es,ep,t,ho,h1,h2,h3,fun k=>by rw[decide_eq_true_eq];exact h4 k,h7,h8,h6⟩
theorem SetAt.typeIs (x:SetAt C s.heap a ks):s.TypeIs (.ref a) "set" := x.setOf.typeIs
theorem set_store {o:Obj} {es es':Array (Int × Value)} {ep:Nat} {t t':SetTable} {ks':List Key} (ho:s.heap.get? a=some o) (hx:o.ExactSet) (hd:o.data= .set es ep t) (hel:ElemsOf C.k es'.toList) (hm:∀k,k∈ks'↔∃e∈es'.toList,C.k.is k e.2=true) (hn:ks'.Nodup) (hl:es'.size=ks'.length) (hb:es'.size<scanBound) (hf:t'.fits es'.size=true)
 (hled:t'.led=(!C.w.params.followText "set-order")) (hr:Rises t'.place) {Q:Unit→Shared→Prop}
 (q:∀h',Heap.SameBut a s.heap h'→(∃o',h'.get? a=some o'∧o'.ExactSet∧o'.data= .set es' (ep+1) t')→SetAt C h' a ks'→Q () {s with heap:=h' }):wpAny C.M A (storeSet a es' t') Q E s:=by
 refine wpAny_storeSet_of ho hd ?_ (fits_of_scanBound hb)
 have hg:(s.heap.update a (Obj.putSet es' t')).get? a=some {o with data:= .set es' (ep+1) t' }:=by
  have:=Heap.get?_update_self (Obj.putSet es' t') ho (by rw[putSet_of es' t' hd];rfl)
  rw[putSet_of es' t' hd] at this;exact this
 exact q _ (Heap.SameBut.update ..) ⟨_,hg,hx,rfl⟩ ⟨_,hg,es',ep+1,t',hx,rfl,hel,hm,hn,hl,hb,hf,hled,hr⟩
noncomputable def sadd (ks:List Key) (k:Key):List Key:=if k∈ks then ks else ks++[k]
theorem setAdd_strong {k:Key} {x:Value} {Q:Bool→Shared→Prop} (hkey:C.k.is k x=true) (hsc:x.scannable=true) (hS:SetAt C s.heap a ks) (hroom:ks.length+1<scanBound)
 (q:∀b h',Heap.SameBut a s.heap h'→SetAt C h' a (sadd ks k)→Q b {s with heap:=h' }):wpAny C.M A (setAddHashed a x (C.k.hash k)) Q E s:=by
 obtain⟨o,ho,es,ep,t,hex,hd,hel,hmem,hnd,hlen,hb,hf,hled,hr⟩:=id hS
 unfold setAddHashed setAddHashedIn
 refine Qf (Qw (wpAny_setState_of ho hd hf ?_))
 dsimp only
 rw[byScan_of hsc hb hel]
 simp only[↓reduceIte]
 unfold setAddByScan
 refine Qw (Qw (wpAny_rule (Qw (wpAny_setScan_of hkey ho hd hf hel ?_))))
 cases hr':List.findIdx? (fun e=>C.k.is k e.2) es.toList with
 |some j =>
  obtain⟨hj,hpj,_⟩:=List.findIdx?_eq_some_iff_getElem.mp hr'
  have hin:k∈ks:=(hmem k).mpr ⟨es.toList[j],List.getElem_mem hj,hpj⟩
  refine Qr (Qr ?_)
  have:=q false s.heap (Heap.SameBut.refl a s.heap) (by unfold sadd;rw[if_pos hin];exact hS)
  exact this
 |none =>
  dsimp only
  have hnin:k∉ks:=fun hk=>by
   refine x_EA ((hmem k).mp hk) fun e he hp=> ?_
   have:=List.findIdx?_eq_none_iff.mp hr' e he;rw[hp] at this;cases this
  have hperm:=layNew_perm t es (C.k.hash k) x
  have hfits:=layNew_fits t es (C.k.hash k) x
  refine x_A (layNew_rises hr es (C.k.hash k) x) fun hris hle=> ?_
  generalize hL:layNew t es (C.k.hash k) x=L at hperm hfits hris hle ⊢
  obtain⟨es1,t1,wasDummy,gave⟩:=L
  dsimp only at hperm hfits hris hle ⊢
  rw[Array.toList_push] at hperm
  have hel1:ElemsOf C.k es1.toList:=(hel.push hkey hsc).perm hperm
  have hmem1:∀k',k'∈ks++[k]↔∃e∈es1.toList,C.k.is k' e.2=true:=fun k'=>by
   have:=mem_push_iff (S:=fun k=>decide (k∈ks)) hkey (fun k=>by rw[decide_eq_true_eq];exact hmem k) hperm k'
   simpa using this
  have hsz1:es1.size=(ks++[k]).length:=by rw[←QD,hperm.length_eq];simp[hlen]
  have hb1:es1.size<scanBound:=by rw[hsz1];simpa using hroom
  have hnd1:(ks++[k]).Nodup:=List.nodup_append.mpr ⟨hnd,by simp,fun a ha b hb=>by simp at hb;subst hb;exact fun e=>hnin (e▸ha)⟩
  have hsadd:sadd ks k=ks++[k]:=by unfold sadd;rw[if_neg hnin]
  have hgw:∀(b:Bool) {s₁:Shared} {Q':Unit→Shared→Prop},Q' () s₁→wpAny C.M A (match b with|true=>rule "set.scan.the-table-gave-way" | false=>pure ()) Q' E s₁ :=
   fun b s₁ Q' hq=>by cases b<;>first|exact Qr hq|exact wpAny_rule hq
  have tail:∀(g:Bool→Sem Unit) (hg:∀(b:Bool) (s₁:Shared) (Q':Unit→Shared→Prop),Q' () s₁→wpAny C.M A (g b) Q' E s₁) (t2:SetTable) (Rr:Option Bool→Shared→Prop),t2.fits es1.size=true→t2.led=t1.led→Rises t2.place →
   (∀h',Heap.SameBut a s.heap h'→SetAt C h' a (sadd ks k)→Rr (some true) {s with heap:=h' })→wpAny C.M A (do
   storeSet a es1 t2
   if(!wasDummy&&t2.tooFull)=true then do
    g (relayAll t2 es1 (SetTable.grown es1.size)).2.2
    storeSet a (relayAll t2 es1 (SetTable.grown es1.size)).1 (relayAll t2 es1 (SetTable.grown es1.size)).2.1
    pure (some true)
    else pure (some true)) Rr E s:=by
   intro g hg t2 Rr f2 l2 r2 q2
   have hl2:t2.led=(!C.w.params.followText "set-order"):=l2.trans (hle.trans hled)
   refine Qw (set_store (ks':=ks++[k]) ho hex hd hel1 hmem1 hnd1 hsz1 hb1 f2 hl2 r2 fun h1 sb1 ⟨o1,ho1,hx1,hd1⟩ hS1=> ?_)
   split
   · have hp:=relayAll_perm t2 es1 (SetTable.grown es1.size)
     have hfr:=relayAll_fits t2 es1 (SetTable.grown es1.size)
     refine x_A (relayAll_rises r2 es1 (SetTable.grown es1.size)) fun hrr hrl=> ?_
     generalize relayAll t2 es1 (SetTable.grown es1.size)=Rl at hp hfr hrr hrl ⊢
     obtain⟨es2,t3,gave2⟩:=Rl
     dsimp only at hp hfr hrr hrl ⊢
     have hsz2:es2.size=(ks++[k]).length:=by rw[←QD,hp.length_eq,QD,hsz1]
     refine Qw (hg _ _ _ ?_)
     refine Qw (set_store (s:={s with heap:=h1 }) (ks':=ks++[k]) ho1 hx1 hd1 (hel1.perm hp) (fun k'=>(hmem1 k').trans ⟨fun⟨e,he,z⟩=>⟨e,hp.mem_iff.mpr he,z⟩,fun⟨e,he,z⟩=>⟨e,hp.mem_iff.mp he,z⟩⟩) hnd1 hsz2 (by rw[hsz2,←hsz1];exact hb1) hfr (hrl.trans hl2) hrr fun h2 sb2 _ hS2=> ?_)
     exact Qr (q2 h2 (sb1.trans sb2) (hsadd▸hS2))
   ·exact Qr (q2 h1 sb1 (hsadd▸hS1))
  refine Qw (hgw _ ?_)
  split
  · refine Qw ?_
    rw[hashByValue_scannable 8 hsc]
    refine Qr ?_
    refine tail _ ?_ _ _ ?_ ?_ ?_ fun h' sb hS'=>Qr (q true h' sb hS')
    ·intro b s₁ Q' hq;cases b<;>first|exact Qr hq|exact wpAny_rule hq
    · split
      ·exact hfits
      ·exact SetTable.fits_plain_off hfits
    ·split<;>rfl
    · split
      ·exact hris
      ·exact hris
  · refine Qw (Qr ?_)
    simp only[↓reduceIte]
    refine tail _ ?_ t1 _ hfits rfl hris fun h' sb hS'=>Qr (q true h' sb hS')
    intro b s₁ Q' hq;cases b<;>first|exact Qr hq|exact wpAny_rule hq
end
section
noncomputable abbrev freshSet (C:Cx):Obj:={cls:= .type "set",dict:=none,data:= .set #[] 0 (.fresh 0 0 (!C.w.params.followText "set-order")) }
theorem freshSet_obj:SetObj C (freshSet C) []:=⟨#[],0,_,⟨rfl,rfl,rfl⟩,rfl,fun e he=>by simp at he,fun k=>by simp,List.nodup_nil,rfl,by decide,rfl,rfl,by simp[SetTable.fresh]⟩
theorem set_new_code {rest:List Value} (hr:rest=[]∨∃a,rest=[a]) {Q₁:Value→Shared→Prop} (q:Q₁ (.ref s.heap.objs.size) {s with heap:=s.heap.push (freshSet C) }) :
 codeAny C.M A (.call (.builtin "set.__new__") ⟨.type "set" :: rest,[]⟩) (wants Q₁ E) s:=by
 have hck:checkBuiltinCall "set.__new__" ⟨.type "set" :: rest,[]⟩=pure ():=by
  rcases hr with rfl|⟨a,rfl⟩
  ·exact PySem.F.newCall_set_0
  ·exact PySem.F.newCall_set_1 a
 refine codeAny_of_tree ?_
 show wpAny _ A.in1 (do checkBuiltinCall "set.__new__" ⟨.type "set" :: rest,[]⟩;again (.builtin "set.__new__" ⟨.type "set" :: rest,[]⟩)) _ _ s
 refine Qw (wpAny_of_eq hck (Qr ⟨plainId_quiet PySem.F.plain_set_new _,codeAny_builtin PySem.F.entry_set_new ?_⟩))
 rw[Around.under_plainId PySem.F.plain_set_new _]
 unfold Builtin.«set.__new__» Builtin.Frozenset.newClass
 have hsub:=sub_set_self
 obtain⟨hp,g,d,tk,os⟩:=s
 dsimp only
 rcases hr with rfl|⟨a,rfl⟩
 · wp_walk
   refine wpAny_askSetting (Qr ?_)
   dsimp only
   simp only[newObj]
   refine Qw (wpAny_alloc (Qr ?_))
   exact Qr q
 · wp_walk
   refine wpAny_askSetting (Qr ?_)
   dsimp only
   simp only[newObj]
   refine Qw (wpAny_alloc (Qr ?_))
   exact Qr q
set_option maxHeartbeats 2000000 in
theorem set_call {rest:List Value} (hr:rest=[]∨∃a,rest=[a]) {Q:Value→Shared→Prop}
 (hinit:wpAny C.M A.in1.in1 (Builtin.«set.__init__» ⟨.ref s.heap.objs.size::rest,[]⟩) (fun fin s₂=>fin= .done (.ret .none)∧Q (.ref s.heap.objs.size) s₂) E {s with heap:=s.heap.push (freshSet C) }):wpAny C.M A (call (.type "set") rest) Q E s:=by
 refine x_EE PySem.F.called_set.mro fun c tl hmro=> ?_
 have hmade:=PySem.F.called_set.made
 have hsub:=PySem.F.called_set.sub
 refine wpAny_call (codeAny_of_tree ?_)
 show wpAny _ _ (callAny (.type "set") _) _ _ _
 refine Qr ⟨Code.quiet_builtin _ (by decide +kernel),codeAny_builtin PySem.F.entry_type_call ?_⟩
 rw[Around.under_plain (weight_type_call_type "set" rest []) rfl]
 have h1:=PySem.F.called_set.notType
 have h2:=PySem.F.called_set.canCreate
 have hct:checkTypeCall "set" ⟨rest,[]⟩=pure ():=by
  rcases hr with rfl|⟨a,rfl⟩
  ·exact PySem.F.typeCall_set_0
  ·exact PySem.F.typeCall_set_1 a
 repeat (any_goals (first|assumption|wp_step))
 refine codeAny_mono (set_new_code hr (E:=E) (Q₁:=fun obj s₁=>obj= .ref s.heap.objs.size∧s₁={s with heap:=s.heap.push (freshSet C) }) ⟨rfl,rfl⟩) fun r s₁ hr'=> ?_
 cases r with
 |error e=>exact hr'
 |ok fl =>
  cases fl with
  |ret obj =>
   refine x_A hr' fun z61 z62=> ?_;subst z61;subst z62
   have hS:(s.heap.push (freshSet C)).get? s.heap.objs.size=some (freshSet C):=Qu _ rfl
   have hT:Shared.TypeIs {s with heap:=s.heap.push (freshSet C) } (.ref s.heap.objs.size) "set" := ⟨_,hS,rfl⟩
   have hli:=PySem.F.called_set.init.lookup
   have hbi:=PySem.F.called_set.init.bind (.ref s.heap.objs.size)
   repeat (any_goals (first|assumption|wp_step))
   have hck:wpAny C.M A.in1.in1 (checkBuiltinCall "set.__init__" ⟨[.ref s.heap.objs.size]++rest,[]⟩) (fun _ s₁=>wpAny C.M A.in1.in1 (Builtin.«set.__init__» ⟨[.ref s.heap.objs.size]++rest,[]⟩)
    (fun fin s'=>match fin with | .done f=>wants (fun r s₂=>r= .none∧Q (.ref s.heap.objs.size) s₂) E (.ok f) s' | .again c'=>c'.quiet=true∧codeAny C.M A.in1 c' (wants (fun r s₂=>r= .none∧Q (.ref s.heap.objs.size) s₂) E) s') (fun e s'=>wants (fun r s₂=>r= .none∧Q (.ref s.heap.objs.size) s₂) E (.error e) s') s₁)
    (fun e s'=>wants (fun r s₂=>r= .none∧Q (.ref s.heap.objs.size) s₂) E (.error e) s') {s with heap:=s.heap.push (freshSet C) }:=by
    have body:wpAny C.M A.in1.in1 (Builtin.«set.__init__» ⟨[.ref s.heap.objs.size]++rest,[]⟩)
     (fun fin s'=>match fin with | .done f=>wants (fun r s₂=>r= .none∧Q (.ref s.heap.objs.size) s₂) E (.ok f) s' | .again c'=>c'.quiet=true∧codeAny C.M A.in1 c' (wants (fun r s₂=>r= .none∧Q (.ref s.heap.objs.size) s₂) E) s') (fun e s'=>wants (fun r s₂=>r= .none∧Q (.ref s.heap.objs.size) s₂) E (.error e) s') {s with heap:=s.heap.push (freshSet C) } :=
     Q5 hinit (fun fin s₂ h₂=>by refine x_A h₂ fun z63 hq=> ?_;subst z63;exact⟨rfl,hq⟩) fun _ _ x=>x
    rcases hr with rfl|⟨a,rfl⟩
    ·exact check_set_init hT body
    ·exact check_set_init_1 hT body
   refine codeAny_mono (codeAny_call_builtin (R:=wants (fun r s₂=>r= .none∧Q (.ref s.heap.objs.size) s₂) E) PySem.F.called_set.init.plain PySem.F.entry_set_init hck) fun r₂ s₂ hr₂=> ?_
   cases r₂ with
   |error e=>exact hr₂
   |ok fl₂ =>
    cases fl₂ with
    |ret r =>
     refine x_A hr₂ fun z64 hq=> ?_;subst z64
     repeat (any_goals (first|assumption|wp_step))
    |_=>exact hr₂.elim
  |_=>exact hr'.elim
theorem set_call0 {Q:Value→Shared→Prop} (q:Q (.ref s.heap.objs.size) {s with heap:=s.heap.push (freshSet C) }):wpAny C.M A (call (.type "set") []) Q E s:=by
 refine set_call (.inl rfl) ?_
 unfold Builtin.«set.__init__» noKeywords
 wp_walk
 exact⟨rfl,q⟩
theorem set_loop {l I S:Addr} (hh:A.handled=none) (hne:l≠I) (hSI:S≠I) (hSl:S≠l) (items:Array Value) (keys:List Key) (hlen:keys.length=items.size) (hk:∀(i:Nat) (k:Key) (v:Value),keys[i]? =some k→items[i]? =some v→C.k.is k v=true∧v.scannable=true) {R:Result→Shared→Prop} :
 ∀(m i:Nat) (s:Shared) (ks:List Key),items.size-i=m→i≤items.size→s.heap.IsListIter I l i→s.heap.IsList l items→SetAt C s.heap S ks→ks.length+(items.size-i)<scanBound →
  (∀(h':Heap) (tk:Nat),(∀b o,b≠S→b≠I→s.heap.get? b=some o→h'.get? b=some o)→SetAt C h' S ((keys.drop i).foldl sadd ks)→R (.ok (.ret .none)) {s with heap:=h',toks:=tk }) →
  codeAny C.M A (.builtin "set.update.loop" ⟨[.ref S, .ref I],[]⟩) R s:=by
 intro m
 induction m with
 |zero =>
  intro i s ks hm hi hit hl hS hb q
  have hin:i=items.size:=Nat.le_antisymm hi (Nat.sub_eq_zero_iff_le.mp hm)
  refine codeAny_builtin PyProof.Rows.F.entry_set_update_loop ?_
  rw[Around.under_plainId PyProof.Rows.F.plain_set_update_loop _]
  show wpAny _ A.in1 (pyNext (.ref I) >>= _) _ _ s
  refine Qw (wpAny_pyNext_list_end (by simpa using hh) hit hl (by rw[hin];simp) fun h' he=> ?_)
  show wpAny _ A.in1 (ret Value.none) _ _ _
  refine Qr (q h' s.toks (fun b o hb1 hb2 e=>he b o hb2 e) ?_)
  refine x_EA hS fun o ho r=> ?_
  have:keys.drop i=[]:=List.drop_eq_nil_of_le (QK (hlen.trans hin.symm))
  rw[this]
  exact⟨o,he S o hSI ho,r⟩
 |succ m ih =>
  intro i s ks hm hi hit hl hS hb q
  have hlt:i<items.size:=Nat.lt_of_sub_eq_succ hm
  have hlk:i<keys.length:=hlen▸hlt
  have he1:items.size-(i+1)=m:=by rw[Nat.sub_add_eq,hm];rfl
  rw[hm] at hb
  refine codeAny_builtin PyProof.Rows.F.entry_set_update_loop ?_
  rw[Around.under_plainId PyProof.Rows.F.plain_set_update_loop _]
  show wpAny _ A.in1 (pyNext (.ref I) >>= _) _ _ s
  refine Qw (wpAny_pyNext_list_item hit hl (Array.getElem?_eq_getElem hlt) fun h' hit' sb=> ?_)
  obtain⟨hkey,hsc⟩:=hk i keys[i] items[i] (Qh hlk) (Array.getElem?_eq_getElem hlt)
  have hS':SetAt C h' S ks:=let⟨o,ho,r⟩:=hS;⟨o,(sb.2 S hSI).trans ho,r⟩
  show wpAny _ A.in1 (holding [items[i]] (setAdd S items[i]) >>= _) _ _ _
  refine Qw (Qf ?_)
  unfold setAdd
  refine Qf (Qw (C.k.pyHash hkey ?_))
  refine setAdd_strong (s:={s with heap:=h',toks:=s.toks+1 }) hkey hsc hS' (Qj (Q2 (QC (Qz m)) _) hb) fun b h2 sb2 hS2=> ?_
  have hlen2:(sadd ks keys[i]).length≤ks.length+1:=by unfold sadd;split<;>simp
  refine Qr ⟨plainId_quiet PyProof.Rows.F.plain_set_update_loop _,ih (i+1) _ _ he1 hlt ?_ ?_ hS2 ?_ fun h3 tk keep hS3=> ?_⟩
  ·refine x_EA hit' fun o ho r=> ?_;exact⟨o,(sb2.2 I (Ne.symm hSI)).trans ho,r⟩
  ·refine x_EA hl fun o ho r=> ?_;exact⟨o,(sb2.2 l (Ne.symm hSl)).trans ((sb.2 l hne).trans ho),r⟩
  · rw[he1]
    exact Qj (Qe (Wi hlen2 m) (QK (Wr _ 1 m))) hb
  · refine q h3 tk (fun b o hb1 hb2 e=>keep b o hb1 hb2 ((sb2.2 b hb1).trans ((sb.2 b hb2).trans e))) ?_
    have:keys.drop i=keys[i]::keys.drop (i+1):=List.drop_eq_getElem_cons hlk
    rw[this];exact hS3
end
namespace FF
theorem slot_setiter_next:Slot "set_iterator" "__next__" "set_iterator.__next__" :=
 .of (owner := "set_iterator") (n := "__next__") (by rw[typeLookup_type,QG];kernel_rfl) (by decide +kernel) (by decide +kernel) (by decide +kernel)
  (by first|exact .inl (by decide +kernel)|exact .inr (by decide +kernel)) (by rw[isSubtype_type];kernel_rfl)
theorem entry_setiter_next:entryFor table "set_iterator.__next__" = some Builtin.«set_iterator.__next__»:=entryFor_of_tree (by kernel_rfl)
theorem owner_setiter:Manifest.owners.lookup (String.ofList ['r','o','t','a','r','e','t','i','_','t','e','s'].reverse)=some Manifest.sig_set_iterator:=by kernel_rfl
theorem args_setiter_next (a:Value):argsOk "set_iterator.__next__" ⟨[a],[]⟩:=by
 unfold argsOk;rw[signature?_of (id := "set_iterator.__next__") (n:=['_','_','t','x','e','n','_','_']) (o:=['r','o','t','a','r','e','t','i','_','t','e','s']) (by kernel_rfl) owner_setiter];kernel_rfl
theorem entry_set_iter:entryFor table "set.__iter__" = some Builtin.«frozenset.__iter__» :=
 entryFor_alias (id' := "frozenset.__iter__") (by kernel_rfl) (by first|rfl|decide +kernel) (by decide +kernel) (by kernel_rfl)
end FF
theorem perm_erase {α:Type}:∀(l:List α) (i:Nat) (h:i<l.length),(l[i]::l.eraseIdx i).Perm l
 |a::l,0,_=>by simp
 |a::l,i+1,h=>by
  simp only[List.getElem_cons_succ,List.eraseIdx_cons_succ]
  exact(List.Perm.swap a _ _).trans ((perm_erase l i (by simpa using h)).cons a)
theorem pick_go {α:Type} (next:Nat→Nat):∀(fuel k:Nat) (left:List α) (out:Array α),left.length≤fuel→(pickOrder.go next fuel k left out).toList.Perm (out.toList++left)
 |0,k,left,out,h=>by
  have:left=[]:=List.length_eq_zero_iff.mp (Nat.le_zero.mp h)
  subst this;unfold pickOrder.go;simp
 |fuel+1,k,left,out,h=>by
  unfold pickOrder.go
  by_cases hl:left=[]
  ·subst hl;simp
  · have hlt:next k % left.length<left.length:=Nat.mod_lt _ (List.length_pos_iff.mpr hl)
    rw[Qh hlt]
    dsimp only
    refine(pick_go next fuel (k+1) _ _ (by rw[List.length_eraseIdx_of_lt hlt];exact Nat.sub_le_of_le_add h)).trans ?_
    simp only[Array.toList_push,List.append_assoc,List.cons_append,List.nil_append]
    exact(perm_erase left _ hlt).append_left _
theorem pick_perm {α:Type} (next:Nat→Nat) (xs:Array α):(pickOrder next xs).toList.Perm xs.toList:=by
 unfold pickOrder
 simpa using pick_go next xs.size 0 xs.toList #[] (by simp)
theorem wpAny_choose' {α:Type} {M:Model} {A:Around} {E:Value→Shared→Prop} {s:Shared} {src:Source} {n:Nat} {Q:Nat→Shared→Prop} (hn:0<n) (h:∀i d,i<n→Q i {s with drawn:=d }):wpAny M A (choose src n) Q E s:=fun Γ p _=>⟨QE hn,h _ _ (Nat.mod_lt _ hn)⟩
theorem draw_order {α:Type} {M:Model} {A:Around} {E:Value→Shared→Prop}:∀(n:Nat) (xs:List α) (s:Shared) (Q:List α→Shared→Prop),xs.length≤n→(∀ys d,ys.Perm xs→Q ys {s with drawn:=d })→wpAny M A (drawOrder n xs) Q E s
 |0,xs,s,Q,hn,h=>by
  have:xs=[]:=List.length_eq_zero_iff.mp (Nat.le_zero.mp hn)
  subst this;unfold drawOrder;exact Qr (h [] s.drawn .nil)
 |n+1,[],s,Q,hn,h=>by unfold drawOrder;exact Qr (h [] s.drawn .nil)
 |n+1,x::xs,s,Q,hn,h=>by
  unfold drawOrder
  refine Qw (wpAny_choose' (α:=α) (by simp) fun i d hi=> ?_)
  rw[Qh hi]
  dsimp only
  refine Qw (draw_order n _ _ _ (by rw[List.length_eraseIdx_of_lt hi];simpa using hn) fun ys d' hp=>Qr (h _ d' ?_))
  exact(hp.cons _).trans (perm_erase _ i hi)
section
variable {a I:Addr} {ks:List Key}
noncomputable abbrev setIter (first:Value) (k:Nat) (a:Addr) (m ep:Nat):Obj:={cls:= .type "set_iterator",dict:=none,data:= .fields #[first, .int k 0, .ref a, .int m 0, .int ep 0],slots:=#[] }
theorem stop_raise {R:Fin→Shared→Prop} (hh:A.handled=none) (q:∀h',(∀b o,s.heap.get? b=some o→h'.get? b=some o)→(∀e,(∃o,h'.get? e=some o∧o.cls= .type "StopIteration")→E (.ref e) {s with heap:=h' })) :
 wpAny C.M A (do raiseNew (←newExc (.type "StopIteration") []):Sem Fin) R E s:=by
 refine Qw ?_
 simp only[newExc,newTuple]
 refine Qw (wpAny_newObj_type ?_ (by size_fits))
 refine Qw (m:=firstArgMember _ _) (wpAny_of_eq (a:=Value.none) (by first|rfl|(simp only[firstArgMember];rfl)) ?_)
 refine wpAny_newObj_type ?_ (by size_fits)
 simp only[raiseNew]
 refine Qw (wpAny_handled ?_)
 rw[hh]
 refine Qw (Qr (wpAny_throw ?_))
 exact q _ (fun b o e=>Qd _ (Qd _ e)) _ ⟨_,Qu _ rfl,rfl⟩
theorem set_next_item {o:Obj} {es:Array (Int × Value)} {ep slot k nx:Nat} {t:SetTable} {x:Value} {Q:Option Value→Shared→Prop} (hI:s.heap.get? I=some (setIter (.int slot 0) k a es.size ep)) (ho:s.heap.get? a=some o) (hd:o.data= .set es ep t) (hf:t.fits es.size=true)
 (hn:∀(A':Around) (Q':Option (Value × Nat)→Shared→Prop) (E':Value→Shared→Prop),Q' (some (x,nx)) s→wpAny C.M A' (setNext a slot k ep) Q' E' s)
 (q:∀h',h'.get? I=some (setIter (.int nx 0) (k+1) a es.size ep)→Heap.SameBut I s.heap h'→Q (some x) {s with heap:=h' }):wpAny C.M A (pyNext (.ref I)) Q E s:=by
 have hT:s.TypeIs (.ref I) "set_iterator" := ⟨_,hI,rfl⟩
 unfold pyNext
 refine Qw (wpAny_attempt (wpAny_callSpecial?_slot (name:=Qq "__next__") hT FF.slot_setiter_next (Wu FF.slot_setiter_next hT FF.entry_setiter_next ?_ (FF.args_setiter_next _))))
 unfold Builtin.«set_iterator.__next__»
 refine Qw (m:=slotArgs "__next__" 0 _) (Qr ?_)
 dsimp only
 refine Qw (wpAny_fieldsOf hI rfl ?_)
 dsimp only
 refine Qw (wpAny_setEntries_of ho hd hf ?_)
 rw[if_neg (by simp)]
 refine Qw (hn _ _ _ ?_)
 dsimp only
 refine Qw (wpAny_setField_rec hI (by simp) fun h1 e1 sb1=> ?_)
 refine Qw (wpAny_setField_rec (s:={s with heap:=h1 }) e1 (by simp) fun h2 e2 sb2=> ?_)
 refine Qr ⟨x,rfl, ?_⟩
 exact Qr (q h2 (by simpa [rawInt,setIter,Int.natCast_add] using e2) (sb1.trans sb2))
theorem set_next_end {o:Obj} {es:Array (Int × Value)} {ep slot k:Nat} {t:SetTable} {Q:Option Value→Shared→Prop} (hh:A.handled=none) (hI:s.heap.get? I=some (setIter (.int slot 0) k a es.size ep)) (ho:s.heap.get? a=some o) (hd:o.data= .set es ep t) (hf:t.fits es.size=true)
 (hn:∀(A':Around) (Q':Option (Value × Nat)→Shared→Prop) (E':Value→Shared→Prop),Q' none s→wpAny C.M A' (setNext a slot k ep) Q' E' s)
 (q:∀h',Heap.ExtBut I s.heap h'→Q none {s with heap:=h' }):wpAny C.M A (pyNext (.ref I)) Q E s:=by
 have hT:s.TypeIs (.ref I) "set_iterator" := ⟨_,hI,rfl⟩
 unfold pyNext
 refine Qw (wpAny_attempt (wpAny_callSpecial?_slot (name:=Qq "__next__") hT FF.slot_setiter_next (Wu FF.slot_setiter_next hT FF.entry_setiter_next ?_ (FF.args_setiter_next _))))
 unfold Builtin.«set_iterator.__next__»
 refine Qw (m:=slotArgs "__next__" 0 _) (Qr ?_)
 dsimp only
 refine Qw (wpAny_fieldsOf hI rfl ?_)
 dsimp only
 refine Qw (wpAny_setEntries_of ho hd hf ?_)
 rw[if_neg (by simp)]
 refine Qw (hn _ _ _ ?_)
 dsimp only
 refine Qw (wpAny_setField_rec hI (by simp) fun h1 e1 sb1=> ?_)
 refine stop_raise (by simpa using hh) fun h' keep e he=> ?_
 refine x_EA he fun oe ho' hc'=> ?_
 refine Qw (wpAny_isInstance (T := "StopIteration") (b:=true) ⟨oe,ho',hc'⟩ isSubtype_stop ?_)
 exact Qr (q h' fun b ob hb e=>keep b ob ((sb1.2 b hb).trans e))
end
section
variable {a I:Addr} {ks:List Key}
theorem set_next_draw_item {o:Obj} {es:Array (Int × Value)} {ep k pl:Nat} {t:SetTable} {T:Addr} {oT:Obj} {places:List Nat} {nT:Nat} {e:Int × Value} {Q:Option Value→Shared→Prop} (hI:s.heap.get? I=some (setIter (.ref T) k a es.size ep)) (hT':s.heap.get? T=some oT) (hTd:oT.data= .seq (places.map fun(i:Nat)=>rawInt i).toArray nT)
 (ho:s.heap.get? a=some o) (hd:o.data= .set es ep t) (hf:t.fits es.size=true) (hk:places[k]? =some pl) (he:es[pl]? =some e)
 (q:∀h',h'.get? I=some (setIter (.ref T) (k+1) a es.size ep)→Heap.SameBut I s.heap h'→Q (some e.2) {s with heap:=h' }):wpAny C.M A (pyNext (.ref I)) Q E s:=by
 have hT:s.TypeIs (.ref I) "set_iterator" := ⟨_,hI,rfl⟩
 unfold pyNext
 refine Qw (wpAny_attempt (wpAny_callSpecial?_slot (name:=Qq "__next__") hT FF.slot_setiter_next (Wu FF.slot_setiter_next hT FF.entry_setiter_next ?_ (FF.args_setiter_next _))))
 unfold Builtin.«set_iterator.__next__»
 refine Qw (m:=slotArgs "__next__" 0 _) (Qr ?_)
 dsimp only
 refine Qw (wpAny_fieldsOf hI rfl ?_)
 dsimp only
 refine Qw (wpAny_setEntries_of ho hd hf ?_)
 rw[if_neg (by simp)]
 refine Qw (wpAny_seqItems hT' hTd ?_)
 have hg:(places.map fun(i:Nat)=>rawInt i).toArray[(k:Int).toNat]? =some (rawInt pl):=by simp[hk]
 dsimp only
 rw[hg]
 dsimp only[rawInt]
 refine Qw ?_
 unfold setNextDrawn
 refine Qw (wpAny_setState_of ho hd hf ?_)
 dsimp only
 rw[if_neg (by simp)]
 have he':es[(pl:Int).toNat]? =some (e.1,e.2):=by simpa using he
 rw[he']
 refine Qr ?_
 refine Qw (wpAny_setField_rec hI (by simp) fun h1 e1 sb1=>Qr ⟨_,rfl,Qr (q h1 (by simpa [rawInt,setIter,Int.natCast_add] using e1) sb1)⟩)
theorem set_next_draw_end {o:Obj} {es:Array (Int × Value)} {ep k:Nat} {t:SetTable} {T:Addr} {oT:Obj} {places:List Nat} {nT:Nat} {Q:Option Value→Shared→Prop} (hh:A.handled=none) (hI:s.heap.get? I=some (setIter (.ref T) k a es.size ep)) (hT':s.heap.get? T=some oT) (hTd:oT.data= .seq (places.map fun(i:Nat)=>rawInt i).toArray nT)
 (ho:s.heap.get? a=some o) (hd:o.data= .set es ep t) (hf:t.fits es.size=true) (hk:places[k]? =none)
 (q:∀h',Heap.ExtBut I s.heap h'→Q none {s with heap:=h' }):wpAny C.M A (pyNext (.ref I)) Q E s:=by
 have hT:s.TypeIs (.ref I) "set_iterator" := ⟨_,hI,rfl⟩
 unfold pyNext
 refine Qw (wpAny_attempt (wpAny_callSpecial?_slot (name:=Qq "__next__") hT FF.slot_setiter_next (Wu FF.slot_setiter_next hT FF.entry_setiter_next ?_ (FF.args_setiter_next _))))
 unfold Builtin.«set_iterator.__next__»
 refine Qw (m:=slotArgs "__next__" 0 _) (Qr ?_)
 dsimp only
 refine Qw (wpAny_fieldsOf hI rfl ?_)
 dsimp only
 refine Qw (wpAny_setEntries_of ho hd hf ?_)
 rw[if_neg (by simp)]
 refine Qw (wpAny_seqItems hT' hTd ?_)
 have hg:(places.map fun(i:Nat)=>rawInt i).toArray[(k:Int).toNat]? =none:=by simpa using hk
 dsimp only
 rw[hg]
 dsimp only
 refine Qw (wpAny_setField_rec hI (by simp) fun h1 e1 sb1=> ?_)
 refine Qw (wpAny_setField_rec (s:={s with heap:=h1 }) e1 (by simp) fun h2 e2 sb2=> ?_)
 refine stop_raise (by simpa using hh) fun h' keep e he=> ?_
 refine x_EA he fun oe ho' hc'=> ?_
 refine Qw (wpAny_isInstance (T := "StopIteration") (b:=true) ⟨oe,ho',hc'⟩ isSubtype_stop ?_)
 exact Qr (q h' fun b ob hb e=>keep b ob ((sb2.2 b hb).trans ((sb1.2 b hb).trans e)))
theorem setNext_text {o:Obj} {es:Array (Int × Value)} {ep slot k:Nat} {t:SetTable} {Q:Option (Value × Nat)→Shared→Prop} (hx:C.w.params.followText "set-order" = true) (ho:s.heap.get? a=some o) (hd:o.data= .set es ep t) (hf:t.fits es.size=true)
 (q:Q ((pickOrder (C.w.params.setOrder a ep) es)[k]?.map fun e=>(e.2,slot)) s):wpAny C.M A (setNext a slot k ep) Q E s:=by
 unfold setNext setsByText
 refine Qw (wpAny_setState_of ho hd hf ?_)
 dsimp only
 refine Qw (Qw (wpAny_askSetting (Qr ?_)))
 show wpAny _ _ (if C.w.params.followText "set-order" = true then _ else _) _ _ _
 rw[if_pos hx,if_neg (by simp)]
 refine Qw ?_
 unfold setWalk setsByText
 refine Qw (wpAny_setState_of ho hd hf ?_)
 dsimp only
 refine Qw (Qw (wpAny_askSetting (Qr ?_)))
 show wpAny _ _ (if C.w.params.followText "set-order" = true then _ else _) _ _ _
 rw[if_pos hx]
 exact Qw (wpAny_askSetting (Qr (Qr q)))
theorem setNext_plain {o:Obj} {es:Array (Int × Value)} {ep slot k:Nat} {t:SetTable} {Q:Option (Value × Nat)→Shared→Prop} (hx:C.w.params.followText "set-order" = false) (hdr:(!t.plain&&decide (es.size>1))=false) (hled:t.led=true) (ho:s.heap.get? a=some o) (hd:o.data= .set es ep t) (hf:t.fits es.size=true) (hr:Rises t.place)
 (hs:slot=match k with|0=>0|k+1=>t.place.getD k 0+1) (hkl:k≤es.size)
 (q:Q (match es[k]?,t.place[k]? with|some (_,x),some j=>some (x,j+1)|_,_=>none) s):wpAny C.M A (setNext a slot k ep) Q E s:=by
 have hsz:t.place.size=es.size:=by simp only[SetTable.fits,Bool.and_eq_true,beq_iff_eq] at hf;exact hf.1
 have hb:QJ t.place slot=k:=by
  refine x_AA (below_spec hr slot) fun b1 b2 b3=> ?_
  rcases Nat.lt_trichotomy (QJ t.place slot) k with z|z|z
  · cases k with
    |zero=>exact absurd z (Q0 _)
    |succ k =>
     have hk:k<t.place.size:=hsz▸hkl
     have e:slot=t.place[k]+1:=by rw[hs];simp[Array.getD,hk]
     exact absurd (b3 k hk (Qv z)) (Nat.not_le_of_lt (e▸Qk _))
  ·exact z
  · exfalso
    have hkp:k<t.place.size:=Qy z b1
    have h1:=b2 k hkp z
    cases k with
    |zero=>exact absurd h1 (hs▸Q0 _)
    |succ k =>
     have hk:k<t.place.size:=Nat.lt_of_succ_lt hkp
     have e:slot=t.place[k]+1:=by rw[hs];simp[Array.getD,hk]
     exact absurd (hr.lt hkp (Qk k)) (Nat.not_lt_of_le (Qv (Qy h1 (QK e))))
 unfold setNext setsByText
 refine Qw (wpAny_setState_of ho hd hf ?_)
 dsimp only
 refine Qw (Qw (wpAny_askSetting (Qr ?_)))
 show wpAny _ _ (if C.w.params.followText "set-order" = true then _ else _) _ _ _
 rw[if_neg (by rw[hx];simp)]
 show wpAny _ _ (if(!t.plain&&decide (es.size>1))=true then _ else _) _ _ _
 rw[if_neg (by rw[hdr];simp)]
 have hm:wpAny C.M A (if(!t.led&& !es.isEmpty)=true then unsupported "set:maker-not-led" else pure ()) (fun _ s'=>wpAny C.M A (pure (match es[QJ t.place slot]?,t.place[QJ t.place slot]? with|some (_,x),some j=>some (x,j+1)|_,_=>none)) Q E s') E s:=by
  rw[hled,if_neg (by simp),hb]
  exact Qr (Qr q)
 exact Qw hm
theorem Rep.growS {w:Wd} {s':Shared} (R:Rep C w h) (hk:∀b o,w.s.heap.get? b=some o→s'.heap.get? b=some o) (ho:s'.os=w.s.os) (hg:s'.gens=w.s.gens):Rep C ⟨w.g,w.ρ,s'⟩ h where
 keep:=fun a o e=>hk _ _ (R.keep a o e)
 len:=R.len
 nd:=R.nd
 off:=R.off
 dead:=R.dead
 obj:=fun i a h3=>let⟨o,h4,h5⟩:=R.obj i a h3;⟨o,hk _ _ h4,h5⟩
 new:=R.new
 os:=ho.trans R.os
 bare:=by show AllBare s'.gens;rw[hg];exact R.bare
 top:=R.top
 tab:=fun a ha=>let⟨o,e,q⟩:=R.tab a ha;⟨o,hk _ _ e,q⟩
 offtab:=R.offtab
theorem Ext.growS {X:List Addr} {w:Wd} {s':Shared} (hk:∀b o,w.s.heap.get? b=some o→s'.heap.get? b=some o):Ext C X w ⟨w.g,w.ρ,s'⟩ where
 sub:= .refl _
 new:=fun _ _ e=> .inl e
 pre:=Ql _
 newρ:=fun _ h=> .inl h
 kept:=fun b o e _ _ _=>hk b o e
 live:=fun b o e=>⟨o,hk b o e⟩
theorem Rep.setO {w:Wd} {i:Nat} {a:Addr} {o:Obj} {ks:List Key} (R:Rep C w h) (hi:w.ρ[i]? =some a) (hv:h.σ i= .setO o ks):w.s.heap.get? a=some o∧SetObj C o ks:=by
 refine x_EA (R.obj i a hi) fun o' h1 h2=> ?_
 rw[hv] at h2
 refine x_A h2 fun z65 h3=> ?_;subst z65
 exact⟨h1,h3⟩
theorem Rep.toSetO {w:Wd} {i:Nat} {a:Addr} {ks:List Key} (R:Rep C w h) (hi:w.ρ[i]? =some a) (hv:h.σ i= .set ks):∃o,w.s.heap.get? a=some o∧SetObj C o ks∧Rep C w (h.upd i (.setO o ks)):=by
 refine x_EA (R.obj i a hi) fun o h1 h2=> ?_
 rw[hv] at h2
 exact⟨o,h1,h2,R.change (hp:=w.s.heap) (k:=w.s.toks) hi (by rw[hv];simp) (fun b o _ e=>e) h1 ⟨rfl,h2⟩⟩
theorem keys_of {es:List (Int × Value)} (hel:ElemsOf C.k es):∃l:List Key,l.length=es.length∧∀(i:Nat) (e:Int × Value),es[i]? =some e→∃k,l[i]? =some k∧C.k.is k e.2=true:=by
 induction es with
 |nil=>exact⟨[],rfl,fun i e h=>by simp at h⟩
 |cons x es ih =>
  refine x_A hel.head fun z66 _=> ?_;obtain⟨k,hk,_⟩:=z66
  refine x_EA (ih hel.tail) fun l h1 h2=> ?_
  refine⟨k::l,by simp[h1],fun i e h=> ?_⟩
  cases i with
  |zero=>simp at h;subst h;exact⟨k,rfl,hk⟩
  |succ i=>exact h2 i e (by simpa using h)
theorem nodup_of_cover:∀{ks l:List Key},ks.Nodup→l.length=ks.length→(∀k,k∈ks↔k∈l)→l.Perm ks:=by
 have main:∀(ks l:List Key),ks.Nodup→l.length=ks.length→(∀k,k∈ks→k∈l)→l.Perm ks:=by
  intro ks
  induction ks with
  |nil =>
   intro l _ hl _
   have:l=[]:=List.length_eq_zero_iff.mp (by simpa using hl)
   rw[this]
  |cons k ks ih =>
   intro l hn hl hc
   have hk:k∈l:=hc k (by simp)
   have hn':=List.nodup_cons.mp hn
   refine(List.perm_cons_erase hk).trans ((ih (l.erase k) hn'.2 ?_ fun x hx=> ?_).cons k)
   ·rw[List.length_erase_of_mem hk,hl];simp
   · have hne:x≠k:=fun e=>hn'.1 (e▸hx)
     exact(List.mem_erase_of_ne hne).mpr (hc x (by simp[hx]))
 intro ks l hn hl hc
 exact main ks l hn hl fun k h=>(hc k).mp h
theorem order_keys {es ys:List (Int × Value)} {ks:List Key} (hel:ElemsOf C.k es) (hm:∀k,k∈ks↔∃e∈es,C.k.is k e.2=true) (hn:ks.Nodup) (hl:es.length=ks.length) (hp:ys.Perm es) :
 ∃l:List Key,l.Perm ks∧l.length=ys.length∧∀(i:Nat) (e:Int × Value),ys[i]? =some e→∃k,l[i]? =some k∧C.k.is k e.2=true:=by
 refine x_EA (keys_of (hel.perm hp)) fun l h1 h2=> ?_
 refine⟨l,nodup_of_cover hn (by rw[h1,hp.length_eq,hl]) fun k=> ?_,h1,h2⟩
 rw[hm k]
 constructor
 · rintro⟨e,he,hk⟩
   obtain⟨i,hi⟩:=List.getElem?_of_mem (hp.mem_iff.mpr he)
   refine x_EA (h2 i e hi) fun k' h3 h4=> ?_
   rw[C.k.inj e.2 k k' hk h4];exact Qa h3
 · intro hk
   obtain⟨i,hi⟩:=List.getElem?_of_mem hk
   have hlt:i<ys.length:=by rw[←h1];exact(Qp.mp hi).1
   obtain⟨k',h3,h4⟩:=h2 i ys[i] (Qh hlt)
   rw[hi] at h3;cases h3
   exact⟨ys[i],hp.mem_iff.mp (List.getElem_mem hlt),h4⟩
end
namespace FF
theorem slot_setiter_iter:Slot "set_iterator" "__iter__" "set_iterator.__iter__" :=
 .of (owner := "set_iterator") (n := "__iter__") (by rw[typeLookup_type,QG];kernel_rfl) (by decide +kernel) (by decide +kernel) (by decide +kernel)
  (by first|exact .inl (by decide +kernel)|exact .inr (by decide +kernel)) (by rw[isSubtype_type];kernel_rfl)
theorem entry_setiter_iter:entryFor table "set_iterator.__iter__" = some Builtin.«dict_keyiterator.__iter__» :=
 entryFor_alias (id' := "dict_keyiterator.__iter__") (by kernel_rfl) (by first|rfl|decide +kernel) (by decide +kernel) (by kernel_rfl)
theorem args_setiter_iter (a:Value):argsOk "set_iterator.__iter__" ⟨[a],[]⟩:=by
 unfold argsOk;rw[signature?_of (id := "set_iterator.__iter__") (n:=['_','_','r','e','t','i','_','_']) (o:=['r','o','t','a','r','e','t','i','_','t','e','s']) (by kernel_rfl) owner_setiter];kernel_rfl
end FF
section
variable {K:Hs→(Hs→Prop)→List V→Prop} {tg:Expr→Prop}
theorem pyIter_setiter {A:Around} {E:Value→Shared→Prop} {s:Shared} {I a:Addr} {first:Value} {k m ep:Nat} {Q:Value→Shared→Prop} (hI:s.heap.get? I=some (setIter first k a m ep)) (q:Q (.ref I) s):wpAny C.M A (pyIter (.ref I)) Q E s:=by
 have hT:s.TypeIs (.ref I) "set_iterator" := ⟨_,hI,rfl⟩
 refine wpAny_pyIter_slot hT FF.slot_setiter_iter (Wu FF.slot_setiter_iter hT FF.entry_setiter_iter ?_ (FF.args_setiter_iter _))
 show wpAny _ _ (ret (.ref I)) _ _ s
 exact Qr ⟨_,rfl, "set_iterator",_,hT,FF.slot_setiter_next.lookup,q⟩
theorem itr_set {I a:Addr} {i:Nat} {o:Obj} {ks:List Key} {es:Array (Int × Value)} {ep:Nat} {t:SetTable} {wr:List Addr} {J:Nat→Heap→Prop} {ys:List (Int × Value)} {l:List Key} (hIw:I∈wr) (hd:o.data= .set es ep t) (hf:t.fits es.size=true)
 (hl:l.length=ys.length) (hk:∀(i:Nat) (e:Int × Value),ys[i]? =some e→∃k,l[i]? =some k∧C.k.is k e.2=true)
 (hJI:∀k hp,J k hp→∃first,hp.get? I=some (setIter first k a es.size ep)) (hlive:∀k hp,J k hp→∀b∈wr,∃o,hp.get? b=some o) (hkeep:∀k hp hp',J k hp→(∀b∈wr,hp'.get? b=hp.get? b)→J k hp') (hle:∀k hp,J k hp→k≤ys.length)
 (hitem:∀(A:Around) (s:Shared) (k:Nat) (e:Int × Value) (Q:Option Value→Shared→Prop) (E:Value→Shared→Prop),J k s.heap→s.heap.get? a=some o→ys[k]? =some e→(∀h',J (k+1) h'→Heap.SameBut I s.heap h'→Q (some e.2) {s with heap:=h' })→wpAny C.M A (pyNext (.ref I)) Q E s)
 (hend:∀(A:Around) (s:Shared) (k:Nat) (Q:Option Value→Shared→Prop) (E:Value→Shared→Prop),A.handled=none→J k s.heap→s.heap.get? a=some o→ys[k]? =none→(∀h',Heap.ExtBut I s.heap h'→Q none {s with heap:=h' })→wpAny C.M A (pyNext (.ref I)) Q E s) :
 Itr C n (.ref I) wr J (fun h'=>h'.σ i= .setO o ks) tg (.ref i) (.ref a) (l.map Key.v) where
 next:=fun A w h k v t Q' E a0 R c0 hok hJ ha hkv ht q=>by
  refine x_EA c0.toInv fun _ e0 hi=> ?_;cases e0
  ·
   refine x_A (R.setO hi hok) fun ho hS=> ?_
   rw[Qb] at hkv
   refine x_EA (QW.mp hkv) fun k0 hk0 z67=> ?_;subst z67
   have hlt:k<ys.length:=by rw[←hl];exact(Qp.mp hk0).1
   obtain⟨k1,h1,h2⟩:=hk k ys[k] (Qh hlt)
   rw[hk0] at h1;cases h1
   refine hitem A w.s k ys[k] _ _ hJ ho (Qh hlt) fun hp hJ' sb=> ?_
   refine x_E (hJI _ _ hJ') fun first hI=> ?_
   have keep:∀b o,b∉wr→w.s.heap.get? b=some o→hp.get? b=some o:=fun b o hb e=>(sb.2 b fun z=>hb (z▸hIw)).trans e
   refine letGo_other (s:={w.s with heap:=hp }) hI rfl rfl (q ys[k].2 (w.at hp w.s.toks) ⟨.refl _,fun _ _ e=> .inl e,Ql _,fun _ z=> .inl z,fun b o e _ hb _=>keep b o hb e,fun b o' e=> ?_⟩ rfl (R.apart keep ha) hJ' (key_conc h2))
   by_cases hb:b∈wr
   ·exact hlive _ _ hJ' b hb
   ·exact⟨o',keep b o' hb e⟩
 stop:=fun A w h k Q' E a0 R c0 hok hJ ha hkv q=>by
  refine x_EA c0.toInv fun _ e0 hi=> ?_;cases e0
  ·
   refine x_A (R.setO hi hok) fun ho hS=> ?_
   have:ys[k]? =none:=by
    rw[Qb,Option.map_eq_none_iff,List.getElem?_eq_none_iff] at hkv
    rw[List.getElem?_eq_none_iff];omega
   exact hend A w.s k _ _ a0.handled hJ ho this fun hp eb=>q hp w.s.toks fun b o hb e=>eb b o (fun z=>hb (z▸hIw)) e
 keep:=hkeep
 live:=hlive
 self:=fun A k s Q' E hJ q=>let⟨first,hI⟩:=hJI k _ hJ;pyIter_setiter hI q
theorem its_set {i:Nat} {ks:List Key} (hv:h.σ i= .set ks) (q:∀(o:Obj) (l:List Key),l.Perm ks→K (h.upd i (.setO o ks)) (fun h'=>h'.σ i= .setO o ks) (l.map Key.v)):Its C n h tg (.ref i) K:=⟨fun A w Q' E x0 a0 R c kk=>by
 refine c.eRef fun a hi=> ?_
 ·
  refine x_EAA (R.toSetO hi hv) fun o ho hS R1=> ?_
  obtain⟨es,ep,t,hex,hd,hel,hmem,hnd,hlen,hb,hf,hled,hr⟩:=hS
  have hT:w.s.TypeIs (.ref a) "set" := ⟨o,ho,hex.1⟩
  have hel':es.toList.length=ks.length:=by simpa using hlen
  refine wpAny_pyIter_slot hT PySem.F.slot_set_iter (Wu PySem.F.slot_set_iter hT FF.entry_set_iter ?_ (PySem.F.args_set_iter_1 _))
  unfold Builtin.«frozenset.__iter__» Builtin.Frozenset.slot0
  refine Qw (Qw (m:=slotArgs "__iter__" 0 _) (Qr ?_))
  unfold Builtin.Frozenset.addrOf
  refine Qr ?_
  unfold Builtin.Frozenset.sizeOf
  refine Qw (Qw (wpAny_setEntries_of ho hd hf (Qr ?_)))
  refine Qw ?_
  unfold setDrawn setsByText
  refine Qw (wpAny_setState_of ho hd hf ?_)
  dsimp only
  refine Qw (Qw (wpAny_askSetting (Qr ?_)))
  refine Qr ?_
  have hn0:w.s.heap.get? w.s.heap.objs.size=none:=fresh_none (Qt _)
  have off0:=R.off_fresh hn0
  have fin:∀(J:Nat→Heap→Prop) (ys:List (Int × Value)) (slot0:Nat),slot0=0→ys.Perm es.toList→J 0 (w.s.heap.push (setIter (.int 0 0) 0 a es.size ep)) →
   (∀l:List Key,l.length=ys.length→(∀(i:Nat) (e:Int × Value),ys[i]? =some e→∃k,l[i]? =some k∧C.k.is k e.2=true)→Itr C n (.ref w.s.heap.objs.size) [w.s.heap.objs.size] J (fun h'=>h'.σ i= .setO o ks) tg (.ref i) (.ref a) (l.map Key.v)) →
   wpAny C.M A.in1 (do ret (←newFields "set_iterator" [rawInt 0,rawInt 0, .ref a,rawInt es.size,rawInt (←setEpoch a)])) (fun fin s'=>∃v,fin= .done (.ret v)∧∃T' r,s'.TypeIs v T'∧typeLookup (.type T') "__next__" = pure (some r)∧Q' v s') E w.s:=by
   intro J ys slot0 hs0 hp hJ0 hI
   refine x_EAA (order_keys hel hmem hnd hel' hp) fun l hl1 hl2 hl3=> ?_
   refine Qw (wpAny_setEpoch_of ho hd hf ?_)
   refine Qw (wpAny_newObj_type (Qr ⟨_,rfl, "set_iterator",_,⟨_,Qu _ rfl,rfl⟩,FF.slot_setiter_next.lookup, ?_⟩))
   exact kk (.ref w.s.heap.objs.size) [w.s.heap.objs.size] J (w.at _ w.s.toks) _ _ _ (.ref i) (.ref a) (q o l hl1) (Ext.grow push_keeps) (R1.grow push_keeps) (by simpa using hn0) (by simpa using off0) hJ0 (.ref hi) (hI l hl2 hl3)
  cases hx:C.w.params.followText "set-order" with
  |true =>
   show wpAny _ _ (if(!C.w.params.followText "set-order" && _)=true then _ else _) _ _ _
   rw[if_neg (by rw[hx];simp)]
   refine Qw (Qr ?_)
   have hpk:=pick_perm (C.w.params.setOrder a ep) es
   refine fin (fun k hp=>k≤es.size∧hp.get? w.s.heap.objs.size=some (setIter (.int (0:Nat) 0) k a es.size ep)) _ 0 rfl hpk ⟨Qz _,Qu _ rfl⟩ fun l hl2 hl3=> ?_
   have hsz:(pickOrder (C.w.params.setOrder a ep) es).toList.length=es.size:=by rw[hpk.length_eq];simp
   refine itr_set (by simp) hd hf hl2 hl3 (fun k hp hJ=>⟨_,hJ.2⟩) (fun k hp hJ b hb=>(Qs.mp hb)▸⟨_,hJ.2⟩) (fun k hp hp' hJ e=>⟨hJ.1,(e _ (by simp)).trans hJ.2⟩) (fun k hp hJ=>by rw[hsz];exact hJ.1) ?_ ?_
   · intro A' s k e Q E hJ ho' hy q'
     have hlt:k<es.size:=by rw[←hsz];exact(Qp.mp hy).1
     refine set_next_item (slot:=0) (nx:=0) hJ.2 ho' hd hf (fun A'' Q'' E'' z=>setNext_text hx ho' hd hf ?_) fun h' e' sb=>q' h' ⟨hlt,e'⟩ sb
     rw[←Array.getElem?_toList,hy];exact z
   · intro A' s k Q E hh hJ ho' hy q'
     refine set_next_end (slot:=0) hh hJ.2 ho' hd hf (fun A'' Q'' E'' z=>setNext_text hx ho' hd hf ?_) q'
     rw[←Array.getElem?_toList,hy];exact z
  |false =>
   have hled':t.led=true:=by rw[hled,hx];rfl
   cases hdr:(!t.plain&&decide (es.size>1)) with
   |false =>
    show wpAny _ _ (if(!C.w.params.followText "set-order" && (!t.plain&&decide (es.size>1)))=true then _ else _) _ _ _
    rw[if_neg (by rw[hdr];simp)]
    refine Qw (Qr ?_)
    have hpsz:t.place.size=es.size:=by simp only[SetTable.fits,Bool.and_eq_true,beq_iff_eq] at hf;exact hf.1
    refine fin (fun k hp=>k≤es.size∧hp.get? w.s.heap.objs.size=some (setIter (.int ((match k with|0=>0|k+1=>t.place.getD k 0+1:Nat):Int) 0) k a es.size ep)) es.toList 0 rfl (.refl _) ⟨Qz _,Qu _ rfl⟩ fun l hl2 hl3=> ?_
    refine itr_set (by simp) hd hf hl2 hl3 (fun k hp hJ=>⟨_,hJ.2⟩) (fun k hp hJ b hb=>(Qs.mp hb)▸⟨_,hJ.2⟩) (fun k hp hp' hJ e=>⟨hJ.1,(e _ (by simp)).trans hJ.2⟩) (fun k hp hJ=>by simpa using hJ.1) ?_ ?_
    · intro A' s k e Q E hJ ho' hy q'
      have hlt:k<es.size:=by simpa using (Qp.mp hy).1
      have hpl:k<t.place.size:=by omega
      refine set_next_item (nx:=t.place.getD k 0+1) hJ.2 ho' hd hf (fun A'' Q'' E'' z=>setNext_plain hx hdr hled' ho' hd hf hr rfl hJ.1 ?_) fun h' e' sb=>q' h' ⟨hlt,e'⟩ sb
      rw[←Array.getElem?_toList,hy,Array.getElem?_eq_getElem hpl]
      have:t.place.getD k 0=t.place[k]:=by simp[Array.getD,hpl]
      rw[this] at z;exact z
    · intro A' s k Q E hh hJ ho' hy q'
      refine set_next_end hh hJ.2 ho' hd hf (fun A'' Q'' E'' z=>setNext_plain hx hdr hled' ho' hd hf hr rfl hJ.1 ?_) q'
      rw[←Array.getElem?_toList,hy];exact z
   |true =>
    show wpAny _ _ (if(!C.w.params.followText "set-order" && (!t.plain&&decide (es.size>1)))=true then _ else _) _ _ _
    rw[if_pos (by rw[hdr,hx];rfl)]
    refine Qw (draw_order _ _ _ _ (by simp) fun pl d hp=> ?_)
    refine Qw (wpAny_newObj_type ?_ (by show(pl.map fun(i:Nat)=>rawInt i).toArray.size≤_;rw[List.size_toArray,Qo,hp.length_eq,List.length_range];have:=fits_of_scanBound hb;exact this))
    have hT0:(w.s.heap.push {cls:= .type "tuple",data:= .seq (pl.map fun(i:Nat)=>rawInt i).toArray }).get? w.s.heap.objs.size=some _:=Qu _ rfl
    have ho1:(w.s.heap.push {cls:= .type "tuple",data:= .seq (pl.map fun(i:Nat)=>rawInt i).toArray }).get? a=some o:=Qd _ ho
    refine Qw (wpAny_setEpoch_of (s:={w.s with drawn:=d,heap:=w.s.heap.push {cls:= .type "tuple",data:= .seq (pl.map fun(i:Nat)=>rawInt i).toArray } }) ho1 hd hf ?_)
    refine Qw (wpAny_newObj_type (Qr ⟨_,rfl, "set_iterator",_,⟨_,Qu _ rfl,rfl⟩,FF.slot_setiter_next.lookup, ?_⟩))
    have hys:(pl.filterMap fun j=>es[j]?).Perm es.toList:=(hp.filterMap _).trans (by rw[filterMap_getElem?_range])
    have hall:∀(k:Nat),(pl.filterMap fun j=>es[j]?)[k]? =(pl[k]?).bind fun j=>es[j]? :=by
     have hmem':∀j∈pl,j<es.size:=fun j hj=>by simpa using hp.mem_iff.mp hj
     clear hp hT0 ho1 hys
     intro k
     induction pl generalizing k with
     |nil=>simp
     |cons j pl ih =>
      have hj:=hmem' j (by simp)
      rw[List.filterMap_cons,Array.getElem?_eq_getElem hj]
      cases k with
      |zero=>simp[hj]
      |succ k=>simpa using ih (fun j hj=>hmem' j (by simp[hj])) k
    have hylen:(pl.filterMap fun j=>es[j]?).length=es.size:=by rw[hys.length_eq];simp
    have hpllen:pl.length=es.size:=by rw[hp.length_eq];simp
    refine x_EAA (order_keys hel hmem hnd hel' hys) fun l hl1 hl2 hl3=> ?_
    have hszT:(w.s.heap.push {cls:= .type "tuple",data:= .seq (pl.map fun(i:Nat)=>rawInt i).toArray }).objs.size=w.s.heap.objs.size+1:=Heap.size_push ..
    have hn1:w.s.heap.get? (w.s.heap.objs.size+1)=none:=fresh_none (Nat.le_succ _)
    have off1:=R.off_fresh hn1
    show Q' (.ref (w.s.heap.push {cls:= .type "tuple",data:= .seq (pl.map fun(i:Nat)=>rawInt i).toArray }).objs.size) _
    rw[hszT]
    have keep:∀b o,w.s.heap.get? b=some o→((w.s.heap.push {cls:= .type "tuple",data:= .seq (pl.map fun(i:Nat)=>rawInt i).toArray }).push (setIter (.ref w.s.heap.objs.size) 0 a es.size ep)).get? b=some o:=fun b o e=>Qd _ (Qd _ e)
    have hIget:((w.s.heap.push {cls:= .type "tuple",data:= .seq (pl.map fun(i:Nat)=>rawInt i).toArray }).push (setIter (.ref w.s.heap.objs.size) 0 a es.size ep)).get? (w.s.heap.objs.size+1)=some (setIter (.ref w.s.heap.objs.size) 0 a es.size ep):=by rw[←hszT];exact Qu _ rfl
    refine kk (.ref (w.s.heap.objs.size+1)) [w.s.heap.objs.size+1,w.s.heap.objs.size] (fun k hp=>k≤es.size∧hp.get? (w.s.heap.objs.size+1)=some (setIter (.ref w.s.heap.objs.size) k a es.size ep)∧hp.get? w.s.heap.objs.size=some {cls:= .type "tuple",data:= .seq (pl.map fun(i:Nat)=>rawInt i).toArray })
     ⟨w.g,w.ρ,{w.s with drawn:=d,heap:=(w.s.heap.push {cls:= .type "tuple",data:= .seq (pl.map fun(i:Nat)=>rawInt i).toArray }).push (setIter (.ref w.s.heap.objs.size) 0 a es.size ep) }⟩ _ _ _ (.ref i) (.ref a) (q o l hl1) (Ext.growS keep) (R1.growS keep rfl rfl) (by simp;exact⟨hn1,hn0⟩) (by simp;exact⟨off1,off0⟩) ⟨Qz _,hIget,Qd _ hT0⟩ (.ref hi) ?_
    refine itr_set (ys:=pl.filterMap fun j=>es[j]?) (by simp) hd hf hl2 hl3 (fun k hp hJ=>⟨_,hJ.2.1⟩) (fun k hp hJ b hb=> ?_) (fun k hp hp' hJ e=>⟨hJ.1,(e _ (by simp)).trans hJ.2.1,(e _ (by simp)).trans hJ.2.2⟩) (fun k hp hJ=>by rw[hylen];exact hJ.1) ?_ ?_
    · rcases QY.mp hb with rfl|hb
      ·exact⟨_,hJ.2.1⟩
      ·rw[Qs.mp hb];exact⟨_,hJ.2.2⟩
    · intro A' s k e Q E hJ ho' hy q'
      have hlt:k<es.size:=by rw[←hylen];exact(Qp.mp hy).1
      have hpk:pl[k]? =some pl[k]:=Qh (by omega)
      rw[hall k,hpk] at hy
      exact set_next_draw_item hJ.2.1 hJ.2.2 rfl ho' hd hf hpk hy fun h' e' sb=>q' h' ⟨hlt,e',(sb.2 _ (Qg (Qk _))).trans hJ.2.2⟩ sb
    · intro A' s k Q E hh hJ ho' hy q'
      have:pl[k]? =none:=by
       rw[List.getElem?_eq_none_iff] at hy ⊢;omega
      exact set_next_draw_end hh hJ.2.1 hJ.2.2 rfl ho' hd hf this q'⟩
end
section
variable {QM:V→List V→Hs→Prop}
theorem cl1 {f a:V} (H:∀(A:Around) (w:Wd) (Q':Value→Shared→Prop) (E:Value→Shared→Prop) (fx x:Value),AOk A n→Rep C w h→Conc C w.g w.ρ f fx→Conc C w.g w.ρ a x →
 (∀(r:Value) (v:V) (h':Hs) (w':Wd),Q v h'→Ext C [] w w'→Rep C w' h'→Conc C w'.g w'.ρ v r→Q' r w'.s)→wpAny C.M A (call fx [x]) Q' E w.s):Cl C n h f [a] [] Q:=⟨fun A w Q' E fx xs ks a0 R cf cx hk ck c=>by
 refine cx.e fun x1 r1 cx cn=> ?_
 refine cn.e0 ?_
 refine kw0E hk ?_
 exact H A w Q' E fx _ a0 R cf cx c⟩
theorem cl2 {f a b:V} (H:∀(A:Around) (w:Wd) (Q':Value→Shared→Prop) (E:Value→Shared→Prop) (fx x y:Value),AOk A n→Rep C w h→Conc C w.g w.ρ f fx→Conc C w.g w.ρ a x→Conc C w.g w.ρ b y →
 (∀(r:Value) (v:V) (h':Hs) (w':Wd),Q v h'→Ext C [] w w'→Rep C w' h'→Conc C w'.g w'.ρ v r→Q' r w'.s)→wpAny C.M A (call fx [x,y]) Q' E w.s):Cl C n h f [a,b] [] Q:=⟨fun A w Q' E fx xs ks a0 R cf cx hk ck c=>by
 refine cx.e fun x1 r1 cx cn=> ?_
 refine cn.e fun x2 r2 cy cn=> ?_
 refine cn.e0 ?_
 refine kw0E hk ?_
 exact H A w Q' E fx _ _ a0 R cf cx cy c⟩
theorem cl0 {f:V} (H:∀(A:Around) (w:Wd) (Q':Value→Shared→Prop) (E:Value→Shared→Prop) (fx:Value),AOk A n→Rep C w h→Conc C w.g w.ρ f fx →
 (∀(r:Value) (v:V) (h':Hs) (w':Wd),Q v h'→Ext C [] w w'→Rep C w' h'→Conc C w'.g w'.ρ v r→Q' r w'.s)→wpAny C.M A (call fx []) Q' E w.s):Cl C n h f [] [] Q:=⟨fun A w Q' E fx xs ks a0 R cf cx hk ck c=>by
 refine cx.e0 ?_
 refine kw0E hk ?_
 exact H A w Q' E fx a0 R cf c⟩
noncomputable def IsSet (h:Hs):V→List Key→Prop
 | .fset a,b=>a=b
 | .ref i,b=>h.σ i= .set b∨∃o,h.σ i= .setO o b
 |_,_=>False
theorem IsSet.at {v:V} {ks:List Key} {x:Value} {w:Wd} (hv:IsSet h v ks) (R:Rep C w h) (c:Conc C w.g w.ρ v x):∃a,x= .ref a∧SetAt C w.s.heap a ks:=by
 cases v with
 |fset b =>
  cases hv
  refine x_EEAA c.toInv fun _ _ z68 hg ho=> ?_;subst z68
  ·exact⟨_,rfl,_,R.keep _ _ hg,ho⟩
 |ref i =>
  refine x_EA c.toInv fun _ z69 hi=> ?_;subst z69
  ·
   refine x_EA (R.obj i _ hi) fun o h1 h2=> ?_
   rcases hv with hv|⟨o',hv⟩
   ·rw[hv] at h2;exact⟨_,rfl,o,h1,h2⟩
   ·rw[hv] at h2;exact⟨_,rfl,o,h1,h2.2⟩
 |_=>exact hv.elim
@[elab_as_elim] theorem IsSet.e {v : V} {ks : List Key} {x : Value} {w : Wd} {P : Value → Prop} (hv : IsSet h v ks) (R : Rep C w h) (c : Conc C w.g w.ρ v x) (k : ∀ a, SetAt C w.s.heap a ks → P (.ref a)) : P x := (hv.at R c).elim fun a h => eqE h.1 (k a h.2)
theorem cl_set0 (q:Q (.ref h.nx) (h.new (.set []))):Cl C n h (.ty "set") [] [] Q:=cl0 fun A w Q' E fx a0 R cf c=>by
 refine eqE cf.toInv ?_
 have hn:w.s.heap.get? w.s.heap.objs.size=none:=fresh_none (Qt _)
 exact set_call0 (c _ _ _ (w.more _ _ w.s.toks) q (Ext.fresh hn push_keeps) (R.fresh hn push_keeps (Qu _ rfl) freshSet_obj (R.fresh0 hn)) (.ref R.more_at))
theorem mth_set_add {v:V} {ks:List Key} (hv:IsSet h v ks) (q:QM (.blt "set.add") [v] h):Mth C n h v "add" QM:=⟨fun A w Q' E x pl a0 R cx c=>by
 refine x_EA (hv.at R cx) fun a z70 hS=> ?_;subst z70
 exact getMethod_set_add hS.setOf (c _ _ _ _ h w q .refl R (.blt _) (.cons cx .nil))⟩
theorem cl_set_add {i:Nat} {k:Key} {ks:List Key} (hv:h.σ i= .set ks) (hz:ks.length+1<scanBound) (q:Q .none (h.upd i (.set (sadd ks k)))):Cl C n h (.blt "set.add") [.ref i,k.v] [] Q:=cl2 fun A w Q' E fx x y a0 R cf cx cy c=>by
 refine eqE cf.toInv ?_
 refine cx.eRef fun _ hi=> ?_
 ·
  refine x_EA (R.obj i _ hi) fun o h1 h2=> ?_
  rw[hv] at h2
  have hS:SetAt C w.s.heap _ ks:=⟨o,h1,h2⟩
  refine Wu PySem.F.slot_set_add hS.typeIs PySem.F.entry_set_add ?_ (PySem.F.args_set_add_2 _ _)
  unfold Builtin.«set.add» Builtin.Frozenset.oneOther
  simp only[List.isEmpty_nil,bind_assoc]
  unfold Builtin.Frozenset.addrOf setAdd
  refine Qw (Qr ?_)
  try dsimp only
  refine Qw (Qr ?_)
  try dsimp only
  refine Qw (Qf (Qw (C.k.pyHash (key_is cy) ?_)))
  refine setAdd_strong (s:={w.s with toks:=w.s.toks+1 }) (key_is cy) (key_scan cy) hS hz fun b h' sb ⟨o',ho',hS'⟩=> ?_
  show wpAny _ _ (ret Value.none) _ _ _
  have sb':∀b o,b≠_→w.s.heap.get? b=some o→h'.get? b=some o:=fun b o hb e=>(sb.2 b hb).trans e
  exact Qr ⟨_,rfl,c _ _ _ (w.at h' _) q (Ext.change hi sb' ho') (R.change hi (by rw[hv];simp) sb' ho' hS') .none⟩
theorem set_in {v:V} {k:Key} {ks:List Key} (hv:IsSet h v ks) (q:Q (.bool (decide (k∈ks))) h):Op2 C n (QQ .In) h k.v v Q:=⟨fun A w Q' E x y a0 R cx cy c=>by
 refine hv.e R cy fun a hS=> ?_
 exact wpAny_inSet_of (key_is cx) (key_scan cx) hS.setOf (c _ _ h (w.toks _) q .toks R.toks (.bool _))⟩
theorem cl_set_list {v:V} {xs:List V} {keys:List Key} (hv:IsLst h v xs) (hk:xs=keys.map Key.v) (hz:xs.length<scanBound) (q:Q (.ref h.nx) (h.new (.set (keys.foldl sadd [])))):Cl C n h (.ty "set") [v] [] Q:=cl1 fun A w Q' E fx x a0 R cf cx c=>by
 refine eqE cf.toInv ?_
 refine hv.e R cx fun l vs hl cs hin=> ?_
 subst hk
 have hn:w.s.heap.get? w.s.heap.objs.size=none:=fresh_none (Qt _)
 refine set_call (.inr ⟨_,rfl⟩) ?_
 have hl1:(w.s.heap.push (freshSet C)).IsList l vs:=hl.isList.push _
 have hll:l<w.s.heap.objs.size:=by refine x_E hl fun k e=> ?_;exact Heap.lt_size e
 have hsls:=PySem.F.sub_list_set
 have hslf:=PySem.F.sub_list_frozenset
 have hne:(Value.type "list" == Value.type "dict")=false:=by decide
 refine x_E hl fun nl hol=> ?_
 have hol':(w.s.heap.push (freshSet C)).get? l=some {cls:= .type "list",dict:=none,data:= .seq vs nl,slots:=#[] }:=Qd _ hol
 unfold Builtin.«set.__init__» noKeywords Builtin.Frozenset.updateFrom
 generalize hPI:pyIter=PI
 wp_walk
 subst hPI
 refine wpAny_pyIter_list hl1 ?_
 refine Qw (wpAny_runValue ?_)
 have hsz:(w.s.heap.push (freshSet C)).objs.size=w.s.heap.objs.size+1:=Heap.size_push ..
 have hsv:vs.size=(keys.map Key.v).length:=by rw[←QD,cs.length]
 refine set_loop (l:=l) (I:=(w.s.heap.push (freshSet C)).objs.size) (S:=w.s.heap.objs.size) (by simpa using a0.handled) (Qg (by rw[hsz];exact Nat.lt_succ_of_lt hll)) (Qg (by rw[hsz];exact Qk _)) (QE hll) vs keys (by rw[hsv];simp) (fun j k v hj hv=> ?_) _ 0 _ [] rfl (Qz _) ⟨_,Qu _ rfl,rfl,rfl⟩ (hl1.push _) ⟨_,Qd _ (Qu _ rfl),freshSet_obj⟩ (by rw[hsv];simpa using hz) fun h' tk keep hS=> ?_
 · obtain⟨y,hy,cy⟩:=cs.get (k:=j) (v:=k.v) (by rw[Qb,hj];rfl)
   rw[Array.getElem?_toList,hv] at hy
   cases hy
   exact⟨key_is cy,key_scan cy⟩
 · refine Qr ?_
   refine x_EA hS fun o' ho' hS'=> ?_
   show wpAny _ _ (ret Value.none) _ _ _
   have keep':∀b o,w.s.heap.get? b=some o→h'.get? b=some o:=fun b o e=>keep b o (Qg (Heap.lt_size e)) (Qg (by rw[hsz];exact Nat.lt_succ_of_lt (Heap.lt_size e))) (Qd _ (Qd _ e))
   exact Qr ⟨rfl,c _ _ _ (w.more _ h' tk) q (Ext.fresh hn keep') (R.fresh hn keep' ho' hS' (R.fresh0 hn)) (.ref R.more_at)⟩
end
namespace FF
end FF
section
variable {a b:Addr}
end
noncomputable def NotPy (C:Cx) (h:Hs) (a:V):Prop:=∀(A:Around) (w:Wd) (x:Value) (Q':Bool→Shared→Prop) (E:Value→Shared→Prop),Rep C w h→Conc C w.g w.ρ a x→Q' false w.s→wpAny C.M A (getitemInPython x) Q' E w.s
structure EvO (C:Cx) (n:Nat) (F:Fr) (loc:Loc) (h:Hs) (e:Option Expr) (Q:V→Hs→Prop):Prop where
 run:∀(A:Around) (w:Wd) (Q':Value→Shared→Prop) (E:Value→Shared→Prop),AOk A n→Rep C w h→Frm C w F loc →
  (∀(x:Value) (v:V) (h':Hs) (w':Wd),Q v h'→Ext C [] w w'→Rep C w' h'→Conc C w'.g w'.ρ v x→Q' x w'.s)→wpAny C.M A (evalPart e F.env) Q' E w.s
structure Slc (C:Cx) (n:Nat) (h:Hs) (o l u st:V) (Q:V→Hs→Prop):Prop where
 run:∀(A:Around) (w:Wd) (Q':Value→Shared→Prop) (E:Value→Shared→Prop) (x vl vu vs:Value) (a:Addr),AOk A n→Rep C w h→Conc C w.g w.ρ o x→Conc C w.g w.ρ l vl→Conc C w.g w.ρ u vu→Conc C w.g w.ρ st vs→w.s.heap.get? a=some {cls:= .type "slice",data:= .fields #[vl,vu,vs] } →
  (∀(r:Value) (v:V) (h':Hs) (w':Wd),Q v h'→Ext C [] w w'→Rep C w' h'→Conc C w'.g w'.ρ v r→Q' r w'.s)→wpAny C.M A (getItem x (.ref a)) Q' E w.s
section
variable {QU:Hs→Prop} {QM:V→List V→Hs→Prop}
theorem notPy_of {a:V} {T id:String} (hl:typeLookup (.type T) "__getitem__" = pure (some (.builtin id))) (H:∀w x,Rep C w h→Conc C w.g w.ρ a x→w.s.TypeIs x T):NotPy C h a:=fun A w x Q' E R c q=>by
 have hT:=H w x R c
 rw[getitemInPython_of_ne hT.not_modules]
 refine Qw (wpAny_specialOf hT hl ?_)
 exact Qr q
theorem ev_sub {o i:Expr} {p:Pos} (H:Ev C n F loc h o fun a h1=>Ev C n F loc h1 i fun b h2=>NotPy C h2 a∧Op2 C n getItem h2 a b Q) (hs:autoParam (∀x y,subscripted i false x y=operate [x,y] (getItem x y)) aI):Ev C n F loc h (.Subscript o i p) Q:=⟨fun A w Q' E a0 R f c=>by
 refine Subscript_ (H.run A w _ _ a0 R f fun x a h1 w1 q1 e1 R1 c1=>q1.run A w1 _ _ a0 R1 (f.ext0 e1) fun y b h2 w2 q2 e2 R2 c2=> ?_)
 unfold subscriptTail
 refine Qw (q2.1 A w2 x _ _ R2 (c1.ext e2) (Qw ?_))
 rw[hs]
 refine wpAny_operating (q2.2.run A w2 _ _ x y a0 R2 (c1.ext e2) c2 fun z v h3 w3 q3 e3 R3 c3=> ?_)
 exact Qw (wpAny_letTemporaryGo (Qr (c z v h3 w3 q3 (e1.trans (e2.trans e3)) R3 c3)))⟩
theorem evO_none (q:Q .none h):EvO C n F loc h none Q:=⟨fun A w Q' E a0 R f c=>Qr (c _ _ h w q .refl R .none)⟩
theorem evO_some {e:Expr} (H:Ev C n F loc h e Q):EvO C n F loc h (some e) Q:=⟨fun A w Q' E a0 R f c=>H.run A w Q' E a0 R f c⟩
theorem ev_slice {o:Expr} {lo hi st:Option Expr} {p p':Pos} (H:Ev C n F loc h o fun a h1=>EvO C n F loc h1 lo fun l h2=>EvO C n F loc h2 hi fun u h3=>EvO C n F loc h3 st fun s h4=>NotPy C h4 a∧Slc C n h4 a l u s Q):Ev C n F loc h (.Subscript o (.Slice lo hi st p) p') Q:=⟨fun A w Q' E a0 R f c=>by
 refine Subscript_ (H.run A w _ _ a0 R f fun x a h1 w1 q1 e1 R1 c1=>wpAny_Slice (q1.run A w1 _ _ a0 R1 (f.ext0 e1) fun y l h2 w2 q2 e2 R2 c2=>q2.run A w2 _ _ a0 R2 ((f.ext0 e1).ext0 e2) fun z u h3 w3 q3 e3 R3 c3=>q3.run A w3 _ _ a0 R3 (((f.ext0 e1).ext0 e2).ext0 e3) fun t s h4 w4 q4 e4 R4 c4=> ?_))
 have e5:Ext C [] w4 (w4.at (w4.s.heap.push {cls:= .type "slice",data:= .fields #[y,z,t] }) w4.s.toks):=Ext.grow push_keeps
 have R5:=R4.grow (k:=w4.s.toks) (push_keeps (o:={cls:= .type "slice",data:= .fields #[y,z,t] }))
 unfold subscriptTail
 refine Qw (q4.1 A (w4.at _ w4.s.toks) x _ _ R5 ((((c1.ext e2).ext e3).ext e4).ext e5) (Qw ?_))
 have fin:wpAny C.M A (getItem x (.ref w4.s.heap.objs.size)) (fun r s₃=>wpAny C.M A (letTemporaryGo o x r >>= fun _=>pure r) Q' E s₃) E (w4.at (w4.s.heap.push {cls:= .type "slice",data:= .fields #[y,z,t] }) w4.s.toks).s :=
  q4.2.run A (w4.at _ w4.s.toks) _ _ x y z t _ a0 R5 ((((c1.ext e2).ext e3).ext e4).ext e5) (((c2.ext e3).ext e4).ext e5) ((c3.ext e4).ext e5) (c4.ext e5) (Qu _ rfl) fun r v h6 w6 q6 e6 R6 c6=>Qw (wpAny_letTemporaryGo (Qr (c r v h6 w6 q6 (e1.trans (e2.trans (e3.trans (e4.trans (e5.trans e6))))) R6 c6)))
 cases st with
 |none=>exact wpAny_operating fin
 |some e=>exact wpAny_operating fin⟩
theorem ev_list {es:List Expr} {p:Pos} (H:Evs C n F loc h es fun vs h1=>vs.length≤Qc∧Q (.ref h1.nx) (h1.new (.list vs))):Ev C n F loc h (.List es p) Q:=⟨fun A w Q' E a0 R f c =>
 wpAny_List (H.run A w p _ _ a0 R f fun xs vs h1 w1 ⟨hz,q1⟩ e1 R1 c1=>by
  have hn:w1.s.heap.get? w1.s.heap.objs.size=none:=fresh_none (Qt _)
  exact⟨by rw[c1.length];exact hz,c _ _ _ (w1.more _ _ w1.s.toks) q1 (e1.trans (Ext.fresh hn push_keeps)) (R1.fresh hn push_keeps (Qu _ rfl) ⟨xs.toArray,0,rfl,by simpa using c1.mono (.refl _) (List.prefix_append _ _)⟩ (R1.fresh0 hn)) (.ref R1.more_at)⟩)⟩
theorem ev_tuple {es:List Expr} {k:Nat} {p:Pos} (H:Evs C n F loc h es fun vs h1=>vs.length≤Qc∧Q (.tup vs) h1):Ev C n F loc h (.Tuple es k p) Q:=⟨fun A w Q' E a0 R f c =>
 wpAny_Tuple (H.run A w p _ _ a0 R f fun xs vs h1 w1 ⟨hz,q1⟩ e1 R1 c1=>by
  have hn:w1.s.heap.get? w1.s.heap.objs.size=none:=fresh_none (Qt _)
  exact⟨by rw[c1.length];exact hz,c _ _ _ (w1.frz _ _ _ w1.s.toks) q1 (e1.trans (Ext.frozen R1 hn push_keeps)) (R1.frozen hn push_keeps (Qu _ rfl)) (.tup gset_self rfl rfl (c1.mono (gset_sub (R1.off_fresh hn).1) (Ql _)))⟩)⟩
theorem ev_listF {es:List Expr} {p:Pos} (H:Evs C n F loc h es fun vs h1=>vs.length≤Qc∧Q (.lst vs) h1):Ev C n F loc h (.List es p) Q:=⟨fun A w Q' E a0 R f c =>
 wpAny_List (H.run A w p _ _ a0 R f fun xs vs h1 w1 ⟨hz,q1⟩ e1 R1 c1=>by
  have hn:w1.s.heap.get? w1.s.heap.objs.size=none:=fresh_none (Qt _)
  exact⟨by rw[c1.length];exact hz,c _ _ _ (w1.frz _ _ _ w1.s.toks) q1 (e1.trans (Ext.frozen R1 hn push_keeps)) (R1.frozen hn push_keeps (Qu _ rfl)) (.lst gset_self (c1.mono (gset_sub (R1.off_fresh hn).1) (Ql _)))⟩)⟩
theorem notPy_lst {v:V} {xs:List V} (hv:IsLst h v xs):NotPy C h v:=notPy_of slot_list_getitem.lookup fun w x R c=>by
 refine x_EEAA (hv.at R c) fun a vs z71 hl _=> ?_;subst z71;exact hl.isList.typeIs
theorem lst_get {v u:V} {xs:List V} {k:Int} {j:Nat} (hv:IsLst h v xs) (hz:xs.length≤Qc) (hj:seqIndex? k xs.length=some j) (hu:xs[j]? =some u) (q:Q u h):Op2 C n getItem h v (.int k) Q:=⟨fun A w Q' E x y a0 R cx cy c=>by
 refine hv.e R cx fun a vs hl cs _=> ?_
 refine cy.eInt fun t=> ?_
 ·
  refine x_EA (cs.get hu) fun z hz' cz=> ?_
  have hlen:vs.size=xs.length:=by rw[←QD,cs.length]
  have hsl:(Qc:Int)<2^63:=by decide
  have hx:vs[j]? =some z:=by rw[←Array.getElem?_toList];exact hz'
  unfold seqIndex? at hj
  by_cases h0:k<0
  · simp only[h0,if_true] at hj
    split at hj
    · rename_i hb
      simp only[Bool.and_eq_true,decide_eq_true_eq] at hb
      cases hj
      exact wpAny_getItem_list_neg hl.isList h0 (by rw[hlen];omega) (by omega) (by rw[hlen];exact hx) (c _ _ h w q .refl R cz)
    ·cases hj
  · simp only[h0,if_false] at hj
    split at hj
    · rename_i hb
      simp only[Bool.and_eq_true,decide_eq_true_eq] at hb
      cases hj
      exact wpAny_getItem_list hl.isList (by omega) (by omega) hx (c _ _ h w q .refl R cz)
    ·cases hj⟩
theorem lst_getN {v u:V} {xs:List V} {j:Nat} (hv:IsLst h v xs) (hz:xs.length≤Qc) (hu:xs[j]? =some u) (q:Q u h):Op2 C n getItem h v (.int (j:Int)) Q :=
 lst_get hv hz (by
  have:=(Qp.mp hu).1
  have h0:¬((j:Int)<0):=by omega
  unfold seqIndex?
  simp only[h0,if_false]
  rw[if_pos (by simp;omega)];simp) hu q
noncomputable def partV:Option Int→V
 |none=> .none
 |some i=> .int i
theorem part_is {g:G} {ρ:List Addr} {k:Option Int} {x:Value} (c:Conc C g ρ (partV k) x):IsPart x k:=by
 cases k
 ·refine eqE c.toInv ?_;constructor
 ·refine c.eInt fun _=> ?_;constructor
noncomputable def pick {α:Type} (xs:List α) (lo hi st:Option Int):List α :=
 (sliceRange (sliceBounds lo hi st xs.length).1 (sliceBounds lo hi st xs.length).2.1 (sliceBounds lo hi st xs.length).2.2).filterMap (xs[·]?)
theorem pick_plain {α:Type} (xs:List α) (lo hi:Option Int):pick xs lo hi none=(xs.drop (lo.elim 0 (clipAt xs.length))).take (hi.elim xs.length (clipAt xs.length)-lo.elim 0 (clipAt xs.length)):=by
 unfold pick
 rw[sliceBounds_plain]
 simp only[sliceRange_one]
 have:=pick_run xs.toArray (lo.elim 0 (clipAt xs.length)) (hi.elim xs.length (clipAt xs.length)-lo.elim 0 (clipAt xs.length))
 simpa using this
theorem Concs.picked {g:G} {ρ:List Addr} {xs:List V} {vs:List Value} (cs:Concs C g ρ xs vs):∀l:List Nat,Concs C g ρ (l.filterMap (xs[·]?)) (l.filterMap (vs[·]?))
 |[]=> .nil
 |i::l=>by
  simp only[List.filterMap_cons]
  cases e:xs[i]? with
  |none =>
   have:vs[i]? =none:=by rw[List.getElem?_eq_none_iff,cs.length];exact List.getElem?_eq_none_iff.mp e
   rw[this];exact cs.picked l
  |some v=>refine x_EA (cs.get e) fun x hx cx=> ?_;rw[hx];exact .cons cx (cs.picked l)
theorem slc_list {v:V} {xs:List V} {lo hi st:Option Int} (hv:IsLst h v xs) (hz:xs.length≤Qc) (h0:st≠some 0) (q:Q (.ref h.nx) (h.new (.list (pick xs lo hi st)))):Slc C n h v (partV lo) (partV hi) (partV st) Q:=⟨fun A w Q' E x vl vu vst a a0 R cx cl cu cst hs c=>by
 refine hv.e R cx fun b vs hl cs _=> ?_
 have hlen:vs.size=xs.length:=by rw[←QD,cs.length]
 have hn:w.s.heap.get? w.s.heap.objs.size=none:=fresh_none (Qt _)
 refine wpAny_getItem_list_slice hl.isList ⟨_,hs,rfl,rfl⟩ (part_is cl) (part_is cu) (part_is cst) h0 (c _ _ _ (w.more _ _ w.s.toks) q (Ext.fresh hn push_keeps) (R.fresh hn push_keeps (Qu _ rfl) ⟨_,0,rfl, ?_⟩ (R.fresh0 hn)) (.ref R.more_at)) (by rw[hlen];exact hz)
 unfold slicePick pick
 rw[hlen]
 have:=(cs.picked (sliceRange (sliceBounds lo hi st xs.length).1 (sliceBounds lo hi st xs.length).2.1 (sliceBounds lo hi st xs.length).2.2)).mono (.refl _) (List.prefix_append w.ρ [w.s.heap.objs.size])
 simpa using this⟩
theorem add_list {u v:V} {xs ys:List V} (hu:IsLst h u xs) (hv:IsLst h v ys) (hz:xs.length+ys.length≤Qc) (q:Q (.ref h.nx) (h.new (.list (xs++ys)))):Op2 C n (binaryOp .Add) h u v Q:=⟨fun A w Q' E x y a0 R cx cy c=>by
 refine hu.e R cx fun a vs z72 cs _=> ?_;obtain⟨na,ha⟩:=z72
 refine hv.e R cy fun b us z73 cu _=> ?_;obtain⟨nb,hb⟩:=z73
 have hn:w.s.heap.get? w.s.heap.objs.size=none:=fresh_none (Qt _)
 have hl1:vs.size=xs.length:=by rw[←QD,cs.length]
 have hl2:us.size=ys.length:=by rw[←QD,cu.length]
 refine concat_meets ⟨_,ha,rfl⟩ ⟨_,hb,rfl⟩ noFill_list_add seq_list_add PySem.F.slot_list_add PySem.F.entry_list_add (PySem.F.args_list_add_2 _ _) (list_addW a b vs us na nb none none #[] #[] (by rw[hl1,hl2];exact hz)) ⟨ha,hb, ?_⟩
 exact c _ _ _ (w.more _ _ w.s.toks) q (Ext.fresh hn push_keeps) (R.fresh hn push_keeps (Qu _ rfl) ⟨_,0,rfl,by simpa using (cs.app cu).mono (.refl _) (List.prefix_append _ _)⟩ (R.fresh0 hn)) (.ref R.more_at)⟩
theorem len_list {v:V} {xs:List V} (hv:IsLst h v xs) (hz:xs.length≤Qc) (q:Q (.int xs.length) h):Cl C n h (.blt "len") [v] [] Q:=cl1 fun A w Q' E fx x a0 R cf cx c=>by
 refine eqE cf.toInv ?_
 refine hv.e R cx fun a vs hl cs _=> ?_
 have hlen:vs.size=xs.length:=by rw[←QD,cs.length]
 have hsl:(Qc:Int)<2^63:=by decide
 exact Calls.call_len_list hl.isList (by rw[hlen];omega) (c _ _ h (w.toks _) q .toks R.toks (by rw[hlen];exact .int _ _))
end
-- what a value shows
mutual
inductive Dat (h:Hs):V→PyData→Prop
 |none:Dat h .none .none
 |bool (b:Bool):Dat h (.bool b) (.bool b)
 |int (i:Int):Dat h (.int i) (.int i)
 |str (x:Str):Dat h (.str x) (.str x)
 |tup {xs:List V} {ds:List PyData}:Dats h xs ds→Dat h (.tup xs) (.tuple ds)
 |lst {xs:List V} {ds:List PyData}:Dats h xs ds→Dat h (.lst xs) (.list ds)
 |ref {i:Nat} {xs:List V} {ds:List PyData}:h.σ i= .list xs→Dats h xs ds→Dat h (.ref i) (.list ds)
inductive Dats (h:Hs):List V→List PyData→Prop
 |nil:Dats h [] []
 |cons {v:V} {d:PyData} {vs:List V} {ds:List PyData}:Dat h v d→Dats h vs ds→Dats h (v::vs) (d::ds)
end
section
theorem Dat.reads (R:Rep C w h) {v:V} {d:PyData} (D:Dat h v d) {x:Value} (c:Conc C w.g w.ρ v x):∃as,Reads w.s.heap x d as:=by
 refine Dat.rec (motive_1:=fun v d _=>∀x,Conc C w.g w.ρ v x→∃as,Reads w.s.heap x d as) (motive_2:=fun vs ds _=>∀xs,Concs C w.g w.ρ vs xs→∃as,ReadsAll w.s.heap xs ds as) ?_ ?_ ?_ ?_ ?_ ?_ ?_ ?_ ?_ D x c
 ·intro x c;refine eqE c.toInv ?_;exact⟨_, .none⟩
 ·intro b x c;refine eqE c.toInv ?_;exact⟨_, .bool _⟩
 ·intro b x c;refine x_E c.toInv fun _ z74=> ?_;subst z74;exact⟨_, .int _ _⟩
 ·intro b x c;refine x_E c.toInv fun _ z75=> ?_;subst z75;exact⟨_, .str _ _⟩
 · intro _ _ _ H x c
   refine x_EEEEAAAA c.toInv fun _ _ _ _ z76 hg hc hd cs=> ?_;subst z76
   refine x_E (H _ cs) fun as r=> ?_;exact⟨_, .tuple (R.keep _ _ hg) hc hd (by simpa using r)⟩
 · intro _ _ _ H x c
   refine x_EEEAA c.toInv fun _ _ _ z77 hg cs=> ?_;subst z77
   refine x_E (H _ cs) fun as r=> ?_;exact⟨_, .list (R.keep _ _ hg) rfl rfl (by simpa using r)⟩
 · intro _ _ _ hi _ H x c
   refine x_EA c.toInv fun _ z78 ha=> ?_;subst z78
   refine x_EA (R.list ha hi) fun vs z79 cs=> ?_;obtain⟨k,e⟩:=z79
   refine x_E (H _ cs) fun as r=> ?_
   exact⟨_, .list e rfl rfl r⟩
 ·intro xs c;refine c.e0 ?_;exact⟨_, .nil⟩
 · intro _ _ _ _ _ _ H1 H2 xs c
   refine x_EEAA (cs_cons c) fun x r z80 c1 c2=> ?_;subst z80
   refine x_E (H1 _ c1) fun as r=> ?_
   refine x_E (H2 _ c2) fun bs s=> ?_
   exact⟨_, .cons r s⟩
theorem Dats.map {α:Type} (f:α→V) (g:α→PyData):∀(as:List α),(∀a∈as,Dat h (f a) (g a))→Dats h (as.map f) (as.map g)
 |[],_=> .nil
 |a::as,H=> .cons (H a (by simp)) (Dats.map f g as fun b hb=>H b (by simp[hb]))
theorem dat_ints (ns:List Int):Dats h (ns.map V.int) (ns.map PyData.int):= .map _ _ ns fun a _=> .int a
theorem dat_strs (ns:List Str):Dats h (ns.map V.str) (ns.map PyData.str):= .map _ _ ns fun a _=> .str a
theorem dat_lst {v:V} {xs:List V} {ds:List PyData} (hv:IsLst h v xs) (d:Dats h xs ds):Dat h v (.list ds):=by
 cases v<;>first|exact hv.elim|skip
 ·exact .ref hv d
 ·cases hv;exact .lst d
structure Dok (d:PyData):Prop where
 lay:d.canLay0=true
 depth:d.depth≤8
theorem dok_int (i:Int):Dok (.int i):=⟨rfl,by simp[PyData.depth]⟩
theorem lay_all {ds:List PyData}:(∀d∈ds,d.canLay0=true)→PyData.canLayAll0 ds=true:=by
 induction ds with
 |nil=>intro _;rfl
 |cons a l ih=>intro H;simp[PyData.canLayAll0,H a (by simp),ih fun d hd=>H d (by simp[hd])]
theorem depth_all {k:Nat} {ds:List PyData}:(∀d∈ds,d.depth≤k)→PyData.depthAll ds≤k:=by
 induction ds with
 |nil=>intro _;simp[PyData.depthAll]
 |cons a l ih =>
  intro H
  have h1:=H a (by simp)
  have h2:=ih fun d hd=>H d (by simp[hd])
  simp only[PyData.depthAll]
  omega
theorem dok_list {ds:List PyData} (H:∀d∈ds,d.canLay0=true∧d.depth≤7):Dok (.list ds) :=
 ⟨lay_all fun d hd=>(H d hd).1,by have:=depth_all fun d hd=>(H d hd).2;simp only[PyData.depth];omega⟩
theorem dok_ints (ns:List Int):Dok (.list (ns.map PyData.int)):=dok_list fun d hd=>by
 refine x_EA (QO.mp hd) fun i _ z81=> ?_;subst z81;exact⟨rfl,by simp[PyData.depth]⟩
theorem dok_strs {ns:List Str} (H:∀x∈ns,QH x=true):Dok (.list (ns.map PyData.str)):=dok_list fun d hd=>by
 refine x_EA (QO.mp hd) fun i hi z82=> ?_;subst z82;exact⟨H i hi,by simp[PyData.depth]⟩
theorem eqvAll_map {α:Type} [DecidableEq α] (f:α→PyData) (hf:∀a b,PyData.eqv (f a) (f b)=decide (a=b)):∀as bs:List α,PyData.eqvAll (as.map f) (bs.map f)=decide (as=bs)
 |[],[]=>by simp[PyData.eqvAll]
 |[],_::_=>by simp[PyData.eqvAll]
 |_::_,[]=>by simp[PyData.eqvAll]
 |a::as,b::bs=>by
  simp only[Q3,PyData.eqvAll,hf,eqvAll_map f hf as bs]
  by_cases e:a=b<;>by_cases e':as=bs<;>simp[e,e']
theorem eqv_int (a b:Int):PyData.eqv (.int a) (.int b)=decide (a=b):=by
 simp only[PyData.eqv];by_cases e:a=b<;>simp[e]
theorem eqv_str (a b:Str):PyData.eqv (.str a) (.str b)=decide (a=b):=by
 simp only[PyData.eqv];by_cases e:a=b<;>simp[e]
theorem eqv_ints (a b:List Int):PyData.eqv (.list (a.map PyData.int)) (.list (b.map PyData.int))=decide (a=b):=by simp only[PyData.eqv];exact eqvAll_map _ eqv_int a b
theorem eqv_strs (a b:List Str):PyData.eqv (.list (a.map PyData.str)) (.list (b.map PyData.str))=decide (a=b):=by simp only[PyData.eqv];exact eqvAll_map _ eqv_str a b
end
section
theorem dat_ne {a b:V} {da db:PyData} (ha:Dat h a da) (hb:Dat h b db) (ka:Dok da) (kb:Dok db) (q:Q (.bool (!PyData.eqv da db)) h):Op2 C (n+1) (QQ .NotEq) h a b Q:=⟨fun A w Q' E x y a0 R cx cy c=>by
 refine x_E (ha.reads R cx) fun as ra=> ?_
 refine x_E (hb.reads R cy) fun bs rb=> ?_
 exact SeqAt.compareNe_reads ra rb ka.lay kb.lay (a0.u8 (Qe (Nat.min_le_left ..) ka.depth)) (c _ _ h w q .refl R (.bool _))⟩
theorem dat_in {a b:V} {da:PyData} {db:List PyData} (ha:Dat h a da) (hb:Dat h b (.list db)) (ka:Dok da) (kb:Dok (.list db)) (q:Q (.bool (db.any fun y=>PyData.eqv y da)) h):Op2 C (n+1) (QQ .In) h a b Q:=⟨fun A w Q' E x y a0 R cx cy c=>by
 refine x_E (ha.reads R cx) fun as ra=> ?_
 refine x_E (hb.reads R cy) fun bs rb=> ?_
 exact SeqAt.in_list_reads rb ra kb.lay ka.lay (by have h1:=a0.units;have h2:=ka.depth;omega) (c _ _ h w q .refl R (.bool _))⟩
theorem dat_notIn {a b:V} {da:PyData} {db:List PyData} (ha:Dat h a da) (hb:Dat h b (.list db)) (ka:Dok da) (kb:Dok (.list db)) (q:Q (.bool (!db.any fun y=>PyData.eqv y da)) h):Op2 C (n+1) (QQ .NotIn) h a b Q:=⟨fun A w Q' E x y a0 R cx cy c=>by
 refine x_E (ha.reads R cx) fun as ra=> ?_
 refine x_E (hb.reads R cy) fun bs rb=> ?_
 exact SeqAt.notIn_list_reads rb ra kb.lay ka.lay (by have h1:=a0.units;have h2:=ka.depth;omega) (c _ _ h w q .refl R (.bool _))⟩
theorem dat_inT {a b:V} {da:PyData} {db:List PyData} (ha:Dat h a da) (hb:Dat h b (.tuple db)) (ka:Dok da) (kb:Dok (.tuple db)) (q:Q (.bool (db.any fun y=>PyData.eqv y da)) h):Op2 C (n+1) (QQ .In) h a b Q:=⟨fun A w Q' E x y a0 R cx cy c=>by
 refine x_E (ha.reads R cx) fun as ra=> ?_
 refine x_E (hb.reads R cy) fun bs rb=> ?_
 exact SeqAt.in_tuple_reads rb ra kb.lay ka.lay (by have h1:=a0.units;have h2:=ka.depth;omega) (c _ _ h w q .refl R (.bool _))⟩
theorem any_ints (x:Int):∀ns:List Int,(ns.map PyData.int).any (fun y=>PyData.eqv y (.int x))=decide (x∈ns)
 |[]=>by simp
 |a::l=>by
  simp only[Q3,List.any_cons,eqv_int,any_ints x l]
  by_cases e:a=x
  ·simp[e]
  · have:x≠a:=fun q=>e q.symm
    simp[e,this]
end
noncomputable def V.isNone:V→Bool
 | .none=>true
 |_=>false
section
variable {QU:Hs→Prop} {QM:V→List V→Hs→Prop}
theorem cl_range1 {b:Int} (q:Q (.rng 0 b 1) h):Cl C n h (.ty "range") [.int b] [] Q:=cl1 fun A w Q' E fx x a0 R cf cx c=>by
 refine eqE cf.toInv ?_;refine cx.eInt fun _=> ?_
 have hn:w.s.heap.get? w.s.heap.objs.size=none:=fresh_none (Qt _)
 exact call_range_1 (c _ _ h (w.frz _ _ _ _) q (Ext.frozen R hn push_keeps) (R.frozen hn push_keeps (Qu _ rfl)) (.rng gset_self))
theorem cl_range2 {a b:Int} (q:Q (.rng a b 1) h):Cl C n h (.ty "range") [.int a, .int b] [] Q:=cl2 fun A w Q' E fx x y a0 R cf cx cy c=>by
 refine eqE cf.toInv ?_;refine cx.eInt fun _=> ?_;refine cy.eInt fun _=> ?_
 have hn:w.s.heap.get? w.s.heap.objs.size=none:=fresh_none (Qt _)
 exact call_range_2 (c _ _ h (w.frz _ _ _ _) q (Ext.frozen R hn push_keeps) (R.frozen hn push_keeps (Qu _ rfl)) (.rng gset_self))
theorem small_one {a b:Int} (ha: -(2^61:Int)≤a) (ha':a≤2^61) (hb: -(2^61:Int)≤b) (hb':b≤2^61):Builtin.Range.small a b 1=true:=by
 exact PySem.small_one (Int.le_trans (by decide) ha) (Int.lt_of_le_of_lt ha' (by decide)) (Int.le_trans (by decide) hb) (Int.lt_of_le_of_lt hb' (by decide))
theorem size_one (a b:Int):(Q6 a b 1).toNat=(b-a).toNat:=by
 rw[rangeSize_one]
 by_cases c:a<b
 ·rw[if_pos c]
 ·rw[if_neg c];exact(Int.toNat_of_nonpos (Int.sub_nonpos_of_le (Int.not_lt.mp c))).symm
theorem size_one0 (a b:Int):0≤Q6 a b 1:=by
 rw[rangeSize_one]
 by_cases c:a<b
 ·rw[if_pos c];exact Int.sub_nonneg_of_le (Int.le_of_lt c)
 ·rw[if_neg c];exact Int.le_refl _
noncomputable def upto (a:Int) (m:Nat):List V:=(Wo m).map fun(i:Nat)=>V.int (a+(i:Int))
theorem rangeV_one (a:Int) (m:Nat):rangeV a 1 m=upto a m:=by simp[rangeV,upto]
theorem its_rng1 {K:Hs→(Hs→Prop)→List V→Prop} {tg:Expr→Prop} {a b:Int} (ha: -(2^61:Int)≤a) (ha':a≤2^61) (hb: -(2^61:Int)≤b) (hb':b≤2^61) (q:K h (fun _=>True) (upto a (b-a).toNat)):Its C n h tg (.rng a b 1) K :=
 its_rng (small_one ha ha' hb hb') (size_one0 a b) (by rw[rangeV_one,size_one];exact q)
theorem mth_lst {v:V} {name:Str} {id:String} {xs:List V} (hv:IsLst h v xs) (slot:Slot "list" name id) (ht:typeOf (.builtin id)=pure (.type "method_descriptor")) (q:QM (.blt id) [v] h):Mth C n h v name QM:=⟨fun A w Q' E x pl a0 R cx c=>by
 refine x_EEAAA (hv.at R cx) fun a vs z83 z84 cs _=> ?_;subst z83;obtain⟨k,hl⟩:=z84
 exact getMethod_builtin (Heap.IsList.typeIs ⟨_,hl,rfl,k,rfl⟩) PySem.F.plainAttrs_list slot ht (fun b e=>by cases e;exact⟨_,hl,rfl⟩) (c _ _ _ _ h w q .refl R (.blt id) (.cons cx .nil))⟩
theorem mth_append {v:V} {xs:List V} (hv:IsLst h v xs) (q:QM (.blt "list.append") [v] h):Mth C n h v "append" QM:=mth_lst hv slot_list_append type_list_append q
theorem cl_append {i:Nat} {xs:List V} {v:V} (hv:h.σ i= .list xs) (hz:xs.length≤Qc) (q:Q .none (h.upd i (.list (xs++[v])))):Cl C n h (.blt "list.append") [.ref i,v] [] Q:=cl2 fun A w Q' E fx x y a0 R cf cx cy c=>by
 refine eqE cf.toInv ?_
 refine cx.eRef fun _ hi=> ?_
 ·exact app_list R hi hv hz cy fun w' e' R'=>c _ _ _ w' q (e' _) R' .none
theorem is_none_l {v:V} (hv:∀id,v≠ .blt id) (q:Q (.bool v.isNone) h):Op2 C n (QQ .Is) h v .none Q:=⟨fun A w Q' E x y a0 R cx cy c=>by
 refine eqE cy.toInv ?_
 refine PySem.is_none ?_
 have e:(x==Value.none)=v.isNone:=by
  cases cx<;>first|rfl|(exact absurd rfl (hv _))|skip
 rw[e];exact c _ _ h w q .refl R (.bool _)⟩
theorem isNot_none_l {v:V} (hv:∀id,v≠ .blt id) (q:Q (.bool (!v.isNone)) h):Op2 C n (QQ .IsNot) h v .none Q:=⟨fun A w Q' E x y a0 R cx cy c=>by
 refine eqE cy.toInv ?_
 refine PySem.isNot_none ?_
 have e:(x==Value.none)=v.isNone:=by
  cases cx<;>first|rfl|(exact absurd rfl (hv _))|skip
 rw[e];exact c _ _ h w q .refl R (.bool _)⟩
end
section
variable {QU:Hs→Prop}
noncomputable def EmD (C:Cx) (n:Nat) (F:Fr) (p:Nat) (ke ve:Expr) (loc:Loc) (h:Hs) (Q:Loc→Hs→Prop):Prop :=
 Ev C n F loc h ke fun kv h1=>Ev C n F loc h1 ve fun u h2=>∃k kvs,kv=Key.v k∧h2.σ p= .dict kvs∧kvs.length≤Qc∧Q loc (h2.upd p (.dict (kput kvs k u)))
theorem EmD.bd {ρ0:List Addr} {p:Nat} {D:Addr} {ke ve:Expr} {ps:Pos} (hD:ρ0[p]? =some D) (H:EmD C n F p ke ve loc h QL):Bd C n F ρ0 (eval ke F.env >>= fun kv=>holding [kv] (eval ve F.env) >>= fun vv=>standAt ps >>= fun _=>holding [kv,vv] (dictSet D kv vv)) loc h QL:=⟨fun A w Q' E hρ a0 R f c=>by
 refine Qw (H.run A w _ _ a0 R f fun x kv h1 w1 q1 e1 R1 c1=>Qw (Qf (q1.run A w1 _ _ a0 R1 (f.ext0 e1) fun y u h2 w2 ⟨k,kvs,hk,hs,hz,q2⟩ e2 R2 c2=>Qw (wpAny_standAt (Qf ?_)))))
 subst hk
 have hi:=pre_get (hρ.trans (e1.pre.trans e2.pre)) hD
 refine x_EEAAAA (IsDct.mut hs R2 (.ref hi)) fun a kvs' ha hi' hd r h0=> ?_
 cases ha
 refine wpAny_dictSet_pairs (key_is (c1.ext e2)) hd (fun h' hd' sb=> ?_) (by rw[r.length];exact hz)
 refine x_A (R2.setDict (tk:=w2.s.toks+1) hi (by rw[hs];simp) hd' (fun b o hb e=>(sb.2 b hb).trans e) (r.put k c2)) fun R' e'=> ?_
 exact c loc _ _ q2 ((e1.wide.trans e2.wide).trans (e' _)) R' (((f.ext0 e1).ext0 e2).ext0 (e' _))⟩
theorem compOk_dict {ke ve t i:Expr} {fs:List Expr} {scope:Scope} {pos:Pos}:CompOk C n (.DictComp ke ve [⟨t,i,fs,0⟩] scope pos) t (fun F p=>TurnW C n F t fs (EmD C n F p ke ve)):=by
 intro F p D ρ0 it wr J ok src x0 items hD T A w0 w loc h Rr QL hW hρ a0 R f c0 hJ hf ha hL e0 q
 refine comp_startD (g:=⟨t,i,fs,0⟩) rfl rfl (fun Q' E z=>T.self A 0 _ _ _ hJ z) ?_
 exact loop_run (QL:=QL) (ρ0:=w.ρ) T rfl (compTurn_dict ke ve t i fs scope pos it D F.env) rfl (fun A R s z=>comp_stepD R s z) (fun loc h Q z=>EmD.bd (pre_get hρ hD) z) items 0 A w0 w loc h Rr rfl hW (Ql _) a0 R f c0 hJ hf ha hL e0 q
theorem acc_dict {A:Around}:∀(w:Wd) (h:Hs) (Q':Value→Shared→Prop) (E:Value→Shared→Prop),Rep C w h→(∀D w',w.s.heap.get? D=none→w'.ρ=w.ρ++[D]→Ext C [] w w'→Rep C w' (h.new (.dict []))→Q' (.ref D) w'.s)→wpAny C.M A newDict Q' E w.s:=fun w h Q' E R c=>by
 have hn:w.s.heap.get? w.s.heap.objs.size=none:=fresh_none (Qt _)
 refine wpAny_newObj_type (c _ (w.more _ _ w.s.toks) hn rfl (Ext.fresh hn push_keeps) (R.fresh (o:={cls:= .type "dict",data:= .dict #[] }) hn push_keeps (Qu _ rfl) ?_ (R.fresh0 hn))) 
 refine x_EA (Heap.dictOf_iff.mp (Heap.DictOf.new (knd:=C.k) w.s.heap)) fun o ho hd=> ?_
 rw[Qu _ rfl] at ho;cases ho
 exact⟨[],hd,rfl, .nil⟩
theorem ev_dictcomp {ke ve t i:Expr} {fs:List Expr} {gs:List Comprehension} {scope:Scope} {pos:Pos} {cl:List (Str × Nat)} {tw:Fr→Nat→V→Loc→Hs→(Loc→Hs→Prop)→Prop} (hok:CompOk C n (.DictComp ke ve (⟨t,i,fs,0⟩::gs) scope pos) t tw)
 (H:Ev C n F loc h i fun src h1=>Its C n h1 (·=t) src fun h2 ok items=>∀L cells,LpW ok (tw ⟨compEnv scope F.env L cells,celFrom (h2.nx+1) scope.names cl⟩ h2.nx) (fun _ h'=>Q (.ref h2.nx) h') items [] (hsCells scope.names (h2.new (.dict []))))
 (hclo:autoParam (cloA F.cel scope.names []=some cl) aR) (hk:autoParam (scope.kind= .function) aR) (hnm:autoParam (namesOk scope.names=true) aR) (hs:autoParam (∀x,Q8 i F.env x=pure x) aI):Ev C n F loc h (.DictComp ke ve (⟨t,i,fs,0⟩::gs) scope pos) Q:=⟨fun A w Q' E a0 R f c=>by
 show wpAny _ _ (comprehension (.DictComp ke ve (⟨t,i,fs,0⟩::gs) scope pos) scope F.env (firstIterPos (⟨t,i,fs,0⟩::gs) pos) newDict false (eval i F.env)) _ _ _
 exact comp_core (use:=none) (QA:=fun p h'=>Q (.ref p) h') hok rfl hs hclo hk hnm acc_dict a0 R f H fun L cells cel D p loc' h' w1 w' q e1 hL e' hp R' f'=>comp_end e1 hL e' hp R' f' fun w'' e'' R'' hp''=>c _ _ h' w'' q e'' R'' (.ref hp'')⟩
end
section
theorem Rep.frozenTab {hp:Heap} {P c:Addr} {o oP:Obj} {k:Nat} (R:Rep C w h) (hP:P∈C.tabs) (hn:w.s.heap.get? c=none) (hk:∀b x,b≠P→w.s.heap.get? b=some x→hp.get? b=some x) (ho:hp.get? c=some o) (hoP:hp.get? P=some oP) (ht:TabOk (C.tabq P) (gset w.g c o) oP):Rep C (w.frz c o hp k) h:=by
 have off:=R.off_fresh hn
 have hs:=gset_sub (o:=o) off.1
 have hgP:=R.offtab P hP
 refine⟨fun b x e=> ?_,R.len,R.nd,fun i b h1 h2=> ?_,R.dead,fun i b h1=> ?_,R.new,R.os,R.bare,fun b x e ht=>hs _ _ (R.top b x e ht),fun b hb=> ?_,fun b hb=>⟨?_,(R.offtab b hb).2⟩⟩
 · have e:gset w.g c o b=some x:=e
   unfold gset at e
   split at e
   ·rename_i q;cases e;rw[q];exact ho
   ·exact hk _ _ (fun q=>by rw[q,hgP.1] at e;cases e) (R.keep b x e)
 · show gset w.g c o b=none
   unfold gset
   rw[if_neg (fun q:b=c=>off.2.1 (q▸Qa h1))];exact R.off i b h1 h2
 · refine x_EA (R.obj i b h1) fun x h4 h5=> ?_
   exact⟨x,hk _ _ (fun q=>hgP.2 (q▸Qa h1)) h4,h5.mono hs (Ql _)⟩
 · by_cases hbP:b=P
   ·subst hbP;exact⟨oP,hoP,ht⟩
   ·refine x_EA (R.tab b hb) fun x e z=> ?_;exact⟨x,hk _ _ hbP e,z.mono hs⟩
 · show gset w.g c o b=none
   unfold gset
   rw[if_neg (fun q:b=c=>off.2.2 (q▸hb))];exact(R.offtab b hb).1
theorem Ext.frozenTab {X:List Addr} {hp:Heap} {P c:Addr} {o oP:Obj} {k:Nat} (R:Rep C w h) (hP:P∈C.tabs) (hn:w.s.heap.get? c=none) (hk:∀b x,b≠P→w.s.heap.get? b=some x→hp.get? b=some x) (hoP:hp.get? P=some oP):Ext C X w (w.frz c o hp k) where
 sub:=gset_sub (R.off_fresh hn).1
 new:=fun b x e=>by
  have e:gset w.g c o b=some x:=e
  unfold gset at e
  split at e
  ·rename_i q;right;left;rw[q];exact hn
  ·exact .inl e
 pre:=Ql _
 newρ:=fun _ h=> .inl h
 kept:=fun b x e _ _ ht=>hk b x (fun q=>ht (q▸hP)) e
 live:=fun b x e=>by
  by_cases hb:b=P
  ·subst hb;exact⟨oP,hoP⟩
  ·exact⟨x,hk b x hb e⟩
theorem among_snoc {pos:Pos} {a b:Int} {c cv:Value} (l:List Value) (ht:TriplesOk l) (e:codeAmong pos (l++[rawInt a,rawInt b,c])=some cv):codeAmong pos l=some cv∨cv=c:=by
 fun_induction TriplesOk l with
 |case1 =>
  simp only[List.nil_append,codeAmong,rawInt] at e
  split at e
  ·cases e;exact .inr rfl
  ·cases e
 |case2 a' t b' u x rest ih =>
  simp only[List.cons_append,codeAmong] at e ⊢
  split at e
  ·rename_i hc;cases e;rw[if_pos hc];exact .inl rfl
  ·rename_i hc;rw[if_neg hc];exact ih ht e
 |case3 l h1 h2=>exact ht.elim
theorem TabOk.snoc {q:Str} {g:G} {c:Addr} {oc:Obj} {vs:Array Value} {t:Tok} {a b:Int} {ps:Array Value} (h:TabOk q g (W.tabObj ps)) (hn:g c=none) (hd:oc.data= .fields vs) (hv:vs[1]? =some (.str q t)):TabOk q (gset g c oc) (W.tabObj (ps++#[rawInt a,rawInt b, .ref c])):=by
 refine x_EAA h fun ps' h1 h2 h3=> ?_
 have:ps=ps':=by simpa [W.tabObj] using h1
 subst this
 refine⟨_,rfl,by simpa using TriplesOk_snoc a b (.ref c) ps.toList h2,fun pos cv e=> ?_⟩
 rcases among_snoc ps.toList h2 (by simpa using e) with e|rfl
 · refine x_EEEEAA (h3 pos cv e) fun c' oc' vs' t' e1 e2 e3=> ?_
   exact⟨c',oc',vs',t',e1,gset_sub hn _ _ e2,e3⟩
 ·exact⟨c,oc,vs,t,rfl,gset_self,hd,hv⟩
noncomputable def BmOk (C:Cx) (mg:Str→Option Value):Prop:=∃bm ob,mg "__builtins__" = some (.ref bm)∧bm≠builtinsNs∧bm≠Wy∧bm∉C.tabs∧C.h₀.get? bm=some ob∧ob.cls= .type "module" ∧ ob.dict=some builtinsNs∧ob.data= .plain
structure CdOk (C:Cx) (c P:Addr) (q:Str):Prop where
 hd:W.CodeHd C.h₀ c P
 ct:c∉C.tabs
 pt:P∈C.tabs
 q:C.tabq P=q
theorem ev_lambda {params:Arguments} {body:Expr} {scope:Scope} {pos:Pos} {c P:Addr} {cl:List (Str × Nat)} {mg mb:Str→Option Value} (T:Tp C mg mb) (B:BmOk C mg) (K:CdOk C c P (F.env.qual ++ "<lambda>")) (hcode:F.env.code= .ref c)
 (q:Q (.lam params body scope (F.env.qual ++ "<lambda>") cl) h) (hclo:autoParam (cloA F.cel scope.names []=some cl) aR) (hdef:autoParam (defaultsOf params F.env=([],[])) aR):Ev C n F loc h (.Lambda params body scope pos) Q:=⟨fun A w Q' E a0 R f k=>by
 refine x_EAA (closure_for f hclo) fun fc hfc hm1 hm2=> ?_
 refine W.kla_eval hdef ?_
 obtain⟨bm,ob,b1,b2,b3,b4,b5,b6,b7,b8⟩:=B
 have hbP:bm≠P:=fun z=>b4 (z▸K.pt)
 have hgP:Wy≠P:=fun z=>T.gt (z▸K.pt)
 have hB:w.s.heap.BuiltinsAt mg P:=⟨bm,ob,b1,b2,b3,hbP,R.up b5 b4,b6,b7,b8⟩
 have hC:W.CodeHd w.s.heap c P:=by
  obtain⟨o,vs,file,tf,flags,tg,inF,text,tt,e1,r⟩:=K.hd
  exact⟨o,vs,file,tf,flags,tg,inF,text,tt,R.up e1 K.ct,r⟩
 refine x_EA (R.tab P K.pt) fun oP hoP hT=> ?_
 refine x_EAA (id hT) fun ps z85 ht hcs=> ?_;subst z85
 cases hf:codeAmong pos ps.toList with
 |some cv =>
  refine W.kla_makeFunctionHit (mg:=mg) hfc f.globals (R.ns T.g T.gt) hcode hC hoP ht hf hB fun ctv h' tk hk hsz=> ?_
  refine x_EEEEAAA (hcs pos cv hf) fun c' oc vs t z86 g1 g2 g3=> ?_;subst z86
  have hn:w.s.heap.get? h'.objs.size=none:=fresh_none hsz
  have hk':∀(o:Obj) b x,w.s.heap.get? b=some x→(h'.push o).get? b=some x:=fun o b x e=>Qd _ (hk b x e)
  exact k _ _ h (w.frz _ _ _ tk) q (Ext.frozen R hn (hk' _)) (R.frozen hn (hk' _) (Qu _ rfl))
   (.lam gset_self rfl rfl rfl rfl rfl rfl rfl rfl rfl rfl hm1 hm2 rfl (gset_sub (R.off_fresh hn).1 _ _ g1) g2 (by rw[g3,K.q]))
 |none =>
  refine W.kla_makeFunction (mg:=mg) hfc f.globals (R.ns T.g T.gt) hcode hC hoP ht hf hgP hB fun c' ctv h' tk hx hge hlt hrec htb=> ?_
  refine x_EEEEAAA hrec fun c2 oc vs t e2 hoc hd hv=> ?_
  cases e2
  have hn:w.s.heap.get? c'=none:=fresh_none hge
  have off:=R.off_fresh hn
  have hTb:TabOk (C.tabq P) (gset w.g c' oc) (W.tabObj (ps++#[rawInt pos.line,rawInt pos.col, .ref c'])):=hT.snoc off.1 hd (by rw[hv,K.q])
  have R1:=R.frozenTab (k:=tk) (hp:=h') K.pt hn (fun b x hb e=>hx b x hb e) hoc htb hTb
  have e1:Ext C [] w (w.frz c' oc h' tk):=Ext.frozenTab R K.pt hn (fun b x hb e=>hx b x hb e) htb
  have hn1:(w.frz c' oc h' tk).s.heap.get? h'.objs.size=none:=fresh_none (Qt _)
  have off1:=R1.off_fresh hn1
  refine k _ _ h ((w.frz c' oc h' tk).frz h'.objs.size _ _ tk) q (e1.trans (Ext.frozen R1 hn1 push_keeps)) (R1.frozen hn1 push_keeps (Qu _ rfl))
   (.lam gset_self rfl rfl rfl rfl rfl rfl rfl rfl rfl rfl hm1 hm2 rfl (gset_sub off1.1 _ _ gset_self) hd hv)⟩
theorem fn_noBool:typeLookup (.type "function") "__bool__" = pure none:=by rw[typeLookup_type,QG];kernel_rfl
theorem fn_noLen:typeLookup (.type "function") "__len__" = pure none:=by rw[typeLookup_type,QG];kernel_rfl
theorem truthy_fn {A:Around} {E:Value→Shared→Prop} {s:Shared} {a:Addr} {Q':Bool→Shared→Prop} (hT:s.TypeIs (.ref a) "function") (q:Q' true s):wpAny C.M A (truthy (.ref a)) Q' E s:=by
 unfold truthy
 refine Qw (wpAny_callSpecial?_none (name:=Qq "__bool__") hT fn_noBool ?_)
 refine Qw (wpAny_specialOf (name:=Qq "__len__") hT fn_noLen ?_)
 exact Qr q
theorem tru_lam {params:Arguments} {body:Expr} {scope:Scope} {qual:Str} {cl:List (Str × Nat)} (q:QB true h):Tru C n h (.lam params body scope qual cl) QB:=⟨fun A w Q' E x a0 R c k=>by
 cases c with
 |lam hg hc hd=>exact truthy_fn ⟨_,R.keep _ _ hg,hc⟩ (k _ h w q .refl R)⟩
theorem tru_list {v:V} {xs:List V} (hv:IsLst h v xs) (hz:xs.length≤Qc) (q:QB (!xs.isEmpty) h):Tru C n h v QB:=⟨fun A w Q' E x a0 R c k=>by
 refine hv.e R c fun a vs hl cs _=> ?_
 have hlen:vs.size=xs.length:=by rw[←QD,cs.length]
 have hsl:(Qc:Int)<2^62:=by decide
 have e:vs.isEmpty=xs.isEmpty:=by
  cases xs<;>simp_all [Array.isEmpty]
 exact wpAny_truthy_list hl.isList (by(omega)) (by rw[e];exact k _ h (w.toks _) q .toks R.toks)⟩
end
structure Cd (C:Cx) (n:Nat) (h:Hs) (f:Addr) (args:List V) (kw:List (Str × V)) (Q:V→Hs→Prop):Prop where
 run:∀(A:Around) (w:Wd) (Rr:Result→Shared→Prop) (xs:List Value) (ks:List (Str × Value)),AOk A n→Rep C w h→Concs C w.g w.ρ args xs →
  ks.map (·.1)=kw.map (·.1)→Concs C w.g w.ρ (kw.map (·.2)) (ks.map (·.2)) →
  (∀(r:Value) (v:V) (h':Hs) (w':Wd),Q v h'→Ext C [] w w'→Rep C w' h'→Conc C w'.g w'.ρ v r→Rr (.ok (.ret r)) w'.s)→codeAny C.M A (.call (.ref f) ⟨xs,ks⟩) Rr w.s
section
theorem cd_fn {f:Addr} {fd:FuncData} {body:List Stmt} {args:List V} {kw ab:List (Str × V)} {loc:Loc} {h1:Hs} (K:FnOk C f fd body) (hb:Binds C fd args kw ab) (hent:bindAll fd.scope.names (celFrom h.nx fd.scope.names []) ab [] (hsCells fd.scope.names h)=some (loc,h1))
 (H:∀L cells,Exs C n ⟨envFn f fd L cells,celFrom h.nx fd.scope.names []⟩ loc h1 body (RetQ Q)):Cd C (n+1) h f args kw Q:=⟨by
 intro A w Rr xs ks a0 R cx hk ck c
 refine x_EA K.at_ fun o ho hd=> ?_
 refine x_EEEEAAAA K.code fun cd oc vs t h1' h2 h3 h4 h5=> ?_
 refine codeAny_call_function a0.room (R.up ho K.off) hd K.co K.gen K.body ⟨cd,oc,vs,t,h1',R.up h2 h5,h3,h4⟩ ?_
 refine x_EAA (hb w h xs ks R cx hk ck) fun bs hbs hn hc=> ?_
 refine hbs _ _ _ _ ?_
 rw[K.globals,K.closure,K.blt]
 refine new_env K.kind R (fun x i e=>by cases e) hent hn hc fun L cells w1 hL e1 R1 f1=>⟨NoLimit_up R1 K.lim K.limt,codeAny_func ?_⟩
 refine(H L cells).run (A.deeper _) w1 _ _ a0.deeper R1 f1 fun fv fl l2 h2 w2 q2 e2 R2 f2 c2=> ?_
 have e3:Ext C [] w w2:=(e1.trans e2).under hL
 cases c2 with
 |ret cv=>exact c _ _ h2 w2 q2 e3 R2 cv
 |next=>exact c _ _ h2 w2 q2 e3 R2 .none
 |brk=>exact q2.elim
 |cont=>exact q2.elim⟩
theorem Cd.cl {f:Addr} {args:List V} {kw:List (Str × V)} (H:Cd C n h f args kw Q):Cl C n h (.top f) args kw Q:=⟨fun A w Q' E fx xs ks a0 R cf cx hk ck c=>by
 refine eqE cf.toInv ?_
 exact wpAny_call (H.run A w _ xs ks a0 R cx hk ck c)⟩
theorem tc_weight (c:Addr) (r:List Value) (kw:List (Str × Value)):(Code.builtin "type.__call__" ⟨.ref c::r,kw⟩).weight=1:=by kernel_rfl
theorem tc_units (a:Args):(Code.builtin "type.__call__" a).cUnits=1:=by kernel_rfl
theorem AOk.tc {A:Around} {c:Addr} {r:List Value} {kw:List (Str × Value)} (h:AOk A (n+1)):AOk (A.under (.builtin "type.__call__" ⟨.ref c::r,kw⟩)) n:=by
 refine⟨h.handled, ?_, ?_⟩
 ·exact stepLt h.depth (Qe (QK (tc_weight c r kw)) (by decide))
 ·exact stepLt h.units (Qe (QK (tc_units ⟨.ref c::r,kw⟩)) (by decide))
theorem cl_new {K:W.Frag} {cl fI:Addr} {args:List V} {kw:List (Str × V)} (I:InC C K) (hm:W.makesIn K cl=true) (hi:W.findIn K (.ref cl) "__init__" = some (some (.ref fI))) (hf:W.typeIn K (.ref fI)=some (.type "function"))
 (H:Cd C n (h.new (.inst [])) fI (.obj h.nx cl::args) kw fun v h2=>v= .none∧Q (.obj h.nx cl) h2):Cl C (n+1) h (.top cl) args kw Q:=⟨fun A w Q' E fx xs ks a0 R cf cx hk ck c=>by
 refine eqE cf.toInv ?_
 have X:=I.here R
 obtain⟨g,ρ,hh,gn,d,t,os⟩:=w
 have hn:hh.get? hh.objs.size=none:=fresh_none (Qt _)
 have R1:=R.fresh (k:=t) (ao:= .inst []) hn (push_keeps (o:=W.emptyDict)) (Qu _ rfl) ⟨[],0,rfl,Qt _,fun x=>rfl⟩ (R.fresh0 hn)
 have e1:Ext C [] ⟨g,ρ,hh,gn,d,t,os⟩ (Wd.more ⟨g,ρ,hh,gn,d,t,os⟩ hh.objs.size (hh.push W.emptyDict) t):=Ext.fresh hn push_keeps
 have hn1:(hh.push W.emptyDict).get? (hh.push W.emptyDict).objs.size=none:=fresh_none (Qt _)
 have R2:=R1.frozen (k:=t) hn1 (push_keeps (o:=W.instObj cl hh.objs.size)) (Qu _ rfl)
 have e2:Ext C [] (Wd.more ⟨g,ρ,hh,gn,d,t,os⟩ hh.objs.size (hh.push W.emptyDict) t) _:=Ext.frozen (o:=W.instObj cl hh.objs.size) (k:=t) R1 hn1 (push_keeps (o:=W.instObj cl hh.objs.size))
 refine wpAny_call (W.make_core (W.makes_of X hm) (W.looks_findIn X hi) (fun self=>W.bind_fn X self hf) (.inl rfl) ?_)
 have hsz:(hh.push W.emptyDict).objs.size=hh.objs.size+1:=Heap.size_push ..
 refine H.run _ (Wd.frz (Wd.more ⟨g,ρ,hh,gn,d,t,os⟩ hh.objs.size (hh.push W.emptyDict) t) (hh.push W.emptyDict).objs.size (W.instObj cl hh.objs.size) ((hh.push W.emptyDict).push (W.instObj cl hh.objs.size)) t) _ _ _ a0.tc R2 ?_ hk ((ck.ext e1).ext e2) fun r v h2 w2 ⟨hv,q2⟩ e3 R3 c3=> ?_
 · refine .cons ?_ ((cx.ext e1).ext e2)
   rw[←hsz]
   exact .obj gset_self R.more_at
 · subst hv
   refine eqE c3.toInv ?_
   refine⟨rfl,c _ _ h2 w2 q2 (e1.trans (e2.trans e3)) R3 ?_⟩
   have:Conc C (Wd.frz (Wd.more ⟨g,ρ,hh,gn,d,t,os⟩ hh.objs.size (hh.push W.emptyDict) t) (hh.push W.emptyDict).objs.size (W.instObj cl hh.objs.size) ((hh.push W.emptyDict).push (W.instObj cl hh.objs.size)) t).g _ (.obj h.nx cl) (.ref (hh.push W.emptyDict).objs.size):= .obj gset_self R.more_at
   have z:=this.ext e3
   rw[hsz] at z
   exact z⟩
theorem kp_cls {K:W.Frag} {cl:Addr} (I:InC C K) (hm:W.makesIn K cl=true):Kp C (.top cl):=fun w h fx R c=>by
 refine eqE c.toInv ?_
 obtain⟨⟨oc,od,cd,sl,hC,e1,e2,e4⟩,made,base,self,top,call,typ⟩:=W.makes_of (M:=C.M) (I.here R) hm
 refine⟨.machine,fun A Q E s' hk q=> ?_⟩
 unfold keeperOf
 refine Qw (wpAny_load (hk _ _ hC) ?_)
 refine Qw (call A _ E s' hk ?_)
 exact Qr q
end
noncomputable def Hs.at (h:Hs) (m:Nat):Hs:=⟨h.σ,m⟩
theorem AO.le_trans {x y z:AO} (a:x.le y) (b:y.le z):x.le z:=by
 cases z with
 |dead=>cases x<;>trivial
 |_=>cases y<;>simp only[AO.le] at b<;>(try cases b)<;>(try exact a)<;>(cases x<;>simp only[AO.le] at a ⊢<;>(try cases a)<;>(try rfl)<;>(try exact a))
theorem Hs.Le.of {h h':Hs} (h1:h.nx=h'.nx) (h2:∀i,AO.le (h.σ i) (h'.σ i)):h.Le h':=⟨h1,h2⟩
theorem Hs.Le.refl (h:Hs):h.Le h:=⟨rfl,fun i=>AO.le_refl _⟩
noncomputable def Hs.Ok (h:Hs):Prop:=∀i,h.nx≤i→h.σ i= .dead
section
theorem Exs.ok {e:List Stmt} (H:h.Ok→Exs C n F loc h e QF):Exs C n F loc h e QF:=⟨fun A w Q' E a R f c=>(H R.dead).run A w Q' E a R f c⟩
theorem Ev.ok {e:Expr} (H:h.Ok→Ev C n F loc h e Q):Ev C n F loc h e Q:=⟨fun A w Q' E a R f c=>(H R.dead).run A w Q' E a R f c⟩
theorem Cl.ok {f:V} {args:List V} {kw:List (Str × V)} (H:h.Ok→Cl C n h f args kw Q):Cl C n h f args kw Q:=⟨fun A w Q' E fx xs ks a R cf ca hk ck c=>(H R.dead).run A w Q' E fx xs ks a R cf ca hk ck c⟩
theorem Cd.ok {f:Addr} {args:List V} {kw:List (Str × V)} (H:h.Ok→Cd C n h f args kw Q):Cd C n h f args kw Q:=⟨fun A w Rr xs ks a R ca hk ck c=>(H R.dead).run A w Rr xs ks a R ca hk ck c⟩
theorem As.mono {e:Expr} {v:V} {Q₀:Loc→Hs→Prop} (H:As C n F loc h e v Q₀) (k:∀l h',Q₀ l h'→QL l h'):As C n F loc h e v QL:=⟨fun A w Q' E x a R f cx c=>H.run A w Q' E x a R f cx fun l h' w' q=>c l h' w' (k _ _ q)⟩
theorem Cl.less {f:V} {args:List V} {kw:List (Str × V)} {m:Nat} (H:Cl C m h f args kw Q) (hm:m≤n):Cl C n h f args kw Q:=⟨fun A w Q' E fx xs ks a R cf ca hk ck c=>H.run A w Q' E fx xs ks (a.less hm) R cf ca hk ck c⟩
theorem lpw_inv {ok:Hs→Prop} {turn:V→Loc→Hs→(Loc→Hs→Prop)→Prop} {items:List V} (I:Nat→Loc→Hs→Prop) (hok:∀k loc h,I k loc h→ok h)
 (hm:∀v loc h (Q Q':Loc→Hs→Prop),turn v loc h Q→(∀l h,Q l h→Q' l h)→turn v loc h Q')
 (H:∀k v loc h,items[k]? =some v→I k loc h→turn v loc h fun l1 h1=>I (k+1) l1 h1) (hend:∀loc h,I items.length loc h→QL loc h) (h0:I 0 loc h):LpW ok turn QL items loc h:=by
 have main:∀(vs:List V) (k:Nat) (loc:Loc) (h:Hs),items.drop k=vs→k≤items.length→I k loc h→LpW ok turn QL vs loc h:=by
  intro vs
  induction vs with
  |nil =>
   intro k loc h hd hk hI
   have:k=items.length:=by have:=List.drop_eq_nil_iff.mp hd;omega
   subst this
   exact⟨hok _ _ _ hI,hend _ _ hI⟩
  |cons v vs ih =>
   intro k loc h hd hk hI
   have hv:items[k]? =some v:=by rw[←List.head?_drop,hd];rfl
   have hlt:=(Qp.mp hv).1
   exact⟨hok _ _ _ hI,hm _ _ _ _ _ (H k v loc h hv hI) fun l1 h1 q=>ih (k+1) l1 h1 (by rw[←List.drop_drop,hd];rfl) hlt q⟩
 exact main items 0 loc h rfl (Qz _) h0
theorem tests_mono {Q₀:Bool→Hs→Prop}:∀(fs:List Expr) (h:Hs),TestsW C n F loc Q₀ fs h→(∀b h,Q₀ b h→QB b h)→TestsW C n F loc QB fs h
 |[],h,q,k=>k _ _ q
 |c::cs,h,H,k=>EvB.mono H fun b h1 q=>by
  cases b with
  |true=>simp only[if_true] at q ⊢;exact tests_mono cs h1 q k
  |false=>simp only[Qm,if_false] at q ⊢;exact k _ _ q
theorem turn_mono {t:Expr} {fs:List Expr} {body:Loc→Hs→(Loc→Hs→Prop)→Prop} (hb:∀loc h (Q Q':Loc→Hs→Prop),body loc h Q→(∀l h,Q l h→Q' l h)→body loc h Q') (v:V) (loc:Loc) (h:Hs) (Q Q':Loc→Hs→Prop) (H:TurnW C n F t fs body v loc h Q) (k:∀l h,Q l h→Q' l h):TurnW C n F t fs body v loc h Q' :=
 As.mono H fun l1 h1 q=>tests_mono fs h1 q fun b h2 q=>by
  cases b with
  |true=>simp only[if_true] at q ⊢;exact hb _ _ _ _ q k
  |false=>simp only[Qm,if_false] at q ⊢;exact k _ _ q
theorem emL_mono {p:Nat} {elt:Expr} (loc:Loc) (h:Hs) (Q Q':Loc→Hs→Prop) (H:EmL C n F p elt loc h Q) (k:∀l h,Q l h→Q' l h):EmL C n F p elt loc h Q' :=
 Ev.mono H fun v h1 ⟨xs,a,b,q⟩=>⟨xs,a,b,k _ _ q⟩
theorem emD_mono {p:Nat} {ke ve:Expr} (loc:Loc) (h:Hs) (Q Q':Loc→Hs→Prop) (H:EmD C n F p ke ve loc h Q) (k:∀l h,Q l h→Q' l h):EmD C n F p ke ve loc h Q' :=
 Ev.mono H fun v h1 q1=>Ev.mono q1 fun u h2 ⟨kk,kvs,a,b,c,q⟩=>⟨kk,kvs,a,b,c,k _ _ q⟩
theorem AO.le_any (x:AO):x.le .dead:=by cases x<;>trivial
end
noncomputable def fnOf (o:Obj):FuncData:=match o.data with | .func f=>f|_=>⟨default,default,⟨[],[],none,[],[],none,[]⟩, .stmts [],default,0,[], .none, .none, .none, .none,none, .none, .none,0⟩
noncomputable def bodyOf (fd:FuncData):List Stmt:=match fd.body with | .stmts b=>b|_=>[]
section
theorem fnOk_of {K:W.Frag} {mg mb:Str→Option Value} {f c:Addr} {o oc:Obj} {t:Tok} (I:InC C K) (T:Tp C mg mb) (ho:K.lookup f=some o) (hc:K.lookup c=some oc) (hd:autoParam (o.data= .func (fnOf o)) aR) (hcd:autoParam ((fnOf o).code= .ref c) aR) (hb:autoParam ((fnOf o).body= .stmts (bodyOf (fnOf o))) aR)
 (hq:autoParam ((match oc.data with | .fields vs=>vs[1]? | _=>none)=some (.str (fnOf o).qualname t)) aR)
 (h1:autoParam (((fnOf o).scope.isCoroutine,(fnOf o).scope.isGenerator,(fnOf o).scope.kind,(fnOf o).globals,(fnOf o).builtins)=(false,false, .function,Wy,builtinsNs)) aR) (h2:autoParam ((fnOf o).closure=[]) aR):FnOk C f (fnOf o) (bodyOf (fnOf o)):=by
 simp only[Prod.mk.injEq] at h1
 obtain⟨a1,a2,a3,a4,a5⟩:=h1
 refine x_A (I f o ho) fun b1 b2=> ?_
 refine x_A (I c oc hc) fun c1 c2=> ?_
 refine⟨⟨o,b1,hd⟩,b2,a1,a2,hb,a3,a4,a5,h2, ?_,T.lim,T.limt⟩
 cases q:oc.data with
 |fields vs=>rw[q] at hq;exact⟨c,oc,vs,t,hcd,c1,q,hq,c2⟩
 |_=>rw[q] at hq;cases hq
theorem binds1 {fd:FuncData} {a:V} {x:Str} (H:autoParam (∀v,bindArgs fd ⟨[v],[]⟩=pure [(x,v)]) aI):Binds C fd [a] [] [(x,a)]:=fun w h xs ks R cx hk ck=>by
 refine cx.e fun x1 r1 c1 cx=> ?_
 refine cx.e0 ?_
 refine kw0E hk ?_
 exact⟨_, .of_eq (H _),rfl, .cons c1 .nil⟩
theorem binds2 {fd:FuncData} {a b:V} {x y:Str} (H:autoParam (∀v u,bindArgs fd ⟨[v,u],[]⟩=pure [(x,v),(y,u)]) aI):Binds C fd [a,b] [] [(x,a),(y,b)]:=fun w h xs ks R cx hk ck=>by
 refine cx.e fun x1 r1 c1 cx=> ?_
 refine cx.e fun x2 r2 c2 cx=> ?_
 refine cx.e0 ?_
 refine kw0E hk ?_
 exact⟨_, .of_eq (H _ _),rfl, .cons c1 (.cons c2 .nil)⟩
theorem binds3 {fd:FuncData} {a b d:V} {x y z:Str} (H:autoParam (∀v u t,bindArgs fd ⟨[v,u,t],[]⟩=pure [(x,v),(y,u),(z,t)]) aI):Binds C fd [a,b,d] [] [(x,a),(y,b),(z,d)]:=fun w h xs ks R cx hk ck=>by
 refine cx.e fun x1 r1 c1 cx=> ?_
 refine cx.e fun x2 r2 c2 cx=> ?_
 refine cx.e fun x3 r3 c3 cx=> ?_
 refine cx.e0 ?_
 refine kw0E hk ?_
 exact⟨_, .of_eq (H _ _ _),rfl, .cons c1 (.cons c2 (.cons c3 .nil))⟩
theorem binds4 {fd:FuncData} {a b d e:V} {x y z u:Str} (H:autoParam (∀p q r s,bindArgs fd ⟨[p,q,r,s],[]⟩=pure [(x,p),(y,q),(z,r),(u,s)]) aI):Binds C fd [a,b,d,e] [] [(x,a),(y,b),(z,d),(u,e)]:=fun w h xs ks R cx hk ck=>by
 refine cx.e fun x1 r1 c1 cx=> ?_
 refine cx.e fun x2 r2 c2 cx=> ?_
 refine cx.e fun x3 r3 c3 cx=> ?_
 refine cx.e fun x4 r4 c4 cx=> ?_
 refine cx.e0 ?_
 refine kw0E hk ?_
 exact⟨_, .of_eq (H _ _ _ _),rfl, .cons c1 (.cons c2 (.cons c3 (.cons c4 .nil)))⟩
theorem bind_local {names:List (Str × NameKind)} {cel:List (Str × Nat)} {x:Str} {v:V} {r:List (Str × V)} {loc:Loc} {o:Option (Loc × Hs)} (hk:names.lookup x=some .local) (H:bindAll names cel r (upd x v loc) h=o):bindAll names cel ((x,v)::r) loc h=o:=by
 unfold bindAll;rw[hk];exact H
theorem bind_cell {names:List (Str × NameKind)} {cel:List (Str × Nat)} {x:Str} {v:V} {u:Option V} {i:Nat} {r:List (Str × V)} {loc:Loc} {o:Option (Loc × Hs)} (hk:names.lookup x=some .cell) (hc:cel.lookup x=some i) (hs:h.σ i= .cell u) (H:bindAll names cel r loc (h.upd i (.cell (some v)))=o):bindAll names cel ((x,v)::r) loc h=o:=by
 unfold bindAll;rw[hk,hc];dsimp only;rw[hs];exact H
theorem Hs.Ok.lt {i:Nat} (hok:h.Ok) (hi:h.σ i≠ .dead):i<h.nx:=by
 rcases Nat.lt_or_ge i h.nx with z|z
 ·exact z
 ·exact absurd (hok i z) hi
end
section
noncomputable def Gh (C:Cx) (h h':Hs):Prop:=∀w,Rep C w h→∃g',Ext C [] w ⟨g',w.ρ,w.s⟩∧Rep C ⟨g',w.ρ,w.s⟩ h'
theorem Exs.ghost0 {e:List Stmt} {h₀:Hs} (gh:Gh C h h₀) (H:Exs C n F loc h₀ e QF):Exs C n F loc h e QF :=
 ⟨fun A w Q' E a R f c=>by
  refine x_EA (gh w R) fun g' e2 R2=> ?_
  exact H.run A ⟨g',w.ρ,w.s⟩ Q' E a R2 (f.ext0 e2) fun x v l h' w' q e' R' fm cf=>c x v l h' w' q (e2.wide.trans e') R' fm cf⟩
open Classical in
theorem Gh.dict {d:Nat} {ks:List Key} {q:Key→Nat} {xs:Key→List V} (hd:h.σ d= .dict (ks.map fun k=>(k, .ref (q k)))) (hq:∀k∈ks,h.σ (q k)= .list (xs k))
 (hn:h'.nx=h.nx) (hd':h'.σ d= .dict (ks.map fun k=>(k, .lst (xs k)))) (hq':∀k∈ks,h'.σ (q k)= .dead) (hle:∀j,j≠d→(∀k∈ks,j≠q k)→AO.le (h.σ j) (h'.σ j)):Gh C h h':=fun w R=>by
 let Z:Addr→Prop:=fun a=>∃k∈ks,w.ρ[q k]? =some a
 let g':G:=fun a=>if Z a then w.s.heap.get? a else w.g a
 have hsub:Sub w.g g':=fun a o e=>by
  show(if Z a then _ else _)=_
  by_cases hz:Z a
  ·rw[if_pos hz];exact R.keep a o e
  ·rw[if_neg hz];exact e
 have hdq:∀k∈ks,q k≠d:=fun k hk z=>by rw[←z,hq k hk] at hd;cases hd
 refine⟨g',⟨hsub,fun a o e=> ?_,Ql _,fun _ z=> .inl z,fun _ _ e _ _ _=>e,fun _ o e=>⟨o,e⟩⟩,⟨fun a o e=> ?_,R.len.trans hn.symm,R.nd,fun i a hi hs=> ?_,fun i hi=> ?_,fun i a hi=> ?_,R.new,R.os,R.bare,fun a o e ht=>hsub _ _ (R.top a o e ht),fun a ha=>let⟨o,e,z⟩:=R.tab a ha;⟨o,e,z.mono hsub⟩,fun a ha=>⟨?_,(R.offtab a ha).2⟩⟩⟩
 · have e:(if Z a then _ else _)=_:=e
   by_cases hz:Z a
   ·refine x_EA hz fun k hk z=> ?_;exact .inr (.inr (Qa z))
   ·rw[if_neg hz] at e;exact .inl e
 · have e:(if Z a then _ else _)=_:=e
   by_cases hz:Z a
   ·rw[if_pos hz] at e;exact e
   ·rw[if_neg hz] at e;exact R.keep a o e
 · have hz:¬Z a:=by
    rintro⟨k,hk,z⟩
    have:i=q k:=nodup_inj R.nd hi z
    rw[this,hq' k hk] at hs;exact hs rfl
   show(if Z a then _ else _)=_
   rw[if_neg hz]
   refine R.off i a hi ?_
   by_cases hid:i=d
   ·rw[hid,hd];simp
   · refine AO.le_dead (hle i hid fun k hk z=> ?_) hs
     rw[z,hq' k hk] at hs;exact hs rfl
 · have hi:h.nx≤i:=by rw[←hn];exact hi
   by_cases hid:i=d
   ·have:=R.dead i hi;rw[hid,hd] at this;cases this
   · have h1:=hle i hid fun k hk z=>by have:=R.dead i hi;rw[z,hq k hk] at this;cases this
     rw[R.dead i hi] at h1
     revert h1
     cases h'.σ i<;>simp[AO.le]
 · refine x_EA (R.obj i a hi) fun o ho hA=> ?_
   refine⟨o,ho, ?_⟩
   by_cases hid:i=d
   · subst hid
     rw[hd] at hA
     rw[hd']
     refine x_EAA hA fun kvs' h1 h2 h3=> ?_
     refine⟨kvs',h1,by rw[h2];simp, ?_⟩
     have key:∀(l:List Key) (vs:List Value),(∀k∈l,k∈ks)→Concs C w.g w.ρ ((l.map fun k=>(k,V.ref (q k))).map (·.2)) vs→Concs C g' w.ρ ((l.map fun k=>(k,V.lst (xs k))).map (·.2)) vs:=by
      intro l
      induction l with
      |nil=>intro vs _ c;cases c;exact .nil
      |cons k l ih =>
       intro vs hl c
       cases c with
       |cons c1 c2 =>
        refine .cons ?_ (ih _ (fun k' hk'=>hl k' (by simp[hk'])) c2)
        have hk:=hl k (by simp)
        refine c1.eRef fun _ hr=> ?_
        ·
         refine x_EA (R.list hr (hq k hk)) fun vs' z87 cs=> ?_;obtain⟨m,e⟩:=z87
         refine .lst (n:=m) (vs:=vs'.toList) ?_ (cs.mono hsub (Ql _))
         show(if Z _ then _ else _)=_
         rw[if_pos ⟨k,hk,hr⟩,e,Array.toArray_toList]
     exact key ks _ (fun k hk=>hk) h3
   · by_cases hz:∃k∈ks,i=q k
     · refine x_EA hz fun k hk z=> ?_
       rw[z,hq' k hk];trivial
     ·exact(hA.le (hle i hid fun k hk z=>hz ⟨k,hk,z⟩)).mono hsub (Ql _)
 · show(if Z a then _ else _)=_
   rw[if_neg (by rintro⟨k,hk,z⟩;exact(R.offtab a ha).2 (Qa z))]
   exact(R.offtab a ha).1
end
noncomputable def AsL (C:Cx) (n:Nat) (F:Fr) (Q:Loc→Hs→Prop):List Expr→List V→Loc→Hs→Prop
 |[],[],loc,h=>Q loc h
 |t::ts,v::vs,loc,h=>As C n F loc h t v fun l1 h1=>AsL C n F Q ts vs l1 h1
 |_,_,_,_=>False
section
theorem asL_run:∀(ts:List Expr) (vs:List V) (xs:List Value) (loc:Loc) (h:Hs) (A:Around) (w w0:Wd) (Q':Unit→Shared→Prop) (E:Value→Shared→Prop),AsL C n F QL ts vs loc h→AOk A n→Rep C w h→Frm C w F loc→Concs C w.g w.ρ vs xs →
 (∀(loc':Loc) (h':Hs) (w':Wd),QL loc' h'→Ext C [F.env.locals] w w'→Rep C w' h'→Frm C w' F loc'→Q' () w'.s)→wpAny C.M A (assignInOrder (ts.map fun t=>assign t F.env) xs) Q' E w.s
 |[],[],_,loc,h,A,w,w0,Q',E,H,a0,R,f,c,k=>by cases c;exact Qr (k loc h w H .refl R f)
 |[],_::_,_,_,_,_,_,_,_,_,H,_,_,_,_,_=>H.elim
 |_::_,[],_,_,_,_,_,_,_,_,H,_,_,_,_,_=>H.elim
 |t::ts,v::vs,_,loc,h,A,w,w0,Q',E,H,a0,R,f,c,k=>by
  cases c with
  |cons c1 c2 =>
   show wpAny _ _ (assignInOrder (assign t F.env::_) (_::_)) _ _ _
   unfold assignInOrder
   refine Qw (Qf (H.run A w _ _ _ a0 R f c1 fun l1 h1 w1 q1 e1 R1 f1=> ?_))
   exact asL_run ts vs _ l1 h1 A w1 w0 Q' E q1 a0 R1 f1 (c2.ext e1) fun l2 h2 w2 q2 e2 R2 f2=>k l2 h2 w2 q2 (e1.trans e2) R2 f2
theorem as_tuple {ts:List Expr} {vs:List V} {k:Nat} {p:Pos} (hlen:ts.length=vs.length) (H:AsL C n F QL ts vs loc h) (he:autoParam ((assignEach ts F.env).map (·.2)=ts.map (fun t=>assign t F.env)) aR) (hst:autoParam ((assignEach ts F.env).findIdx? (·.1)=none) aR):As C n F loc h (.Tuple ts k p) (.tup vs) QL:=⟨fun A w Q' E y a0 R f c kk=>by
 refine c.eTup fun xs a o m hg hc hd cs=> ?_
 ·
  have hl:(assignEach ts F.env).length=xs.toArray.size:=by
   have:=congrArg List.length he
   simp only[Qo] at this
   rw[this,List.size_toArray,cs.length,hlen]
  refine wpAny_assign_Tuple a0.handled ⟨o,R.keep _ _ hg,hc,m,hd⟩ hl hst fun h' hx=> ?_
  rw[he]
  have hn:w.s.heap.get? w.s.heap.objs.size=none:=fresh_none (Qt _)
  have hk:∀b o,w.s.heap.get? b=some o→h'.get? b=some o:=fun b o e=>hx b o (Qg (Heap.lt_size e)) e
  have e1:Ext C [F.env.locals] w (w.at h' w.s.toks):=Ext.grow hk
  exact asL_run ts vs xs loc h A (w.at h' w.s.toks) w Q' E H a0 (R.grow hk) (f.ext0 (Ext.grow hk)) cs fun l2 h2 w2 q2 e2 R2 f2=>kk l2 h2 w2 q2 (e1.trans e2) R2 f2⟩
noncomputable def LocSub (l l':Loc):Prop:=∀x v,l.lookup x=some v→l'.lookup x=some v
theorem LocSub.refl (l:Loc):LocSub l l:=fun _ _ e=>e
theorem LocSub.app (l r:Loc):LocSub l (l++r):=fun x v e=>by
 induction l with
 |nil=>cases e
 |cons p l ih =>
  obtain⟨y,u⟩:=p
  simp only[List.cons_append,List.lookup_cons] at e ⊢
  cases q:x==y<;>rw[q] at e<;>first|exact e|exact ih e
theorem Exs.pre2 {QF:Fl→Loc→Hs→Prop} {e:List Stmt} {h₀:Hs} {l₀:Loc} (H:Exs C n F l₀ h₀ e QF) (ls:LocSub l₀ loc) (le:h.Le h₀):Exs C n F loc h e QF:=⟨fun A w Q' E a R f c=>H.run A w Q' E a (R.weaken le) (f.sub ls) c⟩
theorem Exs.weak2 {QF:Fl→Loc→Hs→Prop} {e:List Stmt} (H:Exs C n F loc h e fun fl l h'=>∃l'' h'',LocSub l'' l∧h'.Le h''∧QF fl l'' h''):Exs C n F loc h e QF :=
 ⟨fun A w Q' E a R f c=>H.run A w Q' E a R f fun x v l h' w' ⟨l'',h'',ls,le,q⟩ e' R' fm=>c x v l'' h'' w' q e' (R'.weaken le) (fm.sub ls)⟩
theorem fow_inv2 {QF:Fl→Loc→Hs→Prop} {ok:Hs→Prop} {t:Expr} {b:List Stmt} {items:List V} (I:Nat→Loc→Hs→Prop) (hok:∀k loc h,I k loc h→ok h)
 (H:∀k v loc h,items[k]? =some v→I k loc h→As C n F loc h t v fun loc1 h1=>Exs C n F loc1 h1 b fun fl loc2 h2=>∃l3 h3,LocSub l3 loc2∧h2.Le h3∧(match fl with
  | .next | .cont=>I (k+1) l3 h3
  | .brk=>QF .next l3 h3
  | .ret u=>QF (.ret u) l3 h3))
 (hend:∀loc h,I items.length loc h→QF .next loc h) (h0:I 0 loc h):FoW C n F ok t b QF items loc h:=by
 have main:∀(vs:List V) (k:Nat) (loc:Loc) (h:Hs),items.drop k=vs→k≤items.length→I k loc h→FoW C n F ok t b QF vs loc h:=by
  intro vs
  induction vs with
  |nil =>
   intro k loc h hd hk hI
   have:k=items.length:=by have:=List.drop_eq_nil_iff.mp hd;omega
   subst this
   exact⟨hok _ _ _ hI,hend _ _ hI⟩
  |cons v vs ih =>
   intro k loc h hd hk hI
   have hv:items[k]? =some v:=by rw[←List.head?_drop,hd];rfl
   have hlt:=(Qp.mp hv).1
   refine⟨hok _ _ _ hI,(H k v loc h hv hI).mono fun l1 h1 q1=>Exs.weak2 (q1.mono fun fl l2 h2 ⟨l3,h3,ls,le,q⟩=>⟨l3,h3,ls,le, ?_⟩)⟩
   cases fl with
   |next=>exact ih (k+1) l3 h3 (by rw[←List.drop_drop,hd];rfl) hlt q
   |cont=>exact ih (k+1) l3 h3 (by rw[←List.drop_drop,hd];rfl) hlt q
   |brk=>exact q
   |ret u=>exact q
 exact main items 0 loc h rfl (Qz _) h0
structure Same (P:Nat→Prop) (h h':Hs):Prop where
 nx:h.nx≤h'.nx
 σ:∀j,j<h.nx→¬P j→h'.σ j=h.σ j
theorem Same.refl (P:Nat→Prop) (h:Hs):Same P h h:=⟨Qt _,fun _ _ _=>rfl⟩
theorem Same.trans {P:Nat→Prop} {a b c:Hs} (x:Same P a b) (y:Same P b c):Same P a c:=⟨Qe x.nx y.nx,fun j hj hp=>(y.σ j (Qy hj x.nx) hp).trans (x.σ j hj hp)⟩
theorem Same.upd {P:Nat→Prop} {a b:Hs} {i:Nat} {o:AO} (x:Same P a b) (hi:P i∨a.nx≤i):Same P a (b.upd i o):=⟨x.nx,fun j hj hp=>by
 have:j≠i:=by
  rintro rfl
  rcases hi with z|z
  ·exact hp z
  ·omega
 show(if j=i then o else b.σ j)=_
 rw[if_neg this];exact x.σ j hj hp⟩
theorem Same.new {P:Nat→Prop} {a b:Hs} {o:AO} (x:Same P a b):Same P a (b.new o):=⟨QT x.nx,fun j hj hp=>by
 have:j≠b.nx:=by have:=x.nx;omega
 show(if j=b.nx then o else b.σ j)=_
 rw[if_neg this];exact x.σ j hj hp⟩
theorem Same.at {P:Nat→Prop} {a b:Hs} {m:Nat} (x:Same P a b) (hm:b.nx≤m):Same P a (b.at m):=⟨Qe x.nx hm,x.σ⟩
end
noncomputable def firsts (ks:List Key):List Key:=ks.foldl sadd []
noncomputable def places (ks:List Key) (k:Key):List Nat:=(Wo ks.length).filter fun j=>ks[j]? =some k
theorem firsts_snoc (ks:List Key) (k:Key):firsts (ks++[k])=sadd (firsts ks) k:=by simp[firsts,List.foldl_append]
theorem mem_sadd {ks:List Key} {k k':Key}:k'∈sadd ks k↔k'∈ks∨k'=k:=by
 unfold sadd
 split
 · rename_i h
   constructor
   ·exact .inl
   · rintro(z|rfl)
     ·exact z
     ·simpa using h
 ·simp
theorem nodup_sadd {ks:List Key} {k:Key} (h:ks.Nodup):(sadd ks k).Nodup:=by
 unfold sadd
 split
 ·exact h
 · rename_i z
   refine List.nodup_append.mpr ⟨h,by simp,fun a ha b hb=> ?_⟩
   rw[Qs.mp hb]
   rintro rfl
   exact z (by simpa using ha)
theorem mem_foldl_sadd:∀(ks acc:List Key) (k:Key),k∈ks.foldl sadd acc↔k∈acc∨k∈ks
 |[],acc,k=>by simp
 |a::l,acc,k=>by rw[List.foldl_cons,mem_foldl_sadd l,mem_sadd];simp[or_assoc]
theorem nodup_foldl_sadd:∀(ks acc:List Key),acc.Nodup→(ks.foldl sadd acc).Nodup
 |[],acc,h=>h
 |a::l,acc,h=>nodup_foldl_sadd l _ (nodup_sadd h)
theorem mem_firsts {ks:List Key} {k:Key}:k∈firsts ks↔k∈ks:=by simp[firsts,mem_foldl_sadd]
theorem nodup_firsts (ks:List Key):(firsts ks).Nodup:=nodup_foldl_sadd _ _ (by simp)
theorem length_sadd (ks:List Key) (k:Key):(sadd ks k).length≤ks.length+1:=by
 unfold sadd;split<;>simp
theorem length_foldl_sadd:∀(ks acc:List Key),(ks.foldl sadd acc).length≤acc.length+ks.length
 |[],acc=>by simp
 |a::l,acc=>by
  have h1:=length_foldl_sadd l (sadd acc a)
  have h2:=length_sadd acc a
  simp only[List.foldl_cons,List.length_cons];omega
theorem length_firsts (ks:List Key):(firsts ks).length≤ks.length:=by have:=length_foldl_sadd ks [];simpa [firsts] using this
theorem places_snoc (ks:List Key) (k k':Key):places (ks++[k]) k'=places ks k'++if k=k' then[ks.length] else[]:=by
 unfold places
 rw[Qn,List.length_singleton,List.range_succ,List.filter_append]
 congr 1
 · refine List.filter_congr fun j hj=> ?_
   rw[List.getElem?_append_left (by simpa using hj)]
 · by_cases h:k=k'
   ·subst h;simp
   ·simp[h]
theorem length_places (ks:List Key) (k:Key):(places ks k).length≤ks.length:=Qe (QX _ _) (by simp)
theorem take_snoc {α:Type} {ks:List α} {t:Nat} {k:α} (h:ks[t]? =some k):ks.take (t+1)=ks.take t++[k]:=by
 rw[List.take_add_one,h];rfl
theorem kget_map {β:Type} {f:Key→β} {k:Key}:∀{l:List Key},kget (l.map fun k=>(k,f k)) k=if k∈l then some (f k) else none
 |[]=>by simp[kget]
 |a::l=>by
  by_cases h:a=k
  ·subst h;simp[kget]
  · have:kget ((a::l).map fun k=>(k,f k)) k=kget (l.map fun k=>(k,f k)) k:=by simp[kget,h]
    rw[this,kget_map]
    have:k≠a:=fun z=>h z.symm
    simp[this]
theorem kdel_map {β:Type} {f:Key→β} {k:Key} (l:List Key):kdel (l.map fun k=>(k,f k)) k=(l.filter fun x=>x≠k).map fun k=>(k,f k):=by
 induction l with
 |nil=>rfl
 |cons a l ih =>
  by_cases h:a=k
  ·subst h;simp[kdel] at ih ⊢;exact ih
  ·simp[kdel,h] at ih ⊢;exact ih
section
theorem Ex.weak {st:Stmt} (H:Ex C n F loc h st fun fl l h'=>∃h'',h'.Le h''∧QF fl l h''):Ex C n F loc h st QF :=
 ⟨fun A w Q' E a R f c=>H.run A w Q' E a R f fun x v l h' w' ⟨h'',le,q⟩ e' R'=>c x v l h'' w' q e' (R'.weaken le)⟩
theorem LocSub.upd {x:Str} {v:V} (hn:loc.lookup x=none):LocSub loc (upd x v loc):=fun y u e=>by
 rw[lookup_upd]
 by_cases hy:y=x
 ·rw[hy,hn] at e;cases e
 ·rw[if_neg hy];exact e
theorem del_loop {xS xD xE:Str} {p1 p2 p3 p4 p5 p6 p7:Pos} {s d:Nat} {js l:List Key} {f:Key→V} (kS:F.env.kindOf xS=some .local) (kD:F.env.kindOf xD=some .local) (kE:F.env.kindOf xE=some .local) (lS:loc.lookup xS=some (.ref s)) (lD:loc.lookup xD=some (.ref d)) (lE:loc.lookup xE=none)
 (hs:h.σ s= .set js) (hd:h.σ d= .dict (l.map fun k=>(k,f k))) (hsub:∀k∈js,k∈l) (hnd:js.Nodup) (hz:l.length≤Qc)
 (dS:autoParam ((xS==("__debug__" : Str))=false) aD) (dD:autoParam ((xD==("__debug__" : Str))=false) aD) (dE:autoParam ((xE==("__debug__" : Str))=false) aD)
 (q:QF .next loc (h.upd d (.dict ((l.filter fun k=>k∉js).map fun k=>(k,f k))))):Ex C n F loc h (.For (.Name xE p1) (.Name xS p2) [.Delete [.Subscript (.Name xD p3) (.Name xE p4) p5] p6] [] p7) QF:=by
 have hsd:s≠d:=fun z=>by rw[z,hd] at hs;cases hs
 refine Ex.weak (ex_for (tg:=fun _=>True) (ev_local kS lS (its_set hs fun o pl hp=> ?_) dS) trivial)
 have hpn:pl.Nodup:=hp.nodup_iff.mpr hnd
 refine fow_inv2 (fun t loc' h'=>loc'=loc∧h'=(h.upd s (.setO o js)).upd d (.dict ((l.filter fun k=>k∉pl.take t).map fun k=>(k,f k)))) ?_ ?_ ?_ ?_
 · rintro t loc' h' ⟨_,rfl⟩
   show(if s=d then _ else if s=s then _ else _)=_
   rw[if_neg hsd,if_pos rfl]
 · rintro t v loc' h' hv ⟨rfl,rfl⟩
   rw[Qb] at hv
   refine x_EA (QW.mp hv) fun k hk z88=> ?_;subst z88
   have htk:=take_snoc hk
   have hkl:k∈l:=hsub k (hp.mem_iff.mp (Qa hk))
   have hkn:k∉pl.take t:=by
    intro z
    obtain⟨j,hj⟩:=List.getElem?_of_mem z
    have hjt:j<t:=by have:=(Qp.mp hj).1;rw[List.length_take] at this;exact Qy this (Nat.min_le_left ..)
    rw[List.getElem?_take_of_lt hjt] at hj
    obtain⟨a1,b1⟩:=Qp.mp hj
    obtain⟨a2,b2⟩:=Qp.mp hk
    exact List.pairwise_iff_getElem.mp hpn j t a1 a2 hjt (b1.trans b2.symm)
   have hDv:((h.upd s (.setO o js)).upd d (.dict ((l.filter fun k=>k∉pl.take t).map fun k=>(k,f k)))).σ d= .dict ((l.filter fun k=>k∉pl.take t).map fun k=>(k,f k)):=if_pos rfl
   have neD:xD≠xE:=fun z=>by rw[z,lE] at lD;cases lD
   refine as_local kE (exs_cons (ex_del_sub (ev_local kD (by rw[lookup_upd,if_neg neD];exact lD) (ev_local kE (by rw[lookup_upd,if_pos rfl]) (dct_del hDv ?_ ?_ ?_) dE) dD)))
   ·rw[kget_map,if_pos (by simp[hkl,hkn])];rfl
   ·rw[Qo];exact Qe (QX _ _) hz
   · refine exs_nil ⟨_,_,LocSub.upd lE, .refl _,rfl, ?_⟩
     rw[kdel_map,List.filter_filter]
     have:(l.filter fun a=>decide (a≠k)&&decide (a∉pl.take t))=l.filter fun a=>decide (a∉pl.take (t+1)):=by
      refine List.filter_congr fun a _=> ?_
      rw[htk]
      by_cases h1:a=k<;>by_cases h2:a∈pl.take t<;>simp[h1,h2]
     rw[this]
     simp only[Hs.upd,Hs.mk.injEq,and_true]
     funext j
     by_cases hj:j=d<;>simp[hj]
 · rintro loc' h' ⟨rfl,rfl⟩
   rw[Qo,List.take_length]
   have:(l.filter fun k=>k∉pl)=l.filter fun k=>k∉js:=List.filter_congr fun a _=>by simp[hp.mem_iff]
   rw[this]
   refine⟨h.upd d (.dict ((l.filter fun k=>k∉js).map fun k=>(k,f k))), .of rfl fun j=> ?_,q⟩
   show AO.le (if j=d then _ else if j=s then _ else h.σ j) (if j=d then _ else h.σ j)
   by_cases hj:j=d
   ·rw[if_pos hj,if_pos hj];exact AO.le_refl _
   · rw[if_neg hj,if_neg hj]
     by_cases hjs:j=s
     ·rw[if_pos hjs,hjs,hs];rfl
     ·rw[if_neg hjs];exact AO.le_refl _
 · refine⟨rfl, ?_⟩
   simp only[List.take_zero,Hs.upd,Hs.mk.injEq,and_true]
   funext j
   by_cases hj:j=d
   · subst hj
     simp only[if_neg (Ne.symm hsd),if_true]
     rw[hd];simp;congr 1;exact congrArg (List.map _) (List.filter_eq_self.mpr fun _ _=>rfl).symm
   ·simp[hj]
end
noncomputable def CK (h h':Hs):Prop:=∀j u,h.σ j= .cell u→h'.σ j= .cell u
structure Flt (C:Cx) (n:Nat) (jV:V) (Kn:Hs→Prop) (f:Key→Bool) (kOk:Key→Prop):Prop where
 nb:∀id,jV≠ .blt id
 tru:∀(h:Hs) (QB:Bool→Hs→Prop),QB true h→Tru C n h jV QB
 kp:Kp C jV
 st:∀h h',Kn h→CK h h'→Kn h'
 call:∀(h:Hs) (k:Key) (Q:V→Hs→Prop),Kn h→kOk k→(∀m,h.nx≤m→Q (.bool (f k)) (h.at m))→Cl C n h jV [k.v] [] Q
section
theorem Hs.upd_at_upd {h:Hs} {q m:Nat} {A B:AO}:((h.upd q A).at m).upd q B=(h.upd q B).at m:=by
 show Hs.mk _ _=Hs.mk _ _
 congr 1
 funext j
 show(if j=q then B else if j=q then A else h.σ j)=if j=q then B else h.σ j
 split<;>rfl
theorem junk_loop {jV:V} {Kn:Hs→Prop} {f:Key→Bool} {kOk:Key→Prop} {xS xD xE xJ:Str} {p1 p2 p3 p4 p5 p6 p7 p8 p9 pa pb pc pd pe:Pos} {s d:Nat} {l:List Key} {g:Key→V} (S:SysIn C) (J:Flt C n jV Kn f kOk) (hkn:Kn h)
 (kS:F.env.kindOf xS=some .local) (kD:F.env.kindOf xD=some .local) (kE:F.env.kindOf xE=some .local) (kJ:F.env.kindOf xJ=some .local) (lS:loc.lookup xS=some (.ref s)) (lD:loc.lookup xD=some (.ref d)) (lJ:loc.lookup xJ=some jV) (lE:loc.lookup xE=none)
 (hs:h.σ s= .set []) (hd:h.σ d= .dict (l.map fun k=>(k,g k))) (hn:l.Nodup) (hk:∀k∈l,kOk k) (hz:l.length≤4000)
 (hfS:autoParam (∀(x:Value),Q8 (.Call (.Attribute (.Name xD p2) (Qq "keys") p3) [] [] p4) F.env x=pure x) aI)
 (dS:autoParam ((xS==("__debug__" : Str))=false) aD) (dD:autoParam ((xD==("__debug__" : Str))=false) aD) (dE:autoParam ((xE==("__debug__" : Str))=false) aD) (dJ:autoParam ((xJ==("__debug__" : Str))=false) aD)
 (he:autoParam (starEach [.Name xE p7] F.env=[(false,eval (.Name xE p7) F.env)]) aR)
 (h1l:autoParam ((p3.endLine==p4.line)=true) aR) (h2l:autoParam ((pb.endLine==pd.line)=true) aR) (hin:autoParam (interactive F.env=false) aR)
 (q:∀m,h.nx≤m→QF .next loc ((h.upd s (.set (l.filter f))).at m)) :
 Ex C n F loc h (.For (.Name xE p1) (.Call (.Attribute (.Name xD p2) (Qq "keys") p3) [] [] p4) [.If (.Call (.Name xJ p6) [.Name xE p7] [] p8) [.Expr (.Call (.Attribute (.Name xS pa) (Qq "add") pb) [.Name xE pc] [] pd) pe] [] p9] [] p5) QF:=by
 have hsd:s≠d:=fun z=>by rw[z,hd] at hs;cases hs
 refine Ex.weak (ex_for (tg:=fun _=>True) (ev_mcall (ev_local kD lD (mth_dct (show IsDct h (.ref d) _ from Or.inl hd) PySem.F.slot_dict_keys (by show builtinType _=_;rw[builtinType_eq_fast];kernel_rfl) ⟨kp_blt,evs_nil (evk_nil (cl_keys (S:=S) (show IsDct h (.ref d) _ from Or.inl hd) (its_keys hd fun ep=> ?_)))⟩) dD) (hl:=h1l)) trivial hfS)
 generalize hE:AO.dictE ep (l.map fun k=>(k,g k))=E
 have hkn':∀t m,Kn (((h.upd d E).upd s (.set ((l.take t).filter f))).at m):=fun t m=>J.st _ _ hkn fun j u e=>(if_neg fun z:j=s=>by rw[z,hs] at e;cases e).trans ((if_neg fun z:j=d=>by rw[z,hd] at e;cases e).trans e)
 refine fow_inv2 (fun t loc' h'=>loc'=loc∧∃m,h.nx≤m∧h'=((h.upd d E).upd s (.set ((l.take t).filter f))).at m) ?_ ?_ ?_ ?_
 · rintro t loc' h' ⟨_,m,_,rfl⟩
   exact hE▸(if_neg (Ne.symm hsd)).trans (if_pos rfl)
 · rintro t v loc' h' hv ⟨rfl,m,hm,rfl⟩
   rw[Q7,Qb] at hv
   refine x_EA (QW.mp hv) fun k hkt z89=> ?_;subst z89
   have htk:=take_snoc hkt
   have neJ:xJ≠xE:=fun z=>by rw[z,lE] at lJ;cases lJ
   have neS:xS≠xE:=fun z=>by rw[z,lE] at lS;cases lS
   have hnt:(l.take t++[k]).Nodup:=htk▸(List.take_sublist (t+1) l).nodup hn
   have hkn:k∉(l.take t).filter f:=fun z=>(List.nodup_append.mp hnt).2.2 k (Wp.mp z).1 k (Qs.mpr rfl) rfl
   have hjl:((l.take t).filter f).length≤4000:=Qe (QX ..) (Qe (List.length_take_le ..) (Qe (Qx (Qp.mp hkt).1) hz))
   refine as_local kE (exs_cons (ex_if (evB_value (ev_call (ev_local kJ (by rw[lookup_upd,if_neg neJ];exact lJ) ⟨J.kp,evs_cons (ev_local kE (by rw[lookup_upd,if_pos rfl]) (evs_nil (evk_nil (J.call _ k _ (hkn' t m) (hk k (Qa hkt)) fun m2 hm2=>tru_bool ?_))) dE) he⟩ dJ)))))
   have hm2:=Qe hm hm2
   have hS:((((h.upd d E).upd s (.set ((l.take t).filter f))).at m).at m2).σ s= .set ((l.take t).filter f):=if_pos rfl
   cases hb:f k with
   |true =>
    refine exs_cons (ex_expr (ev_mcall (ev_local kS (by rw[lookup_upd,if_neg neS];exact lS) (mth_set_add (show IsSet _ (.ref s) _ from Or.inl hS) ⟨kp_blt,evs_cons (ev_local kE (by rw[lookup_upd,if_pos rfl]) (evs_nil (evk_nil (cl_set_add hS ?_ ?_))) dE) ?_⟩) dS) (hl:=h2l)) hin)
    ·exact Qj (QC hjl) (by decide)
    · refine exs_nil (exs_nil ⟨_,_,LocSub.upd lE, .refl _,rfl,m2,hm2, ?_⟩)
      rw[htk,List.filter_append,List.filter_cons_of_pos hb,List.filter_nil]
      exact(Hs.upd_at_upd (m:=m2)).trans (by unfold sadd;rw[if_neg hkn])
    ·rfl
   |false =>
    refine exs_nil (exs_nil ⟨_,_,LocSub.upd lE, .refl _,rfl,m2,hm2, ?_⟩)
    rw[htk,List.filter_append,List.filter_cons_of_neg (by rw[hb];exact Bool.false_ne_true),List.filter_nil,Q4];rfl
 · rintro loc' h' ⟨rfl,m,hm,rfl⟩
   rw[Qo,Qo,List.take_length]
   refine⟨(h.upd s (.set (l.filter f))).at m, .of rfl fun j=> ?_,q m hm⟩
   show AO.le (if j=s then _ else if j=d then E else h.σ j) (if j=s then _ else h.σ j)
   by_cases z:j=s
   ·rw[if_pos z,if_pos z];exact AO.le_refl _
   rw[if_neg z,if_neg z]
   by_cases y:j=d
   ·rw[if_pos y,y,hd,←hE];rfl
   ·rw[if_neg y];exact AO.le_refl _
 · refine⟨rfl,h.nx,Qt _, ?_⟩
   show Hs.mk _ _=Hs.mk _ _
   congr 1
   funext j
   show(if j=d then E else h.σ j)=if j=s then _ else if j=d then E else h.σ j
   by_cases z:j=s
   ·rw[if_pos z,z,if_neg hsd,hs];rfl
   ·rw[if_neg z]
end
section
variable {mg mb:Str→Option Value}
end
structure Hs.In (h h':Hs):Prop where
 nx:h.nx≤h'.nx
 le:∀i,(h'.σ i).le (h.σ i)
theorem AO.dead_le {y:AO} (l:AO.dead.le y):y= .dead:=by cases y<;>simp_all [AO.le]
section
variable {a b c:Hs} {i m:Nat} {o:AO}
theorem Hs.In.refl (h:Hs):h.In h:=⟨Qt _,fun i=>AO.le_refl _⟩
theorem Hs.In.trans (x:a.In b) (y:b.In c):a.In c:=⟨Qe x.nx y.nx,fun i=>AO.le_trans (y.le i) (x.le i)⟩
theorem Hs.In.at (x:a.In b) (hm:a.nx≤m):a.In (b.at m):=⟨hm,x.le⟩
theorem Hs.In.dead (x:a.In b) (hd:b.σ i= .dead):a.σ i= .dead:=by have:=x.le i;rw[hd] at this;exact AO.dead_le this
theorem Hs.In.new (x:a.In b) (hd:b.Ok):a.In (b.new o):=⟨QT x.nx,fun j=>by
 show AO.le (if j=b.nx then o else b.σ j) _
 by_cases hj:j=b.nx
 ·rw[if_pos hj,x.dead (hd j (by omega))];exact AO.le_any _
 ·rw[if_neg hj];exact x.le j⟩
theorem Hs.In.updd (x:a.In b) (hd:a.σ i= .dead):a.In (b.upd i o):=⟨x.nx,fun j=>by
 show AO.le (if j=i then o else b.σ j) _
 by_cases hj:j=i
 ·rw[if_pos hj,hj,hd];exact AO.le_any _
 ·rw[if_neg hj];exact x.le j⟩
theorem Hs.In.upd (x:a.In b):(a.upd i o).In (b.upd i o):=⟨x.nx,fun j=>by
 show AO.le (if j=i then o else b.σ j) (if j=i then o else a.σ j)
 by_cases hj:j=i
 ·rw[if_pos hj,if_pos hj];exact AO.le_refl _
 ·rw[if_neg hj,if_neg hj];exact x.le j⟩
theorem Hs.In.newb (x:a.In b) (hn:a.nx=b.nx):(a.new o).In (b.new o):=⟨by show a.nx+1≤b.nx+1;omega,fun j=>by
 show AO.le (if j=b.nx then o else b.σ j) (if j=a.nx then o else a.σ j)
 rw[hn]
 by_cases hj:j=b.nx
 ·rw[if_pos hj,if_pos hj];exact AO.le_refl _
 ·rw[if_neg hj,if_neg hj];exact x.le j⟩
theorem Hs.In.toLe (x:h.In h'):h'.Le (h.at h'.nx):=⟨rfl,x.le⟩
theorem Hs.In.cell {v:Option V} (x:h.In h') (e:h.σ i= .cell v):h'.σ i= .cell v:=by
 have:=x.le i;rw[e] at this;cases q:h'.σ i<;>rw[q] at this<;>simp_all [AO.le]<;>exact⟨_,rfl⟩
theorem Hs.In.list {v:List V} (x:h.In h') (e:h.σ i= .list v):h'.σ i= .list v:=by
 have:=x.le i;rw[e] at this;cases q:h'.σ i<;>rw[q] at this<;>simp_all [AO.le]<;>exact⟨_,rfl⟩
theorem Hs.In.inst {v:List (Str × V)} (x:h.In h') (e:h.σ i= .inst v):h'.σ i= .inst v:=by
 have:=x.le i;rw[e] at this;cases q:h'.σ i<;>rw[q] at this<;>simp_all [AO.le]<;>exact⟨_,rfl⟩
theorem Hs.In.dictE {ep:Nat} {v:List (Key × V)} (x:h.In h') (e:h.σ i= .dictE ep v):h'.σ i= .dictE ep v:=by
 have:=x.le i;rw[e] at this;cases q:h'.σ i<;>rw[q] at this<;>simp_all [AO.le]<;>exact⟨_,rfl⟩
theorem Hs.In.setO {ob:Obj} {v:List Key} (x:h.In h') (e:h.σ i= .setO ob v):h'.σ i= .setO ob v:=by
 have:=x.le i;rw[e] at this;cases q:h'.σ i<;>rw[q] at this<;>simp_all [AO.le]<;>exact⟨_,rfl⟩
theorem Hs.In.dict {v:List (Key × V)} (x:h.In h') (e:h.σ i= .dict v):h'.σ i= .dict v∨∃ep,h'.σ i= .dictE ep v:=by
 have:=x.le i;rw[e] at this;cases q:h'.σ i<;>rw[q] at this<;>simp_all [AO.le]<;>exact⟨_,rfl⟩
theorem Hs.In.set {v:List Key} (x:h.In h') (e:h.σ i= .set v):h'.σ i= .set v∨∃ob,h'.σ i= .setO ob v:=by
 have:=x.le i;rw[e] at this;cases q:h'.σ i<;>rw[q] at this<;>simp_all [AO.le]<;>exact⟨_,rfl⟩
theorem Hs.In.lst {v:V} {xs:List V} (x:h.In h') (e:IsLst h v xs):IsLst h' v xs:=by
 cases v<;>first|exact e|exact x.list e
theorem Hs.In.dct {v:V} {xs:List (Key × V)} (x:h.In h') (e:IsDct h v xs):IsDct h' v xs:=by
 cases v<;>first|exact e|skip
 rcases e with e|⟨ep,e⟩
 ·exact x.dict e
 ·exact .inr ⟨ep,x.dictE e⟩
theorem Hs.In.fset {v:V} {xs:List Key} (x:h.In h') (e:IsSet h v xs):IsSet h' v xs:=by
 cases v<;>first|exact e|skip
 rcases e with e|⟨ep,e⟩
 ·exact x.set e
 ·exact .inr ⟨ep,x.setO e⟩
theorem Hs.In.dat (x:h.In h') {v:V} {d:PyData} (D:Dat h v d):Dat h' v d :=
 Dat.rec (motive_1:=fun v d _=>Dat h' v d) (motive_2:=fun v d _=>Dats h' v d) .none .bool .int .str (fun _ d=> .tup d) (fun _ d=> .lst d) (fun e _ d=> .ref (x.list e) d) .nil (fun _ _ a b=> .cons a b) D
end
section
theorem Op2.ok {f:Value→Value→Sem Value} {a b:V} (H:h.Ok→Op2 C n f h a b Q):Op2 C n f h a b Q:=⟨fun A w Q' E x y a R=>(H R.dead).run A w Q' E x y a R⟩
theorem Its.ok {tg:Expr→Prop} {src:V} {K:Hs→(Hs→Prop)→List V→Prop} (H:h.Ok→Its C n h tg src K):Its C n h tg src K:=⟨fun A w Q' E x a R=>(H R.dead).run A w Q' E x a R⟩
theorem Slc.ok {o l u st:V} (H:h.Ok→Slc C n h o l u st Q):Slc C n h o l u st Q:=⟨fun A w Q' E x vl vu vs ad a R=>(H R.dead).run A w Q' E x vl vu vs ad a R⟩
theorem Rep.freeze {i:Nat} {xs:List V} {x:Value} (R:Rep C w h) (hs:h.σ i= .list xs) (c:Conc C w.g w.ρ (.ref i) x):∃g',Ext C [] w ⟨g',w.ρ,w.s⟩∧Rep C ⟨g',w.ρ,w.s⟩ (h.upd i .dead)∧Conc C g' w.ρ (.lst xs) x:=by
 refine c.eRef fun a hi=> ?_
 ·
  refine x_EA (R.obj i a hi) fun o ho hA=> ?_
  rw[hs] at hA
  have hg:w.g a=none:=R.off i a hi (by rw[hs];simp)
  have hsub:=gset_sub (o:=o) hg
  have ht:a∉C.tabs:=fun z=>(R.offtab a z).2 (Qa hi)
  refine⟨gset w.g a o,⟨hsub,fun b y e=> ?_,Ql _,fun _ z=> .inl z,fun _ _ e _ _ _=>e,fun _ o e=>⟨o,e⟩⟩,⟨fun b y e=> ?_,R.len,R.nd,fun j b h1 h2=> ?_,fun j hj=> ?_,fun j b h1=> ?_,R.new,R.os,R.bare,fun b y e h2=>hsub _ _ (R.top b y e h2),fun b hb=>let⟨y,e,z⟩:=R.tab b hb;⟨y,e,z.mono hsub⟩,fun b hb=>⟨?_,(R.offtab b hb).2⟩⟩, ?_⟩
  · have e:gset w.g a o b=some y:=e
    unfold gset at e
    split at e
    ·rename_i q;rw[q];exact .inr (.inr (Qa hi))
    ·exact .inl e
  · have e:gset w.g a o b=some y:=e
    unfold gset at e
    split at e
    ·rename_i q;cases e;rw[q];exact ho
    ·exact R.keep b y e
  · have h2:(if j=i then AO.dead else h.σ j)≠ .dead:=h2
    have hji:j≠i:=fun z=>by rw[if_pos z] at h2;exact h2 rfl
    rw[if_neg hji] at h2
    show gset w.g a o b=none
    unfold gset
    rw[if_neg (fun q:b=a=>hji (nodup_inj R.nd h1 (q▸hi)))];exact R.off j b h1 h2
  · show(if j=i then AO.dead else h.σ j)= .dead
    by_cases hji:j=i
    ·rw[if_pos hji]
    ·rw[if_neg hji];exact R.dead j hj
  · refine x_EA (R.obj j b h1) fun y h4 h5=> ?_
    refine⟨y,h4, ?_⟩
    show ObjA _ _ _ y (if j=i then AO.dead else h.σ j)
    by_cases hji:j=i
    ·rw[if_pos hji];trivial
    ·rw[if_neg hji];exact h5.mono hsub (Ql _)
  · show gset w.g a o b=none
    unfold gset
    rw[if_neg (fun q:b=a=>ht (q▸hb))];exact(R.offtab b hb).1
  · refine x_EEA hA fun vs k z90 cs=> ?_;subst z90
    refine .lst (vs:=vs.toList) (n:=k) ?_ (cs.mono hsub (Ql _))
    rw[Array.toArray_toList];exact gset_self
theorem Ev.fz {e:Expr} (H:Ev C n F loc h e fun v h'=>∃i xs,v= .ref i∧h'.σ i= .list xs∧Q (.lst xs) (h'.upd i .dead)):Ev C n F loc h e Q :=
 ⟨fun A w Q' E a R f c=>H.run A w Q' E a R f fun x v h' w' ⟨i,xs,hv,hs,q⟩ e' R' cx=>by
  subst hv
  refine x_EAA (R'.freeze hs cx) fun g' e2 R2 c2=> ?_
  exact c x _ _ ⟨g',w'.ρ,w'.s⟩ q (e'.trans e2) R2 c2⟩
theorem Op2.fz {f:Value→Value→Sem Value} {a b:V} (H:Op2 C n f h a b fun v h'=>∃i xs,v= .ref i∧h'.σ i= .list xs∧Q (.lst xs) (h'.upd i .dead)):Op2 C n f h a b Q :=
 ⟨fun A w Q' E x y a0 R c1 c2 c=>H.run A w Q' E x y a0 R c1 c2 fun r v h' w' ⟨i,xs,hv,hs,q⟩ e' R' cx=>by
  subst hv
  refine x_EAA (R'.freeze hs cx) fun g' e2 R2 c2=> ?_
  exact c r _ _ ⟨g',w'.ρ,w'.s⟩ q (e'.trans e2) R2 c2⟩
theorem Slc.fz {o l u st:V} (H:Slc C n h o l u st fun v h'=>∃i xs,v= .ref i∧h'.σ i= .list xs∧Q (.lst xs) (h'.upd i .dead)):Slc C n h o l u st Q :=
 ⟨fun A w Q' E x vl vu vs ad a0 R c1 c2 c3 c4 hs' c=>H.run A w Q' E x vl vu vs ad a0 R c1 c2 c3 c4 hs' fun r v h' w' ⟨i,xs,hv,hs,q⟩ e' R' cx=>by
  subst hv
  refine x_EAA (R'.freeze hs cx) fun g' e2 R2 c2=> ?_
  exact c r _ _ ⟨g',w'.ρ,w'.s⟩ q (e'.trans e2) R2 c2⟩
theorem As.fz {t:Expr} {i:Nat} {xs:List V} (hs:h.σ i= .list xs) (H:As C n F loc (h.upd i .dead) t (.lst xs) QL):As C n F loc h t (.ref i) QL :=
 ⟨fun A w Q' E x a0 R f cx c=>by
  refine x_EAA (R.freeze hs cx) fun g' e2 R2 c2=> ?_
  exact H.run A ⟨g',w.ρ,w.s⟩ Q' E x a0 R2 (f.ext0 e2) c2 fun l h' w' q e' R' fm=>c l h' w' q (e2.wide.trans e') R' fm⟩
noncomputable def Pu (C:Cx) (n:Nat) (F:Fr) (loc:Loc) (h:Hs) (e:Expr) (v:V):Prop:=∀hb,h.In hb→∀Q:V→Hs→Prop,(∀h',hb.In h'→Q v h')→Ev C n F loc hb e Q
noncomputable def PuB (C:Cx) (n:Nat) (F:Fr) (loc:Loc) (h:Hs) (e:Expr) (b:Bool):Prop:=∀hb,h.In hb→∀Q:Bool→Hs→Prop,(∀h',hb.In h'→Q b h')→EvB C n F loc hb e Q
noncomputable def P1 (C:Cx) (n:Nat) (f:Value→Sem Value) (h:Hs) (a v:V):Prop:=∀hb,h.In hb→∀Q:V→Hs→Prop,(∀h',hb.In h'→Q v h')→Op1 C n f hb a Q
noncomputable def P2 (C:Cx) (n:Nat) (f:Value→Value→Sem Value) (h:Hs) (a b v:V):Prop:=∀hb,h.In hb→∀Q:V→Hs→Prop,(∀h',hb.In h'→Q v h')→Op2 C n f hb a b Q
noncomputable def PT (C:Cx) (n:Nat) (h:Hs) (a:V) (b:Bool):Prop:=∀hb,h.In hb→∀Q:Bool→Hs→Prop,(∀h',hb.In h'→Q b h')→Tru C n hb a Q
noncomputable def PF (C:Cx) (n:Nat) (h:Hs) (f:V) (args:List V) (kw:List (Str × V)) (v:V):Prop:=∀hb,h.In hb→∀Q:V→Hs→Prop,(∀h',hb.In h'→Q v h')→Cl C n hb f args kw Q
noncomputable def PM (C:Cx) (n:Nat) (h:Hs) (a:V) (name:Str) (f:V) (first:List V):Prop:=Kp C f∧∀hb,h.In hb→∀Q:V→List V→Hs→Prop,Q f first hb→Mth C n hb a name Q
noncomputable def PG (C:Cx) (n:Nat) (h:Hs) (a:V) (name:Str) (v:V):Prop:=∀hb,h.In hb→∀Q:V→Hs→Prop,(∀h',hb.In h'→Q v h')→Get C n hb a name Q
noncomputable def PEs (C:Cx) (n:Nat) (F:Fr) (loc:Loc) (h:Hs) (es:List Expr) (vs:List V):Prop:=∀hb,h.In hb→∀Q:List V→Hs→Prop,(∀h',hb.In h'→Q vs h')→Evs C n F loc hb es Q
noncomputable def PKs (C:Cx) (n:Nat) (F:Fr) (loc:Loc) (h:Hs) (es:List Keyword) (vs:List V):Prop:=∀hb,h.In hb→∀Q:List V→Hs→Prop,(∀h',hb.In h'→Q vs h')→Evk C n F loc hb es Q
noncomputable def Hs.none:Hs:=⟨fun _=> .dead,0⟩
noncomputable def PI (C:Cx) (n:Nat) (F:Fr) (loc:Loc) (h:Hs) (S:Hs) (e:Expr) (items:List V):Prop:=S.In h∧∀hb,h.In hb→∀(tg:Expr→Prop) (K:Hs→(Hs→Prop)→List V→Prop),(∀h',hb.In h'→h'.Ok→∀ok:Hs→Prop,(∀h'',S.In h''→ok h'')→K h' ok items)→Ev C n F loc hb e fun src h1=>Its C n h1 tg src K
noncomputable def PTs (C:Cx) (n:Nat) (F:Fr) (loc:Loc) (h:Hs):List Expr→Bool→Prop
 |[],b=>b=true
 |c::cs,b=>∃b1,PuB C n F loc h c b1∧if b1 then PTs C n F loc h cs b else b=false
end
section
theorem P2.up {f:Value→Value→Sem Value} {a b v:V} (H:P2 C n f h a b v) (x:h.In h'):P2 C n f h' a b v:=fun hb i=>H hb (x.trans i)
theorem PF.up {f:V} {args:List V} {kw:List (Str × V)} {v:V} (H:PF C n h f args kw v) (x:h.In h'):PF C n h' f args kw v:=fun hb i=>H hb (x.trans i)
theorem Hs.In.none (h:Hs):Hs.none.In h:=⟨Qz _,fun _=>AO.le_any _⟩
theorem Hs.In.only {i:Nat} {o:AO} (e:h.σ i=o):(Hs.none.upd i o).In h:=⟨Qz _,fun j=>by
 show AO.le (h.σ j) (if j=i then o else .dead)
 by_cases hj:j=i
 ·rw[if_pos hj,hj,e];exact AO.le_refl _
 ·rw[if_neg hj];exact AO.le_any _⟩
-- constants,names
theorem pu_int {i:Int} {k:Nat} {p:Pos}:Pu C n F loc h (.Constant (.int i) k p) (.int i):=fun hb hi Q q=>ev_int (q _ (.refl _))
theorem pu_str {i:Str} {k:Nat} {p:Pos}:Pu C n F loc h (.Constant (.str i) k p) (.str i):=fun hb hi Q q=>ev_str (q _ (.refl _))
theorem pu_none {k:Nat} {p:Pos}:Pu C n F loc h (.Constant .none k p) .none:=fun hb hi Q q=>ev_none (q _ (.refl _))
theorem pu_local {x:Str} {p:Pos} {v:V} (hk:F.env.kindOf x=some .local) (hl:loc.lookup x=some v) (hd:autoParam ((x==("__debug__" : Str))=false) aD):Pu C n F loc h (.Name x p) v:=fun hb hi Q q=>ev_local hk hl (q _ (.refl _)) hd
theorem pLo {x:Str} {p:Pos} {v:V} (hk:autoParam (F.env.kindOf x=some .local) aR) (hl:autoParam (loc.lookup x=some v) aR) (hd:autoParam ((x==("__debug__" : Str))=false) aD):Pu C n F loc h (.Name x p) v:=pu_local hk hl hd
theorem pu_cell {x:Str} {p:Pos} {i:Nat} {v:V} (hk:F.env.kindOf x=some .cell) (hc:F.cel.lookup x=some i) (hv:h.σ i= .cell (some v)) (hd:autoParam ((x==("__debug__" : Str))=false) aD):Pu C n F loc h (.Name x p) v:=fun hb hi Q q=>ev_cell hk hc (hi.cell hv) (q _ (.refl _)) hd
theorem pu_free {x:Str} {p:Pos} {i:Nat} {v:V} (hk:F.env.kindOf x=some .free) (hc:F.cel.lookup x=some i) (hv:h.σ i= .cell (some v)) (hd:autoParam ((x==("__debug__" : Str))=false) aD) (hd':autoParam ((x==("__classdict__" : Str))=false) aD):Pu C n F loc h (.Name x p) v:=fun hb hi Q q=>ev_free hk hc (hi.cell hv) (q _ (.refl _)) hd hd'
theorem pu_global {mg mb:Str→Option Value} {x:Str} {p:Pos} {v:V} {y:Value} (T:Tp C mg mb) (hv:mg x=some y) (hc:VOf v y) (hk:F.env.kindOf x=some .globalImplicit) (hd:autoParam ((x==("__debug__" : Str))=false) aD):Pu C n F loc h (.Name x p) v:=fun hb hi Q q=>ev_global T hk hv hc (q _ (.refl _)) hd
theorem pu_builtin {mg mb:Str→Option Value} {x:Str} {p:Pos} {v:V} {y:Value} (T:Tp C mg mb) (hm:mg x=none) (hv:mb x=some y) (hc:VOf v y) (hk:F.env.kindOf x=some .globalImplicit) (hd:autoParam ((x==("__debug__" : Str))=false) aD):Pu C n F loc h (.Name x p) v:=fun hb hi Q q=>ev_builtin T hk hm hv hc (q _ (.refl _)) hd
-- operations
theorem pu_bin {l r:Expr} {op:Operator} {p:Pos} {a b v:V} (A:Pu C n F loc h l a) (B:Pu C n F loc h r b) (O:P2 C n (binaryOp op) h a b v):Pu C n F loc h (.BinOp l op r p) v:=fun hb hi Q q =>
 ev_bin (A hb hi _ fun h1 i1=>B h1 (hi.trans i1) _ fun h2 i2=>O h2 (hi.trans (i1.trans i2)) _ fun h3 i3=>q h3 (i1.trans (i2.trans i3)))
theorem pu_cmp {l r:Expr} {op:CmpOp} {p:Pos} {a b v:V} (A:Pu C n F loc h l a) (B:Pu C n F loc h r b) (O:P2 C n (QQ op) h a b v) (hm:autoParam (behindInMarks op r=false) aW):Pu C n F loc h (.Compare l [op] [r] p) v:=fun hb hi Q q =>
 ev_cmp (A hb hi _ fun h1 i1=>B h1 (hi.trans i1) _ fun h2 i2=>O h2 (hi.trans (i1.trans i2)) _ fun h3 i3=>q h3 (i1.trans (i2.trans i3))) hm
theorem pu_unary {x:Expr} {op:UnaryOp} {p:Pos} {a v:V} (A:Pu C n F loc h x a) (O:P1 C n (unaryOp op) h a v):Pu C n F loc h (.UnaryOp op x p) v:=fun hb hi Q q =>
 ev_unary (A hb hi _ fun h1 i1=>O h1 (hi.trans i1) _ fun h2 i2=>q h2 (i1.trans i2))
theorem pu_ifT {t a b:Expr} {p:Pos} {v:V} {c:Bool} (T:PuB C n F loc h t c) (A:c=true→Pu C n F loc h a v) (B:c=false→Pu C n F loc h b v):Pu C n F loc h (.IfExp t a b p) v:=fun hb hi Q q =>
 ev_ifexp (T hb hi _ fun h1 i1=>by
  cases c with
  |true=>exact A rfl h1 (hi.trans i1) _ fun h2 i2=>q h2 (i1.trans i2)
  |false=>exact B rfl h1 (hi.trans i1) _ fun h2 i2=>q h2 (i1.trans i2))
-- tests
theorem pt_bool {b:Bool}:PT C n h (.bool b) b:=fun hb hi Q q=>tru_bool (q _ (.refl _))
theorem pt_int {a:Int}:PT C n h (.int a) (a != 0):=fun hb hi Q q=>tru_int (q _ (.refl _))
theorem pt_list {v:V} {xs:List V} (hv:IsLst h v xs) (hz:xs.length≤Qc):PT C n h v (!xs.isEmpty):=fun hb hi Q q=>tru_list (hi.lst hv) hz (q _ (.refl _))
theorem pub_value {e:Expr} {v:V} {b:Bool} (A:Pu C n F loc h e v) (T:PT C n h v b) (he:autoParam (∀whole,isTrue e F.env whole=(do let v ←whole;standAt e.pos;holding [v] (truthy v))) aI):PuB C n F loc h e b:=fun hb hi Q q =>
 evB_value (A hb hi _ fun h1 i1=>T h1 (hi.trans i1) _ fun h2 i2=>q h2 (i1.trans i2)) he
theorem pub_cmp {l r:Expr} {op:CmpOp} {p:Pos} {a b:V} {c:Bool} (A:Pu C n F loc h l a) (B:Pu C n F loc h r b) (O:P2 C n (QQ op) h a b (.bool c)) (hm:autoParam (behindInMarks op r=false) aW):PuB C n F loc h (.Compare l [op] [r] p) c:=fun hb hi Q q =>
 evB_cmp (A hb hi _ fun h1 i1=>B h1 (hi.trans i1) _ fun h2 i2=>O h2 (hi.trans (i1.trans i2)) _ fun h3 i3=>tru_bool (q h3 (i1.trans (i2.trans i3)))) hm
theorem pub_not {x:Expr} {p:Pos} {b:Bool} (A:PuB C n F loc h x b):PuB C n F loc h (.UnaryOp .Not x p) (!b):=fun hb hi Q q=>evB_not (A hb hi _ fun h1 i1=>q h1 i1)
theorem pub_and_nil {p:Pos}:PuB C n F loc h (.BoolOp .And [] p) true:=fun hb hi Q q=>evB_and_nil (q _ (.refl _))
theorem pub_and {x:Expr} {r:List Expr} {p:Pos} {a b:Bool} (A:PuB C n F loc h x a) (B:a=true→PuB C n F loc h (.BoolOp .And r p) b):PuB C n F loc h (.BoolOp .And (x::r) p) (a&&b):=fun hb hi Q q=>evB_and (A hb hi _ fun h1 i1=>by
 cases a with
 |false=>exact q h1 i1
 |true=>exact B rfl h1 (hi.trans i1) _ fun h2 i2=>q h2 (i1.trans i2))
theorem pub_or_nil {p:Pos}:PuB C n F loc h (.BoolOp .Or [] p) false:=fun hb hi Q q=>evB_or_nil (q _ (.refl _))
theorem pub_or {x:Expr} {r:List Expr} {p:Pos} {a b:Bool} (A:PuB C n F loc h x a) (B:a=false→PuB C n F loc h (.BoolOp .Or r p) b):PuB C n F loc h (.BoolOp .Or (x::r) p) (a||b):=fun hb hi Q q=>evB_or (A hb hi _ fun h1 i1=>by
 cases a with
 |true=>exact q h1 i1
 |false=>exact B rfl h1 (hi.trans i1) _ fun h2 i2=>q h2 (i1.trans i2))
-- int operations
theorem p2_addi {a b:Int}:P2 C n (binaryOp .Add) h (.int a) (.int b) (.int (a+b)):=fun hb hi Q q=>add_int (q _ (.refl _))
theorem p2_subi {a b:Int}:P2 C n (binaryOp .Sub) h (.int a) (.int b) (.int (a-b)):=fun hb hi Q q=>sub_int (q _ (.refl _))
theorem p2_modi {a b:Int} (hb0:b≠0):P2 C n (binaryOp .Mod) h (.int a) (.int b) (.int (a.fmod b)):=fun hb hi Q q=>mod_int hb0 (q _ (.refl _))
theorem p2_divi {a b:Int} (hb0:b≠0) (hp:Builtin.divisionGoesByPylong a b=false):P2 C n (binaryOp .FloorDiv) h (.int a) (.int b) (.int (a.fdiv b)):=fun hb hi Q q=>div_int hb0 hp (q _ (.refl _))
theorem p2_eqi {a b:Int}:P2 C n (QQ .Eq) h (.int a) (.int b) (.bool (a==b)):=fun hb hi Q q=>eq_int (q _ (.refl _))
theorem p2_nei {a b:Int}:P2 C n (QQ .NotEq) h (.int a) (.int b) (.bool (a != b)):=fun hb hi Q q=>ne_int (q _ (.refl _))
theorem p2_lti {a b:Int}:P2 C n (QQ .Lt) h (.int a) (.int b) (.bool (decide (a<b))):=fun hb hi Q q=>lt_int (q _ (.refl _))
theorem p2_gti {a b:Int}:P2 C n (QQ .Gt) h (.int a) (.int b) (.bool (decide (b<a))):=fun hb hi Q q=>gt_int (q _ (.refl _))
theorem p2_gei {a b:Int}:P2 C n (QQ .GtE) h (.int a) (.int b) (.bool (decide (b≤a))):=fun hb hi Q q=>ge_int (q _ (.refl _))
theorem p2_isnone {v:V} (hv:∀id,v≠ .blt id):P2 C n (QQ .Is) h v .none (.bool v.isNone):=fun hb hi Q q=>is_none_l hv (q _ (.refl _))
theorem p2_isnotnone {v:V} (hv:∀id,v≠ .blt id):P2 C n (QQ .IsNot) h v .none (.bool (!v.isNone)):=fun hb hi Q q=>isNot_none_l hv (q _ (.refl _))
-- data compared
theorem p2_ned {a b:V} {da db:PyData} (ha:Dat h a da) (hb:Dat h b db) (ka:Dok da) (kb:Dok db):P2 C (n+1) (QQ .NotEq) h a b (.bool (!PyData.eqv da db)):=fun hh hi Q q=>dat_ne (hi.dat ha) (hi.dat hb) ka kb (q _ (.refl _))
theorem p2_ind {a b:V} {da:PyData} {db:List PyData} (ha:Dat h a da) (hb:Dat h b (.list db)) (ka:Dok da) (kb:Dok (.list db)):P2 C (n+1) (QQ .In) h a b (.bool (db.any fun y=>PyData.eqv y da)):=fun hh hi Q q=>dat_in (hi.dat ha) (hi.dat hb) ka kb (q _ (.refl _))
theorem p2_nind {a b:V} {da:PyData} {db:List PyData} (ha:Dat h a da) (hb:Dat h b (.list db)) (ka:Dok da) (kb:Dok (.list db)):P2 C (n+1) (QQ .NotIn) h a b (.bool (!db.any fun y=>PyData.eqv y da)):=fun hh hi Q q=>dat_notIn (hi.dat ha) (hi.dat hb) ka kb (q _ (.refl _))
-- lists
theorem fz_new {hb:Hs} {xs:List V} {Q:V→Hs→Prop} (ok:hb.Ok) (q:∀h',hb.In h'→Q (.lst xs) h'):∃i ys,V.ref hb.nx= .ref i∧(hb.new (.list xs)).σ i= .list ys∧Q (.lst ys) ((hb.new (.list xs)).upd i .dead) :=
 ⟨_,_,rfl,if_pos rfl,q _ (((Hs.In.refl hb).new ok).updd (ok _ (Qt _)))⟩
theorem p2_addl {u v:V} {xs ys:List V} (hu:IsLst h u xs) (hv:IsLst h v ys) (hz:xs.length+ys.length≤Qc):P2 C n (binaryOp .Add) h u v (.lst (xs++ys)):=fun hb hi Q q =>
 Op2.ok fun ok=>Op2.fz (add_list (hi.lst hu) (hi.lst hv) hz (fz_new ok q))
theorem p2_getlN {v u:V} {xs:List V} {j:Nat} (hv:IsLst h v xs) (hz:xs.length≤Qc) (hu:xs[j]? =some u):P2 C n getItem h v (.int (j:Int)) u:=fun hb hi Q q=>lst_getN (hi.lst hv) hz hu (q _ (.refl _))
noncomputable def NotPyU (C:Cx) (h:Hs) (a:V):Prop:=∀hb,h.In hb→NotPy C hb a
theorem notPyU_lst {v:V} {xs:List V} (hv:IsLst h v xs):NotPyU C h v:=fun hb hi=>notPy_lst (hi.lst hv)
theorem pu_sub {o i:Expr} {p:Pos} {a b v:V} (A:Pu C n F loc h o a) (B:Pu C n F loc h i b) (N:NotPyU C h a) (O:P2 C n getItem h a b v) (hs:autoParam (∀x y,subscripted i false x y=operate [x,y] (getItem x y)) aI):Pu C n F loc h (.Subscript o i p) v:=fun hb hi Q q =>
 ev_sub (A hb hi _ fun h1 i1=>B h1 (hi.trans i1) _ fun h2 i2=>⟨N h2 (hi.trans (i1.trans i2)),O h2 (hi.trans (i1.trans i2)) _ fun h3 i3=>q h3 (i1.trans (i2.trans i3))⟩) hs
noncomputable def PO (C:Cx) (n:Nat) (F:Fr) (loc:Loc) (h:Hs) (e:Option Expr) (v:V):Prop:=∀hb,h.In hb→∀Q:V→Hs→Prop,(∀h',hb.In h'→Q v h')→EvO C n F loc hb e Q
theorem po_none:PO C n F loc h none (partV none):=fun hb hi Q q=>evO_none (q _ (.refl _))
theorem po_some {e:Expr} {k:Int} (A:Pu C n F loc h e (.int k)):PO C n F loc h (some e) (partV (some k)):=fun hb hi Q q=>evO_some (A hb hi _ q)
noncomputable def PS (C:Cx) (n:Nat) (h:Hs) (a l u st v:V):Prop:=∀hb,h.In hb→∀Q:V→Hs→Prop,(∀h',hb.In h'→Q v h')→Slc C n hb a l u st Q
theorem pu_slice {o:Expr} {lo hi st:Option Expr} {p p':Pos} {a l u s v:V} (A:Pu C n F loc h o a) (L:PO C n F loc h lo l) (U:PO C n F loc h hi u) (S:PO C n F loc h st s) (N:NotPyU C h a) (O:PS C n h a l u s v):Pu C n F loc h (.Subscript o (.Slice lo hi st p) p') v:=fun hb hi Q q =>
 ev_slice (A hb hi _ fun h1 i1=>L h1 (hi.trans i1) _ fun h2 i2=>U h2 (hi.trans (i1.trans i2)) _ fun h3 i3=>S h3 (hi.trans (i1.trans (i2.trans i3))) _ fun h4 i4 =>
  ⟨N h4 (hi.trans (i1.trans (i2.trans (i3.trans i4)))),O h4 (hi.trans (i1.trans (i2.trans (i3.trans i4)))) _ fun h5 i5=>q h5 (i1.trans (i2.trans (i3.trans (i4.trans i5))))⟩)
theorem ps_list {v:V} {xs:List V} {lo hi st:Option Int} (hv:IsLst h v xs) (hz:xs.length≤Qc) (h0:st≠some 0):PS C n h v (partV lo) (partV hi) (partV st) (.lst (pick xs lo hi st)):=fun hb hh Q q =>
 Slc.ok fun ok=>Slc.fz (slc_list (hh.lst hv) hz h0 (fz_new ok q))
theorem pes_nil:PEs C n F loc h [] []:=fun hb hi Q q=>evs_nil (q _ (.refl _))
theorem pes_cons {e:Expr} {es:List Expr} {v:V} {vs:List V} (A:Pu C n F loc h e v) (B:PEs C n F loc h es vs) (he:autoParam (starEach (e::es) F.env=(false,eval e F.env)::starEach es F.env) aR):PEs C n F loc h (e::es) (v::vs):=fun hb hi Q q =>
 evs_cons (A hb hi _ fun h1 i1=>B h1 (hi.trans i1) _ fun h2 i2=>q h2 (i1.trans i2)) he
theorem pks_nil:PKs C n F loc h [] []:=fun hb hi Q q=>evk_nil (q _ (.refl _))
theorem pks_cons {x:Str} {e:Expr} {p:Pos} {es:List Keyword} {v:V} {vs:List V} (A:Pu C n F loc h e v) (B:PKs C n F loc h es vs):PKs C n F loc h (⟨some x,e,p⟩::es) (v::vs):=fun hb hi Q q =>
 evk_cons (A hb hi _ fun h1 i1=>B h1 (hi.trans i1) _ fun h2 i2=>q h2 (i1.trans i2))
theorem pu_list {es:List Expr} {p:Pos} {vs:List V} (A:PEs C n F loc h es vs) (hz:autoParam (vs.length≤Qc) aS):Pu C n F loc h (.List es p) (.lst vs):=fun hb hi Q q=>ev_listF (A hb hi _ fun h1 i1=>⟨hz,q h1 i1⟩)
theorem pu_tuple {es:List Expr} {k:Nat} {p:Pos} {vs:List V} (A:PEs C n F loc h es vs) (hz:autoParam (vs.length≤Qc) aS):Pu C n F loc h (.Tuple es k p) (.tup vs):=fun hb hi Q q=>ev_tuple (A hb hi _ fun h1 i1=>⟨hz,q h1 i1⟩)
theorem pu_call {x:Str} {p' p:Pos} {es:List Expr} {ks:List Keyword} {ns:List Str} {f v:V} {vs kv:List V} (N:Pu C n F loc h (.Name x p') f) (K:Kp C f) (A:PEs C n F loc h es vs) (B:PKs C n F loc h ks kv) (O:PF C n h f vs (ns.zip kv) v) (hs:autoParam (noStar es=true) aR) (hn:autoParam (kwNames ks=some ns) aR):Pu C n F loc h (.Call (.Name x p') es ks p) v:=fun hb hi Q q =>
 ev_call (N hb hi _ fun h1 i1=>⟨K,A h1 (hi.trans i1) _ fun h2 i2=>B h2 (hi.trans (i1.trans i2)) _ fun h3 i3=>O h3 (hi.trans (i1.trans (i2.trans i3))) _ fun h4 i4=>q h4 (i1.trans (i2.trans (i3.trans i4)))⟩) hs hn
theorem pu_mcall {o:Expr} {name:Str} {p' p:Pos} {es:List Expr} {ks:List Keyword} {ns:List Str} {a f v:V} {first vs kv:List V} (N:Pu C n F loc h o a) (M:PM C n h a name f first) (A:PEs C n F loc h es vs) (B:PKs C n F loc h ks kv) (O:PF C n h f (first++vs) (ns.zip kv) v)
 (hs:autoParam (noStar es=true) aR) (hn:autoParam (kwNames ks=some ns) aR) (hb:autoParam (attributeBase o name F.env (eval o F.env)=eval o F.env) aR)
 (hf:autoParam (methodCallForm (es.length+ks.length) (backTo p (starEach es F.env)) (backToKw p (keywordEach ks F.env))=true) aR) (hl:autoParam ((p'.endLine==p.line)=true) aR):Pu C n F loc h (.Call (.Attribute o name p') es ks p) v:=fun hb hi Q q =>
 ev_mcall (N hb hi _ fun h1 i1=>M.2 h1 (hi.trans i1) _ ⟨M.1,A h1 (hi.trans i1) _ fun h2 i2=>B h2 (hi.trans (i1.trans i2)) _ fun h3 i3=>O h3 (hi.trans (i1.trans (i2.trans i3))) _ fun h4 i4=>q h4 (i1.trans (i2.trans (i3.trans i4)))⟩) hs hn (by assumption) hf hl
theorem pu_attr {o:Expr} {attr:Str} {p:Pos} {a v:V} (A:Pu C n F loc h o a) (G:PG C n h a attr v) (hb:autoParam (attributeBase o attr F.env (eval o F.env)=eval o F.env) aR):Pu C n F loc h (.Attribute o attr p) v:=fun hh hi Q q =>
 ev_attr (A hh hi _ fun h1 i1=>G h1 (hi.trans i1) _ fun h2 i2=>q h2 (i1.trans i2)) hb
-- calls of built-in functions
theorem pf_len {v:V} {xs:List V} (hv:IsLst h v xs) (hz:xs.length≤Qc):PF C n h (.blt "len") [v] [] (.int xs.length):=fun hb hi Q q=>len_list (hi.lst hv) hz (q _ (.refl _))
theorem pf_range1 {b:Int}:PF C n h (.ty "range") [.int b] [] (.rng 0 b 1):=fun hb hi Q q=>cl_range1 (q _ (.refl _))
theorem pf_range2 {a b:Int}:PF C n h (.ty "range") [.int a, .int b] [] (.rng a b 1):=fun hb hi Q q=>cl_range2 (q _ (.refl _))
-- iteration
theorem pi_lst {e:Expr} {xs:List V} (A:Pu C n F loc h e (.lst xs)):PI C n F loc h Hs.none e xs:=⟨.none _,fun hb hi tg K q=>A hb hi _ fun h1 i1=>Its.ok fun ok=>its_list (v:= .lst xs) rfl (q h1 i1 ok _ fun _ _=>rfl)⟩
theorem pi_ref {e:Expr} {i:Nat} {xs:List V} (A:Pu C n F loc h e (.ref i)) (hv:h.σ i= .list xs):PI C n F loc h (Hs.none.upd i (.list xs)) e xs:=⟨.only hv,fun hb hi tg K q=>A hb hi _ fun h1 i1=>Its.ok fun ok=>its_list (v:= .ref i) ((hi.trans i1).list hv) (q h1 i1 ok _ fun h2 i2=>i2.list (if_pos rfl))⟩
theorem pi_rng {e:Expr} {a b:Int} (A:Pu C n F loc h e (.rng a b 1)) (ha: -(2^61:Int)≤a) (ha':a≤2^61) (hb: -(2^61:Int)≤b) (hb':b≤2^61):PI C n F loc h Hs.none e ((Wo (b-a).toNat).map fun(i:Nat)=>V.int (a+(i:Int))):=⟨.none _,fun hh hi tg K q=>A hh hi _ fun h1 i1=>Its.ok fun ok=>its_rng1 ha ha' hb hb' (q h1 i1 ok _ fun _ _=>trivial)⟩
theorem pi_rng0 {e:Expr} {m:Nat} (A:Pu C n F loc h e (.rng 0 (m:Int) 1)) (hm:m≤2^61):PI C n F loc h Hs.none e ((Wo m).map fun(i:Nat)=>V.int (i:Int)):=by
 have:=pi_rng A (by omega) (by omega) (by omega) (by omega)
 simpa using this
end
section
theorem tests_pu:∀(fs:List Expr) (b:Bool) (hb:Hs) (Q:Bool→Hs→Prop),PTs C n F loc h fs b→h.In hb→(∀h',hb.In h'→Q b h')→TestsW C n F loc Q fs hb
 |[],b,hb,Q,H,hi,q=>by
  have H:b=true:=H
  subst H;exact q _ (.refl _)
 |c::cs,b,hb,Q,⟨b1,H1,H2⟩,hi,q=>H1 hb hi _ fun h1 i1=>by
  cases b1 with
  |true=>exact tests_pu cs b h1 Q H2 (hi.trans i1) fun h' i'=>q h' (i1.trans i')
  |false =>
   have H2:b=false:=H2
   subst H2;exact q h1 i1
theorem pts_nil:PTs C n F loc h [] true:=rfl
theorem pts_one {c:Expr} {b:Bool} (H:PuB C n F loc h c b):PTs C n F loc h [c] b:=⟨b,H,by cases b<;>rfl⟩
theorem lc_core {α:Type} {x:Str} {ps:Pos} {fs:List Expr} {elt i:Expr} {scope:Scope} {cl:List (Str × Nat)} {as:List α} {g:α→V} (t:α→Bool) (e:α→V)
 {S:Hs} (I:PI C n F loc h S i (as.map g)) (hz:as.length≤Qc)
 (hx:∀L cells,(compEnv scope F.env L cells).kindOf x=some .local) (hc:∀k,celFrom k scope.names cl=cl) (hs:∀h,hsCells scope.names h=h)
 (T:∀a∈as,∀L cells,PTs C n ⟨compEnv scope F.env L cells,cl⟩ [(x,g a)] h fs (t a))
 (E:∀a∈as,t a=true→∀L cells,Pu C n ⟨compEnv scope F.env L cells,cl⟩ [(x,g a)] h elt (e a))
 {hb:Hs} (hi:h.In hb) {K:Nat→Hs→Prop} (q:∀p h',hb.σ p= .dead→hb.nx≤p→p<h'.nx→hb.In h'→h'.σ p= .list ((as.filter t).map e)→K p h') :
 Ev C n F loc hb i fun src h1=>Its C n h1 (·= .Name x ps) src fun h2 ok items=>∀L cells,LpW ok (TurnW C n ⟨compEnv scope F.env L cells,celFrom (h2.nx+1) scope.names cl⟩ (.Name x ps) fs (EmL C n ⟨compEnv scope F.env L cells,celFrom (h2.nx+1) scope.names cl⟩ h2.nx elt)) (fun _ h'=>K h2.nx h') items [] (hsCells scope.names (h2.new (.list []))):=by
 refine I.2 hb hi _ _ fun h1 i1 ok1 ok hok L cells=> ?_
 rw[hc,hs]
 have hp1:h1.σ h1.nx= .dead:=ok1 _ (Qt _)
 have hpb:hb.σ h1.nx= .dead:=i1.dead hp1
 refine lpw_inv (fun k l h'=>h'.σ h1.nx= .list (((as.take k).filter t).map e)∧h1.In h'∧h1.nx<h'.nx∧(l=[]∨∃u,l=[(x,u)])) ?_ (turn_mono emL_mono) ?_ ?_ ⟨by simp[Hs.new],(Hs.In.refl h1).new ok1,Qk _, .inl rfl⟩
 ·rintro k l h' ⟨_,z,_⟩;exact hok _ (I.1.trans (hi.trans (i1.trans z)))
 · rintro k v l h' hv ⟨z1,z2,z4,z3⟩
   rw[Qb] at hv
   refine x_EA (QW.mp hv) fun a ha z91=> ?_;subst z91
   have hu:upd x (g a) l=[(x,g a)]:=by rcases z3 with rfl|⟨u,rfl⟩<;>simp[upd]
   have hmem:a∈as:=Qa ha
   have hlt:=(Qp.mp ha).1
   have htk:((as.take (k+1)).filter t).map e=((as.take k).filter t).map e++(if t a then[e a] else[]):=by
    rw[List.take_add_one,List.filter_append,ha]
    cases hf:t a<;>simp[hf]
   have hlen:(((as.take k).filter t).map e).length≤Qc:=by
    rw[Qo]
    exact Qe (QX _ _) (by rw[List.length_take];omega)
   refine as_local (hx L cells) ?_
   rw[hu]
   have hin:h.In h':=hi.trans (i1.trans z2)
   refine tests_pu fs (t a) h' _ (T a hmem L cells) hin fun h2 i2=> ?_
   cases hta:t a with
   |false =>
    simp only[Qm,if_false]
    refine⟨?_,z2.trans i2,Qy z4 i2.nx, .inr ⟨_,rfl⟩⟩
    rw[htk,hta];simpa using i2.list z1
   |true =>
    simp only[if_true]
    refine E a hmem hta L cells h2 (hin.trans i2) _ fun h3 i3=>⟨_,i3.list (i2.list z1),hlen, ?_,((z2.trans i2).trans i3).updd hp1,Qy z4 (Qe i2.nx i3.nx), .inr ⟨_,rfl⟩⟩
    rw[htk,hta];simp[Hs.upd]
 · rintro l h' ⟨z1,z2,z4,_⟩
   rw[Qo,List.take_length] at z1
   exact q h1.nx h' hpb i1.nx z4 (i1.trans z2) z1
theorem lc_coreC {α:Type} {x:Str} {ps:Pos} {fs:List Expr} {elt i:Expr} {scope:Scope} {cl:List (Str × Nat)} {as:List α} {g:α→V} (t:α→Bool) (e:α→V)
 {S:Hs} (I:PI C n F loc h S i (as.map g)) (hz:as.length≤Qc)
 (hx:∀L cells,(compEnv scope F.env L cells).kindOf x=some .cell) (hc:∀k,celFrom k scope.names cl=(x,k)::cl) (hs:∀h,hsCells scope.names h=h.new (.cell none))
 (T:∀a∈as,∀L cells q,h.nx≤q→PTs C n ⟨compEnv scope F.env L cells,(x,q)::cl⟩ [] ((h.upd q (.cell (some (g a)))).at (q+1)) fs (t a))
 (E:∀a∈as,t a=true→∀L cells q,h.nx≤q→Pu C n ⟨compEnv scope F.env L cells,(x,q)::cl⟩ [] ((h.upd q (.cell (some (g a)))).at (q+1)) elt (e a))
 {hb:Hs} (hi:h.In hb) {K:Nat→Hs→Prop} (q:∀p h',hb.σ p= .dead→hb.nx≤p→p<h'.nx→hb.In h'→h'.σ p= .list ((as.filter t).map e)→K p h') :
 Ev C n F loc hb i fun src h1=>Its C n h1 (·= .Name x ps) src fun h2 ok items=>∀L cells,LpW ok (TurnW C n ⟨compEnv scope F.env L cells,celFrom (h2.nx+1) scope.names cl⟩ (.Name x ps) fs (EmL C n ⟨compEnv scope F.env L cells,celFrom (h2.nx+1) scope.names cl⟩ h2.nx elt)) (fun _ h'=>K h2.nx h') items [] (hsCells scope.names (h2.new (.list []))):=by
 refine I.2 hb hi _ _ fun h1 i1 ok1 ok hok L cells=> ?_
 rw[hc,hs]
 have hp1:h1.σ h1.nx= .dead:=ok1 _ (Qt _)
 have hp2:h1.σ (h1.nx+1)= .dead:=ok1 _ (Nat.le_succ _)
 have hpb:hb.σ h1.nx= .dead:=i1.dead hp1
 have hin0:h1.In ((h1.new (.list [])).new (.cell none)):=by
  refine((Hs.In.refl h1).new ok1).new fun j hj=> ?_
  have hj:h1.nx+1≤j:=hj
  show(if j=h1.nx then _ else h1.σ j)=_
  rw[if_neg (by exact QE (by assumption))];exact ok1 j (by exact Qx (by assumption))
 refine lpw_inv (fun k l h'=>h'.σ h1.nx= .list (((as.take k).filter t).map e)∧h1.In h'∧h1.nx+1<h'.nx∧l=[]∧∃u,h'.σ (h1.nx+1)= .cell u) ?_ (turn_mono emL_mono) ?_ ?_ ⟨by simp[Hs.new],hin0,Qk _,rfl,none,by simp[Hs.new]⟩
 ·rintro k l h' ⟨_,z,_⟩;exact hok _ (I.1.trans (hi.trans (i1.trans z)))
 · rintro k v l h' hv ⟨z1,z2,z4,rfl,u0,z3⟩
   rw[Qb] at hv
   refine x_EA (QW.mp hv) fun a ha z92=> ?_;subst z92
   have hmem:a∈as:=Qa ha
   have hlt:=(Qp.mp ha).1
   have htk:((as.take (k+1)).filter t).map e=((as.take k).filter t).map e++(if t a then[e a] else[]):=by
    rw[List.take_add_one,List.filter_append,ha]
    cases hf:t a<;>simp[hf]
   have hlen:(((as.take k).filter t).map e).length≤Qc:=by
    rw[Qo]
    exact Qe (QX _ _) (by rw[List.length_take];omega)
   refine as_cell (i:=h1.nx+1) (hx L cells) (by simp[List.lookup]) z3 ?_
   have hin:h.In h':=hi.trans (i1.trans z2)
   have hinu:((h.upd (h1.nx+1) (.cell (some (g a)))).at (h1.nx+1+1)).In (h'.upd (h1.nx+1) (.cell (some (g a)))):=⟨z4,hin.upd.le⟩
   have hq:h.nx≤h1.nx+1:=QT (hi.trans i1).nx
   have z1':(h'.upd (h1.nx+1) (.cell (some (g a)))).σ h1.nx= .list (((as.take k).filter t).map e):=by
    show(if h1.nx=h1.nx+1 then _ else h'.σ h1.nx)=_
    rw[if_neg (by omega)];exact z1
   have z2':h1.In (h'.upd (h1.nx+1) (.cell (some (g a)))):=z2.updd hp2
   have z3':(h'.upd (h1.nx+1) (.cell (some (g a)))).σ (h1.nx+1)= .cell (some (g a)):=if_pos rfl
   have z4':h1.nx+1<(h'.upd (h1.nx+1) (.cell (some (g a)))).nx:=z4
   generalize h'.upd (h1.nx+1) (.cell (some (g a)))=h4 at hinu z1' z2' z3' z4'
   refine tests_pu fs (t a) h4 _ (T a hmem L cells _ hq) hinu fun h2 i2=> ?_
   cases hta:t a with
   |false =>
    simp only[Qm,if_false]
    refine⟨?_,z2'.trans i2,Qy z4' i2.nx,by simp,_,i2.cell z3'⟩
    rw[htk,hta];simpa using i2.list z1'
   |true =>
    simp only[if_true]
    refine E a hmem hta L cells _ hq h2 (hinu.trans i2) _ fun h3 i3=>⟨_,i3.list (i2.list z1'),hlen, ?_,((z2'.trans i2).trans i3).updd hp1,Qy z4' (Qe i2.nx i3.nx),by simp,some (g a), ?_⟩
    ·rw[htk,hta];simp[Hs.upd]
    · show(if h1.nx+1=h1.nx then _ else h3.σ (h1.nx+1))=_
      rw[if_neg (by omega)];exact i3.cell (i2.cell z3')
 · rintro l h' ⟨z1,z2,z4,_⟩
   rw[Qo,List.take_length] at z1
   exact q h1.nx h' hpb i1.nx (by exact Qx (by assumption)) (i1.trans z2) z1
theorem fz_at {hb h':Hs} {p:Nat} {xs:List V} {Q:V→Hs→Prop} (hd:hb.σ p= .dead) (hi:hb.In h') (hs:h'.σ p= .list xs) (q:∀h',hb.In h'→Q (.lst xs) h'):∃i ys,V.ref p= .ref i∧h'.σ i= .list ys∧Q (.lst ys) (h'.upd i .dead) :=
 ⟨_,_,rfl,hs,q _ (hi.updd hd)⟩
theorem pu_listcomp {α:Type} {x:Str} {ps:Pos} {fs:List Expr} {elt i:Expr} {scope:Scope} {pos:Pos} {cl:List (Str × Nat)} {as:List α} {g:α→V} (t:α→Bool) (e:α→V)
 {S:Hs} (I:PI C n F loc h S i (as.map g)) (hz:as.length≤Qc)
 (T:∀a∈as,∀L cells,PTs C n ⟨compEnv scope F.env L cells,cl⟩ [(x,g a)] h fs (t a))
 (E:∀a∈as,t a=true→∀L cells,Pu C n ⟨compEnv scope F.env L cells,cl⟩ [(x,g a)] h elt (e a))
 (hclo:autoParam (cloA F.cel scope.names []=some cl) aR) (hx:autoParam (∀L cells,(compEnv scope F.env L cells).kindOf x=some .local) aI) (hc:autoParam (∀k,celFrom k scope.names cl=cl) aI) (hs:autoParam (∀h,hsCells scope.names h=h) aI)
 (hk:autoParam (scope.kind= .function) aR) (hnm:autoParam (namesOk scope.names=true) aR) (hfs:autoParam (∀x,Q8 i F.env x=pure x) aI):Pu C n F loc h (.ListComp elt [⟨.Name x ps,i,fs,0⟩] scope pos) (.lst ((as.filter t).map e)):=fun hb hi Q q =>
 Ev.fz (ev_listcomp compOk_one (lc_core t e I hz hx hc hs T E hi fun p h' hd _ _ hi' hs'=>fz_at hd hi' hs' q) hclo hk hnm hfs)
theorem pu_listcompC {α:Type} {x:Str} {ps:Pos} {fs:List Expr} {elt i:Expr} {scope:Scope} {pos:Pos} {cl:List (Str × Nat)} {as:List α} {g:α→V} (t:α→Bool) (e:α→V)
 {S:Hs} (I:PI C n F loc h S i (as.map g)) (hz:as.length≤Qc)
 (T:∀a∈as,∀L cells q,h.nx≤q→PTs C n ⟨compEnv scope F.env L cells,(x,q)::cl⟩ [] ((h.upd q (.cell (some (g a)))).at (q+1)) fs (t a))
 (E:∀a∈as,t a=true→∀L cells q,h.nx≤q→Pu C n ⟨compEnv scope F.env L cells,(x,q)::cl⟩ [] ((h.upd q (.cell (some (g a)))).at (q+1)) elt (e a))
 (hclo:autoParam (cloA F.cel scope.names []=some cl) aR) (hx:autoParam (∀L cells,(compEnv scope F.env L cells).kindOf x=some .cell) aI) (hc:autoParam (∀k,celFrom k scope.names cl=(x,k)::cl) aI) (hs:autoParam (∀h,hsCells scope.names h=h.new (.cell none)) aI)
 (hk:autoParam (scope.kind= .function) aR) (hnm:autoParam (namesOk scope.names=true) aR) (hfs:autoParam (∀x,Q8 i F.env x=pure x) aI):Pu C n F loc h (.ListComp elt [⟨.Name x ps,i,fs,0⟩] scope pos) (.lst ((as.filter t).map e)):=fun hb hi Q q =>
 Ev.fz (ev_listcomp compOk_one (lc_coreC t e I hz hx hc hs T E hi fun p h' hd _ _ hi' hs'=>fz_at hd hi' hs' q) hclo hk hnm hfs)
noncomputable def KX (C:Cx) (n:Nat) (F:Fr) (loc:Loc) (h:Hs) (sts:List Stmt) (QF:Fl→Loc→Hs→Prop):Prop:=∀hb,h.In hb→Exs C n F loc hb sts QF
noncomputable def KA (C:Cx) (n:Nat) (F:Fr) (loc:Loc) (h:Hs) (t:Expr) (v:V) (QL:Loc→Hs→Prop):Prop:=∀hb,h.In hb→As C n F loc hb t v QL
theorem KX.up {sts:List Stmt} (H:KX C n F loc h sts QF) (x:h.In h'):KX C n F loc h' sts QF:=fun hb i=>H hb (x.trans i)
theorem kx_nil (q:∀h',h.In h'→QF .next loc h'):KX C n F loc h [] QF:=fun hb hi=>exs_nil (q hb hi)
theorem kx_set {x:Str} {p p':Pos} {e:Expr} {v:V} (E:Pu C n F loc h e v) (H:KX C n F (upd x v loc) h rest QF) (hk:autoParam (F.env.kindOf x=some .local) aR)
 (hs:autoParam (swapsWith e (some (.Name x p)) p'.line F.env=pure false) aR) (hw:autoParam (swappedStores [.Name x p] e F.env=pure none) aR) (he:autoParam ((assignEach [.Name x p] F.env).map (·.2)=[assign (.Name x p) F.env]) aR):KX C n F loc h (.Assign [.Name x p] e p'::rest) QF:=fun hb hi =>
 exs_cons (ex_assign (E hb hi _ fun h1 i1=>as_local hk (H h1 (hi.trans i1))) hs hw he)
theorem kx_ret {e:Expr} {p:Pos} {v:V} (E:Pu C n F loc h e v) (q:∀h',h.In h'→QF (.ret v) loc h'):KX C n F loc h (.Return (some e) p::rest) QF:=fun hb hi =>
 exs_cons (ex_return (E hb hi _ fun h1 i1=>q h1 (hi.trans i1)))
theorem kx_brk {p:Pos} (q:∀h',h.In h'→QF .brk loc h'):KX C n F loc h (.Break p::rest) QF:=fun hb hi=>exs_cons (ex_break (q hb hi))
theorem kx_cont {p:Pos} (q:∀h',h.In h'→QF .cont loc h'):KX C n F loc h (.Continue p::rest) QF:=fun hb hi=>exs_cons (ex_continue (q hb hi))
theorem kx_doc {x:Str} {k:Nat} {p p':Pos} (H:KX C n F loc h rest QF) (hi:autoParam (interactive F.env=false) aR) (hs:autoParam (swapsWith (.Constant (.str x) k p) none p'.line F.env=pure false) aR):KX C n F loc h (.Expr (.Constant (.str x) k p) p'::rest) QF:=fun hb hh =>
 exs_cons (ex_expr (ev_str (H hb hh)) hi hs)
theorem kx_if {t:Expr} {b o:List Stmt} {p:Pos} {c:Bool} (T:PuB C n F loc h t c)
 (A:c=true→KX C n F loc h b fun fl l h'=>match fl with | .next=>KX C n F l h' rest QF|fl=>QF fl l h')
 (B:c=false→KX C n F loc h o fun fl l h'=>match fl with | .next=>KX C n F l h' rest QF|fl=>QF fl l h'):KX C n F loc h (.If t b o p::rest) QF:=fun hb hi =>
 exs_cons (ex_if (T hb hi _ fun h1 i1=>by
  cases c with
  |true =>
   rw[if_pos rfl]
   refine(A rfl h1 (hi.trans i1)).mono fun fl l h' q=> ?_
   cases fl<;>first|exact q _ (.refl _)|exact q
  |false =>
   rw[if_neg Bool.false_ne_true]
   refine(B rfl h1 (hi.trans i1)).mono fun fl l h' q=> ?_
   cases fl<;>first|exact q _ (.refl _)|exact q))
theorem kx_ifF {t:Expr} {b:List Stmt} {p:Pos} (T:PuB C n F loc h t false) (A:KX C n F loc h rest QF):KX C n F loc h (.If t b [] p::rest) QF:=kx_if T (fun e=>by cases e) fun _=>kx_nil fun h' i=>A.up i
theorem kx_aug {x:Str} {q p:Pos} {op:Operator} {e:Expr} {v b r:V} (hl:loc.lookup x=some v) (E:Pu C n F loc h e b) (O:P2 C n (inplaceOp op) h v b r) (H:KX C n F (upd x r loc) h rest QF) (hk:autoParam (F.env.kindOf x=some .local) aR):KX C n F loc h (.AugAssign (.Name x q) op e p::rest) QF:=fun hb hi =>
 exs_cons (ex_aug hk hl (E hb hi _ fun h1 i1=>O h1 (hi.trans i1) _ fun h2 i2=>H h2 (hi.trans (i1.trans i2))))
theorem p2_iaddi {a b:Int}:P2 C n (inplaceOp .Add) h (.int a) (.int b) (.int (a+b)):=fun hb hi Q q=>iadd_int (q _ (.refl _))
theorem ka_local {x:Str} {p:Pos} {v:V} {b:List Stmt} {Q:Fl→Loc→Hs→Prop} (H:KX C n F (upd x v loc) h b Q) (hk:autoParam (F.env.kindOf x=some .local) aR):KA C n F loc h (.Name x p) v fun l2 h2=>KX C n F l2 h2 b Q:=fun hb hi=>as_local hk (H.up hi)
theorem kx_for {t it:Expr} {b:List Stmt} {p:Pos} {S:Hs} {items:List V} (I:Nat→Loc→Hs→Prop) (hS:PI C n F loc h S it items)
 (h0:I 0 loc h) (hok:∀k l hk,I k l hk→S.In hk)
 (H:∀k v l hk,items[k]? =some v→I k l hk→KA C n F l hk t v fun l2 h2=>KX C n F l2 h2 b fun fl l3 h3=>match fl with
  | .next | .cont=>∃l' hk',LocSub l' l3∧hk'.In h3∧I (k+1) l' hk'
  | .brk=>KX C n F l3 h3 rest QF
  | .ret u=>QF (.ret u) l3 h3)
 (hend:∀l hk,I items.length l hk→KX C n F l hk rest QF) (hs:autoParam (∀x,Q8 it F.env x=pure x) aI):KX C n F loc h (.For t it b [] p::rest) QF:=fun hb hi =>
 exs_cons (ex_for (tg:=fun _=>True) (hS.2 hb hi _ _ fun h1 i1 ok1 ok hok1=>by
  refine fow_inv2 (fun k l h'=>∃hk,I k l hk∧hk.In h') (fun k l h' ⟨hk,z1,z2⟩=>hok1 _ ((hok _ _ _ z1).trans z2)) (fun k v l h' hv ⟨hk,z1,z2⟩=> ?_) (fun l h' ⟨hk,z1,z2⟩=>hend l hk z1 _ z2) ⟨h,h0,hi.trans i1⟩
  refine(H k v l hk hv z1 h' z2).mono fun l2 h2 q=>(q h2 (.refl _)).mono fun fl l3 h3 q=> ?_
  cases fl with
  |next=>refine x_EEAA q fun l' hk' ls i3 z=> ?_;exact⟨l',h3,ls, .refl _,hk',z,i3⟩
  |cont=>refine x_EEAA q fun l' hk' ls i3 z=> ?_;exact⟨l',h3,ls, .refl _,hk',z,i3⟩
  |brk=>exact⟨l3,h3, .refl _, .refl _,q h3 (.refl _)⟩
  |ret u=>exact⟨l3,h3, .refl _, .refl _,q⟩) trivial hs)
end
section
theorem Up3.pre {f:Value→Value→Value→Sem Unit} {a b c:V} {QU:Hs→Prop} {h₀:Hs} (H:Up3 C n f h₀ a b c QU) (le:h.Le h₀):Up3 C n f h a b c QU:=⟨fun A w Q' E x y z a R=>H.run A w Q' E x y z a (R.weaken le)⟩
theorem Evs.okQ {es:List Expr} {QS:List V→Hs→Prop} (H:Evs C n F loc h es fun vs h'=>h'.Ok→QS vs h'):Evs C n F loc h es QS:=⟨fun A w pos Q' E a R f c=>H.run A w pos Q' E a R f fun xs vs h' w' q e' R'=>c xs vs h' w' (q R'.dead) e' R'⟩
theorem KX.all {sts:List Stmt} (H:KX C n F loc h sts QF):∀h',h.In h'→KX C n F loc h' sts QF:=fun _ i=>H.up i
-- assignment to targets
theorem ka_loc {x:Str} {p:Pos} {v:V} (H:∀h',h.In h'→QL (upd x v loc) h') (hk:autoParam (F.env.kindOf x=some .local) aR):KA C n F loc h (.Name x p) v QL:=fun hb hi=>as_local hk (H hb hi)
theorem ka_cel {x:Str} {p:Pos} {v:V} {i:Nat} {u:Option V} (hc:F.cel.lookup x=some i) (hv:h.σ i= .cell u) (H:∀h',(h.upd i (.cell (some v))).In h'→QL loc h') (hk:autoParam (F.env.kindOf x=some .cell) aR):KA C n F loc h (.Name x p) v QL:=fun hb hi=>as_cell hk hc (hi.cell hv) (H _ hi.upd)
noncomputable def KAL (C:Cx) (n:Nat) (F:Fr) (QL:Loc→Hs→Prop) (ts:List Expr) (vs:List V) (loc:Loc) (h:Hs):Prop:=∀hb,h.In hb→AsL C n F QL ts vs loc hb
theorem KAL.all {ts:List Expr} {vs:List V} (H:KAL C n F QL ts vs loc h):∀h',h.In h'→KAL C n F QL ts vs loc h':=fun _ i hb j=>H hb (i.trans j)
theorem kal_nil (H:∀h',h.In h'→QL loc h'):KAL C n F QL [] [] loc h:=fun hb hi=>H hb hi
theorem kal_cons {t:Expr} {ts:List Expr} {v:V} {vs:List V} (H:KA C n F loc h t v fun l2 h2=>KAL C n F QL ts vs l2 h2):KAL C n F QL (t::ts) (v::vs) loc h:=fun hb hi=>(H hb hi).mono fun l h1 q=>q h1 (.refl _)
theorem ka_tup {ts:List Expr} {vs:List V} {k:Nat} {p:Pos} (H:KAL C n F QL ts vs loc h) (hlen:autoParam (ts.length=vs.length) aR) (he:autoParam ((assignEach ts F.env).map (·.2)=ts.map (fun t=>assign t F.env)) aR) (hst:autoParam ((assignEach ts F.env).findIdx? (·.1)=none) aR):KA C n F loc h (.Tuple ts k p) (.tup vs) QL:=fun hb hi=>as_tuple hlen (H hb hi) he hst
theorem ka_attr {K:W.Frag} {o:Expr} {attr:Str} {p:Pos} {v:V} {i:Nat} {cl:Addr} {fs:List (Str × V)} (I:InC C K) (O:Pu C n F loc h o (.obj i cl)) (hi:h.σ i= .inst fs) (H:∀h',(h.upd i (.inst (upd attr v fs))).In h'→QL loc h')
 (hs:autoParam (W.findIn K (.ref cl) "__setattr__" = some (some (.builtin "object.__setattr__"))) aR) (hpo:autoParam (W.plainOver K cl=true) aR) (ht:autoParam (W.takerIn K cl attr=some none) aR) (hh:autoParam (W.hasDictIn K cl=true) aR) (hz:autoParam (fs.length<50) aD):KA C n F loc h (.Attribute o attr p) v QL:=fun hb hj =>
 as_attr (O hb hj _ fun h1 i1=>set_field I ((hj.trans i1).inst hi) hs hpo ht hh (H _ (hj.trans i1).upd) hz)
theorem kx_asg {t e:Expr} {p':Pos} {v:V} (E:Pu C n F loc h e v) (H:KA C n F loc h t v fun l2 h2=>KX C n F l2 h2 rest QF)
 (hs:autoParam (swapsWith e (some t) p'.line F.env=pure false) aR) (hw:autoParam (swappedStores [t] e F.env=pure none) aR) (he:autoParam ((assignEach [t] F.env).map (·.2)=[assign t F.env]) aR):KX C n F loc h (.Assign [t] e p'::rest) QF:=fun hb hi =>
 exs_cons (ex_assign (E hb hi _ fun h1 i1=>(H h1 (hi.trans i1)).mono fun l h2 q=>q h2 (.refl _)) hs hw he)
theorem kx_asg2 {t u e:Expr} {p':Pos} {v:V} (E:Pu C n F loc h e v) (H:KA C n F loc h t v fun l2 h2=>KA C n F l2 h2 u v fun l3 h3=>KX C n F l3 h3 rest QF)
 (hw:autoParam (swappedStores [t,u] e F.env=pure none) aR) (he:autoParam ((assignEach [t,u] F.env).map (·.2)=[assign t F.env,assign u F.env]) aR):KX C n F loc h (.Assign [t,u] e p'::rest) QF:=fun hb hi =>
 exs_cons (ex_assign2 (E hb hi _ fun h1 i1=>(H h1 (hi.trans i1)).mono fun l h2 q=>(q h2 (.refl _)).mono fun l h3 q=>q h3 (.refl _)) hw he)
theorem kx_asg3 {t u x e:Expr} {p':Pos} {v:V} (E:Pu C n F loc h e v) (H:KA C n F loc h t v fun l2 h2=>KA C n F l2 h2 u v fun l3 h3=>KA C n F l3 h3 x v fun l4 h4=>KX C n F l4 h4 rest QF)
 (hw:autoParam (swappedStores [t,u,x] e F.env=pure none) aR) (he:autoParam ((assignEach [t,u,x] F.env).map (·.2)=[assign t F.env,assign u F.env,assign x F.env]) aR):KX C n F loc h (.Assign [t,u,x] e p'::rest) QF:=fun hb hi =>
 exs_cons (ex_assign3 (E hb hi _ fun h1 i1=>(H h1 (hi.trans i1)).mono fun l h2 q=>(q h2 (.refl _)).mono fun l h3 q=>(q h3 (.refl _)).mono fun l h4 q=>q h4 (.refl _)) hw he)
theorem kx_lc {α:Type} {x:Str} {ps p':Pos} {fs:List Expr} {elt i u:Expr} {scope:Scope} {pos:Pos} {cl:List (Str × Nat)} {as:List α} {g:α→V} {S:Hs} (t:α→Bool) (e:α→V)
 (I:PI C n F loc h S i (as.map g)) (hz:as.length≤Qc)
 (T:∀a∈as,∀L cells,PTs C n ⟨compEnv scope F.env L cells,cl⟩ [(x,g a)] h fs (t a))
 (E:∀a∈as,t a=true→∀L cells,Pu C n ⟨compEnv scope F.env L cells,cl⟩ [(x,g a)] h elt (e a))
 (H:KA C n F loc h u (.lst ((as.filter t).map e)) fun l2 h2=>KX C n F l2 h2 rest QF)
 (hsw:autoParam (swapsWith (.ListComp elt [⟨.Name x ps,i,fs,0⟩] scope pos) (some u) p'.line F.env=pure true) aR)
 (hclo:autoParam (cloA F.cel scope.names []=some cl) aR) (hx:autoParam (∀L cells,(compEnv scope F.env L cells).kindOf x=some .local) aI) (hc:autoParam (∀k,celFrom k scope.names cl=cl) aI) (hs:autoParam (∀h,hsCells scope.names h=h) aI)
 (hk:autoParam (scope.kind= .function) aR) (hnm:autoParam (namesOk scope.names=true) aR) (hfs:autoParam (∀x,Q8 i F.env x=pure x) aI) (he:autoParam ((assignEach [u] F.env).map (·.2)=[assign u F.env]) aR):KX C n F loc h (.Assign [u] (.ListComp elt [⟨.Name x ps,i,fs,0⟩] scope pos) p'::rest) QF:=fun hb hi =>
 exs_cons (ex_assign_listcomp compOk_one hsw (lc_core t e I hz hx hc hs T E hi fun p h' hd _ _ hi' hs'=>As.fz hs' ((H _ (hi.trans (hi'.updd hd))).mono fun l h2 q=>q h2 (.refl _))) hclo hk hnm hfs he)
-- effects
noncomputable def KE (C:Cx) (n:Nat) (F:Fr) (loc:Loc) (h:Hs) (e:Expr) (Q:V→Hs→Prop):Prop:=∀hb,h.In hb→Ev C n F loc hb e Q
noncomputable def KC (C:Cx) (n:Nat) (h:Hs) (f:V) (args:List V) (kw:List (Str × V)) (Q:V→Hs→Prop):Prop:=∀hb,h.In hb→Cl C n hb f args kw Q
theorem ke_call {x:Str} {p' p:Pos} {es:List Expr} {ks:List Keyword} {ns:List Str} {f:V} {vs kv:List V} (N:Pu C n F loc h (.Name x p') f) (K:Kp C f) (A:PEs C n F loc h es vs) (B:PKs C n F loc h ks kv) (O:KC C n h f vs (ns.zip kv) Q) (hs:autoParam (noStar es=true) aR) (hn:autoParam (kwNames ks=some ns) aR):KE C n F loc h (.Call (.Name x p') es ks p) Q:=fun hb hi =>
 ev_call (N hb hi _ fun h1 i1=>⟨K,A h1 (hi.trans i1) _ fun h2 i2=>B h2 (hi.trans (i1.trans i2)) _ fun h3 i3=>O h3 (hi.trans (i1.trans (i2.trans i3)))⟩) hs hn
theorem ke_mcall {o:Expr} {name:Str} {p' p:Pos} {es:List Expr} {ks:List Keyword} {ns:List Str} {a f:V} {first vs kv:List V} (N:Pu C n F loc h o a) (M:PM C n h a name f first) (A:PEs C n F loc h es vs) (B:PKs C n F loc h ks kv) (O:KC C n h f (first++vs) (ns.zip kv) Q)
 (hs:autoParam (noStar es=true) aR) (hn:autoParam (kwNames ks=some ns) aR) (hb:autoParam (attributeBase o name F.env (eval o F.env)=eval o F.env) aR)
 (hf:autoParam (methodCallForm (es.length+ks.length) (backTo p (starEach es F.env)) (backToKw p (keywordEach ks F.env))=true) aR) (hl:autoParam ((p'.endLine==p.line)=true) aR):KE C n F loc h (.Call (.Attribute o name p') es ks p) Q:=fun hh hi =>
 ev_mcall (N hh hi _ fun h1 i1=>M.2 h1 (hi.trans i1) _ ⟨M.1,A h1 (hi.trans i1) _ fun h2 i2=>B h2 (hi.trans (i1.trans i2)) _ fun h3 i3=>O h3 (hi.trans (i1.trans (i2.trans i3)))⟩) hs hn hb hf hl
theorem kx_expr {e:Expr} {p:Pos} (H:KE C n F loc h e fun v h1=>KX C n F loc h1 rest QF) (hi:autoParam (interactive F.env=false) aR) (hs:autoParam (swapsWith e none p.line F.env=pure false) aR):KX C n F loc h (.Expr e p::rest) QF:=fun hb hh=>exs_cons (ex_expr ((H hb hh).mono fun v h1 q=>q h1 (.refl _)) hi hs)
theorem kx_asgE {t e:Expr} {p':Pos} (E:KE C n F loc h e fun v h1=>KA C n F loc h1 t v fun l2 h2=>KX C n F l2 h2 rest QF)
 (hs:autoParam (swapsWith e (some t) p'.line F.env=pure false) aR) (hw:autoParam (swappedStores [t] e F.env=pure none) aR) (he:autoParam ((assignEach [t] F.env).map (·.2)=[assign t F.env]) aR):KX C n F loc h (.Assign [t] e p'::rest) QF:=fun hb hi =>
 exs_cons (ex_assign ((E hb hi).mono fun v h1 q=>(q h1 (.refl _)).mono fun l h2 q=>q h2 (.refl _)) hs hw he)
theorem kx_retE {e:Expr} {p:Pos} (E:KE C n F loc h e fun v h1=>QF (.ret v) loc h1):KX C n F loc h (.Return (some e) p::rest) QF:=fun hb hi=>exs_cons (ex_return (E hb hi))
-- new lists
theorem ke_list {es:List Expr} {p:Pos} {vs:List V} (A:PEs C n F loc h es vs) (q:∀p,h.σ p= .dead→h.nx≤p→∀h',((h.upd p (.list vs)).at (p+1)).In h'→Q (.ref p) h') (hz:autoParam (vs.length≤Qc) aS):KE C n F loc h (.List es p) Q:=fun hb hi =>
 ev_list (Evs.okQ (A hb hi _ fun h1 i1 ok=>⟨hz,q h1.nx ((hi.trans i1).dead (ok _ (Qt _))) (hi.trans i1).nx _ ⟨Qt _,fun j=>by
  show AO.le (if j=h1.nx then _ else h1.σ j) (if j=h1.nx then _ else h.σ j)
  by_cases hj:j=h1.nx
  ·rw[if_pos hj,if_pos hj];exact AO.le_refl _
  ·rw[if_neg hj,if_neg hj];exact(hi.trans i1).le j⟩⟩))
theorem kc_append {i:Nat} {xs:List V} {v:V} (hv:h.σ i= .list xs) (hz:xs.length≤Qc) (q:∀h',(h.upd i (.list (xs++[v]))).In h'→Q .none h'):KC C n h (.blt "list.append") [.ref i,v] [] Q:=fun hb hi=>cl_append (hi.list hv) hz (q _ hi.upd)
theorem pm_append {v:V} {xs:List V} (hv:IsLst h v xs):PM C n h v "append" (.blt "list.append") [v]:=⟨kp_blt,fun hb hi Q q=>mth_append (hi.lst hv) q⟩
theorem pg_field {K:W.Frag} {i:Nat} {cl:Addr} {fs:List (Str × V)} {name:Str} {v:V} (I:InC C K) (hi:h.σ i= .inst fs) (hv:fs.lookup name=some v) (hb:∀id,v≠ .blt id) {attr:Option Value}
 (hg:autoParam (W.plainGet K cl name=true) aR) (hh:autoParam (W.hasDictIn K cl=true) aR) (ha:autoParam (W.findIn K (.ref cl) name=some attr) aR) (hn:autoParam (W.noGet K attr=true) aR):PG C n h (.obj i cl) name v:=fun hh' hj Q q=>get_field I (hj.inst hi) hv hb hg hh ha hn (q _ (.refl _))
theorem pm_own {K:W.Frag} {i:Nat} {cl f:Addr} {fs:List (Str × V)} {name:Str} (I:InC C K) (kp:Kp C (.top f)) (hi:h.σ i= .inst fs) (hv:fs.lookup name=none) (hg:autoParam (W.plainGet K cl name=true) aR) (hf:autoParam (W.findIn K (.ref cl) name=some (some (.ref f))) aR) (ht:autoParam (W.isFn K (.ref f)=true) aR):PM C n h (.obj i cl) name (.top f) [.obj i cl] :=
 ⟨kp,fun hb hj Q q=>mth_own I (hj.inst hi) hv hg hf ht q⟩
-- functions of the top
set_option tactic.hygienic true in
theorem bindAll_up {names:List (Str × NameKind)} {cel:List (Str × Nat)}:∀{ab:List (Str × V)} {loc loc':Loc} {h hb h1:Hs},bindAll names cel ab loc h=some (loc',h1)→h.In hb→∃h2,bindAll names cel ab loc hb=some (loc',h2)∧h1.In h2
 |[],loc,loc',h,hb,h1,e,i=>by cases e;exact⟨hb,rfl,i⟩
 |(x,v)::r,loc,loc',h,hb,h1,e,i=>by
  unfold bindAll at e ⊢
  split at e
  ·exact bindAll_up e i
  · rename_i j z1 z2
    split at e
    · rename_i c z3
      rw[i.cell z3]
      exact bindAll_up e i.upd
    ·cases e
  ·cases e
theorem hsCells_up:∀(names:List (Str × NameKind)) {h hb:Hs},h.In hb→h.nx=hb.nx→(hsCells names h).In (hsCells names hb)
 |[],h,hb,i,e=>i
 |(_,k)::r,h,hb,i,e=>by
  unfold hsCells
  split
  ·exact hsCells_up r (i.newb e) (by show h.nx+1=hb.nx+1;omega)
  ·exact hsCells_up r i e
theorem pf_fn {f:Addr} {fd:FuncData} {body:List Stmt} {args:List V} {kw ab:List (Str × V)} {loc:Loc} {v:V} (K:FnOk C f fd body) (hb:Binds C fd args kw ab)
 (H:∀hb,h.In hb→hb.Ok→∀L cells,KX C n ⟨envFn f fd L cells,[]⟩ loc hb body fun fl _ h'=>fl= .ret v∧hb.In h')
 (hcel:autoParam (∀k,celFrom k fd.scope.names []=[]) aI) (hent:autoParam (∀hb,bindAll fd.scope.names [] ab [] (hsCells fd.scope.names hb)=some (loc,hb)) aI):PF C (n+1) h (.top f) args kw v:=fun h0 hi Q q =>
 Cl.ok fun ok=>cl_fn K hb (by rw[hcel];exact hent h0) fun L cells=>by
  rw[hcel]
  exact(H h0 hi ok L cells h0 (.refl _)).mono fun fl l h' ⟨e,i⟩=>by subst e;exact q h' i
theorem kc_fn {f:Addr} {fd:FuncData} {body:List Stmt} {args:List V} {kw ab:List (Str × V)} {loc:Loc} {h1:Nat→Hs} (K:FnOk C f fd body) (hb:Binds C fd args kw ab)
 (hent:∀p,bindAll fd.scope.names (celFrom p fd.scope.names []) ab [] (hsCells fd.scope.names (h.at p))=some (loc,h1 p))
 (H:∀p,h.nx≤p→h.σ p= .dead→∀L cells,KX C n ⟨envFn f fd L cells,celFrom p fd.scope.names []⟩ loc (h1 p) body (RetQ Q)):KC C (n+1) h (.top f) args kw Q:=fun h0 hi =>
 Cl.ok fun ok=>by
  refine x_EA (bindAll_up (hent h0.nx) (hsCells_up fd.scope.names (h:=h.at h0.nx) (hb:=h0) ⟨Qt _,hi.le⟩ rfl)) fun h2 e2 i2=> ?_
  exact cl_fn K hb e2 fun L cells=>H h0.nx hi.nx (hi.dead (ok _ (Qt _))) L cells h2 i2
end
section
theorem Pu.eq {e:Expr} {u v:V} (H:Pu C n F loc h e u) (q:u=v):Pu C n F loc h e v:=q▸H
theorem PuB.eq {e:Expr} {u v:Bool} (H:PuB C n F loc h e u) (q:u=v):PuB C n F loc h e v:=q▸H
theorem PF.eq {f:V} {args:List V} {kw:List (Str × V)} {u v:V} (H:PF C n h f args kw u) (q:u=v):PF C n h f args kw v:=q▸H
theorem PF.less {m:Nat} {f:V} {args:List V} {kw:List (Str × V)} {u:V} (H:PF C m h f args kw u) (q:m≤n):PF C n h f args kw u:=fun hb hi Q q'=>(H hb hi Q q').less q
theorem KC.less {m:Nat} {f:V} {args:List V} {kw:List (Str × V)} {Q:V→Hs→Prop} (H:KC C m h f args kw Q) (q:m≤n):KC C n h f args kw Q:=fun hb hi=>(H hb hi).less q
theorem p2_ins {v:V} {k:Key} {ks:List Key} (hv:IsSet h v ks):P2 C n (QQ .In) h k.v v (.bool (decide (k∈ks))):=fun hb hi Q q=>set_in (hi.fset hv) (q _ (.refl _))
theorem p2_inD {v:V} {k:Key} {kvs:List (Key × V)} (S:SysIn C) (hv:IsDct h v kvs):P2 C n (QQ .In) h k.v v (.bool (kget kvs k).isSome):=fun hb hi Q q=>dct_in (S:=S) (hi.dct hv) (q _ (.refl _))
theorem Rep.freezeO {i:Nat} {a:Addr} {o:Obj} (R:Rep C w h) (hi:w.ρ[i]? =some a) (ho:w.s.heap.get? a=some o) (hd:h.σ i≠ .dead):∃g',Ext C [] w ⟨g',w.ρ,w.s⟩∧Rep C ⟨g',w.ρ,w.s⟩ (h.upd i .dead)∧g' a=some o∧Sub w.g g':=by
 have hg:w.g a=none:=R.off i a hi hd
 have hsub:=gset_sub (o:=o) hg
 have ht:a∉C.tabs:=fun z=>(R.offtab a z).2 (Qa hi)
 refine⟨gset w.g a o,⟨hsub,fun b y e=> ?_,Ql _,fun _ z=> .inl z,fun _ _ e _ _ _=>e,fun _ o e=>⟨o,e⟩⟩,⟨fun b y e=> ?_,R.len,R.nd,fun j b h1 h2=> ?_,fun j hj=> ?_,fun j b h1=> ?_,R.new,R.os,R.bare,fun b y e h2=>hsub _ _ (R.top b y e h2),fun b hb=>let⟨y,e,z⟩:=R.tab b hb;⟨y,e,z.mono hsub⟩,fun b hb=>⟨?_,(R.offtab b hb).2⟩⟩,gset_self,hsub⟩
 · have e:gset w.g a o b=some y:=e
   unfold gset at e
   split at e
   ·rename_i q;rw[q];exact .inr (.inr (Qa hi))
   ·exact .inl e
 · have e:gset w.g a o b=some y:=e
   unfold gset at e
   split at e
   ·rename_i q;cases e;rw[q];exact ho
   ·exact R.keep b y e
 · have h2:(if j=i then AO.dead else h.σ j)≠ .dead:=h2
   have hji:j≠i:=fun z=>by rw[if_pos z] at h2;exact h2 rfl
   rw[if_neg hji] at h2
   show gset w.g a o b=none
   unfold gset
   rw[if_neg (fun q:b=a=>hji (nodup_inj R.nd h1 (q▸hi)))];exact R.off j b h1 h2
 · show(if j=i then AO.dead else h.σ j)= .dead
   by_cases hji:j=i
   ·rw[if_pos hji]
   ·rw[if_neg hji];exact R.dead j hj
 · refine x_EA (R.obj j b h1) fun y h4 h5=> ?_
   refine⟨y,h4, ?_⟩
   show ObjA _ _ _ y (if j=i then AO.dead else h.σ j)
   by_cases hji:j=i
   ·rw[if_pos hji];trivial
   ·rw[if_neg hji];exact h5.mono hsub (Ql _)
 · show gset w.g a o b=none
   unfold gset
   rw[if_neg (fun q:b=a=>ht (q▸hb))];exact(R.offtab b hb).1
theorem Rep.freezeS {i:Nat} {ks:List Key} {x:Value} (R:Rep C w h) (hs:h.σ i= .set ks) (c:Conc C w.g w.ρ (.ref i) x):∃g',Ext C [] w ⟨g',w.ρ,w.s⟩∧Rep C ⟨g',w.ρ,w.s⟩ (h.upd i .dead)∧Conc C g' w.ρ (.fset ks) x:=by
 refine c.eRef fun a hi=> ?_
 ·
  refine x_EA (R.obj i a hi) fun o ho hA=> ?_
  rw[hs] at hA
  refine x_EAAA (R.freezeO hi ho (by rw[hs];simp)) fun g' e R' hg hsub=> ?_
  exact⟨g',e,R', .fset hg hA⟩
theorem Rep.freezeD {i:Nat} {kvs:List (Key × V)} {x:Value} (R:Rep C w h) (hs:h.σ i= .dict kvs) (c:Conc C w.g w.ρ (.ref i) x):∃g',Ext C [] w ⟨g',w.ρ,w.s⟩∧Rep C ⟨g',w.ρ,w.s⟩ (h.upd i .dead)∧Conc C g' w.ρ (.fdict kvs) x:=by
 refine c.eRef fun a hi=> ?_
 ·
  refine x_EA (R.obj i a hi) fun o ho hA=> ?_
  rw[hs] at hA
  refine x_EAA hA fun kvs' h1 h2 h3=> ?_
  refine x_EAAA (R.freezeO hi ho (by rw[hs];simp)) fun g' e R' hg hsub=> ?_
  exact⟨g',e,R', .fdict hg h1 (R.new a (Qa hi)) h2 (h3.mono hsub (Ql _))⟩
theorem Cl.fzS {f:V} {args:List V} {kw:List (Str × V)} (H:Cl C n h f args kw fun v h'=>∃i ks,v= .ref i∧h'.σ i= .set ks∧Q (.fset ks) (h'.upd i .dead)):Cl C n h f args kw Q :=
 ⟨fun A w Q' E fx xs ks a0 R c1 c2 hk c3 c=>H.run A w Q' E fx xs ks a0 R c1 c2 hk c3 fun r v h' w' ⟨i,xs,hv,hs,q⟩ e' R' cx=>by
  subst hv
  refine x_EAA (R'.freezeS hs cx) fun g' e2 R2 c2=> ?_
  exact c r _ _ ⟨g',w'.ρ,w'.s⟩ q (e'.trans e2) R2 c2⟩
theorem Ev.fzD {e:Expr} (H:Ev C n F loc h e fun v h'=>∃i xs,v= .ref i∧h'.σ i= .dict xs∧Q (.fdict xs) (h'.upd i .dead)):Ev C n F loc h e Q :=
 ⟨fun A w Q' E a R f c=>H.run A w Q' E a R f fun x v h' w' ⟨i,xs,hv,hs,q⟩ e' R' cx=>by
  subst hv
  refine x_EAA (R'.freezeD hs cx) fun g' e2 R2 c2=> ?_
  exact c x _ _ ⟨g',w'.ρ,w'.s⟩ q (e'.trans e2) R2 c2⟩
theorem pf_set {v:V} {xs:List V} {keys:List Key} (hv:IsLst h v xs) (hk:xs=keys.map Key.v) (hz:xs.length<scanBound):PF C n h (.ty "set") [v] [] (.fset (keys.foldl sadd [])):=fun hb hi Q q=>Cl.ok fun ok=>Cl.fzS (cl_set_list (hi.lst hv) hk hz ⟨_,_,rfl,if_pos rfl,q _ (((Hs.In.refl hb).new ok).updd (ok _ (Qt _)))⟩)
theorem ke_dict0 {p:Pos} (q:∀p,h.σ p= .dead→h.nx≤p→∀h',((h.upd p (.dict [])).at (p+1)).In h'→Q (.ref p) h'):KE C n F loc h (.Dict [] [] p) Q:=fun hb hi=>Ev.ok fun ok=>ev_dict0 (q hb.nx (hi.dead (ok _ (Qt _))) hi.nx _ ⟨Qt _,fun j=>by
 show AO.le (if j=hb.nx then _ else hb.σ j) (if j=hb.nx then _ else h.σ j)
 by_cases hj:j=hb.nx
 ·rw[if_pos hj,if_pos hj];exact AO.le_refl _
 ·rw[if_neg hj,if_neg hj];exact hi.le j⟩)
end
section
theorem pick_map {α β:Type} (f:α→β) (xs:List α) (lo hi st:Option Int):pick (xs.map f) lo hi st=(pick xs lo hi st).map f:=by
 unfold pick
 rw[Qo,List.map_filterMap]
 congr 1
 funext i
 simp
theorem p2_addT {α:Type} {g:α→V} {u v:V} {xs ys:List α} (hu:IsLst h u (xs.map g)) (hv:IsLst h v (ys.map g)) (hz:xs.length+ys.length≤Qc):P2 C n (binaryOp .Add) h u v (.lst ((xs++ys).map g)):=by
 rw[Wt];exact p2_addl hu hv (by simpa using hz)
theorem ps_listT {α:Type} {g:α→V} {v:V} {xs:List α} {lo hi st:Option Int} (hv:IsLst h v (xs.map g)) (hz:xs.length≤Qc) (h0:st≠some 0):PS C n h v (partV lo) (partV hi) (partV st) (.lst ((pick xs lo hi st).map g)):=by
 rw[←pick_map];exact ps_list hv (by simpa using hz) h0
theorem clipAt_nat (n k:Nat):clipAt n (k:Int)=min k n:=by
 unfold clipAt
 rw[if_neg (Int.not_lt.mpr (Int.natCast_nonneg _))]
 rcases Nat.le_total k n with z|z
 ·rw[Nat.min_eq_left z,Int.min_eq_left (Int.ofNat_le.mpr z),Int.max_eq_right (Int.natCast_nonneg _)];rfl
 ·rw[Nat.min_eq_right z,Int.min_eq_right (Int.ofNat_le.mpr z),Int.max_eq_right (Int.natCast_nonneg _)];rfl
theorem pick_from {α:Type} (xs:List α) (k:Nat):pick xs (some (k:Int)) none none=xs.drop k:=by
 rw[pick_plain]
 simp only[Option.elim,clipAt_nat]
 rw[List.take_of_length_le (by simp)]
 rcases Nat.le_total k xs.length with z|z
 ·rw[Nat.min_eq_left z]
 ·rw[Nat.min_eq_right z,List.drop_eq_nil_of_le z,List.drop_eq_nil_of_le (Qt _)]
theorem pick_seg {α:Type} (xs:List α) (i k:Nat):pick xs (some (i:Int)) (some (k:Int)) none=(xs.take k).drop i:=by
 rw[pick_plain]
 simp only[Option.elim,clipAt_nat]
 rw[List.drop_take]
 rcases Nat.le_total i xs.length with z|z
 · rw[Nat.min_eq_left z]
   rcases Nat.le_total k xs.length with y|y
   ·rw[Nat.min_eq_left y]
   ·rw[Nat.min_eq_right y,List.take_of_length_le (by simp),List.take_of_length_le (by simp;omega)]
 ·rw[Nat.min_eq_right z,List.drop_eq_nil_of_le (Qt _),List.drop_eq_nil_of_le z];simp
-- what is one thing
noncomputable def PX2 (C:Cx) (n:Nat) (f:Value→Value→Sem Value) (h:Hs) (a b v:V):Prop:=∀hb,h.In hb→∀Q:V→Hs→Prop,Q v hb→Op2 C n f hb a b Q
theorem pu_lambda {params:Arguments} {body:Expr} {scope:Scope} {pos:Pos} {c P:Addr} {cl:List (Str × Nat)} {mg mb:Str→Option Value} (T:Tp C mg mb) (B:BmOk C mg) (K:CdOk C c P (F.env.qual ++ "<lambda>")) (hcode:F.env.code= .ref c)
 (hclo:autoParam (cloA F.cel scope.names []=some cl) aR) (hdef:autoParam (defaultsOf params F.env=([],[])) aR):Pu C n F loc h (.Lambda params body scope pos) (.lam params body scope (F.env.qual ++ "<lambda>") cl):=fun hb hi Q q=>ev_lambda T B K hcode (q _ (.refl _)) hclo hdef
-- dict comprehensions
theorem kput_new {β:Type} {kvs:List (Key × β)} {k:Key} {v:β} (hn:k∉kvs.map (·.1)):kput kvs k v=kvs++[(k,v)]:=by
 unfold kput
 rw[if_neg]
 rw[List.any_eq_true]
 rintro⟨kv,h1,h2⟩
 exact hn (QO.mpr ⟨kv,h1,of_decide_eq_true h2⟩)
theorem nodup_take_snoc {α:Type} {as:List α} {t:α→Bool} {kf:α→Key} (hn:((as.filter t).map kf).Nodup) {k:Nat} {a:α} (ha:as[k]? =some a) (ht:t a=true):kf a∉((as.take k).filter t).map kf:=by
 have e:as=as.take k++a::as.drop (k+1):=by
  obtain⟨h1,h2⟩:=Qp.mp ha
  rw[←h2,←List.drop_eq_getElem_cons h1,List.take_append_drop]
 rw[e,List.filter_append,Wt,List.filter_cons_of_pos ht,Q3] at hn
 intro z
 exact(List.nodup_append.mp hn).2.2 _ z _ (List.mem_cons_self) rfl
theorem Hs.In.fixD {p:Nat} {kvs:List (Key × V)} (hD:IsDct h (.ref p) kvs):∃h',h.Le h'∧h'.σ p= .dict kvs∧h'.nx=h.nx∧∀j,j≠p→h'.σ j=h.σ j :=
 ⟨⟨fun j=>if j=p then .dict kvs else h.σ j,h.nx⟩,⟨rfl,fun j=>by
  show AO.le (h.σ j) (if j=p then _ else _)
  by_cases hj:j=p
  · rw[if_pos hj,hj]
    rcases hD with e|⟨ep,e⟩
    ·rw[e];exact AO.le_refl _
    ·rw[e];rfl
  ·rw[if_neg hj];exact AO.le_refl _⟩,if_pos rfl,rfl,fun j hj=>if_neg hj⟩
theorem dc_turn {α:Type} {fs:List Expr} {ke ve:Expr} {as:List α} {a:α} {F':Fr} {l:Loc} {hk h1 h':Hs} {k:Nat} {t:α→Bool} {kf:α→Key} {vf:α→V} {Q:Loc→Hs→Prop}
 (ha:as[k]? =some a) (hz:as.length≤Qc) (hnd:((as.filter t).map kf).Nodup) (hp1:h1.σ h1.nx= .dead) (hin:hk.In h') (z2:h1.In h')
 (T:PTs C n F' l hk fs (t a)) (E:t a=true→Pu C n F' l hk ke (kf a).v∧Pu C n F' l hk ve (vf a))
 (z1:IsDct h' (.ref h1.nx) (((as.take k).filter t).map fun a=>(kf a,vf a)))
 (q:∀h2,IsDct h2 (.ref h1.nx) (((as.take (k+1)).filter t).map fun a=>(kf a,vf a))→h1.In h2→h'.nx≤h2.nx→(∀i v,i≠h1.nx→h'.σ i= .cell v→h2.σ i= .cell v)→Q l h2) :
 TestsW C n F' l (fun b h2=>if b=true then EmD C n F' h1.nx ke ve l h2 Q else Q l h2) fs h':=by
 have hmem:a∈as:=Qa ha
 have hlt:=(Qp.mp ha).1
 have htk:((as.take (k+1)).filter t)=((as.take k).filter t)++(if t a then[a] else[]):=by
  rw[List.take_add_one,List.filter_append,ha]
  cases hf:t a<;>simp[hf]
 have hlen:(((as.take k).filter t).map fun a=>(kf a,vf a)).length≤Qc:=by
  rw[Qo]
  exact Qe (QX _ _) (by rw[List.length_take];omega)
 refine tests_pu fs (t a) _ _ T hin fun h2 i2=> ?_
 have d2:IsDct h2 (.ref h1.nx) _:=i2.dct z1
 cases hta:t a with
 |false =>
  simp only[Qm,if_false]
  refine q h2 ?_ (z2.trans i2) i2.nx fun i v _ e=>i2.cell e
  rw[htk,hta];simpa using d2
 |true =>
  simp only[if_true]
  refine(E hta).1 h2 (hin.trans i2) _ fun h3 i3=>Ev.weak ((E hta).2 h3 (hin.trans (i2.trans i3)) _ fun h4 i4=> ?_)
  have d4:=i4.dct (i3.dct d2)
  refine x_EAAA (Hs.In.fixD d4) fun h5 le5 e5 n5 o5=> ?_
  have i25:h1.In (h5.upd h1.nx (.dict (kput (((as.take k).filter t).map fun a=>(kf a,vf a)) (kf a) (vf a)))):=by
   refine Hs.In.updd ?_ hp1
   refine⟨by rw[n5];exact(z2.trans (i2.trans (i3.trans i4))).nx,fun j=> ?_⟩
   by_cases hj:j=h1.nx
   ·rw[hj,hp1];exact AO.le_any _
   ·rw[o5 j hj];exact(z2.trans (i2.trans (i3.trans i4))).le j
  refine⟨h5,le5,kf a,_,rfl,e5,hlen,q _ ?_ i25 ?_ fun i v hi e=> ?_⟩
  · refine .inl ?_
    show(if h1.nx=h1.nx then _ else _)=_
    rw[if_pos rfl,kput_new (by simpa using nodup_take_snoc hnd ha hta),htk,hta]
    simp
  · show h'.nx≤h5.nx
    rw[n5];exact(i2.trans (i3.trans i4)).nx
  · show(if i=h1.nx then _ else h5.σ i)=_
    rw[if_neg hi,o5 i hi];exact i4.cell (i3.cell (i2.cell e))
theorem dc_core {α:Type} {x:Str} {ps:Pos} {fs:List Expr} {ke ve i:Expr} {scope:Scope} {cl:List (Str × Nat)} {as:List α} {g:α→V} {S:Hs} (t:α→Bool) (kf:α→Key) (vf:α→V)
 (I:PI C n F loc h S i (as.map g)) (hz:as.length≤Qc) (hnd:((as.filter t).map kf).Nodup)
 (hx:∀L cells,(compEnv scope F.env L cells).kindOf x=some .local) (hc:∀k,celFrom k scope.names cl=cl) (hs:∀h,hsCells scope.names h=h)
 (T:∀a∈as,∀L cells,PTs C n ⟨compEnv scope F.env L cells,cl⟩ [(x,g a)] h fs (t a))
 (E:∀a∈as,t a=true→∀L cells,Pu C n ⟨compEnv scope F.env L cells,cl⟩ [(x,g a)] h ke (kf a).v∧Pu C n ⟨compEnv scope F.env L cells,cl⟩ [(x,g a)] h ve (vf a))
 {hb:Hs} (hi:h.In hb) {K:Nat→Hs→Prop} (q:∀p h',hb.σ p= .dead→hb.nx≤p→p<h'.nx→hb.In h'→IsDct h' (.ref p) ((as.filter t).map fun a=>(kf a,vf a))→K p h') :
 Ev C n F loc hb i fun src h1=>Its C n h1 (·= .Name x ps) src fun h2 ok items=>∀L cells,LpW ok (TurnW C n ⟨compEnv scope F.env L cells,celFrom (h2.nx+1) scope.names cl⟩ (.Name x ps) fs (EmD C n ⟨compEnv scope F.env L cells,celFrom (h2.nx+1) scope.names cl⟩ h2.nx ke ve)) (fun _ h'=>K h2.nx h') items [] (hsCells scope.names (h2.new (.dict []))):=by
 refine I.2 hb hi _ _ fun h1 i1 ok1 ok hok L cells=> ?_
 rw[hc,hs]
 have hp1:h1.σ h1.nx= .dead:=ok1 _ (Qt _)
 have hpb:hb.σ h1.nx= .dead:=i1.dead hp1
 refine lpw_inv (fun k l h'=>IsDct h' (.ref h1.nx) (((as.take k).filter t).map fun a=>(kf a,vf a))∧h1.In h'∧h1.nx<h'.nx∧(l=[]∨∃u,l=[(x,u)])) ?_ (turn_mono emD_mono) ?_ ?_ ⟨.inl (by simp[Hs.new]),(Hs.In.refl h1).new ok1,Qk _, .inl rfl⟩
 ·rintro k l h' ⟨_,z,_⟩;exact hok _ (I.1.trans (hi.trans (i1.trans z)))
 · rintro k v l h' hv ⟨z1,z2,z4,z3⟩
   rw[Qb] at hv
   refine x_EA (QW.mp hv) fun a ha z93=> ?_;subst z93
   have hu:upd x (g a) l=[(x,g a)]:=by rcases z3 with rfl|⟨u,rfl⟩<;>simp[upd]
   have hmem:a∈as:=Qa ha
   refine as_local (hx L cells) ?_
   rw[hu]
   exact dc_turn ha hz hnd hp1 (hi.trans (i1.trans z2)) z2 (T a hmem L cells) (fun e=>E a hmem e L cells) z1 fun h2 d2 i2 n2 _=>⟨d2,i2,Qy z4 n2, .inr ⟨_,rfl⟩⟩
 · rintro l h' ⟨z1,z2,z4,_⟩
   rw[Qo,List.take_length] at z1
   exact q h1.nx h' hpb i1.nx z4 (i1.trans z2) z1
theorem pu_dictcomp {α:Type} {x:Str} {ps:Pos} {fs:List Expr} {ke ve i:Expr} {scope:Scope} {pos:Pos} {cl:List (Str × Nat)} {as:List α} {g:α→V} {S:Hs} (t:α→Bool) (kf:α→Key) (vf:α→V)
 (I:PI C n F loc h S i (as.map g)) (hz:as.length≤Qc) (hnd:((as.filter t).map kf).Nodup)
 (T:∀a∈as,∀L cells,PTs C n ⟨compEnv scope F.env L cells,cl⟩ [(x,g a)] h fs (t a))
 (E:∀a∈as,t a=true→∀L cells,Pu C n ⟨compEnv scope F.env L cells,cl⟩ [(x,g a)] h ke (kf a).v∧Pu C n ⟨compEnv scope F.env L cells,cl⟩ [(x,g a)] h ve (vf a))
 (hclo:autoParam (cloA F.cel scope.names []=some cl) aR) (hx:autoParam (∀L cells,(compEnv scope F.env L cells).kindOf x=some .local) aI) (hc:autoParam (∀k,celFrom k scope.names cl=cl) aI) (hs:autoParam (∀h,hsCells scope.names h=h) aI)
 (hk:autoParam (scope.kind= .function) aR) (hnm:autoParam (namesOk scope.names=true) aR) (hfs:autoParam (∀x,Q8 i F.env x=pure x) aI):Pu C n F loc h (.DictComp ke ve [⟨.Name x ps,i,fs,0⟩] scope pos) (.fdict ((as.filter t).map fun a=>(kf a,vf a))):=fun hb hi Q q =>
 Ev.fzD (Ev.weak (ev_dictcomp compOk_dict (dc_core (K:=fun p h'=>∃h'',h'.Le h''∧∃i xs,V.ref p=V.ref i∧h''.σ i=AO.dict xs∧Q (V.fdict xs) (h''.upd i AO.dead)) t kf vf I hz hnd hx hc hs T E hi fun p h' hd hp hlt hi' hs'=>by
  refine x_EAAA (Hs.In.fixD hs') fun h5 le5 e5 n5 o5=> ?_
  have iq:hb.In (h5.upd p .dead):=⟨by show hb.nx≤h5.nx;rw[n5];exact hi'.nx,fun j=> ?_⟩
  ·exact⟨h5,le5,p,_,rfl,e5,q _ iq⟩
  show AO.le (if j=p then .dead else h5.σ j) _
  by_cases hj:j=p
  ·rw[if_pos hj,hj,hd];exact AO.le_any _
  ·rw[if_neg hj,o5 j hj];exact hi'.le j) hclo hk hnm hfs))
end
section
theorem filter_tt {α:Type} (as:List α):as.filter (fun _=>true)=as:=by simp
theorem pu_lcT {α β:Type} {x:Str} {ps:Pos} {fs:List Expr} {elt i:Expr} {scope:Scope} {pos:Pos} {cl:List (Str × Nat)} {as:List α} {g:α→V} {S:Hs} (t:α→Bool) (f:α→β) (g':β→V)
 (I:PI C n F loc h S i (as.map g)) (hz:as.length≤Qc)
 (T:∀a∈as,∀L cells,PTs C n ⟨compEnv scope F.env L cells,cl⟩ [(x,g a)] h fs (t a))
 (E:∀a∈as,t a=true→∀L cells,Pu C n ⟨compEnv scope F.env L cells,cl⟩ [(x,g a)] h elt (g' (f a)))
 (hclo:autoParam (cloA F.cel scope.names []=some cl) aR) (hx:autoParam (∀L cells,(compEnv scope F.env L cells).kindOf x=some .local) aI) (hc:autoParam (∀k,celFrom k scope.names cl=cl) aI) (hs:autoParam (∀h,hsCells scope.names h=h) aI)
 (hk:autoParam (scope.kind= .function) aR) (hnm:autoParam (namesOk scope.names=true) aR) (hfs:autoParam (∀x,Q8 i F.env x=pure x) aI):Pu C n F loc h (.ListComp elt [⟨.Name x ps,i,fs,0⟩] scope pos) (.lst (((as.filter t).map f).map g')) :=
 (pu_listcomp t (fun a=>g' (f a)) I hz T E hclo hx hc hs hk hnm hfs).eq (by rw[Q7];rfl)
theorem pu_lcT0 {α β:Type} {x:Str} {ps:Pos} {elt i:Expr} {scope:Scope} {pos:Pos} {cl:List (Str × Nat)} {as:List α} {g:α→V} {S:Hs} (f:α→β) (g':β→V)
 (I:PI C n F loc h S i (as.map g)) (hz:as.length≤Qc)
 (E:∀a∈as,∀L cells,Pu C n ⟨compEnv scope F.env L cells,cl⟩ [(x,g a)] h elt (g' (f a)))
 (hclo:autoParam (cloA F.cel scope.names []=some cl) aR) (hx:autoParam (∀L cells,(compEnv scope F.env L cells).kindOf x=some .local) aI) (hc:autoParam (∀k,celFrom k scope.names cl=cl) aI) (hs:autoParam (∀h,hsCells scope.names h=h) aI)
 (hk:autoParam (scope.kind= .function) aR) (hnm:autoParam (namesOk scope.names=true) aR) (hfs:autoParam (∀x,Q8 i F.env x=pure x) aI):Pu C n F loc h (.ListComp elt [⟨.Name x ps,i,[],0⟩] scope pos) (.lst ((as.map f).map g')) :=
 (pu_lcT (fun _=>true) f g' I hz (fun _ _ _ _=>pts_nil) (fun a ha _=>E a ha) hclo hx hc hs hk hnm hfs).eq (by rw[filter_tt])
theorem pu_ints {es:List Expr} {p:Pos} {l:List Int} (A:PEs C n F loc h es (l.map V.int)) (hz:l.length≤Qc:=by simp[sizeLine_eq]):Pu C n F loc h (.List es p) (.lst (l.map V.int)):=pu_list A (by simpa using hz)
theorem p2_ne_ints {a b:V} {xs ys:List Int} (ha:IsLst h a (xs.map V.int)) (hb:IsLst h b (ys.map V.int)):P2 C (n+1) (QQ .NotEq) h a b (.bool (!decide (xs=ys))):=by
 rw[←eqv_ints]
 exact p2_ned (dat_lst ha (dat_ints _)) (dat_lst hb (dat_ints _)) (dok_ints _) (dok_ints _)
theorem p2_in_ints {b:V} {x:Int} {ys:List Int} (hb:IsLst h b (ys.map V.int)):P2 C (n+1) (QQ .In) h (.int x) b (.bool (decide (x∈ys))):=by
 rw[←any_ints]
 exact p2_ind (.int x) (dat_lst hb (dat_ints _)) (dok_int x) (dok_ints _)
theorem p2_nin_ints {b:V} {x:Int} {ys:List Int} (hb:IsLst h b (ys.map V.int)):P2 C (n+1) (QQ .NotIn) h (.int x) b (.bool (!decide (x∈ys))):=by
 rw[←any_ints]
 exact p2_nind (.int x) (dat_lst hb (dat_ints _)) (dok_int x) (dok_ints _)
theorem p2_get_ints {v:V} {xs:List Int} {j:Nat} {k:Int} (hv:IsLst h v (xs.map V.int)) (hk:k=(j:Int)) (hj:j<xs.length) (hz:xs.length≤Qc):P2 C n getItem h v (.int k) (.int (xs.getD j 0)):=by
 subst hk
 exact p2_getlN hv (by simpa using hz) (by simp[Qh hj,QN])
theorem pf_lenT {α:Type} {g:α→V} {v:V} {xs:List α} (hv:IsLst h v (xs.map g)) (hz:xs.length≤Qc):PF C n h (.blt "len") [v] [] (.int xs.length):=(pf_len hv (by simpa using hz)).eq (by simp)
theorem p1_negi {a:Int}:P1 C n (unaryOp .USub) h (.int a) (.int (-a)):=fun hb hi Q q=>⟨fun A w Q' E x a0 R cx c=>by
 refine cx.eInt fun t=> ?_
 exact PyProof.Rows.neg_int (c _ _ hb (w.toks _) (q _ (.refl _)) .toks R.toks (.int _ _))⟩
theorem sizeOk {k:Nat} (h:k≤10000):k≤Qc:=by rw[sizeLine_eq];omega
theorem fmod_range (a:Int) {m:Int} (hm:0<m):0≤a.fmod m∧a.fmod m<m:=⟨Int.fmod_nonneg_of_pos a hm,Int.fmod_lt_of_pos a hm⟩
theorem KX.locs {sts:List Stmt} {l:Loc} (H:KX C n F l h sts QF) (x:LocSub l loc):KX C n F loc h sts QF:=fun hb hi=>Exs.pre2 (H hb hi) x (.refl _)
end
theorem Hs.σ_eq {h:Hs} {i j:Nat} {o:AO} (e:j=i):(h.upd i o).σ j=o:=if_pos e
theorem Hs.σ_ne {h:Hs} {i j:Nat} {o:AO} (e:j≠i):(h.upd i o).σ j=h.σ j:=if_neg e
theorem Hs.σ_at {h:Hs} {j m:Nat}:(h.at m).σ j=h.σ j:=rfl
theorem Hs.nx_at {h:Hs} {m:Nat}:(h.at m).nx=m:=rfl
theorem Hs.nx_upd {h:Hs} {i:Nat} {o:AO}:(h.upd i o).nx=h.nx:=rfl
theorem Hs.nx_new {h:Hs} {o:AO}:(h.new o).nx=h.nx+1:=rfl
theorem Hs.σ_neweq {h:Hs} {j:Nat} {o:AO} (e:j=h.nx):(h.new o).σ j=o:=if_pos e
theorem Hs.σ_newne {h:Hs} {j:Nat} {o:AO} (e:j≠h.nx):(h.new o).σ j=h.σ j:=if_neg e
theorem Hs.σ_none {j:Nat}:Hs.none.σ j= .dead:=rfl
theorem Hs.nx_none:Hs.none.nx=0:=rfl
section
theorem KA.up {t:Expr} {v:V} (H:KA C n F loc h t v QL) (x:h.In h'):KA C n F loc h' t v QL:=fun hb i=>H hb (x.trans i)
theorem kx_newL {es:List Expr} {t:Expr} {p p':Pos} {vs:List V} (A:PEs C n F loc h es vs) (H:∀q,h.σ q= .dead→h.nx≤q→KA C n F loc ((h.upd q (.list vs)).at (q+1)) t (.ref q) fun l2 h2=>KX C n F l2 h2 rest QF) (hz:autoParam (vs.length≤Qc) aS)
 (hs:autoParam (swapsWith (.List es p) (some t) p'.line F.env=pure false) aR) (hw:autoParam (swappedStores [t] (.List es p) F.env=pure none) aR) (he:autoParam ((assignEach [t] F.env).map (·.2)=[assign t F.env]) aR):KX C n F loc h (.Assign [t] (.List es p) p'::rest) QF :=
 kx_asgE (ke_list A (fun q hd hq h' hi=>(H q hd hq).up hi) hz) hs hw he
end
theorem LocSub.nil (l:Loc):LocSub [] l:=fun y u e=>by cases e
theorem LocSub.cons {x:Str} {v:V} {l r:Loc} (h:l.lookup x=some v) (k:LocSub r l):LocSub ((x,v)::r) l:=fun y u e=>by
 rw[List.lookup_cons] at e
 cases hb:y==x with
 |true=>rw[hb] at e;cases e;rw[eq_of_beq hb];exact h
 |false=>rw[hb] at e;exact k y u e
section
theorem pu_call0 {x:Str} {p' p:Pos} {es:List Expr} {f v:V} {vs:List V} (N:Pu C n F loc h (.Name x p') f) (K:Kp C f) (A:PEs C n F loc h es vs) (O:PF C n h f vs [] v) (hs:autoParam (noStar es=true) aR):Pu C n F loc h (.Call (.Name x p') es [] p) v:=pu_call N K A pks_nil (ns:=[]) O hs rfl
theorem ke_call0 {x:Str} {p' p:Pos} {es:List Expr} {f:V} {vs:List V} (N:Pu C n F loc h (.Name x p') f) (K:Kp C f) (A:PEs C n F loc h es vs) (O:KC C n h f vs [] Q) (hs:autoParam (noStar es=true) aR):KE C n F loc h (.Call (.Name x p') es [] p) Q:=ke_call N K A pks_nil (ns:=[]) O hs rfl
theorem pu_mcall0 {o:Expr} {name:Str} {p' p:Pos} {es:List Expr} {a f v:V} {first vs:List V} (N:Pu C n F loc h o a) (M:PM C n h a name f first) (A:PEs C n F loc h es vs) (O:PF C n h f (first++vs) [] v)
 (hs:autoParam (noStar es=true) aR) (hb:autoParam (attributeBase o name F.env (eval o F.env)=eval o F.env) aR)
 (hf:autoParam (methodCallForm (es.length+0) (backTo p (starEach es F.env)) (backToKw p (keywordEach [] F.env))=true) aR) (hl:autoParam ((p'.endLine==p.line)=true) aR):Pu C n F loc h (.Call (.Attribute o name p') es [] p) v:=pu_mcall N M A pks_nil (ns:=[]) O hs rfl hb hf hl
theorem ke_mcall0 {o:Expr} {name:Str} {p' p:Pos} {es:List Expr} {a f:V} {first vs:List V} (N:Pu C n F loc h o a) (M:PM C n h a name f first) (A:PEs C n F loc h es vs) (O:KC C n h f (first++vs) [] Q)
 (hs:autoParam (noStar es=true) aR) (hb:autoParam (attributeBase o name F.env (eval o F.env)=eval o F.env) aR)
 (hf:autoParam (methodCallForm (es.length+0) (backTo p (starEach es F.env)) (backToKw p (keywordEach [] F.env))=true) aR) (hl:autoParam ((p'.endLine==p.line)=true) aR):KE C n F loc h (.Call (.Attribute o name p') es [] p) Q:=ke_mcall N M A pks_nil (ns:=[]) O hs rfl hb hf hl
end
noncomputable abbrev vI (l:List Int):V:= .lst (l.map V.int)
theorem In.of {h h':Hs} (h1:h.nx≤h'.nx) (h2:∀j,AO.le (h'.σ j) (h.σ j)):h.In h':=⟨h1,h2⟩
noncomputable def Hs.rm (h:Hs) (l:List Nat):Hs:=⟨fun j=>if j∈l then .dead else h.σ j,h.nx⟩
noncomputable def intsV (l:List Nat):List V:=l.map fun(j:Nat)=>V.int (j:Int)
noncomputable def b2jOf (f:Key→Bool) (ks:List Key):List (Key × V):=((firsts ks).filter fun k=>k∉(firsts ks).filter f).map fun k=>(k, .lst (intsV (places ks k)))
noncomputable def SM (h:Hs) (f:Key→Bool) (ks:List Key) (i d s p:Nat) (fs:List (Str × V)):Hs:=((((h.upd i (.inst fs)).upd d (.dict (b2jOf f ks))).upd s (.set ((firsts ks).filter f))).upd p (.set [])).at (p+1)
theorem Hs.σ_rm0 {h:Hs} {j:Nat}:(h.rm []).σ j=h.σ j:=by simp[Hs.rm]
theorem Hs.σ_rm1 {h:Hs} {j a:Nat} (h1:j≠a):(h.rm [a]).σ j=h.σ j:=if_neg (by simp[h1])
theorem Hs.σ_rm2 {h:Hs} {j a b:Nat} (h1:j≠a) (h2:j≠b):(h.rm [a,b]).σ j=h.σ j:=if_neg (by simp[h1,h2])
theorem Hs.nx_rm {h:Hs} {l:List Nat}:(h.rm l).nx=h.nx:=rfl
noncomputable def S (l:List Nat):Str:=⟨l.toArray⟩
noncomputable abbrev sV (l:List Nat):V:= .str (S l)
theorem S_toList (l:List Nat):(S l).cps.toList=l:=rfl
theorem S_len (l:List Nat):(S l).length=l.length:=by simp[S,Str.length]
theorem S_inj {a b:List Nat}:S a=S b↔a=b:=⟨fun e=>by have:=congrArg (fun x:Str=>x.cps.toList) e;exact this,fun e=>by rw[e]⟩
theorem S_app (a b:List Nat):S a++S b=S (a++b):=by
 show(⟨a.toArray++b.toArray⟩:Str)=⟨(a++b).toArray⟩
 simp
section
theorem pu_strS {x:Str} {l:List Nat} {k:Nat} {p:Pos} (e:x=S l):Pu C n F loc h (.Constant (.str x) k p) (sV l):=e▸pu_str
theorem p2_eqS {a b:List Nat}:P2 C n (QQ .Eq) h (sV a) (sV b) (.bool (decide (a=b))):=fun hb hi Q q=>op2_pure (q _ (.refl _)) fun A w Q' E x y a0 R c1 c2 k=>by
 cases c1;cases c2
 refine P.eq_str ?_
 have:((S a).cps.toList==(S b).cps.toList)=decide (a=b):=by
  rw[S_toList,S_toList,Bool.eq_iff_iff];simp
 have k2:=k (.bool (decide (a=b))) w.s.toks (.bool _)
 rw[←this] at k2;exact k2
noncomputable def isIn (y x:List Nat):Bool:= !(Builtin.Str.occurrences (S x) (S y) 0 x.length 1).isEmpty
theorem p2_inS {y x:List Nat}:P2 C n (QQ .In) h (sV y) (sV x) (.bool (isIn y x)):=fun hb hi Q q=>op2_pure (q _ (.refl _)) fun A w Q' E x' y' a0 R c1 c2 k=>by
 cases c1;cases c2
 refine PyProof.Rows.in_str ?_
 rw[S_len]
 exact k _ w.s.toks (.bool _)
theorem pf_lenS {a:List Nat} (hz:a.length≤Qc):PF C n h (.blt "len") [sV a] [] (.int a.length):=fun hb hi Q q=>cl1 fun A w Q' E fx x a0 R cf cx c=>by
 refine eqE cf.toInv ?_;refine cx.eStr fun _=> ?_
 rw[sizeLine_eq] at hz
 refine P.len_str (by rw[S_len];omega) ?_
 have:=c (.int a.length (w.s.toks+1)) _ hb (w.toks (w.s.toks+1+1)) (q _ (.refl _)) .toks R.toks (.int _ _)
 rw[S_len];exact this
theorem fitsL {k:Int} {m:Nat} (hm:m≤16777216) (z:0≤k+m) (h:k<m): -(2^63:Int)≤k∧k<2^63:=⟨by omega,by omega⟩
theorem p2_getS {a:List Nat} {k:Int} {j c:Nat} (hz:a.length≤Qc) (hj:seqIndex? k a.length=some j) (hc:a[j]? =some c):P2 C n getItem h (sV a) (.int k) (sV [c]):=fun hb hi Q q=>op2_pure (q _ (.refl _)) fun A w Q' E x y a0 R c1 c2 kk=>by
 cases c1;cases c2
 have hk: -(2^63:Int)≤k∧k<2^63:=by
  rw[sizeLine_eq] at hz
  unfold seqIndex? at hj
  dsimp only at hj
  by_cases h0:k<0
  · rw[if_pos h0] at hj
    split at hj
    ·rename_i z;exact fitsL hz (of_decide_eq_true (Bool.and_eq_true_iff.mp z).1) (Int.lt_of_lt_of_le h0 (Int.natCast_nonneg _))
    ·cases hj
  · rw[if_neg h0] at hj
    split at hj
    ·rename_i z;have z:=Bool.and_eq_true_iff.mp z;exact fitsL hz (Int.add_nonneg (of_decide_eq_true z.1) (Int.natCast_nonneg _)) (of_decide_eq_true z.2)
    ·cases hj
 refine P.getItem_str (c:=c) (by simp;omega) ?_ ?_
 ·rw[S_len,hj];simpa [S] using hc
 ·exact kk _ _ (.str ⟨#[c]⟩ _)
theorem p2_getSN {a:List Nat} {j c:Nat} (hz:a.length≤Qc) (hc:a[j]? =some c):P2 C n getItem h (sV a) (.int (j:Int)) (sV [c]):=by
 refine p2_getS hz ?_ hc
 have:=(Qp.mp hc).1
 simp only[seqIndex?]
 rw[if_neg (show ¬((j:Int)<0) by omega)]
 simp;omega
theorem p2_getSI {a:List Nat} {k:Int} {c:Nat} (hz:a.length≤Qc) (h0:0≤k) (hc:a[k.toNat]? =some c):P2 C n getItem h (sV a) (.int k) (sV [c]):=by
 have:=p2_getSN (C:=C) (n:=n) (h:=h) hz hc
 rw[Int.toNat_of_nonneg h0] at this;exact this
theorem notPyU_S {a:List Nat}:NotPyU C h (sV a):=fun hb hi=>notPy_of F.slot_str_getitem.lookup fun w x R c=>by cases c;exact typeIs_str _ _ _
theorem strSlice_pick (a:List Nat) (lo hi:Option Int):(Builtin.Str.strSliceIndices lo hi 1 a.length).filterMap (a[·]?)=pick a lo hi none:=by
 unfold pick Builtin.Str.strSliceIndices
 congr 1
theorem ssi_lt (lo hi:Option Int) (m:Nat):∀i∈Builtin.Str.strSliceIndices lo hi 1 m,i<m:=fun i hi'=>by
 unfold Builtin.Str.strSliceIndices sliceRange at hi'
 simp only[gt_iff_lt,show(0:Int)<1 by decide,if_true,QO,List.mem_range] at hi'
 refine x_EA hi' fun k hk z94=> ?_;subst z94
 have key:∀L H:Int,0≤L→H≤m→k<(if L<H then(H-L+1-1) / 1 else 0).toNat→(L+1*(k:Int)).toNat<m:=fun L H h1 h2 h3=>by
  split at h3
  · rw[Int.ediv_one,Int.add_sub_cancel] at h3
    rw[Int.one_mul]
    exact(Int.toNat_lt (Int.add_nonneg h1 (Int.natCast_nonneg k))).mpr (Int.lt_of_lt_of_le (Int.add_lt_of_lt_sub_left (Int.lt_toNat.mp h3)) h2)
  ·exact absurd h3 (Q0 _)
 have lo0:∀x:Int,0≤max 0 x:=fun x=>Int.le_max_left 0 x
 have hi0:∀x:Int,max 0 (min x m)≤m:=fun x=>Int.max_le.mpr ⟨Int.natCast_nonneg m,Int.min_le_right _ _⟩
 cases lo<;>cases hi<;>refine key _ _ ?_ ?_ hk<;>first|exact Int.le_refl _|exact lo0 _|exact hi0 _
theorem fm_len {α:Type} (a:List α):∀l:List Nat,(∀i∈l,i<a.length)→(l.filterMap (a[·]?)).length=l.length
 |[],_=>rfl
 |i::l,H=>by
  have h1:=H i (by simp)
  rw[List.filterMap_cons,Qh h1]
  simp[fm_len a l fun j hj=>H j (by simp[hj])]
theorem pick_len_le {α:Type} (a:List α) (lo hi:Option Int):(pick a lo hi none).length≤a.length:=by
 rw[pick_plain,List.length_take,List.length_drop];exact Qe (Nat.min_le_right _ _) (Nat.sub_le _ _)
theorem pick_whole {α:Type} (a:List α) (lo hi:Option Int) (h:(pick a lo hi none).length=a.length):pick a lo hi none=a:=by
 rw[pick_plain] at h ⊢
 refine List.Sublist.eq_of_length ?_ h
 exact(List.take_sublist _ _).trans (List.drop_sublist _ _)
theorem ps_S {a:List Nat} {lo hi:Option Int} (hz:a.length≤Qc):PS C n h (sV a) (partV lo) (partV hi) (partV none) (sV (pick a lo hi none)):=fun hb hh Q q=>⟨fun A w Q' E x vl vu vst ad a0 R cx cl cu cst hs c=>by
 cases cx
 have part:∀{o:Option Int} {v:Value},Conc C w.g w.ρ (partV o) v→∃l:Option (Int × Tok),v=partValue l∧l.map (·.1)=o:=by
  intro o v cv
  cases o with
  |none=>cases cv;exact⟨none,rfl,rfl⟩
  |some i=>cases cv with|int _ t=>exact⟨some (i,t),rfl,rfl⟩
 refine x_EA (part cl) fun l z95 hl=> ?_;subst z95
 refine x_EA (part cu) fun u z96 hu=> ?_;subst z96
 refine x_EA (part cst) fun st z97 hst=> ?_;subst z97
 have hst0:st=none:=by cases st with|none=>rfl|some z=>cases hst
 subst hst0
 refine wpAny_getItem_str_slice (l:=l) (u:=u) (st:=none) ⟨_,hs,rfl,rfl⟩ rfl ?_
 have e:(slicePicked (S a) l u none).filterMap ((S a).cps[·]?)=pick a lo hi none:=by
  rw[←strSlice_pick,←hl,←hu]
  unfold slicePicked
  rw[S_len]
  simp[S]
 unfold sliceMade
 split
 · rename_i hc
   simp only[Bool.and_eq_true,beq_iff_eq] at hc
   have h2:=hc.2
   rw[S_len] at h2
   have h3:(slicePicked (S a) l u none).length=(pick a lo hi none).length:=by
    rw[←strSlice_pick,fm_len a _ (ssi_lt lo hi a.length),←hl,←hu]
    unfold slicePicked
    rw[S_len];rfl
   have h4:=pick_whole a lo hi (h3.symm.trans h2)
   refine c _ (sV (pick a lo hi none)) hb (w.toks w.s.toks) (q _ (.refl _)) .toks R.toks ?_
   rw[h4];exact .str _ _
 · refine⟨?_, ?_⟩
   · rw[e]
     show(S _).length≤_
     rw[S_len];exact Qe (pick_len_le a lo hi) hz
   ·rw[e];exact c _ _ _ (w.toks _) (q _ (.refl _)) .toks R.toks (.str _ _)⟩
end
section
variable {tg:Expr→Prop} {K:Hs→(Hs→Prop)→List V→Prop}
noncomputable def IsSq (_h:Hs) (v:V) (ks:List Key):Prop:=v= .lst (ks.map Key.v)
theorem IsSq.lst {v:V} {ks:List Key} (e:IsSq h v ks):IsLst h v (ks.map Key.v):=by subst e;rfl
theorem Hs.In.sq {v:V} {ks:List Key} (x:h.In h') (e:IsSq h v ks):IsSq h' v ks:=e
theorem ite_enumQ {x:Str} {p' p:Pos} {e:Expr} {mg mb:Str→Option Value} {v:V} {ks:List Key} (T:Tp C mg mb) (hx:x=("enumerate" : Str)) (hk:F.env.kindOf x=some .globalImplicit) (hm:mg x=none) (hv:mb x=some (.type "enumerate"))
 (htg:∀t,tg t→∃elts k p,t=Expr.Tuple elts k p) (hq:IsSq h v ks) (H:∀Q:V→Hs→Prop,Q v h→Ev C n F loc h e Q) (q:∀ok:Hs→Prop,(∀h',IsSq h' v ks→ok h')→K h ok (enumV 0 (ks.map Key.v)))
 (he:autoParam (starEach [e] F.env=[(false,eval e F.env)]) aR) (hd:autoParam ((x==("__debug__" : Str))=false) aD):ItE C n F loc h tg (.Call (.Name x p') [e] [] p) K :=
 ite_enum T hx hk hm hv htg (H _ ⟨_,hq.lst,q _ fun h' hq'=>hq'.lst⟩) he hd
theorem len_sq {v:V} {ks:List Key} (hv:IsSq h v ks) (hz:ks.length≤Qc) (q:Q (.int ks.length) h):Cl C n h (.blt "len") [v] [] Q:=by
 have:=len_list (C:=C) (n:=n) (Q:=Q) hv.lst (by simpa using hz) (by simpa using q)
 exact this
end
theorem ne_aa {n i j:Nat} (h:autoParam ((i==j)=false) aR):n+i≠n+j:=fun e=>by
 have:=Nat.add_left_cancel e
 rw[this] at h;simp at h
theorem ne_a0 {n i:Nat} (h:autoParam ((i==0)=false) aR):n+i≠n:=ne_aa (j:=0) h
theorem ne_0a {n i:Nat} (h:autoParam ((i==0)=false) aR):n≠n+i:=fun e=>ne_a0 h e.symm
theorem le_szL {α:Type} {l:List α} (h:Nat.ble l.length 10000=true):l.length≤PySem.sizeLine:=sizeOk (QV h)
section
variable {M:Model}
theorem raise_te {α:Type} {msg:String} {Q:α→Shared→Prop} (hh:A.handled=none)
 (h:∀h' tk e tk',Heap.MadeExcOf s.heap h' e (.type "TypeError") [.str (Qq msg) tk']→E (.ref e) {s with heap:=h',toks:=tk }) (hm:(Qq msg).length≤Qc) :
 wpAny M A (raiseErrorMade "TypeError" msg:Sem α) Q E s:=by
 unfold raiseErrorMade
 refine Qw (wpAny_mkStr (Qw ?_) hm)
 unfold newExc newTuple
 refine Qw (wpAny_newObj_type ?_)
 refine Qw (m:=firstArgMember _ _) (wpAny_of_eq (a:=Value.none) (by simp only[firstArgMember,typeError_no_first];rfl) ?_)
 rw[ownMembersOf_TypeError]
 refine wpAny_newObj_type ?_
 unfold raiseNew
 refine Qw (wpAny_handled ?_)
 rw[hh]
 first
  |refine wpAny_throw ?_
  |refine Qw (Qr (wpAny_throw ?_))
 refine h _ _ _ s.toks ⟨fun b o hb=>Qd _ (Qd _ hb),Heap.get?_none_of_le (by simp),s.heap.objs.size, ?_,fresh_none (Qt _), ?_⟩
 ·exact Qu _ rfl
 ·exact Qd _ (Qu _ rfl)
end
section
variable {w:World}
noncomputable def inWords:String := "'in <string>' requires string as left operand, not int"
theorem in_str_int {x:Str} {t u:Tok} {i:Int} {Q:Value→Shared→Prop} (hh:A.handled=none)
 (h:∀h' tk e tk',Heap.MadeExcOf s.heap h' e (.type "TypeError") [.str (Qq inWords) tk']→E (.ref e) {s with heap:=h',toks:=tk }) :
 wpAny (model prog w) A (QQ .In (.int i u) (.str x t)) Q E s:=by
 refine In_slot (typeIs_str s x t) slot_str_contains (Wu slot_str_contains (typeIs_str s x t) entry_str_contains ?_ (args_str_contains _ _))
 show wpAny _ _ (do rule "str.__contains__.not-a-str";raiseErrorMade "TypeError" s!"'in <string>' requires string as left operand, not {← typeNameOf (.int i u)}") _ _ s
 refine Qw (wpAny_rule (Qw (wpAny_typeNameOf' (T := "int") (typeIs_int _ _ _) (by decide) (raise_te hh ?_ ?_))))
 ·exact h
 · show(Qq inWords).length≤_
   rw[PySem.ofString_length,sizeLine_eq];decide +kernel
end
noncomputable def framesOf (l:List Env):List Addr:=l.filterMap (·.frame)
noncomputable def StackOk (C:Cx) (w:Wd) (l:List Env):Prop:=∀env∈l,env.scope.kind≠ .module∧∃L o,env.frame=some L∧w.s.heap.get? L=some o∧(∀vs,o.data≠ .fields vs)∧w.g L=none∧L∉w.ρ∧L∉C.tabs
noncomputable def MadeR (C:Cx) (Q:Hs→Prop) (X:List Addr) (words:Str) (w:Wd) (e:Addr) (s':Shared):Prop :=
 ∃(wr:Wd) (hr:Hs) (tk:Tok),Q hr∧Ext C X w wr∧Rep C wr hr∧Heap.MadeExcOf wr.s.heap s'.heap e (.type "TypeError") [.str words tk]∧s'.os=C.os∧AllBare s'.gens
noncomputable def MadeS (C:Cx) (Q:Hs→Prop) (F:Fr) (words:Str) (w:Wd) (e:Addr) (s':Shared):Prop :=
 ∃(wr:Wd) (hr:Hs) (tk:Tok) (loc:Loc),Q hr∧Ext C [F.env.locals] w wr∧Rep C wr hr∧Heap.MadeExcOf wr.s.heap s'.heap e (.type "TypeError") [.str words tk]∧s'.os=C.os∧AllBare s'.gens∧Frm C wr F loc
inductive Raised (C:Cx) (P:Wd→Prop) (Q:Hs→Prop) (X:List Addr) (words:Str) (w:Wd) (l:List Env) (e:Addr) (s':Shared):Prop
 |mk (wr:Wd) (hr:Hs) (B:Heap) (fr:List Addr) (t:Addr) (tk:Tok) (p:P wr) (q:Q hr) (e1:Ext C X w wr) (r1:Rep C wr hr) (r2:∀b o,wr.s.heap.get? b=some o→b∉fr→B.get? b=some o) (r3:∀a∈fr,wr.g a=none∧a∉wr.ρ∧a∉C.tabs)
  (r4:Heap.FlyingW B l e (.type "TypeError") (.ref t) s'.heap) (r5:s'.heap.TupAt t [.str words tk]) (r6:B.get? t=none) (r7:wr.s.heap.UpToSlots s'.heap) (r8:s'.os=C.os) (r9:AllBare s'.gens) (r10:∀a∈fr,a∈framesOf l∨w.s.heap.get? a=none)
structure Op2M (C:Cx) (n:Nat) (f:Value→Value→Sem Value) (h:Hs) (a b:V) (words:Str) (Q:Hs→Prop):Prop where
 run:∀(A:Around) (w:Wd) (Q':Value→Shared→Prop) (E:Value→Shared→Prop) (x y:Value),AOk A n→Rep C w h→Conc C w.g w.ρ a x→Conc C w.g w.ρ b y→(∀e s',MadeR C Q [] words w e s'→E (.ref e) s')→wpAny C.M A (f x y) Q' E w.s
structure EvM (C:Cx) (n:Nat) (F:Fr) (loc:Loc) (h:Hs) (e:Expr) (words:Str) (Q:Hs→Prop):Prop where
 run:∀(A:Around) (w:Wd) (Q':Value→Shared→Prop) (E:Value→Shared→Prop),AOk A n→Rep C w h→Frm C w F loc→(∀e s',MadeR C Q [] words w e s'→E (.ref e) s')→wpAny C.M A (eval e F.env) Q' E w.s
structure ExsM (C:Cx) (n:Nat) (F:Fr) (loc:Loc) (h:Hs) (sts:List Stmt) (words:Str) (Q:Hs→Prop):Prop where
 run:∀(A:Around) (w:Wd) (Q':Flow→Shared→Prop) (E:Value→Shared→Prop),AOk A n→Rep C w h→Frm C w F loc→(∀e s',MadeS C Q F words w e s'→E (.ref e) s')→wpAny C.M A (execs sts F.env) Q' E w.s
structure ClR (C:Cx) (n:Nat) (h:Hs) (f:V) (args:List V) (kw:List (Str × V)) (words:Str) (Q:Hs→Prop):Prop where
 run:∀(A:Around) (w:Wd) (Q':Value→Shared→Prop) (E:Value→Shared→Prop) (fx:Value) (xs:List Value) (ks:List (Str × Value)) (l:List Env),AOk A n→Rep C w h→Conc C w.g w.ρ f fx→Concs C w.g w.ρ args xs →
  ks.map (·.1)=kw.map (·.1)→Concs C w.g w.ρ (kw.map (·.2)) (ks.map (·.2))→A.frames=some l→StackOk C w l→(∀e s',Raised C (fun _=>True) Q [] words w l e s'→E (.ref e) s')→wpAny C.M A (call fx xs ks) Q' E w.s
structure EvR (C:Cx) (n:Nat) (F:Fr) (loc:Loc) (h:Hs) (e:Expr) (words:Str) (Q:Hs→Prop):Prop where
 run:∀(A:Around) (w:Wd) (Q':Value→Shared→Prop) (E:Value→Shared→Prop) (l:List Env),AOk A n→Rep C w h→Frm C w F loc→A.frames=some l→StackOk C w l→(∀e s',Raised C (fun _=>True) Q [] words w l e s'→E (.ref e) s')→wpAny C.M A (eval e F.env) Q' E w.s
structure ExsR (C:Cx) (n:Nat) (F:Fr) (loc:Loc) (h:Hs) (sts:List Stmt) (words:Str) (Q:Hs→Prop):Prop where
 run:∀(A:Around) (w:Wd) (Q':Flow→Shared→Prop) (E:Value→Shared→Prop) (l:List Env),AOk A n→Rep C w h→Frm C w F loc→A.frames=some l→StackOk C w l→(∀e s',Raised C (fun wr=>∃loc,Frm C wr F loc) Q [F.env.locals] words w l e s'→E (.ref e) s')→wpAny C.M A (execs sts F.env) Q' E w.s
section
variable {h1:Hs} {w':Wd} {words:Str} {Q:Hs→Prop} {X:List Addr} {l:List Env} {e:Addr} {s':Shared}
theorem MadeR.of (x:MadeR C Q X words w' e s') (y:Ext C X w w'):MadeR C Q X words w e s':=by
 refine x_EEEAA x fun wr hr tk q e1 r=> ?_
 exact⟨wr,hr,tk,q,y.trans e1,r⟩
theorem MadeR.st (x:MadeR C Q [] words w e s') (f:Frm C w F loc):MadeS C Q F words w e s':=by
 refine x_EEEAAAAA x fun wr hr tk q e1 r1 r2 r3 r4=> ?_
 exact⟨wr,hr,tk,loc,q,e1.wide,r1,r2,r3,r4,f.ext0 e1⟩
theorem MadeS.of (x:MadeS C Q F words w' e s') (y:Ext C [F.env.locals] w w'):MadeS C Q F words w e s':=by
 refine x_EEEEAA x fun wr hr tk l q e1 r=> ?_
 exact⟨wr,hr,tk,l,q,y.trans e1,r⟩
theorem Raised.of {P:Wd→Prop} (x:Raised C P Q X words w' l e s') (y:Ext C X w w'):Raised C P Q X words w l e s':=by
 obtain⟨wr,hr,B,fr,t,tk,p,q,e1,r1,r2,r3,r4,r5,r6,r7,r8,r9,r10⟩:=x
 exact⟨wr,hr,B,fr,t,tk,p,q,y.trans e1,r1,r2,r3,r4,r5,r6,r7,r8,r9,fun a ha=>(r10 a ha).imp id fun z=>get_none y.live z⟩
theorem Raised.wide (x:Raised C (fun _=>True) Q [] words w l e s') (f:Frm C w F loc):Raised C (fun wr=>∃loc,Frm C wr F loc) Q [F.env.locals] words w l e s':=by
 obtain⟨wr,hr,B,fr,t,tk,_,q,e1,r1,r2,r3,r4,r5,r6,r7,r8,r9,r10⟩:=x
 exact⟨wr,hr,B,fr,t,tk,⟨loc,f.ext0 e1⟩,q,e1.wide,r1,r2,r3,r4,r5,r6,r7,r8,r9,r10⟩
theorem StackOk.ext0 (x:StackOk C w l) (y:Ext C [] w w'):StackOk C w' l:=fun env he=>by
 refine x_AEEAAAAA (x env he) fun k L o h1 h2 h3 h4 h5 h6=> ?_
 refine⟨k,L,o,h1,y.kept _ _ h2 h5 (by simp) h6,h3, ?_, ?_,h6⟩
 · cases q:w'.g L with
   |none=>rfl
   |some o' =>
    rcases y.new _ _ q with z|z|z
    ·rw[h4] at z;cases z
    ·rw[h2] at z;cases z
    ·exact absurd z h5
 · intro q
   rcases y.newρ _ q with z|z
   ·exact h5 z
   ·rw[h2] at z;cases z
theorem Frm.there (f:Frm C w F loc):∃o,w.s.heap.get? F.env.locals=some o∧∀vs,o.data≠ .fields vs:=by
 refine x_EA f.ns fun m z98 _=> ?_;obtain⟨o,es,ep,ho,hd,_⟩:=z98
 exact⟨o,ho,fun vs q=>by rw[hd] at q;cases q⟩
theorem StackOk.ext (x:StackOk C w l) (y:Ext C [F.env.locals] w w') (f:Frm C w' F loc):StackOk C w' l:=fun env he=>by
 refine x_AEEAAAAA (x env he) fun k L o h1 h2 h3 h4 h5 h6=> ?_
 by_cases hL:L=F.env.locals
 · refine x_EA f.there fun o' h7 h8=> ?_
   exact⟨k,L,o',h1,hL▸h7,h8,hL▸f.off,hL▸f.offρ,h6⟩
 refine⟨k,L,o,h1,y.kept _ _ h2 h5 (by simpa using hL) h6,h3, ?_, ?_,h6⟩
 · cases q:w'.g L with
   |none=>rfl
   |some o' =>
    rcases y.new _ _ q with z|z|z
    ·rw[h4] at z;cases z
    ·rw[h2] at z;cases z
    ·exact absurd z h5
 · intro q
   rcases y.newρ _ q with z|z
   ·exact h5 z
   ·rw[h2] at z;cases z
theorem StackOk.fun (x:StackOk C w l):w.s.heap.FunFrames (hideAll w.s.heap (framesOf l)) l:=by
 have:∀l':List Env,(∀env∈l',env∈l)→w.s.heap.FunFrames (hideAll w.s.heap (framesOf l)) l':=by
  intro l'
  induction l' with
  |nil=>intro _;trivial
  |cons env r ih =>
   intro hs
   obtain⟨k,L,o,h1,h2,h3,_⟩:=x env (hs _ (by simp))
   exact⟨k,⟨L,o,h1,hideAll_none _ (List.mem_filterMap.mpr ⟨env,hs _ (by simp),h1⟩),h2,h3⟩,ih fun e he=>hs e (by simp[he])⟩
 exact this l fun _ h=>h
theorem StackOk.off (x:StackOk C w l):∀a∈framesOf l,w.g a=none∧a∉w.ρ∧a∉C.tabs:=fun a ha=>by
 refine x_EA (List.mem_filterMap.mp ha) fun env he hf=> ?_
 refine x_AEEAAAAA (x env he) fun _ L o h1 _ _ h4 h5 h6=> ?_
 rw[h1] at hf;cases hf
 exact⟨h4,h5,h6⟩
theorem op2M_in {x:List Nat} {i:Int} (q:Q h):Op2M C n (QQ .In) h (.int i) (sV x) (Qq inWords) Q:=⟨fun A w Q' E y z a0 R c1 c2 k=>by
 cases c1;cases c2
 refine in_str_int a0.handled fun h' tk e tk' m=>k _ _ ⟨w,h,tk',q, .refl,R,m,R.os,R.bare⟩⟩
theorem evM_cmp {a b:Expr} {op:CmpOp} {p:Pos} (H:Ev C n F loc h a fun u h1=>Ev C n F loc h1 b fun v h2=>Op2M C n (QQ op) h2 u v words Q) (hm:autoParam (behindInMarks op b=false) aW):EvM C n F loc h (.Compare a [op] [b] p) words Q:=⟨fun A w Q' E a0 R f k =>
 wpAny_Compare1 (H.run A w _ _ a0 R f fun x u h1 w1 q1 e1 R1 c1=>q1.run A w1 _ _ a0 R1 (f.ext0 e1) fun y v h2 w2 q2 e2 R2 c2 =>
  q2.run A w2 _ _ x y a0 R2 (c1.ext e2) c2 fun e s' m=>k _ _ (m.of (e1.trans e2))) hm⟩
theorem exsM_ret {e:Expr} {p:Pos} {rest:List Stmt} (H:EvM C n F loc h e words Q):ExsM C n F loc h (.Return (some e) p::rest) words Q:=⟨fun A w Q' E a0 R f k =>
 wpAny_execs_cons (wpAny_Return_some (H.run A w _ _ a0 R f fun e s' m=>k _ _ (m.st f)))⟩
theorem exsM_cons {st:Stmt} {rest:List Stmt} (H:Ex C n F loc h st fun fl l1 h1=>fl= .next∧ExsM C n F l1 h1 rest words Q):ExsM C n F loc h (st::rest) words Q:=⟨fun A w Q' E a0 R f k =>
 wpAny_execs_cons (H.run A w _ _ a0 R f fun fl' fl l1 h1 w1 ⟨hf,q1⟩ e1 R1 f1 c1=>by
  subst hf
  cases c1
  exact q1.run A w1 _ _ a0 R1 f1 fun e s' m=>k _ _ (m.of e1))⟩
theorem clR_made {f:Addr} {fd:FuncData} {body:List Stmt} {args:List V} {kw ab:List (Str × V)} {loc:Loc} {h1:Hs} (K:FnOk C f fd body) (hb:Binds C fd args kw ab) (hent:bindAll fd.scope.names (celFrom h.nx fd.scope.names []) ab [] (hsCells fd.scope.names h)=some (loc,h1))
 (H:∀L cells,ExsM C n ⟨envFn f fd L cells,celFrom h.nx fd.scope.names []⟩ loc h1 body words Q):ClR C (n+1) h (.top f) args kw words Q:=⟨by
 intro A w Q' E fx xs ks l a0 R cf cx hk ck hl sk c
 refine eqE cf.toInv ?_
 refine x_EA K.at_ fun o ho hd=> ?_
 refine x_EEEEAAAA K.code fun cd oc vs t h1' h2 h3 h4 h5=> ?_
 refine wpAny_call (codeAny_call_function a0.room (R.up ho K.off) hd K.co K.gen K.body ⟨cd,oc,vs,t,h1',R.up h2 h5,h3,h4⟩ ?_)
 refine x_EAA (hb w h xs ks R cx hk ck) fun bs hbs hn hc=> ?_
 refine hbs _ _ _ _ ?_
 rw[K.globals,K.closure,K.blt]
 refine new_env K.kind R (fun x i e=>by cases e) hent hn hc fun L cells w1 hL e1 R1 f1=>⟨NoLimit_up R1 K.lim K.limt,codeAny_func ?_⟩
 refine(H L cells).run (A.deeper _) w1 _ _ a0.deeper R1 f1 fun e s' m=> ?_
 obtain⟨wr,hr,tk,l2,q,e2,Rr,me,hos,hbr,fr⟩:=m
 have e3:Ext C [] w wr:=(e1.trans e2).under hL
 have sk3:=sk.ext0 e3
 refine x_EA fr.there fun oL hoL hdL=> ?_
 have sk4:StackOk C wr (envFn f fd L cells::l):=fun env he=>by
  rcases QY.mp he with rfl|he
  ·exact⟨by show fd.scope.kind≠_;rw[K.kind];decide,L,oL,rfl,hoL,hdL,fr.off,fr.offρ,fr.offt⟩
  ·exact sk3 env he
 have hfr:(A.deeper (envFn f fd L cells)).frames=some (envFn f fd L cells::l):=Around.frames_deeper hl
 refine wpAny_leaves_madeW (base:=hideAll wr.s.heap (framesOf (envFn f fd L cells::l))) hfr rfl (fun b o q=>of_hideAll _ q) sk4.fun me fun h' t x1 x2 x3 x4=> ?_
 refine c _ _ ⟨wr,hr,_,framesOf (envFn f fd L cells::l),t,tk,trivial,q,e3,Rr,fun b o h1 h2=>hideAll_get _ h1 h2,sk4.off,x1,x2,x3,fun b o h1 h2=>x4 b o (me.keeps b o h1) h2,hos,hbr,fun a ha=> ?_⟩
 rcases QY.mp (show a∈L::framesOf l from ha) with rfl|ha
 ·exact .inr hL
 ·exact .inl ha⟩
end
section
variable {h1:Hs} {w':Wd} {words:Str} {Q:Hs→Prop} {X:List Addr} {l:List Env} {e:Addr} {s':Shared}
theorem evR_call {x:Str} {p' p:Pos} {es:List Expr} {ks:List Keyword} {ns:List Str} (H:Ev C n F loc h (.Name x p') fun f h1=>Kp C f∧Evs C n F loc h1 es fun vs h2=>Evk C n F loc h2 ks fun kv h3=>ClR C n h3 f vs (ns.zip kv) words Q) (hs:autoParam (noStar es=true) aR) (hn:autoParam (kwNames ks=some ns) aR) :
 EvR C n F loc h (.Call (.Name x p') es ks p) words Q:=⟨fun A w Q' E l a0 R f hl sk c =>
 wpAny_Call_ofName (H.run A w _ _ a0 R f fun fx fv h1 w1 ⟨kp,q1⟩ e1 R1 c1=>callWith_any (args_all hs hn q1 a0 R1 (f.ext0 e1) fun xs kx vs kv h2 w2 q2 e2 R2 c2 hnm c3=>⟨kp w2 h2 fx R2 (c1.ext e2),
  q2.run A w2 _ _ fx ([]++xs) kx l a0 R2 (c1.ext e2) c2 hnm c3 hl (sk.ext0 (e1.trans e2)) fun e s' r=>c _ _ (r.of (e1.trans e2))⟩))⟩
theorem Rep.frames {wr:Wd} {hr:Hs} {s2:Shared} {fr:List Addr} (R:Rep C wr hr) (hk:∀b o,b∉fr→wr.s.heap.get? b=some o→s2.heap.get? b=some o) (h1:∀a∈fr,wr.g a=none∧a∉wr.ρ∧a∉C.tabs) (hos:s2.os=C.os) (hb:AllBare s2.gens):Rep C ⟨wr.g,wr.ρ,s2⟩ hr where
 keep:=fun a o e=>hk a o (fun q=>by rw[(h1 a q).1] at e;cases e) (R.keep a o e)
 len:=R.len
 nd:=R.nd
 off:=R.off
 dead:=R.dead
 obj:=fun i a h3=>let⟨o,h4,h5⟩:=R.obj i a h3;⟨o,hk a o (fun q=>(h1 a q).2.1 (Qa h3)) h4,h5⟩
 new:=R.new
 os:=hos
 bare:=hb
 top:=R.top
 tab:=fun a ha=>let⟨o,e,z⟩:=R.tab a ha;⟨o,hk a o (fun q=>(h1 a q).2.2 ha) e,z⟩
 offtab:=R.offtab
end
structure ExsT (C:Cx) (n:Nat) (F:Fr) (loc:Loc) (h:Hs) (sts:List Stmt) (Q:Fl→Loc→Hs→Prop):Prop where
 run:∀(A:Around) (w:Wd) (Q':Flow→Shared→Prop) (E:Value→Shared→Prop),AOk A n→Rep C w h→Frm C w F loc→A.frames=some [F.env]→F.env.frame=some F.env.locals →
  (∀(f:Flow) (fl:Fl) (loc':Loc) (h':Hs) (w':Wd),Q fl loc' h'→Ext C [F.env.locals] w w'→Rep C w' h'→Frm C w' F loc'→ConcF C w' fl f→Q' f w'.s)→wpAny C.M A (execs sts F.env) Q' E w.s
section
variable {h1:Hs} {w':Wd} {words:Str} {QR:Hs→Prop} {X:List Addr} {l:List Env} {e:Addr} {s':Shared}
structure ClT (C:Cx) (n:Nat) (h:Hs) (f:V) (args:List V) (Q:V→Hs→Prop):Prop where
 run:∀(A:Around) (w:Wd) (Q':Value→Shared→Prop) (E:Value→Shared→Prop) (fx:Value) (xs:List Value),AOk A n→Rep C w h→Conc C w.g w.ρ f fx→Concs C w.g w.ρ args xs→A.frames=some [] →
  (∀(r:Value) (v:V) (h':Hs) (w':Wd),Q v h'→Ext C [] w w'→Rep C w' h'→Conc C w'.g w'.ρ v r→Q' r w'.s)→wpAny C.M A (call fx xs []) Q' E w.s
theorem clT_fn {f:Addr} {fd:FuncData} {body:List Stmt} {args:List V} {ab:List (Str × V)} {loc:Loc} {h1:Hs} (K:FnOk C f fd body) (hb:Binds C fd args [] ab) (hent:bindAll fd.scope.names (celFrom h.nx fd.scope.names []) ab [] (hsCells fd.scope.names h)=some (loc,h1))
 (H:∀L cells,ExsT C n ⟨envFn f fd L cells,celFrom h.nx fd.scope.names []⟩ loc h1 body (RetQ Q)):ClT C (n+1) h (.top f) args Q:=⟨by
 intro A w Q' E fx xs a0 R cf cx hfr c
 refine eqE cf.toInv ?_
 refine x_EA K.at_ fun o ho hd=> ?_
 refine x_EEEEAAAA K.code fun cd oc vs t h1' h2 h3 h4 h5=> ?_
 refine wpAny_call (codeAny_call_function a0.room (R.up ho K.off) hd K.co K.gen K.body ⟨cd,oc,vs,t,h1',R.up h2 h5,h3,h4⟩ ?_)
 refine x_EAA (hb w h xs [] R cx rfl .nil) fun bs hbs hn hc=> ?_
 refine hbs _ _ _ _ ?_
 rw[K.globals,K.closure,K.blt]
 refine new_env K.kind R (fun x i e=>by cases e) hent hn hc fun L cells w1 hL e1 R1 f1=>⟨NoLimit_up R1 K.lim K.limt,codeAny_func ?_⟩
 refine(H L cells).run (A.deeper _) w1 _ _ a0.deeper R1 f1 (Around.frames_deeper hfr) rfl fun fv fl l2 h2 w2 q2 e2 R2 f2 c2=> ?_
 have e3:Ext C [] w w2:=(e1.trans e2).under hL
 cases c2 with
 |ret cv=>exact c _ _ h2 w2 q2 e3 R2 cv
 |next=>exact c _ _ h2 w2 q2 e3 R2 .none
 |brk=>exact q2.elim
 |cont=>exact q2.elim⟩
end
section
theorem p2_isnot_bool {a b:Bool}:P2 C n (QQ .IsNot) h (.bool a) (.bool b) (.bool (!(a==b))):=fun hb hi Q q=>op2_pure (q _ (.refl _)) fun A w Q' E x y a0 R c1 c2 k=>by
 refine eqE c1.toInv ?_;refine eqE c2.toInv ?_
 have e:(!(Value.bool a==Value.bool b))= !(a==b):=by cases a<;>cases b<;>rfl
 refine Qr (a:=Value.bool (!(Value.bool a==Value.bool b))) ?_
 rw[e]
 exact k _ w.s.toks (.bool _)
-- texts in a list
theorem dat_texts (ls:List (List Nat)):Dats h (ls.map sV) ((ls.map S).map PyData.str):=by
 rw[show ls.map sV=(ls.map S).map V.str by simp]
 exact dat_strs _
theorem decide_mem_S {x:List Nat} {ls:List (List Nat)}:((ls.map S).map PyData.str).any (fun y=>PyData.eqv y (.str (S x)))=decide (x∈ls):=by
 rw[Bool.eq_iff_iff,List.any_eq_true,decide_eq_true_eq]
 constructor
 · rintro⟨d,hd,e⟩
   refine x_EA (QO.mp hd) fun _ h1 z99=> ?_;subst z99
   refine x_EA (QO.mp h1) fun y h2 z100=> ?_;subst z100
   rw[eqv_str,decide_eq_true_eq,S_inj] at e
   exact e▸h2
 · intro hx
   exact⟨_,List.mem_map_of_mem (List.mem_map_of_mem hx),by rw[eqv_str];simp⟩
theorem map_S_inj {a b:List (List Nat)}:a.map S=b.map S↔a=b:=by
 constructor
 · intro e
   induction a generalizing b with
   |nil=>cases b with|nil=>rfl|cons _ _=>cases e
   |cons x a ih=>cases b with
    |nil=>cases e
    |cons y b =>
     simp only[Q3,List.cons.injEq,S_inj] at e
     rw[e.1,ih e.2]
 ·rintro rfl;rfl
theorem p2_in_texts {b:V} {x:List Nat} {ls:List (List Nat)} (hb:IsLst h b (ls.map sV)) (hx:QH (S x)=true) (hl:∀y∈ls,QH (S y)=true):P2 C (n+1) (QQ .In) h (sV x) b (.bool (decide (x∈ls))):=by
 have:=p2_ind (C:=C) (n:=n) (h:=h) (a:=sV x) (b:=b) (.str (S x)) (dat_lst hb (dat_texts ls)) ⟨hx,by simp[PyData.depth]⟩ (dok_strs fun y hy=>by refine x_EA (QO.mp hy) fun z hz z101=> ?_;subst z101;exact hl z hz)
 rwa [decide_mem_S] at this
theorem p2_ne_texts {a b:V} {xs ys:List (List Nat)} (ha:IsLst h a (xs.map sV)) (hb:IsLst h b (ys.map sV)) (hx:∀y∈xs,QH (S y)=true) (hy:∀y∈ys,QH (S y)=true):P2 C (n+1) (QQ .NotEq) h a b (.bool (!decide (xs=ys))):=by
 have ok:∀{ls:List (List Nat)},(∀y∈ls,QH (S y)=true)→Dok (.list ((ls.map S).map PyData.str)):=fun hl=>dok_strs fun y hy=>by refine x_EA (QO.mp hy) fun z hz z102=> ?_;subst z102;exact hl z hz
 have:=p2_ned (C:=C) (n:=n) (h:=h) (dat_lst ha (dat_texts xs)) (dat_lst hb (dat_texts ys)) (ok hx) (ok hy)
 rw[eqv_strs] at this
 simpa only[map_S_inj] using this
theorem pm_join {l:List Nat}:PM C n h (sV l) "join" (.blt "str.join") [sV l]:=⟨kp_blt,fun hb hi Q q=>⟨fun A w Q' E x pl a0 R cx c=>by
 refine cx.eStr fun t=> ?_
 exact GM.join (c _ _ _ _ hb w q .refl R (.blt "str.join") (.cons (.str _ t) .nil))⟩⟩
theorem concs_strs {g:G} {ρ:List Addr}:∀{ls:List Str} {xs:List Value},Concs C g ρ (ls.map V.str) xs→∃l:List (Str × Tok),xs=strValues l∧l.map (·.1)=ls
 |[],_,c=>by cases c;exact⟨[],rfl,rfl⟩
 |x::ls,_,c=>by
  cases c with
  |cons c1 c2 =>
   refine c1.eStr fun t=> ?_
   refine x_EA (concs_strs c2) fun l z103 h2=> ?_;subst z103
   exact⟨(x,t)::l,rfl,by simp[h2]⟩
theorem join_S:∀(ls:List (List Nat)),Str.join (S []) (ls.map S)=S ls.flatten
 |[]=>rfl
 |[x]=>by simp[Str.join]
 |x::y::r=>by
  have:=join_S (y::r)
  simp only[Q3,Str.join] at this ⊢
  rw[this,S_app,S_app]
  simp
theorem pf_join {v:V} {ls:List (List Nat)} {B:Nat} (hv:IsLst h v (ls.map sV)) (hB:∀y∈ls,y.length≤B) (hz:ls.length*B≤10000):PF C n h (.blt "str.join") [sV [],v] [] (sV ls.flatten):=fun hb hi Q q=>cl2 fun A w Q' E fx x y a0 R cf cx cy c=>by
 refine eqE cf.toInv ?_
 refine cx.eStr fun t=> ?_
 refine(hi.lst hv).e R cy fun a vs z104 cs _=> ?_;obtain⟨k,hl⟩:=z104
 rw[show ls.map sV=(ls.map S).map V.str by simp] at cs
 refine x_EA (concs_strs cs) fun l h1 h2=> ?_
 have e1:vs=(strValues l).toArray:=by rw[←h1,Array.toArray_toList]
 subst e1
 have hok:JoinOk (S []) (ls.map S)=true:=by
  unfold JoinOk
  rw[StrLaws.joinFits (B:=B)]
  ·rfl
  · intro y hy
    refine x_EA (QO.mp hy) fun z hz z105=> ?_;subst z105
    rw[S_len];exact hB z hz
  ·rw[S_len,Qo];simp;omega
 refine SC.join (l:=l) (texts:=ls.map S) ⟨_,hl,rfl,k,rfl⟩ h2 hok fun t' k=> ?_
 have e2:Txt.join (S []) (ls.map S)=S ls.flatten:=(StrLaws.glued_eq_join _ _).trans (join_S ls)
 rw[e2]
 exact c _ _ hb (w.toks k) (q _ (.refl _)) .toks R.toks (.str _ t')
end
noncomputable def stands (y x:List Nat):Bool:=decide (((Wo (x.length+1)).filter fun p=>decide ((x.take (p+y.length)).drop p=y))≠[])
theorem stands_iff (y x:List Nat):stands y x=true↔∃p,p+y.length≤x.length∧(x.drop p).take y.length=y:=by
 have e:∀p,(x.take (p+y.length)).drop p=(x.drop p).take y.length:=fun p=>by
  rw[List.drop_take,Nat.add_sub_cancel_left]
 unfold stands
 rw[decide_eq_true_eq,Ne,List.filter_eq_nil_iff]
 simp only[decide_eq_true_eq,e,List.mem_range]
 constructor
 · intro hne
   by_cases hx:∃p,p+y.length≤x.length∧(x.drop p).take y.length=y
   ·exact hx
   · exact absurd (fun p hp hq=>hx ⟨p,by
      have:=congrArg List.length hq
      rw[List.length_take,List.length_drop] at this;exact Nat.add_le_of_le_sub' (Qv hp) (Qe (QK this.symm) (Nat.min_le_right ..)),hq⟩) hne
 · rintro⟨p,h1,h2⟩ hall
   exact hall p (Nat.lt_succ_of_le (Qe (QP ..) h1)) h2
theorem isIn_stands (y x:List Nat):isIn y x=stands y x:=by
 rw[Bool.eq_iff_iff,stands_iff]
 unfold isIn
 have hl:x.length=(S x).length:=(S_len x).symm
 rw[hl,StrLaws.found_iff]
 simp only[StrLaws.subAt_eq,S_len,S_toList,beq_iff_eq]
section
theorem pf_fnC {f:Addr} {fd:FuncData} {body:List Stmt} {args:List V} {kw ab:List (Str × V)} {loc:Loc} {v:V} {h1:Hs→Hs} (K:FnOk C f fd body) (hb:Binds C fd args kw ab)
 (hent:∀hb,bindAll fd.scope.names (celFrom hb.nx fd.scope.names []) ab [] (hsCells fd.scope.names hb)=some (loc,h1 hb))
 (H:∀hb,h.In hb→hb.Ok→∀L cells,KX C n ⟨envFn f fd L cells,celFrom hb.nx fd.scope.names []⟩ loc (h1 hb) body fun fl _ h'=>fl= .ret v∧hb.In h'):PF C (n+1) h (.top f) args kw v:=fun h0 hi Q q =>
 Cl.ok fun ok=>cl_fn K hb (hent h0) fun L cells=>(H h0 hi ok L cells _ (.refl _)).mono fun fl l h' ⟨e,i⟩=>by subst e;exact q h' i
theorem ka_dict {o i:Expr} {p:Pos} {j:Nat} {k:Key} {v:V} {kvs:List (Key × V)} (O:Pu C n F loc h o (.ref j)) (I:Pu C n F loc h i k.v) (hd:h.σ j= .dict kvs) (hz:kvs.length<10000) (H:∀h',(h.upd j (.dict (kput kvs k v))).In h'→QL loc h'):KA C n F loc h (.Subscript o i p) v QL:=fun hb hh =>
 as_sub (O hb hh _ fun h1 i1=>I h1 (hh.trans i1) _ fun h2 i2=>by
  have i3:=hh.trans (i1.trans i2)
  refine x_EAAA (Hs.In.fixD (h:=h2) (p:=j) (kvs:=kvs) (i3.dict hd)) fun h4 le e4 en eo=> ?_
  refine Up3.pre (dct_set e4 (by rw[sizeLine_eq];omega) (H _ ?_)) le
  refine⟨by show h.nx≤h4.nx;rw[en];exact i3.nx,fun m=> ?_⟩
  show AO.le (if m=j then _ else h4.σ m) (if m=j then _ else h.σ m)
  by_cases hm:m=j
  ·rw[if_pos hm,if_pos hm];exact AO.le_refl _
  ·rw[if_neg hm,if_neg hm,eo m hm];exact i3.le m)
end
theorem look_dict_get:typeLookup (.type "dict") "get" = pure (some (.builtin "dict.get")):=by rw[typeLookup_type,QG];kernel_rfl
theorem look_set_in:typeLookup (.type "set") "__contains__" = pure (some (.builtin "set.__contains__")):=by rw[typeLookup_type,QG];kernel_rfl
theorem look_md_get:typeLookup (.type "method_descriptor") "__get__" = pure (some (.builtin "method_descriptor.__get__")):=by rw[typeLookup_type,QG];kernel_rfl
theorem look_md_set:typeLookup (.type "method_descriptor") "__set__" = pure none:=by rw[typeLookup_type,QG];kernel_rfl
theorem look_md_del:typeLookup (.type "method_descriptor") "__delete__" = pure none:=by rw[typeLookup_type,QG];kernel_rfl
theorem type_set_in:typeOf (.builtin "set.__contains__")=pure (.type "method_descriptor"):=by show builtinType _=_;rw[builtinType_eq_fast];kernel_rfl
section
variable {M:Model}
open Builtin.ObjectAttr in
set_option tactic.hygienic true in
theorem find_md {T id:String} {name:Str} {a:Addr} {o:Obj} {Q:Found→Shared→Prop} (ho:s.heap.get? a=some o) (hc:o.cls= .type T) (hd:o.dict=none) (hn:∀c,o.data≠ .cls c) (look:typeLookup (.type T) name=pure (some (.builtin id))) (ty:typeOf (.builtin id)=pure (.type "method_descriptor"))
 (hcop:(["__module__", "__name__", "__qualname__", "__doc__", "__annotations__"]:List Str).contains name=false) (q:Q (.bind (.builtin "method_descriptor.__get__") (.builtin id)) s):wpAny M A (find (.ref a) (.type T) name) Q E s:=by
 have tb:∀s:Shared,s.TypeIs (.builtin id) "method_descriptor" := fun _=>ty
 unfold find
 refine Qw (wpAny_of_eq look (Qw ?_))
 unfold getOf
 refine wpAny_specialOf (tb _) look_md_get (Qw ?_)
 unfold dataDescriptor?
 dsimp only
 unfold takesStores
 refine Qw (Qw (wpAny_specialOf (tb _) look_md_set ?_))
 simp only[Option.isSome_none,Qm,if_false]
 refine Qw (wpAny_specialOf (tb _) look_md_del (Qr ?_))
 simp only[Option.isSome_none,Qm,if_false]
 refine Qr ?_
 dsimp only
 unfold ownThenClass inOwnDict
 dsimp only
 unfold Builtin.ObjectAttr.ownDict loadHead
 refine Qw (Qw (Qw (wpAny_loadPart_at ho ?_)))
 have step:∀{Q':Option Addr→Shared→Prop},Q' none s→wpAny M A (instanceDict a false) Q' E s:=fun{Q'} q'=>by
  unfold instanceDict
  refine Qw (wpAny_loadPart_at ho ?_)
  rw[hc]
  dsimp only
  rw[hd]
  dsimp only
  simp only[Bool.not_false,Bool.true_or,if_true]
  exact Qr q'
 split
 ·rename_i c hh;exact absurd hh (hn _)
 refine step ?_
 unfold inDict
 dsimp only
 refine Qr ?_
 dsimp only
 unfold copiedAttributeGuard
 dsimp only
 simp only[hcop,Qm,if_false]
 refine Qw (Qr ?_)
 unfold byTheClass
 dsimp only
 exact Qw (wpAny_rule (Qr q))
noncomputable def mdCheck (T n:String) (a:Addr):Sem Unit:=do
 if !(←isInstance (.ref a) (.type T)) then
  rule "descr.get.wrong-instance"
  raiseError "TypeError" s!"descriptor '{(Str.ofString n).toString}' for '{← typeName (.type T)}' objects doesn't apply to a '{← typeNameOf (.ref a)}' object"
theorem mdget_dict {a:Addr}:Builtin.«method_descriptor.__get__» ⟨[.builtin "dict.get", .ref a, .type "dict"],[]⟩=(mdCheck "dict" "get" a >>= fun _=>newFields "builtin_function_or_method" [.builtin "dict.get", .ref a] >>= fun v=>ret v):=by
 kernel_rfl
theorem mdget_set {a:Addr}:Builtin.«method_descriptor.__get__» ⟨[.builtin "set.__contains__", .ref a, .type "set"],[]⟩=(mdCheck "set" "__contains__" a >>= fun _=>newFields "builtin_function_or_method" [.builtin "set.__contains__", .ref a] >>= fun v=>ret v):=by
 kernel_rfl
theorem wpAny_mdCheck {T n:String} {a:Addr} {Q:Unit→Shared→Prop} (hT:s.TypeIs (.ref a) T) (hs:isSubtype (.type T) (.type T)=pure true) (q:Q () s):wpAny M A (mdCheck T n a) Q E s:=by
 unfold mdCheck
 refine Qw (wpAny_isInstance hT hs ?_)
 simp only[Bool.not_true,Qm,if_false]
 exact Qr q
end
theorem slot_md_get:Slot "method_descriptor" "__get__" "method_descriptor.__get__" := .of (owner := "method_descriptor") (n := "__get__") (by rw[typeLookup_type,QG];kernel_rfl) (by decide +kernel) (by decide +kernel) (by decide +kernel)
 (by first|exact .inl (by decide +kernel)|exact .inr (by decide +kernel)) (by rw[isSubtype_type];kernel_rfl)
theorem entry_md_get:entryFor table "method_descriptor.__get__" = some Builtin.«method_descriptor.__get__»:=entryFor_of_tree (by kernel_rfl)
theorem args_md_get (a b c:Value):argsOk "method_descriptor.__get__" ⟨[a,b,c],[]⟩:=by unfold argsOk;kernel_rfl
theorem entry_set_ga0:entryFor table "set.__getattribute__" = some Builtin.«object.__getattribute__» :=
 entryFor_alias (id' := "object.__getattribute__") (by kernel_rfl) (by decide +kernel) (by decide +kernel) (by kernel_rfl)
theorem sub_dict_dict:isSubtype (.type "dict") (.type "dict")=pure true:=by rw[isSubtype_type];kernel_rfl
theorem sub_set_set:isSubtype (.type "set") (.type "set")=pure true:=by rw[isSubtype_type];kernel_rfl
noncomputable def bmObj (id:String) (a:Addr):Obj:={cls:= .type "builtin_function_or_method",data:= .fields #[.builtin id, .ref a] }
section
variable {w:World}
theorem bind_md {T n id:String} {a:Addr} {Q:PySem.Fin→Shared→Prop} (hT:s.TypeIs (.ref a) T) (hs:isSubtype (.type T) (.type T)=pure true) (ty:typeOf (.builtin id)=pure (.type "method_descriptor"))
 (e:Builtin.«method_descriptor.__get__» ⟨[.builtin id, .ref a, .type T],[]⟩=(mdCheck T n a >>= fun _=>newFields "builtin_function_or_method" [.builtin id, .ref a] >>= fun v=>ret v))
 (q:Q (.done (.ret (.ref s.heap.objs.size))) {s with heap:=s.heap.push (bmObj id a) }):wpAny (model prog w) A (Builtin.ObjectAttr.bindTo (.builtin "method_descriptor.__get__") (.builtin id) (.ref a) (.type T)) Q E s:=by
 unfold Builtin.ObjectAttr.bindTo
 dsimp only
 refine Qw (Qf (Wu slot_md_get (show s.TypeIs (.builtin id) "method_descriptor" from ty) entry_md_get ?_ (args_md_get _ _ _)))
 rw[e]
 refine Qw (wpAny_mdCheck hT hs (Qw ?_))
 unfold newFields
 refine wpAny_newObj_type ?_
 exact Qr ⟨_,rfl,Qr q⟩
theorem ga_md {T n id:String} {name:Str} {u:Tok} {a:Addr} {o:Obj} {Q:PySem.Fin→Shared→Prop} (ho:s.heap.get? a=some o) (hc:o.cls= .type T) (hd:o.dict=none) (hn:∀c,o.data≠ .cls c) (look:typeLookup (.type T) name=pure (some (.builtin id))) (ty:typeOf (.builtin id)=pure (.type "method_descriptor"))
 (hcop:(["__module__", "__name__", "__qualname__", "__doc__", "__annotations__"]:List Str).contains name=false) (hs:isSubtype (.type T) (.type T)=pure true)
 (e:Builtin.«method_descriptor.__get__» ⟨[.builtin id, .ref a, .type T],[]⟩=(mdCheck T n a >>= fun _=>newFields "builtin_function_or_method" [.builtin id, .ref a] >>= fun v=>ret v))
 (q:Q (.done (.ret (.ref s.heap.objs.size))) {s with heap:=s.heap.push (bmObj id a) }):wpAny (model prog w) A (Builtin.«object.__getattribute__» ⟨[.ref a, .str name u],[]⟩) Q E s:=by
 have hT:s.TypeIs (.ref a) T:=⟨_,ho,hc⟩
 unfold Builtin.«object.__getattribute__»
 repeat (any_goals (first|(refine bind_md hT hs ty e ?_)|(refine find_md ho hc hd hn look ty hcop ?_)|assumption|wp_step))
theorem getAttr_dict_get {hp:Heap} {g:Array GenState} {d:Drawn} {tk:Nat} {os:OsState} {a:Addr} {o:Obj} {Q:Value→Shared→Prop} (ho:hp.get? a=some o) (hc:o.cls= .type "dict") (hd:o.dict=none) (hn:∀c,o.data≠ .cls c)
 (q:∀tk',Q (.ref hp.objs.size) ⟨hp.push (bmObj "dict.get" a),g,d,tk',os⟩):wpAny (model prog w) A (getAttr (.ref a) "get" true) Q E ⟨hp,g,d,tk,os⟩:=by
 obtain⟨c,dct,dat,sl⟩:=o
 simp only at hc hd hn
 subst hc hd
 have hT:∀tk',(⟨hp,g,d,tk',os⟩:Shared).TypeIs (.ref a) "dict" := fun _=>⟨_,ho,rfl⟩
 have f3:=PySem.F.slot_dict_getattribute.lookup
 have f4:=PySem.F.slot_dict_getattribute.bind (.ref a)
 have f5:=am_dict_getattr_none
 unfold getAttr getAttrBy
 repeat (any_goals (first|assumption|exact hT _|exact q _|((with_reducible show wpAny _ _ (call (Value.builtin "dict.__getattribute__") _ _) _ _ _);refine Wu PySem.F.slot_dict_getattribute (hT _) am_entry_dict_getattribute (ga_md (n := "get") ho rfl rfl hn look_dict_get PySem.F.type_dict_get (by decide +kernel) sub_dict_dict mdget_dict ⟨_,rfl, ?_⟩) (PySem.F.args_dict_getattribute_2 _ _))|wp_step))
theorem set_getattr_none0:typeLookup (.type "set") "__getattr__" = pure none:=by rw[typeLookup_type,QG];kernel_rfl
theorem getAttr_set_in {hp:Heap} {g:Array GenState} {d:Drawn} {tk:Nat} {os:OsState} {a:Addr} {o:Obj} {Q:Value→Shared→Prop} (ho:hp.get? a=some o) (hc:o.cls= .type "set") (hd:o.dict=none) (hn:∀c,o.data≠ .cls c)
 (q:∀tk',Q (.ref hp.objs.size) ⟨hp.push (bmObj "set.__contains__" a),g,d,tk',os⟩):wpAny (model prog w) A (getAttr (.ref a) "__contains__" true) Q E ⟨hp,g,d,tk,os⟩:=by
 obtain⟨c,dct,dat,sl⟩:=o
 simp only at hc hd hn
 subst hc hd
 have hT:∀tk',(⟨hp,g,d,tk',os⟩:Shared).TypeIs (.ref a) "set" := fun _=>⟨_,ho,rfl⟩
 have f3:=PySem.F.slot_set_getattribute.lookup
 have f4:=PySem.F.slot_set_getattribute.bind (.ref a)
 have f5:=set_getattr_none0
 unfold getAttr getAttrBy
 repeat (any_goals (first|assumption|exact hT _|exact q _|((with_reducible show wpAny _ _ (call (Value.builtin "set.__getattribute__") _ _) _ _ _);refine Wu PySem.F.slot_set_getattribute (hT _) entry_set_ga0 (ga_md (n := "__contains__") ho rfl rfl hn look_set_in type_set_in (by decide +kernel) sub_set_set mdget_set ⟨_,rfl, ?_⟩) (PySem.F.args_set_getattribute_2 _ _))|wp_step))
end
noncomputable def argsOkB (id T:String) (args:Args):Prop:=(match Manifest.signature? id with|some sig=>Bind.checkArgs id {sig with full:=s!"{Bind.lastOf T}.{Bind.lastOf id}" } args|none=>pure ())=pure ()
section
variable {M:Model}
set_option tactic.hygienic true in
theorem wpAny_checkBound {T id:String} {a:Addr} {o:Obj} {xs:List Value} {Q:Unit→Shared→Prop} (hk:builtinKind id=some .method) (ho:s.heap.get? a=some o) (hc:o.cls= .type T) (hn:∀c,o.data≠ .cls c) (hm:isSubtype (.type T) (.type "module")=pure false)
 (hva:Manifest.varargsMethods.contains id=false) (hargs:argsOkB id T ⟨.ref a::xs,[]⟩) (q:Q () s):wpAny M A (checkBoundCall id ⟨.ref a::xs,[]⟩) Q E s:=by
 have hT:s.TypeIs (.ref a) T:=⟨_,ho,hc⟩
 unfold checkBoundCall
 unfold argsOkB at hargs
 cases h:Manifest.signature? id with
 |none=>exact Qr q
 |some sig =>
  rw[h] at hargs
  simp only[hk]
  have e1:(Manifest.AttrKind.method != Manifest.AttrKind.method&&Manifest.AttrKind.method != Manifest.AttrKind.classMethod)=false:=by decide
  simp only[e1,Qm,if_false]
  refine Qw (wpAny_isInstance hT hm ?_)
  simp only[hva,Bool.false_or,Qm,if_false]
  unfold isType loadHead
  refine Qw (Qw (wpAny_loadPart_at ho ?_))
  split
  ·rename_i c hh;exact absurd hh (hn _)
  · refine Qr ?_
    simp only[Qm,if_false]
    refine Qw (wpAny_typeOf hT ?_)
    dsimp only
    exact wpAny_of_eq hargs q
end
theorem kind_dict_get:builtinKind "dict.get" = some .method:=by decide +kernel
theorem kind_set_in:builtinKind "set.__contains__" = some .method:=by decide +kernel
theorem sub_dict_module:isSubtype (.type "dict") (.type "module")=pure false:=by rw[isSubtype_type];kernel_rfl
theorem sub_set_module:isSubtype (.type "set") (.type "module")=pure false:=by rw[isSubtype_type];kernel_rfl
theorem argsB_dict_get (a b c:Value):argsOkB "dict.get" "dict" ⟨[a,b,c],[]⟩:=by unfold argsOkB;kernel_rfl
theorem argsB_set_in (a b:Value):argsOkB "set.__contains__" "set" ⟨[a,b],[]⟩:=by unfold argsOkB;kernel_rfl
section
variable {w:World}
theorem call_bm {T id:String} {B:Builtin} {m a:Addr} {o:Obj} {xs:List Value} {Q:Value→Shared→Prop} (hm0:s.heap.get? m=some (bmObj id a)) (entry:entryFor table id=some B) (hk:builtinKind id=some .method) (ho:s.heap.get? a=some o) (hc:o.cls= .type T) (hn:∀c,o.data≠ .cls c) (hm:isSubtype (.type T) (.type "module")=pure false)
 (hva:Manifest.varargsMethods.contains id=false) (hargs:argsOkB id T ⟨.ref a::xs,[]⟩) (hp:plainId id=true)
 (h:wpAny (model prog w) A.in1 (B ⟨.ref a::xs,[]⟩) (fun fin s'=>match fin with | .done f=>wants Q E (.ok f) s' | .again c'=>c'.quiet=true∧codeAny (model prog w) A c' (wants Q E) s') (fun e s'=>wants Q E (.error e) s') s):wpAny (model prog w) A (call (.ref m) xs) Q E s:=by
 refine wpAny_call (codeAny_of_tree ?_)
 show wpAny _ _ (callAny (.ref m) ⟨xs,[]⟩) _ _ _
 unfold callAny
 refine Qw (wpAny_load hm0 ?_)
 simp only[bmObj]
 have e1:(Value.type "builtin_function_or_method" == Value.type "method" || Value.type "builtin_function_or_method" == Value.type "builtin_function_or_method" || Value.type "builtin_function_or_method" == Value.type "method-wrapper")=true:=by decide
 have e2:(Value.type "builtin_function_or_method" != Value.type "method")=true:=by decide
 simp only[e1,if_true]
 show wpAny _ _ (if(Value.type "builtin_function_or_method" != Value.type "method")=true then do
  checkBoundCall id {pos:= .ref a::xs }
  again (Code.builtin id {pos:= .ref a::xs })
  else again (Code.call (.builtin id) {pos:= .ref a::xs })) _ _ _
 simp only[e2,if_true]
 refine Qw (wpAny_checkBound hk ho hc hn hm hva hargs (Qr ⟨plainId_quiet hp _,codeAny_builtin entry ?_⟩))
 rw[Around.under_plainId hp _]
 exact h
end
structure GetT (C:Cx) (n:Nat) (h:Hs) (a:V) (name:Str) (Q:V→Hs→Prop):Prop where
 run:∀(A:Around) (w:Wd) (Q':Value→Shared→Prop) (E:Value→Shared→Prop) (x:Value),AOk A n→Rep C w h→Conc C w.g w.ρ a x →
  (∀(r:Value) (v:V) (h':Hs) (w':Wd),Q v h'→Ext C [] w w'→Rep C w' h'→Conc C w'.g w'.ρ v r→Q' r w'.s)→wpAny C.M A (getAttr x name true) Q' E w.s
section
theorem ev_attrT {o:Expr} {attr:Str} {p:Pos} (H:Ev C n F loc h o fun a h1=>GetT C n h1 a attr Q) (hb:autoParam (attributeBase o attr F.env (eval o F.env)=eval o F.env) aR):Ev C n F loc h (.Attribute o attr p) Q:=⟨fun A w Q' E a0 R f c=>by
 rw[arm_eval_Attribute,hb]
 refine Qw (H.run A w _ _ a0 R f fun y v h1 w1 q1 e1 R1 c1=>Qw (wpAny_standAt (Qw (Qf (q1.run A w1 _ _ y a0 R1 c1 fun z v2 h2 w2 q2 e2 R2 c2=> ?_)))))
 refine Qw (wpAny_letTemporaryGo (Qr (c z v2 h2 w2 q2 (e1.trans e2) R2 c2)))⟩
theorem get_bm_dict {v:V} {kvs:List (Key × V)} (hv:IsDct h v kvs) (q:Q (.bm "dict.get" v) h):GetT C n h v "get" Q:=⟨fun A w Q' E x a0 R cx c=>by
 refine x_EEAAAA (hv.at R cx) fun a kvs' z106 hd r h0 _=> ?_;subst z106
 refine x_EEEAAA hd fun o es ep ho hc hdd _=> ?_
 have hn:w.s.heap.get? w.s.heap.objs.size=none:=fresh_none (Qt _)
 refine getAttr_dict_get (hp:=w.s.heap) (g:=w.s.gens) (d:=w.s.drawn) (tk:=w.s.toks) (os:=w.s.os) ho hc.1 hc.2.1 (by rw[hdd];intro _ z;cases z) fun tk'=> ?_
 exact c _ _ _ (w.frz _ (bmObj "dict.get" a) _ tk') q (Ext.frozen R hn push_keeps) (R.frozen hn push_keeps (Qu _ rfl)) (.bm gset_self (cx.mono (gset_sub (R.off_fresh hn).1) (Ql _)))⟩
theorem get_bm_set {v:V} {ks:List Key} (hv:IsSet h v ks) (q:Q (.bm "set.__contains__" v) h):GetT C n h v "__contains__" Q:=⟨fun A w Q' E x a0 R cx c=>by
 refine x_EA (hv.at R cx) fun a z107 hS=> ?_;subst z107
 refine x_EA hS fun o ho hO=> ?_
 refine x_EEEAA hO fun es ep t hex hdd _=> ?_
 have hn:w.s.heap.get? w.s.heap.objs.size=none:=fresh_none (Qt _)
 refine getAttr_set_in (hp:=w.s.heap) (g:=w.s.gens) (d:=w.s.drawn) (tk:=w.s.toks) (os:=w.s.os) ho hex.1 hex.2.1 (by rw[hdd];intro _ z;cases z) fun tk'=> ?_
 exact c _ _ _ (w.frz _ (bmObj "set.__contains__" a) _ tk') q (Ext.frozen R hn push_keeps) (R.frozen hn push_keeps (Qu _ rfl)) (.bm gset_self (cx.mono (gset_sub (R.off_fresh hn).1) (Ql _)))⟩
theorem kp_bm {id:String} {v:V}:Kp C (.bm id v):=fun w h fx R c=>by
 cases c with
 |bm hg cy =>
  refine⟨.machine,fun A Q E s' hk q=> ?_⟩
  unfold keeperOf
  refine Qw (wpAny_load (hk _ _ (R.keep _ _ hg)) ?_)
  have e1:(Value.type "builtin_function_or_method" != Value.type "method")=true:=by decide
  have e2:(Value.type "builtin_function_or_method" == Value.type "builtin_function_or_method" || Value.type "builtin_function_or_method" == Value.type "method-wrapper")=true:=by decide
  simp only[e1,e2,if_true]
  exact Qr q
theorem cl_bm_get {S:SysIn C} {v d:V} {k:Key} {kvs:List (Key × V)} (hv:IsDct h v kvs) (q:Q ((kget kvs k).getD d) h):Cl C (n+1) h (.bm "dict.get" v) [k.v,d] [] Q:=⟨fun A w Q' E fx xs ks a0 R cf cx hk ck c=>by
 cases cf with
 |bm hg cv =>
  cases cx with
  |cons cy cx''=>cases cx'' with
   |cons cd cn =>
    cases cn
    cases ks with
    |cons _ _=>cases hk
    |nil =>
     refine x_EEAAAA (hv.at R cv) fun a kvs' z108 hd r h0 _=> ?_;subst z108
     refine x_EEEAAA (id hd) fun o es ep ho hc hdd hr=> ?_
     refine call_bm (T := "dict") (R.keep _ _ hg) PySem.F.entry_dict_get kind_dict_get ho hc.1 (by rw[hdd];intro _ z;cases z) sub_dict_module (by decide +kernel) (argsB_dict_get _ _ _) PySem.F.slot_dict_get.plain ?_
     refine meets_dict_get_default C.k a (key_is cy) (S.ne h0) _ A (wants Q' E) w.s ⟨_,hd.mapOf, ?_⟩
     cases z:kget kvs k with
     |none=>rw[z] at q;rw[(r.get k).2 z];exact c _ _ h (w.toks _) q .toks R.toks cd
     |some u=>rw[z] at q;refine x_EA ((r.get k).1 u z) fun y h1 h2=> ?_;rw[h1];exact c _ _ h (w.toks _) q .toks R.toks h2⟩
theorem in_body {prog:Program} {w:World} {K:Type} [DecidableEq K] {knd:KeyKind prog w K} {A:Around} {E:Value→Shared→Prop} {s:Shared} {a:Addr} {k:K} {key:Value} {S:K→Bool} {n:Nat} {Q:PySem.Fin→Shared→Prop} (hkey:knd.is k key=true) (hsc:key.scannable=true) (hS:s.heap.SetOf knd a S n)
 (h:Q (.done (.ret (.bool (S k)))) {s with toks:=s.toks+1 }):wpAny (model prog w) A (Builtin.«frozenset.__contains__» ⟨[.ref a,key],[]⟩) Q E s:=by
 unfold Builtin.«frozenset.__contains__» Builtin.Frozenset.oneOther
 simp only[List.isEmpty_nil,bind_assoc]
 unfold Builtin.Frozenset.addrOf Builtin.Frozenset.withSetAsKey setContains
 refine Qw (Qr ?_)
 try dsimp only
 refine Qw (Qr ?_)
 try dsimp only
 refine Qw (wpAny_tryCatch ?_)
 refine Qf ?_
 refine Qw (knd.pyHash hkey ?_)
 refine Qw (wpAny_setFind_of (s:={s with toks:=s.toks+1 }) hkey hsc hS fun r hr=> ?_)
 refine Qr ?_
 show wpAny _ _ (ret (Value.bool r.isSome)) _ _ _
 rw[hr]
 exact Qr h
theorem cl_bm_in {v:V} {k:Key} {ks:List Key} (hv:IsSet h v ks) (q:Q (.bool (decide (k∈ks))) h):Cl C (n+1) h (.bm "set.__contains__" v) [k.v] [] Q:=⟨fun A w Q' E fx xs kws a0 R cf cx hk ck c=>by
 cases cf with
 |bm hg cv =>
  cases cx with
  |cons cy cn =>
   cases cn
   cases kws with
   |cons _ _=>cases hk
   |nil =>
    refine x_EA (hv.at R cv) fun a z109 hS=> ?_;subst z109
    refine x_EA (id hS) fun o ho hO=> ?_
    refine x_EEEAA hO fun es ep t hex hdd _=> ?_
    refine call_bm (T := "set") (R.keep _ _ hg) entry_set_contains kind_set_in ho hex.1 (by rw[hdd];intro _ z;cases z) sub_set_module (by decide +kernel) (argsB_set_in _ _) PySem.F.slot_set_contains.plain ?_
    exact in_body (key_is cy) (key_scan cy) hS.setOf (c _ _ h (w.toks _) q .toks R.toks (.bool _))⟩
theorem pu_bmD {o:Expr} {p:Pos} {v:V} {kvs:List (Key × V)} (A:Pu C n F loc h o v) (hv:IsDct h v kvs) (hb:autoParam (attributeBase o "get" F.env (eval o F.env)=eval o F.env) aR):Pu C n F loc h (.Attribute o "get" p) (.bm "dict.get" v):=fun hh hi Q q =>
 ev_attrT (A hh hi _ fun h1 i1=>get_bm_dict ((hi.trans i1).dct hv) (q h1 i1)) hb
theorem pu_bmS {o:Expr} {p:Pos} {v:V} {ks:List Key} (A:Pu C n F loc h o v) (hv:IsSet h v ks) (hb:autoParam (attributeBase o "__contains__" F.env (eval o F.env)=eval o F.env) aR):Pu C n F loc h (.Attribute o "__contains__" p) (.bm "set.__contains__" v):=fun hh hi Q q =>
 ev_attrT (A hh hi _ fun h1 i1=>get_bm_set ((hi.trans i1).fset hv) (q h1 i1)) hb
theorem pf_bmD {S:SysIn C} {v d:V} {k:Key} {kvs:List (Key × V)} (hv:IsDct h v kvs):PF C (n+1) h (.bm "dict.get" v) [k.v,d] [] ((kget kvs k).getD d):=fun hb hi Q q=>cl_bm_get (S:=S) (hi.dct hv) (q _ (.refl _))
theorem pf_bmS {v:V} {k:Key} {ks:List Key} (hv:IsSet h v ks):PF C (n+1) h (.bm "set.__contains__" v) [k.v] [] (.bool (decide (k∈ks))):=fun hb hi Q q=>cl_bm_in (hi.fset hv) (q _ (.refl _))
noncomputable def updR:List Str→List V→Loc→Loc
 |x::xs,v::vs,l=>updR xs vs (upd x v l)
 |_,_,l=>l
theorem store_row {A:Around} {Q':Unit→Shared→Prop} {E:Value→Shared→Prop}:∀(ns:List Str) (vs:List V) (xs:List Value) (w:Wd) (loc:Loc),ns.length=vs.length→(∀x∈ns,F.env.kindOf x=some .local)→Rep C w h→Frm C w F loc→Concs C w.g w.ρ vs xs →
 (∀w',Ext C [F.env.locals] w w'→Rep C w' h→Frm C w' F (updR ns vs loc)→Q' () w'.s)→wpAny C.M A (assignInOrder (ns.map fun n=>bindName F.env n) xs) Q' E w.s
 |[],vs,xs,w,loc,hl,hk,R,f,c,k=>by
  cases vs with
  |cons _ _=>cases hl
  |nil=>cases c;exact Qr (k w .refl R f)
 |n::ns,vs,xs,w,loc,hl,hk,R,f,c,k=>by
  cases vs with
  |nil=>cases hl
  |cons v vs =>
   cases c with
   |cons c1 c2 =>
    show wpAny _ _ (do holding _ (bindName F.env n _);assignInOrder _ _) _ _ _
    refine Qw (Qf (wpAny_bindName (store_local R f c1 (hk n (by simp)) fun w1 e1 R1 f1=> ?_)))
    exact store_row ns vs _ w1 _ (by simpa using hl) (fun x hx=>hk x (by simp[hx])) R1 f1 (c2.ext e1) fun w2 e2 R2 f2=>k w2 (e1.trans e2) R2 f2
theorem Concs.reverse {g:G} {ρ:List Addr}:∀{vs:List V} {xs:List Value},Concs C g ρ vs xs→Concs C g ρ vs.reverse xs.reverse:=by
 have app:∀{a b:List V} {x y:List Value},Concs C g ρ a x→Concs C g ρ b y→Concs C g ρ (a++b) (x++y):=by
  intro a b x y h1 h2
  induction a generalizing x with
  |nil=>cases h1;exact h2
  |cons v a ih=>cases h1 with|cons c1 c2=>exact .cons c1 (ih c2)
 intro vs xs h
 induction vs generalizing xs with
 |nil=>cases h;exact .nil
 |cons v vs ih =>
  cases h with
  |cons c1 c2 =>
   rw[List.reverse_cons,List.reverse_cons]
   exact app (ih c2) (.cons c1 .nil)
theorem kx_swap {elts:List Expr} {k:Nat} {tp p:Pos} {e:Expr} {names:List Str} {vs:List V} (E:Pu C n F loc h e (.tup vs)) (H:KX C n F (updR names.reverse vs.reverse loc) h rest QF) (hn:names.length=vs.length) (hk:∀x∈names,F.env.kindOf x=some .local)
 (hs:autoParam (swapsWithSole [.Tuple elts k tp] e p.line F.env=pure false) aR) (hw:autoParam (swappedStores [.Tuple elts k tp] e F.env=pure (some names)) aR):KX C n F loc h (.Assign [.Tuple elts k tp] e p::rest) QF:=fun hb hi=>exs_cons ⟨fun A w Q' Ex a0 R f c=>by
 refine Assign_Tuple_swapped ((E hb hi (fun v h1=>v= .tup vs∧hb.In h1) fun h1 i1=>⟨rfl,i1⟩).run A w _ _ a0 R f fun x v h1 w1 ⟨hv,i1⟩ e1 R1 c1=> ?_) hs hw
 subst hv
 refine c1.eTup fun xs a o m hg hc hd cs=> ?_
 have hl:names.length=xs.toArray.size:=by rw[List.size_toArray,cs.length,hn]
 rw[hl]
 refine unpackItems_tuple a0.handled ⟨o,R1.keep _ _ hg,hc,m,hd⟩ fun h' hx=> ?_
 have hk1:∀b o,w1.s.heap.get? b=some o→h'.get? b=some o:=fun b o e=>hx b o (Qg (Heap.lt_size e)) e
 refine store_row (loc:=loc) names.reverse vs.reverse _ (w1.at h' w1.s.toks) (by simpa using hn) (fun x hx=>hk x (by simpa using hx)) (R1.grow hk1) ((f.ext0 e1).ext0 (Ext.grow hk1)) (by simpa using cs.reverse) fun w2 e2 R2 f2=> ?_
 exact c _ .next _ h1 w2 (H h1 (hi.trans i1)) (e1.wide.trans ((Ext.grow hk1).trans e2)) R2 f2 .next⟩
end
structure MatK (K:Frag) (C f sm:Addr):Prop where
 cls:∃cd sl,K.lookup C=some ⟨.type "type",none, .cls cd,sl⟩∧(sl.toList[4]?).join=some .none∧cd.mro=[.ref C, .type "tuple", .type "object"]∧cd.bases=[.type "tuple"]∧cd.hasDel=false∧cd.abstract=false
 call:specialIn K (.ref C) "__call__" = some (some (.builtin "type.__call__"))
 typ:instIn K (.ref C) (.type "type")=some true
 reads:readsIn K C (.type "type")=true
 new:findCls K (.ref C) (.type "type") "__new__" = some (.get (.builtin "staticmethod.__get__") (.ref sm) .none (.ref C))
 sm:recIn K sm "staticmethod" = some [.ref f]
 init:findIn K (.ref C) "__init__" = some (some (.builtin "object.__init__"))
section
variable {w:World} {K:Frag} {C f sm:Addr} {R:Result→Shared→Prop} {h:Heap} {g:Array GenState} {d:Drawn} {t:Nat} {os:OsState}
theorem MatK.mro {M:Model} {h:Heap} (Y:MatK K C f sm) (X:K.In h):Looks M h (mroOf (.ref C)) [.ref C, .type "tuple", .type "object"]:=by
 refine x_EEAAAAA Y.cls fun cd sl h1 h2 h3 h4 h5 h6=> ?_
 have hc:clsIn K C=some cd:=by unfold clsIn;rw[h1]
 rw[←h3]
 exact(looks_clsIn X hc).andThen .now
theorem MatK.madeBy {M:Model} {h:Heap} (Y:MatK K C f sm) (X:K.In h):Looks M h (Bind.madeBy (.ref C)) none:=by
 refine x_EEAAAAA Y.cls fun cd sl h1 h2 h3 h4 h5 h6=> ?_
 intro A Q E s k q
 unfold Bind.madeBy
 refine Qw (Y.mro X A _ E s k ?_)
 rw[List.forIn_cons]
 refine Qw (Qw (Qw (Qw (wpAny_loadPart (k _ _ (X _ _ h1)) (Qr ?_)))))
 dsimp only
 rw[←Array.getElem?_toList,h2]
 exact Qr (Qr (Qr q))
theorem oi_args4 (a b c e:Value):argsOk "object.__init__" ⟨[a,b,c,e],[]⟩:=by unfold argsOk;kernel_rfl
theorem make_match {a b c:Value} (Y:MatK K C f sm) (X:K.In h)
 (hq:codeAny (model prog w) (A.under (.builtin "type.__call__" ⟨[.ref C,a,b,c],[]⟩)) (.call (.ref f) ⟨[.ref C,a,b,c],[]⟩) (fun r s'=>match r with
  | .ok (.ret v)=>∃x ox,v= .ref x∧s'.heap.get? x=some ox∧ox.cls= .ref C∧K.In s'.heap∧R (.ok (.ret (.ref x))) s'
  | .ok _=>False
  | .error e=>R (.error e) s') ⟨h,g,d,t+1,os⟩) :
 codeAny (model prog w) A (.call (.ref C) ⟨[a,b,c],[]⟩) R ⟨h,g,d,t,os⟩:=by
 refine x_EEAAAAA Y.cls fun cd sl h1 h2 h3 h4 h5 h6=> ?_
 have made:=Y.madeBy (M:=model prog w) X
 have mro:=Y.mro (M:=model prog w) X
 have call:=looks_specialIn (M:=model prog w) X Y.call
 have typ:=looks_instIn (M:=model prog w) X Y.typ
 refine codeAny_of_tree ?_
 show wpAny _ _ (callAny (.ref C) _) _ _ _
 refine nd_load (X _ _ h1) ?_
 show wpAny _ _ (callAny.viaDunder (.ref C) _) _ _ _
 unfold callAny.viaDunder
 refine Qw (call.at ?_)
 dsimp only
 rw[tc_bind]
 refine Qw (Qr (Qw (Qr ?_)))
 refine Qr (a:=Fin.again (.call (.builtin "type.__call__") ⟨[.ref C,a,b,c],[]⟩)) (And.intro rfl ?_)
 refine codeAny_call_builtin_at (Code.quiet_builtin _ (by decide +kernel)) entry_typeCall (check_slot tc_kind tc_split typ (tc_args _ _ _) ?_)
 unfold Builtin.«type.__call__»
 refine Qw (mro.at ?_)
 rw[if_neg (by simp)]
 refine Qw (made.at ?_)
 dsimp only
 refine Qw (cls_bind (s:=⟨h,g,d,t,os⟩) X Y.reads Y.new (wpAny_call (sm_get X Y.sm (handed_on rfl ?_))))
 refine Qw (Qf (wpAny_call (codeAny_mono hq fun r s' z=> ?_)))
 rcases r with e|(v|_|_|_)<;>first|exact z|exact z.elim|skip
 refine x_EEAAAA z ?_;clear z;intro x ox z110 hx hc X2 z;subst z110
 obtain⟨h',g',d',t',os'⟩:=s'
 have mro2:=Y.mro (M:=model prog w) X2
 have made2:=Y.madeBy (M:=model prog w) X2
 have ty:Looks (model prog w) h' (typeOf (.ref x)) (.ref C):=hc▸(Looks.ld hx).andThen .now
 have ini:=looks_findIn (M:=model prog w) X2 Y.init
 have sub:∀{T:Value} {b:Bool},[Value.ref C, .type "tuple", .type "object"].contains T=b→Looks (model prog w) h' (isSubtype (.ref C) T) b:=fun{T b} e=>by
  unfold isSubtype
  refine mro2.andThen ?_
  dsimp only
  rw[if_neg (by simp),e]
  exact .now
 have i1:Looks (model prog w) h' (isInstance (.ref x) (.ref C)) true:=ty.andThen (sub (by simp))
 have i2:Looks (model prog w) h' (isInstance (.ref x) (.type "object")) true:=ty.andThen (sub (by simp))
 refine Qw (i1.at ?_)
 rw[if_neg (by simp)]
 refine Qw (Qf (Qw (Qw (ty.at (ini.at ?_)))))
 dsimp only
 refine Qf ?_
 rw[oi_bind]
 refine Qw (Qr (Qw (wpAny_call ?_)))
 refine codeAny_call_builtin oi_plain entry_oi (@check_slot (model prog w) _ _ _ "object.__init__" "object" "__init__" (.ref x) [a,b,c] [] _ oi_kind oi_split i2 (oi_args4 _ _ _ _) ?_)
 unfold Builtin.«object.__init__»
 refine Qw (ty.at (Qw (ini.at ?_)))
 refine Qw (made2.at ?_)
 repeat (first|k_node|exact And.intro rfl z)
 exact z
end
theorem bb_tuple:Builtin.Slots.bestBase [.type "tuple"]=pure (.type "tuple"):=by kernel_rfl
theorem tn_kind:builtinKind "tuple.__new__" = some .builtinFn:=by decide +kernel
theorem tn_split:splitId "tuple.__new__" = some ("tuple", "__new__"):=by decide +kernel
theorem tn_plain:plainId "tuple.__new__" = true:=by decide +kernel
noncomputable def tnSig:Manifest.Signature:=((Manifest.signature? "tuple.__new__").getD ⟨.hand, "", "", .none,[]⟩)
theorem tn_sig:Manifest.signature? "tuple.__new__" = some tnSig:=by
 have:(Manifest.signature? "tuple.__new__").isSome=true:=by decide +kernel
 refine x_E (Option.isSome_iff_exists.mp this) fun x hx=> ?_
 unfold tnSig;rw[hx];rfl
theorem tn_args (C p:Value):Bind.checkArgs "tuple.__new__" tnSig ⟨[C,p],[]⟩=pure ():=by kernel_rfl
theorem sub_tup:isSubtype (.type "tuple") (.type "tuple")=pure true:=by rw[isSubtype_type];kernel_rfl
section
variable {w:World} {K:Frag} {C f sm:Addr} {R:Result→Shared→Prop} {h:Heap} {g:Array GenState} {d:Drawn} {t:Nat} {os:OsState}
theorem MatK.base {M:Model} {h:Heap} (Y:MatK K C f sm) (X:K.In h):Looks M h (Bind.staticBase (.ref C)) (.type "tuple"):=by
 have made:=Y.madeBy (M:=M) X
 refine x_EEAAAAA Y.cls fun cd sl h1 h2 h3 h4 h5 h6=> ?_
 have hc:clsIn K C=some cd:=by unfold clsIn;rw[h1]
 have lc:=looks_clsIn (M:=M) X hc
 have lm:=PySem.F.called_tuple.made
 intro A Q E s k q
 unfold Bind.staticBase
 refine Qw (Y.mro X A _ E s k ?_)
 rw[List.forIn_cons]
 refine Qw (Qw ?_)
 dsimp only
 refine Qw (made A _ E s k ?_)
 rw[if_neg (by simp)]
 refine Qw (lc A _ E s k ?_)
 rw[h4,bb_tuple]
 refine Qw (Qr (Qr ?_))
 dsimp only
 rw[List.forIn_cons]
 refine Qw ?_
 dsimp only
 rw[lm]
 exact Qw (Qr (Qr (Qr (Qr q))))
theorem tuple_new {p:Addr} {o:Obj} {items:Array Value} {n:Nat} (Y:MatK K C f sm) (X:K.In h) (ho:h.get? p=some o) (hc:o.cls= .type "tuple") (hd:o.data= .seq items n) (hz:items.size≤Qc)
 (q:∀h':Heap,(∀b o',h.get? b=some o'→h'.get? b=some o')→R (.ok (.ret (.ref (h'.push {cls:= .type "dict",data:= .dict #[] }).objs.size))) ⟨(h'.push {cls:= .type "dict",data:= .dict #[] }).push {cls:= .ref C,dict:=some h'.objs.size,data:= .seq items },g,d,t,os⟩) :
 codeAny (model prog w) A (.call (.builtin "tuple.__new__") ⟨[.ref C, .ref p],[]⟩) R ⟨h,g,d,t,os⟩:=by
 have mro:=Y.mro (M:=model prog w) X
 have base:=Y.base (M:=model prog w) X
 have ini:=looks_findIn (M:=model prog w) X Y.init
 refine x_EEAAAAA Y.cls fun cd sl h1 h2 h3 h4 h5 h6=> ?_
 have hcl:=X _ _ h1
 have lm:=PySem.F.called_tuple.made
 have sub:Looks (model prog w) h (isSubtype (.ref C) (.type "tuple")) true:=by
  unfold isSubtype
  refine mro.andThen ?_
  dsimp only
  rw[if_neg (by simp)]
  exact Looks.of_pure (by simp)
 have isT:Looks (model prog w) h (isType (.ref C)) true:=(Looks.ld hcl).andThen .now
 refine codeAny_call_builtin tn_plain PySem.F.entry_tuple_new ?_
 simp only[checkBuiltinCall,tn_kind,tn_split,tn_sig]
 have lmL:Looks (model prog w) h (Bind.madeBy (.type "tuple")) (some "tuple.__new__"):=Looks.of_pure lm
 rw[tn_args]
 have hb:wpAny (model prog w) A.in1 (Builtin.«tuple.__new__» ⟨[.ref C, .ref p],[]⟩) (fun fin s'=>match fin with | .done f=>R (.ok f) s' | .again c'=>c'.quiet=true∧codeAny (model prog w) A c' R s') (fun e s'=>R (.error e) s') ⟨h,g,d,t,os⟩:=by
  unfold Builtin.«tuple.__new__»
  refine Qw (isT.at ?_)
  rw[if_neg (by simp)]
  refine Qw (sub.at ?_)
  rw[if_neg (by simp)]
  have mh:Looks (model prog w) h (Bind.madeHere "tuple.__new__" (.ref C)) ():=base.andThen (lmL.andThen (Looks.of_pure (by simp)))
  refine Qw (mh.at ?_)
  refine Qw (ini.at ?_)
  rw[if_pos (by simp)]
  refine Qw (Qr (Qw ?_))
  rw[show checkCount "tuple" 0 1 ([Value.ref p]:List Value).length=pure () from by kernel_rfl]
  refine Qr ?_
  dsimp only
  rw[if_neg (by simp)]
  refine Qw (wpAny_collect_seq (s:=⟨h,g,d,t,os⟩) p (.inr rfl) ho hc hd (fun h' hk=> ?_) hz)
  have ea:items.toList.toArray=items:=by simp
  refine Qw (Qr (Qw (wpAny_alloc (Qw ?_))))
  rw[ea]
  unfold newObj
  dsimp only
  rw[if_neg (Nat.not_lt.mpr hz)]
  show wpAny _ _ (newObjAsIs _ _ _) _ _ _
  unfold newObjAsIs classHasDel
  refine Qw (wpAny_alloc (Qw (Qw (wpAny_load (Qd _ (Qd _ (hk _ _ hcl))) (Qr ?_)))))
  rw[h5]
  exact Qr (Qr (q h' hk))
 generalize Builtin.«tuple.__new__» ⟨[.ref C, .ref p],[]⟩=bu at hb
 repeat (first|exact hb|simp only[bne_self_eq_false,Qm,if_false]|lk)
end
section
theorem type_tuple:typeOf (.type "tuple")=pure (.type "type"):=by rw[typeOf];kernel_rfl
theorem stub_tuple:Manifest.isStub "tuple" = false:=by decide +kernel
theorem find_tup_new:findCls [] (.type "tuple") (.type "type") "__new__" = some (.val (.builtin "tuple.__new__")):=by kernel_rfl
theorem pm_tup_new:PM C n h (.ty "tuple") "__new__" (.blt "tuple.__new__") []:=⟨kp_blt,fun hb hi Q q=>⟨fun A w Q' E x pl a0 R cx c=>by
 refine eqE cx.toInv ?_
 have X:Frag.In [] w.s.heap:=fun _ _ e=>by cases e
 have hstub:opaqueClassAbove (.type "tuple")=pure none:=by unfold opaqueClassAbove;dsimp only;rw[stub_tuple];rfl
 have L0:Looks (model C.prog C.w) w.s.heap (typeOf (.type "tuple")) (.type "type"):=Looks.of_pure type_tuple
 have hg:findIn [] (.type "type") "__getattribute__" = some (some (.builtin "type.__getattribute__")):=type_tga
 unfold getMethod specialOf
 refine Qw (Qw (L0.here ((looks_findIn X hg).here ?_)))
 dsimp only
 rw[if_pos canon_tga]
 refine Qw ?_
 have LO:Looks (model C.prog C.w) w.s.heap (opaqueClassAbove (.type "tuple")) none:=Looks.of_pure hstub
 refine cls_open X LO L0 hg (looks_hook X (r:=none) (by rfl)) (by show subIn [] _ _=_;rfl) find_tup_new
  (Qr (by show wpAny _ _ (handedOut _) _ _ _;rw[handedOut_of (by rfl)];exact Qr (Qr (c _ _ _ _ _ (w.toks _) q .toks R.toks (.blt _) .nil))))⟩⟩
theorem pf_tup_new {K:Frag} {cl f sm:Addr} {xs:List V} (I:InC C K) (Y:MatK K cl f sm) (hz:xs.length≤Qc):PF C n h (.blt "tuple.__new__") [.top cl, .tup xs] [] (.mat cl xs):=fun hb hi Q q=>cl2 fun A w Q' E fx x y a0 R cf cx cy c=>by
 refine eqE cf.toInv ?_
 refine eqE cx.toInv ?_
 refine cy.eTup fun vs a o m hg hc hd cs=> ?_
 obtain⟨g,ρ,hh,gn,dr,t,os⟩:=w
 refine wpAny_call (tuple_new Y (I.here R) (R.keep _ _ hg) hc hd (by rw[List.size_toArray,cs.length];exact hz) fun h' hk=> ?_)
 have R1:=R.grow (k:=t) hk
 have hn1:h'.get? h'.objs.size=none:=fresh_none (Qt _)
 have R2:=R1.frozen (k:=t) hn1 (push_keeps (o:={cls:= .type "dict",data:= .dict #[] })) (Qu _ rfl)
 have hn2:(h'.push {cls:= .type "dict",data:= .dict #[] }).get? (h'.push {cls:= .type "dict",data:= .dict #[] }).objs.size=none:=fresh_none (Qt _)
 have R3:=R2.frozen (k:=t) hn2 (push_keeps (o:={cls:= .ref cl,dict:=some h'.objs.size,data:= .seq vs.toArray })) (Qu _ rfl)
 have e1:=Ext.grow (C:=C) (X:=[]) (w:=⟨g,ρ,⟨hh,gn,dr,t,os⟩⟩) (k:=t) hk
 have e2:=Ext.frozen (C:=C) (X:=[]) (k:=t) (o:={cls:= .type "dict",data:= .dict #[] }) R1 hn1 (push_keeps (o:={cls:= .type "dict",data:= .dict #[] }))
 have e3:=Ext.frozen (C:=C) (X:=[]) (k:=t) (o:={cls:= .ref cl,dict:=some h'.objs.size,data:= .seq vs.toArray }) R2 hn2 (push_keeps (o:={cls:= .ref cl,dict:=some h'.objs.size,data:= .seq vs.toArray }))
 exact c _ _ _ _ (q _ (.refl _)) (e1.trans (e2.trans e3)) R3 (.mat gset_self (e3.sub _ _ gset_self) (cs.ext (e1.trans (e2.trans e3))))
theorem cl_match {K:Frag} {cl f sm:Addr} {a b c:V} (I:InC C K) (Y:MatK K cl f sm) (H:Cd C n h f [.top cl,a,b,c] [] fun v h2=>∃xs,v= .mat cl xs∧Q v h2):Cl C (n+1) h (.top cl) [a,b,c] [] Q:=⟨fun A w Q' E fx xs ks a0 R cf cx hk ck k=>by
 refine eqE cf.toInv ?_
 refine x_EEAA (cs_cons cx) fun x1 r1 e1 cX cn=> ?_
 clear cx
 subst e1
 have ca:=cX
 refine cn.e fun x2 r2 cb cn=> ?_
 refine cn.e fun x3 r3 cc cn=> ?_
 refine cn.e0 ?_
 refine kw0E hk ?_
 · · · · obtain ⟨g, ρ, hh, gn, dr, t, os⟩ := w
         refine wpAny_call (make_match Y (I.here R) ?_)
         refine H.run _ (Wd.toks ⟨g,ρ,hh,gn,dr,t,os⟩ (t+1)) _ _ [] a0.tc R.toks (.cons (.top _) (.cons ca (.cons cb (.cons cc .nil)))) rfl .nil fun r v h2 w2 ⟨ys,hv,q2⟩ e2 R2 c2=> ?_
         subst hv
         refine x_EEEAAA (id c2.toInv) fun vs x dx z111 hg hgd cs=> ?_;subst z111
         exact⟨x,_,rfl,R2.keep _ _ hg,rfl,I.here R2,k _ _ h2 w2 q2 (Ext.toks.trans e2) R2 c2⟩⟩
theorem kp_match {K:Frag} {cl f sm:Addr} (I:InC C K) (Y:MatK K cl f sm):Kp C (.top cl):=fun w h fx R c=>by
 refine eqE c.toInv ?_
 refine x_EEA Y.cls fun cd sl h1 _=> ?_
 have call:=looks_specialIn (M:=C.M) (I.here R) Y.call
 refine⟨.machine,fun A Q E s' hk q=> ?_⟩
 unfold keeperOf
 refine Qw (wpAny_load (hk _ _ (I.here R _ _ h1)) ?_)
 refine Qw (call A _ E s' hk ?_)
 exact Qr q
end
section
theorem EvB.locs {e:Expr} {l0:Loc} {QB QB':Bool→Hs→Prop} (H:EvB C n F l0 h e QB) (ls:LocSub l0 loc) (k:∀b h',QB b h'→QB' b h'):EvB C n F loc h e QB':=⟨fun A w Q' E a R f c=>H.run A w Q' E a R (f.sub ls) fun b h1 w1 q=>c b h1 w1 (k _ _ q)⟩
theorem kx_while {t:Expr} {b:List Stmt} {p:Pos} (I:Nat→Loc→Hs→Prop) (k:Nat) (h0:I k loc h)
 (H:∀k l hk,I k l hk→∃c,PuB C n F l hk t c∧(c=true→KX C n F l hk b fun fl l3 h3=>match fl with
  | .next | .cont=>∃k' l' hk',k'<k∧LocSub l' l3∧hk'.In h3∧I k' l' hk'
  | .brk=>KX C n F l3 h3 rest QF
  | .ret u=>QF (.ret u) l3 h3)∧(c=false→KX C n F l hk rest QF)):KX C n F loc h (.While t b [] p::rest) QF:=fun hb hi =>
 exs_cons (ex_while (fun k l h'=>∃l0 hk,LocSub l0 l∧hk.In h'∧I k l0 hk) k ⟨loc,h, .refl _,hi,h0⟩ fun k l h' ⟨l0,hk,ls,hi',hI⟩=>by
  refine x_EAA (H k l0 hk hI) fun c T A B=> ?_
  refine EvB.locs (T h' hi' (fun b h1=>b=c∧h'.In h1) fun h1 i1=>⟨rfl,i1⟩) ls ?_
  rintro b h1 ⟨rfl,i1⟩
  cases b with
  |false =>
   simp only[Qm,if_false]
   exact Exs.pre2 (B rfl h1 (hi'.trans i1)) ls (.refl _)
  |true =>
   simp only[if_true]
   refine Exs.pre2 ((A rfl h1 (hi'.trans i1)).mono fun fl l3 h3 q=> ?_) ls (.refl _)
   cases fl with
   |next=>refine x_EEEAAA q fun k' l' hk' z1 z2 z3 z4=> ?_;exact⟨k',z1,l',hk',z2,z3,z4⟩
   |cont=>refine x_EEEAAA q fun k' l' hk' z1 z2 z3 z4=> ?_;exact⟨k',z1,l',hk',z2,z3,z4⟩
   |brk=>exact q h3 (.refl _)
   |ret u=>exact q)
theorem notPyU_Q {v:V} {ks:List Key} (hv:IsSq h v ks):NotPyU C h v:=notPyU_lst hv.lst
theorem p2_getQ {v:V} {ks:List Key} {i:Int} {j:Nat} {k:Key} (hv:IsSq h v ks) (hi:i=(j:Int)) (hk:ks[j]? =some k) (hz:ks.length≤10000):P2 C n getItem h v (.int i) k.v:=by
 subst hi
 exact p2_getlN (IsSq.lst hv) (by rw[Qo];exact sizeOk hz) (by rw[Qb,hk];rfl)
theorem p2_eqK {a b:Key}:P2 C n (QQ .Eq) h a.v b.v (.bool (decide (a=b))):=by
 cases a with
 |i x=>cases b with
  |i y =>
   have:=p2_eqi (C:=C) (n:=n) (h:=h) (a:=x) (b:=y)
   have e:(x==y)=decide (Key.i x=Key.i y):=by by_cases q:x=y<;>simp[q]
   rw[e] at this;exact this
  |s y =>
   exact fun hb hi Q q=>op2_pure (q _ (.refl _)) fun A w Q' E x' y' a0 R c1 c2 k=>by
    refine x_E c1.toInv fun _ z112=> ?_;subst z112
    refine x_E c2.toInv fun _ z113=> ?_;subst z113
    exact EqMixed.eq_int_str (k (.bool false) w.s.toks (.bool _))
 |s x=>cases b with
  |i y =>
   exact fun hb hi Q q=>op2_pure (q _ (.refl _)) fun A w Q' E x' y' a0 R c1 c2 k=>by
    refine x_E c1.toInv fun _ z114=> ?_;subst z114
    refine x_E c2.toInv fun _ z115=> ?_;subst z115
    exact EqMixed.eq_str_int (k (.bool false) w.s.toks (.bool _))
  |s y =>
   have:=p2_eqS (C:=C) (n:=n) (h:=h) (a:=x.cps.toList) (b:=y.cps.toList)
   have e:decide (x.cps.toList=y.cps.toList)=decide (Key.s x=Key.s y):=by
    rw[decide_eq_decide,Key.s.injEq]
    constructor
    ·intro q;cases x;cases y;simp only[Str.mk.injEq];exact Array.ext' q
    ·rintro rfl;rfl
   rw[e] at this;exact this
theorem pm_dget {v:V} {kvs:List (Key × V)} (hv:IsDct h v kvs):PM C n h v "get" (.blt "dict.get") [v]:=⟨kp_blt,fun hb hi Q q=>mth_dct (hi.dct hv) PySem.F.slot_dict_get (by first|exact PySem.F.type_dict_get|(show builtinType _=_;rw[builtinType_eq_fast];kernel_rfl)) q⟩
theorem pf_dget2 {S:SysIn C} {v d:V} {k:Key} {kvs:List (Key × V)} (hv:IsDct h v kvs):PF C n h (.blt "dict.get") [v,k.v,d] [] ((kget kvs k).getD d):=fun hb hi Q q=>cl_dct_get2 (S:=S) (hi.dct hv) (q _ (.refl _))
end
section
theorem pf_min2 {a b:Int}:PF C n h (.blt "min") [.int a, .int b] [] (.int (min a b)):=fun hb hi Q q=>cl2 fun A w Q' E fx x y a0 R cf cx cy c=>by
 refine eqE cf.toInv ?_
 refine cx.eInt fun t=> ?_
 refine cy.eInt fun u=> ?_
 refine min_two_ints (s:=w.s) a0.handled fun h' tk hk=> ?_
 have k:=fun t'=>c (.int (min a b) t') (.int (min a b)) hb (w.at h' tk) (q _ (.refl _)) (Ext.grow hk) (R.grow hk) (.int _ t')
 by_cases z:b<a
 · rw[if_pos z]
   have:=k u
   rw[Int.min_eq_right (by omega)] at this;exact this
 · rw[if_neg z]
   have:=k t
   rw[Int.min_eq_left (by omega)] at this;exact this
theorem IsLst.at2 {w:Wd} {v:V} {xs:List V} {x:Value} (hv:IsLst h v xs) (R:Rep C w h) (c:Conc C w.g w.ρ v x):∃a vs n,x= .ref a∧w.s.heap.get? a=some {cls:= .type "list",data:= .seq vs n }∧Concs C w.g w.ρ xs vs.toList:=by
 cases v<;>first|exact hv.elim|skip
 · refine c.eRef fun a hi=> ?_
   refine x_EA (R.obj _ a hi) fun o ho hA=> ?_
   have hv:h.σ _= .list xs:=hv
   rw[hv] at hA
   refine x_EEA hA fun vs n z116 cs=> ?_;subst z116
   exact⟨a,vs,n,rfl,ho,cs⟩
 · refine c.eLst fun vs a n hg cs=> ?_
   have hv:_=xs:=hv
   subst hv
   exact⟨a,vs.toArray,n,rfl,R.keep _ _ hg,by simpa using cs⟩
end
theorem MatK.obj {K:Frag} {cl f sm:Addr} (Y:MatK K cl f sm) {M:Model} {h:Heap} (X:K.In h) {x dx:Addr} {vs:List Value} (hg:h.get? x=some ⟨.ref cl,some dx, .seq vs.toArray 0,#[]⟩) :
 Looks M h (typeOf (.ref x)) (.ref cl)∧Looks M h (isInstance (.ref x) (.type "tuple")) true:=by
 have ty:Looks M h (typeOf (.ref x)) (.ref cl):=(Looks.ld hg).andThen .now
 have mro:=Y.mro (M:=M) X
 refine⟨ty,ty.andThen ?_⟩
 unfold isSubtype
 refine mro.andThen ?_
 dsimp only
 rw[if_neg (by simp)]
 exact Looks.of_pure (by simp)
section
variable {K:Frag} {cl f sm:Addr}
end
noncomputable def rl (P:Nat→Nat→Bool) (alo blo:Nat):Nat→Nat→Nat
 |0,j=>if alo≤0∧blo≤j∧P 0 j=true then 1 else 0
 |i+1,j=>if alo≤i+1∧blo≤j∧P (i+1) j=true then(if j=0 then 0 else rl P alo blo i (j-1))+1 else 0
noncomputable def bst (P:Nat→Nat→Bool) (alo blo:Nat) (i:Nat) (st:Nat × Nat × Nat) (j:Nat):Nat × Nat × Nat :=
 if st.2.2<rl P alo blo i j then(i+1-rl P alo blo i j,j+1-rl P alo blo i j,rl P alo blo i j) else st
noncomputable def rowJ (P:Nat→Nat→Bool) (lb blo bhi i:Nat):List Nat:=(Wo lb).filter fun j=>P i j&&decide (blo≤j)&&decide (j<bhi)
noncomputable def rowB (P:Nat→Nat→Bool) (alo lb blo bhi:Nat) (st:Nat × Nat × Nat) (i:Nat):Nat × Nat × Nat:=(rowJ P lb blo bhi i).foldl (bst P alo blo i) st
noncomputable def best (P:Nat→Nat→Bool) (lb alo ahi blo bhi:Nat):Nat × Nat × Nat:=((Wo (ahi-alo)).map (alo+·)).foldl (rowB P alo lb blo bhi) (alo,blo,0)
noncomputable def back (Q:Nat→Nat→Bool) (alo blo:Nat):Nat→Nat→Nat→Nat × Nat × Nat
 |0,j,s=>(0,j,s)
 |i+1,j,s=>if alo<i+1∧blo<j∧Q i (j-1)=true then back Q alo blo i (j-1) (s+1) else(i+1,j,s)
noncomputable def fwd (Q:Nat→Nat→Bool) (ahi bhi i j:Nat):Nat→Nat→Nat
 |0,s=>s
 |f+1,s=>if i+s<ahi∧j+s<bhi∧Q (i+s) (j+s)=true then fwd Q ahi bhi i j f (s+1) else s
noncomputable def flm (P Q:Nat→Nat→Bool) (lb alo ahi blo bhi:Nat):Nat × Nat × Nat :=
 let b:=best P lb alo ahi blo bhi
 let b:=back P alo blo b.1 b.2.1 b.2.2
 let b:=back Q alo blo b.1 b.2.1 (fwd P ahi bhi b.1 b.2.1 ahi b.2.2)
 (b.1,b.2.1,fwd Q ahi bhi b.1 b.2.1 ahi b.2.2)
section
variable {P Q:Nat→Nat→Bool} {alo ahi blo bhi lb:Nat}
theorem rl_off {i j:Nat} (h:¬(alo≤i∧blo≤j∧P i j=true)):rl P alo blo i j=0:=by
 cases i<;>(unfold rl;rw[if_neg h])
theorem rl_on {i j:Nat} (h:alo≤i∧blo≤j∧P i j=true):rl P alo blo i j=(if i=0∨j=0 then 0 else rl P alo blo (i-1) (j-1))+1:=by
 cases i with
 |zero=>unfold rl;rw[if_pos h];simp
 |succ i =>
  rw[rl,if_pos h]
  by_cases hj:j=0
  ·simp[hj]
  ·simp[hj]
theorem mem_rowJ {i j:Nat}:j∈rowJ P lb blo bhi i↔j<lb∧P i j=true∧blo≤j∧j<bhi:=by
 simp only[rowJ,Wp,List.mem_range,Bool.and_eq_true,decide_eq_true_eq];constructor<;>(rintro⟨a,b⟩;simp_all)
end
noncomputable def mE (ka kb:List Key) (i j:Nat):Bool:=match ka[i]?,kb[j]? with
 |some x,some y=>decide (x=y)
 |_,_=>false
noncomputable def mJ (junk:List Key) (kb:List Key) (j:Nat):Bool:=match kb[j]? with
 |some y=>decide (y∈junk)
 |none=>false
noncomputable def mP (junk ka kb:List Key) (i j:Nat):Bool:= !mJ junk kb j&&mE ka kb i j
noncomputable def mQ (junk ka kb:List Key) (i j:Nat):Bool:=mJ junk kb j&&mE ka kb i j
noncomputable def rowL (junk ka kb:List Key) (i:Nat):List Nat:=(Wo kb.length).filter (mP junk ka kb i)
noncomputable def TabOf (junk kb:List Key) (D:List (Key × V)):Prop:=∀k,kget D k=if k∈kb∧k∉junk then some (.lst (intsV (places kb k))) else none
theorem row_get {junk ka kb:List Key} {D:List (Key × V)} (hD:TabOf junk kb D) {i:Nat} {x:Key} (hx:ka[i]? =some x):(kget D x).getD (.lst [])= .lst (intsV (rowL junk ka kb i)):=by
 rw[hD x]
 by_cases h:x∈kb∧x∉junk
 · rw[if_pos h,Option.getD_some]
   have e:places kb x=rowL junk ka kb i:=List.filter_congr fun j hj=>by
    unfold mP mJ mE
    rw[hx]
    cases hb:kb[j]? with
    |none=>simp
    |some y =>
     by_cases q:x=y
     ·subst q;simp[h.2]
     · have q':y≠x:=fun z=>q z.symm
       simp[q,q']
   rw[e]
 · rw[if_neg h,Option.getD_none]
   have e:rowL junk ka kb i=[]:=List.filter_eq_nil_iff.mpr fun j hj=>by
    unfold mP mJ mE
    rw[hx]
    cases hb:kb[j]? with
    |none=>simp
    |some y =>
     have hm:y∈kb:=Qa hb
     by_cases q:x=y
     · subst q
       have:x∈junk:=by rcases Classical.em (x∈junk) with z|z;exact z;exact absurd ⟨hm,z⟩ h
       simp[this]
     ·simp[q]
   rw[e];rfl
theorem rowL_asc {junk ka kb:List Key} {i:Nat}:(rowL junk ka kb i).Pairwise (· < ·):=List.Pairwise.filter _ List.pairwise_lt_range
theorem rowL_lt {junk ka kb:List Key} {i j:Nat} (h:j∈rowL junk ka kb i):j<kb.length∧mP junk ka kb i j=true:=by
 simpa [rowL] using h
theorem rowJ_eq {junk ka kb:List Key} {blo bhi i:Nat}:rowJ (mP junk ka kb) kb.length blo bhi i=(rowL junk ka kb i).filter fun j=>decide (blo≤j)&&decide (j<bhi):=by
 unfold rowJ rowL
 rw[List.filter_filter]
 exact List.filter_congr fun j _=>by cases mP junk ka kb i j<;>simp
noncomputable def rowV (f:Nat→Nat) (l:List Nat):List (Key × V):=l.map fun(j:Nat)=>(Key.i (j:Int),V.int ((f j:Nat):Int))
theorem rowV_keys (f:Nat→Nat) (l:List Nat):(rowV f l).map (·.1)=l.map fun(j:Nat)=>Key.i (j:Int):=by simp[rowV]
theorem rowV_get (f:Nat→Nat) (z:Int):∀l:List Nat,kget (rowV f l) (.i z)=if 0≤z∧z.toNat∈l then some (.int ((f z.toNat:Nat):Int)) else none
 |[]=>by simp[rowV,kget]
 |j::l=>by
  have ih:=rowV_get f z l
  have e:kget (rowV f (j::l)) (.i z)=if Key.i (j:Int)=Key.i z then some (V.int ((f j:Nat):Int)) else kget (rowV f l) (.i z):=by
   simp only[rowV,Q3,kget,List.find?_cons]
   by_cases q:Key.i (j:Int)=Key.i z<;>simp[q]
  rw[e,ih]
  by_cases q:(j:Int)=z
  ·subst q;simp
  · have q1:Key.i (j:Int)≠Key.i z:=by simpa using q
    rw[if_neg q1]
    by_cases h0:0≤z
    · have:z.toNat≠j:=by omega
      simp[this]
    ·simp[h0]
theorem rowV_snoc (f:Nat→Nat) {l:List Nat} {j:Nat} (h:j∉l):kput (rowV f l) (.i (j:Int)) (.int ((f j:Nat):Int))=rowV f (l++[j]):=by
 rw[kput_new,rowV,rowV,Wt];rfl
 rw[rowV_keys]
 intro hm
 refine x_EA (QO.mp hm) fun a h1 h2=> ?_
 have : a = j := by have h3 : (a : Int) = (j : Int) := by simpa using h2
                    omega
 exact h (this▸h1)
theorem done_break {l:List Nat} {t blo bhi:Nat} (h1:∀j∈l.take t,blo≤j→j<bhi) (h2:∀j∈l.drop t,bhi≤j):(l.filter fun j=>decide (blo≤j)&&decide (j<bhi))=(l.take t).filter fun j=>decide (blo≤j):=by
 conv=>lhs;rw[←List.take_append_drop t l]
 rw[List.filter_append]
 have e1:((l.take t).filter fun j=>decide (blo≤j)&&decide (j<bhi))=(l.take t).filter fun j=>decide (blo≤j):=List.filter_congr fun j hj=>by
  by_cases q:blo≤j
  ·simp[q,h1 j hj q]
  ·simp[q]
 have e2:((l.drop t).filter fun j=>decide (blo≤j)&&decide (j<bhi))=[]:=List.filter_eq_nil_iff.mpr fun j hj=>by
  have:=h2 j hj;simp;omega
 rw[e1,e2,Q4]
theorem asc_drop {l:List Nat} {t j:Nat} (ha:l.Pairwise (· < ·)) (hj:l[t]? =some j):∀x∈l.drop t,j≤x:=by
 intro x hx
 have hd:l.drop t=j::l.drop (t+1):=by
  rw[←List.getElem_cons_drop (Qp.mp hj).1,(Qp.mp hj).2]
 have ha':(l.drop t).Pairwise (· < ·):=ha.sublist (List.drop_sublist _ _)
 rw[hd] at ha' hx
 rcases QY.mp hx with rfl|h
 ·exact Qt _
 ·exact Qx ((List.pairwise_cons.mp ha').1 x h)
theorem asc_take {l:List Nat} {t j:Nat} (ha:l.Pairwise (· < ·)) (hj:l[t]? =some j):∀x∈l.take t,x<j:=by
 intro x hx
 obtain⟨i,hi⟩:=List.getElem?_of_mem hx
 have hlt:i<t:=by
  have:=(Qp.mp hi).1
  rw[List.length_take] at this;exact Qy this (Nat.min_le_left ..)
 rw[List.getElem?_take_of_lt hlt] at hi
 obtain⟨h1,e1⟩:=Qp.mp hi
 obtain⟨h2,e2⟩:=Qp.mp hj
 have:=List.pairwise_iff_getElem.mp ha i t h1 h2 hlt
 rw[e1,e2] at this
 exact this
noncomputable def prow (P:Nat→Nat→Bool) (lb alo blo bhi:Nat):Nat→List (Key × V)
 |0=>[]
 |k+1=>rowV (rl P alo blo (alo+k)) (rowJ P lb blo bhi (alo+k))
theorem toNatPred {j:Nat}:((j:Int)-1).toNat=j-1:=by
 cases j with
 |zero=>rfl
 |succ j=>exact congrArg Int.toNat (Int.add_sub_cancel (j:Int) 1)
theorem prow_get {P:Nat→Nat→Bool} {lb alo blo bhi k j:Nat} (hj:j<lb) (h1:blo≤j) (h2:j<bhi) (hp:P (alo+k) j=true) :
 ∃z:Nat,(kget (prow P lb alo blo bhi k) (.i ((j:Int)-1))).getD (.int 0)= .int (z:Int)∧rl P alo blo (alo+k) j=z+1:=by
 have hon:=rl_on (P:=P) (alo:=alo) (blo:=blo) (i:=alo+k) (j:=j) ⟨QP ..,h1,hp⟩
 cases k with
 |zero =>
  refine⟨0,rfl, ?_⟩
  rw[hon]
  split
  ·rfl
  ·rename_i hz;rw[rl_off (i:=alo+0-1) (alo:=alo) fun q=>absurd q.1 (Nat.not_le_of_lt (Nat.sub_one_lt fun e=>hz (.inl e)))]
 |succ k =>
  simp only[prow,rowV_get]
  have es:alo+(k+1)-1=alo+k:=rfl
  split
  · rename_i h
    have e:((j:Int)-1).toNat=j-1:=toNatPred
    refine⟨_,by rw[e];rfl, ?_⟩
    rw[hon,if_neg (fun z=>z.elim (Nat.succ_ne_zero _) fun z=>by subst z;exact absurd h.1 (by decide)),es]
  · rename_i h
    refine⟨0,rfl, ?_⟩
    rw[hon]
    split
    ·rfl
    · rename_i hz
      have e:((j:Int)-1).toNat=j-1:=toNatPred
      rw[es,rl_off (fun q=>h ⟨Int.sub_nonneg_of_le (Int.ofNat_le.mpr (Nat.pos_of_ne_zero fun z=>hz (.inr z))),by rw[e];exact mem_rowJ.mpr ⟨Qj (Nat.sub_le ..) hj,q.2.2,q.2.1,Qj (Nat.sub_le ..) h2⟩⟩)]
noncomputable def Run (P:Nat→Nat→Bool) (i j k:Nat):Prop:=∀t,t<k→P (i+t) (j+t)=true
structure Core (P:Nat→Nat→Bool) (alo ahi blo bhi:Nat) (st:Nat × Nat × Nat):Prop where
 zero:st.2.2=0→st.1=alo∧st.2.1=blo
 inw:alo≤st.1∧blo≤st.2.1∧(0<st.2.2→st.1+st.2.2≤ahi∧st.2.1+st.2.2≤bhi)
 run:Run P st.1 st.2.1 st.2.2
 most:∀i j,alo≤i→i+st.2.2+1≤ahi→blo≤j→j+st.2.2+1≤bhi→¬Run P i j (st.2.2+1)
 first:0<st.2.2→∀i j,alo≤i→i+st.2.2≤ahi→blo≤j→j+st.2.2≤bhi→Run P i j st.2.2→st.1<i∨(st.1=i∧st.2.1≤j)
section
variable {P Q:Nat→Nat→Bool} {alo ahi blo bhi lb:Nat}
theorem Run.zero {i j:Nat}:Run P i j 0:=fun t h=>absurd h (Q0 _)
theorem Run.less {i j k m:Nat} (h:Run P i j k) (hm:m≤k):Run P i j m:=fun t ht=>h t (Qy ht hm)
theorem Run.snoc {i j k:Nat} (h:Run P i j k) (q:P (i+k) (j+k)=true):Run P i j (k+1):=fun t ht=>by
 rcases Nat.lt_or_eq_of_le (Qv ht) with z|rfl
 ·exact h t z
 ·exact q
theorem rl_ge:∀(k a b:Nat),alo≤a→blo≤b→Run P a b (k+1)→k+1≤rl P alo blo (a+k) (b+k)
 |0,a,b,h1,h2,r=>by
  show 0+1≤rl P alo blo a b
  rw[rl_on ⟨h1,h2,r 0 (Nat.zero_lt_succ _)⟩]
  exact QC (Qz _)
 |k+1,a,b,h1,h2,r=>by
  have ih:=rl_ge k a b h1 h2 (r.less (Nat.le_succ _))
  rw[rl_on ⟨Nat.le_add_right_of_le h1,Nat.le_add_right_of_le h2,r (k+1) (Qk _)⟩,if_neg (fun z=>z.elim (Nat.succ_ne_zero _) (Nat.succ_ne_zero _))]
  exact QC ih
theorem rl_ends:∀i j:Nat,rl P alo blo i j=0∨∃a b k,i=a+k∧j=b+k∧alo≤a∧blo≤b∧Run P a b (k+1)∧rl P alo blo i j=k+1:=by
 have one:∀{i j:Nat},P i j=true→Run P i j 1:=fun{i j} h=>Run.zero.snoc (k:=0) h
 intro i
 induction i with
 |zero =>
  intro j
  by_cases h:alo≤0∧blo≤j∧P 0 j=true
  ·exact .inr ⟨0,j,0,rfl,rfl,h.1,h.2.1,one h.2.2,by rw[rl_on h,if_pos (.inl rfl)]⟩
  ·exact .inl (rl_off h)
 |succ i ih =>
  intro j
  by_cases h:alo≤i+1∧blo≤j∧P (i+1) j=true
  · right
    cases j with
    |zero=>exact⟨i+1,0,0,rfl,rfl,h.1,h.2.1,one h.2.2,by rw[rl_on h,if_pos (.inr rfl)]⟩
    |succ j =>
     have e:rl P alo blo (i+1) (j+1)=rl P alo blo i j+1:=by
      rw[rl_on h,if_neg (fun z=>z.elim (Nat.succ_ne_zero _) (Nat.succ_ne_zero _))];rfl
     rcases ih j with z|⟨a,b,k,rfl,rfl,h1,h2,r,z⟩
     ·exact⟨i+1,j+1,0,rfl,rfl,h.1,h.2.1,one h.2.2,by rw[e,z]⟩
     ·exact⟨a,b,k+1,rfl,rfl,h1,h2,r.snoc h.2.2,by rw[e,z]⟩
  ·exact .inl (rl_off h)
theorem rl_lt (i j:Nat):rl P alo blo i j≤i+1∧rl P alo blo i j≤j+1:=by
 rcases rl_ends (P:=P) (alo:=alo) (blo:=blo) i j with z|⟨a,b,k,rfl,rfl,_,_,_,z⟩
 ·rw[z];exact⟨Qz _,Qz _⟩
 ·rw[z];exact⟨QC (Q9 _ _),QC (Q9 _ _)⟩
structure BI (P:Nat→Nat→Bool) (alo blo:Nat) (D:Nat→Nat→Prop) (st:Nat × Nat × Nat):Prop where
 zero:st.2.2=0→st.1=alo∧st.2.1=blo
 inw:alo≤st.1∧blo≤st.2.1
 run:Run P st.1 st.2.1 st.2.2
 most:∀i j,D i j→rl P alo blo i j≤st.2.2
 last:∀k,st.2.2=k+1→D (st.1+k) (st.2.1+k)
 first:∀k,st.2.2=k+1→∀i j,D i j→k+1≤rl P alo blo i j→st.1+k<i∨(st.1+k=i∧st.2.1+k≤j)
theorem BI.step {D:Nat→Nat→Prop} {st:Nat × Nat × Nat} (B:BI P alo blo D st) {i j:Nat} (hD:∀i' j',D i' j'→i'<i∨(i'=i∧j'<j)) :
 BI P alo blo (fun i' j'=>D i' j'∨(i'=i∧j'=j)) (bst P alo blo i st j):=by
 unfold bst
 by_cases hlt:st.2.2<rl P alo blo i j
 · rw[if_pos hlt]
   rcases rl_ends (P:=P) (alo:=alo) (blo:=blo) i j with z|⟨a,b,k,rfl,rfl,h1,h2,r,z⟩
   ·rw[z] at hlt;exact absurd hlt (Q0 _)
   · rw[z] at hlt ⊢
     rw[show a+k+1-(k+1)=a from Nat.add_sub_cancel a (k+1),show b+k+1-(k+1)=b from Nat.add_sub_cancel b (k+1)]
     refine⟨fun z=>absurd z (Nat.succ_ne_zero _),⟨h1,h2⟩,r, ?_,fun k' e=> ?_,fun k' e i' j' hd hle=> ?_⟩
     · rintro i' j' (hd|⟨rfl,rfl⟩)
       ·exact Qx (Qj (B.most i' j' hd) hlt)
       ·exact QK z
     ·cases e;exact .inr ⟨rfl,rfl⟩
     · cases e
       rcases hd with hd|⟨rfl,rfl⟩
       ·exact absurd (Qy hlt hle) (Nat.not_lt_of_le (B.most i' j' hd))
       ·exact .inr ⟨rfl,Qt _⟩
 · rw[if_neg hlt]
   refine⟨B.zero,B.inw,B.run, ?_,fun k e=> .inl (B.last k e),fun k e i' j' hd hle=> ?_⟩
   · rintro i' j' (hd|⟨rfl,rfl⟩)
     ·exact B.most i' j' hd
     ·exact Nat.le_of_not_lt hlt
   · rcases hd with hd|⟨rfl,rfl⟩
     ·exact B.first k e i' j' hd hle
     · rcases hD _ _ (B.last k e) with z|⟨z1,z2⟩
       ·exact .inl z
       ·exact .inr ⟨z1,Qx z2⟩
theorem BI.eq {D D':Nat→Nat→Prop} {st:Nat × Nat × Nat} (B:BI P alo blo D st) (h:∀i j,D i j↔D' i j):BI P alo blo D' st :=
 ⟨B.zero,B.inw,B.run,fun i j d=>B.most i j ((h i j).mpr d),fun k e=>(h _ _).mp (B.last k e),fun k e i j d=>B.first k e i j ((h i j).mpr d)⟩
theorem BI.row {i:Nat}:∀(l:List Nat) {D:Nat→Nat→Prop} {st:Nat × Nat × Nat},l.Pairwise (· < ·)→(∀i' j',D i' j'→i'<i∨(i'=i∧∀j∈l,j'<j))→BI P alo blo D st →
 BI P alo blo (fun i' j'=>D i' j'∨(i'=i∧j'∈l)) (l.foldl (bst P alo blo i) st)
 |[],D,st,_,_,B=>B.eq fun i' j'=>by simp
 |j::l,D,st,hp,hD,B=>by
  refine x_A (List.pairwise_cons.mp hp) fun hp1 hp2=> ?_
  have B1:=B.step (i:=i) (j:=j) fun i' j' d=>(hD i' j' d).imp id fun z=>⟨z.1,z.2 j (List.mem_cons_self ..)⟩
  refine(BI.row l hp2 (fun i' j' d=> ?_) B1).eq fun i' j'=> ?_
  · rcases d with d|⟨rfl,rfl⟩
    ·exact(hD i' j' d).imp id fun z=>⟨z.1,fun x hx=>z.2 x (List.mem_cons_of_mem _ hx)⟩
    ·exact .inr ⟨rfl,hp1⟩
  ·rw[QY,or_assoc,and_or_left]
theorem win_succ {a k i:Nat} {X:Prop}:(a≤i∧i<a+(k+1)∧X)↔((a≤i∧i<a+k∧X)∨(i=a+k∧X)):=by
 constructor
 · rintro⟨h1,h2,h3⟩
   rcases Nat.lt_or_eq_of_le (Qv h2) with z|z
   ·exact .inl ⟨h1,z,h3⟩
   ·exact .inr ⟨z,h3⟩
 · rintro(⟨h1,h2,h3⟩|⟨rfl,h3⟩)
   ·exact⟨h1,Nat.lt_succ_of_lt h2,h3⟩
   ·exact⟨QP _ _,Qk _,h3⟩
theorem BI.rows (hlb:bhi≤lb):∀k,BI P alo blo (fun i j=>alo≤i∧i<alo+k∧blo≤j∧j<bhi) (((Wo k).map (alo+·)).foldl (rowB P alo lb blo bhi) (alo,blo,0))
 |0=>⟨fun _=>⟨rfl,rfl⟩,⟨Qt _,Qt _⟩,Run.zero,fun i j h=>absurd h.1 (Nat.not_le_of_lt h.2.1),fun k e=>absurd e.symm (Nat.succ_ne_zero _),fun k e=>absurd e.symm (Nat.succ_ne_zero _)⟩
 |k+1=>by
  rw[List.range_succ,Wt,List.foldl_append]
  have B:=BI.row (i:=alo+k) (rowJ P lb blo bhi (alo+k)) (List.Pairwise.filter _ List.pairwise_lt_range) (fun i' j' d=> .inl d.2.1) (BI.rows hlb k)
  refine(?_:∀st,BI P alo blo (fun i' j'=>(alo≤i'∧i'<alo+k∧blo≤j'∧j'<bhi)∨i'=alo+k∧j'∈rowJ P lb blo bhi (alo+k)) st→BI P alo blo (fun i j=>alo≤i∧i<alo+(k+1)∧blo≤j∧j<bhi) st) _ B
  intro st B
  have up:∀i j,((alo≤i∧i<alo+k∧blo≤j∧j<bhi)∨i=alo+k∧j∈rowJ P lb blo bhi (alo+k))→alo≤i∧i<alo+(k+1)∧blo≤j∧j<bhi:=fun i j d=>win_succ.mpr (d.imp id fun z=>⟨z.1,(mem_rowJ.mp z.2).2.2⟩)
  have dn:∀i j,(alo≤i∧i<alo+(k+1)∧blo≤j∧j<bhi)→((alo≤i∧i<alo+k∧blo≤j∧j<bhi)∨i=alo+k∧j∈rowJ P lb blo bhi (alo+k))∨rl P alo blo i j=0:=fun i j h=>by
   rcases win_succ.mp h with d|⟨d1,d2⟩
   ·exact .inl (.inl d)
   · by_cases hP:P i j=true
     ·exact .inl (.inr ⟨d1,mem_rowJ.mpr ⟨Qy d2.2 hlb,d1▸hP,d2⟩⟩)
     ·exact .inr (rl_off fun q=>hP q.2.2)
  refine⟨B.zero,B.inw,B.run,fun i j h=> ?_,fun m e=>up _ _ (B.last m e),fun m e i j h hle=> ?_⟩
  · rcases dn i j h with d|z
    ·exact B.most i j d
    ·rw[z];exact Qz _
  · rcases dn i j h with d|z
    ·exact B.first m e i j d hle
    ·rw[z] at hle;exact absurd hle (Nat.not_succ_le_zero _)
theorem best_core (hlb:bhi≤lb) (ha:alo≤ahi):Core P alo ahi blo bhi (best P lb alo ahi blo bhi):=by
 have B:=BI.rows (P:=P) (alo:=alo) (blo:=blo) hlb (ahi-alo)
 rw[show alo+(ahi-alo)=ahi from Nat.add_sub_cancel' ha] at B
 refine(?_:∀st,BI P alo blo (fun i j=>alo≤i∧i<ahi∧blo≤j∧j<bhi) st→Core P alo ahi blo bhi st) _ B
 rintro⟨a,b,s⟩ B
 refine⟨B.zero,⟨B.inw.1,B.inw.2,fun z=> ?_⟩,B.run,fun i j h1 h2 h3 h4 hr=> ?_,fun z i j h1 h2 h3 h4 hr=> ?_⟩
 · cases s with
   |zero=>exact absurd z (Nat.lt_irrefl _)
   |succ k=>exact⟨(B.last k rfl).2.1,(B.last k rfl).2.2.2⟩
 ·exact absurd (Qe (rl_ge s i j h1 h3 hr) (B.most (i+s) (j+s) ⟨Nat.le_add_right_of_le h1,h2,Nat.le_add_right_of_le h3,h4⟩)) (Nat.not_succ_le_self _)
 · cases s with
   |zero=>exact absurd z (Nat.lt_irrefl _)
   |succ k=>exact(B.first k rfl (i+k) (j+k) ⟨Nat.le_add_right_of_le h1,h2,Nat.le_add_right_of_le h3,h4⟩ (rl_ge k i j h1 h3 hr)).imp Nat.lt_of_add_lt_add_right fun z=>⟨Nat.add_right_cancel z.1,Nat.le_of_add_le_add_right z.2⟩
theorem best_in (hb:bhi≤lb) (h1:alo≤ahi) (h2:blo≤bhi):(best P lb alo ahi blo bhi).1+(best P lb alo ahi blo bhi).2.2≤ahi∧(best P lb alo ahi blo bhi).2.1+(best P lb alo ahi blo bhi).2.2≤bhi:=by
 have B:=best_core (P:=P) (lb:=lb) (alo:=alo) (ahi:=ahi) (blo:=blo) hb h1
 refine(?_:∀st:Nat × Nat × Nat,Core P alo ahi blo bhi st→st.1+st.2.2≤ahi∧st.2.1+st.2.2≤bhi) _ B
 rintro⟨a,b,s⟩ B
 cases s with
 |zero=>rw[(B.zero rfl).1,(B.zero rfl).2];exact⟨h1,h2⟩
 |succ k=>exact B.inw.2.2 (Nat.zero_lt_succ _)
theorem core_back {st:Nat × Nat × Nat} (B:Core P alo ahi blo bhi st):back P alo blo st.1 st.2.1 st.2.2=st:=by
 obtain⟨i,j,k⟩:=st
 show back P alo blo i j k=(i,j,k)
 cases i with
 |zero=>rfl
 |succ i =>
  rw[back,if_neg]
  rintro⟨h1,h2,h3⟩
  cases j with
  |zero=>exact Q0 _ h2
  |succ j =>
   cases k with
   |zero=>exact Qg h1 (B.zero rfl).1.symm
   |succ k =>
    have hw:=B.inw.2.2 (Nat.zero_lt_succ _)
    refine B.most i j (Qv h1) (Wr i 1 (k+1)▸hw.1) (Qv h2) (Wr j 1 (k+1)▸hw.2) fun t ht=> ?_
    cases t with
    |zero=>exact h3
    |succ t =>
     have:=B.run t (Nat.lt_of_succ_lt_succ ht)
     rwa [Wr i 1 t,Wr j 1 t] at this
theorem core_fwd {st:Nat × Nat × Nat} (B:Core P alo ahi blo bhi st) (f:Nat):fwd P ahi bhi st.1 st.2.1 f st.2.2=st.2.2:=by
 cases f with
 |zero=>rfl
 |succ f =>
  rw[fwd,if_neg]
  rintro⟨h1,h2,h3⟩
  exact B.most st.1 st.2.1 B.inw.1 h1 B.inw.2.1 h2 (B.run.snoc h3)
theorem flm_core (hlb:bhi≤lb) (ha:alo≤ahi):∃st,Core P alo ahi blo bhi st∧flm P Q lb alo ahi blo bhi=(let b:=back Q alo blo st.1 st.2.1 st.2.2;(b.1,b.2.1,fwd Q ahi bhi b.1 b.2.1 ahi b.2.2)):=by
 have B:=best_core (P:=P) (lb:=lb) (alo:=alo) (ahi:=ahi) (blo:=blo) (bhi:=bhi) hlb ha
 refine⟨_,B, ?_⟩
 unfold flm
 simp only[core_back B,core_fwd B]
theorem back_spec:∀(i j s:Nat),alo≤i→blo≤j→∃g a b,back Q alo blo i j s=(a,b,s+g)∧i=a+g∧j=b+g∧alo≤a∧blo≤b∧Run Q a b g∧∀a' b',a=a'+1→b=b'+1→alo≤a'→blo≤b'→Q a' b'=false
 |0,j,s,h1,h2=>⟨0,0,j,rfl,rfl,rfl,h1,h2,Run.zero,fun a' b' e=>absurd e.symm (Nat.succ_ne_zero _)⟩
 |i+1,j,s,h1,h2=>by
  unfold back
  by_cases h:alo<i+1∧blo<j∧Q i (j-1)=true
  · rw[if_pos h]
    cases j with
    |zero=>exact absurd h.2.1 (Q0 _)
    |succ j =>
     obtain⟨g,a,b,e,rfl,rfl,g1,g2,g3,g4⟩:=back_spec i j (s+1) (Qv h.1) (Qv h.2.1)
     exact⟨g+1,a,b,by rw[show a+g=a+g from rfl];exact e.trans (by rw[Wr s 1 g];rfl),rfl,rfl,g1,g2,g3.snoc h.2.2,g4⟩
  · rw[if_neg h]
    refine⟨0,i+1,j,rfl,rfl,rfl,h1,h2,Run.zero,fun a' b' e e' k1 k2=> ?_⟩
    cases e;subst e'
    cases hq:Q i b' with
    |false=>rfl
    |true=>exact absurd ⟨Nat.lt_succ_of_le k1,Nat.lt_succ_of_le k2,hq⟩ h
theorem fwd_spec {i j:Nat}:∀(f s:Nat),ahi≤i+s+f→∃g,fwd Q ahi bhi i j f s=s+g∧(∀t,t<g→i+s+t<ahi∧j+s+t<bhi∧Q (i+s+t) (j+s+t)=true)∧(i+s+g<ahi→j+s+g<bhi→Q (i+s+g) (j+s+g)=false)
 |0,s,h=>⟨0,rfl,fun t ht=>absurd ht (Q0 _),fun z=>absurd z (Nat.not_lt_of_le h)⟩
 |f+1,s,h=>by
  unfold fwd
  by_cases hc:i+s<ahi∧j+s<bhi∧Q (i+s) (j+s)=true
  · rw[if_pos hc]
    refine x_EAA (fwd_spec (i:=i) (j:=j) f (s+1) (by rw[show i+(s+1)+f=i+s+(f+1) from Nat.succ_add_eq_add_succ _ _];exact h)) fun g e g1 g2=> ?_
    have ei:∀t,i+(s+1)+t=i+s+(t+1):=fun t=>Nat.succ_add_eq_add_succ _ _
    have ej:∀t,j+(s+1)+t=j+s+(t+1):=fun t=>Nat.succ_add_eq_add_succ _ _
    refine⟨g+1,e.trans (Nat.succ_add_eq_add_succ _ _),fun t ht=> ?_, ?_⟩
    · cases t with
      |zero=>exact hc
      |succ t =>
       have:=g1 t (Nat.lt_of_succ_lt_succ ht)
       rwa [ei,ej] at this
    ·rwa [ei,ej] at g2
  · rw[if_neg hc]
    refine⟨0,rfl,fun t ht=>absurd ht (Q0 _),fun z1 z2=> ?_⟩
    cases hq:Q (i+s+0) (j+s+0) with
    |false=>rfl
    |true=>exact absurd ⟨z1,z2,hq⟩ hc
end
noncomputable def pq (ok:Nat→Bool) (f s:List Nat) (i j:Nat):Bool:=match f[i]?,s[j]? with
 |some x,some y=>ok y&&decide (x=y)
 |_,_=>false
noncomputable def kT (l:List Nat):List Key:=l.map fun c=>Key.s (S [c])
theorem tabOf_b2j {f:Key→Bool} {ks:List Key}:TabOf ((firsts ks).filter f) ks (b2jOf f ks):=fun k=>by
 unfold b2jOf
 generalize(firsts ks).filter f=js
 rw[kget_map]
 simp only[Wp,mem_firsts,decide_eq_true_eq]
noncomputable def DD (n i j:Nat):Prop:=i<n∧j<n∧i≠j
noncomputable def Asks {α:Type} (κ:Nat→Int) (n:Nat) (Q:α→Prop):KasT α→Prop
 | .ret a=>Q a
 | .ask i j k=>DD n i j∧(κ i<κ j→Asks κ n Q (k true))∧(κ j<κ i→Asks κ n Q (k false))
section
variable {κ:Nat→Int}
theorem asks_bind {α β:Type} {f:α→KasT β} {Q:β→Prop}:∀t:KasT α,Asks κ n (fun a=>Asks κ n Q (f a)) t→Asks κ n Q (t.bind f)
 | .ret a,h=>h
 | .ask i j k,h=>⟨h.1,fun c=>asks_bind _ (h.2.1 c),fun c=>asks_bind _ (h.2.2 c)⟩
theorem kasWp_of {α:Type} {cmp:Nat→Nat→(Bool→Shared→Prop)→Shared→Prop} {I:Shared→Prop} (hk:∀i j,DD n i j→κ i≠κ j) (hc:∀i j s C,DD n i j→I s→(∀s',I s'→C (decide (κ i<κ j)) s')→cmp i j C s) {P:α→Prop} {Q:α→Shared→Prop} (q:∀a s,P a→I s→Q a s):∀(t:KasT α) (s:Shared),Asks κ n P t→I s→t.kasWp cmp Q s
 | .ret a,s,h,hi=>q a s h hi
 | .ask i j k,s,h,hi=>hc i j s _ h.1 hi fun s' hi'=>by
  by_cases c:κ i<κ j
  ·rw[decide_eq_true c];exact kasWp_of hk hc q _ s' (h.2.1 c) hi'
  ·rw[decide_eq_false c];exact kasWp_of hk hc q _ s' (h.2.2 (Int.lt_iff_le_and_ne.mpr ⟨Int.not_lt.mp c,(hk i j h.1).symm⟩)) hi'
theorem getD_el {p:Array Nat} {i:Nat} (hi:i<p.toList.length):p.getD i 0=p.toList[i]:=by
 have hi':i<p.size:=hi
 rw[Array.getD_eq_getD_getElem?,Array.getElem?_eq_getElem hi'];rfl
theorem getD_of_get {p q:Array Nat} {i j:Nat} (h:p[i]? =q[j]?):p.getD i 0=q.getD j 0:=by
 rw[Array.getD_eq_getD_getElem?,Array.getD_eq_getD_getElem?,h]
noncomputable def Gp (n:Nat) (p:Array Nat):Prop:=p.toList.Perm (Wo n)
theorem Gp.size {p:Array Nat} (h:Gp n p):p.toList.length=n:=h.length_eq.trans List.length_range
theorem Gp.dd {p:Array Nat} (h:Gp n p) {a b:Nat} (hab:a<b) (hb:b<n):DD n (p.getD b 0) (p.getD a 0):=by
 rw[←h.size] at hb
 rw[getD_el hb,getD_el (Nat.lt_trans hab hb)]
 exact⟨List.mem_range.mp (h.mem_iff.mp (List.getElem_mem _)),List.mem_range.mp (h.mem_iff.mp (List.getElem_mem _)),(List.pairwise_iff_getElem.mp (h.nodup_iff.mpr List.nodup_range) a b _ hb hab).symm⟩
theorem DD.symm {i j:Nat} (h:DD n i j):DD n j i:=⟨h.2.1,h.1,h.2.2.symm⟩
theorem Gp.of {p q:Array Nat} (h:Gp n p) (e:q.Perm p):Gp n q:=(Array.perm_iff_toList_perm.mp e).trans h
noncomputable def Sp (κ:Nat→Int) (p:Array Nat) (m:Nat):Prop:=∀i j,i<j→j<m→κ (p.getD i 0)<κ (p.getD j 0)
noncomputable def Dp (κ:Nat→Int) (p:Array Nat) (m:Nat):Prop:=∀i j,i<j→j<m→κ (p.getD j 0)<κ (p.getD i 0)
theorem row_step {r:Nat→Nat→Prop} (tr:∀{a b c},r a b→r b c→r a c) {m:Nat} (h:∀i j,i<j→j<m+1→r i j) (z:r m (m+1)) (i j:Nat) (hij:i<j) (hj:j<m+1+1):r i j:=by
 rcases Nat.lt_or_eq_of_le (Qv hj) with q|rfl
 ·exact h i j hij q
 · rcases Nat.lt_or_eq_of_le (Qv hij) with q|rfl
   ·exact tr (h i m q (Qk m)) z
   ·exact z
theorem asc_asks {p:Array Nat} {Q:Nat→Prop} (g:Gp n p):∀(f m:Nat),m+1+f=n→Sp κ p (m+1)→(∀z,z+1≤n→Sp κ p (z+1)→(z+1<n→κ (p.getD (z+1) 0)<κ (p.getD z 0))→Q (z+1))→Asks κ n Q (kas_asc p f (m+1))
 |0,m,h,hs,q=>q m (QK h) hs fun z=>absurd h (Qg z)
 |f+1,m,h,hs,q=>by
  have hm:m+1<n:=h▸Nat.lt_add_of_pos_right (Nat.succ_pos f)
  exact⟨g.dd (Qk m) hm,fun c=>q m (Qx hm) hs fun _=>c,fun c=>asc_asks g f (m+1) ((Wr _ 1 f).trans h) (row_step (r:=fun i j=>κ (p.getD i 0)<κ (p.getD j 0)) Int.lt_trans hs c) q⟩
theorem desc_asks {p:Array Nat} {Q:Array Nat × Nat × Nat→Prop} (g:Gp n p) (q:∀z,z+1≤n→Dp κ p (z+1)→Q (p,z+1,0)):∀(f m:Nat),m+1+f=n→Dp κ p (m+1)→Asks κ n Q (kas_desc f p (m+1) 0)
 |0,m,h,hs=>q m (QK h) hs
 |f+1,m,h,hs=>by
  have hm:m+1<n:=h▸Nat.lt_add_of_pos_right (Nat.succ_pos f)
  exact⟨g.dd (Qk m) hm,fun c=>desc_asks g q f (m+1) ((Wr _ 1 f).trans h) (row_step (r:=fun i j=>κ (p.getD j 0)<κ (p.getD i 0)) (fun a b=>Int.lt_trans b a) hs c),fun c=>⟨(g.dd (Qk m) hm).symm,fun _=>q m (Qx hm) hs,fun z=>absurd z (Int.lt_asymm c)⟩⟩
theorem rev_Sp {p:Array Nat} {m:Nat} (h:m+1≤p.size) (hd:Dp κ p (m+1)):Sp κ (kas_rev p 0 (m+1)) (m+1):=fun i j hij hj=>by
 have g:∀i,i<m+1→(kas_rev p 0 (m+1)).getD i 0=p.getD (m-i) 0:=fun i hi=>getD_of_get ((getElem?_mirror_all h i).trans ((if_pos ⟨Qz _,hi⟩).trans (by rw[Nat.zero_add];rfl)))
 rw[g i (Nat.lt_trans hij hj),g j hj]
 exact hd _ _ (Nat.sub_lt_sub_left (Qy hij (Qv hj)) hij) (Nat.lt_succ_of_le (Nat.sub_le ..))
theorem count_asks {p:Array Nat} {Q:Nat × Array Nat→Prop} (g:Gp n p) (h1:0+1+(n-1)=n) (q:∀m p,Gp n p→m+1≤n→Sp κ p (m+1)→Q (m+1,p)):Asks κ n Q (kas_count n p):=by
 refine asks_bind _ (asc_asks g (n-1) 0 h1 (fun i j hij hj=>absurd (Qy hij (Qv hj)) (Q0 i)) fun z hz hs hn=> ?_)
 by_cases c:(z+1==n)=true
 ·rw[if_pos c];exact q z p g hz hs
 rw[if_neg c]
 have hz':z+1<n:=Nat.lt_of_le_of_ne hz fun e=>c (by rw[e];exact beq_self_eq_true n)
 match z,hs,hn,hz,hz' with
 |z+1,hs,_,hz,hz' =>
  rw[if_pos (Nat.succ_lt_succ (Nat.succ_pos z))]
  exact⟨(g.dd (Nat.succ_pos z) (Nat.lt_of_succ_lt hz')).symm,fun _=>q (z+1) p g hz hs,fun c=>absurd c (Int.lt_asymm (hs 0 (z+1) (Nat.succ_pos z) (Qk _)))⟩
 |0,hs,hn,hz,hz' =>
  rw[if_neg (Nat.lt_irrefl 1)]
  refine asks_bind _ (desc_asks g (fun z hz hd=> ?_) (n-2) 1 (Nat.add_sub_cancel' hz') (row_step (r:=fun i j=>κ (p.getD j 0)<κ (p.getD i 0)) (fun a b=>Int.lt_trans b a) (fun i j hij hj=>absurd (Qy hij (Qv hj)) (Q0 i)) (hn hz')))
  rw[if_neg (Nat.lt_irrefl 0)]
  have g':Gp n (kas_rev p 0 (z+1)):=g.of (mirror_perm _ _ _ _)
  exact asks_bind _ (asc_asks g' (n-(z+1)) z (Nat.add_sub_cancel' hz) (rev_Sp (Qe hz (QK g.size.symm)) hd) fun z hz hs _=>q z _ g' hz hs)
theorem place_asks {p:Array Nat} {t:Nat} {Q:Nat→Prop} (g:Gp n p) (ht:t<n) (hs:Sp κ p t) (q:∀z,z≤t→(∀i,i<z→κ (p.getD i 0)<κ (p.getD t 0))→(∀i,z≤i→i<t→κ (p.getD t 0)<κ (p.getD i 0))→Q z):∀(f l r:Nat),r≤l+f→l≤r→r≤t→(∀i,i<l→κ (p.getD i 0)<κ (p.getD t 0))→(∀i,r≤i→i<t→κ (p.getD t 0)<κ (p.getD i 0))→Asks κ n Q (kas_place p t f l r)
 |0,l,r,h1,h2,h3,a,b=>q l (Qe h2 h3) a fun i z=>b i (Qe h1 z)
 |f+1,l,r,h1,h2,h3,a,b=>by
  unfold kas_place
  by_cases c:l ≥ r
  · rw[if_pos c]
    exact q l (Qe h2 h3) a fun i z=>b i (Qe c z)
  rw[if_neg c]
  have hm:(l+r) / 2<r∧l≤(l+r) / 2∧r≤(l+r) / 2+1+f:=by
   have h:=mid (Nat.lt_of_not_le c)
   exact⟨h.2,h.1,Qe h1 (Qe (Wi h.1 (f+1)) (QK (Wr ((l+r) / 2) f 1)))⟩
  generalize(l+r) / 2=m at hm ⊢
  have hmt:=Qy hm.1 h3
  refine⟨g.dd hmt ht,fun d=>place_asks g ht hs q f l m (Qv (Qy hm.1 h1)) hm.2.1 (Qx hmt) a fun i h4 h5=> ?_,fun d=>place_asks g ht hs q f (m+1) r hm.2.2 hm.1 h3 (fun i h4=> ?_) b⟩
  · rcases Nat.eq_or_lt_of_le h4 with rfl|z
    ·exact d
    ·exact Int.lt_trans d (hs _ _ z h5)
  · rcases Nat.eq_or_lt_of_le (Qv h4) with rfl|z
    ·exact d
    ·exact Int.lt_trans (hs _ _ z hmt) d
theorem bub {p:Array Nat} {t l:Nat} (ht:t<p.size) (hl:l≤t):(bubble p t (t-l)).getD l 0=p.getD t 0∧(∀i,i<l→(bubble p t (t-l)).getD i 0=p.getD i 0)∧∀i,l≤i→i<t→(bubble p t (t-l)).getD (i+1) 0=p.getD i 0:=by
 have e:=getElem?_bubble ht (t-l) (Nat.sub_le ..)
 rw[Nat.sub_sub_self hl] at e
 exact⟨getD_of_get ((e l).trans (if_pos rfl)),fun i hi=>getD_of_get ((e i).trans ((if_neg (Qg hi)).trans (if_neg fun z=>Nat.lt_asymm hi z.1))),fun i h1 h2=>getD_of_get ((e (i+1)).trans ((if_neg (QE (Nat.lt_succ_of_le h1))).trans (if_pos ⟨Nat.lt_succ_of_le h1,h2⟩)))⟩
theorem bin_asks {Q:Array Nat→Prop} (q:∀p,Gp n p→Sp κ p n→Q p):∀(f t:Nat) (p:Array Nat),t+f=n→Gp n p→Sp κ p t→Asks κ n Q (kas_bin f p t)
 |0,t,p,e,g,h=>q p g (e▸h)
 |f+1,t,p,e,g,h=>by
  have ht:t<n:=e▸Nat.lt_add_of_pos_right (Nat.succ_pos f)
  refine asks_bind _ (place_asks g ht h (fun l a b c=> ?_) t 0 t (Q9 ..) (Qz _) (Qt _) (fun i hi=>absurd hi (Q0 i)) fun i h1 h2=>absurd h2 (Nat.not_lt.mpr h1))
  have x:=bub (p:=p) (Nat.lt_of_lt_of_eq ht g.size.symm) a
  refine bin_asks q f (t+1) _ ((Wr t 1 f).trans e) (g.of (bubble_perm _ _ _)) fun i j hij hj=> ?_
  rcases Nat.lt_or_ge j l with z|z
  · rw[x.2.1 j z,x.2.1 i (Nat.lt_trans hij z)]
    exact h i j hij (Qy z a)
  rcases Nat.eq_or_lt_of_le z with rfl|z
  ·rw[x.1,x.2.1 i hij];exact b i hij
  match j,hj,hij,z with
  |j+1,hj,hij,z =>
   have hj:=Nat.lt_of_succ_lt_succ hj
   rw[x.2.2 j (Qv z) hj]
   rcases Nat.lt_or_ge i l with y|y
   ·rw[x.2.1 i y];exact h i j (Qy y (Qv z)) hj
   rcases Nat.eq_or_lt_of_le y with rfl|y
   ·rw[x.1];exact c j (Qv z) hj
   match i,hij,y with
   |i+1,hij,y =>
    have hij:=Nat.lt_of_succ_lt_succ hij
    rw[x.2.2 i (Qv y) (Nat.lt_trans hij hj)];exact h i j hij hj
theorem sort_asks {Q:Array Nat→Prop} (h1:1≤n) (q:∀p,Gp n p→Sp κ p n→Q p):Asks κ n Q (kas_sort n):=by
 refine asks_bind _ (count_asks (List.Perm.refl _) (Nat.add_sub_cancel' h1) fun m p g hm hs=> ?_)
 by_cases c:m+1<n
 · rw[if_pos c,show max (m+1) 1=m+1 from Nat.max_eq_left (Nat.succ_pos m)]
   exact bin_asks q _ _ p (Nat.add_sub_cancel' hm) g hs
 · rw[if_neg c]
   exact q p g (Nat.le_antisymm hm (Nat.not_lt.mp c)▸hs)
end
theorem map_getD_range {τ:Type} (xs:List τ) (d:τ):(Wo xs.length).map (fun i=>xs.getD i d)=xs:=by
 refine List.ext_getElem? fun i=> ?_
 rw[Qb]
 rcases Nat.lt_or_ge i xs.length with z|z
 ·rw[List.getElem?_range z,Qh z,Option.map_some,QN,Qh z];rfl
 ·rw[List.getElem?_eq_none (Qe (QK List.length_range) z),List.getElem?_eq_none z];rfl
theorem sort_list {τ:Type} {xs ys:List τ} {d:τ} {key:τ→Int} (h1:1≤xs.length) (hx:xs.Perm ys) (hy:ys.Pairwise fun a b=>key a<key b):Asks (fun i=>key (xs.getD i d)) xs.length (fun p=>p.toList.map (fun i=>xs.getD i d)=ys) (kas_sort xs.length) :=
 sort_asks h1 fun p g hs=>by
  refine List.Perm.eq_of_pairwise (le:=fun a b=>key a<key b) (fun a b _ _ h1 h2=>absurd h1 (Int.lt_asymm h2)) (List.pairwise_map.mpr (List.pairwise_iff_getElem.mpr fun i j hi hj hij=> ?_)) hy ?_
  · have:=hs i j hij (Nat.lt_of_lt_of_eq hj g.size)
    rw[getD_el hi,getD_el hj] at this;exact this
  · have:=g.map fun i=>xs.getD i d
    rw[map_getD_range] at this
    exact this.trans hx
theorem kind_tlt:builtinKind "tuple.__lt__" = some .slot:=by decide +kernel
theorem split_tlt:splitId "tuple.__lt__" = some ("tuple", "__lt__"):=by decide +kernel
theorem kind_tit:builtinKind "tuple.__iter__" = some .slot:=by decide +kernel
theorem split_tit:splitId "tuple.__iter__" = some ("tuple", "__iter__"):=by decide +kernel
theorem kind_tln:builtinKind "tuple.__len__" = some .slot:=by decide +kernel
theorem split_tln:splitId "tuple.__len__" = some ("tuple", "__len__"):=by decide +kernel
section
variable {w:World} {K:Frag} {cl f sm:Addr} {x y dx dy:Addr} {vs us:List Value}
theorem mat_bound {name:Str} {id:String} {args:List Value} {Q:Option Value→Shared→Prop} (X:K.In s.heap) (ty:Looks (model prog w) s.heap (typeOf (.ref x)) (.ref cl)) (hs:findIn K (.ref cl) name=some (some (.builtin id))) (hb:∀self,bindSpecial (.builtin id) self=pure (.builtin id,[self]))
 (h:wpAny (model prog w) A (call (.builtin id) (.ref x::args)) (fun v=>Q (some v)) E s):wpAny (model prog w) A (callSpecialIfBound? (.ref x) name args) Q E s:=by
 simp only[callSpecialIfBound?,bindSpecialIfBound?]
 refine Qf (Qw (Qw (Qw (ty.here ((looks_findIn X hs).here ?_)))))
 simp only[hb]
 refine Qw (wpAny_askSetting (wpAny_ite ?_))
 have fin:wpAny (model prog w) A (call (.builtin id) ([.ref x]++args) >>= fun v=>pure (some v)) Q E s:=Qw (Q5 h (fun v s' h'=>Qr h') fun _ _ h'=>h')
 split
 ·exact Qw (Qr (Qr fin))
 ·exact wpAny_tryCatch (Qw (Qr (Qr fin)))
theorem tlt_eq (x y:Addr):Builtin.«tuple.__lt__» ⟨[.ref x, .ref y],[]⟩=(do
 let(a,[b]) ←slotArgs "__lt__" 1 ⟨[.ref x, .ref y],[]⟩|unsupported "internal:tuple.compare"
 if !(←isInstance b (.type "tuple")) then return ←ret .notImplemented
 let xs ←Builtin.Tuple.tupleItemsOf a
 let ys ←Builtin.Tuple.tupleItemsOf b
 for (x,y) in xs.toList.zip ys.toList do
  if !(←eqBool x y) then
   match CmpOp.Lt with
   | .Eq=>return ←ret (.bool false)
   | .NotEq=>return ←ret (.bool true)
   |_=>rule "tuple.compare.by-the-first-pair-that-differs";return ←ret (←richCompare CmpOp.Lt x y)
 ret (Builtin.Tuple.tupleCompareSizes CmpOp.Lt xs.size ys.size)):=rfl
theorem mat_lt {i j:Int} {t u:Tok} {Q:Bool→Shared→Prop} (hu:A.units<cLine) (Y:MatK K cl f sm) (X:K.In s.heap) (hs:findIn K (.ref cl) "__lt__" = some (some (.builtin "tuple.__lt__")))
 (hx:s.heap.get? x=some ⟨.ref cl,some dx, .seq (Value.int i t::vs).toArray 0,#[]⟩) (hy:s.heap.get? y=some ⟨.ref cl,some dy, .seq (Value.int j u::us).toArray 0,#[]⟩) (hz:vs.length<9000) (hz':us.length<9000) (hij:i≠j) (q:∀k,Q (decide (i<j)) {s with toks:=k }) :
 wpAny (model prog w) A (keyLt' oneType' (.ref x) (.ref y)) Q E s:=by
 refine x_A (Y.obj (M:=model prog w) X hx) fun ty it=> ?_
 refine x_A (Y.obj (M:=model prog w) X hy) fun ty' it'=> ?_
 rw[keyLt'_oneType,oneLt'_eq]
 simp only[if_true]
 refine Qw (wpAny_cRoomFor hu ?_)
 refine Qw (mat_bound X ty hs PySem.F.slot_tuple_lt.bind ?_)
 refine wpAny_call (codeAny_call_builtin PySem.F.slot_tuple_lt.plain PySem.F.entry_tuple_lt (@check_slot (model prog w) _ _ _ "tuple.__lt__" "tuple" "__lt__" (.ref x) [.ref y] [] _ kind_tlt split_tlt it (PySem.F.args_tuple_lt_2 _ _) ?_))
 rw[tlt_eq]
 refine Qw (wpAny_of_eq (show slotArgs "__lt__" 1 ⟨[.ref x, .ref y],[]⟩=pure (.ref x,[.ref y]) from rfl) ?_)
 dsimp only
 refine Qw (it'.at ?_)
 rw[if_neg (by simp)]
 refine Qw (wpAny_tupleItemsOf hx rfl ?_)
 refine Qw (wpAny_tupleItemsOf hy rfl ?_)
 simp only[List.zip_cons_cons,List.forIn_cons]
 refine Qw (Qw (Qw (wpAny_eqBool_int ?_)))
 rw[show(i==j)=false by simpa using hij]
 simp only[Bool.not_false,if_true]
 refine Qw (wpAny_rule (Qw ?_))
 refine Q5 (E:=fun _ _=>False) (Q:=fun v s'=>v= .bool (decide (i<j))∧∃k,s'={s with toks:=k }) ?_ ?_ (fun _ _ e=>e.elim)
 ·exact PyProof.Rows.lt_int ⟨rfl,_,rfl⟩
 · rintro v s' ⟨rfl,k,rfl⟩
   refine Qw (Qr (Qr (Qr (Qr ?_))))
   show wpAny _ _ (truthOfDropped (.bool (decide (i<j)))) _ _ _
   exact wpAny_truthy_bool (q k)
noncomputable def MatAt (h:Heap) (cl:Addr) (v:Value) (k:Int):Prop:=∃x dx t vs,v= .ref x∧h.get? x=some ⟨.ref cl,some dx, .seq (Value.int k t::vs).toArray 0,#[]⟩∧vs.length<9000
theorem getD_fst {α β:Type} (ps:List (α × β)) (a:α) (b:β) (i:Nat):(ps.map (·.1)).getD i a=(ps.getD i (a,b)).1:=by
 rw[QN,QN,Qb]
 cases ps[i]?<;>rfl
theorem mats_sort {a:Addr} {n:Nat} {ps qs:List (Value × Int)} {P:PySem.Fin→Shared→Prop} (hu:A.units<cLine) (Y:MatK K cl f sm) (X:K.In s.heap) (hs:findIn K (.ref cl) "__lt__" = some (some (.builtin "tuple.__lt__"))) (hKa:∀b o,K.lookup b=some o→b≠a)
 (ho:s.heap.get? a=some (seqObj "list" (ps.map (·.1)).toArray n)) (hp:∀p∈ps,MatAt s.heap cl p.1 p.2) (h64:ps.length<64) (hx:ps.Perm qs) (hy:qs.Pairwise fun p q=>p.2<q.2)
 (q:∀h' tk c,h'.get? a=some (seqObj "list" (qs.map (·.1)).toArray c)→(∀b o,b≠a→s.heap.get? b=some o→h'.get? b=some o)→P (.done (.ret .none)) {s with heap:=h',toks:=tk }) :
 wpAny (model prog w) A (Builtin.«list.sort» ⟨[.ref a],[]⟩) P E s:=by
 have s1:=Heap.SameBut.update s.heap a (Obj.mapSeq fun _=>(#[]:Array Value))
 obtain⟨e1,ho1⟩:∃e1,(s.heap.update a (Obj.mapSeq fun _=>(#[]:Array Value))).get? a=some (seqObj "list" #[] e1):=⟨_,get?_update_seq ho fun _=>#[]⟩
 have hsz:(ps.map (·.1)).length<64:=by rw[Qo];exact h64
 have hq64:(qs.map (·.1)).length≤Qc+1:=by rw[Qo,←hx.length_eq,sizeLine_eq];omega
 rw[list_sort_plain]
 refine Qw (listItems_at ho rfl ?_)
 refine Qw (listUpdate_at ho rfl ?_ (by rw[List.size_toArray,sizeLine_eq];omega) (Qz _))
 refine Qw (seqEpoch_at ho1 rfl ?_)
 refine Qw (wpAny_newTuple ?_ (by show(ps.map (·.1)).length≤_;rw[sizeLine_eq];omega))
 refine Qw (wpAny_newList ?_ (Qz _))
 refine Qf ?_
 show wpAny (model prog w) A _ P E {s with heap:=((s.heap.update a (Obj.mapSeq fun _=>(#[]:Array Value))).push (seqObj "tuple" (ps.map (·.1)).toArray 0)).push (seqObj "list" #[] 0) }
 have hk3:∀b o,(s.heap.update a (Obj.mapSeq fun _=>(#[]:Array Value))).get? b=some o→(((s.heap.update a (Obj.mapSeq fun _=>(#[]:Array Value))).push (seqObj "tuple" (ps.map (·.1)).toArray 0)).push (seqObj "list" #[] 0)).get? b=some o:=fun b o e=>Qd _ (Qd _ e)
 have hk:∀b o,b≠a→s.heap.get? b=some o→(((s.heap.update a (Obj.mapSeq fun _=>(#[]:Array Value))).push (seqObj "tuple" (ps.map (·.1)).toArray 0)).push (seqObj "list" #[] 0)).get? b=some o:=fun b o hb e=>hk3 b o ((s1.2 b hb).trans e)
 have ho3:=hk3 _ _ ho1
 generalize((s.heap.update a (Obj.mapSeq fun _=>(#[]:Array Value))).push (seqObj "tuple" (ps.map (·.1)).toArray 0)).push (seqObj "list" #[] 0)=h3 at hk ho3 ⊢
 have X3:K.In h3:=fun b o e=>hk b o (hKa b o e) (X b o e)
 have hp3:∀p∈ps,MatAt h3 cl p.1 p.2:=fun p m=>by
  obtain⟨x,dx,t,vs,e,g,z⟩:=hp p m
  refine⟨x,dx,t,vs,e,hk x _ (fun q=> ?_) g,z⟩
  rw[q,ho] at g;cases g
 -- the end
 have fin:∀(st:SortSt) (tk:Nat),(arrOf st).map (·.2)=(qs.map (·.1)).toArray→failedOf st=none→wpAny (model prog w) A (do
  let touched:=(←seqEpoch a) != e1
  Builtin.List.listUpdate (.ref a) fun _=>(arrOf st).map (·.2)
  if let some e:=failedOf st then rule "list.sort.comparison-raised";throw e
  if touched then rule "list.sort.modified";raiseError "ValueError" "list modified during sort"
  ret .none) P E {s with heap:=h3,toks:=tk }:=fun st tk hout hf=>by
  rw[hout,hf]
  refine Qw (seqEpoch_at ho3 rfl ?_)
  have s2:=Heap.SameBut.update h3 a (Obj.mapSeq fun _=>(qs.map (·.1)).toArray)
  refine Qw (listUpdate_at ho3 rfl ?_ (Qz _) (by rw[List.size_toArray];exact hq64))
  have he:(e1 != e1)=false:=by simp
  rw[he]
  refine Qr ?_
  exact q _ tk _ (get?_update_seq ho3 fun _=>(qs.map (·.1)).toArray) fun b o hb e=>(s2.2 b hb).trans (hk b o hb e)
 by_cases h2:2≤(ps.map (·.1)).length
 · have hn2:¬(ps.map (·.1)).toArray.size<2:=by rw[List.size_toArray];omega
   rw[if_neg hn2,if_neg hn2]
   refine Qw (kas_kind (T:= .ref cl) h2 (fun v hv=> ?_) (by simp) (by simp) ?_)
   · obtain⟨p,m,rfl⟩:=QO.mp hv
     obtain⟨x,dx,t,vs,e,g,z⟩:=hp3 p m
     rw[e]
     exact(Y.obj (M:=model prog w) X3 g).1
   have est:SortSt.mk' oneType' ((ps.map (·.1)).toArray.zip (ps.map (·.1)).toArray) #[] 7 none=kas_st oneType' (pairsOf (ps.map (·.1))) (List.toArray (Wo (ps.map (·.1)).length)):=by
    have e:=kas_range (pairsOf (ps.map (·.1)))
    rw[pairsOf_size] at e
    show SortSt.mk' oneType' (pairsOf (ps.map (·.1))) #[] 7 none=SortSt.mk' oneType' ((List.toArray (Wo (ps.map (·.1)).length)).map (kas_item (pairsOf (ps.map (·.1))))) #[] 7 none
    rw[e]
   have hkk:∀i j,DD ps.length i j→(ps.getD i (Value.none,0)).2≠(ps.getD j (Value.none,0)).2:=by
    have hp':ps.Pairwise fun a b=>a.2≠b.2:=hx.symm.pairwise (hy.imp Int.ne_of_lt) Ne.symm
    have hl:∀i j,i<j→j<ps.length→(ps.getD i (Value.none,0)).2≠(ps.getD j (Value.none,0)).2:=fun i j hij hj=>by
     rw[QN,QN,Qh hj,Qh (Nat.lt_trans hij hj)]
     exact List.pairwise_iff_getElem.mp hp' i j _ hj hij
    intro i j h
    rcases Nat.lt_or_gt_of_ne h.2.2 with l|l
    ·exact hl i j l h.2.1
    ·exact(hl j i l h.1).symm
   have ask:(kas_sort (ps.map (·.1)).length).kasWp (kas_cmp prog w A oneType' (pairsOf (ps.map (·.1)))) (fun p s'=>p.toList.map (fun i=>ps.getD i (Value.none,0))=qs∧∃tk,s'={s with heap:=h3,toks:=tk }) {s with heap:=h3 }:=by
    rw[Qo] at h2 ⊢
    refine kasWp_of (I:=fun s'=>∃tk,s'={s with heap:=h3,toks:=tk }) hkk ?_ (fun a s' q hi=>⟨q,hi⟩) _ _ (sort_list (We h2) hx hy) ⟨_,rfl⟩
    rintro i j s' C ⟨hi,hj,hij⟩ ⟨tk,rfl⟩ k
    unfold kas_cmp
    rw[kas_item_eq,kas_item_eq,getD_fst ps _ 0,getD_fst ps _ 0]
    have mem:∀i,i<ps.length→ps.getD i (Value.none,0)∈ps:=fun i hi=>by
     rw[QN,Qh hi]
     exact List.getElem_mem hi
    obtain⟨x,dx,t,vs,e,g,z⟩:=hp3 _ (mem i hi)
    obtain⟨x',dx',t',vs',e',g',z'⟩:=hp3 _ (mem j hj)
    dsimp only
    rw[e,e']
    exact mat_lt (s:={s with heap:=h3,toks:=tk }) hu Y X3 hs g g' z z' (hkk i j ⟨hi,hj,hij⟩) fun tk'=>k _ ⟨tk',rfl⟩
   have run:=kas_runs (E:=E) (Q:=fun _ st' s'=>(arrOf st').map (·.2)=(qs.map (·.1)).toArray∧failedOf st'=none∧∃tk,s'={s with heap:=h3,toks:=tk })
    h2 hsz (by
     rintro p' st' s' a1 a2 a3 ⟨a4,a5⟩
     refine⟨?_,a3,a5⟩
     rw[a2]
     rw[←a4,Q7,←Array.toList_inj,Array.toList_map,Array.toList_map,Q7]
     refine List.map_congr_left fun i _=> ?_
     show(kas_item (pairsOf (ps.map (·.1))) i).2=(ps.getD i (Value.none,0)).1
     rw[kas_item_eq,getD_fst ps _ 0]) ask
   rw[←est] at run
   refine Qw (Q5 run ?_ fun _ _ e=>e)
   rintro⟨⟨⟩,st'⟩ s' ⟨h1,hf,tk,rfl⟩
   exact fin st' tk h1 hf
 · have hn2:(ps.map (·.1)).toArray.size<2:=by rw[List.size_toArray];omega
   rw[if_pos hn2,if_pos hn2]
   refine Qw (Qr (Qw (Qr ?_)))
   have e:qs=ps:=by
    rw[Qo] at h2
    match ps,hx,h2 with
    |[],hx,_=>exact List.perm_nil.mp hx.symm
    |[x],hx,_=>exact List.perm_singleton.mp hx.symm
    |x::y::r,_,h2=>exact absurd (by simp) h2
   refine fin _ _ ?_ rfl
   rw[e,←Array.toList_inj]
   show((((ps.map (·.1)).toArray.zip (ps.map (·.1)).toArray).map (·.2))).toList=_
   rw[Array.toList_map,Array.toList_zip]
   exact List.map_snd_zip (Qt _)
end
theorem perm_lift {α β:Type} {f:α→β} {ts us:List β} (h:ts.Perm us):∀l:List α,l.map f=ts→∃l',l.Perm l'∧l'.map f=us:=by
 induction h with
 |nil=>intro l e;rw[List.map_eq_nil_iff.mp e];exact⟨[], .refl _,rfl⟩
 |cons x _ ih =>
  intro l e
  refine x_EEAA (List.map_eq_cons_iff.mp e) fun a r z117 z118 e2=> ?_;subst z117;subst z118
  refine x_EA (ih r e2) fun r' p q=> ?_
  exact⟨a::r',p.cons a,by rw[Q3,q]⟩
 |swap x y _ =>
  intro l e
  refine x_EEAA (List.map_eq_cons_iff.mp e) fun a r z119 z120 e2=> ?_;subst z119;subst z120
  refine x_EEAA (List.map_eq_cons_iff.mp e2) fun b r2 z121 z122 e3=> ?_;subst z121;subst z122
  exact⟨b::a::r2,List.Perm.swap _ _ _,by rw[Q3,Q3,e3]⟩
 |trans _ _ ih1 ih2 =>
  intro l e
  refine x_EA (ih1 l e) fun l1 p1 e1=> ?_
  refine x_EA (ih2 l1 e1) fun l2 p2 e2=> ?_
  exact⟨l2,p1.trans p2,e2⟩
section
variable {K:Frag} {cl f sm:Addr}
noncomputable abbrev mtV (cl:Addr) (t:Int × List V):V:= .mat cl (.int t.1::t.2)
theorem pm_sort {v:V} {xs:List V} (hv:IsLst h v xs):PM C n h v "sort" (.blt "list.sort") [v]:=⟨kp_blt,fun hb hi Q q=>mth_lst (hi.lst hv) slot_list_sort (by first|exact PySem.F.type_list_sort|(show builtinType _=_;rw[builtinType_eq_fast];kernel_rfl)) q⟩
theorem mats_of {g:G} {ρ:List Addr} {hp:Heap} (hk:∀a o,g a=some o→hp.get? a=some o):∀{ts:List (Int × List V)} {vs:List Value},Concs C g ρ (ts.map (mtV cl)) vs→(∀t∈ts,t.2.length<9000)→∃zs:List (Value × (Int × List V)),zs.map (·.2)=ts∧zs.map (·.1)=vs∧∀z∈zs,MatAt hp cl z.1 z.2.1∧Conc C g ρ (mtV cl z.2) z.1
 |[],vs,c,_=>⟨[],rfl,(cs_nil c).symm,fun z hz=>by cases hz⟩
 |t::ts,vs,c,hz=>by
  refine x_EEAA (cs_cons c) fun x r z123 c1 c2=> ?_;subst z123
  refine x_EAA (mats_of hk c2 fun t m=>hz t (List.mem_cons_of_mem _ m)) fun zs e1 e2 H=> ?_
  refine⟨(x,t)::zs,by rw[Q3,e1],by rw[Q3,e2],fun z m=> ?_⟩
  rcases QY.mp m with rfl|m
  · refine⟨?_,c1⟩
    refine x_EEEAAA c1.toInv fun ws a dx z124 hg _ cs=> ?_;subst z124
    refine x_EEAA (cs_cons cs) fun y r' z125 d1 d2=> ?_;subst z125
    refine x_E d1.toInv fun u z126=> ?_;subst z126
    exact⟨a,dx,u,r',rfl,hk _ _ hg,by rw[d2.length];exact hz t (List.mem_cons_self ..)⟩
  ·exact H z m
theorem concs_zip {g:G} {ρ:List Addr} {α:Type} {f:α→V}:∀{zs:List (Value × α)},(∀z∈zs,Conc C g ρ (f z.2) z.1)→Concs C g ρ ((zs.map (·.2)).map f) (zs.map (·.1))
 |[],_=> .nil
 |z::zs,H=> .cons (H z (List.mem_cons_self ..)) (concs_zip fun y m=>H y (List.mem_cons_of_mem _ m))
theorem kc_sort (I:InC C K) (Y:MatK K cl f sm) (hs:findIn K (.ref cl) "__lt__" = some (some (.builtin "tuple.__lt__"))) {i:Nat} {ts us:List (Int × List V)} (hv:h.σ i= .list (ts.map (mtV cl))) (h64:ts.length<64) (hz:∀t∈ts,t.2.length<9000) (hx:ts.Perm us) (hy:us.Pairwise fun a b=>a.1<b.1)
 (q:∀h',(h.upd i (.list (us.map (mtV cl)))).In h'→Q .none h'):KC C (n+1) h (.blt "list.sort") [.ref i] [] Q:=fun hb hi=>cl1 fun A w Q' E fx x a0 R cf cx c=>by
 refine eqE cf.toInv ?_
 refine cx.eRef fun a ha=> ?_
 have hv':=hi.list hv
 refine x_EA (R.list ha hv') fun vs hl cs=> ?_
 refine x_E (id hl) fun m hl'=> ?_
 refine x_EAA (mats_of (hp:=w.s.heap) R.keep cs hz) fun zs e1 e2 H=> ?_
 refine x_EA (perm_lift hx zs e1) fun ws p1 p2=> ?_
 have hga:w.g a=none:=R.off i a ha (by rw[hv'];simp)
 have hKa:∀b o,K.lookup b=some o→b≠a:=fun b o e z=>by
  refine x_A (I b o e) fun i1 i2=> ?_
  rw[z] at i1 i2
  have:=R.top a o i1 i2
  rw[hga] at this;cases this
 refine Wu slot_list_sort hl.isList.typeIs entry_list_sort ?_ (args_list_sort _)
 refine mats_sort (ps:=zs.map fun z=>(z.1,z.2.1)) (qs:=ws.map fun z=>(z.1,z.2.1)) (n:=m) ?_ Y (I.here R) hs hKa ?_ ?_ ?_ (p1.map _) ?_ fun h2 tk k g1 g2=> ?_
 · have:=a0.units
   show A.units+1<cLine
   omega
 · rw[Q7]
   have:(zs.map ((fun x:Value × Int=>x.1)∘fun z=>(z.1,z.2.1)))=vs.toList:=e2
   rw[this];exact hl'
 · intro p hp
   refine x_EA (QO.mp hp) fun z hz' z127=> ?_;subst z127
   exact(H z hz').1
 ·rw[Qo,←Qo (f:=fun z:Value × (Int × List V)=>z.2),e1];exact h64
 · rw[List.pairwise_map]
   rw[←p2,List.pairwise_map] at hy
   exact hy
 · rw[Q7] at g1
   have hc:Concs C w.g w.ρ (us.map (mtV cl)) (ws.map (·.1)):=p2▸concs_zip fun z m=>(H z (p1.mem_iff.mpr m)).2
   refine x_A (R.setList (tk:=tk) (ys:=us.map (mtV cl)) (vs:=(ws.map (·.1)).toArray) ha hv' ⟨k,g1⟩ g2 hc) fun R' e'=> ?_
   exact⟨_,rfl,c _ _ _ (w.at h2 tk) (q _ hi.upd) (e' _) R' .none⟩
theorem concs_split {g:G} {ρ:List Addr} {ys:List V}:∀{xs:List V} {vs:List Value},Concs C g ρ (xs++ys) vs→∃us ws,vs=us++ws∧Concs C g ρ xs us∧Concs C g ρ ys ws
 |[],vs,c=>⟨[],vs,rfl, .nil,c⟩
 |x::xs,vs,c=>by
  refine c.e fun y r c1 c2=> ?_
  refine x_EEAA (concs_split (xs:=xs) c2) fun us ws z128 c3 c4=> ?_;subst z128
  exact⟨y::us,ws,rfl, .cons c1 c3,c4⟩
theorem pm_pop {v:V} {xs:List V} (hv:IsLst h v xs):PM C n h v "pop" (.blt "list.pop") [v]:=⟨kp_blt,fun hb hi Q q=>mth_lst (hi.lst hv) PySem.F.slot_list_pop (by first|exact PySem.F.type_list_pop|(show builtinType _=_;rw[builtinType_eq_fast];kernel_rfl)) q⟩
theorem kc_pop {i:Nat} {xs:List V} {v:V} (hv:h.σ i= .list (xs++[v])) (hz:xs.length≤9000) (q:∀h',(h.upd i (.list xs)).In h'→Q v h'):KC C n h (.blt "list.pop") [.ref i] [] Q:=fun hb hi=>cl1 fun A w Q' E fx x a0 R cf cx c=>by
 refine eqE cf.toInv ?_
 refine x_EA cx.toInv fun a z129 ha=> ?_;subst z129
 have hv':=hi.list hv
 refine x_EA (R.list ha hv') fun vs hl cs=> ?_
 refine x_E (id hl) fun m hl'=> ?_
 refine x_EEAA (concs_split cs) fun us ws e c1 c2=> ?_
 refine x_EEAA (cs_cons c2) fun y r z130 cy cn=> ?_;subst z130
 obtain rfl:=cs_nil cn
 have hsz:us.length=xs.length:=c1.length
 have evs:vs=(us++[y]).toArray:=by rw[←Array.toList_inj,e]
 subst evs
 have hk:(us++[y]).toArray.size-1=us.length:=by rw[List.size_toArray,Qn];rfl
 have hy:(us++[y]).toArray[(us++[y]).toArray.size-1]? =some y:=by rw[hk];simp
 have s1:=Heap.SameBut.update w.s.heap a (Obj.mapSeq fun v=>v.eraseIdxIfInBounds ((us++[y]).toArray.size-1))
 have g1:=get?_update_seq hl' fun v=>v.eraseIdxIfInBounds ((us++[y]).toArray.size-1)
 have er:((us++[y]).toArray).eraseIdxIfInBounds ((us++[y]).toArray.size-1)=us.toArray:=by rw[hk,kl_erase];simp
 rw[er] at g1
 refine x_A (R.setList (tk:=w.s.toks) (ys:=xs) (vs:=us.toArray) ha hv' ⟨_,g1⟩ (fun b o hb e=>(s1.2 b hb).trans e) c1) fun R' e'=> ?_
 exact call_meets PySem.F.slot_list_pop hl.isList.typeIs PySem.F.entry_list_pop (PySem.F.args_list_pop_1 _) (PySem.MeetsSeq.list_pop_last a _ m y hy (by rw[List.size_toArray,Qn,hsz,sizeLine_eq];simp;omega)) ⟨hl',c y v _ (w.at _ w.s.toks) (q _ hi.upd) (e' _) R' cy⟩
end
section
variable {w:World} {K:Frag} {cl f sm:Addr} {x dx:Addr} {vs:List Value}
theorem mat_iter {Q:Value→Shared→Prop} (Y:MatK K cl f sm) (X:K.In s.heap) (hs:findIn K (.ref cl) "__iter__" = some (some (.builtin "tuple.__iter__"))) (hx:s.heap.get? x=some ⟨.ref cl,some dx, .seq vs.toArray 0,#[]⟩)
 (q:Q (.ref s.heap.objs.size) {s with heap:=s.heap.push {cls:= .type "tuple_iterator",data:= .fields #[.ref x, .int 0 0] } }):wpAny (model prog w) A (pyIter (.ref x)) Q E s:=by
 refine x_A (Y.obj (M:=model prog w) X hx) fun ty it=> ?_
 have sp:∀{Q':Option Value→Shared→Prop},Q' (some (.builtin "tuple.__iter__")) s→wpAny (model prog w) A (specialOf (.ref x) "__iter__") Q' E s:=fun q'=>Qw (ty.here ((looks_findIn X hs).here q'))
 unfold pyIter
 refine Qw (sp ?_)
 dsimp only
 unfold callSpecialIfBoundUnlessNone? bindSpecialIfBound?
 refine Qw (Qf (Qw (Qw (sp ?_))))
 simp only[PySem.F.slot_tuple_iter.bind]
 refine Qw (wpAny_askSetting (wpAny_ite ?_))
 have fin:wpAny (model prog w) A (call (.builtin "tuple.__iter__") [.ref x]) (fun v s'=>v= .ref s.heap.objs.size∧s'={s with heap:=s.heap.push {cls:= .type "tuple_iterator",data:= .fields #[.ref x, .int 0 0] } }) E s:=by
  refine wpAny_call (codeAny_call_builtin PySem.F.slot_tuple_iter.plain PySem.F.entry_tuple_iter (@check_slot (model prog w) _ _ _ "tuple.__iter__" "tuple" "__iter__" (.ref x) [] [] _ kind_tit split_tit it (PySem.F.args_tuple_iter_1 _) ?_))
  show wpAny _ _ (do ret (←newFields "tuple_iterator" [.ref x,rawInt 0])) _ _ s
  exact Qw (wpAny_newObj_type (Qr ⟨rfl,rfl⟩))
 have go:∀{Q1:Value→Shared→Prop},Q1 (.ref s.heap.objs.size) {s with heap:=s.heap.push {cls:= .type "tuple_iterator",data:= .fields #[.ref x, .int 0 0] } }→wpAny (model prog w) A (call (.builtin "tuple.__iter__") [.ref x]) Q1 E s:=fun q1 =>
  Q5 fin (fun v s' h=>by rw[h.1,h.2];exact q1) fun _ _ e=>e
 have nx:Shared.TypeIs {s with heap:=s.heap.push {cls:= .type "tuple_iterator",data:= .fields #[.ref x, .int 0 0] } } (.ref s.heap.objs.size) "tuple_iterator" := ⟨_,Qu _ rfl,rfl⟩
 split
 · refine Qw (Qr (Qr ?_))
   dsimp only
   rw[if_neg (by simp)]
   refine Qw (go (Qr ?_))
   exact Qw (wpAny_specialOf (name:=Qq "__next__") nx PySem.F.slot_tuple_iterator_next.lookup (Qr q))
 · refine wpAny_tryCatch (Qw (Qr (Qr ?_)))
   dsimp only
   rw[if_neg (by simp)]
   refine Qw (go (Qr ?_))
   exact Qw (wpAny_specialOf (name:=Qq "__next__") nx PySem.F.slot_tuple_iterator_next.lookup (Qr q))
theorem mit_item {it t:Addr} {i n:Nat} {items:Array Value} {o:Obj} {u:Value} {Q:Option Value→Shared→Prop} (hit:s.heap.IsTupleIter it t i) (ho:s.heap.get? t=some o) (hd:o.data= .seq items n) (hu:items[i]? =some u)
 (q:∀h',h'.IsTupleIter it t (i+1)→Heap.SameBut it s.heap h'→Q (some u) {s with heap:=h' }):wpAny (model prog w) A (pyNext (.ref it)) Q E s:=by
 refine x_EAA (id hit) fun oi hoi hci hdi=> ?_
 have body:wpAny (model prog w) A.in1 (Builtin.«tuple_iterator.__next__» ⟨[.ref it],[]⟩) (fun fin s'=>∃v,fin= .done (.ret v)∧v=u∧∃h',s'={s with heap:=h' }∧h'.IsTupleIter it t (i+1)∧Heap.SameBut it s.heap h') (fun e s'=>False) s:=by
  show wpAny _ _ (field (.ref it) 0 >>= _) _ _ s
  refine Qw (wpAny_field hoi hdi (x:= .ref t) rfl ?_)
  show wpAny _ _ (if(Value.ref t==Value.none)=true then _ else _) _ _ s
  rw[if_neg (by simp)]
  show wpAny _ _ (field (.ref it) 1 >>= _) _ _ s
  refine Qw (wpAny_field hoi hdi (x:= .int i 0) rfl ?_)
  show wpAny _ _ (seqItems? (.ref t) >>= _) _ _ s
  refine Qw (wpAny_seqItems ho hd ?_)
  simp only[Int.toNat_natCast,hu]
  refine Qw (wpAny_setField hoi hdi (by simp) (Qr ⟨u,rfl,rfl,_,rfl, ?_,Heap.SameBut.update ..⟩))
  exact⟨_,Heap.get?_update_self _ hoi (Obj.isFreed_of_fields (Obj.data_mapFields hdi _)),(Obj.cls_mapFields ..).trans hci,by rw[Obj.data_mapFields hdi];simp[rawInt]⟩
 unfold pyNext
 refine Qw (wpAny_attempt (wpAny_callSpecial?_slot (name:=Qq "__next__") hit.typeIs PySem.F.slot_tuple_iterator_next
  (Wu PySem.F.slot_tuple_iterator_next hit.typeIs PySem.F.entry_tuple_iterator_next (Q5 body ?_ fun _ _ e=>e.elim) (PySem.F.args_tuple_iterator_next_1 _))))
 rintro fin s' ⟨v,rfl,rfl,h',rfl,h1,h2⟩
 exact⟨_,rfl,Qr (q h' h1 h2)⟩
theorem mit_end {it t:Addr} {i n:Nat} {items:Array Value} {o:Obj} {Q:Option Value→Shared→Prop} (hh:A.handled=none) (hit:s.heap.IsTupleIter it t i) (ho:s.heap.get? t=some o) (hd:o.data= .seq items n) (hu:items[i]? =none)
 (q:∀h',Heap.ExtBut it s.heap h'→Q none {s with heap:=h' }):wpAny (model prog w) A (pyNext (.ref it)) Q E s:=by
 refine x_EAA (id hit) fun oi hoi hci hdi=> ?_
 unfold pyNext
 refine Qw (wpAny_attempt (wpAny_callSpecial?_slot (name:=Qq "__next__") hit.typeIs PySem.F.slot_tuple_iterator_next
  (Wu PySem.F.slot_tuple_iterator_next hit.typeIs PySem.F.entry_tuple_iterator_next ?_ (PySem.F.args_tuple_iterator_next_1 _))))
 show wpAny _ _ (field (.ref it) 0 >>= _) _ _ s
 refine Qw (wpAny_field hoi hdi (x:= .ref t) rfl ?_)
 show wpAny _ _ (if(Value.ref t==Value.none)=true then _ else _) _ _ s
 rw[if_neg (by simp)]
 show wpAny _ _ (field (.ref it) 1 >>= _) _ _ s
 refine Qw (wpAny_field hoi hdi (x:= .int i 0) rfl ?_)
 show wpAny _ _ (seqItems? (.ref t) >>= _) _ _ s
 refine Qw (wpAny_seqItems ho hd ?_)
 simp only[Int.toNat_natCast,hu]
 refine Qw (wpAny_rule (Qw (wpAny_setField hoi hdi (by simp) ?_)))
 show wpAny _ _ (newExc (.type "StopIteration") [] >>= _) _ _ _
 refine Qw ?_
 simp only[newExc,newTuple]
 refine Qw (wpAny_newObj_type ?_ (by size_fits))
 refine Qw (m:=firstArgMember _ _) (wpAny_of_eq (a:=Value.none) (by first|rfl|(simp only[firstArgMember];rfl)) ?_)
 refine wpAny_newObj_type ?_ (by size_fits)
 simp only[raiseNew]
 refine Qw (wpAny_handled ?_)
 rw[show A.in1.handled=none from hh]
 refine Qw (Qr (wpAny_throw ?_))
 refine Qw (wpAny_isInstance (T := "StopIteration") (b:=true) ⟨_,Qu _ rfl,rfl⟩ isSubtype_stop ?_)
 exact Qr (q _ (((Heap.SameBut.update ..).extBut.push _).push _))
theorem mit_draw {it t:Addr} {items:Array Value} {m:Nat} {o:Obj} (hne:t≠it) (hd:o.data= .seq items m):∀(n i:Nat) (s:Shared) (Q:List Value→Shared→Prop),s.heap.IsTupleIter it t i→s.heap.get? t=some o→i+n≤items.size →
 (∀h',h'.IsTupleIter it t (i+n)→Heap.SameBut it s.heap h'→Q ((items.toList.drop i).take n) {s with heap:=h' })→wpAny (model prog w) A (draw (.ref it) n) Q E s
 |0,i,s,Q,hit,_,_,q=>Qr (q s.heap hit (Heap.SameBut.refl ..))
 |n+1,i,s,Q,hit,ho,hle,q=>by
  have hlt:i<items.size:=Qy (Nat.lt_add_of_pos_right (Nat.zero_lt_succ n)) hle
  show wpAny _ _ (pyNext (.ref it) >>= _) Q E s
  refine Qw (mit_item hit ho hd (u:=items[i]) (by simp[hlt]) fun h1 hit1 s1=> ?_)
  have e1:i+1+n=i+(n+1):=Nat.succ_add_eq_add_succ _ _
  refine Qw (Qf (mit_draw hne hd n (i+1) _ _ hit1 ((s1.2 t hne).trans ho) (e1▸hle) fun h2 hit2 s2=>Qr ?_))
  have:=q h2 (e1▸hit2) (s1.trans s2)
  rw[show items.toList.drop i=items[i]::items.toList.drop (i+1) by simp[List.drop_eq_getElem_cons,hlt],List.take_succ_cons] at this
  exact this
theorem mat_unpack {targets:List (Bool × (Value→Sem Unit))} {Q:Unit→Shared→Prop} (hh:A.handled=none) (Y:MatK K cl f sm) (X:K.In s.heap) (hs:findIn K (.ref cl) "__iter__" = some (some (.builtin "tuple.__iter__"))) (hx:s.heap.get? x=some ⟨.ref cl,some dx, .seq vs.toArray 0,#[]⟩)
 (hn:targets.length=vs.length) (hst:targets.findIdx? (·.1)=none) (q:∀h',Heap.ExtBut s.heap.objs.size s.heap h'→wpAny (model prog w) A (assignInOrder (targets.map (·.2)) vs) Q E {s with heap:=h' }) :
 wpAny (model prog w) A (unpack (.ref x) targets) Q E s:=by
 have hlt:x≠s.heap.objs.size:=Qg (Heap.lt_size hx)
 refine x_A (Y.obj (M:=model prog w) X hx) fun ty it=> ?_
 unfold unpack
 rw[hn,hst]
 refine Qw (Qf ?_)
 unfold unpackItems
 refine Qw ?_
 unfold notIterableAtAll
 refine Qw (Qw (ty.here ((looks_findIn X hs).here ?_)))
 refine Qr ?_
 simp only[Qm,if_false]
 refine Qw (Qf (mat_iter Y X hs hx ?_))
 refine Qw (Qf (mit_draw (items:=vs.toArray) (m:=0) hlt rfl vs.length 0 _ _ ⟨_,Qu _ rfl,rfl,rfl⟩ (Qd _ hx) (by simp) fun h1 hit1 s1=> ?_))
 rw[List.drop_zero,List.take_of_length_le (Qt _),if_neg (Nat.lt_irrefl _)]
 refine Qw (Qf (mit_end (items:=vs.toArray) (n:=0) (o:=⟨.ref cl,some dx, .seq vs.toArray 0,#[]⟩) hh hit1 ((s1.2 x hlt).trans (Qd _ hx)) rfl (by simp) fun h2 e2=> ?_))
 simp only[Option.isSome_none,Qm,if_false]
 exact Qr (q h2 fun b o hb e=>e2 b o hb (s1.extBut b o hb (Qd _ e)))
theorem mat_len {Q:Value→Shared→Prop} (Y:MatK K cl f sm) (X:K.In s.heap) (hs:findIn K (.ref cl) "__len__" = some (some (.builtin "tuple.__len__"))) (hx:s.heap.get? x=some ⟨.ref cl,some dx, .seq vs.toArray 0,#[]⟩) (hz:vs.length≤10000) (q:∀t tk,Q (.int vs.length t) {s with toks:=tk }) :
 wpAny (model prog w) A (call (.builtin "len") [.ref x]) Q E s:=by
 refine x_A (Y.obj (M:=model prog w) X hx) fun ty it=> ?_
 have inner:wpAny (model prog w) A.in1 (callSpecial? (.ref x) (Qq "__len__")) (fun r s'=>r=some (.int vs.length (s.toks))∧s'={s with toks:=s.toks+1 }) (fun _ _=>False) s:=by
  unfold callSpecial?
  refine Qw (Qw (ty.here ((looks_findIn X hs).here ?_)))
  refine Qf ?_
  rw[PySem.F.slot_tuple_len.bind]
  refine Qw (Qr (Qw ?_))
  refine wpAny_call (codeAny_call_builtin PySem.F.slot_tuple_len.plain PySem.F.entry_tuple_len (@check_slot (model prog w) _ _ _ "tuple.__len__" "tuple" "__len__" (.ref x) [] [] _ kind_tln split_tln it (PySem.F.args_tuple_len_1 _) ?_))
  unfold Builtin.«tuple.__len__»
  refine Qw (wpAny_of_eq (show slotArgs "__len__" 0 ⟨[.ref x],[]⟩=pure (.ref x,[]) from rfl) ?_)
  dsimp only
  refine Qw (wpAny_tupleItemsOf hx rfl ?_)
  exact Qw (wpAny_mkInt (Qr (Qr ⟨by simp,rfl⟩)))
 refine PySem.Calls.call_function_entry kind_len plain_len entry_len (args_len1 _) ?_
 unfold Builtin.«len»
 refine Qw (m:=oneArg "len" _) (Qr ?_)
 refine Qw (m:=callSpecial? (.ref x) (Qq "__len__")) (Q5 inner ?_ fun _ _ e=>e.elim)
 rintro r s' ⟨rfl,rfl⟩
 show wpAny _ _ _ _ _ {s with toks:=s.toks+1 }
 refine Qw (Qf (Qr ?_))
 refine Qw (wpAny_letGo ?_)
 show wpAny _ _ (if((vs.length:Nat):Int)<0 then _ else _) _ _ _
 rw[if_neg (by omega)]
 show wpAny _ _ (if((vs.length:Nat):Int) ≥ 2^63 then _ else _) _ _ _
 rw[if_neg (by omega)]
 exact Qw (wpAny_mkInt (Qr ⟨_,rfl,q _ _⟩))
end
section
variable {K:Frag} {cl f sm:Addr}
theorem as_mat (I:InC C K) (Y:MatK K cl f sm) (hs:findIn K (.ref cl) "__iter__" = some (some (.builtin "tuple.__iter__"))) {ts:List Expr} {vs:List V} {k:Nat} {p:Pos} (hlen:ts.length=vs.length) (H:AsL C n F QL ts vs loc h) (he:autoParam ((assignEach ts F.env).map (·.2)=ts.map (fun t=>assign t F.env)) aR) (hst:autoParam ((assignEach ts F.env).findIdx? (·.1)=none) aR):As C n F loc h (.Tuple ts k p) (.mat cl vs) QL:=⟨fun A w Q' E y a0 R f c kk=>by
 refine c.eMat fun xs a dx hg hgd cs=> ?_
 have hl:(assignEach ts F.env).length=xs.length:=by
  have:=congrArg List.length he
  simp only[Qo] at this
  rw[this,cs.length,hlen]
 rw[arm_assign_Tuple]
 refine Qw (wpAny_standAt (mat_unpack a0.handled Y (I.here R) hs (R.keep _ _ hg) hl hst fun h' hx=> ?_))
 rw[he]
 have hk:∀b o,w.s.heap.get? b=some o→h'.get? b=some o:=fun b o e=>hx b o (Qg (Heap.lt_size e)) e
 exact asL_run ts vs xs loc h A (w.at h' w.s.toks) w Q' E H a0 (R.grow hk) (f.ext0 (Ext.grow hk)) cs fun l2 h2 w2 q2 e2 R2 f2=>kk l2 h2 w2 q2 ((Ext.grow hk).trans e2) R2 f2⟩
theorem ka_mat (I:InC C K) (Y:MatK K cl f sm) (hs:findIn K (.ref cl) "__iter__" = some (some (.builtin "tuple.__iter__"))) {ts:List Expr} {vs:List V} {k:Nat} {p:Pos} (H:KAL C n F QL ts vs loc h) (hlen:autoParam (ts.length=vs.length) aR) (he:autoParam ((assignEach ts F.env).map (·.2)=ts.map (fun t=>assign t F.env)) aR) (hst:autoParam ((assignEach ts F.env).findIdx? (·.1)=none) aR):KA C n F loc h (.Tuple ts k p) (.mat cl vs) QL:=fun hb hi=>as_mat I Y hs hlen (H hb hi) he hst
end
theorem mro_map:mroOf (.type "map")=pure [.type "map", .type "object"]:=by rw[mroOf_type];kernel_rfl
theorem lookup_map_new:typeLookup (.type "map") "__new__" = pure (some (.builtin "map.__new__")):=by rw[typeLookup_type,QG];kernel_rfl
theorem slot_map_init:Slot "map" "__init__" "object.__init__" :=
 .of (owner := "object") (n := "__init__") (by rw[typeLookup_type,QG];kernel_rfl) (by decide +kernel) (by decide +kernel) (by decide +kernel)
  (by first|exact .inl (by decide +kernel)|exact .inr (by decide +kernel)) (by rw[isSubtype_type];kernel_rfl)
theorem called_map:TypeCalled "map" "map.__new__" "object.__init__" :=
 ⟨by decide +kernel,by decide +kernel,⟨_,_,mro_map⟩,madeBy_type mro_map lookup_map_new (by decide +kernel),by decide +kernel,by rw[isSubtype_type];kernel_rfl,slot_map_init⟩
theorem typeCall_map_2 (a b:Value):checkTypeCall "map" ⟨[a,b],[]⟩=pure ():=by kernel_rfl
theorem newCall_map_2 (a b:Value):checkBuiltinCall "map.__new__" ⟨[.type "map",a,b],[]⟩=pure ():=by kernel_rfl
theorem entry_map_new:entryFor table "map.__new__" = some Builtin.«map.__new__»:=entryFor_of_tree (by kernel_rfl)
theorem oi_args3 (a b c:Value):argsOk "object.__init__" ⟨[a,b,c],[]⟩:=by unfold argsOk;kernel_rfl
theorem slot_map_next:Slot "map" "__next__" "map.__next__" :=
 .of (owner := "map") (n := "__next__") (by rw[typeLookup_type,QG];kernel_rfl) (by decide +kernel) (by decide +kernel) (by decide +kernel)
  (by first|exact .inl (by decide +kernel)|exact .inr (by decide +kernel)) (by rw[isSubtype_type];kernel_rfl)
theorem entry_map_next:entryFor table "map.__next__" = some Builtin.«map.__next__»:=entryFor_of_tree (by kernel_rfl)
theorem args_map_next (a:Value):argsOk "map.__next__" ⟨[a],[]⟩:=by unfold argsOk;kernel_rfl
theorem slot_map_iter:Slot "map" "__iter__" "map.__iter__" :=
 .of (owner := "map") (n := "__iter__") (by rw[typeLookup_type,QG];kernel_rfl) (by decide +kernel) (by decide +kernel) (by decide +kernel)
  (by first|exact .inl (by decide +kernel)|exact .inr (by decide +kernel)) (by rw[isSubtype_type];kernel_rfl)
theorem entry_map_iter:entryFor table "map.__iter__" = some Builtin.«dict_keyiterator.__iter__» :=
 entryFor_alias (id' := "dict_keyiterator.__iter__") (by kernel_rfl) (by first|rfl|decide +kernel|(unfold String.splitOn;simp +decide [String.splitOnAux])) (by decide +kernel) (by kernel_rfl)
theorem args_map_iter (a:Value):argsOk "map.__iter__" ⟨[a],[]⟩:=by unfold argsOk;kernel_rfl
theorem no_len_map:typeLookup (.type "map") "__len__" = pure none:=by rw[typeLookup_type,QG];kernel_rfl
theorem no_hint_map:typeLookup (.type "map") "__length_hint__" = pure none:=by rw[typeLookup_type,QG];kernel_rfl
theorem sub_map:isSubtype (.type "map") (.type "map")=pure true:=by rw[isSubtype_type];kernel_rfl
theorem meets_map_new (fx:Value) (l:Addr) (items:Array Value) :
 Meets (Builtin.«map.__new__» ⟨[.type "map",fx, .ref l],[]⟩) (fun _ R s=>s.heap.IsList l items ∧
  R (.ok (.ret (.ref ((s.heap.push {cls:= .type "list_iterator",data:= .fields #[.ref l, .int 0 0] }).push {cls:= .type "tuple",data:= .seq #[.ref s.heap.objs.size] }).objs.size)))
   {s with heap:=((s.heap.push {cls:= .type "list_iterator",data:= .fields #[.ref l, .int 0 0] }).push {cls:= .type "tuple",data:= .seq #[.ref s.heap.objs.size] }).push {cls:= .type "map",data:= .fields #[.ref (s.heap.push {cls:= .type "list_iterator",data:= .fields #[.ref l, .int 0 0] }).objs.size,fx] } }) :=
 .of_wp fun prog w A R s h=>by
  refine x_A h fun hL h=> ?_
  have hsub:=sub_map
  unfold Builtin.«map.__new__» Builtin.SmallTypes.newClass
  refine Qw (Qw (m:=isType _) (Qr ?_))
  rw[if_neg (by simp)]
  refine Qw (m:=isSubtype _ _) (wpAny_of_eq hsub ?_)
  rw[if_neg (by simp)]
  refine Qr ?_
  dsimp only
  unfold Builtin.SmallTypes.refuseKeywords
  rw[if_pos (by rfl)]
  refine Qw (Qr ?_)
  rw[if_neg (by simp)]
  unfold Builtin.SmallTypes.iterAll
  simp only[List.drop_succ_cons,List.drop_zero,List.forIn_cons,List.forIn_nil,List.headD_cons]
  refine Qw (Qw (Qw (Qw (Qf (wpAny_pyIter_list hL ?_)))))
  refine Qr (Qr (Qr ?_))
  refine Qw (wpAny_newTuple ?_ (by simp[sizeLine_eq]))
  refine Qw (m:=Builtin.SmallTypes.newRecord _ _) ?_
  show wpAny _ _ (newObj (.type "map") (.fields #[_,_])) _ _ _
  refine wpAny_newObj_type ?_
  exact Qr ⟨_,rfl,h⟩
section
variable {w:World}
noncomputable abbrev MapAt (h:Heap) (m t i:Addr) (f:Value):Prop:=h.get? m=some {cls:= .type "map",data:= .fields #[.ref t,f] }∧h.get? t=some {cls:= .type "tuple",data:= .seq #[.ref i] }
theorem map_made {fx:Value} {l:Addr} {items:Array Value} {Q:Value→Shared→Prop} (hL:s.heap.IsList l items)
 (q:∀h',MapAt h' (s.heap.objs.size+2) (s.heap.objs.size+1) s.heap.objs.size fx→h'.IsListIter s.heap.objs.size l 0→(∀b o,s.heap.get? b=some o→h'.get? b=some o)→Q (.ref (s.heap.objs.size+2)) {s with heap:=h' }) :
 wpAny (model prog w) A (call (.type "map") [fx, .ref l]) Q E s:=by
 refine callType_new called_map (by decide) (typeCall_map_2 _ _) (newCall_map_2 _ _) (fun obj=>oi_args3 obj _ _) entry_map_new (meets_map_new fx l items) ⟨hL, ?_⟩
 have z1:(s.heap.push {cls:= .type "list_iterator",data:= .fields #[.ref l, .int 0 0] }).objs.size=s.heap.objs.size+1:=Heap.size_push ..
 have z2:((s.heap.push {cls:= .type "list_iterator",data:= .fields #[.ref l, .int 0 0] }).push {cls:= .type "tuple",data:= .seq #[.ref s.heap.objs.size] }).objs.size=s.heap.objs.size+2:=(Heap.size_push ..).trans (by rw[z1])
 have g3:=Qu ((s.heap.push {cls:= .type "list_iterator",data:= .fields #[.ref l, .int 0 0] }).push {cls:= .type "tuple",data:= .seq #[.ref s.heap.objs.size] }) (o:={cls:= .type "map",data:= .fields #[.ref (s.heap.push {cls:= .type "list_iterator",data:= .fields #[.ref l, .int 0 0] }).objs.size,fx] }) rfl
 have g2:=Qu (s.heap.push {cls:= .type "list_iterator",data:= .fields #[.ref l, .int 0 0] }) (o:={cls:= .type "tuple",data:= .seq #[.ref s.heap.objs.size] }) rfl
 have g1:=Qu s.heap (o:={cls:= .type "list_iterator",data:= .fields #[.ref l, .int 0 0] }) rfl
 show _∧_
 rw[z2,z1] at *
 exact⟨⟨_,g3,rfl⟩,q _ ⟨g3,Qd _ g2⟩ ⟨_,Qd _ (Qd _ g1),rfl,rfl⟩ fun b o e=>Qd _ (Qd _ (Qd _ e))⟩
theorem map_iter {m t i:Addr} {f:Value} {Q:Value→Shared→Prop} (hm:MapAt s.heap m t i f) (q:Q (.ref m) s):wpAny (model prog w) A (pyIter (.ref m)) Q E s:=by
 have hT:s.TypeIs (.ref m) "map" := ⟨_,hm.1,rfl⟩
 refine wpAny_pyIter_slot hT slot_map_iter (Wu slot_map_iter hT entry_map_iter ?_ (args_map_iter _))
 show wpAny _ _ (ret (.ref m)) _ _ s
 exact Qr ⟨_,rfl, "map",_,hT,slot_map_next.lookup,q⟩
theorem map_next {m t i l:Addr} {k:Nat} {f x:Value} {items:Array Value} {Q:Option Value→Shared→Prop} (hm:MapAt s.heap m t i f) (hit:s.heap.IsListIter i l k) (hL:s.heap.IsList l items) (hx:items[k]? =some x) (n1:m≠i) (n2:t≠i)
 (q:∀h',MapAt h' m t i f→h'.IsListIter i l (k+1)→Heap.SameBut i s.heap h'→wpAny (model prog w) A.in1 (call f [x]) (fun v s'=>Q (some v) s') (fun _ _=>False) {s with heap:=h' }):wpAny (model prog w) A (pyNext (.ref m)) Q E s:=by
 have hT:s.TypeIs (.ref m) "map" := ⟨_,hm.1,rfl⟩
 have body:wpAny (model prog w) A.in1 (Builtin.«map.__next__» ⟨[.ref m],[]⟩) (fun fin s'=>∃v,fin= .done (.ret v)∧Q (some v) s') (fun e s'=>False) s:=by
  show wpAny _ _ (field (.ref m) 0 >>= _) _ _ s
  refine Qw (wpAny_field hm.1 rfl (x:= .ref t) rfl ?_)
  show wpAny _ _ (seqItems? (.ref t) >>= _) _ _ s
  refine Qw (wpAny_seqItems hm.2 rfl ?_)
  dsimp only
  simp only[←Array.forIn_toList,List.forIn_cons,List.forIn_nil]
  refine Qw (Qw (Qw (Qf (wpAny_nextOf_list_item hit hL hx fun h' hit' sb=> ?_))))
  refine Qr (Qr ?_)
  refine Qw (wpAny_field ((sb.2 m n1).trans hm.1) rfl (x:=f) rfl ?_)
  refine Qw (Qf ?_)
  refine Q5 (q h' ⟨(sb.2 m n1).trans hm.1,(sb.2 t n2).trans hm.2⟩ hit' sb) (fun v s' hq=> ?_) fun _ _ e=>e
  exact Qw (wpAny_letGo (Qr ⟨v,rfl,hq⟩))
 unfold pyNext
 refine Qw (wpAny_attempt (wpAny_callSpecial?_slot (name:=Qq "__next__") hT slot_map_next
  (Wu slot_map_next hT entry_map_next (Q5 body ?_ fun _ _ e=>e.elim) (args_map_next _))))
 rintro fin s' ⟨v,rfl,q'⟩
 exact⟨_,rfl,Qr q'⟩
theorem map_end {m t i l:Addr} {k:Nat} {f:Value} {items:Array Value} {Q:Option Value→Shared→Prop} (hh:A.handled=none) (hm:MapAt s.heap m t i f) (hit:s.heap.IsListIter i l k) (hL:s.heap.IsList l items) (hx:items[k]? =none)
 (q:∀h',Heap.ExtBut i s.heap h'→Q none {s with heap:=h' }):wpAny (model prog w) A (pyNext (.ref m)) Q E s:=by
 have hT:s.TypeIs (.ref m) "map" := ⟨_,hm.1,rfl⟩
 unfold pyNext
 refine Qw (wpAny_attempt (wpAny_callSpecial?_slot (name:=Qq "__next__") hT slot_map_next
  (Wu slot_map_next hT entry_map_next ?_ (args_map_next _))))
 show wpAny _ _ (field (.ref m) 0 >>= _) _ _ s
 refine Qw (wpAny_field hm.1 rfl (x:= .ref t) rfl ?_)
 show wpAny _ _ (seqItems? (.ref t) >>= _) _ _ s
 refine Qw (wpAny_seqItems hm.2 rfl ?_)
 dsimp only
 simp only[←Array.forIn_toList,List.forIn_cons,List.forIn_nil]
 refine Qw (Qw (Qw (Qf (wpAny_nextOf_list_end hh hit hL hx fun h' e hb ⟨o,ho,hc⟩=> ?_))))
 refine Qw (wpAny_isInstance (T := "StopIteration") (b:=true) ⟨o,ho,hc⟩ isSubtype_stop ?_)
 exact Qr (q _ hb)
end
section
variable {h0:Hs}
theorem In.upl {a b:Hs} {p:Nat} {o o':AO} (x:(a.upd p o).In b):(a.upd p o').In (b.upd p o'):=⟨x.nx,fun j=>by
 show AO.le (if j=p then o' else b.σ j) (if j=p then o' else a.σ j)
 by_cases hj:j=p
 ·rw[if_pos hj,if_pos hj];exact AO.le_refl _
 · have:=x.le j
   rw[if_neg hj,if_neg hj]
   have e:(a.upd p o).σ j=a.σ j:=if_neg hj
   rwa [e] at this⟩
noncomputable def MapF (C:Cx) (n:Nat) (h:Hs) (f cl:Addr) (xs:List V) (g:V→V):Prop:=∀hb,h.In hb→∀x∈xs,∀Q:V→Hs→Prop,(∀h',hb.In h'→Q (g x) h')→Cd C n hb f [.top cl,x] [] Q
structure MapL (C:Cx) (h0:Hs) (p:Nat) (src:V) (xs:List V) (g:V→V) (f cl:Addr) (l S m t i bm:Addr) (w0:Wd) (k:Nat) (w:Wd) (h:Hs):Prop where
 hin:(h0.upd p (.list ((xs.take k).map g))).In h
 R:Rep C w h
 at_:w.ρ[p]? =some S
 src:Conc C w.g w.ρ src (.ref l)
 map:MapAt w.s.heap m t i (.ref bm)
 iter:w.s.heap.IsListIter i l k
 bnd:w.s.heap.get? bm=some (methodObj (.ref f) (.ref cl))
 ap:∀a∈[m,t,i,bm],w.g a=none∧a∉w.ρ∧a∉C.tabs
 ext:Ext C [] w0 w
theorem MapL.turn {p:Nat} {src:V} {xs:List V} {g:V→V} {f cl l S m t i bm:Addr} {w0 w:Wd} {k:Nat} {A:Around} {Q':Option Value→Shared→Prop} {E:Value→Shared→Prop} (L:MapL C h0 p src xs g f cl l S m t i bm w0 k w h) (a0:AOk A (n+1)) (hf:∀a∈[m,t,i,bm],w0.s.heap.get? a=none)
 (hp:h0.σ p= .dead) (hl:IsLst h0 src xs) (n1:m≠i) (n2:t≠i) (n3:bm≠i) (hk:k<xs.length) (H:MapF C n h0 f cl xs g)
 (q:∀v w2 h2,Conc C w2.g w2.ρ (g xs[k]) v→(h0.upd p (.list ((xs.take k).map g))).In h2→Rep C w2 h2→w2.ρ[p]? =some S→Conc C w2.g w2.ρ src (.ref l)→MapAt w2.s.heap m t i (.ref bm)→w2.s.heap.IsListIter i l (k+1)→w2.s.heap.get? bm=some (methodObj (.ref f) (.ref cl))→(∀a∈[m,t,i,bm],w2.g a=none∧a∉w2.ρ∧a∉C.tabs)→Ext C [] w0 w2→Q' (some v) w2.s) :
 wpAny C.M A (pyNext (.ref m)) Q' E w.s:=by
 have h0in:h0.In h:=((Hs.In.refl h0).updd hp).trans L.hin
 refine x_EEAAA (IsLst.at (h0in.lst hl) L.R L.src) fun l' vs el hpl cs _=> ?_
 cases el
 obtain⟨x,hx,cx⟩:=cs.get (Qh hk)
 have hx':vs[k]? =some x:=by rw[←Array.getElem?_toList];exact hx
 refine map_next L.map L.iter hpl.isList hx' n1 n2 fun h' hm' hi' sb=> ?_
 have hk':∀b o,b∉[i]→w.s.heap.get? b=some o→h'.get? b=some o:=fun b o hb e=>(sb.2 b fun z=>hb (by rw[z];exact Qs.mpr rfl)).trans e
 have ap1:∀a∈[i],w.g a=none∧a∉w.ρ∧a∉C.tabs:=fun a ha=>L.ap a (by rw[Qs.mp ha];simp)
 have R1:=L.R.apart (k:=w.s.toks) hk' ap1
 have e1:Ext C [] w0 (w.at h' w.s.toks):=L.ext.base (wr:=[i]) (fun b hb=>hf b (by rw[Qs.mp hb];simp)) (fun b hb=>(ap1 b hb).2.1) hk'
 have hb':h'.get? bm=some (methodObj (.ref f) (.ref cl)):=(sb.2 bm n3).trans L.bnd
 have lv:∀a∈[m,t,i,bm],∃o,h'.get? a=some o:=fun a ha=>by
  simp only[QY,QZ,or_false] at ha
  rcases ha with rfl|rfl|rfl|rfl
  ·exact⟨_,hm'.1⟩
  ·exact⟨_,hm'.2⟩
  ·refine x_EA hi' fun o ho _=> ?_;exact⟨o,ho⟩
  ·exact⟨_,hb'⟩
 refine wpAny_call (method_call hb' ?_)
 refine(H h h0in xs[k] (List.getElem_mem hk) (fun v h2=>v=g xs[k]∧h.In h2) fun h2 i2=>⟨rfl,i2⟩).run _ (w.at h' w.s.toks) _ [.ref cl,x] [] ?_ R1 (.cons (.top cl) (.cons cx .nil)) rfl .nil fun r v h2 w2 q2 e2 R2 c2=> ?_
 ·exact a0.in1
 · refine x_A q2 fun z131 i2=> ?_;subst z131
   have kp:∀a∈[m,t,i,bm],∀o,h'.get? a=some o→w2.s.heap.get? a=some o:=fun a ha o ho=>e2.kept a o ho (L.ap a ha).2.1 (by simp) (L.ap a ha).2.2
   refine x_EA hi' fun oi ho r1=> ?_
   exact q r w2 h2 c2 (L.hin.trans i2) R2 (by
    refine x_E e2.pre fun z hz=> ?_
    rw[←hz]
    exact List.getElem?_append_left (Qp.mp L.at_).1 |>.trans L.at_) (L.src.ext (w:=w.at h' w.s.toks) e2) ⟨kp m (by simp) _ hm'.1,kp t (by simp) _ hm'.2⟩ ⟨oi,kp i (by simp) _ ho,r1⟩ (kp bm (by simp) _ hb') (apart_ext (w:=w.at h' w.s.toks) L.ap lv e2) (e1.trans e2)
theorem MapL.stop {p:Nat} {src:V} {xs:List V} {g:V→V} {f cl l S m t i bm:Addr} {w0 w:Wd} {A:Around} {Q':Option Value→Shared→Prop} {E:Value→Shared→Prop} (L:MapL C h0 p src xs g f cl l S m t i bm w0 xs.length w h) (a0:AOk A (n+1)) (hf:∀a∈[m,t,i,bm],w0.s.heap.get? a=none)
 (hp:h0.σ p= .dead) (hl:IsLst h0 src xs)
 (q:∀h',(∀b o,b≠i→w.s.heap.get? b=some o→h'.get? b=some o)→Rep C (w.at h' w.s.toks) h→Ext C [] w0 (w.at h' w.s.toks)→Q' none {w.s with heap:=h' }) :
 wpAny C.M A (pyNext (.ref m)) Q' E w.s:=by
 have h0in:h0.In h:=((Hs.In.refl h0).updd hp).trans L.hin
 refine x_EEAAA (IsLst.at (h0in.lst hl) L.R L.src) fun l' vs el hpl cs _=> ?_
 cases el
 have hlen:vs.size=xs.length:=by rw[←QD,cs.length]
 refine map_end (by exact a0.handled) L.map L.iter hpl.isList (by simp[hlen]) fun h' hb=> ?_
 have hk':∀b o,b∉[i]→w.s.heap.get? b=some o→h'.get? b=some o:=fun b o hb' e=>hb b o (fun z=>hb' (by rw[z];exact Qs.mpr rfl)) e
 have ap1:∀a∈[i],w.g a=none∧a∉w.ρ∧a∉C.tabs:=fun a ha=>L.ap a (by rw[Qs.mp ha];simp)
 exact q h' hb (L.R.apart (k:=w.s.toks) hk' ap1) (L.ext.base (wr:=[i]) (fun b hb=>hf b (by rw[Qs.mp hb];simp)) (fun b hb=>(ap1 b hb).2.1) hk')
theorem MapL.run {p:Nat} {src:V} {xs:List V} {g:V→V} {f cl l S m t i bm:Addr} {w0:Wd} {A:Around} {Rr:Result→Shared→Prop} (a0:AOk A (n+2)) (hf:∀a∈[m,t,i,bm],w0.s.heap.get? a=none)
 (hp:h0.σ p= .dead) (hl:IsLst h0 src xs) (n1:m≠i) (n2:t≠i) (n3:bm≠i) (hz:xs.length≤Qc) (H:MapF C n h0 f cl xs g) (res:Value)
 (q:∀w' h',(h0.upd p (.list (xs.map g))).In h'→Rep C w' h'→w'.ρ[p]? =some S→Ext C [] w0 w'→Rr (.ok (.ret res)) w'.s):∀(j k:Nat) (w:Wd) (h:Hs),xs.length-k=j→k≤xs.length→MapL C h0 p src xs g f cl l S m t i bm w0 k w h →
 codeAny C.M A (.builtin "list.extend.loop" ⟨[.ref S, .ref m,res],[]⟩) Rr w.s
 |0,k,w,h,hj,hk,L=>by
  obtain rfl:k=xs.length:=Nat.le_antisymm hk (Nat.le_of_sub_eq_zero hj)
  refine codeAny_builtin PySem.F.entry_extend_loop ?_
  rw[Around.under_plainId PySem.F.plain_extend_loop _]
  show wpAny _ A.in1 (pyNext (.ref m) >>= _) _ _ _
  refine Qw (L.stop a0.in1 hf hp hl fun h' _ R' e'=> ?_)
  have hin:=L.hin
  rw[List.take_length] at hin
  exact Qr (q (w.at h' w.s.toks) h hin R' L.at_ e')
 |j+1,k,w,h,hj,hk,L=>by
  have hlt:k<xs.length:=Nat.lt_of_sub_eq_succ hj
  refine codeAny_builtin PySem.F.entry_extend_loop ?_
  rw[Around.under_plainId PySem.F.plain_extend_loop _]
  show wpAny _ A.in1 (pyNext (.ref m) >>= _) _ _ _
  refine Qw (L.turn a0.in1 hf hp hl n1 n2 n3 hlt H fun v w2 h2 cv hin R2 hS cs hm hi hb ap e2=> ?_)
  have hsp:h2.σ p= .list ((xs.take k).map g):=hin.list (by show(if p=p then _ else _)=_;rw[if_pos rfl])
  refine x_EA (R2.list hS hsp) fun vs hpl cvs=> ?_
  have hvl:vs.size=k:=by rw[←QD,cvs.length,Qo,List.length_take];exact Nat.min_eq_left hk
  refine x_E (id hpl) fun c ho=> ?_
  show wpAny _ _ (updateSeq S (·.push v) >>= _) _ _ _
  have s1:=Heap.SameBut.update w2.s.heap S (Obj.mapSeq (·.push v))
  have g1:=get?_update_seq ho fun a=>a.push v
  refine Qw (wpAny_updateSeq ho rfl (Qr ⟨plainId_quiet PySem.F.plain_extend_loop _, ?_⟩) (by rw[hvl];omega) (by show(vs.push v).size≤Qc+1;rw[Array.size_push,hvl];exact QC (Qe hk hz)))
  refine x_A (R2.setList (tk:=w2.s.toks) (ys:=(xs.take k).map g++[g xs[k]]) (vs:=vs.push v) hS hsp ⟨_,g1⟩ (fun b o hb e=>(s1.2 b hb).trans e) (by rw[Array.toList_push];exact cvs.app (.cons cv .nil))) fun R3 e3=> ?_
  have et:(xs.take k).map g++[g xs[k]]=(xs.take (k+1)).map g:=by rw[List.take_succ_eq_append_getElem hlt,Wt];rfl
  rw[et] at R3
  have hSm:∀a∈[m,t,i,bm],a≠S:=fun a ha z=>(ap a ha).2.1 (by rw[z];exact Qa hS)
  have ng:∀a∈[m,t,i,bm],(w2.s.heap.update S (Obj.mapSeq (·.push v))).get? a=w2.s.heap.get? a:=fun a ha=>s1.2 a (hSm a ha)
  refine x_EA hi fun oi hoi r1=> ?_
  exact MapL.run a0 hf hp hl n1 n2 n3 hz H res q j (k+1) (w2.at _ w2.s.toks) _ (by rw[Nat.sub_add_eq,hj];rfl) hlt
   ⟨In.upl hin,R3,hS,cs,⟨(ng m (by simp)).trans hm.1,(ng t (by simp)).trans hm.2⟩,⟨oi,(ng i (by simp)).trans hoi,r1⟩,(ng bm (by simp)).trans hb,ap,e2.trans (e3 _)⟩
theorem list_of_map {src:V} {xs:List V} {g:V→V} {f cl l m t i bm:Addr} {wB w:Wd} {A:Around} {Q':Value→Shared→Prop} {E:Value→Shared→Prop} (a0:AOk A (n+3)) (R:Rep C w h) (hl:IsLst h src xs) (cs:Conc C w.g w.ρ src (.ref l))
 (hm:MapAt w.s.heap m t i (.ref bm)) (hi:w.s.heap.IsListIter i l 0) (hb:w.s.heap.get? bm=some (methodObj (.ref f) (.ref cl))) (ap:∀a∈[m,t,i,bm],w.g a=none∧a∉w.ρ∧a∉C.tabs) (hf:∀a∈[m,t,i,bm],wB.s.heap.get? a=none) (e:Ext C [] wB w)
 (n1:m≠i) (n2:t≠i) (n3:bm≠i) (hz:xs.length≤Qc) (H:MapF C n h f cl xs g)
 (q:∀S w' h',((h.upd h.nx (.list (xs.map g))).at (h.nx+1)).In h'→Rep C w' h'→w'.ρ[h.nx]? =some S→Ext C [] wB w'→Q' (.ref S) w'.s) :
 wpAny C.M A (call (.type "list") [.ref m]) Q' E w.s:=by
 refine callType_codes (Q₁:=fun obj s₁=>obj= .ref w.s.heap.objs.size∧s₁={w.s with heap:=w.s.heap.push {cls:= .type "list",data:= .seq #[] } }) PySem.F.called_list (PySem.F.typeCall_list_1 _) PySem.F.entry_list_init
  (code_list_new _ ⟨rfl,rfl⟩) fun obj s₁ h₁=> ?_
 refine x_A h₁ fun z132 z133=> ?_;subst z132;subst z133
 have hn:w.s.heap.get? w.s.heap.objs.size=none:=fresh_none (Qt _)
 have hS:(w.s.heap.push {cls:= .type "list",data:= .seq #[] }).get? w.s.heap.objs.size=some {cls:= .type "list",data:= .seq #[] }:=Qu _ rfl
 refine⟨⟨_,hS,rfl⟩,PySem.F.args_list_init_2 _ _, ?_⟩
 have lt:∀a∈[m,t,i,bm],a≠w.s.heap.objs.size:=fun a ha z=>by
  simp only[QY,QZ,or_false] at ha
  rw[z] at ha
  refine x_EA hi fun oi hoi _=> ?_
  rcases ha with q|q|q|q
  ·rw[q] at hn;rw[hm.1] at hn;cases hn
  ·rw[q] at hn;rw[hm.2] at hn;cases hn
  ·rw[q] at hn;rw[hoi] at hn;cases hn
  ·rw[q] at hn;rw[hb] at hn;cases hn
 have hT:∀hh:Heap,(∀b o,w.s.heap.get? b=some o→hh.get? b=some o)→Shared.TypeIs {w.s with heap:=hh } (.ref m) "map" := fun hh hk=>⟨_,hk _ _ hm.1,rfl⟩
 -- the loop,from any state like the first
 have key:∀(hp:Heap) (c:Nat),(∀b o,w.s.heap.get? b=some o→hp.get? b=some o)→hp.get? w.s.heap.objs.size=some {cls:= .type "list",data:= .seq #[] c } →
  codeAny C.M A.in1 (.builtin "list.extend.loop" ⟨[.ref w.s.heap.objs.size, .ref m, .none],[]⟩) (wants (fun r s₂=>r= .none∧Q' (.ref w.s.heap.objs.size) s₂) E) {w.s with heap:=hp }:=by
  intro hp c hk ho
  have R1:=R.fresh (k:=w.s.toks) (ao:= .list []) hn hk ho ⟨#[],c,rfl, .nil⟩ (R.fresh0 hn)
  have hpn:h.σ h.nx= .dead:=R.dead _ (Qt _)
  refine MapL.run (h0:=h) (p:=h.nx) (S:=w.s.heap.objs.size) (w0:=wB) (n:=n) a0.in1 hf hpn hl n1 n2 n3 hz H .none (fun w' h' hin R' hS' e'=>⟨rfl,q _ w' h' ?_ R' hS' e'⟩) xs.length 0 (w.more _ hp w.s.toks) _ (Nat.sub_zero _) (Qz _)
   ⟨?_,R1,R.more_at,cs.ext (Ext.fresh (X:=[]) hn hk),⟨hk _ _ hm.1,hk _ _ hm.2⟩,let⟨o,ho,r⟩:=hi;⟨o,hk _ _ ho,r⟩,hk _ _ hb,fun a ha=>⟨(ap a ha).1,fun z=> ?_,(ap a ha).2.2⟩,e.trans (Ext.fresh hn hk)⟩
  · refine⟨Nat.le_succ _,fun j=> ?_⟩
    exact AO.le_refl _
  · refine⟨?_,hin.le⟩
    have:=(Qp.mp hS').1
    rw[R'.len] at this
    exact this
  · rcases List.mem_append.mp z with z|z
    ·exact(ap a ha).2.1 z
    ·exact lt a ha (Qs.mp z)
 show wpAny _ _ (do let old ←Builtin.List.listItems (.ref w.s.heap.objs.size);Builtin.List.listUpdate (.ref w.s.heap.objs.size) (fun _=>#[]);letGo old.toList.reverse;Builtin.List.listExtendWith (.ref w.s.heap.objs.size) (.ref m) .none) _ _ _
 refine Qw ?_
 unfold Builtin.List.listItems
 refine Qw (wpAny_seqItems hS rfl (Qr ?_))
 show wpAny _ _ (updateSeq w.s.heap.objs.size (fun _=>#[]) >>= fun _=>letGo (#[]:Array Value).toList.reverse >>= fun _=>Builtin.List.listExtendWith (.ref w.s.heap.objs.size) (.ref m) .none) _ _ _
 refine Qw (wpAny_updateSeq hS rfl ?_)
 have hS₂:=Heap.get?_update_self (Obj.mapSeq (fun _=>(#[]:Array Value))) hS rfl
 have k2:∀b o,w.s.heap.get? b=some o→((w.s.heap.push {cls:= .type "list",data:= .seq #[] }).update w.s.heap.objs.size (Obj.mapSeq (fun _=>(#[]:Array Value)))).get? b=some o:=fun b o e =>
  (Heap.get?_update_other _ _ (QE (Heap.lt_size e))).trans (Qd _ e)
 refine Qw (wpAny_letGo ?_)
 unfold Builtin.List.listExtendWith
 refine Qw (wpAny_typeOf (hT _ k2) ?_)
 have h1:Builtin.List.listSameRef (.ref w.s.heap.objs.size) (.ref m)=false:=by
  have:=lt m (by simp)
  simp[Builtin.List.listSameRef,Ne.symm this]
 have h2:(Value.type "map" == Value.type "list")=false:=by decide
 have h3:(Value.type "map" == Value.type "tuple")=false:=by decide
 simp only[h1,h2,h3,Bool.or_false,Qm,if_false]
 refine Qw (map_iter ⟨k2 _ _ hm.1,k2 _ _ hm.2⟩ ?_)
 refine Qw (Qf ?_)
 unfold Builtin.List.listLengthHint
 refine Qw (wpAny_specialOf (hT _ k2) no_len_map ?_)
 show wpAny _ _ (specialOf (Value.ref m) (Qq "__length_hint__") >>= _) _ _ _
 refine Qw (wpAny_specialOf (hT _ k2) no_hint_map ?_)
 refine Qr ?_
 refine wpAny_ite_split (fun _=> ?_) (fun _=>Qr ⟨plainId_quiet PySem.F.plain_extend_loop _,key _ _ k2 hS₂⟩)
 refine Qw (wpAny_rule ?_)
 refine Qw ?_
 show wpAny _ _ (updateSeq w.s.heap.objs.size (·.push .none) >>= fun _=>updateSeq w.s.heap.objs.size (·.pop)) _ _ _
 refine Qw (wpAny_updateSeq hS₂ rfl ?_)
 have hS₃:=Heap.get?_update_self (Obj.mapSeq (·.push Value.none)) hS₂ rfl
 refine wpAny_updateSeq (hz:=by seq_fits) hS₃ rfl ?_
 have hS₄:=Heap.get?_update_self (Obj.mapSeq (·.pop)) hS₃ rfl
 refine Qr ⟨plainId_quiet PySem.F.plain_extend_loop _,key _ _ (fun b o e=> ?_) hS₄⟩
 have ne:=QE (Heap.lt_size e)
 exact(Heap.get?_update_other _ _ ne).trans ((Heap.get?_update_other _ _ ne).trans (k2 b o e))
end
section
variable {h0:Hs}
theorem cls_made {K:Frag} {cl sm f:Addr} {name:Str} {rest:List Value} {A:Around} {w:Wd} {Q':Value→Shared→Prop} {E:Value→Shared→Prop} (I:InC C K) (R:Rep C w h) (hr:readsIn K cl (.type "type")=true) (e:findCls K (.ref cl) (.type "type") name=some (.get (.builtin "classmethod.__get__") (.ref sm) .none (.ref cl))) (hp:recIn K sm "classmethod" = some (.ref f::rest))
 (q:Q' (.ref w.s.heap.objs.size) {w.s with heap:=w.s.heap.push (methodObj (.ref f) (.ref cl)),toks:=w.s.toks+1 }):wpAny C.M A (getAttr (.ref cl) name true) Q' E w.s :=
 cls_bind (I.here R) hr e (wpAny_call (cm_get (s:={w.s with toks:=w.s.toks+1 }) (I.here R) hp (handed_on rfl q)))
theorem ke_lmap {K:Frag} {cl sm f:Addr} {name x1 x2 x3:Str} {rest:List Value} {p1 p2 p3 p4 p5 p6:Pos} {e:Expr} {src:V} {xs:List V} {g:V→V} (I:InC C K) (hr:readsIn K cl (.type "type")=true) (hc:findCls K (.ref cl) (.type "type") name=some (.get (.builtin "classmethod.__get__") (.ref sm) .none (.ref cl))) (hp:recIn K sm "classmethod" = some (.ref f::rest))
 (N1:Pu C (n+3) F loc h (.Name x1 p1) (.ty "list")) (N2:Pu C (n+3) F loc h (.Name x2 p2) (.ty "map")) (N3:Pu C (n+3) F loc h (.Name x3 p3) (.top cl)) (N4:Pu C (n+3) F loc h e src) (hl:IsLst h src xs) (hz:xs.length≤Qc) (H:MapF C n h f cl xs g)
 (q:∀p,h.σ p= .dead→h.nx≤p→∀h',((h.upd p (.list (xs.map g))).at (p+1)).In h'→Q (.ref p) h')
 (he1:autoParam (starEach [Expr.Call (.Name x2 p2) [.Attribute (.Name x3 p3) name p4,e] [] p5] F.env=[(false,eval (Expr.Call (.Name x2 p2) [.Attribute (.Name x3 p3) name p4,e] [] p5) F.env)]) aR)
 (he2:autoParam (starEach [Expr.Attribute (.Name x3 p3) name p4,e] F.env=[(false,eval (Expr.Attribute (.Name x3 p3) name p4) F.env),(false,eval e F.env)]) aR)
 (hb:autoParam (attributeBase (.Name x3 p3) name F.env (eval (.Name x3 p3) F.env)=eval (.Name x3 p3) F.env) aR) :
 KE C (n+3) F loc h (.Call (.Name x1 p1) [.Call (.Name x2 p2) [.Attribute (.Name x3 p3) name p4,e] [] p5] [] p6) Q:=fun hb0 hi0=>⟨fun A w Q' E a0 R fm c=>by
 refine wpAny_Call_ofName ((N1 hb0 hi0 (fun v h'=>v= .ty "list" ∧ h.In h') fun h' i=>⟨rfl,hi0.trans i⟩).run A w _ _ a0 R fm fun fx v h1 w1 ⟨e0,i1⟩ e1 R1 c1=> ?_)
 subst e0
 refine eqE c1.toInv ?_
 refine callWith_any (evalArgs_rest ?_ rfl ?_)
 ·rw[he1];exact .inr ⟨_,_,rfl⟩
 rw[he1]
 show wpAny _ _ (spliced [(false,eval (Expr.Call (.Name x2 p2) [.Attribute (.Name x3 p3) name p4,e] [] p5) F.env)]) _ _ _
 unfold spliced
 refine Qw ?_
 refine wpAny_Call_ofName ((N2 h1 i1 (fun v h'=>v= .ty "map" ∧ h.In h') fun h' i=>⟨rfl,i1.trans i⟩).run A w1 _ _ a0 R1 (fm.ext0 e1) fun fx v h2 w2 ⟨e0,i2⟩ e2 R2 c2=> ?_)
 subst e0
 refine eqE c2.toInv ?_
 have f2:=(fm.ext0 e1).ext0 e2
 refine callWith_any (evalArgs_rest ?_ rfl ?_)
 ·rw[he2];exact .inr ⟨_,_,rfl⟩
 rw[he2]
 show wpAny _ _ (spliced [(false,eval (Expr.Attribute (.Name x3 p3) name p4) F.env),(false,eval e F.env)]) _ _ _
 unfold spliced
 refine Qw ?_
 rw[arm_eval_Attribute,hb]
 refine Qw ((N3 h2 i2 (fun v h'=>v= .top cl∧h.In h') fun h' i=>⟨rfl,i2.trans i⟩).run A w2 _ _ a0 R2 f2 fun y v h3 w3 ⟨e0,i3⟩ e3 R3 c3=> ?_)
 subst e0
 refine eqE c3.toInv ?_
 refine Qw (wpAny_standAt (Qw (Qf (cls_made I R3 hr hc hp (Qw (wpAny_letTemporaryGo (Qr ?_)))))))
 -- the bound method lies there
 have hn3:w3.s.heap.get? w3.s.heap.objs.size=none:=fresh_none (Qt _)
 have k3:∀b o,w3.s.heap.get? b=some o→(w3.s.heap.push (methodObj (.ref f) (.ref cl))).get? b=some o:=fun b o e=>Qd _ e
 have R3':=R3.grow (k:=w3.s.toks+1) k3
 have e3':=Ext.grow (C:=C) (X:=[]) (w:=w3) (k:=w3.s.toks+1) k3
 have b3:(w3.s.heap.push (methodObj (.ref f) (.ref cl))).get? w3.s.heap.objs.size=some (methodObj (.ref f) (.ref cl)):=Qu _ rfl
 have o3:=R3.off_fresh hn3
 generalize w3.s.heap.objs.size=bm at *
 refine Qw (Qr (Qw (Qf ?_)))
 unfold spliced
 refine Qw ((N4 h3 i3 (fun v h'=>v=src∧h.In h') fun h' i=>⟨rfl,i3.trans i⟩).run A (w3.at _ (w3.s.toks+1)) _ _ a0 R3' ((f2.ext0 e3).ext0 e3') fun y v h4 w4 ⟨e0,i4⟩ e4 R4 c4=> ?_)
 subst e0
 refine Qw (Qr (Qw (Qf (Qr (Qr (Qr (Qr ?_)))))))
 refine⟨⟨.machine,Looks.of_pure rfl⟩, ?_⟩
 have lv:∀a∈[bm],∃o,(w3.at (w3.s.heap.push (methodObj (.ref f) (.ref cl))) (w3.s.toks+1)).s.heap.get? a=some o:=fun a ha=>⟨methodObj (.ref f) (.ref cl),by rw[Qs.mp ha];exact b3⟩
 have ap4:=apart_ext (w:=w3.at (w3.s.heap.push (methodObj (.ref f) (.ref cl))) (w3.s.toks+1)) (wr:=[bm]) (fun a ha=>by rw[Qs.mp ha];exact o3) lv e4
 have b4:w4.s.heap.get? bm=some (methodObj (.ref f) (.ref cl)):=e4.kept bm _ b3 o3.2.1 (by simp) o3.2.2
 refine x_EEAAA (IsLst.at (i4.lst hl) R4 c4) fun l vs z134 hpl cs _=> ?_;subst z134
 refine map_made hpl.isList fun h' hm hit hk=> ?_
 have z0:w4.s.heap.get? w4.s.heap.objs.size=none:=fresh_none (Qt _)
 have z1:w4.s.heap.get? (w4.s.heap.objs.size+1)=none:=fresh_none (Nat.le_succ _)
 have z2:w4.s.heap.get? (w4.s.heap.objs.size+2)=none:=fresh_none (QP _ 2)
 have hbm:bm<w4.s.heap.objs.size:=Heap.lt_size b4
 have R5:=R4.grow (k:=w4.s.toks) hk
 have e5:=Ext.grow (C:=C) (X:=[]) (w:=w4) (k:=w4.s.toks) hk
 have eT:Ext C [] w w4:=e1.trans (e2.trans (e3.trans (e3'.trans e4)))
 refine Qw (Qr (Qw (Qf (Qr (Qr (Qr ?_))))))
 refine⟨⟨.machine,Looks.of_pure rfl⟩, ?_⟩
 have g1:w.s.heap.get? bm=none:=by
  have live:∀b o,w.s.heap.get? b=some o→∃o',w3.s.heap.get? b=some o':=(e1.trans (e2.trans e3)).live
  exact get_none live hn3
 refine list_of_map (n:=n) (wB:=w) (w:=w4.at h' w4.s.toks) a0 R5 (i4.lst hl) c4 hm hit (hk _ _ b4) (fun a ha=> ?_) (fun a ha=> ?_) (eT.trans e5) (QE (Nat.lt_add_of_pos_right (by decide))) (QE (Qk _)) (Qg hbm) hz (fun hb hi=>H hb (i4.trans hi)) fun S w' h'' hin R' hS e'=> ?_
 · simp only[QY,QZ,or_false] at ha
   rcases ha with rfl|rfl|rfl|rfl
   ·exact R4.off_fresh z2
   ·exact R4.off_fresh z1
   ·exact R4.off_fresh z0
   ·exact ap4 _ (Qs.mpr rfl)
 · simp only[QY,QZ,or_false] at ha
   rcases ha with rfl|rfl|rfl|rfl
   ·exact get_none eT.live z2
   ·exact get_none eT.live z1
   ·exact get_none eT.live z0
   ·exact g1
 ·refine c (.ref S) (.ref h4.nx) h'' w' (q h4.nx (i4.dead (R4.dead _ (Qt _))) i4.nx h'' (Hs.In.trans (b:=(h4.upd h4.nx (.list (xs.map g))).at (h4.nx+1)) ⟨Qt _,(i4.upd (i:=h4.nx) (o:= .list (xs.map g))).le⟩ hin)) e' R' (.ref hS)⟩
end
section
variable {P Q:Nat→Nat→Bool} {alo ahi blo bhi lb:Nat}
theorem flm_in (hb:bhi≤lb) (h1:alo≤ahi) (h2:blo≤bhi):alo≤(flm P Q lb alo ahi blo bhi).1∧blo≤(flm P Q lb alo ahi blo bhi).2.1∧(flm P Q lb alo ahi blo bhi).1+(flm P Q lb alo ahi blo bhi).2.2≤ahi∧(flm P Q lb alo ahi blo bhi).2.1+(flm P Q lb alo ahi blo bhi).2.2≤bhi:=by
 obtain⟨st,B,e⟩:=flm_core (P:=P) (Q:=Q) hb h1
 have hin:st.1+st.2.2≤ahi∧st.2.1+st.2.2≤bhi:=by
  rcases Nat.eq_zero_or_pos st.2.2 with z|z
  ·rw[z,(B.zero z).1,(B.zero z).2];exact⟨h1,h2⟩
  ·exact B.inw.2.2 z
 obtain⟨g,a,b,eb,ia,jb,la,lb',_⟩:=back_spec (Q:=Q) (alo:=alo) (blo:=blo) st.1 st.2.1 st.2.2 B.inw.1 B.inw.2.1
 obtain⟨g',ef,hf,_⟩:=fwd_spec (Q:=Q) (ahi:=ahi) (bhi:=bhi) (i:=a) (j:=b) ahi (st.2.2+g) (Q9 _ _)
 rw[e]
 simp only[eb,ef]
 refine⟨la,lb', ?_⟩
 cases g' with
 |zero =>
  rw[ia,Wq,Nat.add_comm g] at hin
  rw[jb,Wq,Nat.add_comm g] at hin
  exact hin
 |succ k =>
  have:=hf k (Qk _)
  exact⟨Wq a _ _▸this.1,Wq b _ _▸this.2.1⟩
end
noncomputable abbrev Wn:=Nat × Nat × Nat × Nat
noncomputable abbrev Tr:=Nat × Nat × Nat
section
variable (P Q:Nat→Nat→Bool) (lb:Nat)
noncomputable def flw (w:Wn):Tr:=flm P Q lb w.1 w.2.1 w.2.2.1 w.2.2.2
noncomputable def wL (w:Wn) (m:Tr):List Wn:=if w.1<m.1∧w.2.2.1<m.2.1 then[(w.1,m.1,w.2.2.1,m.2.1)] else[]
noncomputable def wR (w:Wn) (m:Tr):List Wn:=if m.1+m.2.2<w.2.1∧m.2.1+m.2.2<w.2.2.2 then[(m.1+m.2.2,w.2.1,m.2.1+m.2.2,w.2.2.2)] else[]
noncomputable def gm:Nat→Wn→List Tr
 |0,_=>[]
 |f+1,w=>if(flw P Q lb w).2.2=0 then[] else(wL w (flw P Q lb w)).flatMap (gm f)++flw P Q lb w::(wR w (flw P Q lb w)).flatMap (gm f)
noncomputable def wd (w:Wn):Nat:=w.2.1-w.1
noncomputable def gmW (w:Wn):List Tr:=gm P Q lb (wd w+1) w
noncomputable def OkW (w:Wn):Prop:=w.1≤w.2.1∧w.2.2.1≤w.2.2.2∧w.2.2.2≤lb
noncomputable def mg:Tr→List Tr→List Tr
 |c,[]=>if c.2.2=0 then[] else[c]
 |c,t::r=>if c.1+c.2.2=t.1∧c.2.1+c.2.2=t.2.1 then mg (c.1,c.2.1,c.2.2+t.2.2) r else(if c.2.2=0 then[] else[c])++mg t r
noncomputable def blocks (la:Nat):List Tr:=mg (0,0,0) (gmW P Q lb (0,la,0,lb))++[(la,lb,0)]
end
section
variable {P Q:Nat→Nat→Bool} {lb:Nat}
theorem flw_in {w:Wn} (ok:OkW lb w):w.1≤(flw P Q lb w).1∧w.2.2.1≤(flw P Q lb w).2.1∧(flw P Q lb w).1+(flw P Q lb w).2.2≤w.2.1∧(flw P Q lb w).2.1+(flw P Q lb w).2.2≤w.2.2.2:=flm_in ok.2.2 ok.1 ok.2.1
theorem wL_ok {w v:Wn} {m:Tr} (ok:OkW lb w) (hm:w.1≤m.1∧w.2.2.1≤m.2.1∧m.1+m.2.2≤w.2.1∧m.2.1+m.2.2≤w.2.2.2) (hv:v∈wL w m):OkW lb v∧v=(w.1,m.1,w.2.2.1,m.2.1)∧w.1<m.1∧w.2.2.1<m.2.1:=by
 unfold wL at hv
 split at hv
 · rename_i c
   obtain rfl:=Qs.mp hv
   refine⟨⟨?_, ?_, ?_⟩,rfl,c⟩
   ·exact hm.1
   ·exact hm.2.1
   ·exact Qe (Qe (QP ..) hm.2.2.2) ok.2.2
 ·cases hv
theorem wR_ok {w v:Wn} {m:Tr} (ok:OkW lb w) (hm:w.1≤m.1∧w.2.2.1≤m.2.1∧m.1+m.2.2≤w.2.1∧m.2.1+m.2.2≤w.2.2.2) (hv:v∈wR w m):OkW lb v∧v=(m.1+m.2.2,w.2.1,m.2.1+m.2.2,w.2.2.2)∧m.1+m.2.2<w.2.1∧m.2.1+m.2.2<w.2.2.2:=by
 unfold wR at hv
 split at hv
 · rename_i c
   obtain rfl:=Qs.mp hv
   exact⟨⟨hm.2.2.1,hm.2.2.2,ok.2.2⟩,rfl,c⟩
 ·cases hv
theorem flatMap_congr' {α β:Type} {l:List α} {f g:α→List β} (h:∀a∈l,f a=g a):l.flatMap f=l.flatMap g:=by
 induction l with
 |nil=>rfl
 |cons a l ih=>rw[List.flatMap_cons,List.flatMap_cons,h a (List.mem_cons_self ..),ih fun b hb=>h b (List.mem_cons_of_mem _ hb)]
theorem wd_lt {w v:Wn} (ok:OkW lb w) (z:(flw P Q lb w).2.2≠0) (hv:v∈wL w (flw P Q lb w)∨v∈wR w (flw P Q lb w)):OkW lb v∧wd v<wd w:=by
 have hm:=flw_in (P:=P) (Q:=Q) ok
 have h1:=Nat.lt_add_of_pos_right (n:=(flw P Q lb w).1) (Nat.pos_of_ne_zero z)
 rcases hv with hv|hv
 · have c:=wL_ok ok hm hv
   exact⟨c.1,c.2.1▸Nat.sub_lt_sub_right hm.1 (Qy h1 hm.2.2.1)⟩
 · have c:=wR_ok ok hm hv
   have h2:=Qj hm.1 h1
   exact⟨c.1,c.2.1▸Nat.sub_lt_sub_left (Qy h2 hm.2.2.1) h2⟩
theorem gm_fuel:∀(f f':Nat) (w:Wn),OkW lb w→wd w<f→wd w<f'→gm P Q lb f w=gm P Q lb f' w
 |0,_,w,_,h,_=>absurd h (Q0 _)
 |_+1,0,w,_,_,h=>absurd h (Q0 _)
 |f+1,f'+1,w,ok,h,h'=>by
  unfold gm
  by_cases z:(flw P Q lb w).2.2=0
  ·rw[if_pos z,if_pos z]
  · rw[if_neg z,if_neg z]
    have go:∀v,v∈wL w (flw P Q lb w)∨v∈wR w (flw P Q lb w)→gm P Q lb f v=gm P Q lb f' v:=fun v hv =>
     have c:=wd_lt ok z hv
     gm_fuel f f' v c.1 (Qy c.2 (Qv h)) (Qy c.2 (Qv h'))
    rw[flatMap_congr' fun v hv=>go v (.inl hv),flatMap_congr' (l:=wR _ _) fun v hv=>go v (.inr hv)]
theorem gmW_eq {w:Wn} (ok:OkW lb w):gmW P Q lb w=if(flw P Q lb w).2.2=0 then[] else(wL w (flw P Q lb w)).flatMap (gmW P Q lb)++flw P Q lb w::(wR w (flw P Q lb w)).flatMap (gmW P Q lb):=by
 unfold gmW
 rw[gm]
 by_cases z:(flw P Q lb w).2.2=0
 ·rw[if_pos z,if_pos z]
 · rw[if_neg z,if_neg z]
   have go:∀v,v∈wL w (flw P Q lb w)∨v∈wR w (flw P Q lb w)→gm P Q lb (wd w) v=gm P Q lb (wd v+1) v:=fun v hv =>
    have c:=wd_lt ok z hv
    gm_fuel _ _ v c.1 c.2 (Qk _)
   rw[flatMap_congr' fun v hv=>go v (.inl hv),flatMap_congr' (l:=wR _ _) fun v hv=>go v (.inr hv)]
theorem gmW_zero {w:Wn} (ok:OkW lb w) (z:(flw P Q lb w).2.2=0):gmW P Q lb w=[]:=by rw[gmW_eq ok,if_pos z]
theorem gmW_pos {w:Wn} (ok:OkW lb w) (z:(flw P Q lb w).2.2≠0):gmW P Q lb w=(wL w (flw P Q lb w)).flatMap (gmW P Q lb)++flw P Q lb w::(wR w (flw P Q lb w)).flatMap (gmW P Q lb):=by rw[gmW_eq ok,if_neg z]
noncomputable def TrIn (w:Wn) (t:Tr):Prop:=w.1≤t.1∧w.2.2.1≤t.2.1∧t.1+t.2.2≤w.2.1∧t.2.1+t.2.2≤w.2.2.2∧0<t.2.2
noncomputable def TrLt (a b:Tr):Prop:=a.1+a.2.2≤b.1∧a.2.1+a.2.2≤b.2.1
theorem gmW_ind {M:Wn→Prop} (H:∀w,OkW lb w→(∀v,OkW lb v→v∈wL w (flw P Q lb w)∨v∈wR w (flw P Q lb w)→(flw P Q lb w).2.2≠0→M v)→M w):∀(k:Nat) (w:Wn),wd w<k→OkW lb w→M w
 |0,w,h,_=>absurd h (Q0 _)
 |k+1,w,h,ok=>H w ok fun v ov hv z=>gmW_ind H k v (Qy (wd_lt ok z hv).2 (Qv h)) ov
theorem gmW_in {w:Wn} (ok:OkW lb w):(∀t∈gmW P Q lb w,TrIn w t)∧(gmW P Q lb w).Pairwise TrLt:=by
 refine gmW_ind (P:=P) (Q:=Q) (M:=fun w=>(∀t∈gmW P Q lb w,TrIn w t)∧(gmW P Q lb w).Pairwise TrLt) (fun w ok ih=> ?_) _ w (Qk _) ok
 by_cases z:(flw P Q lb w).2.2=0
 ·rw[gmW_zero ok z];exact⟨fun t h=>absurd h QZ,List.Pairwise.nil⟩
 rw[gmW_pos ok z]
 have hm:=flw_in (P:=P) (Q:=Q) ok
 generalize flw P Q lb w=m at *
 have L:∀t∈(wL w m).flatMap (gmW P Q lb),TrIn (w.1,m.1,w.2.2.1,m.2.1) t:=fun t ht=>by
  refine x_EA (List.mem_flatMap.mp ht) fun v hv ht=> ?_
  refine x_AA (wL_ok ok hm hv) fun o e c=> ?_
  exact e▸(ih v o (.inl hv) z).1 t ht
 have R:∀t∈(wR w m).flatMap (gmW P Q lb),TrIn (m.1+m.2.2,w.2.1,m.2.1+m.2.2,w.2.2.2) t:=fun t ht=>by
  refine x_EA (List.mem_flatMap.mp ht) fun v hv ht=> ?_
  refine x_AA (wR_ok ok hm hv) fun o e c=> ?_
  exact e▸(ih v o (.inr hv) z).1 t ht
 have LP:((wL w m).flatMap (gmW P Q lb)).Pairwise TrLt:=by
  unfold wL at ih ⊢
  split
  · rename_i c
    rw[if_pos c] at ih
    rw[List.flatMap_cons,List.flatMap_nil,Q4]
    exact(ih _ (wL_ok ok hm (by unfold wL;rw[if_pos c];exact Qs.mpr rfl)).1 (.inl (Qs.mpr rfl)) z).2
  ·exact .nil
 have RP:((wR w m).flatMap (gmW P Q lb)).Pairwise TrLt:=by
  unfold wR at ih ⊢
  split
  · rename_i c
    rw[if_pos c] at ih
    rw[List.flatMap_cons,List.flatMap_nil,Q4]
    exact(ih _ (wR_ok ok hm (by unfold wR;rw[if_pos c];exact Qs.mpr rfl)).1 (.inr (Qs.mpr rfl)) z).2
  ·exact .nil
 have l1:m.1≤m.1+m.2.2:=QP ..
 have l2:m.2.1≤m.2.1+m.2.2:=QP ..
 refine⟨fun t ht=> ?_,List.pairwise_append.mpr ⟨LP,List.pairwise_cons.mpr ⟨fun t ht=>⟨(R t ht).1,(R t ht).2.1⟩,RP⟩,fun a ha b hb=> ?_⟩⟩
 · rcases List.mem_append.mp ht with q|q
   · have h:=L t q
     exact⟨h.1,h.2.1,Qe h.2.2.1 (Qe l1 hm.2.2.1),Qe h.2.2.2.1 (Qe l2 hm.2.2.2),h.2.2.2.2⟩
   · rcases QY.mp q with rfl|q
     ·exact⟨hm.1,hm.2.1,hm.2.2.1,hm.2.2.2,Nat.pos_of_ne_zero z⟩
     · have h:=R t q
       exact⟨Qe hm.1 (Qe l1 h.1),Qe hm.2.1 (Qe l2 h.2.1),h.2.2⟩
 · have h:=L a ha
   rcases QY.mp hb with rfl|q
   ·exact⟨h.2.2.1,h.2.2.2.1⟩
   · have r:=R b q
     exact⟨Qe h.2.2.1 (Qe l1 r.1),Qe h.2.2.2.1 (Qe l2 r.2.1)⟩
end
section
variable {K:Frag} {cl f sm:Addr}
theorem pf_lenM {vs:List V} (I:InC C K) (Y:MatK K cl f sm) (hs:findIn K (.ref cl) "__len__" = some (some (.builtin "tuple.__len__"))) (hz:vs.length≤10000):PF C n h (.blt "len") [.mat cl vs] [] (.int vs.length):=fun hb hi Q q=>cl1 fun A w Q' E fx x a0 R cf cx c=>by
 refine eqE cf.toInv ?_
 refine cx.eMat fun xs a dx hg _ cs=> ?_
 refine mat_len Y (I.here R) hs (R.keep _ _ hg) (by rw[cs.length];exact hz) fun t tk=> ?_
 rw[cs.length]
 exact c _ _ _ (w.toks tk) (q _ (.refl _)) .toks R.toks (.int _ _)
theorem pf_lenQ {v:V} {ks:List Key} (hv:IsSq h v ks) (hz:ks.length≤10000):PF C n h (.blt "len") [v] [] (.int ks.length):=fun hb hi Q q=>len_sq (hi.sq hv) (sizeOk hz) (q _ (.refl _))
noncomputable def H2 (h:Hs) (p q:Nat) (a b:AO):Hs:=⟨fun j=>if j=q then b else if j=p then a else h.σ j,q+1⟩
variable {p q:Nat} {a b a' b':AO}
theorem H2.fst (hpq:p<q):(H2 h p q a b).upd p a'=H2 h p q a' b:=by
 unfold H2 Hs.upd
 congr 1
 funext j
 by_cases e:j=p
 ·rw[if_pos e,if_neg (by rw[e];exact Qg hpq),if_pos e]
 ·simp only[if_neg e]
theorem H2.snd:(H2 h p q a b).upd q b'=H2 h p q a b':=by
 unfold H2 Hs.upd
 congr 1
 funext j
 by_cases e:j=q<;>simp only[e,if_true,if_false]
theorem H2.inn (hp:h.σ p= .dead) (hq:h.σ q= .dead) (hn:h.nx≤q):h.In (H2 h p q a b):=⟨QT hn,fun j=>by
 show AO.le (if j=q then b else if j=p then a else h.σ j) _
 by_cases e:j=q
 ·rw[if_pos e,e,hq];exact AO.le_any _
 · rw[if_neg e]
   by_cases e2:j=p
   ·rw[if_pos e2,e2,hp];exact AO.le_any _
   ·rw[if_neg e2];exact AO.le_refl _⟩
theorem H2.atp (hpq:p<q):(H2 h p q a b).σ p=a:=(if_neg (Qg hpq)).trans (if_pos rfl)
theorem H2.atq:(H2 h p q a b).σ q=b:=if_pos rfl
end
section
 open PySem.Float64
set_option exponentiation.threshold 3000
end
section
 open PySem.Float64
set_option exponentiation.threshold 3000
end
section
variable {a:UInt64} {i j:Int}
theorem p2_powi (h0:0≤j) (h1:j≤1000000) (ha:i.natAbs<2^64):P2 C n (binaryOp .Pow) h (.int i) (.int j) (.int (i^j.toNat)):=fun hb hi Q q=>op2_pure (q _ (.refl _)) fun A w Q' E x y a0 R c1 c2 k=>by
 refine c1.eInt fun _=> ?_
 refine c2.eInt fun _=> ?_
 exact pow_int_small h0 h1 ha (k _ _ (.int _ _))
end
section
variable {w:World}
end
section
variable {w:World}
end
section
variable {w:World} {K:Frag} {cl f sm:Addr} {x dx:Addr} {vs:List Value}
end
section
variable {K:Frag} {cl f sm:Addr}
end
section
variable {K:Frag} {cl f0 sm:Addr}
end
section
noncomputable def KEs (C:Cx) (n:Nat) (F:Fr) (loc:Loc) (h:Hs) (es:List Expr) (Q:List V→Hs→Prop):Prop:=∀hb,h.In hb→Evs C n F loc hb es Q
theorem kes_nil {QS:List V→Hs→Prop} (q:∀h',h.In h'→QS [] h'):KEs C n F loc h [] QS:=fun hb hi=>evs_nil (q hb hi)
theorem Evs.mono {es:List Expr} {Q₀ QS:List V→Hs→Prop} (H:Evs C n F loc h es Q₀) (k:∀v h',Q₀ v h'→QS v h'):Evs C n F loc h es QS:=⟨fun A w pos Q' E a R f c=>H.run A w pos Q' E a R f fun x v h' w' q=>c x v h' w' (k _ _ q)⟩
end
section
noncomputable def blk (h:Hs) (m:Nat) (f:Nat→Option V):Hs:=⟨fun j=>if h.nx≤j∧j<h.nx+m then .cell (f (j-h.nx)) else h.σ j,h.nx+m⟩
theorem hs_ext {a b:Hs} (e1:∀j,a.σ j=b.σ j) (e2:a.nx=b.nx):a=b:=by
 cases a;cases b
 obtain rfl:=funext e1
 obtain rfl:_=_:=e2
 rfl
theorem blk_at {m i:Nat} {f:Nat→Option V} (hi:i<m):(blk h m f).σ (h.nx+i)= .cell (f i):=by
 show(if h.nx≤h.nx+i∧h.nx+i<h.nx+m then AO.cell (f (h.nx+i-h.nx)) else _)=_
 rw[if_pos ⟨QP _ _,Nat.add_lt_add_left hi _⟩,Nat.add_sub_cancel_left]
theorem blk_upd {m i:Nat} {f:Nat→Option V} {v:Option V} (hi:i<m):(blk h m f).upd (h.nx+i) (.cell v)=blk h m fun j=>if j=i then v else f j:=by
 refine hs_ext (fun j=> ?_) rfl
 show(if j=h.nx+i then AO.cell v else if h.nx≤j∧j<h.nx+m then AO.cell (f (j-h.nx)) else h.σ j)=if h.nx≤j∧j<h.nx+m then AO.cell (if j-h.nx=i then v else f (j-h.nx)) else h.σ j
 by_cases z:j=h.nx+i
 · subst z
   rw[if_pos rfl,if_pos ⟨QP _ _,Nat.add_lt_add_left hi _⟩,if_pos (Nat.add_sub_cancel_left ..)]
 · rw[if_neg z]
   by_cases y:h.nx≤j∧j<h.nx+m
   · rw[if_pos y,if_pos y,if_neg]
     intro q
     exact z (by rw[←q,Nat.add_sub_cancel' y.1])
   ·rw[if_neg y,if_neg y]
noncomputable def cellsOf:List (Str × NameKind)→Nat
 |[]=>0
 |(_,k)::r=>if k== .cell then cellsOf r+1 else cellsOf r
theorem hs_blk:∀(ns:List (Str × NameKind)) (h:Hs),hsCells ns h=blk h (cellsOf ns) fun _=>none
 |[],h=>hs_ext (fun j=>(if_neg fun z=>absurd z.2 (Nat.not_lt_of_le z.1)).symm) rfl
 |(x,k)::r,h=>by
  unfold hsCells cellsOf
  split
  · rw[hs_blk r]
    refine hs_ext (fun j=> ?_) (by show h.nx+1+cellsOf r=h.nx+(cellsOf r+1);rw[Wr,Wq])
    show(if h.nx+1≤j∧j<h.nx+1+cellsOf r then AO.cell none else if j=h.nx then AO.cell none else h.σ j)=if h.nx≤j∧j<h.nx+(cellsOf r+1) then AO.cell none else h.σ j
    by_cases z:j=h.nx
    · subst z
      rw[if_neg (fun y=>absurd y.1 (Nat.not_succ_le_self _)),if_pos rfl,if_pos ⟨Qt _,Nat.lt_add_of_pos_right (Nat.succ_pos _)⟩]
    · by_cases y:h.nx≤j∧j<h.nx+(cellsOf r+1)
      ·rw[if_pos y,if_pos ⟨Nat.lt_of_le_of_ne y.1 (Ne.symm z),by rw[Wq,Nat.add_comm 1];exact y.2⟩]
      · rw[if_neg y,if_neg z,if_neg]
        rintro⟨a,b⟩
        exact y ⟨We a,by rw[Nat.add_comm _ 1,←Wq];exact b⟩
  ·rw[hs_blk r]
theorem ka_blk {x:Str} {p:Pos} {v:V} {i m:Nat} {f:Nat→Option V} (hc:F.cel.lookup x=some (h.nx+i)) (hi:i<m) (H:∀h',(blk h m fun j=>if j=i then some v else f j).In h'→QL loc h') (hk:autoParam (F.env.kindOf x=some .cell) aR):KA C n F loc (blk h m f) (.Name x p) v QL :=
 ka_cel (i:=h.nx+i) hc (blk_at hi) (fun h' i'=>H h' (blk_upd hi▸i')) hk
end
section
-- lists of rows of numbers
noncomputable abbrev tI (l:List Int):V:= .tup (l.map V.int)
theorem dat_tI (ls:List (List Int)):Dats h (ls.map tI) (ls.map fun l=>PyData.tuple (l.map PyData.int)):= .map _ _ ls fun l _=> .tup (dat_ints l)
theorem dok_tI (ls:List (List Int)):Dok (.list (ls.map fun l=>PyData.tuple (l.map PyData.int))):=dok_list fun d hd=>by
 refine x_EA (QO.mp hd) fun l _ z135=> ?_;subst z135
 have:=dok_ints l
 refine⟨this.lay, ?_⟩
 have hh:PyData.depthAll (l.map PyData.int)≤1:=depth_all fun d hd=>by refine x_EA (QO.mp hd) fun i _ z136=> ?_;subst z136;simp[PyData.depth]
 simp only[PyData.depth];omega
theorem eqv_tI (a b:List (List Int)):PyData.eqv (.list (a.map fun l=>PyData.tuple (l.map PyData.int))) (.list (b.map fun l=>PyData.tuple (l.map PyData.int)))=decide (a=b):=by
 simp only[PyData.eqv]
 exact eqvAll_map _ (fun a b=>by simp only[PyData.eqv];exact eqvAll_map _ eqv_int a b) a b
theorem p2_neT {a b:V} {as bs:List (List Int)} (ha:IsLst h a (as.map tI)) (hb:IsLst h b (bs.map tI)):P2 C (n+1) (QQ .NotEq) h a b (.bool (!decide (as=bs))):=by
 rw[←eqv_tI]
 exact p2_ned (dat_lst ha (dat_tI _)) (dat_lst hb (dat_tI _)) (dok_tI _) (dok_tI _)
end
section
variable {P Q:Nat→Nat→Bool} {lb:Nat}
end
section
variable {s d f e:Int} {c m:Nat}
end
section
variable {s d f e:Int} {c m:Nat}
-- the table of places
end
section
variable {QU:Hs→Prop}
theorem lp_coreA {α:Type} {tt elt:Expr} {scope:Scope} {cl:List (Str × Nat)} {as:List α} {g:α→V} (lo:α→Loc) (e:α→V) {h1:Hs} (ok1:h1.Ok) {ok:Hs→Prop} (hok:∀h',h1.In h'→ok h') (hz:as.length≤Qc) {L:Addr} {cells:List (Str × Addr)}
 (A:∀a∈as,∀l h',(l=[]∨∃b,l=lo b)→∀QL:Loc→Hs→Prop,QL (lo a) h'→As C n ⟨compEnv scope F.env L cells,cl⟩ l h' tt (g a) QL)
 (E:∀a∈as,Pu C n ⟨compEnv scope F.env L cells,cl⟩ (lo a) Hs.none elt (e a))
 {K:Hs→Prop} (q:∀h',h1.nx<h'.nx→h1.In h'→h'.σ h1.nx= .list (as.map e)→K h') :
 LpW ok (TurnW C n ⟨compEnv scope F.env L cells,cl⟩ tt [] (EmL C n ⟨compEnv scope F.env L cells,cl⟩ h1.nx elt)) (fun _ h'=>K h') (as.map g) [] (h1.new (.list [])):=by
 have hp1:h1.σ h1.nx= .dead:=ok1 _ (Qt _)
 refine lpw_inv (fun k l h'=>h'.σ h1.nx= .list ((as.take k).map e)∧h1.In h'∧h1.nx<h'.nx∧(l=[]∨∃b,l=lo b)) ?_ (turn_mono emL_mono) ?_ ?_ ⟨by simp[Hs.new],(Hs.In.refl h1).new ok1,Qk _, .inl rfl⟩
 ·rintro k l h' ⟨_,z,_⟩;exact hok _ z
 · rintro k v l h' hv ⟨z1,z2,z4,z3⟩
   rw[Qb] at hv
   refine x_EA (QW.mp hv) fun a ha z137=> ?_;subst z137
   have hmem:a∈as:=Qa ha
   have hlt:=(Qp.mp ha).1
   have hlen:((as.take k).map e).length≤Qc:=by
    rw[Qo,List.length_take];omega
   refine A a hmem l h' z3 _ ?_
   refine tests_pu [] true h' _ pts_nil (.refl _) fun h2 i2=> ?_
   simp only[if_true]
   refine E a hmem h2 (.none _) _ fun h3 i3=>⟨_,i3.list (i2.list z1),hlen, ?_,((z2.trans i2).trans i3).updd hp1,Qy z4 (Qe i2.nx i3.nx), .inr ⟨_,rfl⟩⟩
   rw[List.take_add_one,ha];simp[Hs.upd]
 · rintro l h' ⟨z1,z2,z4,_⟩
   rw[Qo,List.take_length] at z1
   exact q h' z4 z2 z1
end
section
variable {P Q:Nat→Nat→Bool} {alo ahi ahi' blo bhi bhi' lb lb':Nat}
theorem Core.uniq {st st':Nat × Nat × Nat} (B:Core P alo ahi blo bhi st) (B':Core P alo ahi blo bhi st'):st=st':=by
 have le:∀{a b:Nat × Nat × Nat},Core P alo ahi blo bhi a→Core P alo ahi blo bhi b→a.2.2≤b.2.2:=fun{a b} A B=>by
  rcases Nat.lt_or_ge b.2.2 a.2.2 with z|z
  · have w:=A.inw.2.2 (Qj (Qz _) z)
    exact absurd (A.run.less z) (B.most _ _ A.inw.1 (Qe (Q2 z _) w.1) A.inw.2.1 (Qe (Q2 z _) w.2))
  ·exact z
 have e:=Nat.le_antisymm (le B B') (le B' B)
 have lx:∀{a b:Nat × Nat × Nat},Core P alo ahi blo bhi a→Core P alo ahi blo bhi b→a.2.2=b.2.2→0<a.2.2→a.1<b.1∨(a.1=b.1∧a.2.1≤b.2.1):=fun{a b} A B e z=>by
  have w:=B.inw.2.2 (e▸z)
  exact A.first z _ _ B.inw.1 (e▸w.1) B.inw.2.1 (e▸w.2) (e▸B.run)
 obtain⟨a,b,k⟩:=st
 obtain⟨a',b',k'⟩:=st'
 have e:k=k':=e
 subst e
 rcases Nat.eq_zero_or_pos k with z|z
 · have h1:=B.zero z
   have h2:=B'.zero z
   simp only at h1 h2
   rw[h1.1,h1.2,h2.1,h2.2]
 · rcases lx B B' rfl z with h1|⟨h1,h2⟩<;>rcases lx B' B rfl z with h3|⟨h3,h4⟩
   ·exact absurd h1 (Nat.lt_asymm h3)
   ·exact absurd h3 (QE h1)
   ·exact absurd h1 (QE h3)
   · have h1:a=a':=h1
     have h2:b=b':=Nat.le_antisymm h2 h4
     rw[h1,h2]
theorem fwd_cong {i j k f f':Nat} (h:ahi≤i+k+f) (h':ahi'≤i+k+f') (H:∀t,(i+k+t<ahi∧j+k+t<bhi∧Q (i+k+t) (j+k+t)=true)↔(i+k+t<ahi'∧j+k+t<bhi'∧Q (i+k+t) (j+k+t)=true)):fwd Q ahi bhi i j f k=fwd Q ahi' bhi' i j f' k:=by
 refine x_EAA (fwd_spec (Q:=Q) (bhi:=bhi) (j:=j) f k h) fun g e a1 a2=> ?_
 refine x_EAA (fwd_spec (Q:=Q) (bhi:=bhi') (j:=j) f' k h') fun g' e' b1 b2=> ?_
 rw[e,e']
 rcases Nat.lt_trichotomy g g' with z|z|z
 · have c:=(H g).mpr (b1 g z)
   rw[a2 c.1 c.2.1] at c;cases c.2.2
 ·rw[z]
 · have c:=(H g').mp (a1 g' z)
   rw[b2 c.1 c.2.1] at c;cases c.2.2
theorem flm_ext (hlb:bhi≤lb) (hlb':bhi'≤lb') (h1:alo≤ahi) (ha:ahi≤ahi') (hb:bhi≤bhi') (hP:∀i j,ahi≤i∨bhi≤j→i<ahi'→j<bhi'→P i j=false∧Q i j=false):flm P Q lb' alo ahi' blo bhi'=flm P Q lb alo ahi blo bhi:=by
 refine x_EA (flm_core (P:=P) (Q:=Q) (lb:=lb) (blo:=blo) hlb h1) fun st B e=> ?_
 refine x_EA (flm_core (P:=P) (Q:=Q) (lb:=lb') (blo:=blo) hlb' (Qe h1 ha)) fun st' B' e'=> ?_
 have C:Core P alo ahi blo bhi st':=⟨B'.zero,⟨B'.inw.1,B'.inw.2.1,fun z=>by
  refine x_E (Nat.exists_eq_succ_of_ne_zero (QE z)) fun k ek=> ?_
  have r:=B'.run k (ek▸Qk k)
  have w:=B'.inw.2.2 z
  rw[ek] at w ⊢
  have no:¬(ahi≤st'.1+k∨bhi≤st'.2.1+k):=fun q=>Bool.noConfusion (r.symm.trans (hP (st'.1+k) (st'.2.1+k) q w.1 w.2).1)
  exact⟨Nat.lt_of_not_le fun q=>no (.inl q),Nat.lt_of_not_le fun q=>no (.inr q)⟩⟩,B'.run,fun i j a b c d=>B'.most i j a (Qe b ha) c (Qe d hb),fun z i j a b c d=>B'.first z i j a (Qe b ha) c (Qe d hb)⟩
 obtain rfl:=B.uniq C
 refine x_EEEA (back_spec (Q:=Q) (alo:=alo) (blo:=blo) st.1 st.2.1 st.2.2 B.inw.1 B.inw.2.1) fun g a b eb _=> ?_
 rw[e,e']
 simp only[eb]
 rw[fwd_cong (Q9 _ _) (Q9 _ _) fun t=>⟨fun c=> ?_,fun c=>⟨Qy c.1 ha,Qy c.2.1 hb,c.2.2⟩⟩]
 have no:¬(ahi≤a+(st.2.2+g)+t∨bhi≤b+(st.2.2+g)+t):=fun q=>by
  have:=c.2.2
  rw[(hP _ _ q c.1 c.2.1).2] at this;cases this
 exact⟨Nat.lt_of_not_le fun q=>no (.inl q),Nat.lt_of_not_le fun q=>no (.inr q),c.2.2⟩
theorem flm_junk (hlb:bhi≤lb) (h1:alo≤ahi) (hP:∀i j,alo≤i→i<ahi→blo≤j→j<bhi→P i j=false):flm P Q lb alo ahi blo bhi=(alo,blo,fwd Q ahi bhi alo blo ahi 0):=by
 refine x_EA (flm_core (P:=P) (Q:=Q) (lb:=lb) (blo:=blo) hlb h1) fun st B e=> ?_
 have z:st.2.2=0:=by
  rcases Nat.eq_zero_or_pos st.2.2 with z|z
  ·exact z
  · have r:=B.run 0 z
    have w:=B.inw.2.2 z
    rw[Nat.add_zero,Nat.add_zero,hP _ _ B.inw.1 (Qy (Nat.lt_add_of_pos_right z) w.1) B.inw.2.1 (Qy (Nat.lt_add_of_pos_right z) w.2)] at r
    cases r
 have z2:=B.zero z
 obtain⟨g,a,b,eb,e1,e2,l1,_⟩:=back_spec (Q:=Q) (alo:=alo) (blo:=blo) st.1 st.2.1 st.2.2 B.inw.1 B.inw.2.1
 rw[z2.1] at e1
 have g0:g=0:=Nat.le_zero.mp (Nat.le_of_add_le_add_left (a:=a) (e1▸l1))
 subst g0
 rw[z2.2] at e2
 rw[e]
 simp only[eb]
 rw[z,←show alo=a from e1,←show blo=b from e2]
end
section
variable {P Q:Nat→Nat→Bool} {lb:Nat}
theorem gm_none {w:Wn} (ok:OkW lb w) (hP:∀i j,w.1≤i→i<w.2.1→w.2.2.1≤j→j<w.2.2.2→P i j=false∧Q i j=false):gmW P Q lb w=[]:=by
 refine gmW_zero ok ?_
 show(flm P Q lb w.1 w.2.1 w.2.2.1 w.2.2.2).2.2=0
 rw[flm_junk ok.2.2 ok.1 fun i j a b c d=>(hP i j a b c d).1]
 refine x_EAA (fwd_spec (Q:=Q) (ahi:=w.2.1) (bhi:=w.2.2.2) (i:=w.1) (j:=w.2.2.1) w.2.1 0 (Q9 _ _)) fun g e h1 _=> ?_
 show fwd Q w.2.1 w.2.2.2 w.1 w.2.2.1 w.2.1 0=0
 rw[e]
 cases g with
 |zero=>rfl
 |succ g =>
  have c:=h1 0 (Nat.succ_pos _)
  have d:Q (w.1+0+0) (w.2.2.1+0+0)=false:=(hP _ _ (Qt _) c.1 (Qt _) c.2.1).2
  rw[c.2.2] at d;cases d
theorem gm_ext {w:Wn} (ok:OkW lb w):∀{lb' ahi' bhi':Nat},w.2.1≤ahi'→w.2.2.2≤bhi'→bhi'≤lb'→(∀i j,w.2.1≤i∨w.2.2.2≤j→i<ahi'→j<bhi'→P i j=false∧Q i j=false)→gmW P Q lb' (w.1,ahi',w.2.2.1,bhi')=gmW P Q lb w:=by
 refine gmW_ind (P:=P) (Q:=Q) (M:=fun w=>∀{lb' ahi' bhi':Nat},w.2.1≤ahi'→w.2.2.2≤bhi'→bhi'≤lb'→(∀i j,w.2.1≤i∨w.2.2.2≤j→i<ahi'→j<bhi'→P i j=false∧Q i j=false)→gmW P Q lb' (w.1,ahi',w.2.2.1,bhi')=gmW P Q lb w) (fun w ok ih lb' ahi' bhi' ha hb hl hP=> ?_) _ w (Qk _) ok
 have ok':OkW lb' (w.1,ahi',w.2.2.1,bhi'):=⟨Qe ok.1 ha,Qe ok.2.1 hb,hl⟩
 have hm:=flw_in (P:=P) (Q:=Q) ok
 have em:flw P Q lb' (w.1,ahi',w.2.2.1,bhi')=flw P Q lb w:=flm_ext ok.2.2 hl ok.1 ha hb hP
 rw[gmW_eq ok',gmW_eq ok,em]
 generalize flw P Q lb w=m at ih hm ⊢
 by_cases z:m.2.2=0
 ·rw[if_pos z,if_pos z]
 rw[if_neg z,if_neg z]
 have eL:(wL w m).flatMap (gmW P Q lb')=(wL w m).flatMap (gmW P Q lb):=flatMap_congr' fun v hv=>by
  have o:=wL_ok ok hm hv
  exact ih v o.1 (.inl hv) z (lb':=lb') (Qt _) (Qt _) (by rw[o.2.1];exact Qe (Qe (QP _ _) hm.2.2.2) (Qe hb hl)) fun i j q a b=>(q.elim (Nat.not_le_of_lt a) (Nat.not_le_of_lt b)).elim
 have eR:(wR (w.1,ahi',w.2.2.1,bhi') m).flatMap (gmW P Q lb')=(wR w m).flatMap (gmW P Q lb):=by
  by_cases c:m.1+m.2.2<w.2.1∧m.2.1+m.2.2<w.2.2.2
  · have e1:wR w m=[(m.1+m.2.2,w.2.1,m.2.1+m.2.2,w.2.2.2)]:=if_pos c
    have e2:wR (w.1,ahi',w.2.2.1,bhi') m=[(m.1+m.2.2,ahi',m.2.1+m.2.2,bhi')]:=if_pos ⟨Qy c.1 ha,Qy c.2 hb⟩
    have hv:(m.1+m.2.2,w.2.1,m.2.1+m.2.2,w.2.2.2)∈wR w m:=e1▸Qs.mpr rfl
    have:=ih _ (wR_ok ok hm hv).1 (.inr hv) z (lb':=lb') (ahi':=ahi') (bhi':=bhi') ha hb hl hP
    rw[e1,e2,List.flatMap_cons,List.flatMap_cons,this];rfl
  · rw[show wR w m=[] from if_neg c]
    unfold wR
    split
    · rename_i d
      rw[List.flatMap_cons,List.flatMap_nil,Q4,List.flatMap_nil]
      refine gm_none ⟨Qx d.1,Qx d.2,hl⟩ fun i j a b c' d'=>hP i j ?_ b d'
      rcases Nat.lt_or_ge (m.1+m.2.2) w.2.1 with q|q
      ·exact .inr (Qe (Nat.le_of_not_lt fun r=>c ⟨q,r⟩) c')
      ·exact .inl (Qe q a)
    ·rfl
 show(wL w m).flatMap _++_::_=_
 rw[eL,eR]
theorem flw_max {w:Wn} (ok:OkW lb w) (hk:(flw P Q lb w).2.2≠0):((flw P Q lb w).2.2=1→(w.1<(flw P Q lb w).1→w.2.2.1<(flw P Q lb w).2.1→P ((flw P Q lb w).1-1) ((flw P Q lb w).2.1-1)=false)∧((flw P Q lb w).1+1<w.2.1→(flw P Q lb w).2.1+1<w.2.2.2→P ((flw P Q lb w).1+1) ((flw P Q lb w).2.1+1)=false)∧(P (flw P Q lb w).1 (flw P Q lb w).2.1=true∨((flw P Q lb w).1=w.1∧(flw P Q lb w).2.1=w.2.2.1∧Q w.1 w.2.2.1=true))) ∧
 ((flw P Q lb w).1+(flw P Q lb w).2.2<w.2.1→(flw P Q lb w).2.1+(flw P Q lb w).2.2<w.2.2.2→Q ((flw P Q lb w).1+(flw P Q lb w).2.2) ((flw P Q lb w).2.1+(flw P Q lb w).2.2)=false):=by
 obtain⟨alo,ahi,blo,bhi⟩:=w
 refine x_EA (flm_core (P:=P) (Q:=Q) (lb:=lb) (alo:=alo) (ahi:=ahi) (blo:=blo) (bhi:=bhi) ok.2.2 ok.1) fun st B e=> ?_
 refine x_EEEAAAAA (back_spec (Q:=Q) (alo:=alo) (blo:=blo) st.1 st.2.1 st.2.2 B.inw.1 B.inw.2.1) fun g a b eb e1 e2 l1 l2 _=> ?_
 refine x_EAA (fwd_spec (Q:=Q) (ahi:=ahi) (bhi:=bhi) (i:=a) (j:=b) ahi (st.2.2+g) (Q9 _ _)) fun g' ef f1 f2=> ?_
 have em:flw P Q lb (alo,ahi,blo,bhi)=(a,b,st.2.2+g+g'):=by
  show flm P Q lb alo ahi blo bhi=_
  rw[e]
  simp only[eb,ef]
 rw[em] at hk ⊢
 dsimp only at hk ⊢
 refine⟨fun k1=> ?_,by rw[Wq a,Wq b] at f2;exact f2⟩
 rcases Nat.eq_zero_or_pos st.2.2 with z|z
 · -- junk at the corner
   have z2:=B.zero z
   have ea:=z2.1.symm.trans e1
   have g0:g=0:=Nat.le_zero.mp (Nat.le_of_add_le_add_left (a:=a) (ea▸l1))
   subst g0
   have ea:alo=a:=ea
   have eb:blo=b:=z2.2.symm.trans e2
   rw[z] at k1 f1
   have gp:0<g':=by omega
   have q:=(f1 0 gp).2.2
   refine⟨fun h=>absurd ea (Qg h),fun h1 h2=> ?_, .inr ⟨ea.symm,eb.symm,by rw[ea,eb];exact q⟩⟩
   have:=B.most (a+1) (b+1) (by exact QT (by assumption)) (by rw[z];exact h1) (by exact QT (by assumption)) (by rw[z];exact h2)
   rw[z] at this
   cases ep:P (a+1) (b+1) with
   |false=>rfl
   |true=>exact absurd (Run.zero.snoc (k:=0) ep) this
 · have hs:st.2.2=1∧g=0∧g'=0:=by omega
   refine x_AA hs fun s1 z138 z139=> ?_;subst z138;subst z139
   have ea:st.1=a:=e1
   have ec:st.2.1=b:=e2
   have r:=B.run
   have mo:=B.most
   rw[s1,ea,ec] at r
   rw[s1] at mo
   have p0:=r 0 Nat.one_pos
   refine⟨fun h1 h2=> ?_,fun h1 h2=> ?_, .inl p0⟩
   · refine x_E (Nat.exists_eq_succ_of_ne_zero (QE (Qj (Qz _) h1))) fun a' z140=> ?_;subst z140
     refine x_E (Nat.exists_eq_succ_of_ne_zero (QE (Qj (Qz _) h2))) fun b' z141=> ?_;subst z141
     have w:=B.inw.2.2 z
     rw[s1,ea,ec] at w
     cases ep:P (a'+1-1) (b'+1-1) with
     |false=>rfl
     |true=>exact absurd ((Run.zero.snoc (k:=0) ep).snoc p0) (mo a' b' (Qv h1) w.1 (Qv h2) w.2)
   · cases ep:P (a+1) (b+1) with
     |false=>rfl
     |true=>exact absurd (r.snoc ep) (mo a b l1 h1 l2 h2)
theorem gb2 {rl rr s e p q u v k c:Nat} (hk:2≤k) (hL:3*rl+s≤p+q+1+2*c) (hR:3*rr+e≤u+v+1):3*(rl+(rr+1))+s+e≤(p+k+u)+(q+k+v)+1+2*c:=by omega
theorem gb1 {rl rr s e p q u v c:Nat} (hL:3*rl+s≤p+q+2*c) (hR:3*rr+e≤u+v):3*(rl+(rr+1))+s+e≤(p+1+u)+(q+1+v)+1+2*c:=by omega
theorem gb0 {rr s e u v:Nat} (hs:s≤1) (hR:3*rr+e≤u+v+1):3*(0+(rr+1))+s+e≤(0+1+u)+(0+1+v)+1+2*1:=by omega
theorem z_or {p q:Nat}:(p=0∧q=0)∨1≤p+q:=by
 rcases Nat.eq_zero_or_pos (p+q) with y|y
 ·exact .inl (Nat.add_eq_zero_iff.mp y)
 ·exact .inr y
theorem gb_all {alo ahi blo bhi i j k rl rr s e el sr c:Nat} (hm:alo≤i∧blo≤j∧i+k≤ahi∧j+k≤bhi) (hL:(alo<i∧blo<j∧3*rl+s+el≤(i-alo)+(j-blo)+1+2*c)∨(¬(alo<i∧blo<j)∧rl=0))
 (hR:(i+k<ahi∧j+k<bhi∧3*rr+sr+e≤(ahi-(i+k))+(bhi-(j+k))+1)∨rr=0)
 (hk:k=1→(alo<i→blo<j→el=1)∧(i+k<ahi→j+k<bhi→sr=1)∧(((i=alo∧j=blo→s=0)∧(i+1=ahi∧j+1=bhi→e=0))∨(i=alo∧j=blo∧c=1))) (hz:0<k) (b1:s≤1) (b2:e≤1):3*(rl+(rr+1))+s+e≤(ahi-alo)+(bhi-blo)+1+2*c:=by
 obtain⟨m1,m2,m3,m4⟩:=hm
 refine x_E (Nat.exists_eq_add_of_le m1) fun p z142=> ?_;subst z142
 refine x_E (Nat.exists_eq_add_of_le m2) fun q z143=> ?_;subst z143
 refine x_E (Nat.exists_eq_add_of_le m3) fun u z144=> ?_;subst z144
 refine x_E (Nat.exists_eq_add_of_le m4) fun v z145=> ?_;subst z145
 have s1:alo+p+k+u-alo=p+k+u:=by rw[Wq alo,Wq alo,Nat.add_sub_cancel_left]
 have s2:blo+q+k+v-blo=q+k+v:=by rw[Wq blo,Wq blo,Nat.add_sub_cancel_left]
 rw[s1,s2]
 clear s1 s2
 rw[Nat.add_sub_cancel_left,Nat.add_sub_cancel_left] at hL hR
 rcases Nat.lt_or_ge 1 k with k2|k2
 · refine gb2 k2 ?_ ?_
   · rcases hL with⟨_,_,l3⟩|⟨_,l2⟩
     ·exact Qe (QP _ _) l3
     · rw[l2]
       exact Qe (QK (Nat.zero_add s)) (Qe b1 (Qe (Q9 1 (p+q)) (QP _ _)))
   · rcases hR with⟨_,_,r3⟩|r1
     ·exact Qe (Wi (QP _ _) e) r3
     · rw[r1]
       exact Qe (QK (Nat.zero_add e)) (Qe b2 (Q9 1 _))
 obtain rfl:k=1:=Nat.le_antisymm k2 hz
 refine x_AA (hk rfl) fun A B D=> ?_
 have hR3:(u=0∧v=0→e=0)→3*rr+e≤u+v:=fun d=>by
  rcases hR with⟨r1,r2,r3⟩|r1
  · rw[B r1 r2] at r3
    exact Nat.le_of_succ_le_succ (Qe (QK (Wr (3*rr) e 1)) r3)
  · rw[r1]
    refine Qe (QK (Nat.zero_add e)) ?_
    rcases z_or (p:=u) (q:=v) with y|y
    ·rw[d y];exact Qz _
    ·exact Qe b2 y
 rcases D with⟨D1,D2⟩|⟨D1,D2,D3⟩
 · refine gb1 ?_ (hR3 fun y=>D2 ⟨by rw[y.1],by rw[y.2]⟩)
   rcases hL with⟨l1,l2,l3⟩|⟨l1,l2⟩
   · rw[A l1 l2] at l3
     exact Nat.le_of_succ_le_succ (Qe l3 (QK (Wr (p+q) 1 (2*c))))
   · rw[l2]
     refine Qe (QK (Nat.zero_add s)) ?_
     rcases z_or (p:=p) (q:=q) with y|y
     ·rw[D1 ⟨by rw[y.1];rfl,by rw[y.2];rfl⟩];exact Qz _
     ·exact Qe b1 (Qe y (QP _ _))
 · have p0:p=0:=Nat.add_left_cancel (n:=alo) (k:=0) D1
   have q0:q=0:=Nat.add_left_cancel (n:=blo) (k:=0) D2
   subst p0;subst q0;subst D3
   rcases hL with⟨l1,l2,l3⟩|⟨l1,l2⟩
   ·exact absurd l1 (Nat.lt_irrefl _)
   · rw[l2]
     refine gb0 b1 ?_
     rcases hR with⟨_,_,r3⟩|r1
     ·exact Qe (Wi (QP _ _) e) r3
     · rw[r1]
       exact Qe (QK (Nat.zero_add e)) (Qe b2 (Q9 1 _))
theorem gm_bound {w:Wn} (ok:OkW lb w):w.1<w.2.1→w.2.2.1<w.2.2.2→3*(gmW P Q lb w).length+(!P w.1 w.2.2.1).toNat+(!P (w.2.1-1) (w.2.2.2-1)).toNat≤(w.2.1-w.1)+(w.2.2.2-w.2.2.1)+1+2*(Q w.1 w.2.2.1).toNat:=by
 refine gmW_ind (P:=P) (Q:=Q) (M:=fun w=>w.1<w.2.1→w.2.2.1<w.2.2.2→3*(gmW P Q lb w).length+(!P w.1 w.2.2.1).toNat+(!P (w.2.1-1) (w.2.2.2-1)).toNat≤(w.2.1-w.1)+(w.2.2.2-w.2.2.1)+1+2*(Q w.1 w.2.2.1).toNat) (fun w ok ih ha hb=> ?_) _ w (Qk _) ok
 have bl:∀b:Bool,b.toNat≤1:=fun b=>by cases b<;>decide
 have b1:=bl (!P w.1 w.2.2.1)
 have b2:=bl (!P (w.2.1-1) (w.2.2.2-1))
 by_cases z:(flw P Q lb w).2.2=0
 ·rw[gmW_zero ok z,List.length_nil];omega
 have hm:=flw_in (P:=P) (Q:=Q) ok
 refine x_A (flw_max ok z) fun F1 F2=> ?_
 rw[gmW_pos ok z,Qn,List.length_cons]
 generalize flw P Q lb w=m at ih F1 F2 hm z ⊢
 obtain⟨alo,ahi,blo,bhi⟩:=w
 obtain⟨i,j,k⟩:=m
 dsimp only at ha hb b1 b2 z hm F1 F2 ⊢
 have hL:(alo<i∧blo<j∧3*((wL (alo,ahi,blo,bhi) (i,j,k)).flatMap (gmW P Q lb)).length+(!P alo blo).toNat+(!P (i-1) (j-1)).toNat≤(i-alo)+(j-blo)+1+2*(Q alo blo).toNat)∨(¬(alo<i∧blo<j)∧((wL (alo,ahi,blo,bhi) (i,j,k)).flatMap (gmW P Q lb)).length=0):=by
  by_cases c:alo<i∧blo<j
  · have e:wL (alo,ahi,blo,bhi) (i,j,k)=[(alo,i,blo,j)]:=if_pos c
    have hv:(alo,i,blo,j)∈wL (alo,ahi,blo,bhi) (i,j,k):=e▸Qs.mpr rfl
    have:=ih _ (wL_ok ok hm hv).1 (.inl hv) z c.1 c.2
    rw[e,List.flatMap_cons,List.flatMap_nil,Q4]
    exact .inl ⟨c.1,c.2,this⟩
  ·exact .inr ⟨c,by rw[show wL (alo,ahi,blo,bhi) (i,j,k)=[] from if_neg c];rfl⟩
 have hR:(i+k<ahi∧j+k<bhi∧3*((wR (alo,ahi,blo,bhi) (i,j,k)).flatMap (gmW P Q lb)).length+(!P (i+k) (j+k)).toNat+(!P (ahi-1) (bhi-1)).toNat≤(ahi-(i+k))+(bhi-(j+k))+1)∨((wR (alo,ahi,blo,bhi) (i,j,k)).flatMap (gmW P Q lb)).length=0:=by
  by_cases c:i+k<ahi∧j+k<bhi
  · have e:wR (alo,ahi,blo,bhi) (i,j,k)=[(i+k,ahi,j+k,bhi)]:=if_pos c
    have hv:(i+k,ahi,j+k,bhi)∈wR (alo,ahi,blo,bhi) (i,j,k):=e▸Qs.mpr rfl
    have:=ih _ (wR_ok ok hm hv).1 (.inr hv) z c.1 c.2
    dsimp only at this
    rw[F2 c.1 c.2] at this
    rw[e,List.flatMap_cons,List.flatMap_nil,Q4]
    exact .inl ⟨c.1,c.2,this⟩
  ·exact .inr (by rw[show wR (alo,ahi,blo,bhi) (i,j,k)=[] from if_neg c];rfl)
 have hk:k=1→(alo<i→blo<j→(!P (i-1) (j-1)).toNat=1)∧(i+k<ahi→j+k<bhi→(!P (i+k) (j+k)).toNat=1)∧(((i=alo∧j=blo→(!P alo blo).toNat=0)∧(i+1=ahi∧j+1=bhi→(!P (ahi-1) (bhi-1)).toNat=0))∨(i=alo∧j=blo∧(Q alo blo).toNat=1)):=fun e=>by
  subst e
  refine x_AA (F1 rfl) fun G1 G2 G3=> ?_
  refine⟨fun a b=>by rw[G1 a b];rfl,fun a b=>by rw[G2 a b];rfl,G3.imp (fun p=>⟨fun q=>by rw[←q.1,←q.2,p];rfl,fun q=>by rw[←q.1,←q.2];show(!P i j).toNat=0;rw[p];rfl⟩) fun p=>⟨p.1,p.2.1,by rw[p.2.2];rfl⟩⟩
 have hz:0<k:=Nat.pos_of_ne_zero z
 exact gb_all hm hL hR hk hz b1 b2
theorem gm_few {la:Nat} (h1:la≤70) (h2:lb≤70):(gmW P Q lb (0,la,0,lb)).length<64:=by
 have ok:OkW lb (0,la,0,lb):=⟨Qz _,Qz _,Qt _⟩
 have nil:la=0∨lb=0→(gmW P Q lb (0,la,0,lb)).length<64:=fun h=>by
  have hm:=flw_in (P:=P) (Q:=Q) ok
  rw[gmW_zero ok (Nat.le_zero.mp (h.elim (fun z=>Qe (Q9 _ _) (Qe hm.2.2.1 (QK z))) fun z=>Qe (Q9 _ _) (Qe hm.2.2.2 (QK z))))]
  decide
 rcases Nat.eq_zero_or_pos la with z|z
 ·exact nil (.inl z)
 rcases Nat.eq_zero_or_pos lb with y|y
 ·exact nil (.inr y)
 have:=gm_bound (P:=P) (Q:=Q) ok z y
 have c:(Q 0 0).toNat≤1:=by cases Q 0 0<;>decide
 dsimp only at this
 omega
theorem gm_alone {la:Nat} (hP:∀i j,i<la→j<lb→P i j=false):gmW P Q lb (0,la,0,lb)=if fwd Q la lb 0 0 la 0=0 then[] else[(0,0,fwd Q la lb 0 0 la 0)]:=by
 have ok:OkW lb (0,la,0,lb):=⟨Qz _,Qz _,Qt _⟩
 have em:flw P Q lb (0,la,0,lb)=(0,0,fwd Q la lb 0 0 la 0):=flm_junk (Qt _) (Qz _) fun i j _ a _ b=>hP i j a b
 refine x_EAA (fwd_spec (Q:=Q) (ahi:=la) (bhi:=lb) (i:=0) (j:=0) la 0 (Q9 _ _)) fun g e _ g2=> ?_
 rw[gmW_eq ok,em]
 generalize fwd Q la lb 0 0 la 0=s at e em ⊢
 by_cases z:s=0
 ·rw[if_pos z,if_pos z]
 rw[if_neg z,if_neg z]
 have eL:wL (0,la,0,lb) (0,0,s)=[]:=if_neg fun c=>absurd c.1 (Nat.lt_irrefl _)
 rw[eL]
 show _::(wR (0,la,0,lb) (0,0,s)).flatMap _=_
 unfold wR
 split
 · rename_i c
   have ok2:OkW lb (0+s,la,0+s,lb):=⟨Qx c.1,Qx c.2,Qt _⟩
   rw[List.flatMap_cons,List.flatMap_nil,Q4]
   refine congrArg _ (gmW_zero ok2 ?_)
   show(flm P Q lb (0+s) la (0+s) lb).2.2=0
   rw[flm_junk (Qt _) ok2.1 fun i j _ a _ b=>hP i j a b]
   have q:Q (0+s) (0+s)=false:=by
    have:=g2 (by rw[Wq,←e];exact c.1) (by rw[Wq,←e];exact c.2)
    rwa [Wq,←e] at this
   show fwd Q la lb (0+s) (0+s) la 0=0
   cases la with
   |zero=>rfl
   |succ la=>rw[fwd,if_neg fun d=>by(have:=d.2.2;rw[show 0+s+0=0+s from rfl,q] at this;cases this)]
 ·rfl
theorem blocks_alone {la:Nat} (hP:∀i j,i<la→j<lb→P i j=false):blocks P Q lb la=(if 0<fwd Q la lb 0 0 la 0 then[(0,0,fwd Q la lb 0 0 la 0)] else[])++[(la,lb,0)]:=by
 unfold blocks
 rw[gm_alone hP]
 generalize fwd Q la lb 0 0 la 0=s
 cases s with
 |zero=>rfl
 |succ s=>simp[mg]
theorem blocks_ext {la lb' la':Nat} (h1:la≤la') (h2:lb≤lb') (hP:∀i j,la≤i∨lb≤j→P i j=false∧Q i j=false):blocks P Q lb' la'=mg (0,0,0) (gmW P Q lb (0,la,0,lb))++[(la',lb',0)]:=by
 unfold blocks
 rw[←gm_ext (w:=(0,la,0,lb)) ⟨Qz _,Qz _,Qt _⟩ h1 h2 (Qt _) fun i j q _ _=>hP i j q]
end
section
variable {w:World} {K:Frag} {cl f sm:Addr} {x dx:Addr} {vs:List Value}
noncomputable def MitP (vs:List Value) (i:Nat) (v:Value):Prop:=vs[i]? =some v
theorem mit_walks {it:Addr} (hne:x≠it) (hh:A.handled=none):Walks prog w A it [it,x] [it] vs.length (MitP vs) (fun i h=>h.IsTupleIter it x i∧∃c dx,h.get? x=some ⟨c,some dx, .seq vs.toArray 0,#[]⟩) where
 sub:=fun b hb=>QY.mpr (.inl (Qs.mp hb))
 frame:=fun i h h' ⟨⟨o,ho,r⟩,c,dx,e⟩ k=>⟨⟨o,k it (List.mem_cons_self ..) _ ho,r⟩,c,dx,k x (List.mem_cons_of_mem _ (Qs.mpr rfl)) _ e⟩
 item:=fun i s Q E hi ⟨hit,c,dx,e⟩ q=>mit_item hit e rfl (u:=vs[i]) (by simp[hi]) fun h' h1 sb=>by
  have:=q vs[i] h' s.toks (by simp[MitP,hi]) ⟨h1,c,dx,(sb.2 x hne).trans e⟩ fun b o hb eo=>(sb.2 b fun z=>hb (Qs.mpr z)).trans eo
  exact this
 done:=fun s Q E ⟨hit,c,dx,e⟩ q=>mit_end hh hit e rfl (by simp) fun h' sb=>q h' s.toks fun b o hb eo=>sb b o (fun z=>hb (Qs.mpr z)) eo
 self:=fun i s Q E ⟨hit,_⟩ q=>wpAny_pyIter_tupleiter hit q
theorem collect_mat {Q:List Value→Shared→Prop} (hh:A.handled=none) (Y:MatK K cl f sm) (X:K.In s.heap) (hi:findIn K (.ref cl) "__iter__" = some (some (.builtin "tuple.__iter__"))) (hl:findIn K (.ref cl) "__len__" = some (some (.builtin "tuple.__len__")))
 (hx:s.heap.get? x=some ⟨.ref cl,some dx, .seq vs.toArray 0,#[]⟩) (hz:vs.length≤10000) (q:∀h' tk,(∀b o,s.heap.get? b=some o→h'.get? b=some o)→Q vs {s with heap:=h',toks:=tk }):wpAny (model prog w) A (collect (.ref x)) Q E s:=by
 unfold collect
 refine Qw (wpAny_runValue (codeAny_builtin PySem.F.entry_proto_collect ?_))
 rw[Around.under_plainId PySem.F.plain_proto_collect _]
 show wpAny _ A.in1 (newList [] >>= fun l=>again (.builtin "list.__iadd__" ⟨[l, .ref x],[]⟩)) _ _ s
 refine Qw (wpAny_newObj_type ?_)
 refine Qr ⟨plainId_quiet PySem.F.plain_list_iadd _,codeAny_builtin PySem.F.entry_list_iadd ?_⟩
 rw[Around.under_plainId PySem.F.plain_list_iadd _]
 have hSx:s.heap.objs.size≠x:=QE (Heap.lt_size hx)
 have keep0:∀b o,s.heap.get? b=some o→b≠s.heap.objs.size:=fun b o e=>Qg (Heap.lt_size e)
 have k1:∀b o,s.heap.get? b=some o→(s.heap.push {cls:= .type "list",data:= .seq ([]:List Value).toArray }).get? b=some o:=fun b o e=>Qd _ e
 have hS:(s.heap.push {cls:= .type "list",data:= .seq ([]:List Value).toArray }).get? s.heap.objs.size=some {cls:= .type "list",data:= .seq ([]:List Value).toArray }:=Qu _ rfl
 have X1:K.In (s.heap.push {cls:= .type "list",data:= .seq ([]:List Value).toArray }):=fun b o e=>k1 _ _ (X b o e)
 show wpAny _ A.in1 (Builtin.List.listExtendWith (.ref s.heap.objs.size) (.ref x) (.ref s.heap.objs.size)) _ _ ⟨s.heap.push {cls:= .type "list",data:= .seq ([]:List Value).toArray },s.gens,s.drawn,s.toks,s.os⟩
 generalize s.heap.push {cls:= .type "list",data:= .seq ([]:List Value).toArray }=H at k1 hS X1 ⊢
 have hx1:=k1 _ _ hx
 refine x_A (Y.obj (M:=model prog w) X1 hx1) fun ty it=> ?_
 unfold Builtin.List.listExtendWith
 refine Qw (ty.here ?_)
 have e1:Builtin.List.listSameRef (.ref s.heap.objs.size) (.ref x)=false:=by simp[Builtin.List.listSameRef,hSx]
 have e2:(Value.ref cl==Value.type "list")=false:=rfl
 have e3:(Value.ref cl==Value.type "tuple")=false:=rfl
 simp only[e1,e2,e3,Bool.or_false,Qm,if_false]
 refine Qw (mat_iter Y X1 hi hx1 ?_)
 have hSn:s.heap.objs.size≠H.objs.size:=Qg (Heap.lt_size hS)
 have k2:∀b o,H.get? b=some o→(H.push {cls:= .type "tuple_iterator",data:= .fields #[.ref x, .int 0 0] }).get? b=some o:=fun b o e=>Qd _ e
 have hI:(H.push {cls:= .type "tuple_iterator",data:= .fields #[.ref x, .int 0 0] }).IsTupleIter H.objs.size x 0:=⟨_,Qu _ rfl,rfl,rfl⟩
 have X2:K.In (H.push {cls:= .type "tuple_iterator",data:= .fields #[.ref x, .int 0 0] }):=fun b o e=>k2 _ _ (X1 b o e)
 have hxi:x≠H.objs.size:=Qg (Heap.lt_size hx1)
 show wpAny _ _ _ _ _ ⟨H.push {cls:= .type "tuple_iterator",data:= .fields #[.ref x, .int 0 0] },s.gens,s.drawn,s.toks,s.os⟩
 generalize H.push {cls:= .type "tuple_iterator",data:= .fields #[.ref x, .int 0 0] }=H2 at k2 hI X2 ⊢
 have hx2:=k2 _ _ hx1
 have hS2:=k2 _ _ hS
 have hle:∀b o,s.heap.get? b=some o→H2.get? b=some o:=fun b o e=>k2 _ _ (k1 _ _ e)
 have hne:∀b o,s.heap.get? b=some o→b≠H.objs.size:=fun b o e=>Qg (Heap.lt_size (k1 _ _ e))
 generalize H.objs.size=it at *
 -- the loop,from any state like the first
 have go:∀(R:Result→Shared→Prop) (H3:Heap) (c tk:Nat),(∀b o,b≠s.heap.objs.size→H2.get? b=some o→H3.get? b=some o)→H3.get? s.heap.objs.size=some {cls:= .type "list",data:= .seq #[] c } →
  (∀h' tk' acc c',(∀b o,s.heap.get? b=some o→h'.get? b=some o)→h'.get? s.heap.objs.size=some {cls:= .type "list",data:= .seq acc c' }→acc.toList=vs→R (.ok (.ret (.ref s.heap.objs.size))) {s with heap:=h',toks:=tk' }) →
  codeAny (model prog w) A (.builtin "list.extend.loop" ⟨[.ref s.heap.objs.size, .ref it, .ref s.heap.objs.size],[]⟩) R ⟨H3,s.gens,s.drawn,tk,s.os⟩:=fun R H3 c tk k3 h3 hR=>by
  refine codeAny_extend_loopS (mit_walks (vs:=vs) (A:=A.in1) hxi hh).toS (Qe hz (by decide)) _ (fun z=> ?_) _ vs.length 0 _ _ _ rfl (Qz _) ⟨let⟨o,ho,r⟩:=hI;⟨o,k3 _ _ (Ne.symm hSn) ho,r⟩,_,_,k3 _ _ (Ne.symm hSx) hx2⟩ h3 (ItemsOf.nil _) fun s' acc' c' hm hS' hacc=> ?_
  · rcases QY.mp z with z|z
    ·exact hSn z
    ·exact hSx (Qs.mp z)
  · rw[Moved.eq_with hm]
    refine hR _ _ acc' c' (fun b o e=>hm.heap b o (fun z=> ?_) (k3 b o (keep0 b o e) (hle b o e))) hS' ?_
    · rcases QY.mp z with z|z
      ·exact keep0 b o e z
      ·exact hne b o e (Qs.mp z)
    · refine List.ext_getElem hacc.1 fun i h1 h2=> ?_
      exact(Qp.mp (hacc.2 i acc'[i] (Array.getElem?_eq_getElem h1))).2.symm
 refine Qw (Qf ?_)
 unfold Builtin.List.listLengthHint
 refine Qw (Qw (((Y.obj (M:=model prog w) X2 hx2).1).here ((looks_findIn X2 hl).here ?_)))
 dsimp only
 rw[split_tln]
 dsimp only
 refine Qw ((Y.obj (M:=model prog w) X2 hx2).2.here ?_)
 rw[if_neg (by simp)]
 rw[if_pos (by decide +kernel)]
 refine Qw ((Y.obj (M:=model prog w) X2 hx2).1.here ?_)
 dsimp only
 refine Qw (mat_len Y X2 hl hx2 hz fun t tk=> ?_)
 refine Qw (m:=asInt? _) (Qr ?_)
 refine Qr ?_
 refine wpAny_ite_split (fun _=> ?_) (fun _=>Qr ⟨plainId_quiet PySem.F.plain_extend_loop _,go _ _ _ _ (fun _ _ _ e=>e) hS2 fun h' tk' acc c' k4 h4 ev=> ?_⟩)
 refine Qw (wpAny_rule ?_)
 refine Qw ?_
 show wpAny _ _ (updateSeq s.heap.objs.size (·.push .none) >>= fun _=>updateSeq s.heap.objs.size (·.pop)) _ _ _
 refine Qw (wpAny_updateSeq hS2 rfl ?_)
 have hS3:=Heap.get?_update_self (Obj.mapSeq (·.push Value.none)) hS2 rfl
 refine wpAny_updateSeq (hz:=by seq_fits) hS3 rfl ?_
 have hS4:=Heap.get?_update_self (Obj.mapSeq (·.pop)) hS3 rfl
 refine Qr ⟨plainId_quiet PySem.F.plain_extend_loop _,go _ _ _ _ (fun b o nb e=>(Heap.get?_update_other _ _ (Ne.symm nb)).trans ((Heap.get?_update_other _ _ (Ne.symm nb)).trans e)) hS4 fun h' tk' acc c' k4 h4 ev=> ?_⟩
 all_goals
  show wpAny _ A (load s.heap.objs.size >>= _) _ _ _
  refine Qw (wpAny_load h4 (Qr ?_))
  show Q acc.toList _
  rw[ev];exact q _ _ k4
theorem call_tuple_mat {Q:Value→Shared→Prop} (hh:A.handled=none) (Y:MatK K cl f sm) (X:K.In s.heap) (hi:findIn K (.ref cl) "__iter__" = some (some (.builtin "tuple.__iter__"))) (hl:findIn K (.ref cl) "__len__" = some (some (.builtin "tuple.__len__")))
 (hx:s.heap.get? x=some ⟨.ref cl,some dx, .seq vs.toArray 0,#[]⟩) (hz:vs.length≤10000) (q:∀(h':Heap) tk,(∀b o,s.heap.get? b=some o→h'.get? b=some o)→Q (.ref h'.objs.size) {s with heap:=h'.push {cls:= .type "tuple",data:= .seq vs.toArray },toks:=tk }):wpAny (model prog w) A (call (.type "tuple") [.ref x]) Q E s:=by
 refine callType_codes (Q₁:=fun obj s₁=>s₁.TypeIs obj "tuple" ∧ Q obj s₁) PySem.F.called_tuple (PySem.F.typeCall_tuple_1 _) PySem.F.entry_object_init ?_ fun obj s₁ h₁=>⟨h₁.1,PySem.F.args_object_init_2 obj _,object_init_meets PySem.F.called_tuple.init.lookup PySem.F.called_tuple.made (by decide) prog w A.in1 _ s₁ ⟨h₁.1,rfl,h₁.2⟩⟩
 refine codeAny_of_tree ?_
 show wpAny _ A.in1.in1 (do checkBuiltinCall "tuple.__new__" ⟨[.type "tuple", .ref x],[]⟩;again (.builtin "tuple.__new__" ⟨[.type "tuple", .ref x],[]⟩)) _ _ s
 refine Qw (wpAny_of_eq (PySem.F.newCall_tuple_1 _) (Qr ⟨plainId_quiet PySem.F.plain_tuple_new _,codeAny_builtin PySem.F.entry_tuple_new ?_⟩))
 rw[Around.under_plainId PySem.F.plain_tuple_new _]
 have tyx:=(Y.obj (M:=model prog w) X hx).1
 unfold Builtin.«tuple.__new__»
 refine Qw (m:=isType _) (Qr ?_)
 rw[if_neg (by simp)]
 refine Qw (wpAny_of_eq sub_tup ?_)
 rw[if_neg (by simp)]
 dsimp only
 rw[if_neg (by decide +kernel)]
 refine Qw (wpAny_of_eq madeHere_tuple ?_)
 refine Qw (wpAny_of_eq init_tuple_lookup ?_)
 rw[if_pos (by simp)]
 refine Qw (m:=noKeywords _ _) (Qr ?_)
 rw[show checkCount "tuple" 0 1 ([Value.ref x]:List Value).length=pure () from by kernel_rfl]
 refine Qw (Qr ?_)
 rw[if_pos (by simp)]
 refine Qw (Qw (tyx.here (Qr ?_)))
 rw[if_neg (by simp)]
 refine Qw (collect_mat hh Y X hi hl hx hz fun h' tk hk=>Qw (Qr ?_))
 unfold Builtin.Tuple.tupleExact
 refine Qw (wpAny_newObj_type (Qr ⟨⟨_,Qu _ rfl,rfl⟩,q h' tk hk⟩) ?_)
 show vs.toArray.size≤Qc
 rw[List.size_toArray];exact Qe hz (by decide)
end
section
variable {K:Frag} {cl f sm:Addr}
theorem pf_tupM (I:InC C K) (Y:MatK K cl f sm) (hi:findIn K (.ref cl) "__iter__" = some (some (.builtin "tuple.__iter__"))) (hl:findIn K (.ref cl) "__len__" = some (some (.builtin "tuple.__len__"))) {xs:List V} (hz:xs.length≤10000):PF C n h (.ty "tuple") [.mat cl xs] [] (.tup xs):=fun hb ih Q q=>cl1 fun A w Q' E fx x a0 R cf cx c=>by
 refine eqE cf.toInv ?_
 refine cx.eMat fun vs a dx hg hd cs=> ?_
 have hx:=R.keep _ _ hg
 refine call_tuple_mat a0.handled Y (fun b o e=>R.up (I b o e).1 (I b o e).2) hi hl hx (by rw[cs.length];exact hz) fun h' tk hk=> ?_
 have R1:=R.grow (k:=tk) hk
 have hn:(w.at h' tk).s.heap.get? h'.objs.size=none:=fresh_none (Qt _)
 exact c (.ref h'.objs.size) _ hb ((w.at h' tk).frz h'.objs.size _ _ tk) (q hb (.refl _)) ((Ext.grow hk).trans (Ext.frozen R1 hn push_keeps)) (R1.frozen hn push_keeps (Qu _ rfl)) (.tup gset_self rfl rfl ((cs.ext (Ext.grow (X:=[]) (k:=tk) hk)).mono (gset_sub (R1.off_fresh hn).1) (Ql _)))
theorem pf_tupL {v:V} {xs:List V} (hv:IsLst h v xs) (hz:xs.length≤Qc):PF C n h (.ty "tuple") [v] [] (.tup xs):=fun hb ih Q q=>cl1 fun A w Q' E fx x a0 R cf cx c=>by
 refine eqE cf.toInv ?_
 refine x_EEEAA ((ih.lst hv).at2 R cx) fun a vs m z146 ho cs=> ?_;subst z146
 refine call_tuple_list ⟨_,ho,rfl,m,rfl⟩ (fun h' hk=> ?_) (by rw[←QD,cs.length];exact hz)
 have R1:=R.grow (k:=w.s.toks) hk
 have hn:(w.at h' w.s.toks).s.heap.get? h'.objs.size=none:=fresh_none (Qt _)
 exact c (.ref h'.objs.size) _ hb ((w.at h' w.s.toks).frz h'.objs.size _ _ w.s.toks) (q hb (.refl _)) ((Ext.grow hk).trans (Ext.frozen R1 hn push_keeps)) (R1.frozen hn push_keeps (Qu _ rfl)) (.tup (vs:=vs.toList) (n:=0) gset_self rfl (by rw[Array.toArray_toList]) ((cs.ext (Ext.grow (X:=[]) (k:=w.s.toks) hk)).mono (gset_sub (R1.off_fresh hn).1) (Ql _)))
end
section
theorem dok_T {ls:List (List Nat)} (hl:∀y∈ls,QH (S y)=true):Dok (.list ((ls.map S).map PyData.str)):=dok_strs fun y hy=>by refine x_EA (QO.mp hy) fun z hz z147=> ?_;subst z147;exact hl z hz
theorem p2_inT {a:V} {da:PyData} {vs:List V} {db:List PyData} (ha:Dat h a da) (hb:Dats h vs db) (ka:Dok da) (kb:Dok (.list db)):P2 C (n+1) (QQ .In) h a (.tup vs) (.bool (db.any fun y=>PyData.eqv y da)):=fun hh hi Q q=>dat_inT (hi.dat ha) (hi.dat (.tup hb)) ka ⟨kb.lay,kb.depth⟩ (q _ (.refl _))
theorem p2_in_textsT {x:List Nat} {ls:List (List Nat)} (hx:QH (S x)=true) (hl:∀y∈ls,QH (S y)=true):P2 C (n+1) (QQ .In) h (sV x) (.tup (ls.map sV)) (.bool (decide (x∈ls))) :=
 decide_mem_S (x:=x) (ls:=ls)▸p2_inT (.str (S x)) (dat_texts ls) ⟨hx,by simp[PyData.depth]⟩ (dok_T hl)
theorem int_notin {i:Int} {ls:List (List Nat)}:((ls.map S).map PyData.str).any (fun y=>PyData.eqv y (.int i))=false:=by
 rw[List.any_eq_false];intro d hd;refine x_EA (QO.mp hd) fun y _ z148=> ?_;subst z148;simp[PyData.eqv]
theorem p2_in_int_textsT {i:Int} {ls:List (List Nat)} (hl:∀y∈ls,QH (S y)=true):P2 C (n+1) (QQ .In) h (.int i) (.tup (ls.map sV)) (.bool false) :=
 int_notin (i:=i) (ls:=ls)▸p2_inT (.int i) (dat_texts ls) (dok_int i) (dok_T hl)
theorem p2_in_lists {x:List Nat} {ls:List (List Nat)} (hx:QH (S x)=true) (hl:∀y∈ls,QH (S y)=true):P2 C (n+1) (QQ .In) h (.lst [sV x]) (.lst (ls.map fun y=> .lst [sV y])) (.bool (decide (x∈ls))):=by
 have hd:∀{y},QH (S y)=true→Dok (.list [.str (S y)]):=fun{y} hy=>dok_T (ls:=[y]) fun z hz=>Qs.mp hz▸hy
 have hb:Dats h (ls.map fun y=>V.lst [sV y]) (ls.map fun y=>PyData.list [.str (S y)]):= .map _ _ ls fun y _=> .lst (.cons (.str _) .nil)
 have hk:Dok (.list (ls.map fun y=>PyData.list [.str (S y)])):=dok_list fun d hd'=>by
  refine x_EA (QO.mp hd') fun y hy z149=> ?_;subst z149
  exact⟨(hd (hl y hy)).lay,by simp[PyData.depth,PyData.depthAll]⟩
 have:=p2_ind (C:=C) (n:=n) (h:=h) (.lst (.cons (.str (S x)) .nil)) (.lst hb) (hd hx) hk
 have e:(ls.map fun y=>PyData.list [.str (S y)]).any (fun y=>PyData.eqv y (.list [.str (S x)]))=decide (x∈ls):=by
  rw[←decide_mem_S,List.any_map,List.any_map,List.any_map]
  congr 1;funext y
  simp[PyData.eqv,PyData.eqvAll]
 rwa [e] at this
theorem ke_mcallK {o:Expr} {name:Str} {p' p:Pos} {es:List Expr} (N:KE C n F loc h o fun a h1=>∃f first,PM C n h1 a name f first∧KEs C n F loc h1 es fun vs h2=>KC C n h2 f (first++vs) [] Q)
 (hs:autoParam (noStar es=true) aR) (hb:autoParam (attributeBase o name F.env (eval o F.env)=eval o F.env) aR)
 (hf:autoParam (methodCallForm (es.length+0) (backTo p (starEach es F.env)) (backToKw p (keywordEach [] F.env))=true) aR) (hl:autoParam ((p'.endLine==p.line)=true) aR):KE C n F loc h (.Call (.Attribute o name p') es [] p) Q:=fun hh hi =>
 ev_mcall (ns:=[]) ((N hh hi).mono fun a h1 ⟨f,first,M,A⟩=>M.2 h1 (.refl _) _ ⟨M.1,(A h1 (.refl _)).mono fun vs h2 q=>evk_nil (q h2 (.refl _))⟩) hs rfl hb hf hl
theorem ke_lcI {α:Type} {x:Str} {p1:Pos} {elt i:Expr} {scope:Scope} {pos:Pos} {cl:List (Str × Nat)} {as:List α} {g:α→V} (e:α→V)
 (H:KE C n F loc h i fun src h1=>IsLst h1 src (as.map g)∧∀h2,h1.In h2→Q (.lst (as.map e)) h2) (hz:as.length≤Qc) (E:∀a∈as,∀L cells,Pu C n ⟨compEnv scope F.env L cells,cl⟩ [(x,g a)] Hs.none elt (e a))
 (hclo:autoParam (cloA F.cel scope.names []=some cl) aR) (hx:autoParam (∀L cells,(compEnv scope F.env L cells).kindOf x=some .local) aI) (hc:autoParam (∀k,celFrom k scope.names cl=cl) aI) (hs:autoParam (∀h,hsCells scope.names h=h) aI)
 (hk:autoParam (scope.kind= .function) aR) (hnm:autoParam (namesOk scope.names=true) aR) (hfs:autoParam (∀x,Q8 i F.env x=pure x) aI):KE C n F loc h (.ListComp elt [⟨.Name x p1,i,[],0⟩] scope pos) Q:=fun hb hi =>
 Ev.fz (ev_listcomp compOk_one ((H hb hi).mono fun src h1 ⟨hv,q⟩=>Its.ok fun ok1=>its_list hv fun L cells=>by
  rw[hc,hs]
  refine lp_coreA (fun a=>[(x,g a)]) e ok1 (fun h' i'=>i'.lst hv) hz (fun a _ l h' hl QL kk=>as_local (hx L cells) (by
   have:upd x (g a) l=[(x,g a)]:=by rcases hl with rfl|⟨b,rfl⟩<;>simp[upd]
   rw[this];exact kk)) (fun a ha=>E a ha L cells) fun h' hlt i' hl=>⟨_,_,rfl,hl,q _ ((i'.updd (ok1 _ (Qt _))))⟩) hclo hk hnm hfs)
end
structure ExsP (C:Cx) (n:Nat) (F:Fr) (loc:Loc) (h:Hs) (sts:List Stmt) (words:Str) (Q:Hs→Prop):Prop where
 run:∀(A:Around) (w:Wd) (Q':Flow→Shared→Prop) (E:Value→Shared→Prop) (l:List Env),AOk A n→Rep C w h→Frm C w F loc→A.frames=some l→StackOk C w l→PassesOwn C.M A F.env E→(∀e s',Raised C (fun wr=>∃loc,Frm C wr F loc) Q [F.env.locals] words w l e s'→E (.ref e) s')→wpAny C.M A (execs sts F.env) Q' E w.s
structure CdR (C:Cx) (n:Nat) (h:Hs) (f:Addr) (args:List V) (kw:List (Str × V)) (words:Str) (Q:Hs→Prop):Prop where
 run:∀(A:Around) (w:Wd) (Rr:Result→Shared→Prop) (xs:List Value) (ks:List (Str × Value)) (l:List Env),AOk A n→Rep C w h→Concs C w.g w.ρ args xs →
  ks.map (·.1)=kw.map (·.1)→Concs C w.g w.ρ (kw.map (·.2)) (ks.map (·.2))→A.frames=some l→StackOk C w l→(∀e s',Raised C (fun _=>True) Q [] words w l e s'→Rr (.error (.ref e)) s')→codeAny C.M A (.call (.ref f) ⟨xs,ks⟩) Rr w.s
noncomputable def FoR (C:Cx) (n:Nat) (F:Fr) (ok:Hs→Prop) (t:Expr) (b:List Stmt) (words:Str) (Q:Hs→Prop):List V→Loc→Hs→Prop
 |[],_,_=>False
 |v::vs,loc,h=>ok h∧As C n F loc h t v fun loc1 h1=>(Exs C n F loc1 h1 b fun fl loc2 h2=>fl= .next∧FoR C n F ok t b words Q vs loc2 h2)∨ExsR C n F loc1 h1 b words Q
section
variable {h1:Hs} {w1 w':Wd} {words:Str} {Q:Hs→Prop} {X:List Addr} {l:List Env} {e:Addr} {s':Shared}
theorem CdR.cl {f:Addr} {args:List V} {kw:List (Str × V)} (H:CdR C n h f args kw words Q):ClR C n h (.top f) args kw words Q:=⟨fun A w Q' E fx xs ks l a0 R cf cx hk ck hl sk c=>by
 refine eqE cf.toInv ?_
 exact wpAny_call (H.run A w _ xs ks l a0 R cx hk ck hl sk c)⟩
theorem CdR.ok {f:Addr} {args:List V} {kw:List (Str × V)} (H:h.Ok→CdR C n h f args kw words Q):CdR C n h f args kw words Q:=⟨fun A w Rr xs ks l a0 R=>(H R.dead).run A w Rr xs ks l a0 R⟩
theorem ClR.less {m:Nat} {f:V} {args:List V} {kw:List (Str × V)} (H:ClR C m h f args kw words Q) (q:m≤n):ClR C n h f args kw words Q:=⟨fun A w Q' E fx xs ks l a0=>H.run A w Q' E fx xs ks l (a0.less q)⟩
theorem ExsR.p {sts:List Stmt} (H:ExsR C n F loc h sts words Q):ExsP C n F loc h sts words Q:=⟨fun A w Q' E l a0 R f hl sk _ c=>H.run A w Q' E l a0 R f hl sk c⟩
theorem exsP_cons {st:Stmt} (H:Ex C n F loc h st fun fl l1 h1=>fl= .next∧ExsP C n F l1 h1 rest words Q):ExsP C n F loc h (st::rest) words Q:=⟨fun A w Q' E l a0 R f hl sk ps c =>
 wpAny_execs_cons (H.run A w _ _ a0 R f fun fl' fl l1 h1 w1 ⟨hf,q1⟩ e1 R1 f1 c1=>by
  subst hf
  cases c1
  exact q1.run A w1 _ _ l a0 R1 f1 hl (sk.ext e1 f1) ps fun e s' r=>c _ _ (r.of e1))⟩
theorem exsP_ifT {t:Expr} {b o:List Stmt} {p:Pos} (H:EvB C n F loc h t fun c h1=>c=true∧ExsP C n F loc h1 b words Q):ExsP C n F loc h (.If t b o p::rest) words Q:=⟨fun A w Q' E l a0 R f hl sk ps c =>
 wpAny_execs_cons (wpAny_If (H.run A w _ _ a0 R f fun x h1 w1 ⟨hx,q1⟩ e1 R1=>by
  subst hx
  exact q1.run A w1 _ _ l a0 R1 (f.ext0 e1) hl (sk.ext0 e1) ps fun e s' r=>c _ _ (r.of e1.wide)))⟩
theorem exsR_ifR {t:Expr} {b o:List Stmt} {p:Pos} (H:EvR C n F loc h t words Q) (he:autoParam (∀whole,isTrue t F.env whole=(do let v ←whole;standAt t.pos;holding [v] (truthy v))) aI):ExsR C n F loc h (.If t b o p::rest) words Q:=⟨fun A w Q' E l a0 R f hl sk c =>
 wpAny_execs_cons (wpAny_If (by rw[he];exact Qw (H.run A w _ _ l a0 R f hl sk fun e s' r=>c _ _ (r.wide f))))⟩
theorem exsR_expr {x:Expr} {p:Pos} (H:EvR C n F loc h x words Q) (hi:autoParam (interactive F.env=false) aR) (hs:autoParam (swapsWith x none p.line F.env=pure false) aR):ExsR C n F loc h (.Expr x p::rest) words Q:=⟨fun A w Q' E l a0 R f hl sk c =>
 wpAny_execs_cons (wpAny_Expr_any (H.run A w _ _ l a0 R f hl sk fun e s' r=>c _ _ (r.wide f)) hi hs)⟩
theorem evR_mcall {o:Expr} {name:Str} {p' p:Pos} {es:List Expr} {ks:List Keyword} {ns:List Str} (H:Ev C n F loc h o fun a h1=>Mth C n h1 a name fun f first h2=>Kp C f∧Evs C n F loc h2 es fun vs h3=>Evk C n F loc h3 ks fun kv h4=>ClR C n h4 f (first++vs) (ns.zip kv) words Q)
 (hs:autoParam (noStar es=true) aR) (hn:autoParam (kwNames ks=some ns) aR) (hb:autoParam (attributeBase o name F.env (eval o F.env)=eval o F.env) aR)
 (hf:autoParam (methodCallForm (es.length+ks.length) (backTo p (starEach es F.env)) (backToKw p (keywordEach ks F.env))=true) aR) (hl:autoParam ((p'.endLine==p.line)=true) aR) :
 EvR C n F loc h (.Call (.Attribute o name p') es ks p) words Q:=⟨fun A w Q' E l a0 R f hfr sk c=>by
 rw[arm_eval_Call,hb]
 refine Qw (H.run A w _ _ a0 R f fun x a h1 w1 q1 e1 R1 c1=>Qw (wpAny_standAt ?_))
 have hpos:methodCallPos true o F.env p' p=pure p:=by unfold methodCallPos;simp[hl]
 unfold methodCall
 rw[hf,hpos]
 refine Qw (Qf ?_)
 show wpAny _ _ (getMethod x name _) _ _ _
 refine q1.run A w1 _ _ x _ a0 R1 c1 fun r fs fv first h2 w2 ⟨kp,q2⟩ e2 R2 c2 c3=>Qw (Qr ?_)
 have f2:=(f.ext0 e1).ext0 e2
 refine callWith_any (args_all hs hn q2 a0 R2 f2 fun xs kx vs kv h3 w3 q3 e3 R3 c4 hnm c5=>⟨kp w3 h3 r R3 (c2.ext e3),
  q3.run A w3 _ _ r (fs++xs) kx l a0 R3 (c2.ext e3) ((c3.ext e3).app c4) hnm c5 hfr (sk.ext0 (e1.trans (e2.trans e3))) fun e s' r=>c _ _ (r.of (e1.trans (e2.trans e3)))⟩)⟩
theorem leave_R {P:Wd→Prop} {A:Around} {env:Env} {L:Addr} {K:Shared→Prop} {E:Value→Shared→Prop} (hfr:A.frames=some (env::l)) (hf:env.frame=some L) (hL:w.s.heap.get? L=none) (e1:Ext C [L] w w1) (hX:∀a∈X,a∈[L]) (r:Raised C P Q X words w1 (env::l) e s')
 (c:∀s',Raised C (fun _=>True) Q [] words w l e s'→K s'):wpAny C.M A (PySem.leaving env (.ref e)) (fun _ s''=>K s'') E s':=by
 obtain⟨wr,hr,B,fr,t,tk,_,q,e2,Rr,hB,off,fly,tup,ht,sm,hos,hbr,hfr2⟩:=r
 refine wpAny_leaves_onW hfr hf fly fun h' fly' sm'=>c _ ⟨wr,hr,B,fr,t,tk,trivial,q,(e1.trans (e2.widen hX)).under hL,Rr,hB,off,fly',tup.of_slots sm',ht,sm.trans sm',hos,hbr,fun a ha=> ?_⟩
 rcases hfr2 a ha with z|z
 · unfold framesOf at z
   rw[List.filterMap_cons,hf] at z
   rcases QY.mp z with rfl|z
   ·exact .inr hL
   ·exact .inl z
 ·exact .inr (get_none e1.live z)
theorem stack_in {F:Fr} {L:Addr} (hF:F.env.locals=L) (hfr:F.env.frame=some L) (sk:StackOk C w l) (e1:Ext C [L] w w1) (f1:Frm C w1 F loc):StackOk C w1 (F.env::l):=by
 subst hF
 have sk1:StackOk C w1 l:=sk.ext e1 f1
 refine x_EA f1.there fun oL hoL hdL=> ?_
 intro env he
 rcases QY.mp he with rfl|he
 ·exact⟨by rw[f1.kind];decide,_,oL,hfr,hoL,hdL,f1.off,f1.offρ,f1.offt⟩
 ·exact sk1 env he
theorem cdR_fn {f:Addr} {fd:FuncData} {body:List Stmt} {args:List V} {kw ab:List (Str × V)} {loc:Loc} {h1:Hs} (K:FnOk C f fd body) (hb:Binds C fd args kw ab) (hent:bindAll fd.scope.names (celFrom h.nx fd.scope.names []) ab [] (hsCells fd.scope.names h)=some (loc,h1))
 (H:∀L cells,ExsP C n ⟨envFn f fd L cells,celFrom h.nx fd.scope.names []⟩ loc h1 body words Q):CdR C (n+1) h f args kw words Q:=⟨by
 intro A w Rr xs ks l a0 R cx hk ck hl sk c
 refine x_EA K.at_ fun o ho hd=> ?_
 refine x_EEEEAAAA K.code fun cd oc vs t h1' h2 h3 h4 h5=> ?_
 refine codeAny_call_function a0.room (R.up ho K.off) hd K.co K.gen K.body ⟨cd,oc,vs,t,h1',R.up h2 h5,h3,h4⟩ ?_
 refine x_EAA (hb w h xs ks R cx hk ck) fun bs hbs hn hc=> ?_
 refine hbs _ _ _ _ ?_
 rw[K.globals,K.closure,K.blt]
 refine new_env K.kind R (fun x i e=>by cases e) hent hn hc fun L cells w1 hL e1 R1 f1=>⟨NoLimit_up R1 K.lim K.limt,codeAny_func ?_⟩
 have hfr:(A.deeper (envFn f fd L cells)).frames=some (envFn f fd L cells::l):=Around.frames_deeper hl
 refine(H L cells).run (A.deeper _) w1 _ _ _ a0.deeper R1 f1 hfr (stack_in rfl rfl sk e1 f1) PassesOwn.leaving fun e s' r=> ?_
 exact leave_R hfr rfl hL e1 (fun a ha=>ha) r fun s' r=>c _ _ r⟩
theorem clR_lam {params:Arguments} {body:Expr} {scope:Scope} {qual:Str} {cl:List (Str × Nat)} {args:List V} {kw ab:List (Str × V)} {loc:Loc} {h1:Hs} {mg mb:Str→Option Value} (T:Tp C mg mb) (hk0:scope.kind= .function) (hco:scope.isCoroutine=false) (hgen:scope.isGenerator=false)
 (hb:∀fd:FuncData,fd.params=params→fd.defaults= .none→fd.kwdefaults= .none→Binds C fd args kw ab) (hent:bindAll scope.names (celFrom h.nx scope.names cl) ab [] (hsCells scope.names h)=some (loc,h1))
 (H:∀f L cells code,EvR C n ⟨newEnv scope L Wy cells (qual ++ ".<locals>.") (some f) code none builtinsNs,celFrom h.nx scope.names cl⟩ loc h1 body words Q):ClR C (n+1) h (.lam params body scope qual cl) args kw words Q:=⟨by
 intro A w Q' E fx xs ks l a0 R cf cx hk ck hl sk c
 cases cf with
 | @lam _ _ _ _ _ a cd o oc fd vs t g1 g2 g3 g4 g5 g6 g7 g8 g9 g10 g11 g12 g13 g14 g15 g16 g17 =>
  subst g6;subst g7
  refine wpAny_call (W.kla_callFunE a0.room (R.keep _ _ g1) g3 hco hgen g5 ⟨cd,oc,vs,t,g14,R.keep _ _ g15,g16,g17⟩ ?_)
  refine x_EAA (hb fd g4 g10 g11 w h xs ks R cx hk ck) fun bs hbs hn hc=> ?_
  refine hbs _ _ _ _ ?_
  rw[g8,g9]
  refine new_env hk0 R (cel_lookup g12 g13) hent hn hc fun L cells w1 hL e1 R1 f1=>⟨NoLimit_up R1 T.lim T.limt,W.kla_codeExpr ?_⟩
  have hfr:(A.deeper (newEnv fd.scope L Wy cells (fd.qualname ++ ".<locals>.") (some a) fd.code none builtinsNs)).frames=some (newEnv fd.scope L Wy cells (fd.qualname ++ ".<locals>.") (some a) fd.code none builtinsNs::l):=Around.frames_deeper hl
  refine(H a L cells fd.code).run (A.deeper _) w1 _ _ _ a0.deeper R1 f1 hfr (stack_in rfl rfl sk e1 f1) fun e s' r=> ?_
  exact leave_R (X:=[]) hfr rfl hL e1 (fun a ha=>absurd ha QZ) r fun s' r=>c _ _ r⟩
theorem clR_new {K:W.Frag} {cl fI:Addr} {args:List V} {kw:List (Str × V)} (I:InC C K) (hm:W.makesIn K cl=true) (hi:W.findIn K (.ref cl) "__init__" = some (some (.ref fI))) (hf:W.typeIn K (.ref fI)=some (.type "function"))
 (H:CdR C n (h.new (.inst [])) fI (.obj h.nx cl::args) kw words Q):ClR C (n+1) h (.top cl) args kw words Q:=⟨fun A w Q' E fx xs ks l a0 R cf cx hk ck hl sk c=>by
 refine eqE cf.toInv ?_
 have X:=I.here R
 obtain⟨g,ρ,hh,gn,d,t,os⟩:=w
 have hn:hh.get? hh.objs.size=none:=fresh_none (Qt _)
 have R1:=R.fresh (k:=t) (ao:= .inst []) hn (push_keeps (o:=W.emptyDict)) (Qu _ rfl) ⟨[],0,rfl,Qt _,fun x=>rfl⟩ (R.fresh0 hn)
 have e1:Ext C [] ⟨g,ρ,hh,gn,d,t,os⟩ (Wd.more ⟨g,ρ,hh,gn,d,t,os⟩ hh.objs.size (hh.push W.emptyDict) t):=Ext.fresh hn push_keeps
 have hn1:(hh.push W.emptyDict).get? (hh.push W.emptyDict).objs.size=none:=fresh_none (Qt _)
 have R2:=R1.frozen (k:=t) hn1 (push_keeps (o:=W.instObj cl hh.objs.size)) (Qu _ rfl)
 have e2:Ext C [] (Wd.more ⟨g,ρ,hh,gn,d,t,os⟩ hh.objs.size (hh.push W.emptyDict) t) _:=Ext.frozen (o:=W.instObj cl hh.objs.size) (k:=t) R1 hn1 (push_keeps (o:=W.instObj cl hh.objs.size))
 refine wpAny_call (W.make_core (W.makes_of X hm) (W.looks_findIn X hi) (fun self=>W.bind_fn X self hf) (.inl rfl) ?_)
 have hsz:(hh.push W.emptyDict).objs.size=hh.objs.size+1:=Heap.size_push ..
 refine H.run _ (Wd.frz (Wd.more ⟨g,ρ,hh,gn,d,t,os⟩ hh.objs.size (hh.push W.emptyDict) t) (hh.push W.emptyDict).objs.size (W.instObj cl hh.objs.size) ((hh.push W.emptyDict).push (W.instObj cl hh.objs.size)) t) _ _ _ l a0.tc R2 ?_ hk ((ck.ext e1).ext e2) ?_ (sk.ext0 (e1.trans e2)) fun e s' r=>c _ _ (r.of (e1.trans e2))
 · refine .cons ?_ ((cx.ext e1).ext e2)
   rw[←hsz]
   exact .obj gset_self R.more_at
 ·exact hl⟩
end
theorem for_stepR {prog:Program} {w:World} {A:Around} {s:Shared} {R:Result→Shared→Prop} {E2:Value→Shared→Prop} {target:Expr} {it:Value} {body:List Stmt} {env:Env}
 (hE:∀e s',E2 e s'→notedBy (model prog w) A env (fun e s'=>R (.error e) s') e s')
 (h:wpAny (model prog w) A (pyNext it) (fun r s₁=>match r with
  |none=>R (.ok .next) s₁
  |some v=>wpAny (model prog w) A (letOwnedTupleGo target it v) (fun _ s₁'=>wpAny (model prog w) A (assign target env v) (fun _ s₂=>wpAny (model prog w) A (execs body env) (fun f s₃=>match f with
   | .next | .cont=>codeAny (model prog w) A (.forLoop target it body [] env) R s₃
   | .brk=>R (.ok .next) s₃
   | .ret v=>R (.ok (.ret v)) s₃) E2 s₂) (fun _ _=>False) s₁') (fun _ _=>False) s₁) (fun _ _=>False) s):codeAny (model prog w) A (.forLoop target it body [] env) R s:=by
 refine codeAny_of_tree ?_
 show wpAny _ A ((forTurn target it body [] env).onRaise (fun x=>do noteFrame x env;theTreesLotGoes x)) _ _ s
 refine wpAny_noted ?_
 simp only[forTurn]
 refine Qw (wpAny_standAt (Qw (wpAny_onRaise (Q5 h (fun r s₁ h₁=> ?_) fun _ _ h'=>h'.elim))))
 cases r with
 |none=>exact Qr ⟨rfl,codeAny_block (wpAny_execs_nil h₁)⟩
 |some v =>
  refine Qw (Q5 h₁ (fun _ s₁' h₁=> ?_) fun _ _ h'=>h'.elim)
  refine Qw (Q5 h₁ (fun _ s₂ h₂=>Qw (Q5 h₂ (fun f s₃ h₃=> ?_) fun e s' h'=>hE e s' h')) fun _ _ h'=>h'.elim)
  cases f with
  |next=>exact Qr ⟨rfl,h₃⟩
  |cont=>exact Qr ⟨rfl,h₃⟩
  |brk=>exact Qr h₃
  |ret v=>exact Qr h₃
section
variable {h1:Hs} {w1 w':Wd} {words:Str} {Q:Hs→Prop} {X:List Addr} {l:List Env} {e:Addr} {s':Shared}
theorem StackOk.extX (x:StackOk C w l) (y:Ext C X w w') (hX:∀a∈framesOf l,a∉X):StackOk C w' l:=fun env he=>by
 refine x_AEEAAAAA (x env he) fun k L o h1 h2 h3 h4 h5 h6=> ?_
 refine⟨k,L,o,h1,y.kept _ _ h2 h5 (hX L (List.mem_filterMap.mpr ⟨env,he,h1⟩)) h6,h3, ?_, ?_,h6⟩
 · cases q:w'.g L with
   |none=>rfl
   |some o' =>
    rcases y.new _ _ q with z|z|z
    ·rw[h4] at z;cases z
    ·rw[h2] at z;cases z
    ·exact absurd z h5
 · intro q
   rcases y.newρ _ q with z|z
   ·exact h5 z
   ·rw[h2] at z;cases z
theorem for_codeR {src:V} {x0 it:Value} {wr:List Addr} {J:Nat→Heap→Prop} {ok:Hs→Prop} {tg:Expr→Prop} {items:List V} {t:Expr} {b:List Stmt} (T:Itr C n it wr J ok tg src x0 items) (ht:tg t) :
 ∀(vs:List V) (k:Nat) (A:Around) (w0 w:Wd) (loc:Loc) (h:Hs) (Rr:Result→Shared→Prop) (E2:Value→Shared→Prop),items.drop k=vs→FoR C n F ok t b words Q vs loc h→AOk A n→Rep C w h→Frm C w F loc→Conc C w.g w.ρ src x0→J k w.s.heap→(∀b∈wr,w0.s.heap.get? b=none) →
 (∀b∈wr,w.g b=none∧b∉w.ρ∧b∉C.tabs)→F.env.locals∉wr→Ext C [F.env.locals] w0 w→A.frames=some l→StackOk C w l→(∀a∈framesOf l,a∉wr) →
 (∀e s',Raised C (fun wr=>∃loc,Frm C wr F loc) Q [F.env.locals] words w0 l e s'→E2 (.ref e) s')→(∀e s',E2 e s'→notedBy C.M A F.env (fun e s'=>Rr (.error e) s') e s') →
 codeAny C.M A (.forLoop t it b [] F.env) Rr w.s:=by
 intro vs
 induction vs with
 |nil=>intro k A w0 w loc h Rr E2 hd hW;exact hW.elim
 |cons v vs ih =>
  intro k A w0 w loc h Rr E2 hd hW a0 R f c0 hJ hf ha hL e0 hl sk hlw q hE
  have hk:items[k]? =some v:=by rw[←List.head?_drop,hd];rfl
  refine for_stepR hE (Q5 (T.next A w h k v t (fun x s₁'=>wpAny C.M A (assign t F.env x) (fun _ s₂=>wpAny C.M A (execs b F.env) (fun f s₃=>match f with
   | .next | .cont=>codeAny C.M A (.forLoop t it b [] F.env) Rr s₃
   | .brk=>Rr (.ok .next) s₃
   | .ret v=>Rr (.ok (.ret v)) s₃) E2 s₂) (fun _ _=>False) s₁') (fun _ _=>False) a0 R c0 hW.1 hJ ha hk ht fun x w1 e1 hρ R1 hJ1 cx=> ?_) (fun r s₁ h₁=> ?_) fun _ _ z=>z)
  · have f1:Frm C w1 F loc:=f.ext e1 hL
    refine hW.2.run A w1 _ _ x a0 R1 f1 cx fun loc2 h2 w2 q2 e2 R2 f2=> ?_
    have e02:Ext C [F.env.locals] w0 w2:=(e0.baseX hf e1).trans e2
    have sk2:StackOk C w2 l:=(sk.extX e1 hlw).ext e2 f2
    rcases q2 with q2|q2
    · refine q2.run A w2 _ _ a0 R2 f2 fun fw fl loc3 h3 w3 ⟨hfl,q3⟩ e3 R3 f3 c3=> ?_
      subst hfl
      cases c3
      have e23:=e2.trans e3
      have l1:=T.live _ _ hJ1
      have ha1:=apart_ext ha (T.live _ _ hJ) e1
      have ha3:=apart_ext ha1 l1 e23
      have hJ3:J (k+1) w3.s.heap:=T.keep _ _ _ hJ1 fun b hb=>by
       refine x_E (l1 b hb) fun o ho=> ?_
       rw[ho];exact e23.kept b o ho (ha1 b hb).2.1 (by simp;rintro rfl;exact hL hb) (ha1 b hb).2.2
      exact ih (k+1) A w0 w3 loc3 h3 Rr E2 (by rw[←List.drop_drop,hd];rfl) q3 a0 R3 f3 ((c0.ext e1).ext e23) hJ3 hf ha3 hL (e02.trans e3) hl (sk2.ext e3 f3) hlw q hE
    ·exact q2.run A w2 _ _ l a0 R2 f2 hl sk2 fun e s' r=>q _ _ (r.of e02)
  · cases r with
    |none=>exact h₁.elim
    |some x=>exact h₁
theorem exsP_for {t it:Expr} {b:List Stmt} {p:Pos} {tg:Expr→Prop} (H:Ev C n F loc h it fun src h1=>Its C n h1 tg src fun h2 ok items=>FoR C n F ok t b words Q items loc h2) (ht:tg t) (hs:autoParam (∀x,Q8 it F.env x=pure x) aI):ExsP C n F loc h (.For t it b [] p::rest) words Q:=⟨fun A w Q' E l a0 R f hl sk ps c=>by
 refine wpAny_execs_cons (wpAny_For (H.run A w _ _ a0 R f fun x src h1 w1 q1 e1 R1 c1=>q1.run A w1 _ _ x a0 R1 c1 fun itv wr J w2 h2 ok items src' x' q2 e2 R2 hf ha hJ c2 T=> ?_) hs)
 have f2:=(f.ext0 e1).ext0 e2
 have hL:F.env.locals∉wr:=fun z=>by
  refine x_E ((f.ext0 e1).live) fun o ho=> ?_
  have:=hf _ z;rw[ho] at this;cases this
 have hlw:∀a∈framesOf l,a∉wr:=fun a ha z=>by
  refine x_EA (List.mem_filterMap.mp ha) fun env he hfr=> ?_
  obtain⟨_,L,o,z1,z2,_⟩:=(sk.ext0 e1) env he
  rw[hfr] at z1;cases z1
  have:=hf _ z;rw[z2] at this;cases this
 exact for_codeR T ht items 0 A w1 w2 loc h2 _ E rfl q2 a0 R2 f2 c2 hJ hf ha hL e2.wide hl ((sk.ext0 e1).ext0 e2) hlw (fun e s' r=>c _ _ (r.of e1.wide)) ps⟩
theorem exsT_try {mg mb:Str→Option Value} {QF:Fl→Loc→Hs→Prop} (T:Tp C mg mb) {body:List Stmt} {xT:Str} {k:Nat} {np pc p4 pos p6:Pos} (H:ExsR C (n+1) F loc h body words Q) (q:∀loc' h',Q h'→QF (.ret (.bool true)) loc' h')
 (hT:mg xT=none∧mb xT=some (.type "TypeError")) (kT:F.env.kindOf xT=some .globalImplicit) (dT:autoParam ((xT==("__debug__" : Str))=false) aD) :
 ExsT C (n+1) F loc h (.Try body [.ExceptHandler (some (.Name xT np)) none [.Return (some (.Constant (.bool true) k pc)) p4] pos] [] [] p6::rest) QF:=⟨fun A w Q' E a0 R f hfr hfl c=>by
 have sk:StackOk C w [F.env]:=fun env he=>by
  rw[Qs.mp he]
  refine x_EA f.there fun oL hoL hdL=> ?_
  exact⟨by rw[f.kind];decide,F.env.locals,oL,hfl,hoL,hdL,f.off,f.offρ,f.offt⟩
 refine wpAny_execs_cons (wpAny_Try_except (H.run A w _ _ _ a0 R f hfr sk fun e s' r=> ?_))
 obtain⟨wr,hr,B,fr,t,tk,⟨loc',f'⟩,q',e1,Rr,hB,off,fly,tup,ht,sm,hos,hbr,hfr2⟩:=r
 refine wpAny_looks_onW hfr hfl fly fun h4 held4 sm4=> ?_
 refine wpAny_landsW held4 fun h5 fly5 sm5=> ?_
 have ns5:∀a m,wr.s.heap.Ns a m→h5.Ns a m:=fun a m hn=>((sm.trans sm4).trans sm5).ns hn
 refine x_EA fly5.there fun ob hob hobc=> ?_
 refine wpAny_handleBy_builtin (X := "TypeError") (T := "TypeError") (b:=true) PySem.F.isExc_TypeError PySem.F.notTuple_TypeError (by rw[isSubtype_type];kernel_rfl) ?_
 refine Calls.Name_function_global f.kind kT (Calls.loadGlobal_builtin (by rw[f.globals];exact ns5 _ _ (Rr.ns T.g T.gt)) hT.1 (by rw[f.blt];exact ns5 _ _ (Rr.ns T.b T.bt)) hT.2 ⟨rfl,⟨ob,hob,hobc⟩, ?_⟩) dT
 show wpAny _ _ (setFlight (.ref e) none) _ _ _
 refine lands_againW fly5 fun h6 fly6 sm6=> ?_
 refine x_EA f'.ns fun m hm hmv=> ?_
 have hm6:h6.Ns F.env.locals m:=sm6.ns (ns5 _ _ hm)
 have keep:∀b o,b∉fr→wr.s.heap.get? b=some o→h6.get? b=some o:=fun b o hb ho=>fly6.1 b o (hB b o ho hb)
 refine wpAny_execs_cons (wpAny_Return_some (wpAny_Constant_bool ?_))
 refine c _ _ loc' hr ⟨wr.g,wr.ρ,{s' with heap:=h6 }⟩ (q loc' hr q') ?_ (Rr.frames keep off hos hbr) ⟨⟨m,hm6,hmv⟩,f'.off,f'.offρ,f'.offt,f'.cells,f'.kind,f'.globals,f'.blt⟩ (.ret (.bool true))
 have hfs:framesOf [F.env]=[F.env.locals]:=by unfold framesOf;rw[List.filterMap_cons,hfl];rfl
 refine⟨e1.sub,e1.new,e1.pre,e1.newρ,fun b o ho h1 h2 h3=> ?_,fun b o ho=> ?_⟩
 · have h5:=e1.kept b o ho h1 h2 h3
   refine keep b o (fun hb=> ?_) h5
   rcases hfr2 b hb with z|z
   ·rw[hfs] at z;exact h2 z
   ·rw[ho] at z;cases z
 · refine x_E (e1.live b o ho) fun o1 h5=> ?_
   by_cases hb:b∈fr
   · rcases hfr2 b hb with z|z
     · rw[hfs,Qs] at z
       refine x_EEEA hm6 fun o8 _ _ z1 _=> ?_
       exact⟨o8,z▸z1⟩
     ·rw[ho] at z;cases z
   ·exact⟨o1,keep b o1 hb h5⟩⟩
theorem foR_inv {ok:Hs→Prop} {t:Expr} {b:List Stmt} {vs:List V} {v0:V} (I:Nat→Loc→Hs→Prop) (hok:∀k loc h,I k loc h→ok h)
 (H:∀k v loc h,vs[k]? =some v→I k loc h→As C n F loc h t v fun loc1 h1=>Exs C n F loc1 h1 b fun fl loc2 h2=>fl= .next∧I (k+1) loc2 h2)
 (HR:∀loc h,I vs.length loc h→As C n F loc h t v0 fun loc1 h1=>ExsR C n F loc1 h1 b words Q) (h0:I 0 loc h):FoR C n F ok t b words Q (vs++[v0]) loc h:=by
 have main:∀(us:List V) (k:Nat) (loc:Loc) (h:Hs),vs.drop k=us→k≤vs.length→I k loc h→FoR C n F ok t b words Q (us++[v0]) loc h:=by
  intro us
  induction us with
  |nil =>
   intro k loc h hd hk hI
   have:k=vs.length:=Nat.le_antisymm hk (List.drop_eq_nil_iff.mp hd)
   subst this
   exact⟨hok _ _ _ hI,(HR _ _ hI).mono fun _ _ q=> .inr q⟩
  |cons u us ih =>
   intro k loc h hd hk hI
   have hv:vs[k]? =some u:=by rw[←List.head?_drop,hd];rfl
   exact⟨hok _ _ _ hI,(H k u loc h hv hI).mono fun _ _ q=> .inl (q.mono fun fl l2 h2 ⟨z,q2⟩=>⟨z,ih (k+1) l2 h2 (by rw[←List.drop_drop,hd];rfl) (Qp.mp hv).1 q2⟩)⟩
 exact main vs 0 loc h rfl (Qz _) h0
theorem upd_twice {x:Str} {u v:V}:∀{l:Loc},upd x v (upd x u l)=upd x v l
 |[]=>if_pos rfl
 |(y,z)::r=>by
  have e1:upd x u ((y,z)::r)=if y=x then(x,u)::r else(y,z)::upd x u r:=rfl
  rw[e1]
  by_cases hy:y=x
  · rw[if_pos hy]
    show(if x=x then(x,v)::r else(x,u)::upd x v r)=if y=x then(x,v)::r else(y,z)::upd x v r
    rw[if_pos rfl,if_pos hy]
  · rw[if_neg hy]
    show(if y=x then(x,v)::upd x u r else(y,z)::upd x v (upd x u r))=if y=x then(x,v)::r else(y,z)::upd x v r
    rw[if_neg hy,if_neg hy,upd_twice]
theorem junk_loopR {jV:V} {Kn:Hs→Prop} {f:Key→Bool} {kOk:Key→Prop} {xS xD xE xJ:Str} {p1 p2 p3 p4 p5 p6 p7 p8 p9 pa pb pc pd pe:Pos} {s d:Nat} {l:List Key} {k0:Key} {g:Key→V} (S:SysIn C) (J:Flt C n jV Kn f kOk) (hkn:Kn h)
 (kS:F.env.kindOf xS=some .local) (kD:F.env.kindOf xD=some .local) (kE:F.env.kindOf xE=some .local) (kJ:F.env.kindOf xJ=some .local) (lS:loc.lookup xS=some (.ref s)) (lD:loc.lookup xD=some (.ref d)) (lJ:loc.lookup xJ=some jV) (lE:loc.lookup xE=none)
 (hs:h.σ s= .set []) (hd:h.σ d= .dict ((l++[k0]).map fun k=>(k,g k))) (hn:(l++[k0]).Nodup) (hk:∀k∈l,kOk k) (hz:(l++[k0]).length≤4000) (HR:∀h',Kn h'→ClR C n h' jV [k0.v] [] words Q)
 (hfS:autoParam (∀(x:Value),Q8 (.Call (.Attribute (.Name xD p2) (Qq "keys") p3) [] [] p4) F.env x=pure x) aI)
 (dS:autoParam ((xS==("__debug__" : Str))=false) aD) (dD:autoParam ((xD==("__debug__" : Str))=false) aD) (dE:autoParam ((xE==("__debug__" : Str))=false) aD) (dJ:autoParam ((xJ==("__debug__" : Str))=false) aD)
 (he:autoParam (starEach [.Name xE p7] F.env=[(false,eval (.Name xE p7) F.env)]) aR)
 (h1l:autoParam ((p3.endLine==p4.line)=true) aR) (h2l:autoParam ((pb.endLine==pd.line)=true) aR) (hin:autoParam (interactive F.env=false) aR) :
 ExsP C n F loc h (.For (.Name xE p1) (.Call (.Attribute (.Name xD p2) (Qq "keys") p3) [] [] p4) [.If (.Call (.Name xJ p6) [.Name xE p7] [] p8) [.Expr (.Call (.Attribute (.Name xS pa) (Qq "add") pb) [.Name xE pc] [] pd) pe] [] p9] [] p5::rest) words Q:=by
 have hsd:s≠d:=fun z=>by rw[z,hd] at hs;cases hs
 have neJ:xJ≠xE:=fun z=>by rw[z,lE] at lJ;cases lJ
 have neS:xS≠xE:=fun z=>by rw[z,lE] at lS;cases lS
 refine exsP_for (tg:=fun _=>True) (ev_mcall (ev_local kD lD (mth_dct (show IsDct h (.ref d) _ from Or.inl hd) PySem.F.slot_dict_keys (by show builtinType _=_;rw[builtinType_eq_fast];kernel_rfl) ⟨kp_blt,evs_nil (evk_nil (cl_keys (S:=S) (show IsDct h (.ref d) _ from Or.inl hd) (its_keys hd fun ep=> ?_)))⟩) dD) (hl:=h1l)) trivial hfS
 generalize hE:AO.dictE ep ((l++[k0]).map fun k=>(k,g k))=E
 have hkn':∀t m,Kn (((h.upd d E).upd s (.set ((l.take t).filter f))).at m):=fun t m=>J.st _ _ hkn fun j u e=>(if_neg fun z:j=s=>by rw[z,hs] at e;cases e).trans ((if_neg fun z:j=d=>by rw[z,hd] at e;cases e).trans e)
 have hit:((l++[k0]).map fun k=>(k,g k)).map (·.1.v)=l.map Key.v++[k0.v]:=by rw[Q7,Wt];rfl
 rw[hit]
 refine foR_inv (fun t loc' h3=>(∀v,upd xE v loc'=upd xE v loc)∧∃m,h3=((h.upd d E).upd s (.set ((l.take t).filter f))).at m) ?_ ?_ ?_ ?_
 · rintro t loc' h3 ⟨_,m,rfl⟩
   exact hE▸(if_neg (Ne.symm hsd)).trans (if_pos rfl)
 · rintro t v loc' h3 hv ⟨hloc,m,rfl⟩
   rw[Qb] at hv
   refine x_EA (QW.mp hv) fun k hkt z150=> ?_;subst z150
   have htk:=take_snoc hkt
   have hnt:(l.take t++[k]).Nodup:=htk▸(List.take_sublist (t+1) l).nodup ((List.sublist_append_left l [k0]).nodup hn)
   have hkn:k∉(l.take t).filter f:=fun z=>(List.nodup_append.mp hnt).2.2 k (Wp.mp z).1 k (Qs.mpr rfl) rfl
   have hjl:((l.take t).filter f).length≤4000:=Qe (QX ..) (Qe (List.length_take_le ..) (Qe (Qx (Qp.mp hkt).1) (Qe (by rw[Qn];exact QP _ _) hz)))
   refine as_local kE ?_
   rw[hloc]
   refine exs_cons (ex_if (evB_value (ev_call (ev_local kJ (by rw[lookup_upd,if_neg neJ];exact lJ) ⟨J.kp,evs_cons (ev_local kE (by rw[lookup_upd,if_pos rfl]) (evs_nil (evk_nil (J.call _ k _ (hkn' t m) (hk k (Qa hkt)) fun m2 hm2=>tru_bool ?_))) dE) he⟩ dJ))))
   have hS:((((h.upd d E).upd s (.set ((l.take t).filter f))).at m).at m2).σ s= .set ((l.take t).filter f):=if_pos rfl
   cases hb:f k with
   |true =>
    refine exs_cons (ex_expr (ev_mcall (ev_local kS (by rw[lookup_upd,if_neg neS];exact lS) (mth_set_add (show IsSet _ (.ref s) _ from Or.inl hS) ⟨kp_blt,evs_cons (ev_local kE (by rw[lookup_upd,if_pos rfl]) (evs_nil (evk_nil (cl_set_add hS ?_ ?_))) dE) ?_⟩) dS) (hl:=h2l)) hin)
    ·exact Qj (QC hjl) (by decide)
    · refine exs_nil (exs_nil ⟨rfl,fun v=>upd_twice,m2, ?_⟩)
      rw[htk,List.filter_append,List.filter_cons_of_pos hb,List.filter_nil]
      exact(Hs.upd_at_upd (m:=m2)).trans (by unfold sadd;rw[if_neg hkn])
    ·rfl
   |false =>
    refine exs_nil (exs_nil ⟨rfl,fun v=>upd_twice,m2, ?_⟩)
    rw[htk,List.filter_append,List.filter_cons_of_neg (by rw[hb];exact Bool.false_ne_true),List.filter_nil,Q4];rfl
 · rintro loc' h3 ⟨hloc,m,rfl⟩
   refine as_local kE ?_
   rw[hloc]
   exact exsR_ifR (evR_call (ns:=[]) (ev_local kJ (by rw[lookup_upd,if_neg neJ];exact lJ) ⟨J.kp,evs_cons (ev_local kE (by rw[lookup_upd,if_pos rfl]) (evs_nil (evk_nil (HR _ (hkn' _ m)))) dE) he⟩ dJ) (by rfl) (by rfl))
 · refine⟨fun v=>rfl,h.nx, ?_⟩
   show Hs.mk _ _=Hs.mk _ _
   congr 1
   funext j
   show(if j=d then E else h.σ j)=if j=s then _ else if j=d then E else h.σ j
   by_cases z:j=s
   ·rw[if_pos z,z,if_neg hsd,hs];rfl
   ·rw[if_neg z]
theorem execs_app (env:Env) (ys:List Stmt):∀xs:List Stmt,execs (xs++ys) env=(do match ←execs xs env with | .next=>execs ys env|f=>pure f)
 |[]=>by
  show execs ys env=(pure Flow.next >>= _)
  rw[pure_bind]
 |st::r=>by
  show(do match ←exec st env with | .next=>execs (r++ys) env|f=>pure f)=((do match ←exec st env with | .next=>execs r env|f=>pure f) >>= _)
  rw[bind_assoc]
  congr 1
  funext f
  cases f with
  |next=>exact execs_app env ys r
  |_=>rw[pure_bind]
theorem exsT_app {QF:Fl→Loc→Hs→Prop} {xs ys:List Stmt} (H:Exs C n F loc h xs fun fl l1 h1=>fl= .next∧ExsT C n F l1 h1 ys QF):ExsT C n F loc h (xs++ys) QF:=⟨fun A w Q' E a0 R f hfr hfl c=>by
 rw[execs_app]
 refine Qw (H.run A w _ _ a0 R f fun fw fl l1 h1 w1 ⟨hf,q1⟩ e1 R1 f1 c1=> ?_)
 subst hf
 cases c1
 exact q1.run A w1 _ _ a0 R1 f1 hfr hfl fun fl' fl l2 h2 w2 q2 e2 R2 f2 c2=>c fl' fl l2 h2 w2 q2 (e1.trans e2) R2 f2 c2⟩
end
noncomputable def KF (P:Params):W.Frag:=[(1,k1 P),(2,k2 P),(3,k3 P),(4,k4 P),(36,k36 P),(42,k42 P),(43,k43 P),(59,k59 P),(60,k60 P),(81,k81 P),(82,k82 P),(88,k88 P),(89,k89 P),(91,k91 P),(123,k123 P),(124,k124 P),(126,k126 P),(127,k127 P),(129,k129 P),(130,k130 P),(134,k134 P),(135,k135 P),(136,k136 P),(153,k153 P),(159,k159 P),(160,k160 P),(166,k166 P),(167,k167 P),(173,k173 P),(174,k174 P),(180,k180 P),(181,k181 P),(187,k187 P),(188,k188 P),(189,k189 P),(195,k195 P),(196,k196 P),(202,k202 P),(203,k203 P),(224,k224 P),(241,k241 P),(242,k242 P),(247,k247 P),(253,k253 P),(254,k254 P),(258,k258 P),(259,k259 P),(263,k263 P),(264,k264 P),(268,k268 P),(269,k269 P)]
noncomputable def gl0:List (Str × Value):=[(Qq "_wall",(.ref 21)),(Qq "_tuplegetter",(.ref 60)),(Qq "Match",(.ref 135)),(Qq "_calculate_ratio",(.ref 145)),(Qq "SequenceMatcher",(.ref 242)),(Qq "IS_CHARACTER_JUNK",(.ref 254)),(Qq "_law_blocks",(.ref 259)),(Qq "_law_standing",(.ref 264)),(Qq "law",(.ref 269))]
noncomputable def bl0:List (Str × Value):=[(Qq "len", .builtin "len"),(Qq "min", .builtin "min"),(Qq "max", .builtin "max"),(Qq "sum", .builtin "sum"),(Qq "abs", .builtin "abs"),(Qq "isinstance", .builtin "isinstance"),(Qq "range", .type "range"),(Qq "list", .type "list"),(Qq "set", .type "set"),(Qq "tuple", .type "tuple"),(Qq "enumerate", .type "enumerate"),(Qq "map", .type "map"),(Qq "float", .type "float"),(Qq "int", .type "int"),(Qq "str", .type "str"),(Qq "dict", .type "dict"),(Qq "TypeError", .type "TypeError"),(Qq "issubclass", .builtin "issubclass"),(Qq "type", .type "type")]
structure Top (C:Cx) (mg mb:Str→Option Value):Prop where
 T:Tp C mg mb
 S:SysIn C
 I:InC C (KF C.w.params)
 B:BmOk C mg
 gl:∀x v,gl0.lookup x=some v→mg x=some v
 bl:∀x v,bl0.lookup x=some v→mg x=none∧mb x=some v
section
variable {mg mb:Str→Option Value}
theorem Top.blt (X:Top C mg mb) {x:Str} {p:Pos} {v:V} {id:String} (hb:bl0.lookup x=some (.builtin id)) (hk:F.env.kindOf x=some .globalImplicit) (hd:autoParam ((x==("__debug__" : Str))=false) aD) (hv:autoParam (v= .blt id) aR):Pu C n F loc h (.Name x p) v:=hv▸pu_builtin X.T (X.bl _ _ hb).1 (X.bl _ _ hb).2 rfl hk hd
theorem Top.ty (X:Top C mg mb) {x:Str} {p:Pos} {v:V} {id:String} (hb:bl0.lookup x=some (.type id)) (hk:F.env.kindOf x=some .globalImplicit) (hd:autoParam ((x==("__debug__" : Str))=false) aD) (hv:autoParam (v= .ty id) aR):Pu C n F loc h (.Name x p) v:=hv▸pu_builtin X.T (X.bl _ _ hb).1 (X.bl _ _ hb).2 rfl hk hd
theorem Top.top (X:Top C mg mb) {x:Str} {p:Pos} {v:V} {a:Addr} (hb:gl0.lookup x=some (.ref a)) (hk:F.env.kindOf x=some .globalImplicit) (hd:autoParam ((x==("__debug__" : Str))=false) aD) (hv:autoParam (v= .top a) aR):Pu C n F loc h (.Name x p) v:=hv▸pu_global X.T (X.gl _ _ hb) rfl hk hd
end
section
variable {mg mb:Str→Option Value}
theorem ok_chain (I:InC C (KF C.w.params)) (T:Tp C mg mb):FnOk C 188 (fnOf (k188 C.w.params)) (bodyOf (fnOf (k188 C.w.params))) :=
 fnOk_of (c:=187) (oc:=k187 C.w.params) I T (by rfl) (by rfl)
structure Nm (mg mb:Str→Option Value):Prop where
 g:∀x∈[Qq "enumerate",Qq "set",Qq "len",Qq "list",Qq "range"],mg x=none
 enumerate:mb (Qq "enumerate")=some (.type "enumerate")
 set:mb (Qq "set")=some (.type "set")
 len:mb (Qq "len")=some (.builtin "len")
 list:mb (Qq "list")=some (.type "list")
 range:mb (Qq "range")=some (.type "range")
theorem len_upd {fs:List (Str × V)} {x:Str} {v:V} {m:Nat} (h:fs.length<m):(upd x v fs).length<m+1:=by
 cases z:fs.lookup x with
 |none=>rw[upd_new z];omega
 |some u=>rw[upd_same z];omega
structure I1 (h1:Hs) (d:Nat) (ks:List Key) (t:Nat) (q:Key→Nat) (h':Hs):Prop where
 same:Same (fun j=>j=d) h1 h'
 lo:∀k∈firsts (ks.take t),h1.nx≤q k
 hi:∀k∈firsts (ks.take t),q k<h'.nx
 inj:∀k∈firsts (ks.take t),∀k'∈firsts (ks.take t),q k=q k'→k=k'
 dict:h'.σ d= .dict ((firsts (ks.take t)).map fun k=>(k, .ref (q k)))
 list:∀k∈firsts (ks.take t),h'.σ (q k)= .list (intsV (places (ks.take t) k))
theorem len_at {ks:List Key} {t:Nat} {k:Key} (hk:ks[t]? =some k):(ks.take t).length=t:=by
 rw[List.length_take];exact Nat.min_eq_left (Qx (Qp.mp hk).1)
theorem I1.old {h1 h':Hs} {d t:Nat} {ks:List Key} {k:Key} {q:Key→Nat} (i1:I1 h1 d ks t q h') (hk:ks[t]? =some k) (hkm:k∈firsts (ks.take t)) (hd1:d<h1.nx):I1 h1 d ks (t+1) q ((h'.new (.list [])).upd (q k) (.list (intsV (places (ks.take t) k)++[.int (t:Int)]))):=by
 have hkt:=take_snoc hk
 have hf:firsts (ks.take (t+1))=firsts (ks.take t):=by rw[hkt,firsts_snoc];unfold sadd;rw[if_pos hkm]
 have hlo:=i1.lo k hkm
 refine⟨i1.same.new.upd (.inr hlo),hf▸i1.lo,fun x hx=>Nat.lt_succ_of_lt (i1.hi x (hf▸hx)),hf▸i1.inj, ?_,fun x hx=> ?_⟩
 · rw[hf]
   exact(if_neg (Qg (Qy hd1 hlo))).trans ((if_neg (Qg (Qy hd1 i1.same.nx))).trans i1.dict)
 · rw[hf] at hx
   rw[hkt,places_snoc]
   by_cases hxk:x=k
   · rw[hxk,if_pos rfl,len_at hk]
     unfold intsV
     rw[Wt]
     exact if_pos rfl
   · rw[if_neg (Ne.symm hxk),Q4]
     exact(if_neg fun z=>hxk (i1.inj x hx k hkm z)).trans ((if_neg (Qg (i1.hi x hx))).trans (i1.list x hx))
theorem I1.add {h1 h':Hs} {d t:Nat} {ks:List Key} {k:Key} {q:Key→Nat} (i1:I1 h1 d ks t q h') (hk:ks[t]? =some k) (hkm:k∉firsts (ks.take t)) (hd1:d<h1.nx) :
 I1 h1 d ks (t+1) (fun x=>if x=k then h'.nx else q x) (((h'.new (.list [])).upd d (.dict ((firsts (ks.take t)).map (fun k=>(k,V.ref (q k)))++[(k, .ref h'.nx)]))).upd h'.nx (.list ([]++[.int (t:Int)]))):=by
 have hkt:=take_snoc hk
 have hnx:=i1.same.nx
 have hf:∀{x},x≠k→x∈firsts (ks.take (t+1))→x∈firsts (ks.take t):=fun hxk hx=>by
  rw[hkt,firsts_snoc] at hx
  exact(mem_sadd.mp hx).resolve_right hxk
 have hdn:d≠h'.nx:=Qg (Qy hd1 hnx)
 refine⟨(i1.same.new.upd (.inl rfl)).upd (.inr hnx),fun x hx=> ?_,fun x hx=> ?_,fun x hx y hy e=> ?_, ?_,fun x hx=> ?_⟩
 · by_cases hxk:x=k
   ·rw[if_pos hxk];exact hnx
   ·rw[if_neg hxk];exact i1.lo x (hf hxk hx)
 · by_cases hxk:x=k
   ·rw[if_pos hxk];exact Qk _
   ·rw[if_neg hxk];exact Nat.lt_succ_of_lt (i1.hi x (hf hxk hx))
 · by_cases hxk:x=k<;>by_cases hyk:y=k
   ·rw[hxk,hyk]
   · rw[if_pos hxk,if_neg hyk] at e
     exact absurd e (QE (i1.hi y (hf hyk hy)))
   · rw[if_neg hxk,if_pos hyk] at e
     exact absurd e (Qg (i1.hi x (hf hxk hx)))
   · rw[if_neg hxk,if_neg hyk] at e
     exact i1.inj x (hf hxk hx) y (hf hyk hy) e
 · refine(if_neg hdn).trans ((if_pos rfl).trans ?_)
   rw[hkt,firsts_snoc]
   unfold sadd
   rw[if_neg hkm,Wt,Q3,if_pos rfl,List.map_nil]
   exact congrArg (fun l=>AO.dict (l++_)) (List.map_congr_left fun x hx=>by rw[if_neg (c:=x=k) fun z=>hkm (z▸hx)])
 · by_cases hxk:x=k
   · have hp0:places (ks.take t) k=[]:=List.filter_eq_nil_iff.mpr fun j hj z=>hkm (mem_firsts.mpr (Qa (of_decide_eq_true z)))
     rw[if_pos hxk,hxk,hkt,places_snoc,if_pos rfl,len_at hk,hp0]
     exact if_pos rfl
   · have hx:=hf hxk hx
     have h1':=i1.hi x hx
     rw[if_neg hxk,hkt,places_snoc,if_neg (Ne.symm hxk),Q4]
     exact(if_neg (Qg h1')).trans ((if_neg (QE (Qy hd1 (i1.lo x hx)))).trans ((if_neg (Qg h1')).trans (i1.list x hx)))
end
section
variable {mg mb:Str→Option Value}
theorem chain_tail (S:SysIn C) (I:InC C (KF C.w.params)) (T:Tp C mg mb) (N:Nm mg mb) {L:Addr} {cells:List (Str × Addr)} {cel:List (Str × Nat)} {i d s:Nat} {fs:List (Str × V)} {bV jV:V} {bs:List Key} {D:List (Key × V)}
 (hi:h.σ i= .inst fs) (hfs:fs.length<30) (hd:h.σ d= .dict D) (hbl:IsSq h bV bs) (hbz:bs.length<200) (haj:fs.lookup (Qq "autojunk")=some (.bool true))
 (q:∀h',Same (fun j=>j=i) h h'→h'.σ i= .inst (upd (Qq "bpopular") (.ref h.nx) fs)→h'.σ h.nx= .set []→h'.σ d= .dict D→Q .none h') :
 Exs C n ⟨envFn 188 (fnOf (k188 C.w.params)) L cells,cel⟩ [(Qq "self", .obj i 242),(Qq "b",bV),(Qq "b2j", .ref d),(Qq "junk", .ref s),(Qq "isjunk",jV)] h ((bodyOf (fnOf (k188 C.w.params))).drop 6) (RetQ Q):=by
 refine Exs.ok fun hok=> ?_
 have hin:i<h.nx:=hok.lt (by rw[hi];simp)
 have hdn:d<h.nx:=hok.lt (by rw[hd];simp)
 have hid:i≠d:=fun z=>by rw[z,hd] at hi;cases hi
 refine exs_cons (ex_assign2 (ev_call (ev_builtin T (by rfl) (N.g _ (by simp)) N.set (v:= .ty "set") rfl ⟨kp_ty,evs_nil (evk_nil (cl_set0 ?_))⟩)))
 refine as_attr (ev_local (by rfl) (by rfl) (set_field I (fs:=fs) ?_ (by rfl) (by rfl) (by rfl) (by rfl) (as_local (by rfl) ?_) (by exact Qe (by assumption) (by decide))))
 ·exact(if_neg (Qg hin)).trans hi
 refine exs_cons (ex_assign (ev_call (ev_builtin T (by rfl) (N.g _ (by simp)) N.len (v:= .blt "len") rfl ⟨kp_blt,evs_cons (ev_local (by rfl) (by rfl) (evs_nil (evk_nil (len_sq (ks:=bs) ?_ (sizeOk (Qe (Qx hbz) (by decide))) ?_))))⟩)))
 ·exact hbl
 refine as_local (by rfl) ?_
 have hi2:((h.new (.set [])).upd i (.inst (upd (Qq "bpopular") (.ref h.nx) fs))).σ i= .inst (upd (Qq "bpopular") (.ref h.nx) fs):=if_pos rfl
 have hs2:((h.new (.set [])).upd i (.inst (upd (Qq "bpopular") (.ref h.nx) fs))).σ h.nx= .set []:=(if_neg (QE hin)).trans (if_pos rfl)
 have hd2:((h.new (.set [])).upd i (.inst (upd (Qq "bpopular") (.ref h.nx) fs))).σ d= .dict D:=(if_neg (Ne.symm hid)).trans ((if_neg (Qg hdn)).trans hd)
 have sm2:Same (fun j=>j=i) h ((h.new (.set [])).upd i (.inst (upd (Qq "bpopular") (.ref h.nx) fs))):=((Same.refl _ h).new).upd (.inl rfl)
 have ha2:(upd (Qq "bpopular") (.ref h.nx) fs).lookup (Qq "autojunk")=some (.bool true):=by
  rw[lookup_upd,if_neg (by decide)];exact haj
 generalize hh2:(h.new (.set [])).upd i (.inst (upd (Qq "bpopular") (.ref h.nx) fs))=h2 at hi2 hs2 hd2 sm2 ⊢
 refine exs_cons (ex_if (evB_and (evB_value (ev_attr (ev_local (by rfl) (by rfl) (get_field (attr:=none) I hi2 ha2 (by simp) (by rfl) (by rfl) (by rfl) (by rfl) (tru_bool ?_)))))))
 refine evB_and (evB_cmp (ev_local (by rfl) (by rfl) (ev_int (ge_int (tru_bool ?_)))))
 cases h200:decide ((200:Int)≤(bs.length:Int)) with
 |false =>
  exact exs_nil (exs_nil (q h2 sm2 hi2 hs2 hd2))
 |true =>
  exact absurd (of_decide_eq_true h200) (by omega)
end
section
variable {mg mb:Str→Option Value}
theorem chain (S:SysIn C) (I:InC C (KF C.w.params)) (T:Tp C mg mb) (N:Nm mg mb) {i:Nat} {fs:List (Str × V)} {ks:List Key} {bV jV:V} (hi:h.σ i= .inst fs) (hfs:fs.length<20) (hb:fs.lookup (Qq "b")=some bV) (hbl:IsSq h bV ks) (hkl:ks.length<200) (hbn:∀id,bV≠ .blt id) (hj:fs.lookup (Qq "isjunk")=some jV) (haj:fs.lookup (Qq "autojunk")=some (.bool true)) {f:Key→Bool} {kOk:Key→Prop} {Kn:Hs→Prop} (J:Flt C (n+2) jV Kn f kOk) (hkn:Kn h) (hkk:∀k∈ks,kOk k)
 (qq:∀(h':Hs) (s p:Nat),h.nx<s→s<p→Same (fun j=>j=i) h h'→h'.σ i= .inst (upd (Qq "bpopular") (.ref p) (upd (Qq "bjunk") (.ref s) (upd (Qq "b2j") (.ref h.nx) fs))) →
  h'.σ s= .set ((firsts ks).filter f)→h'.σ p= .set []→h'.σ h.nx= .dict (b2jOf f ks)→Q .none h'):Cd C (n+3) h 188 [.obj i 242] [] Q:=by
 refine Cd.ok fun hok=> ?_
 have hin:i<h.nx:=hok.lt (by rw[hi];simp)
 refine cd_fn (ok_chain I T) binds1 (loc:=[(Qq "self", .obj i 242)]) (h1:=h) (bind_local (by rfl) (by rfl)) fun L cells=> ?_
 refine exs_cons (ex_assign (ev_attr (ev_local (by rfl) (by rfl) (get_field (attr:=none) I hi hb hbn (by rfl) (by rfl) (by rfl) (by rfl) (as_local (by rfl) ?_)))))
 refine exs_cons (ex_assign2 (ev_dict0 (as_attr (ev_local (by rfl) (by rfl) (set_field I (fs:=fs) ?_ (by rfl) (by rfl) (by rfl) (by rfl) (as_local (by rfl) ?_) (by exact Qe (by assumption) (by decide)))))))
 ·exact(if_neg (Qg hin)).trans hi
 -- the first loop
 have hd:(((h.new (.dict [])).upd i (.inst (upd (Qq "b2j") (.ref h.nx) fs))).σ h.nx)= .dict []:=(if_neg (QE hin)).trans (if_pos rfl)
 have hi1:((h.new (.dict [])).upd i (.inst (upd (Qq "b2j") (.ref h.nx) fs))).σ i= .inst (upd (Qq "b2j") (.ref h.nx) fs):=if_pos rfl
 have hn1:((h.new (.dict [])).upd i (.inst (upd (Qq "b2j") (.ref h.nx) fs))).nx=h.nx+1:=rfl
 have hs1:Same (fun j=>j=i∨j=h.nx) h ((h.new (.dict [])).upd i (.inst (upd (Qq "b2j") (.ref h.nx) fs))):=((Same.refl _ h).new).upd (.inl (.inl rfl))
 have hok1:∀j,((h.new (.dict [])).upd i (.inst (upd (Qq "b2j") (.ref h.nx) fs))).nx≤j→((h.new (.dict [])).upd i (.inst (upd (Qq "b2j") (.ref h.nx) fs))).σ j= .dead:=fun j hj =>
  (if_neg (QE (Qy hin (We hj)))).trans ((if_neg (QE (Nat.lt_of_succ_le hj))).trans (hok j (We hj)))
 have sm1:∀j,j<h.nx→j≠i→((h.new (.dict [])).upd i (.inst (upd (Qq "b2j") (.ref h.nx) fs))).σ j=h.σ j:=fun j hj z=>(if_neg z).trans (if_neg (Qg hj))
 generalize(h.new (.dict [])).upd i (.inst (upd (Qq "b2j") (.ref h.nx) fs))=h1 at hd hi1 hn1 hs1 hok1 sm1 ⊢
 refine exs_cons (ex_forI (tg:=fun t=>∃elts k p,t=Expr.Tuple elts k p) (ite_enumQ (v:=bV) (ks:=ks) T rfl (by rfl) (N.g _ (by simp)) N.enumerate (fun t ht=>ht) hbl (fun Q q=>ev_local (by rfl) (by rfl) q) fun okk hokk=> ?_) ⟨_,_,_,rfl⟩)
 refine fow_inv2 (fun t loc h'=>loc=[(Qq "self", .obj i 242),(Qq "b",bV),(Qq "b2j", .ref h.nx)]∧∃q,I1 h1 h.nx ks t q h') ?_ ?_ ?_ ?_
 · rintro t loc h' ⟨_,q,i1⟩
   exact hokk _ hbl
 · rintro t v loc h' hv ⟨rfl,q,i1⟩
   refine x_EA (enumV_get 0 _ t v hv) fun u hu z151=> ?_;subst z151
   rw[Qb] at hu
   refine x_EA (QW.mp hu) fun k hk z152=> ?_;subst z152
   refine as_tuple rfl (as_local (by rfl) (as_local (by rfl) ?_))
   refine exs_cons (ex_assign (ev_mcall (ev_local (by rfl) (by rfl) (mth_dct (show IsDct h' (.ref h.nx) _ from Or.inl i1.dict) PySem.F.slot_dict_setdefault (by first|exact PySem.F.type_dict_setdefault|(show builtinType _=_;rw[builtinType_eq_fast];kernel_rfl)) ⟨kp_blt,evs_cons (ev_local (by rfl) (by rfl) (evs_cons (ev_list (evs_nil ⟨Qz _,evs_nil (evk_nil ?_)⟩))))⟩))))
   have hnx:=i1.same.nx
   have hdm:h'.nx≠h.nx:=QE (Qy (hn1▸Qk _) hnx)
   have hkt:=take_snoc hk
   refine cl_setdefault (S:=S) (kvs:=(firsts (ks.take t)).map fun k=>(k, .ref (q k))) ?_ ?_ ?_ ?_
   ·exact(if_neg (Ne.symm hdm)).trans i1.dict
   · rw[Qo]
     exact Qe (m:=200) (Qe (length_firsts _) (Qx (Qj (List.length_take_le' ..) hkl))) (by rw[sizeLine_eq];decide)
   · intro u hu
     rw[kget_map] at hu
     by_cases hkm:k∈firsts (ks.take t)
     · rw[if_pos hkm] at hu
       obtain rfl:=Option.some.inj hu
       have hq:(h'.new (.list [])).σ (q k)= .list (intsV (places (ks.take t) k)):=(if_neg (Qg (i1.hi k hkm))).trans (i1.list k hkm)
       refine as_local (by rfl) (exs_cons (ex_expr (ev_mcall (ev_local (by rfl) (by rfl) (mth_append (v:= .ref (q k)) (xs:=intsV (places (ks.take t) k)) hq ⟨kp_blt,evs_cons (ev_local (by rfl) (by rfl) (evs_nil (evk_nil (cl_append (xs:=intsV (places (ks.take t) k)) hq ?_ ?_))))⟩)))))
       · rw[intsV,Qo]
         exact Qe (m:=200) (Qe (length_places _ _) (Qx (Qj (List.length_take_le' ..) hkl))) (by rw[sizeLine_eq];decide)
       · rw[Nat.zero_add]
         exact exs_nil ⟨_,_,LocSub.app _ [(Qq "i",_),(Qq "elt",_),(Qq "indices",_)], .refl _,rfl,q,i1.old hk hkm (hn1▸Qk _)⟩
     ·rw[if_neg hkm] at hu;cases hu
   · intro hu
     rw[kget_map] at hu
     by_cases hkm:k∈firsts (ks.take t)
     ·rw[if_pos hkm] at hu;cases hu
     refine as_local (by rfl) (exs_cons (ex_expr (ev_mcall (ev_local (by rfl) (by rfl) (mth_append (xs:=[]) ?_ ⟨kp_blt,evs_cons (ev_local (by rfl) (by rfl) (evs_nil (evk_nil (cl_append (xs:=[]) ?_ ?_ ?_))))⟩)))))
     ·exact(if_neg hdm).trans (if_pos rfl)
     ·exact(if_neg hdm).trans (if_pos rfl)
     ·exact Qz _
     · rw[Nat.zero_add]
       exact exs_nil ⟨_,_,LocSub.app _ [(Qq "i",_),(Qq "elt",_),(Qq "indices",_)], .refl _,rfl,(fun x=>if x=k then h'.nx else q x),i1.add hk hkm (hn1▸Qk _)⟩
 · rintro loc h' ⟨rfl,q,i1⟩
   have hl0:(enumV 0 (ks.map Key.v)).length=ks.length:=by rw[enumV_length,Qo]
   rw[hl0] at i1
   obtain⟨isame,ilo,ihi,iinj,idict,ilist⟩:=i1
   rw[List.take_length] at ilo ihi iinj idict ilist
   refine Exs.ghost0 (h₀:=(h1.upd h.nx (.dict ((firsts ks).map fun k=>(k, .lst (intsV (places ks k)))))).at h'.nx) (Gh.dict (xs:=fun k=>intsV (places ks k)) idict ilist rfl (if_pos rfl) (fun k hk=> ?_) fun j hj hjk=> ?_) ?_
   · have:=ilo k hk
     exact(if_neg (QE (Qy (hn1▸Qk _) this))).trans (hok1 _ this)
   · show AO.le _ (if j=h.nx then _ else h1.σ j)
     rw[if_neg hj]
     rcases Nat.lt_or_ge j h1.nx with z|z
     ·rw[isame.σ j z hj];exact AO.le_refl _
     ·rw[hok1 j z];exact AO.le_any _
   have hm:=isame.nx
   generalize h'.nx=m at hm
   clear isame ilo ihi iinj idict ilist hok1
   rw[hn1] at hm
   have him:i<m:=Qy hin (We hm)
   refine exs_cons (ex_assign2 (ev_call (ev_builtin T (by rfl) (N.g _ (by simp)) N.set (v:= .ty "set") rfl ⟨kp_ty,evs_nil (evk_nil (cl_set0 ?_))⟩)))
   refine as_attr (ev_local (by rfl) (by rfl) (set_field I (fs:=upd (Qq "b2j") (.ref h.nx) fs) ?_ (by rfl) (by rfl) (by rfl) (by rfl) (as_local (by rfl) ?_) (by have:=len_upd (x:=Qq "b2j") (v:= .ref h.nx) hfs;omega)))
   ·exact(if_neg (Qg him)).trans ((if_neg (Qg hin)).trans hi1)
   have hj1:(upd (Qq "bjunk") (.ref m) (upd (Qq "b2j") (.ref h.nx) fs)).lookup (Qq "isjunk")=some jV:=by
    rw[lookup_upd,if_neg (by decide),lookup_upd,if_neg (by decide)];exact hj
   have ha1:(upd (Qq "bjunk") (.ref m) (upd (Qq "b2j") (.ref h.nx) fs)).lookup (Qq "autojunk")=some (.bool true):=by
    rw[lookup_upd,if_neg (by decide),lookup_upd,if_neg (by decide)];exact haj
   have hfs2:=len_upd (x:=Qq "bjunk") (v:= .ref m) (len_upd (x:=Qq "b2j") (v:= .ref h.nx) hfs)
   refine exs_cons (ex_assign (ev_attr (ev_local (by rfl) (by rfl) (get_field (attr:=none) I (fs:=upd (Qq "bjunk") (.ref m) (upd (Qq "b2j") (.ref h.nx) fs)) (if_pos rfl) hj1 J.nb (by rfl) (by rfl) (by rfl) (by rfl) (as_local (by rfl) ?_)))))
   have hs2:((((h1.upd h.nx (.dict ((firsts ks).map fun k=>(k, .lst (intsV (places ks k)))))).at m).new (.set [])).upd i (.inst (upd (Qq "bjunk") (.ref m) (upd (Qq "b2j") (.ref h.nx) fs)))).σ m= .set []:=(if_neg (QE him)).trans (if_pos rfl)
   have hd2:((((h1.upd h.nx (.dict ((firsts ks).map fun k=>(k, .lst (intsV (places ks k)))))).at m).new (.set [])).upd i (.inst (upd (Qq "bjunk") (.ref m) (upd (Qq "b2j") (.ref h.nx) fs)))).σ h.nx= .dict ((firsts ks).map fun k=>(k, .lst (intsV (places ks k)))):=(if_neg (QE hin)).trans ((if_neg (Qg (Nat.lt_of_succ_le hm))).trans (if_pos rfl))
   have sm2:Same (fun j=>j=i) h ((((h1.upd h.nx (.dict ((firsts ks).map fun k=>(k, .lst (intsV (places ks k)))))).at m).new (.set [])).upd i (.inst (upd (Qq "bjunk") (.ref m) (upd (Qq "b2j") (.ref h.nx) fs)))) :=
    ⟨QT (We hm),fun j hj hji=>(if_neg hji).trans ((if_neg (Qg (Qy hj (We hm)))).trans ((if_neg (Qg hj)).trans (sm1 j hj hji)))⟩
   have hi2:((((h1.upd h.nx (.dict ((firsts ks).map fun k=>(k, .lst (intsV (places ks k)))))).at m).new (.set [])).upd i (.inst (upd (Qq "bjunk") (.ref m) (upd (Qq "b2j") (.ref h.nx) fs)))).σ i= .inst (upd (Qq "bjunk") (.ref m) (upd (Qq "b2j") (.ref h.nx) fs)):=if_pos rfl
   have hx2:((((h1.upd h.nx (.dict ((firsts ks).map fun k=>(k, .lst (intsV (places ks k)))))).at m).new (.set [])).upd i (.inst (upd (Qq "bjunk") (.ref m) (upd (Qq "b2j") (.ref h.nx) fs)))).nx=m+1:=rfl
   show Exs C (n+2) _ [(Qq "self", .obj i 242),(Qq "b",bV),(Qq "b2j", .ref h.nx),(Qq "junk", .ref m),(Qq "isjunk",jV)] ((((h1.upd h.nx (.dict ((firsts ks).map fun k=>(k, .lst (intsV (places ks k)))))).at m).new (.set [])).upd i (.inst (upd (Qq "bjunk") (.ref m) (upd (Qq "b2j") (.ref h.nx) fs)))) _ _
   generalize(((h1.upd h.nx (.dict ((firsts ks).map fun k=>(k, .lst (intsV (places ks k)))))).at m).new (.set [])).upd i (.inst (upd (Qq "bjunk") (.ref m) (upd (Qq "b2j") (.ref h.nx) fs)))=H2 at hi2 hs2 hd2 sm2 hx2 ⊢
   have hk4:(firsts ks).length≤4000:=Qe (length_firsts ks) (Qe (Qx hkl) (by decide))
   have hnm:=Nat.lt_of_succ_le hm
   refine exs_cons (ex_if (evB_value (ev_local (by rfl) (by rfl) (J.tru _ _ ?_))))
   rw[if_pos rfl]
   refine exs_cons (junk_loop (l:=firsts ks) (g:=fun k=> .lst (intsV (places ks k))) (s:=m) (d:=h.nx) S J (J.st _ _ hkn fun j u e=>(sm2.σ j (hok.lt (by rw[e];simp)) fun z=>by rw[z,hi] at e;cases e).trans e) (by rfl) (by rfl) (by rfl) (by rfl) (by rfl) (by rfl) (by rfl) (by rfl) hs2 hd2 (nodup_firsts ks) (fun k hk=>hkk k (mem_firsts.mp hk)) hk4 (q:=fun m2 hm2=> ?_))
   rw[hx2] at hm2
   refine exs_cons (del_loop (s:=m) (d:=h.nx) (js:=(firsts ks).filter f) (l:=firsts ks) (f:=fun k=> .lst (intsV (places ks k))) (by rfl) (by rfl) (by rfl) (by rfl) (by rfl) (by rfl) (if_pos rfl) ((if_neg (Qg hnm)).trans hd2) (fun k hk=>(Wp.mp hk).1) (List.Pairwise.filter _ (nodup_firsts ks)) (Qe hk4 (by rw[sizeLine_eq];decide)) (q:= ?_))
   have hi4:(((H2.upd m (.set ((firsts ks).filter f))).at m2).upd h.nx (.dict (b2jOf f ks))).σ i= .inst (upd (Qq "bjunk") (.ref m) (upd (Qq "b2j") (.ref h.nx) fs)):=(if_neg (Qg hin)).trans ((if_neg (Qg him)).trans hi2)
   have hs4:(((H2.upd m (.set ((firsts ks).filter f))).at m2).upd h.nx (.dict (b2jOf f ks))).σ m= .set ((firsts ks).filter f):=(if_neg (QE hnm)).trans (if_pos rfl)
   have hd4:(((H2.upd m (.set ((firsts ks).filter f))).at m2).upd h.nx (.dict (b2jOf f ks))).σ h.nx= .dict (b2jOf f ks):=if_pos rfl
   have sm4:Same (fun j=>j=i) h (((H2.upd m (.set ((firsts ks).filter f))).at m2).upd h.nx (.dict (b2jOf f ks))):=((sm2.upd (.inr (Qx hnm))).at (by show H2.nx≤m2;rw[hx2];exact hm2)).upd (.inr (Qt _))
   show Exs C (n+2) _ [(Qq "self", .obj i 242),(Qq "b",bV),(Qq "b2j", .ref h.nx),(Qq "junk", .ref m),(Qq "isjunk",jV)] (((H2.upd m (.set ((firsts ks).filter f))).at m2).upd h.nx (.dict (b2jOf f ks))) _ _
   have hx4:m<(((H2.upd m (.set ((firsts ks).filter f))).at m2).upd h.nx (.dict (b2jOf f ks))).nx:=hm2
   generalize((H2.upd m (.set ((firsts ks).filter f))).at m2).upd h.nx (.dict (b2jOf f ks))=H4 at hi4 hs4 hd4 sm4 hx4 ⊢
   exact exs_nil (chain_tail (d:=h.nx) (bs:=ks) S I T N hi4 (Nat.lt_trans hfs2 (by decide)) hd4 hbl hkl ha1 fun H5 sm5 hi5 hp5 hd5 =>
    qq H5 m H4.nx hnm hx4 (sm4.trans sm5) hi5 ((sm5.σ m hx4 (QE him)).trans hs4) hp5 hd5)
 ·exact⟨rfl,fun _=>0,⟨.refl _ _,fun k hk=>absurd hk (by rw[List.take_zero];exact QZ),fun k hk=>absurd hk (by rw[List.take_zero];exact QZ),fun k hk=>absurd hk (by rw[List.take_zero];exact QZ),hd,fun k hk=>absurd hk (by rw[List.take_zero];exact QZ)⟩⟩
end
section
variable {mg mb:Str→Option Value}
theorem ok_seq1 (I:InC C (KF C.w.params)) (T:Tp C mg mb):FnOk C 174 (fnOf (k174 C.w.params)) (bodyOf (fnOf (k174 C.w.params))) :=
 fnOk_of (c:=173) (oc:=k173 C.w.params) I T (by rfl) (by rfl)
theorem seq1 (I:InC C (KF C.w.params)) (T:Tp C mg mb) {i:Nat} {fs:List (Str × V)} {aV oV:V} (hi:h.σ i= .inst fs) (hfs:fs.length<20) (ho:fs.lookup (Qq "a")=some oV) (hon:∀id,oV≠ .blt id)
 (his:∀Q:V→Hs→Prop,Q (.bool false) h→Op2 C n (QQ .Is) h aV oV Q)
 (q:Q .none (h.upd i (.inst (upd (Qq "opcodes") .none (upd (Qq "matching_blocks") .none (upd (Qq "a") aV fs)))))):Cd C (n+1) h 174 [.obj i 242,aV] [] Q:=by
 refine cd_fn (ok_seq1 I T) binds2 (loc:=[(Qq "self", .obj i 242),(Qq "a",aV)]) (h1:=h) (bind_local (by rfl) (bind_local (by rfl) (by rfl))) fun L cells=> ?_
 refine exs_cons (ex_expr (ev_str ?_))
 refine exs_cons (ex_if (evB_cmp (ev_local (by rfl) (by rfl) (ev_attr (ev_local (by rfl) (by rfl) (get_field (attr:=none) I hi ho hon (by rfl) (by rfl) (by rfl) (by rfl) (his _ (tru_bool ?_))))))))
 refine exs_nil ?_
 have l1:(upd (Qq "a") aV fs).length<21:=by
  cases z:fs.lookup (Qq "a") with
  |none=>rw[upd_new z];omega
  |some u=>rw[upd_same z];omega
 have l2:(upd (Qq "matching_blocks") .none (upd (Qq "a") aV fs)).length<22:=by
  cases z:(upd (Qq "a") aV fs).lookup (Qq "matching_blocks") with
  |none=>rw[upd_new z];omega
  |some u=>rw[upd_same z];omega
 refine exs_cons (ex_assign (ev_local (by rfl) (by rfl) (as_attr (ev_local (by rfl) (by rfl) (set_field I hi (by rfl) (by rfl) (by rfl) (by rfl) ?_ (by exact Qe (by assumption) (by decide)))))))
 refine exs_cons (ex_assign2 (ev_none (as_attr (ev_local (by rfl) (by rfl) (set_field I (fs:=upd (Qq "a") aV fs) (if_pos rfl) (by rfl) (by rfl) (by rfl) (by rfl) (as_attr (ev_local (by rfl) (by rfl) (set_field I (fs:=upd (Qq "matching_blocks") .none (upd (Qq "a") aV fs)) (if_pos rfl) (by rfl) (by rfl) (by rfl) (by rfl) ?_ (by exact Qe (by assumption) (by decide))))) (by exact Qe (by assumption) (by decide)))))))
 refine exs_nil ?_
 have e:∀(a b c:AO),((h.upd i a).upd i b).upd i c=h.upd i c:=fun a b c=>by
  simp only[Hs.upd,Hs.mk.injEq,and_true];funext j;by_cases hj:j=i<;>simp[hj]
 rw[e];exact q
end
section
variable {mg mb:Str→Option Value}
theorem ok_seq2 (I:InC C (KF C.w.params)) (T:Tp C mg mb):FnOk C 181 (fnOf (k181 C.w.params)) (bodyOf (fnOf (k181 C.w.params))) :=
 fnOk_of (c:=180) (oc:=k180 C.w.params) I T (by rfl) (by rfl)
theorem upd_upd (h:Hs) (i:Nat) (a b:AO):(h.upd i a).upd i b=h.upd i b:=by
 simp only[Hs.upd,Hs.mk.injEq,and_true];funext j;by_cases hj:j=i<;>simp[hj]
theorem seq2 (I:InC C (KF C.w.params)) (T:Tp C mg mb) {i:Nat} {fs:List (Str × V)} {bV oV:V} (hi:h.σ i= .inst fs) (hfs:fs.length<15) (ho:fs.lookup (Qq "b")=some oV) (hon:∀id,oV≠ .blt id) (hnc:fs.lookup (Qq "_SequenceMatcher__chain_b")=none)
 (his:∀Q:V→Hs→Prop,Q (.bool false) h→Op2 C n (QQ .Is) h bV oV Q)
 (H:Cl C n (h.upd i (.inst (upd (Qq "fullbcount") .none (upd (Qq "opcodes") .none (upd (Qq "matching_blocks") .none (upd (Qq "b") bV fs)))))) (.top 188) [.obj i 242] [] fun _ h'=>Q .none h'):Cd C (n+1) h 181 [.obj i 242,bV] [] Q:=by
 refine cd_fn (ok_seq2 I T) binds2 (loc:=[(Qq "self", .obj i 242),(Qq "b",bV)]) (h1:=h) (bind_local (by rfl) (bind_local (by rfl) (by rfl))) fun L cells=> ?_
 refine exs_cons (ex_expr (ev_str ?_))
 refine exs_cons (ex_if (evB_cmp (ev_local (by rfl) (by rfl) (ev_attr (ev_local (by rfl) (by rfl) (get_field (attr:=none) I hi ho hon (by rfl) (by rfl) (by rfl) (by rfl) (his _ (tru_bool ?_))))))))
 refine exs_nil ?_
 have l1:=len_upd (x:=Qq "b") (v:=bV) hfs
 have l2:=len_upd (x:=Qq "matching_blocks") (v:= .none) l1
 have l3:=len_upd (x:=Qq "opcodes") (v:= .none) l2
 refine exs_cons (ex_assign (ev_local (by rfl) (by rfl) (as_attr (ev_local (by rfl) (by rfl) (set_field I hi (by rfl) (by rfl) (by rfl) (by rfl) ?_ (by exact Qe (by assumption) (by decide)))))))
 refine exs_cons (ex_assign2 (ev_none (as_attr (ev_local (by rfl) (by rfl) (set_field I (fs:=upd (Qq "b") bV fs) (if_pos rfl) (by rfl) (by rfl) (by rfl) (by rfl) (as_attr (ev_local (by rfl) (by rfl) (set_field I (fs:=upd (Qq "matching_blocks") .none (upd (Qq "b") bV fs)) (if_pos rfl) (by rfl) (by rfl) (by rfl) (by rfl) ?_ (by exact Qe (by assumption) (by decide))))) (by exact Qe (by assumption) (by decide)))))))
 refine exs_cons (ex_assign (ev_none (as_attr (ev_local (by rfl) (by rfl) (set_field I (fs:=upd (Qq "opcodes") .none (upd (Qq "matching_blocks") .none (upd (Qq "b") bV fs))) (if_pos rfl) (by rfl) (by rfl) (by rfl) (by rfl) ?_ (by exact Qe (by assumption) (by decide)))))))
 rw[upd_upd,upd_upd,upd_upd]
 refine exs_cons (ex_expr (ev_mcall (ev_local (by rfl) (by rfl) (mth_own (f:=188) I (fs:=upd (Qq "fullbcount") .none (upd (Qq "opcodes") .none (upd (Qq "matching_blocks") .none (upd (Qq "b") bV fs)))) (if_pos rfl) ?_ (by rfl) (by rfl) (by rfl) ⟨kp_fn (ok_chain I T),evs_nil (evk_nil ?_)⟩))))
 ·rw[lookup_upd,if_neg (by decide),lookup_upd,if_neg (by decide),lookup_upd,if_neg (by decide),lookup_upd,if_neg (by decide)];exact hnc
 ·exact Cl.mono H fun v h' q=>exs_nil q
end
section
variable {mg mb:Str→Option Value}
theorem ok_seqs (I:InC C (KF C.w.params)) (T:Tp C mg mb):FnOk C 167 (fnOf (k167 C.w.params)) (bodyOf (fnOf (k167 C.w.params))) :=
 fnOk_of (c:=166) (oc:=k166 C.w.params) I T (by rfl) (by rfl)
theorem seqs (I:InC C (KF C.w.params)) (T:Tp C mg mb) {i:Nat} {fs:List (Str × V)} {aV bV:V} (hi:h.σ i= .inst fs) (hn1:fs.lookup (Qq "set_seq1")=none)
 (H:Cl C n h (.top 174) [.obj i 242,aV] [] fun _ h'=>(∃fs',h'.σ i= .inst fs'∧fs'.lookup (Qq "set_seq2")=none)∧Cl C n h' (.top 181) [.obj i 242,bV] [] fun _ h''=>Q .none h''):Cd C (n+1) h 167 [.obj i 242,aV,bV] [] Q:=by
 refine cd_fn (ok_seqs I T) binds3 (loc:=[(Qq "self", .obj i 242),(Qq "a",aV),(Qq "b",bV)]) (h1:=h) (bind_local (by rfl) (bind_local (by rfl) (bind_local (by rfl) (by rfl)))) fun L cells=> ?_
 refine exs_cons (ex_expr (ev_str ?_))
 refine exs_cons (ex_expr (ev_mcall (ev_local (by rfl) (by rfl) (mth_own (f:=174) I hi hn1 (by rfl) (by rfl) (by rfl) ⟨kp_fn (ok_seq1 I T),evs_cons (ev_local (by rfl) (by rfl) (evs_nil (evk_nil ?_)))⟩))))
 refine Cl.mono H fun v h' q=> ?_
 refine x_A q fun z153 q=> ?_;obtain⟨fs',hi',hn'⟩:=z153
 refine exs_cons (ex_expr (ev_mcall (ev_local (by rfl) (by rfl) (mth_own (f:=181) I hi' hn' (by rfl) (by rfl) (by rfl) ⟨kp_fn (ok_seq2 I T),evs_cons (ev_local (by rfl) (by rfl) (evs_nil (evk_nil ?_)))⟩))))
 exact Cl.mono q fun v h'' q=>exs_nil q
end
section
variable {mg mb:Str→Option Value}
theorem ok_init (I:InC C (KF C.w.params)) (T:Tp C mg mb):FnOk C 160 (fnOf (k160 C.w.params)) (bodyOf (fnOf (k160 C.w.params))) :=
 fnOk_of (c:=159) (oc:=k159 C.w.params) I T (by rfl) (by rfl)
theorem binds_init (I:InC C (KF C.w.params)) {a b d e:V}:Binds C (fnOf (k160 C.w.params)) [a,b,d,e] [] [(Qq "self",a),(Qq "isjunk",b),(Qq "a",d),(Qq "b",e),(Qq "autojunk", .bool true)]:=fun w h xs ks R cx hk ck=>by
 refine cx.e fun x1 r1 c1 cx=> ?_
 refine cx.e fun x2 r2 c2 cx=> ?_
 refine cx.e fun x3 r3 c3 cx=> ?_
 refine cx.e fun x4 r4 c4 cx=> ?_
 refine cx.e0 ?_
 refine kw0E hk ?_
 refine x_A (I 153 (k153 C.w.params) (by rfl)) fun h1 h2=> ?_
 exact⟨_, .of_defaults (T:=153) rfl (R.up h1 h2) rfl rfl rfl,rfl, .cons c1 (.cons c2 (.cons c3 (.cons c4 (.cons (.bool true) .nil))))⟩
theorem initB (I:InC C (KF C.w.params)) (T:Tp C mg mb) {i:Nat} {jV aV bV:V} {args:List V} (hi:h.σ i= .inst []) (hbd:Binds C (fnOf (k160 C.w.params)) (.obj i 242::args) [] [(Qq "self", .obj i 242),(Qq "isjunk",jV),(Qq "a",aV),(Qq "b",bV),(Qq "autojunk", .bool true)])
 (H:Cl C n (h.upd i (.inst [(Qq "isjunk",jV),(Qq "a", .none),(Qq "b", .none),(Qq "autojunk", .bool true)])) (.top 167) [.obj i 242,aV,bV] [] fun _ h'=>Q .none h'):Cd C (n+1) h 160 (.obj i 242::args) [] Q:=by
 refine cd_fn (ok_init I T) hbd (loc:=[(Qq "self", .obj i 242),(Qq "isjunk",jV),(Qq "a",aV),(Qq "b",bV),(Qq "autojunk", .bool true)]) (h1:=h) (bind_local (by rfl) (bind_local (by rfl) (bind_local (by rfl) (bind_local (by rfl) (bind_local (by rfl) (by rfl)))))) fun L cells=> ?_
 refine exs_cons (ex_expr (ev_str ?_))
 refine exs_cons (ex_assign (ev_local (by rfl) (by rfl) (as_attr (ev_local (by rfl) (by rfl) (set_field I hi (by rfl) (by rfl) (by rfl) (by rfl) ?_)))))
 refine exs_cons (ex_assign2 (ev_none (as_attr (ev_local (by rfl) (by rfl) (set_field I (fs:=[(Qq "isjunk",jV)]) (if_pos rfl) (by rfl) (by rfl) (by rfl) (by rfl) (as_attr (ev_local (by rfl) (by rfl) (set_field I (fs:=[(Qq "isjunk",jV),(Qq "a", .none)]) (if_pos rfl) (by rfl) (by rfl) (by rfl) (by rfl) ?_ (by simp)))) (by simp))))))
 refine exs_cons (ex_assign (ev_local (by rfl) (by rfl) (as_attr (ev_local (by rfl) (by rfl) (set_field I (fs:=[(Qq "isjunk",jV),(Qq "a", .none),(Qq "b", .none)]) (if_pos rfl) (by rfl) (by rfl) (by rfl) (by rfl) ?_ (by simp))))))
 rw[upd_upd,upd_upd,upd_upd]
 refine exs_cons (ex_expr (ev_mcall (ev_local (by rfl) (by rfl) (mth_own (f:=167) I (fs:=[(Qq "isjunk",jV),(Qq "a", .none),(Qq "b", .none),(Qq "autojunk", .bool true)]) (if_pos rfl) (by rfl) (by rfl) (by rfl) (by rfl) ⟨kp_fn (ok_seqs I T),evs_cons (ev_local (by rfl) (by rfl) (evs_cons (ev_local (by rfl) (by rfl) (evs_nil (evk_nil ?_)))))⟩))))
 exact Cl.mono H fun v h' q=>exs_nil q
theorem init (I:InC C (KF C.w.params)) (T:Tp C mg mb) {i:Nat} {jV aV bV:V} (hi:h.σ i= .inst [])
 (H:Cl C n (h.upd i (.inst [(Qq "isjunk",jV),(Qq "a", .none),(Qq "b", .none),(Qq "autojunk", .bool true)])) (.top 167) [.obj i 242,aV,bV] [] fun _ h'=>Q .none h'):Cd C (n+1) h 160 [.obj i 242,jV,aV,bV] [] Q:=initB I T hi (binds_init I) H
end
section
variable {mg mb:Str→Option Value}
theorem Cl.okQ {f:V} {args:List V} {kw:List (Str × V)} (H:Cl C n h f args kw fun v h'=>h'.Ok→Q v h'):Cl C n h f args kw Q:=⟨fun A w Q' E fx xs ks a0 R c1 c2 hk c3 c=>H.run A w Q' E fx xs ks a0 R c1 c2 hk c3 fun r v h' w' q e' R'=>c r v h' w' (q R'.dead) e' R'⟩
theorem Top.nm (X:Top C mg mb):Nm mg mb where
 g:=fun x hx=>by
  simp only[QY,QZ,or_false] at hx
  rcases hx with rfl|rfl|rfl|rfl|rfl
  ·exact(X.bl _ (.type "enumerate") (by rfl)).1
  ·exact(X.bl _ (.type "set") (by rfl)).1
  ·exact(X.bl _ (.builtin "len") (by rfl)).1
  ·exact(X.bl _ (.type "list") (by rfl)).1
  ·exact(X.bl _ (.type "range") (by rfl)).1
 enumerate:=(X.bl _ (.type "enumerate") (by rfl)).2
 set:=(X.bl _ (.type "set") (by rfl)).2
 len:=(X.bl _ (.builtin "len") (by rfl)).2
 list:=(X.bl _ (.type "list") (by rfl)).2
 range:=(X.bl _ (.type "range") (by rfl)).2
theorem SM.after {h hb h':Hs} {i d s p:Nat} {f:Key→Bool} {ks:List Key} {fs:List (Str × V)} (hi:h.In hb) (ok:hb.Ok) (ok':h'.Ok) (sm:Same (fun j=>j=i) hb h') (e1:h'.σ i= .inst fs) (e2:h'.σ d= .dict (b2jOf f ks)) (e3:h'.σ s= .set ((firsts ks).filter f)) (e4:h'.σ p= .set []):(SM h f ks i d s p fs).In h':=by
 have hp:p<h'.nx:=by
  rcases Nat.lt_or_ge p h'.nx with z|z
  ·exact z
  ·exact absurd (e4.symm.trans (ok' p z)) (by intro e;cases e)
 refine In.of hp fun j=> ?_
 show AO.le (h'.σ j) (if j=p then .set [] else if j=s then .set ((firsts ks).filter f) else if j=d then .dict (b2jOf f ks) else if j=i then .inst fs else h.σ j)
 by_cases j1:j=p
 ·rw[if_pos j1,j1,e4];exact AO.le_refl _
 rw[if_neg j1]
 by_cases j2:j=s
 ·rw[if_pos j2,j2,e3];exact AO.le_refl _
 rw[if_neg j2]
 by_cases j3:j=d
 ·rw[if_pos j3,j3,e2];exact AO.le_refl _
 rw[if_neg j3]
 by_cases j4:j=i
 ·rw[if_pos j4,j4,e1];exact AO.le_refl _
 rw[if_neg j4]
 rcases Nat.lt_or_ge j hb.nx with z|z
 ·rw[sm.σ j z j4];exact hi.le j
 ·rw[hi.dead (ok j z)];exact AO.le_any _
theorem kc_seq2 (X:Top C mg mb) {i:Nat} {fs:List (Str × V)} {bV oV jV:V} {ks:List Key} (hi:h.σ i= .inst fs) (hfs:fs.length<15) (ho:fs.lookup (Qq "b")=some oV) (hon:∀id,oV≠ .blt id) (hnc:fs.lookup (Qq "_SequenceMatcher__chain_b")=none)
 (his:PX2 C (n+3) (QQ .Is) h bV oV (.bool false)) (hbl:IsSq h bV ks) (hkl:ks.length<200) (hbn:∀id,bV≠ .blt id) (hj:fs.lookup (Qq "isjunk")=some jV) (haj:fs.lookup (Qq "autojunk")=some (.bool true)) {f:Key→Bool} {kOk:Key→Prop} {Kn:Hs→Prop} (J:Flt C (n+2) jV Kn f kOk) (hkn:Kn h) (hkk:∀k∈ks,kOk k)
 (q:∀d s p,h.nx≤d→d<s→s<p→∀h',(SM h f ks i d s p (upd (Qq "bpopular") (.ref p) (upd (Qq "bjunk") (.ref s) (upd (Qq "b2j") (.ref d) (upd (Qq "fullbcount") .none (upd (Qq "opcodes") .none (upd (Qq "matching_blocks") .none (upd (Qq "b") bV fs)))))))).In h'→Q .none h') :
 KC C (n+4) h (.top 181) [.obj i 242,bV] [] Q:=fun hb hh=>by
 refine Cl.okQ (Cl.ok fun ok=> ?_)
 have l4:=len_upd (x:=Qq "fullbcount") (v:= .none) (len_upd (x:=Qq "opcodes") (v:= .none) (len_upd (x:=Qq "matching_blocks") (v:= .none) (len_upd (x:=Qq "b") (v:=bV) hfs)))
 refine Cd.cl (seq2 X.I X.T (hh.inst hi) hfs ho hon hnc (fun Q q=>his hb hh Q q) (Cd.cl ?_))
 refine chain (ks:=ks) (fs:=upd (Qq "fullbcount") .none (upd (Qq "opcodes") .none (upd (Qq "matching_blocks") .none (upd (Qq "b") bV fs)))) X.S X.I X.T X.nm (if_pos rfl) (by exact Nat.lt_succ_of_lt (by assumption)) ?_ hbl hkl hbn ?_ ?_ J (J.st _ _ hkn fun j u e=>(if_neg fun z:j=i=>by rw[z,hi] at e;cases e).trans (hh.cell e)) hkk ?_
 ·rw[lookup_upd,if_neg (by decide),lookup_upd,if_neg (by decide),lookup_upd,if_neg (by decide),lookup_upd,if_pos rfl]
 ·rw[lookup_upd,if_neg (by decide),lookup_upd,if_neg (by decide),lookup_upd,if_neg (by decide),lookup_upd,if_neg (by decide)];exact hj
 ·rw[lookup_upd,if_neg (by decide),lookup_upd,if_neg (by decide),lookup_upd,if_neg (by decide),lookup_upd,if_neg (by decide)];exact haj
 · intro h' s p h1 h2 sm e1 e2 e3 e4 ok'
   exact q hb.nx s p hh.nx h1 h2 h' (SM.after hh ok ok' ⟨sm.nx,fun j hj hP=>(sm.σ j hj hP).trans (if_neg hP)⟩ e1 e4 e2 e3)
end
section
variable {mg mb:Str→Option Value}
theorem kc_seq1 (X:Top C mg mb) {i:Nat} {fs:List (Str × V)} {aV oV:V} (hi:h.σ i= .inst fs) (hfs:fs.length<20) (ho:fs.lookup (Qq "a")=some oV) (hon:∀id,oV≠ .blt id) (his:PX2 C n (QQ .Is) h aV oV (.bool false))
 (q:∀h',(h.upd i (.inst (upd (Qq "opcodes") .none (upd (Qq "matching_blocks") .none (upd (Qq "a") aV fs))))).In h'→Q .none h'):KC C (n+1) h (.top 174) [.obj i 242,aV] [] Q:=fun hb hh =>
 Cd.cl (seq1 X.I X.T (hh.inst hi) hfs ho hon (fun Q q=>his hb hh Q q) (q _ hh.upd))
noncomputable abbrev kV (ks:List Key):V:= .lst (ks.map Key.v)
noncomputable def fsM (jV aV bV:V) (d s p:Nat):List (Str × V):=[(Qq "isjunk",jV),(Qq "a",aV),(Qq "b",bV),(Qq "autojunk", .bool true),(Qq "matching_blocks", .none),(Qq "opcodes", .none),(Qq "fullbcount", .none),(Qq "b2j", .ref d),(Qq "bjunk", .ref s),(Qq "bpopular", .ref p)]
theorem kc_make (X:Top C mg mb) {jV:V} {us ks:List Key} (hkl:ks.length<200) {f:Key→Bool} {kOk:Key→Prop} {Kn:Hs→Prop} (J:Flt C (n+2) jV Kn f kOk) (hkn:Kn h) (hkk:∀k∈ks,kOk k)
 (q:∀i d s p,h.nx≤i→i<d→d<s→s<p→∀h',(SM h f ks i d s p (fsM jV (kV us) (kV ks) d s p)).In h'→Q (.obj i 242) h'):KC C (n+8) h (.top 242) [jV,kV us,kV ks] [] Q:=fun hb hh=>by
 refine Cl.ok fun ok=> ?_
 refine cl_new X.I (by rfl) (by rfl) (by rfl) ?_
 have hid:h.σ hb.nx= .dead:=hh.dead (ok _ (Qt _))
 refine init X.I X.T (i:=hb.nx) (if_pos rfl) ?_
 refine Cd.cl (seqs X.I X.T (fs:=[(Qq "isjunk",jV),(Qq "a", .none),(Qq "b", .none),(Qq "autojunk", .bool true)]) (if_pos rfl) (by rfl) ?_)
 have hin1:((h.upd hb.nx (.inst [(Qq "isjunk",jV),(Qq "a", .none),(Qq "b", .none),(Qq "autojunk", .bool true)])).at (hb.nx+1)).In ((hb.new (.inst [])).upd hb.nx (.inst [(Qq "isjunk",jV),(Qq "a", .none),(Qq "b", .none),(Qq "autojunk", .bool true)])):=by
  refine In.of (Qt _) fun j=> ?_
  show AO.le (if j=hb.nx then _ else if j=hb.nx then _ else hb.σ j) (if j=hb.nx then _ else h.σ j)
  by_cases z:j=hb.nx
  ·rw[if_pos z,if_pos z];exact AO.le_refl _
  ·rw[if_neg z,if_neg z,if_neg z];exact hh.le j
 refine KC.less (kc_seq1 X (i:=hb.nx) (fs:=[(Qq "isjunk",jV),(Qq "a", .none),(Qq "b", .none),(Qq "autojunk", .bool true)]) (if_pos rfl) (QV rfl) (by rfl) (by intro _ e;cases e) (n:=n) (fun hb' hi' Q q=>is_none_l (v:=kV us) (by intro _ e;cases e) q) fun h' hi'=> ?_) (by exact Q2 (by decide) _) _ hin1
 refine⟨⟨_,hi'.inst (if_pos rfl),by rfl⟩, ?_⟩
 refine KC.less (kc_seq2 X (i:=hb.nx) (n:=n) (ks:=ks) (fs:=[(Qq "isjunk",jV),(Qq "a",kV us),(Qq "b", .none),(Qq "autojunk", .bool true),(Qq "matching_blocks", .none),(Qq "opcodes", .none)]) (if_pos rfl) (QV rfl) (by rfl) (by intro _ e;cases e) (by rfl) (fun hb' hi' Q q=>is_none_l (v:=kV ks) (by intro _ e;cases e) q) (rfl:IsSq h (kV ks) ks) hkl (by intro _ e;cases e) (by rfl) (by rfl) J (J.st h _ hkn fun j u e=>(if_neg fun z:j=hb.nx=>by rw[z,hid] at e;cases e).trans ((if_neg fun z:j=hb.nx=>by rw[z,hid] at e;cases e).trans e)) hkk fun d s p h1 h2 h3 h4 hi4=>⟨rfl,q hb.nx d s p hh.nx h1 h2 h3 h4 ?_⟩) (by exact Nat.le_succ _) _ hi'
 refine Hs.In.trans (In.of ?_ fun j=> ?_) hi4
 ·exact Qt _
 · show AO.le (if j=p then _ else if j=s then _ else if j=d then _ else if j=hb.nx then AO.inst (fsM jV (kV us) (kV ks) d s p) else if j=hb.nx then _ else if j=hb.nx then _ else h.σ j) (if j=p then _ else if j=s then _ else if j=d then _ else if j=hb.nx then AO.inst (fsM jV (kV us) (kV ks) d s p) else h.σ j)
   by_cases j1:j=p
   ·rw[if_pos j1,if_pos j1];exact AO.le_refl _
   rw[if_neg j1,if_neg j1]
   by_cases j2:j=s
   ·rw[if_pos j2,if_pos j2];exact AO.le_refl _
   rw[if_neg j2,if_neg j2]
   by_cases j3:j=d
   ·rw[if_pos j3,if_pos j3];exact AO.le_refl _
   rw[if_neg j3,if_neg j3]
   by_cases j4:j=hb.nx
   ·rw[if_pos j4,if_pos j4];exact AO.le_refl _
   rw[if_neg j4,if_neg j4,if_neg j4,if_neg j4];exact AO.le_refl _
end
section
variable {mg mb:Str→Option Value}
theorem matK (P:Params):MatK (KF P) 135 82 136:=⟨⟨_,_,by rfl,by rfl,by rfl,by rfl,by rfl,by rfl⟩,by rfl,by rfl,by rfl,by rfl,by rfl,by rfl⟩
theorem ok_mnew (X:Top C mg mb):FnOk C 82 (fnOf (k82 C.w.params)) (bodyOf (fnOf (k82 C.w.params))) :=
 fnOk_of (c:=81) (oc:=k81 C.w.params) X.I X.T (by rfl) (by rfl)
theorem pf_match (X:Top C mg mb) {a b c:V}:PF C (n+2) h (.top 135) [a,b,c] [] (.mat 135 [a,b,c]):=fun hb hi Q q =>
 cl_match X.I (matK _) (cd_fn (ok_mnew X) binds4 (loc:=[(Qq "_cls", .top 135),(Qq "a",a),(Qq "b",b),(Qq "size",c)]) (h1:=hb) (bind_local (by rfl) (bind_local (by rfl) (bind_local (by rfl) (bind_local (by rfl) (by rfl))))) fun L cells =>
  (show KX C n _ _ hb _ _ from kx_doc (kx_ret (pu_mcall0 (Top.ty X (by rfl) (by rfl)) pm_tup_new (pes_cons pLo (pes_cons (pu_tuple (pes_cons pLo (pes_cons pLo (pes_cons pLo pes_nil))) (le_szL (by rfl))) pes_nil)) (pf_tup_new X.I (matK _) (le_szL (by rfl)))) fun h' hi'=>⟨_,rfl,q _ hi'⟩)) hb (.refl _))
end
section
variable {mg mb:Str→Option Value}
structure MK (h:Hs) (i:Nat) (fs:List (Str × V)) (d s:Nat) (aV bV:V) (ka kb junk:List Key) (D:List (Key × V)):Prop where
 inst:h.σ i= .inst fs
 a:fs.lookup (Qq "a")=some aV
 b:fs.lookup (Qq "b")=some bV
 b2j:fs.lookup (Qq "b2j")=some (.ref d)
 bj:fs.lookup (Qq "bjunk")=some (.ref s)
 an:∀id,aV≠ .blt id
 bn:∀id,bV≠ .blt id
 sa:IsSq h aV ka
 sb:IsSq h bV kb
 dct:IsDct h (.ref d) D
 tab:TabOf junk kb D
 set:IsSet h (.ref s) junk
 la:ka.length≤5000
 lb:kb.length≤5000
theorem MK.up {i:Nat} {fs:List (Str × V)} {d s:Nat} {aV bV:V} {ka kb junk:List Key} {D:List (Key × V)} (M:MK h i fs d s aV bV ka kb junk D) (x:h.In h'):MK h' i fs d s aV bV ka kb junk D :=
 ⟨x.inst M.inst,M.a,M.b,M.b2j,M.bj,M.an,M.bn,x.sq M.sa,x.sq M.sb,x.dct M.dct,M.tab,x.fset M.set,M.la,M.lb⟩
noncomputable abbrev F196 (C:Cx) (L:Addr) (cells:List (Str × Addr)):Fr:=⟨envFn 196 (fnOf (k196 C.w.params)) L cells,[]⟩
noncomputable abbrev R196 (C:Cx) (k:Nat):List Stmt:=(bodyOf (fnOf (k196 C.w.params))).drop k
noncomputable abbrev LB (i:Nat) (alo ahi blo bhi:Nat) (aV bV:V) (d s bi bj bs:Nat):Loc :=
 [(Qq "self", .obj i 242),(Qq "alo", .int (alo:Int)),(Qq "ahi", .int (ahi:Int)),(Qq "blo", .int (blo:Int)),(Qq "bhi", .int (bhi:Int)),(Qq "a",aV),(Qq "b",bV),(Qq "b2j", .ref d),(Qq "isbjunk", .bm "set.__contains__" (.ref s)),
  (Qq "besti", .int (bi:Int)),(Qq "bestj", .int (bj:Int)),(Qq "bestsize", .int (bs:Int))]
variable {i d s alo ahi blo bhi:Nat}
theorem mJ_at {j:Nat} {y:Key} (hy:kb[j]? =some y):mJ junk kb j=decide (y∈junk):=by unfold mJ;rw[hy]
theorem mE_at {k j:Nat} {x y:Key} (hx:ka[k]? =some x) (hy:kb[j]? =some y):mE ka kb k j=decide (x=y):=by unfold mE;rw[hx,hy]
theorem pub_isj {b ix:Expr} {x:Str} {p p1 p2:Pos} {z:Int} {j:Nat} (M:MK h i fs d s aV bV ka kb junk D) (hf:Pu C (n+1) F loc h (.Name x p) (.bm "set.__contains__" (.ref s))) (hb:Pu C (n+1) F loc h b bV) (hi:Pu C (n+1) F loc h ix (.int z)) (hz:z=(j:Int)) (hj:j<kb.length)
 (hs:autoParam (∀x y,subscripted ix false x y=operate [x,y] (getItem x y)) aI) (hst:autoParam (noStar [.Subscript b ix p1]=true) aR) (he:autoParam (starEach [.Subscript b ix p1] F.env=(false,eval (.Subscript b ix p1) F.env)::starEach [] F.env) aR)
 (hq:autoParam (∀whole,isTrue (.Call (.Name x p) [.Subscript b ix p1] [] p2) F.env whole=(do let v ←whole;standAt (Expr.Call (.Name x p) [.Subscript b ix p1] [] p2).pos;holding [v] (truthy v))) aI) :
 PuB C (n+1) F loc h (.Call (.Name x p) [.Subscript b ix p1] [] p2) (mJ junk kb j):=by
 have hy:kb[j]? =some kb[j]:=Qh hj
 rw[mJ_at hy]
 exact pub_value (pu_call0 hf kp_bm (pes_cons (pu_sub hb hi (notPyU_Q M.sb) (p2_getQ M.sb hz hy (Qe M.lb (by decide))) hs) pes_nil he) (pf_bmS M.set) hst) pt_bool hq
theorem pub_mE {a b ix jx:Expr} {p p1 p2:Pos} {z z':Int} {k j:Nat} (M:MK h i fs d s aV bV ka kb junk D) (ha:Pu C (n+1) F loc h a aV) (hb:Pu C (n+1) F loc h b bV) (hi:Pu C (n+1) F loc h ix (.int z)) (hz:z=(k:Int)) (hk:k<ka.length)
 (hi':Pu C (n+1) F loc h jx (.int z')) (hz':z'=(j:Int)) (hj:j<kb.length) (hs:autoParam (∀x y,subscripted ix false x y=operate [x,y] (getItem x y)) aI) (hs':autoParam (∀x y,subscripted jx false x y=operate [x,y] (getItem x y)) aI)
 (hm:autoParam (behindInMarks .Eq (.Subscript b jx p1)=false) aW) :
 PuB C (n+1) F loc h (.Compare (.Subscript a ix p) [.Eq] [.Subscript b jx p1] p2) (mE ka kb k j):=by
 have hx:ka[k]? =some ka[k]:=Qh hk
 have hy:kb[j]? =some kb[j]:=Qh hj
 rw[mE_at hx hy]
 exact pub_cmp (pu_sub ha hi (notPyU_Q M.sa) (p2_getQ M.sa hz hx (Qe M.la (by decide))) hs) (pu_sub hb hi' (notPyU_Q M.sb) (p2_getQ M.sb hz' hy (Qe M.lb (by decide))) hs') p2_eqK hm
theorem dec3 {a k b x:Nat} {u v:Bool}:(decide ((a:Int)<(k:Int))&&(decide ((b:Int)<(x:Int))&&(u&&(v&&true))))=decide (a<k∧b<x∧(u&&v)=true):=by
 rw[Bool.and_true,decide_eq_decide.mpr Ww,decide_eq_decide.mpr Ww,Bool.decide_and,Bool.decide_and,Bool.decide_eq_true]
theorem castPred {a k:Nat} (h:(a:Int)<(k:Int)):(k:Int)-1=((k-1:Nat):Int):=by
 cases k with
 |zero=>exact absurd (Ww.mp h) (Q0 _)
 |succ k=>exact Int.add_sub_cancel (k:Int) 1
theorem predV {k:Nat}:V.int (((k+1:Nat):Int)-1)=V.int (k:Int):=congrArg V.int (Int.add_sub_cancel (k:Int) 1)
theorem predLt {a k m l:Nat} (h:(a:Int)<(k:Int)) (h1:k≤m) (h2:m≤l):k-1<l:=Qy (Nat.sub_one_lt (QE (Qj (Qz _) (Ww.mp h)))) (Qe h1 h2)
theorem mem3 {α:Type} {p:α→Prop} {a b c:α} (h1:p a) (h2:p b) (h3:p c):∀y∈[a,b,c],p y
 |_, .head _=>h1
 |_, .tail _ (.head _)=>h2
 |_, .tail _ (.tail _ (.head _))=>h3
theorem fuelAt {a b u k:Nat} (h:a≤b+u+(k+1)):a≤b+(u+1)+k:=Qe h (QK (Wr (b+u) k 1))
theorem beqI {a b:Nat}:((a:Int)==(b:Int))=decide (a=b):=by rw[Bool.eq_iff_iff,beq_iff_eq,decide_eq_true_iff];exact Int.ofNat_inj
theorem flm_w4 {L:Addr} {cells:List (Str × Addr)} (M:MK h i fs d s aV bV ka kb junk D) {bi bj t:Nat} (h1:ahi≤ka.length) (h2:bhi≤kb.length)
 (tail:KX C (n+1) (F196 C L cells) (LB i alo ahi blo bhi aV bV d s bi bj (fwd (mQ junk ka kb) ahi bhi bi bj ahi t)) h (R196 C 12) QF) :
 KX C (n+1) (F196 C L cells) (LB i alo ahi blo bhi aV bV d s bi bj t) h (R196 C 11) QF:=by
 refine kx_while (fun k l hk=>hk=h∧∃u,l=LB i alo ahi blo bhi aV bV d s bi bj u∧fwd (mQ junk ka kb) ahi bhi bi bj k u=fwd (mQ junk ka kb) ahi bhi bi bj ahi t∧ahi≤bi+u+k) ahi ⟨rfl,t,rfl,rfl,Q9 _ _⟩ ?_
 rintro k l hk ⟨rfl,u,rfl,hf,hb⟩
 refine⟨decide (bi+u<ahi∧bj+u<bhi∧mQ junk ka kb (bi+u) (bj+u)=true), ?_, ?_, ?_⟩
 · refine PuB.eq (u:=decide ((bi:Int)+(u:Int)<(ahi:Int))&&(decide ((bj:Int)+(u:Int)<(bhi:Int))&&(mJ junk kb (bj+u)&&(mE ka kb (bi+u) (bj+u)&&true)))) (pub_and (pub_cmp (pu_bin pLo pLo p2_addi) pLo p2_lti) fun z1=>pub_and (pub_cmp (pu_bin pLo pLo p2_addi) pLo p2_lti) fun z2=> ?_) ?_
   · have z1:=of_decide_eq_true z1
     have z2:=of_decide_eq_true z2
     exact pub_and (pub_isj M pLo pLo (pu_bin pLo pLo p2_addi) rfl (Qy (Ww.mp z2) h2)) fun z3 =>
      pub_and (pub_mE M pLo pLo (pu_bin pLo pLo p2_addi) rfl (Qy (Ww.mp z1) h1) (pu_bin pLo pLo p2_addi) rfl (Qy (Ww.mp z2) h2)) fun z4=>pub_and_nil
   ·exact dec3
 · intro hc
   have hc:=of_decide_eq_true hc
   cases k with
   |zero=>exact absurd hc.1 (Nat.not_lt_of_le hb)
   |succ k =>
    refine kx_set (pu_bin pLo pu_int p2_addi) (kx_nil fun h2 i2=>⟨k,_,_,Qk _, ?_,i2,rfl,u+1,rfl, ?_,fuelAt hb⟩)
    ·exact LocSub.refl _
    ·rw[←hf,fwd,if_pos hc]
 · intro hc
   have hc:=of_decide_eq_false hc
   have e:fwd (mQ junk ka kb) ahi bhi bi bj k u=u:=by
    cases k with
    |zero=>rfl
    |succ k=>rw[fwd,if_neg hc]
   rw[←hf,e] at tail
   exact tail
theorem flm_w2 {L:Addr} {cells:List (Str × Addr)} (M:MK h i fs d s aV bV ka kb junk D) {bi bj t:Nat} (h1:ahi≤ka.length) (h2:bhi≤kb.length)
 (tail:KX C (n+1) (F196 C L cells) (LB i alo ahi blo bhi aV bV d s bi bj (fwd (mP junk ka kb) ahi bhi bi bj ahi t)) h (R196 C 10) QF) :
 KX C (n+1) (F196 C L cells) (LB i alo ahi blo bhi aV bV d s bi bj t) h (R196 C 9) QF:=by
 refine kx_while (fun k l hk=>hk=h∧∃u,l=LB i alo ahi blo bhi aV bV d s bi bj u∧fwd (mP junk ka kb) ahi bhi bi bj k u=fwd (mP junk ka kb) ahi bhi bi bj ahi t∧ahi≤bi+u+k) ahi ⟨rfl,t,rfl,rfl,Q9 _ _⟩ ?_
 rintro k l hk ⟨rfl,u,rfl,hf,hb⟩
 refine⟨decide (bi+u<ahi∧bj+u<bhi∧mP junk ka kb (bi+u) (bj+u)=true), ?_, ?_, ?_⟩
 · refine PuB.eq (u:=decide ((bi:Int)+(u:Int)<(ahi:Int))&&(decide ((bj:Int)+(u:Int)<(bhi:Int))&&(!mJ junk kb (bj+u)&&(mE ka kb (bi+u) (bj+u)&&true)))) (pub_and (pub_cmp (pu_bin pLo pLo p2_addi) pLo p2_lti) fun z1=>pub_and (pub_cmp (pu_bin pLo pLo p2_addi) pLo p2_lti) fun z2=> ?_) ?_
   · have z1:=of_decide_eq_true z1
     have z2:=of_decide_eq_true z2
     exact pub_and (pub_not (pub_isj M pLo pLo (pu_bin pLo pLo p2_addi) rfl (Qy (Ww.mp z2) h2))) fun z3 =>
      pub_and (pub_mE M pLo pLo (pu_bin pLo pLo p2_addi) rfl (Qy (Ww.mp z1) h1) (pu_bin pLo pLo p2_addi) rfl (Qy (Ww.mp z2) h2)) fun z4=>pub_and_nil
   ·exact dec3
 · intro hc
   have hc:=of_decide_eq_true hc
   cases k with
   |zero=>exact absurd hc.1 (Nat.not_lt_of_le hb)
   |succ k =>
    refine kx_aug (by rfl) pu_int p2_iaddi (kx_nil fun h2 i2=>⟨k,_,_,Qk _, ?_,i2,rfl,u+1,rfl, ?_,fuelAt hb⟩)
    ·exact LocSub.refl _
    ·rw[←hf,fwd,if_pos hc]
 · intro hc
   have hc:=of_decide_eq_false hc
   have e:fwd (mP junk ka kb) ahi bhi bi bj k u=u:=by
    cases k with
    |zero=>rfl
    |succ k=>rw[fwd,if_neg hc]
   rw[←hf,e] at tail
   exact tail
theorem flm_w3 {L:Addr} {cells:List (Str × Addr)} (M:MK h i fs d s aV bV ka kb junk D) {bi bj t:Nat} (h1:bi≤ka.length) (h2:bj≤kb.length)
 (tail:∀st,st=back (mQ junk ka kb) alo blo bi bj t→KX C (n+1) (F196 C L cells) (LB i alo ahi blo bhi aV bV d s st.1 st.2.1 st.2.2) h (R196 C 11) QF) :
 KX C (n+1) (F196 C L cells) (LB i alo ahi blo bhi aV bV d s bi bj t) h (R196 C 10) QF:=by
 refine kx_while (fun k l hk=>hk=h∧∃x u,l=LB i alo ahi blo bhi aV bV d s k x u∧back (mQ junk ka kb) alo blo k x u=back (mQ junk ka kb) alo blo bi bj t∧k≤bi∧x≤bj) bi ⟨rfl,bj,t,rfl,rfl,Qt _,Qt _⟩ ?_
 rintro k l hk ⟨rfl,x,u,rfl,hf,hb1,hb2⟩
 refine⟨decide (alo<k∧blo<x∧mQ junk ka kb (k-1) (x-1)=true), ?_, ?_, ?_⟩
 · refine PuB.eq (u:=decide ((alo:Int)<(k:Int))&&(decide ((blo:Int)<(x:Int))&&(mJ junk kb (x-1)&&(mE ka kb (k-1) (x-1)&&true)))) (pub_and (pub_cmp pLo pLo p2_gti) fun z1=>pub_and (pub_cmp pLo pLo p2_gti) fun z2=> ?_) ?_
   · have z1:=of_decide_eq_true z1
     have z2:=of_decide_eq_true z2
     exact pub_and ((pub_isj M pLo pLo (pu_bin pLo pu_int p2_subi) (castPred z2) (predLt z2 hb2 h2))) fun z3 =>
      pub_and (pub_mE M pLo pLo (pu_bin pLo pu_int p2_subi) (castPred z1) (predLt z1 hb1 h1) (pu_bin pLo pu_int p2_subi) (castPred z2) (predLt z2 hb2 h2)) fun z4=>pub_and_nil
   ·exact dec3
 · intro hc
   have hc:=of_decide_eq_true hc
   cases k with
   |zero=>exact absurd hc.1 (Q0 _)
   |succ k =>
    cases x with
    |zero=>exact absurd hc.2.1 (Q0 _)
    |succ x =>
     have hc':alo<k+1∧blo<x+1∧mQ junk ka kb k (x+1-1)=true:=hc
     refine kx_swap (names:=[Qq "besti",Qq "bestj",Qq "bestsize"]) (vs:=[.int (k:Int), .int (x:Int), .int ((u+1:Nat):Int)]) (pu_tuple (pes_cons ((pu_bin pLo pu_int p2_subi).eq predV) (pes_cons ((pu_bin pLo pu_int p2_subi).eq predV) (pes_cons (pu_bin pLo pu_int p2_addi) pes_nil))) (le_szL (by rfl))) ?_ (by rfl) (mem3 rfl rfl rfl)
     refine kx_nil fun h2 i2=>⟨k,_,_,Qk _, ?_,i2,rfl,x,u+1,rfl, ?_,We hb1,We hb2⟩
     ·exact LocSub.refl _
     ·rw[←hf,back,if_pos hc'];rfl
 · intro hc
   have hc:=of_decide_eq_false hc
   have e:back (mQ junk ka kb) alo blo k x u=(k,x,u):=by
    cases k with
    |zero=>rfl
    |succ k=>rw[back];exact if_neg hc
   exact tail (k,x,u) (by rw[←hf,e])
theorem flm_w1 {L:Addr} {cells:List (Str × Addr)} (M:MK h i fs d s aV bV ka kb junk D) {bi bj t:Nat} (h1:bi≤ka.length) (h2:bj≤kb.length)
 (tail:∀st,st=back (mP junk ka kb) alo blo bi bj t→KX C (n+1) (F196 C L cells) (LB i alo ahi blo bhi aV bV d s st.1 st.2.1 st.2.2) h (R196 C 9) QF) :
 KX C (n+1) (F196 C L cells) (LB i alo ahi blo bhi aV bV d s bi bj t) h (R196 C 8) QF:=by
 refine kx_while (fun k l hk=>hk=h∧∃x u,l=LB i alo ahi blo bhi aV bV d s k x u∧back (mP junk ka kb) alo blo k x u=back (mP junk ka kb) alo blo bi bj t∧k≤bi∧x≤bj) bi ⟨rfl,bj,t,rfl,rfl,Qt _,Qt _⟩ ?_
 rintro k l hk ⟨rfl,x,u,rfl,hf,hb1,hb2⟩
 refine⟨decide (alo<k∧blo<x∧mP junk ka kb (k-1) (x-1)=true), ?_, ?_, ?_⟩
 · refine PuB.eq (u:=decide ((alo:Int)<(k:Int))&&(decide ((blo:Int)<(x:Int))&&(!mJ junk kb (x-1)&&(mE ka kb (k-1) (x-1)&&true)))) (pub_and (pub_cmp pLo pLo p2_gti) fun z1=>pub_and (pub_cmp pLo pLo p2_gti) fun z2=> ?_) ?_
   · have z1:=of_decide_eq_true z1
     have z2:=of_decide_eq_true z2
     exact pub_and (pub_not (pub_isj M pLo pLo (pu_bin pLo pu_int p2_subi) (castPred z2) (predLt z2 hb2 h2))) fun z3 =>
      pub_and (pub_mE M pLo pLo (pu_bin pLo pu_int p2_subi) (castPred z1) (predLt z1 hb1 h1) (pu_bin pLo pu_int p2_subi) (castPred z2) (predLt z2 hb2 h2)) fun z4=>pub_and_nil
   ·exact dec3
 · intro hc
   have hc:=of_decide_eq_true hc
   cases k with
   |zero=>exact absurd hc.1 (Q0 _)
   |succ k =>
    cases x with
    |zero=>exact absurd hc.2.1 (Q0 _)
    |succ x =>
     have hc':alo<k+1∧blo<x+1∧mP junk ka kb k (x+1-1)=true:=hc
     refine kx_swap (names:=[Qq "besti",Qq "bestj",Qq "bestsize"]) (vs:=[.int (k:Int), .int (x:Int), .int ((u+1:Nat):Int)]) (pu_tuple (pes_cons ((pu_bin pLo pu_int p2_subi).eq predV) (pes_cons ((pu_bin pLo pu_int p2_subi).eq predV) (pes_cons (pu_bin pLo pu_int p2_addi) pes_nil))) (le_szL (by rfl))) ?_ (by rfl) (mem3 rfl rfl rfl)
     refine kx_nil fun h2 i2=>⟨k,_,_,Qk _, ?_,i2,rfl,x,u+1,rfl, ?_,We hb1,We hb2⟩
     ·exact LocSub.refl _
     ·rw[←hf,back,if_pos hc'];rfl
 · intro hc
   have hc:=of_decide_eq_false hc
   have e:back (mP junk ka kb) alo blo k x u=(k,x,u):=by
    cases k with
    |zero=>rfl
    |succ k=>rw[back];exact if_neg hc
   exact tail (k,x,u) (by rw[←hf,e])
end
noncomputable def forB:Stmt→List Stmt
 | .For _ _ b _ _=>b
 |_=>[]
section
variable {mg mb:Str→Option Value}
variable {i d s alo ahi blo bhi:Nat}
theorem In.newd {q:Nat} {A:AO} (hd:h.σ q= .dead) (hn:h.nx≤q):h.In ((h.upd q A).at (q+1)):=((Hs.In.refl h).updd hd).at (QT hn)
theorem In.swapd {p q:Nat} {A B:AO} (hp:h.σ p= .dead) (hn:h.nx≤p):((h.upd q B).at (q+1)).In ((((h.upd p A).at (p+1)).upd q B).at (q+1)):=In.of (Qt _) fun j=>by
 show AO.le (if j=q then B else if j=p then A else h.σ j) (if j=q then B else h.σ j)
 by_cases e:j=q
 ·rw[if_pos e,if_pos e];exact AO.le_refl _
 · rw[if_neg e,if_neg e]
   by_cases e2:j=p
   ·rw[if_pos e2,e2,hp];exact AO.le_any _
   ·rw[if_neg e2];exact AO.le_refl _
noncomputable abbrev LO (i:Nat) (alo ahi blo bhi:Nat) (aV bV:V) (d s:Nat) (st:Nat × Nat × Nat) (p:Nat):Loc:=LB i alo ahi blo bhi aV bV d s st.1 st.2.1 st.2.2++[(Qq "j2len", .ref p),(Qq "nothing", .lst [])]
noncomputable abbrev LI (i:Nat) (alo ahi blo bhi:Nat) (aV bV:V) (d s:Nat) (st:Nat × Nat × Nat) (p k q:Nat):Loc:=LO i alo ahi blo bhi aV bV d s st p++[(Qq "i", .int ((alo:Int)+(k:Int))),(Qq "j2lenget", .bm "dict.get" (.ref p)),(Qq "newj2len", .ref q)]
theorem subV {a r:Nat} (h:r≤a+1):V.int ((a:Int)-(r:Int)+1)=V.int ((a+1-r:Nat):Int):=congrArg V.int ((Int.add_right_comm (a:Int) (-(r:Int)) 1).trans (Int.ofNat_sub h).symm)
theorem flm_row (X:Top C mg mb) {L:Addr} {cells:List (Str × Addr)} (M:MK h i fs d s aV bV ka kb junk D) {p q k:Nat} {st:Nat × Nat × Nat} (hk:alo+k<ka.length)
 (hp:h.σ p= .dict (prow (mP junk ka kb) kb.length alo blo bhi k)) (hq:h.σ q= .dead) (hqn:h.nx≤q)
 (tail:∀st',st'=rowB (mP junk ka kb) alo kb.length blo bhi st (alo+k)→KX C (n+2) (F196 C L cells) (LI i alo ahi blo bhi aV bV d s st' p k q) ((h.upd q (.dict (prow (mP junk ka kb) kb.length alo blo bhi (k+1)))).at (q+1)) ((forB (stAt (bodyOf (fnOf (k196 C.w.params))) 7)).drop 3) QF) :
 KX C (n+2) (F196 C L cells) (LI i alo ahi blo bhi aV bV d s st p k q) ((h.upd q (.dict [])).at (q+1)) ((forB (stAt (bodyOf (fnOf (k196 C.w.params))) 7)).drop 2) QF:=by
 have M1:=M.up (In.newd (A:= .dict []) hq hqn)
 have hx:ka[alo+k]? =some ka[alo+k]:=Qh hk
 have hpq:p≠q:=fun e=>by rw[e,hq] at hp;cases hp
 have hlb:=M.lb
 have asc:(rowL junk ka kb (alo+k)).Pairwise (· < ·):=rowL_asc
 have hrl:(rowL junk ka kb (alo+k)).length≤5000:=Qe (QX _ _) (List.length_range▸hlb)
 refine kx_for (items:=intsV (rowL junk ka kb (alo+k))) (S:=Hs.none) (fun t l hk'=>∃st',l=LI i alo ahi blo bhi aV bV d s st' p k q∧hk'=(h.upd q (.dict (rowV (rl (mP junk ka kb) alo blo (alo+k)) (((rowL junk ka kb (alo+k)).take t).filter fun j=>decide (blo≤j))))).at (q+1) ∧
  st'=(((rowL junk ka kb (alo+k)).take t).filter fun j=>decide (blo≤j)).foldl (bst (mP junk ka kb) alo blo (alo+k)) st∧∀j∈(rowL junk ka kb (alo+k)).take t,blo≤j→j<bhi)
  (pi_lst (pu_mcall0 pLo (pm_dget M1.dct) (pes_cons (pu_sub pLo pLo (notPyU_Q M1.sa) (p2_getQ M1.sa (j:=alo+k) rfl hx (Qe M.la (by decide)))) (pes_cons pLo pes_nil)) ((pf_dget2 (S:=X.S) M1.dct).eq (row_get M.tab hx))))
  ⟨st,rfl,rfl,rfl,fun _ hj=>absurd hj QZ⟩ (fun t l hk' _=> .none _) ?_ ?_
 · rintro t v l hk' hv ⟨st',rfl,rfl,hst,hlt⟩
   have hv:((rowL junk ka kb (alo+k)).map fun(j:Nat)=>V.int (j:Int))[t]? =some v:=hv
   rw[Qb] at hv
   refine x_EA (QW.mp hv) fun j hj z154=> ?_;subst z154
   have htk:(rowL junk ka kb (alo+k)).take (t+1)=(rowL junk ka kb (alo+k)).take t++[j]:=take_snoc hj
   have hjl:=rowL_lt (Qa hj)
   refine ka_local (kx_if (c:=decide ((j:Int)<(blo:Int))) (pub_cmp pLo pLo p2_lti) (fun c=> ?_) fun c=> ?_)
   · have c:=of_decide_eq_true c
     have hnb:¬blo≤j:=Nat.not_le_of_lt (Ww.mp c)
     have hfn:((rowL junk ka kb (alo+k)).take (t+1)).filter (fun j=>decide (blo≤j))=(((rowL junk ka kb (alo+k)).take t).filter fun j=>decide (blo≤j)):=by
      rw[htk,List.filter_append,List.filter_cons_of_neg (p:=fun j=>decide (blo≤j)) (fun z=>hnb (of_decide_eq_true z)),List.filter_nil,Q4]
     refine kx_cont fun h1 i1=>⟨_,_,LocSub.app _ [(Qq "j",_)],i1,st',rfl, ?_, ?_,fun x hx' hb=> ?_⟩
     ·rw[hfn]
     ·rw[hfn];exact hst
     · rw[htk] at hx'
       rcases List.mem_append.mp hx' with z|z
       ·exact hlt x z hb
       ·rw[Qs.mp z] at hb;exact absurd hb hnb
   have c:=of_decide_eq_false c
   have hbj:blo≤j:=Nat.le_of_not_lt fun z=>c (Ww.mpr z)
   refine kx_nil fun h1 i1=>KX.up ?_ i1
   refine kx_if (c:=decide ((bhi:Int)≤(j:Int))) (pub_cmp pLo pLo p2_gei) (fun c=> ?_) fun c=> ?_
   · have c:=of_decide_eq_true c
     have e:rowJ (mP junk ka kb) kb.length blo bhi (alo+k)=((rowL junk ka kb (alo+k)).take t).filter fun j=>decide (blo≤j):=by
      rw[rowJ_eq]
      exact done_break hlt fun x hx'=>Qe (Int.ofNat_le.mp c) (asc_drop asc hj x hx')
     refine kx_brk fun h2 i2=>KX.locs (KX.up (tail st' (by rw[rowB,e];exact hst)) ?_) (LocSub.app _ [(Qq "j",_)])
     simp only[prow,e]
     exact i2
   have c:=of_decide_eq_false c
   have hjb:j<bhi:=Nat.lt_of_not_le fun z=>c (Int.ofNat_le.mpr z)
   refine kx_nil fun h2 i2=>KX.up ?_ i2
   have hnd:j∉(((rowL junk ka kb (alo+k)).take t).filter fun j=>decide (blo≤j)):=fun z=>Nat.lt_irrefl _ (asc_take asc hj j (Wp.mp z).1)
   have hdl:(((rowL junk ka kb (alo+k)).take t).filter fun j=>decide (blo≤j)).length≤5000:=Qe (QX _ _) (by rw[List.length_take];exact Qe (Nat.min_le_right _ _) hrl)
   have hft:((rowL junk ka kb (alo+k)).take (t+1)).filter (fun j=>decide (blo≤j))=(((rowL junk ka kb (alo+k)).take t).filter fun j=>decide (blo≤j))++[j]:=by
    rw[htk,List.filter_append,List.filter_cons_of_pos (p:=fun j=>decide (blo≤j)) (decide_eq_true hbj),List.filter_nil]
   have hlt':∀x∈(rowL junk ka kb (alo+k)).take (t+1),blo≤x→x<bhi:=fun x hx' hb=>by
    rw[htk] at hx'
    rcases List.mem_append.mp hx' with z|z
    ·exact hlt x z hb
    ·rw[Qs.mp z];exact hjb
   refine x_EA (prow_get hjl.1 hbj hjb hjl.2) fun z hz1 hz2=> ?_
   refine x_A (rl_lt (P:=mP junk ka kb) (alo:=alo) (blo:=blo) (alo+k) j) fun hr1 hr2=> ?_
   generalize hdone:(((rowL junk ka kb (alo+k)).take t).filter fun j=>decide (blo≤j))=done at hnd hdl hft hst
   have hp2:((h.upd q (.dict (rowV (rl (mP junk ka kb) alo blo (alo+k)) done))).at (q+1)).σ p= .dict (prow (mP junk ka kb) kb.length alo blo bhi k):=(if_neg hpq).trans hp
   refine kx_asg2 (v:= .int ((rl (mP junk ka kb) alo blo (alo+k) j:Nat):Int)) ((pu_bin (pu_call0 pLo kp_bm (pes_cons (pu_bin pLo pu_int p2_subi) (pes_cons pu_int pes_nil)) ((pf_bmD (S:=X.S) (k:= .i ((j:Int)-1)) (d:= .int 0) (show IsDct _ (.ref p) _ from Or.inl hp2)).eq hz1)) pu_int p2_addi).eq (by rw[hz2];rfl)) ?_
   refine ka_loc fun h3 i3=>KA.up (ka_dict (k:= .i (j:Int)) (j:=q) (kvs:=rowV (rl (mP junk ka kb) alo blo (alo+k)) done) pLo pLo (if_pos rfl) (by rw[rowV,Qo];exact Qe (QC hdl) (by decide:5000+1≤10000)) fun h4 i4=>KX.up (h:=(h.upd q (.dict (rowV (rl (mP junk ka kb) alo blo (alo+k)) (done++[j])))).at (q+1)) ?_ (by rw[Hs.upd_at_upd,rowV_snoc _ hnd] at i4;exact i4)) i3
   refine kx_if (c:=decide (((st'.2.2:Nat):Int)<((rl (mP junk ka kb) alo blo (alo+k) j:Nat):Int))) (pub_cmp pLo pLo p2_gti) (fun c=> ?_) fun c=> ?_
   · have c:=of_decide_eq_true c
     refine kx_swap (names:=[Qq "besti",Qq "bestj",Qq "bestsize"]) (vs:=[.int ((alo+k+1-rl (mP junk ka kb) alo blo (alo+k) j:Nat):Int), .int ((j+1-rl (mP junk ka kb) alo blo (alo+k) j:Nat):Int), .int ((rl (mP junk ka kb) alo blo (alo+k) j:Nat):Int)])
      (pu_tuple (pes_cons ((pu_bin (pu_bin pLo pLo p2_subi) pu_int p2_addi).eq (subV (a:=alo+k) hr1)) (pes_cons ((pu_bin (pu_bin pLo pLo p2_subi) pu_int p2_addi).eq (subV hr2)) (pes_cons pLo pes_nil))) (le_szL (by rfl))) ?_ (by rfl) (mem3 rfl rfl rfl)
     refine kx_nil fun h5 i5=>kx_nil fun h6 i6=>⟨LI i alo ahi blo bhi aV bV d s (alo+k+1-rl (mP junk ka kb) alo blo (alo+k) j,j+1-rl (mP junk ka kb) alo blo (alo+k) j,rl (mP junk ka kb) alo blo (alo+k) j) p k q,_,LocSub.app _ [(Qq "j",_),(Qq "k",_)],i5.trans i6,_,rfl,by rw[hft], ?_,hlt'⟩
     rw[hft,List.foldl_append,←hst,List.foldl_cons,List.foldl_nil,bst,if_pos (Ww.mp c)]
   · have c:=of_decide_eq_false c
     refine kx_nil fun h5 i5=>kx_nil fun h6 i6=>⟨LI i alo ahi blo bhi aV bV d s st' p k q,_,LocSub.app _ [(Qq "j",_),(Qq "k",_)],i5.trans i6,_,rfl,by rw[hft], ?_,hlt'⟩
     rw[hft,List.foldl_append,←hst,List.foldl_cons,List.foldl_nil,bst,if_neg fun z=>c (Ww.mpr z)]
 · rintro l hk' ⟨st',rfl,rfl,hst,hlt⟩
   have hl:(intsV (rowL junk ka kb (alo+k))).length=(rowL junk ka kb (alo+k)).length:=Qo ..
   rw[hl] at hst hlt
   simp only[hl]
   have e:rowJ (mP junk ka kb) kb.length blo bhi (alo+k)=((rowL junk ka kb (alo+k)).take (rowL junk ka kb (alo+k)).length).filter fun j=>decide (blo≤j):=by
    rw[rowJ_eq]
    exact done_break hlt fun x hx'=>by rw[List.drop_length] at hx';cases hx'
   have:=tail st' (by rw[rowB,e];exact hst)
   simp only[prow,e] at this
   exact this
end
section
variable {mg mb:Str→Option Value}
variable {i d s alo ahi blo bhi:Nat}
theorem small5 {a:Nat} (h:a≤5000): -(2^61:Int)≤(a:Int)∧(a:Int)≤2^61:=⟨Int.le_trans (by decide) (Int.natCast_nonneg _),Int.le_trans (Int.ofNat_le.mpr h) (by decide)⟩
theorem flm_for (X:Top C mg mb) {L:Addr} {cells:List (Str × Addr)} (M:MK h i fs d s aV bV ka kb junk D) {p:Nat} (hp:h.σ p= .dead) (hpn:h.nx≤p) (ha:ahi≤ka.length) (hb:bhi≤kb.length) (h1:alo≤ahi)
 (tail:∀st,st=best (mP junk ka kb) kb.length alo ahi blo bhi→KX C (n+2) (F196 C L cells) (LB i alo ahi blo bhi aV bV d s st.1 st.2.1 st.2.2) h (R196 C 8) QF) :
 KX C (n+2) (F196 C L cells) (LO i alo ahi blo bhi aV bV d s (alo,blo,0) p) ((h.upd p (.dict [])).at (p+1)) (R196 C 7) QF:=by
 have s2:=small5 (Qe ha M.la)
 have s1:=small5 (Qe h1 (Qe ha M.la))
 refine kx_for (items:=((Wo ((ahi:Int)-(alo:Int)).toNat).map fun(i:Nat)=>V.int ((alo:Int)+(i:Int)))) (S:=Hs.none) (fun k l hk=>∃q st,h.σ q= .dead∧h.nx≤q∧l=LO i alo ahi blo bhi aV bV d s st q∧hk=(h.upd q (.dict (prow (mP junk ka kb) kb.length alo blo bhi k))).at (q+1)∧st=((Wo k).map (alo+·)).foldl (rowB (mP junk ka kb) alo kb.length blo bhi) (alo,blo,0))
  (pi_rng (pu_call0 (Top.ty X (by rfl) (by rfl)) kp_ty (pes_cons pLo (pes_cons pLo pes_nil)) pf_range2) s1.1 s1.2 s2.1 s2.2)
  ⟨p,_,hp,hpn,rfl,rfl,rfl⟩ (fun t l hk' _=> .none _) ?_ ?_
 · rintro k v l hk hv ⟨q,st,hq,hqn,rfl,rfl,hst⟩
   rw[Qb] at hv
   refine x_EA (QW.mp hv) fun k' hk' z155=> ?_;subst z155
   obtain⟨hk1,hk2⟩:=Qp.mp hk'
   rw[List.getElem_range] at hk2
   subst hk2
   rw[List.length_range,Int.toNat_sub] at hk1
   have M1:=M.up (In.newd (A:= .dict (prow (mP junk ka kb) kb.length alo blo bhi k)) hq hqn)
   have hq1:((h.upd q (.dict (prow (mP junk ka kb) kb.length alo blo bhi k))).at (q+1)).σ q= .dict (prow (mP junk ka kb) kb.length alo blo bhi k):=if_pos rfl
   refine ka_local (kx_set (pu_bmD pLo (show IsDct _ (.ref q) _ from Or.inl hq1)) (kx_asgE (ke_dict0 fun r hr hrn h1 i1=>ka_loc fun h2 i2=>KX.up (KX.locs (l:=LI i alo ahi blo bhi aV bV d s st q k r) (flm_row X M1 (alo:=alo) (ahi:=ahi) (blo:=blo) (bhi:=bhi) (p:=q) (q:=r) (k:=k) (st:=st) (Qy (Nat.add_lt_of_lt_sub' hk1) ha) hq1 hr hrn ?_) ?_) (i1.trans i2))))
   · intro st' hst'
     have hqr:q<r:=hrn
     have hrd:h.σ r= .dead:=by
      have:(if r=q then _ else h.σ r)=AO.dead:=hr
      rwa [if_neg (QE hqr)] at this
     have hrn':h.nx≤r:=Qe hqn (Qx hqr)
     refine kx_set pLo (kx_nil fun h3 i3=>⟨LO i alo ahi blo bhi aV bV d s st' r,_, ?_,(In.swapd hq hqn).trans i3,r,st',hrd,hrn',rfl,rfl, ?_⟩)
     ·exact LocSub.app _ [(Qq "i",_),(Qq "j2lenget",_),(Qq "newj2len",_)]
     ·rw[hst',hst,List.range_succ,Wt,List.foldl_append];rfl
   ·exact LocSub.refl _
 · rintro l hk ⟨q,st,hq,hqn,rfl,rfl,hst⟩
   refine KX.locs (KX.up (tail st ?_) (In.newd hq hqn)) (LocSub.app _ _)
   rw[hst,best,Qo,List.length_range,Int.toNat_sub]
theorem ok_flm (X:Top C mg mb):FnOk C 196 (fnOf (k196 C.w.params)) (bodyOf (fnOf (k196 C.w.params))) :=
 fnOk_of (c:=195) (oc:=k195 C.w.params) X.I X.T (by rfl) (by rfl)
theorem binds_flm (X:Top C mg mb) {a b d e f:V}:Binds C (fnOf (k196 C.w.params)) [a,b,d,e,f] [] [(Qq "self",a),(Qq "alo",b),(Qq "ahi",d),(Qq "blo",e),(Qq "bhi",f)]:=fun w h xs ks R cx hk ck=>by
 refine cx.e fun x1 r1 c1 cx=> ?_
 refine cx.e fun x2 r2 c2 cx=> ?_
 refine cx.e fun x3 r3 c3 cx=> ?_
 refine cx.e fun x4 r4 c4 cx=> ?_
 refine cx.e fun x5 r5 c5 cx=> ?_
 refine cx.e0 ?_
 refine kw0E hk ?_
 refine x_A (X.I 189 (k189 C.w.params) (by rfl)) fun h1 h2=> ?_
 exact⟨_, .of_defaults (T:=189) rfl (R.up h1 h2) rfl rfl rfl,rfl, .cons c1 (.cons c2 (.cons c3 (.cons c4 (.cons c5 .nil))))⟩
noncomputable abbrev matV (t:Nat × Nat × Nat):V:= .mat 135 [.int (t.1:Int), .int (t.2.1:Int), .int (t.2.2:Int)]
theorem back_le {Q:Nat→Nat→Bool} {alo blo:Nat}:∀(i j s:Nat),(back Q alo blo i j s).1≤i∧(back Q alo blo i j s).2.1≤j
 |0,j,s=>⟨Qt _,Qt _⟩
 |i+1,j,s=>by
  unfold back
  split
  ·have:=back_le (Q:=Q) (alo:=alo) (blo:=blo) i (j-1) (s+1);exact⟨QT this.1,Qe this.2 (Nat.sub_le ..)⟩
  ·exact⟨Qt _,Qt _⟩
theorem pf_flm (X:Top C mg mb) (M:MK h i fs d s aV bV ka kb junk D) (ha:ahi≤ka.length) (hb:bhi≤kb.length) (h1:alo≤ahi) (h2:blo≤bhi) :
 PF C (n+3) h (.top 196) [.obj i 242, .int (alo:Int), .int (ahi:Int), .int (blo:Int), .int (bhi:Int)] [] (matV (flm (mP junk ka kb) (mQ junk ka kb) kb.length alo ahi blo bhi)):=by
 refine pf_fn (ok_flm X) (binds_flm X) (loc:=[(Qq "self", .obj i 242),(Qq "alo", .int (alo:Int)),(Qq "ahi", .int (ahi:Int)),(Qq "blo", .int (blo:Int)),(Qq "bhi", .int (bhi:Int))]) fun h0 hi0 _ L cells=> ?_
 have M0:=M.up hi0
 refine kx_doc ?_
 refine kx_asg (v:= .tup [aV,bV, .ref d, .bm "set.__contains__" (.ref s)]) (pu_tuple (pes_cons (pu_attr pLo (pg_field X.I M0.inst M0.a M0.an)) (pes_cons (pu_attr pLo (pg_field X.I M0.inst M0.b M0.bn)) (pes_cons (pu_attr pLo (pg_field X.I M0.inst M0.b2j (by intro _ e;cases e)))
  (pes_cons (pu_bmS (pu_attr pLo (pg_field X.I M0.inst M0.bj (by intro _ e;cases e))) M0.set) pes_nil)))) (le_szL (by rfl))) ?_
 refine ka_tup (kal_cons (ka_loc (KAL.all (kal_cons (ka_loc (KAL.all (kal_cons (ka_loc (KAL.all (kal_cons (ka_loc (KAL.all (kal_nil fun h3 i3=>KX.up ?_ i3)))))))))))))
 refine kx_ifF (pub_cmp (pu_local (v:= .int (ahi:Int)) (by rfl) (by rfl)) pu_none (p2_isnone (by intro _ e;cases e))) ?_
 refine kx_ifF (pub_cmp (pu_local (v:= .int (bhi:Int)) (by rfl) (by rfl)) pu_none (p2_isnone (by intro _ e;cases e))) ?_
 refine kx_swap (names:=[Qq "besti",Qq "bestj",Qq "bestsize"]) (vs:=[.int (alo:Int), .int (blo:Int), .int 0]) (pu_tuple (pes_cons pLo (pes_cons pLo (pes_cons pu_int pes_nil))) (le_szL (by rfl))) ?_ (by rfl) (by intro y hy;simp only[QY,QZ,or_false] at hy;rcases hy with rfl|rfl|rfl<;>rfl)
 refine kx_asgE (ke_dict0 fun p hp hpn h1' i1=>ka_loc fun h2' i2=>KX.up ?_ (i1.trans i2))
 refine kx_set (pu_list pes_nil) (KX.locs (l:=LO i alo ahi blo bhi aV bV d s (alo,blo,0) p) (flm_for X M0 (alo:=alo) (ahi:=ahi) (blo:=blo) (bhi:=bhi) (p:=p) hp hpn ha hb h1 fun st hst=> ?_) ?_)
 rotate_left
 ·exact .cons (by rfl) (.cons (by rfl) (.cons (by rfl) (.cons (by rfl) (.cons (by rfl) (.cons (by rfl) (.cons (by rfl) (.cons (by rfl) (.cons (by rfl) (.cons (by rfl) (.cons (by rfl) (.cons (by rfl) (.cons (by rfl) (.cons (by rfl) (.nil _))))))))))))))
 have hin:=best_in (P:=mP junk ka kb) hb h1 h2
 rw[←hst] at hin
 have z1:=Qe (Qe (QP _ _) hin.1) ha
 have z2:=Qe (Qe (QP _ _) hin.2) hb
 refine flm_w1 M0 z1 z2 fun st1 hst1=> ?_
 have hb1:=back_le (Q:=mP junk ka kb) (alo:=alo) (blo:=blo) st.1 st.2.1 st.2.2
 rw[←hst1] at hb1
 refine flm_w2 M0 ha hb ?_
 refine flm_w3 M0 (Qe hb1.1 z1) (Qe hb1.2 z2) fun st2 hst2=> ?_
 refine flm_w4 M0 ha hb ?_
 refine kx_ret ((pu_call0 (Top.top X (by rfl) (by rfl)) (kp_match X.I (matK _)) (pes_cons pLo (pes_cons pLo (pes_cons pLo pes_nil))) (pf_match X)).eq ?_) fun h4 i4=>⟨rfl,i4⟩
 subst hst;subst hst1;subst hst2;rfl
end
section
variable {mg mb:Str→Option Value}
variable {i d s:Nat}
noncomputable abbrev trV (t:Tr):V:= .tup [.int (t.1:Int), .int (t.2.1:Int), .int (t.2.2:Int)]
noncomputable abbrev wnV (w:Wn):V:= .tup [.int (w.1:Int), .int (w.2.1:Int), .int (w.2.2.1:Int), .int (w.2.2.2:Int)]
noncomputable def mkV:V→V
 | .tup vs=> .mat 135 vs
 |v=>v
theorem ok_mmake (X:Top C mg mb):FnOk C 89 (fnOf (k89 C.w.params)) (bodyOf (fnOf (k89 C.w.params))) :=
 fnOk_of (c:=88) (oc:=k88 C.w.params) X.I X.T (by rfl) (by rfl)
theorem mapF_make (X:Top C mg mb) {ts:List Tr}:MapF C (n+1) h 89 135 (ts.map trV) mkV:=fun hb hi x hx Q q=>by
 refine x_EA (QO.mp hx) fun t _ z156=> ?_;subst z156
 exact cd_fn (ok_mmake X) binds2 (loc:=[(Qq "cls", .top 135),(Qq "iterable",trV t)]) (h1:=hb) (bind_local (by rfl) (bind_local (by rfl) (by rfl))) fun L cells =>
  (show KX C n _ _ hb _ _ from kx_doc (kx_set (pu_mcall0 (Top.ty X (by rfl) (by rfl)) pm_tup_new (pes_cons pLo (pes_cons pLo pes_nil)) (pf_tup_new X.I (matK _) (le_szL (by rfl))))
   (kx_ifF (PuB.eq (pub_cmp (pu_call0 (Top.blt X (by rfl) (by rfl)) kp_blt (pes_cons pLo pes_nil) (pf_lenM X.I (matK _) (by rfl) (QV rfl))) pu_int p2_nei) (by rfl)) (kx_ret pLo fun h' hi'=>q _ hi')))) hb (.refl _)
noncomputable abbrev F203 (C:Cx) (L:Addr) (cells:List (Str × Addr)):Fr:=⟨envFn 203 (fnOf (k203 C.w.params)) L cells,[]⟩
noncomputable abbrev R203 (C:Cx) (k:Nat):List Stmt:=(bodyOf (fnOf (k203 C.w.params))).drop k
noncomputable abbrev LG (i la lb p q:Nat):Loc:=[(Qq "self", .obj i 242),(Qq "la", .int (la:Int)),(Qq "lb", .int (lb:Int)),(Qq "queue", .ref p),(Qq "matching_blocks", .ref q)]
theorem ok_gmb (X:Top C mg mb):FnOk C 203 (fnOf (k203 C.w.params)) (bodyOf (fnOf (k203 C.w.params))) :=
 fnOk_of (c:=202) (oc:=k202 C.w.params) X.I X.T (by rfl) (by rfl)
noncomputable def whB:Stmt→List Stmt
 | .While _ b _ _=>b
 |_=>[]
noncomputable def ifB:Stmt→List Stmt
 | .If _ b _ _=>b
 |_=>[]
noncomputable abbrev LH (i la lb p q:Nat) (w:Wn) (m:Tr):Loc:=LG i la lb p q++[(Qq "alo", .int (w.1:Int)),(Qq "ahi", .int (w.2.1:Int)),(Qq "blo", .int (w.2.2.1:Int)),(Qq "bhi", .int (w.2.2.2:Int)),(Qq "i", .int (m.1:Int)),(Qq "j", .int (m.2.1:Int)),(Qq "k", .int (m.2.2:Int)),(Qq "x",matV m)]
theorem map_snoc {α β:Type} (f:α→β) (l:List α) (a:α):l.map f++[f a]=(l++[a]).map f:=by rw[Wt];rfl
theorem dec2 {a k b x:Nat}:(decide ((a:Int)<(k:Int))&&(decide ((b:Int)<(x:Int))&&true))=decide (a<k∧b<x):=by
 rw[Bool.and_true,decide_eq_decide.mpr Ww,decide_eq_decide.mpr Ww,Bool.decide_and]
theorem gmb_right {L:Addr} {cells:List (Str × Addr)} {la lb p q:Nat} (hpq:p<q) {w:Wn} {m:Tr} {qs:List Wn} {b:AO} (hqs:qs.length≤9002)
 (fin:∀h',(H2 h p q (.list ((qs++wR w m).map wnV)) b).In h'→QF .next (LH i la lb p q w m) h') :
 KX C (n+4) (F203 C L cells) (LH i la lb p q w m) (H2 h p q (.list (qs.map wnV)) b) ((ifB (stAt (whB (stAt (bodyOf (fnOf (k203 C.w.params))) 5)) 2)).drop 2) QF:=by
 refine kx_if (c:=decide (m.1+m.2.2<w.2.1∧m.2.1+m.2.2<w.2.2.2)) (PuB.eq (pub_and (pub_cmp (pu_bin pLo pLo p2_addi) pLo p2_lti) fun z1=>pub_and (pub_cmp (pu_bin pLo pLo p2_addi) pLo p2_lti) fun z2=>pub_and_nil) ?_) (fun c=> ?_) fun c=> ?_
 ·exact dec2
 · have e:wR w m=[(m.1+m.2.2,w.2.1,m.2.1+m.2.2,w.2.2.2)]:=if_pos (of_decide_eq_true c)
   rw[e] at fin
   refine kx_expr (ke_mcall0 pLo (pm_append (v:= .ref p) (xs:=qs.map wnV) (H2.atp hpq)) (pes_cons (v:=wnV (m.1+m.2.2,w.2.1,m.2.1+m.2.2,w.2.2.2)) (pu_tuple (pes_cons (pu_bin pLo pLo p2_addi) (pes_cons pLo (pes_cons (pu_bin pLo pLo p2_addi) (pes_cons pLo pes_nil)))) (le_szL (by rfl))) pes_nil)
    (kc_append (i:=p) (xs:=qs.map wnV) (H2.atp hpq) (sizeOk (by rw[Qo];exact Qe hqs (by decide))) fun h1 i1=>kx_nil fun h2 i2=>kx_nil fun h3 i3=>fin h3 (Hs.In.trans ?_ (i1.trans (i2.trans i3)))))
   rw[H2.fst hpq,map_snoc]
   exact .refl _
 · have e:wR w m=[]:=if_neg (of_decide_eq_false c)
   rw[e,Q4] at fin
   exact kx_nil fun h2 i2=>kx_nil fun h3 i3=>fin h3 (i2.trans i3)
theorem gmb_left {L:Addr} {cells:List (Str × Addr)} {la lb p q:Nat} (hpq:p<q) {w:Wn} {m:Tr} {qs:List Wn} {b:AO} (hqs:qs.length≤9000)
 (fin:∀h',(H2 h p q (.list ((qs++wL w m++wR w m).map wnV)) b).In h'→QF .next (LH i la lb p q w m) h') :
 KX C (n+4) (F203 C L cells) (LH i la lb p q w m) (H2 h p q (.list (qs.map wnV)) b) ((ifB (stAt (whB (stAt (bodyOf (fnOf (k203 C.w.params))) 5)) 2)).drop 1) QF:=by
 refine kx_if (c:=decide (w.1<m.1∧w.2.2.1<m.2.1)) (PuB.eq (pub_and (pub_cmp pLo pLo p2_lti) fun z1=>pub_and (pub_cmp pLo pLo p2_lti) fun z2=>pub_and_nil) ?_) (fun c=> ?_) fun c=> ?_
 ·exact dec2
 · have e:wL w m=[(w.1,m.1,w.2.2.1,m.2.1)]:=if_pos (of_decide_eq_true c)
   rw[e] at fin
   refine kx_expr (ke_mcall0 pLo (pm_append (v:= .ref p) (xs:=qs.map wnV) (H2.atp hpq)) (pes_cons (v:=wnV (w.1,m.1,w.2.2.1,m.2.1)) (pu_tuple (pes_cons pLo (pes_cons pLo (pes_cons pLo (pes_cons pLo pes_nil)))) (le_szL (by rfl))) pes_nil)
    (kc_append (i:=p) (xs:=qs.map wnV) (H2.atp hpq) (sizeOk (by rw[Qo];exact Qe hqs (by decide))) fun h1 i1=>kx_nil fun h2 i2=>KX.up (gmb_right hpq (qs:=qs++[(w.1,m.1,w.2.2.1,m.2.1)]) (b:=b) (h:=h) ?_ fin) (Hs.In.trans ?_ (i1.trans i2))))
   · rw[Qn]
     exact Qe (QC hqs) (by decide:9001≤9002)
   · rw[H2.fst hpq,map_snoc]
     exact .refl _
 · have e:wL w m=[]:=if_neg (of_decide_eq_false c)
   rw[e,Q4] at fin
   exact kx_nil fun h2 i2=>KX.up (gmb_right hpq (Qe hqs (by decide)) fin) i2
noncomputable def ms (qs:List Wn):Nat:=(qs.map fun w=>2*wd w+1).sum
noncomputable def QI (P Q:Nat→Nat→Bool) (lb la k:Nat) (acc:List Tr) (qs:List Wn):Prop:=(∀w∈qs,OkW lb w∧w.2.1≤la)∧(acc++qs.flatMap (gmW P Q lb)).Perm (gmW P Q lb (0,la,0,lb))∧ms qs≤k∧k≤2*la+1
theorem two_le {a b c s:Nat} (h1:a≤b) (hs:s≠0) (h2:b+s≤c):(2*(b-a)+1)+(2*(c-(b+s))+1)≤2*(c-a):=by
 refine x_E (Nat.le.dest h1) fun x z157=> ?_;subst z157
 refine x_E (Nat.le.dest h2) fun y z158=> ?_;subst z158
 rw[Nat.add_sub_cancel_left,Nat.add_sub_cancel_left,Wq (a+x),Wq a,Nat.add_sub_cancel_left]
 refine Qe (QK ((Wr (2*x+1) (2*y) 1).trans (Nat.mul_add 2 (x+1) y).symm)) (Nat.mul_le_mul_left 2 ?_)
 rw[Wq]
 exact Q2 (Wi (Nat.pos_of_ne_zero hs) y) x
theorem ms_app {a b:List Wn}:ms (a++b)=ms a+ms b:=by rw[ms,Wt,List.sum_append];rfl
theorem ms_len (qs:List Wn):qs.length≤ms qs:=by
 induction qs with
 |nil=>exact Qt _
 |cons a r ih=>exact Qe (QK (Nat.add_comm r.length 1)) (Nat.add_le_add (Q9 1 _) ih)
theorem QI.zero {P Q:Nat→Nat→Bool} {lb la:Nat}:QI P Q lb la (2*la+1) [] [(0,la,0,lb)] :=
 ⟨fun w hw=>by rw[Qs.mp hw];exact⟨⟨Qz _,Qz _,Qt _⟩,Qt _⟩,by rw[List.flatMap_cons,List.flatMap_nil,Q4,List.nil_append],Qt _,Qt _⟩
section
variable {P Q:Nat→Nat→Bool} {lb la k:Nat} {acc:List Tr} {qs:List Wn} {w:Wn} (I:QI P Q lb la k acc qs)
include I
theorem QI.len:acc.length≤(gmW P Q lb (0,la,0,lb)).length:=by rw[←I.2.1.length_eq,Qn];exact QP ..
theorem QI.qlen:qs.length≤2*la+1:=Qe (ms_len qs) (Qe I.2.2.1 I.2.2.2)
end
theorem QI.fin {P Q:Nat→Nat→Bool} {lb la k:Nat} {acc:List Tr} (I:QI P Q lb la k acc []):acc.Perm (gmW P Q lb (0,la,0,lb)):=by
 have:=I.2.1
 rw[List.flatMap_nil,Q4] at this
 exact this
theorem QI.next {P Q:Nat→Nat→Bool} {lb la k:Nat} {acc:List Tr} {qs:List Wn} {w:Wn} (I:QI P Q lb la k acc (qs++[w])):OkW lb w∧w.2.1≤la∧∃m,flw P Q lb w=m∧(m.2.2=0→k-1<k∧QI P Q lb la (k-1) acc qs)∧(m.2.2≠0→k-1<k∧QI P Q lb la (k-1) (acc++[m]) (qs++wL w m++wR w m)):=by
 obtain⟨hok,hpm,hk,hkk⟩:=I
 refine x_A (hok w (List.mem_append_right _ (Qs.mpr rfl))) fun okw hwa=> ?_
 have okq:∀v∈qs,OkW lb v∧v.2.1≤la:=fun v hv=>hok v (List.mem_append_left _ hv)
 clear hok
 rw[ms_app] at hk
 rw[List.flatMap_append,List.flatMap_cons,List.flatMap_nil,Q4] at hpm
 have hgm:=gmW_eq (P:=P) (Q:=Q) okw
 have hm:=flw_in (P:=P) (Q:=Q) okw
 have hl:k-1<k:=Nat.sub_lt (Qy (Nat.succ_pos _) hk) Nat.one_pos
 refine⟨okw,hwa,_,rfl, ?_⟩
 generalize flw P Q lb w=m at hgm hm ⊢
 refine⟨fun z=>⟨hl,okq, ?_,Nat.le_sub_one_of_lt (Qy (Nat.lt_add_of_pos_right (Nat.succ_pos _)) hk),Qe (Nat.sub_le ..) hkk⟩,fun z=>⟨hl,fun v hv=> ?_, ?_,Nat.le_sub_one_of_lt (Qy (Nat.lt_succ_of_le ?_) hk),Qe (Nat.sub_le ..) hkk⟩⟩
 · rw[hgm,if_pos z,Q4] at hpm
   exact hpm
 · rcases List.mem_append.mp hv with hv|hv
   · rcases List.mem_append.mp hv with hv|hv
     ·exact okq v hv
     · refine x_AA (wL_ok okw hm hv) fun o e _=> ?_
       exact⟨o,e▸Qe (Qe (QP ..) hm.2.2.1) hwa⟩
   · refine x_AA (wR_ok okw hm hv) fun o e _=> ?_
     exact⟨o,e▸hwa⟩
 · rw[hgm,if_neg z] at hpm
   refine List.Perm.trans ?_ hpm
   rw[List.flatMap_append,List.flatMap_append,List.append_assoc,List.append_assoc]
   refine List.Perm.append_left _ ?_
   rw[←List.append_assoc (qs.flatMap _),←List.append_assoc (qs.flatMap _),List.singleton_append]
   exact List.perm_middle.symm
 · rw[ms_app,ms_app,Wq]
   have e1:ms (wL w m)≤2*(m.1-w.1)+1:=by
    unfold wL
    split
    ·exact Qt _
    ·exact Qz _
   have e2:ms (wR w m)≤2*(w.2.1-(m.1+m.2.2))+1:=by
    unfold wR
    split
    ·exact Qt _
    ·exact Qz _
   exact Q2 (Qe (Nat.add_le_add e1 e2) (two_le hm.1 z hm.2.2.1)) _
theorem nz_of {x:Nat} (c:((x:Int) != 0)=true):x≠0:=fun e=>by subst e;cases c
theorem z_of {x:Nat} (c:((x:Int) != 0)=false):x=0:=by
 cases x with
 |zero=>rfl
 |succ x=>cases(show true=false from c)
theorem gmb_loop (X:Top C mg mb) {L:Addr} {cells:List (Str × Addr)} (M:MK h i fs d s aV bV ka kb junk D) (hf:fs.lookup (Qq "find_longest_match")=none) {p q:Nat} (hp:h.σ p= .dead) (hq:h.σ q= .dead) (hpn:h.nx≤p) (hpq:p<q) (hla:ka.length≤4000)
 (h64:(gmW (mP junk ka kb) (mQ junk ka kb) kb.length (0,ka.length,0,kb.length)).length<64)
 (tail:∀acc:List Tr,acc.Perm (gmW (mP junk ka kb) (mQ junk ka kb) kb.length (0,ka.length,0,kb.length))→KX C (n+4) (F203 C L cells) (LG i ka.length kb.length p q) (H2 h p q (.list []) (.list (acc.map matV))) (R203 C 6) QF) :
 KX C (n+4) (F203 C L cells) (LG i ka.length kb.length p q) (H2 h p q (.list [wnV (0,ka.length,0,kb.length)]) (.list [])) (R203 C 5) QF:=by
 refine kx_while (fun k l hk=>∃(acc:List Tr) (qs:List Wn),l=LG i ka.length kb.length p q∧hk=H2 h p q (.list (qs.map wnV)) (.list (acc.map matV))∧QI (mP junk ka kb) (mQ junk ka kb) kb.length ka.length k acc qs) (2*ka.length+1) ⟨[],_,rfl,rfl,QI.zero⟩ ?_
 rintro k l hk ⟨acc,qs,rfl,rfl,I⟩
 have hacc:=Qj I.len h64
 have hqz:qs.length≤9000:=Qe I.qlen (Qe (QC (Nat.mul_le_mul_left 2 hla)) (by decide))
 refine⟨!(qs.map wnV).isEmpty,pub_value pLo (pt_list (v:= .ref p) (H2.atp hpq) (sizeOk (by rw[Qo];exact Qe hqz (by decide)))),fun hc=> ?_,fun hc=> ?_⟩
 · rcases List.eq_nil_or_concat qs with rfl|⟨qs',w,rfl⟩
   ·cases hc
   clear hc
   rw[List.concat_eq_append] at I hqz ⊢
   rw[Qn] at hqz
   have hqz:=We hqz
   obtain⟨okw,hwa,m,em,n0,n1⟩:=I.next
   refine kx_asgE (ke_mcall0 pLo (pm_pop (v:= .ref p) (xs:=(qs'++[w]).map wnV) (H2.atp hpq)) pes_nil (kc_pop (xs:=qs'.map wnV) (v:=wnV w) (by rw[H2.atp hpq,Wt];rfl) (by rw[Qo];exact hqz) fun h1 i1=>KA.up (h:=H2 h p q (.list (qs'.map wnV)) (.list (acc.map matV))) ?_ (by rw[←H2.fst hpq];exact i1)))
   have M':=M.up (H2.inn hp hq (Qe hpn (Qx hpq)) (a:= .list (qs'.map wnV)) (b:= .list (acc.map matV)))
   refine ka_tup (kal_cons (ka_loc (KAL.all (kal_cons (ka_loc (KAL.all (kal_cons (ka_loc (KAL.all (kal_cons (ka_loc (KAL.all (kal_nil fun h2 i2=>KX.up ?_ i2)))))))))))))
   refine kx_asg2 (v:=matV m) (pu_mcall0 pLo (pm_own X.I (kp_fn (ok_flm X)) M'.inst hf) (pes_cons pLo (pes_cons pLo (pes_cons pLo (pes_cons pLo pes_nil)))) ((pf_flm X M' hwa okw.2.2 okw.1 okw.2.1).eq (congrArg matV em)))
    (ka_mat X.I (matK _) (by rfl) (kal_cons (ka_loc (KAL.all (kal_cons (ka_loc (KAL.all (kal_cons (ka_loc (KAL.all (kal_nil fun h3 i3=>KA.up ?_ i3)))))))))))
   refine ka_local (kx_if (pub_value pLo pt_int) (fun c=> ?_) fun c=> ?_)
   · have n1:=n1 (nz_of c)
     refine kx_expr (ke_mcall0 pLo (pm_append (v:= .ref q) (xs:=acc.map matV) H2.atq) (pes_cons pLo pes_nil)
      (kc_append (i:=q) (xs:=acc.map matV) H2.atq (sizeOk (by rw[Qo];exact Qe (Qx hacc) (by decide))) fun h4 i4=>KX.up (gmb_left (h:=h) hpq (w:=w) (m:=m) (qs:=qs') (b:= .list ((acc++[m]).map matV)) hqz fun h5 i5=> ?_) (Hs.In.trans ?_ i4)))
     ·exact KX.up (kx_nil fun h6 i6=>⟨k-1,LG i ka.length kb.length p q,_,n1.1,LocSub.app _ _,i6,acc++[m],_,rfl,rfl,n1.2⟩) i5
     · rw[H2.snd,map_snoc]
       exact .refl _
   · have n0:=n0 (z_of c)
     exact kx_nil fun h4 i4=>KX.up (kx_nil fun h5 i5=>⟨k-1,LG i ka.length kb.length p q,_,n0.1,LocSub.app _ _,i5,acc,qs',rfl,rfl,n0.2⟩) i4
 · rcases List.eq_nil_or_concat qs with rfl|⟨qs',w,rfl⟩
   ·exact tail acc I.fin
   · rw[List.concat_eq_append,Wt] at hc
     cases qs'<;>cases hc
end
section
variable {mg' mb:Str→Option Value}
variable {i d s:Nat}
noncomputable abbrev LN (i la lb p q r:Nat) (c:Tr):Loc:=LG i la lb p q++[(Qq "i1", .int (c.1:Int)),(Qq "j1", .int (c.2.1:Int)),(Qq "k1", .int (c.2.2:Int)),(Qq "non_adjacent", .ref r)]
noncomputable abbrev HN (h:Hs) (r:Nat) (na:List Tr):Hs:=(h.upd r (.list (na.map trV))).at (r+1)
theorem HN.at_ {r:Nat} {na:List Tr}:(HN h r na).σ r= .list (na.map trV):=if_pos rfl
theorem HN.app {r:Nat} {na:List Tr} {t:Tr}:((HN h r na).upd r (.list (na.map trV++[trV t])))=HN h r (na++[t]):=by
 rw[Hs.upd_at_upd,map_snoc]
noncomputable def ifE:Stmt→List Stmt
 | .If _ _ b _=>b
 |_=>[]
noncomputable abbrev LM (i la lb p q r:Nat) (c t:Tr):Loc:=LN i la lb p q r c++[(Qq "i2", .int (t.1:Int)),(Qq "j2", .int (t.2.1:Int)),(Qq "k2", .int (t.2.2:Int))]
theorem gmb_next {L:Addr} {cells:List (Str × Addr)} {la lb p q r:Nat} {c t:Tr}
 (fin:∀h',h.In h'→QF .next (LM i la lb p q r t t) h') :
 KX C (n+4) (F203 C L cells) (LM i la lb p q r c t) h ((ifE (stAt (forB (stAt (bodyOf (fnOf (k203 C.w.params))) 9)) 0)).drop 1) QF :=
 kx_swap (names:=[Qq "i1",Qq "j1",Qq "k1"]) (vs:=[.int (t.1:Int), .int (t.2.1:Int), .int (t.2.2:Int)]) (pu_tuple (pes_cons pLo (pes_cons pLo (pes_cons pLo pes_nil))) (le_szL (by rfl))) (kx_nil fun h1 i1=>fin h1 i1) (by rfl) (by intro y hy;simp only[QY,QZ,or_false] at hy;rcases hy with rfl|rfl|rfl<;>rfl)
theorem eq2I {a b c d:Nat}:(((a:Int)==(b:Int))&&(((c:Int)==(d:Int))&&true))=decide (a=b∧c=d):=by rw[Bool.and_true,beqI,beqI,Bool.decide_and]
theorem neI {a:Nat}:((a:Int) != 0)=decide (a≠0):=by cases a<;>rfl
theorem gmb_merge (X:Top C mg' mb) {L:Addr} {cells:List (Str × Addr)} {la lb p q r:Nat} {gs:List Tr} (hq:h.σ q= .list (gs.map matV)) (hr:h.σ r= .dead) (hg:gs.length<64)
 (tail:∀c na,na.length≤64→na++mg c []=mg (0,0,0) gs→KX C (n+4) (F203 C L cells) (LN i la lb p q r c) (HN h r na) (R203 C 10) QF) :
 KX C (n+4) (F203 C L cells) (LN i la lb p q r (0,0,0)) (HN h r []) (R203 C 9) QF:=by
 have hqr:q≠r:=fun e=>by rw[e,hr] at hq;cases hq
 have hNq:∀na,(HN h r na).σ q= .list (gs.map matV):=fun na=>(if_neg hqr).trans hq
 refine kx_for (items:=gs.map matV) (S:=Hs.none.upd q (.list (gs.map matV))) (fun t l hk=>∃(c:Tr) (na:List Tr),l=LN i la lb p q r c∧hk=HN h r na∧na++mg c (gs.drop t)=mg (0,0,0) gs∧na.length≤t)
  (pi_ref pLo (hNq [])) ⟨(0,0,0),[],rfl,rfl,rfl,Qt _⟩ (fun k l hk ⟨c,na,_,e,_⟩=>e▸Hs.In.only (hNq na)) ?_ ?_
 · rintro k v l hk hv ⟨c,na,rfl,rfl,e,hn⟩
   rw[Qb] at hv
   refine x_EA (QW.mp hv) fun t ht z159=> ?_;subst z159
   obtain⟨hk1,hk2⟩:=Qp.mp ht
   rw[List.drop_eq_getElem_cons hk1,hk2,mg] at e
   refine ka_mat X.I (matK _) (by rfl) (kal_cons (ka_loc (KAL.all (kal_cons (ka_loc (KAL.all (kal_cons (ka_loc (KAL.all (kal_nil fun h3 i3=>KX.up ?_ i3))))))))))
   refine kx_if (c:=decide (c.1+c.2.2=t.1∧c.2.1+c.2.2=t.2.1)) (PuB.eq (pub_and (pub_cmp (pu_bin pLo pLo p2_addi) pLo p2_eqi) fun z1=>pub_and (pub_cmp (pu_bin pLo pLo p2_addi) pLo p2_eqi) fun z2=>pub_and_nil) (eq2I (a:=c.1+c.2.2) (c:=c.2.1+c.2.2))) (fun z=> ?_) fun z=> ?_
   · rw[if_pos (of_decide_eq_true z)] at e
     refine kx_aug (v:= .int (c.2.2:Int)) (by rfl) pLo p2_iaddi (kx_nil fun h4 i4=>kx_nil fun h5 i5=>⟨LN i la lb p q r (c.1,c.2.1,c.2.2+t.2.2),_,LocSub.app _ _,i4.trans i5,_,na,rfl,rfl,e,QT hn⟩)
   · rw[if_neg (of_decide_eq_false z)] at e
     refine kx_if (c:=decide (c.2.2≠0)) (PuB.eq (pub_value pLo pt_int) neI) (fun z2=> ?_) fun z2=> ?_
     · rw[if_neg (of_decide_eq_true z2),←List.append_assoc] at e
       refine kx_expr (ke_mcall0 pLo (pm_append (v:= .ref r) (xs:=na.map trV) HN.at_) (pes_cons (v:=trV c) (pu_tuple (pes_cons pLo (pes_cons pLo (pes_cons pLo pes_nil))) (le_szL (by rfl))) pes_nil)
        (kc_append (i:=r) (xs:=na.map trV) HN.at_ (sizeOk (by rw[Qo];exact Qe hn (Qe (Qx (Nat.lt_trans hk1 hg)) (by decide)))) fun h4 i4=>KX.up (kx_nil fun h5 i5=>KX.up (gmb_next (i:=i) (c:=c) (t:=t) (p:=p) (q:=q) (r:=r) (la:=la) (lb:=lb) fun h6 i6=>kx_nil fun h7 i7=>⟨LN i la lb p q r t,HN h r (na++[c]),LocSub.app _ _,i6.trans i7,t,na++[c],rfl,rfl,e,by rw[Qn];exact QC hn⟩) i5) (HN.app (h:=h)▸i4)))
     · have z3:c.2.2=0:=Decidable.of_not_not (of_decide_eq_false z2)
       rw[if_pos z3,List.nil_append] at e
       exact kx_nil fun h5 i5=>KX.up (gmb_next (i:=i) (c:=c) (t:=t) (p:=p) (q:=q) (r:=r) (la:=la) (lb:=lb) fun h6 i6=>kx_nil fun h7 i7=>⟨LN i la lb p q r t,HN h r na,LocSub.app _ _,i6.trans i7,t,na,rfl,rfl,e,QT hn⟩) i5
 · rintro l hk ⟨c,na,rfl,rfl,e,hn⟩
   rw[Qo,List.drop_length] at e
   exact tail c na (by rw[Qo] at hn;exact Qe hn (Qx hg)) e
end
section
variable {mg' mb:Str→Option Value}
variable {i d s:Nat}
noncomputable abbrev trP (m:Tr):Int × List V:=((m.1:Int),[.int (m.2.1:Int), .int (m.2.2:Int)])
theorem map_trP (l:List Tr):(l.map trP).map (mtV 135)=l.map matV:=by rw[Q7];rfl
theorem map_mkV (l:List Tr):(l.map trV).map mkV=l.map matV:=by rw[Q7];rfl
theorem gm_rises {P Q:Nat→Nat→Bool} {lb:Nat} {w:Wn} (ok:OkW lb w):((gmW P Q lb w).map trP).Pairwise fun a b=>a.1<b.1:=by
 refine x_A (gmW_in (P:=P) (Q:=Q) ok) fun h1 h2=> ?_
 rw[List.pairwise_map]
 refine h2.imp_of_mem fun{a b} ha hb h=> ?_
 have:=(h1 a ha).2.2.2.2
 have:=h.1
 show(a.1:Int)<b.1
 omega
theorem mg_len:∀(l:List Tr) (c:Tr),(mg c l).length≤l.length+1
 |[],c=>by
  unfold mg
  split
  ·exact Qz _
  ·exact Qt _
 |t::r,c=>by
  unfold mg
  split
  ·exact QT (mg_len r _)
  · rw[Qn]
    have:=mg_len r t
    have e:(if c.2.2=0 then[] else[c]:List Tr).length≤1:=by split<;>simp
    rw[List.length_cons];omega
theorem gmb_end (X:Top C mg' mb) {L:Addr} {cells:List (Str × Addr)} {p q r:Nat} {bs:List Tr} {c:Tr} {na:List Tr} (hi:h.σ i= .inst fs) (hfz:fs.length<50) (hr:h.σ r= .dead) (hrn:h.nx≤r) {la lb:Nat}
 (hn:na.length≤64) (e:na++mg c []=bs)
 (fin:∀s,h.σ s= .dead→h.nx≤s→∀h',(((h.upd s (.list ((bs++[(la,lb,0)]).map matV))).upd i (.inst (upd (Qq "matching_blocks") (.ref s) fs))).at (s+1)).In h'→QF (.ret (.ref s)) (LN i la lb p q r c) h') :
 KX C (n+4) (F203 C L cells) (LN i la lb p q r c) (HN h r na) (R203 C 10) QF:=by
 have next:KX C (n+4) (F203 C L cells) (LN i la lb p q r c) (HN h r bs) (R203 C 11) QF:=by
  have hbl:bs.length≤65:=by
   rw[←e,Qn]
   have:=mg_len [] c
   rw[List.length_nil] at this;omega
  refine kx_expr (ke_mcall0 pLo (pm_append (v:= .ref r) (xs:=bs.map trV) HN.at_) (pes_cons (v:=trV (la,lb,0)) (pu_tuple (pes_cons pLo (pes_cons pLo (pes_cons pu_int pes_nil))) (le_szL (by rfl))) pes_nil)
   (kc_append (i:=r) (xs:=bs.map trV) HN.at_ (sizeOk (by rw[Qo];omega)) fun h1 i1=>KX.up ?_ (HN.app (h:=h)▸i1)))
  have hL:IsLst (HN h r (bs++[(la,lb,0)])) (.ref r) ((bs++[(la,lb,0)]).map trV):=HN.at_ (h:=h) (r:=r) (na:=bs++[(la,lb,0)])
  refine kx_asgE (ke_lmap (src:= .ref r) (xs:=(bs++[(la,lb,0)]).map trV) X.I (by rfl) (by rfl) (by rfl) (Top.ty X (by rfl) (by rfl)) (Top.ty X (by rfl) (by rfl)) (Top.top X (by rfl) (by rfl)) pLo hL (sizeOk (by rw[Qo,Qn];exact Qe (QC hbl) (by decide))) (mapF_make X) fun s hd hn1 h1 i1=>KA.up ?_ i1)
  have hsr:s≠r:=fun z=>by rw[z] at hd;rw[HN.at_] at hd;cases hd
  have hd':h.σ s= .dead:=by
   have:(if s=r then _ else h.σ s)=AO.dead:=hd
   rwa [if_neg hsr] at this
  have hir:i≠r:=fun z=>by rw[z,hr] at hi;cases hi
  have his:i≠s:=fun z=>by rw[z,hd'] at hi;cases hi
  rw[map_mkV]
  have key:(((h.upd s (.list ((bs++[(la,lb,0)]).map matV))).upd i (.inst (upd (Qq "matching_blocks") (.ref s) fs))).at (s+1)).In ((((HN h r (bs++[(la,lb,0)])).upd s (.list ((bs++[(la,lb,0)]).map matV))).at (s+1)).upd i (.inst (upd (Qq "matching_blocks") (.ref s) fs))):=⟨Qt _,fun j=>by
   show AO.le (if j=i then _ else if j=s then _ else if j=r then _ else h.σ j) (if j=i then _ else if j=s then _ else h.σ j)
   by_cases z1:j=i
   ·rw[if_pos z1,if_pos z1];exact AO.le_refl _
   · rw[if_neg z1,if_neg z1]
     by_cases z2:j=s
     ·rw[if_pos z2,if_pos z2];exact AO.le_refl _
     · rw[if_neg z2,if_neg z2]
       by_cases z3:j=r
       ·rw[if_pos z3,z3,hr];exact AO.le_any _
       ·rw[if_neg z3];exact AO.le_refl _⟩
  exact ka_attr X.I pLo (i:=i) (fs:=fs) ((if_neg his).trans ((if_neg hir).trans hi)) (fun h2 i2=>KX.up (kx_ret (v:= .ref s) (pu_attr pLo (pg_field X.I (i:=i) (fs:=upd (Qq "matching_blocks") (.ref s) fs) (if_pos rfl) (by rw[lookup_upd,if_pos rfl]) (by intro _ z;cases z))) fun h3 i3=>fin s hd' (Qe (QT hrn) hn1) h3 (key.trans i3)) i2) (by rfl) (by rfl) (by rfl) (by rfl) hfz
 unfold mg at e
 refine kx_if (c:=decide (c.2.2≠0)) (PuB.eq (pub_value pLo pt_int) ?_) (fun z2=> ?_) fun z2=> ?_
 ·rw[Bool.eq_iff_iff];simp
 · rw[if_neg (of_decide_eq_true z2)] at e
   refine kx_expr (ke_mcall0 pLo (pm_append (v:= .ref r) (xs:=na.map trV) HN.at_) (pes_cons (v:=trV c) (pu_tuple (pes_cons pLo (pes_cons pLo (pes_cons pLo pes_nil))) (le_szL (by rfl))) pes_nil)
    (kc_append (i:=r) (xs:=na.map trV) HN.at_ (sizeOk (by rw[Qo];omega)) fun h4 i4=>KX.up (kx_nil fun h5 i5=>KX.up next i5) (?_:(HN h r bs).In h4)))
   have:=HN.app (h:=h)▸i4
   rwa [e] at this
 · rw[if_pos (Decidable.of_not_not (of_decide_eq_false z2)),Q4] at e
   subst e
   exact kx_nil fun h5 i5=>KX.up next i5
theorem kc_gmb (X:Top C mg' mb) (M:MK h i fs d s aV bV ka kb junk D) (hf:fs.lookup (Qq "find_longest_match")=none) (hm:fs.lookup (Qq "matching_blocks")=some .none) (hfz:fs.length<50) (hla:ka.length≤4000)
 (h64:(gmW (mP junk ka kb) (mQ junk ka kb) kb.length (0,ka.length,0,kb.length)).length<64)
 (qq:∀s,h.σ s= .dead→h.nx≤s→∀h',(((h.upd s (.list ((blocks (mP junk ka kb) (mQ junk ka kb) kb.length ka.length).map matV))).upd i (.inst (upd (Qq "matching_blocks") (.ref s) fs))).at (s+1)).In h'→Q (.ref s) h') :
 KC C (n+5) h (.top 203) [.obj i 242] [] Q:=by
 refine kc_fn (ok_gmb X) binds1 (loc:=[(Qq "self", .obj i 242)]) (h1:=fun p=>h.at p) (fun p=>by rfl) fun p0 hp0 hd0 L cells=> ?_
 have M0:=M.up (Hs.In.at (.refl h) hp0)
 refine kx_doc ?_
 refine kx_ifF (pub_cmp (pu_attr pLo (pg_field X.I M0.inst hm (by intro _ z;cases z))) pu_none (p2_isnotnone (by intro _ z;cases z))) ?_
 refine kx_swap (names:=[Qq "la",Qq "lb"]) (vs:=[.int (ka.length:Int), .int (kb.length:Int)]) (pu_tuple (pes_cons (pu_call0 (Top.blt X (by rfl) (by rfl)) kp_blt (pes_cons (pu_attr pLo (pg_field X.I M0.inst M0.a M0.an)) pes_nil) (pf_lenQ M0.sa (Qe M0.la (by decide)))) (pes_cons (pu_call0 (Top.blt X (by rfl) (by rfl)) kp_blt (pes_cons (pu_attr pLo (pg_field X.I M0.inst M0.b M0.bn)) pes_nil) (pf_lenQ M0.sb (Qe M0.lb (by decide)))) pes_nil)) (le_szL (by rfl))) ?_ (by rfl)
  (by intro y hy;simp only[QY,QZ,or_false] at hy;rcases hy with rfl|rfl<;>rfl)
 refine kx_newL (vs:=[wnV (0,ka.length,0,kb.length)]) (pes_cons (pu_tuple (pes_cons pu_int (pes_cons pLo (pes_cons pu_int (pes_cons pLo pes_nil)))) (le_szL (by rfl))) pes_nil) (fun p hp hpn=>ka_loc fun h2 i2=>KX.up (kx_newL pes_nil fun q hq hqn=>ka_loc fun h3 i3=>KX.up ?_ i3) i2) (le_szL (by rfl))
 have hpq:p<q:=hqn
 have hq':h.σ q= .dead:=by
  have:(if q=p then _ else h.σ q)=AO.dead:=hq
  rwa [if_neg (QE hpq)] at this
 have hp':h.σ p= .dead:=hp
 have hpn':h.nx≤p:=Qe hp0 hpn
 have hqn':h.nx≤q:=Qe hpn' (Qx hpq)
 refine KX.locs (l:=LG i ka.length kb.length p q) (KX.up (h:=H2 h p q (.list [wnV (0,ka.length,0,kb.length)]) (.list [])) (gmb_loop X M hf hp' hq' hpn' hpq hla h64 fun acc hacc=> ?_) ?_) (.cons (by rfl) (.cons (by rfl) (.cons (by rfl) (.cons (by rfl) (.cons (by rfl) (.nil _))))))
 rotate_left
 ·exact⟨Qt _,fun j=>AO.le_refl _⟩
 have okW:OkW kb.length (0,ka.length,0,kb.length):=⟨Qz _,Qz _,Qt _⟩
 have hrise:=gm_rises (P:=mP junk ka kb) (Q:=mQ junk ka kb) okW
 have hbl:blocks (mP junk ka kb) (mQ junk ka kb) kb.length ka.length=mg (0,0,0) (gmW (mP junk ka kb) (mQ junk ka kb) kb.length (0,ka.length,0,kb.length))++[(ka.length,kb.length,0)]:=rfl
 rw[hbl] at qq
 generalize gmW (mP junk ka kb) (mQ junk ka kb) kb.length (0,ka.length,0,kb.length)=gs at *
 refine kx_expr (ke_mcall0 pLo (pm_sort (v:= .ref q) (xs:=acc.map matV) H2.atq) pes_nil (kc_sort X.I (matK _) (by rfl) (i:=q) (ts:=acc.map trP) (us:=gs.map trP) (by rw[map_trP];exact H2.atq) (by rw[Qo,hacc.length_eq];exact h64) (fun t ht=> ?_) (hacc.map _) hrise fun h4 i4=>KX.up (h:=H2 h p q (.list []) (.list (gs.map matV))) ?_ (by rw[map_trP,H2.snd] at i4;exact i4)))
 · refine x_EA (QO.mp ht) fun m _ z160=> ?_;subst z160
   exact QV rfl
 have hin:h.In (H2 h p q (.list []) (.list (gs.map matV))):=H2.inn hp' hq' hqn'
 have hsq:(H2 h p q (.list []) (.list (gs.map matV))).σ q= .list (gs.map matV):=H2.atq
 have hnx:(H2 h p q (.list []) (.list (gs.map matV))).nx=q+1:=rfl
 have hσ:∀j,(H2 h p q (.list []) (.list (gs.map matV))).σ j= .dead→h.σ j= .dead:=fun j hj=>hin.dead hj
 refine kx_asg3 (v:= .int 0) pu_int (ka_loc fun h5 i5=>KA.up (ka_loc fun h6 i6=>KA.up (ka_loc fun h7 i7=>KX.up (kx_newL pes_nil fun r hr hrn=>ka_loc fun h8 i8=>KX.up ?_ i8) i7) i6) i5)
 have hi:(H2 h p q (.list []) (.list (gs.map matV))).σ i= .inst fs:=hin.inst M.inst
 refine KX.locs (l:=LN i ka.length kb.length p q r (0,0,0)) (gmb_merge X hsq hr h64 fun c na hn e=>gmb_end X hi hfz hr hrn hn e fun s hs hsn h9 i9=>qq s (hσ s hs) (Qe hqn' (Qe (Nat.le_succ q) hsn)) h9 (Hs.In.trans (b:=(((H2 h p q (.list []) (.list (gs.map matV))).upd s (.list ((mg (0,0,0) gs++[(ka.length,kb.length,0)]).map matV))).upd i (.inst (upd (Qq "matching_blocks") (.ref s) fs))).at (s+1)) ⟨Qt _,fun j=> ?_⟩ i9)) (LocSub.refl _)
 show AO.le (if j=i then _ else if j=s then _ else(H2 h p q (.list []) (.list (gs.map matV))).σ j) (if j=i then _ else if j=s then _ else h.σ j)
 by_cases z1:j=i
 ·rw[if_pos z1,if_pos z1];exact AO.le_refl _
 · rw[if_neg z1,if_neg z1]
   by_cases z2:j=s
   ·rw[if_pos z2,if_pos z2];exact AO.le_refl _
   ·rw[if_neg z2,if_neg z2];exact hin.le j
end
noncomputable def ws2:List Nat:=[32,9]
theorem ws2_eq:Qq " \t" = S ws2:=by decide +kernel
noncomputable def W9:List (List Nat):=[[97],[98],[97,98],[98,97],[],[32],[9],[32,9],[9,32],[10],[97,98,97]]
noncomputable def wd9 (k:Nat):List Nat:=W9.getD k []
theorem ok9:∀w∈W9,QH (S w)=true:=by decide +kernel
noncomputable def kS (t:List Nat):Key:= .s (S t)
theorem kS_inj {a b:List Nat}:kS a=kS b↔a=b:=⟨fun e=>by injection e with e;exact S_inj.mp e,fun e=>by rw[e]⟩
noncomputable def kOk9 (k:Key):Prop:=∃w∈W9,k=kS w
noncomputable def jw (p:List Nat→Bool) (k:Key):Bool:=match k with | .s x=>p x.cps.toList | .i _=>false
noncomputable abbrev kc (c:Nat) (v:V):Hs:=Hs.none.upd c (.cell (some v))
theorem kc_at {c:Nat} {v:V}:(kc c v).σ c= .cell (some v):=if_pos rfl
section
variable {hb:Hs} {mg mb:Str→Option Value}
theorem p2_inS' {y x:List Nat}:P2 C n (QQ .In) h (sV y) (sV x) (.bool (stands y x)):=isIn_stands y x▸p2_inS
theorem ok_junk (X:Top C mg mb):FnOk C 254 (fnOf (k254 C.w.params)) (bodyOf (fnOf (k254 C.w.params))) :=
 fnOk_of (c:=253) (oc:=k253 C.w.params) X.I X.T (by rfl) (by rfl)
theorem binds_junk1 (X:Top C mg mb) {a:V}:Binds C (fnOf (k254 C.w.params)) [a] [] [(Qq "ch",a),(Qq "ws", .str (Qq " \t"))]:=fun w h xs ks R cx hk ck=>by
 refine cx.e fun x1 r1 c1 cx=> ?_
 refine cx.e0 ?_
 refine kw0E hk ?_
 refine x_A (X.I 247 (k247 C.w.params) (by rfl)) fun h1 h2=> ?_
 exact⟨_, .of_defaults (T:=247) rfl (R.up h1 h2) rfl rfl rfl,rfl, .cons c1 (.cons (.str _ _) .nil)⟩
theorem binds_junk2 (X:Top C mg mb) {a b:V}:Binds C (fnOf (k254 C.w.params)) [a,b] [] [(Qq "ch",a),(Qq "ws",b)]:=fun w h xs ks R cx hk ck=>by
 refine cx.e fun x1 r1 c1 cx=> ?_
 refine cx.e fun x2 r2 c2 cx=> ?_
 refine cx.e0 ?_
 refine kw0E hk ?_
 refine x_A (X.I 247 (k247 C.w.params) (by rfl)) fun h1 h2=> ?_
 exact⟨_, .of_defaults (T:=247) rfl (R.up h1 h2) rfl rfl rfl,rfl, .cons c1 (.cons c2 .nil)⟩
theorem kw1 {l:List (Str × Value)} {a:Str} {r:List Str} (h:l.map (·.1)=a::r):∃x l',l=(a,x)::l'∧l'.map (·.1)=r:=by
 cases l with
 |nil=>cases h
 |cons p l =>
  obtain⟨q,x⟩:=p
  injection h with e1 e2
  exact⟨x,l,by rw[←e1],e2⟩
theorem kw2 {l:List (Str × Value)} {a b:Str} (h:l.map (·.1)=[a,b]):∃x y,l=[(a,x),(b,y)]:=by
 refine x_EEA (kw1 h) fun x l1 z161 h2=> ?_;subst z161
 refine x_EEA (kw1 h2) fun y l2 z162 h3=> ?_;subst z162
 cases l2 with
 |nil=>exact⟨x,y,rfl⟩
 |cons _ _=>cases h3
theorem binds_junkW (X:Top C mg mb) {a b:V}:Binds C (fnOf (k254 C.w.params)) [] [(Qq "ws",b),(Qq "ch",a)] [(Qq "ch",a),(Qq "ws",b)]:=fun w h xs ks R cx hk ck=>by
 refine cx.e0 ?_
 refine x_EE (kw2 hk) fun x y z163=> ?_;subst z163
 refine x_EEAA (cs_cons ck) fun x1 r1 e1 c1 ck=> ?_
 refine x_EEAA (cs_cons ck) fun x2 r2 e2 c2 _=> ?_
 cases e1;cases e2
 refine x_A (X.I 247 (k247 C.w.params) (by rfl)) fun h1 h2=> ?_
 exact⟨_, .of_defaults (T:=247) rfl (R.up h1 h2) rfl rfl rfl,rfl, .cons c2 (.cons c1 .nil)⟩
theorem junk_of' (X:Top C mg mb) {args:List V} {kw:List (Str × V)} {a b v:V} (B:Binds C (fnOf (k254 C.w.params)) args kw [(Qq "ch",a),(Qq "ws",b)]) (O:P2 C n (QQ .In) h a b v):PF C (n+1) h (.top 254) args kw v:=by
 refine pf_fn (ok_junk X) B (loc:=[(Qq "ch",a),(Qq "ws",b)]) fun hb hi ok L cells=> ?_
 refine kx_doc (kx_ret (pu_cmp (a:=a) (b:=b) pLo pLo (O.up hi)) fun _ i=>⟨rfl,i⟩)
structure Tst (C:Cx) (n:Nat) (c:Nat) (u:V) (T:V) (p:List Nat→Bool):Prop where
 nb:∀id,T≠ .blt id
 tru:∀(h:Hs) (QB:Bool→Hs→Prop),QB true h→Tru C n h T QB
 kp:Kp C T
 call:∀w∈W9,PF C n (kc c u) T [sV w] [] (.bool (p w))
theorem flt_of {jV:V} {c:Nat} {u:V} {f:Key→Bool} {kOk:Key→Prop} (nb:∀id,jV≠ .blt id) (tru:∀(h:Hs) (QB:Bool→Hs→Prop),QB true h→Tru C n h jV QB) (kp:Kp C jV) (H:∀k,kOk k→PF C n (kc c u) jV [k.v] [] (.bool (f k))):Flt C n jV (fun h1=>(kc c u).In h1) f kOk where
 nb:=nb
 tru:=tru
 kp:=kp
 st:=fun a b x ck=>Hs.In.only (ck c _ (x.cell kc_at))
 call:=fun h1 k Q x hk q=>Cl.weak (H k hk h1 x _ fun h' i=>⟨h1.at h'.nx,i.toLe,q _ i.nx⟩)
theorem Tst.flt {c:Nat} {u T:V} {p:List Nat→Bool} (t:Tst C n c u T p):Flt C n T (fun h1=>(kc c u).In h1) (jw p) kOk9:=flt_of t.nb t.tru t.kp fun k ⟨w,hw,e⟩=>by subst e;exact t.call w hw
theorem tru_top {K:W.Frag} {a:Addr} {o:Obj} {QB:Bool→Hs→Prop} (I:InC C K) (ho:K.lookup a=some o) (hc:o.cls= .type "function") (q:QB true h):Tru C n h (.top a) QB:=⟨fun A w Q' E x a0 R c k=>by
 refine eqE c.toInv ?_
 exact truthy_fn ⟨_,I.here R _ _ ho,hc⟩ (k _ h w q .refl R)⟩
theorem bind_w {params:Arguments} {x:Str} {v:Value} {fd:FuncData} (hx:x=Qq "w" ∨ x=Qq "k") (hp:∃b p,params=⟨[],[⟨x,b,p⟩],none,[],[],none,[]⟩) (h1:fd.params=params) (h2:fd.defaults= .none) (h3:fd.kwdefaults= .none):bindArgs fd ⟨[v],[]⟩=pure [(x,v)]:=by
 refine x_EE hp fun b p z164=> ?_;subst z164
 cases fd;simp only at h1 h2 h3;subst h1;subst h2;subst h3
 rcases hx with rfl|rfl<;>rfl
theorem pf_lam {params:Arguments} {body:Expr} {scope:Scope} {qual x:Str} {cl:List (Str × Nat)} {a v:V} (T:Tp C mg mb) (hx:x=Qq "w" ∨ x=Qq "k") (H:∀hb,h.In hb→∀f L cells code,Pu C n ⟨newEnv scope L Wy cells (qual ++ ".<locals>.") (some f) code none builtinsNs,cl⟩ [(x,a)] hb body v)
 (hp:∃b p,params=⟨[],[⟨x,b,p⟩],none,[],[],none,[]⟩:=by exact⟨_,_,rfl⟩) (hent:autoParam (∀hb:Hs,bindAll scope.names (celFrom hb.nx scope.names cl) [(x,a)] [] (hsCells scope.names hb)=some ([(x,a)],hb)) aI) (hc:autoParam (∀k,celFrom k scope.names cl=cl) aI)
 (hk0:autoParam (scope.kind= .function) aR) (hco:autoParam (scope.isCoroutine=false) aR) (hgen:autoParam (scope.isGenerator=false) aR):PF C (n+1) h (.lam params body scope qual cl) [a] [] v:=fun hb hi Q q =>
 cl_lam (n:=n) T hk0 hco hgen (fun fd h1 h2 h3=>binds1 (x:=x) fun v=>bind_w hx hp h1 h2 h3) (loc:=[(x,a)]) (h1:=hb) (hent hb) fun f L cells code=>by
  rw[hc];exact H hb hi f L cells code hb (.refl _) Q q
theorem in_SM {f:Key→Bool} {ks:List Key} {i d s p:Nat} {fs:List (Str × V)} (ok:h.Ok) (h1:h.nx≤i) (h2:i<d) (h3:d<s) (h4:s<p):h.In (SM h f ks i d s p fs) :=
 have d1:=Qx (Qj h1 h2)
 have d2:=Qx (Qj d1 h3)
 have d3:=Qx (Qj d2 h4)
 (((((Hs.In.refl h).updd (ok _ h1)).updd (ok _ d1)).updd (ok _ d2)).updd (ok _ d3)).at (QT d3)
theorem mk_SM {g:Key→Bool} {ka kb:List Key} {i d s p:Nat} {jV:V} (h2:i<d) (h3:d<s) (h4:s<p) (hf:ka.length≤5000) (ht:kb.length≤5000) :
 MK (SM h g kb i d s p (fsM jV (kV ka) (kV kb) d s p)) i (fsM jV (kV ka) (kV kb) d s p) d s (kV ka) (kV kb) ka kb ((firsts kb).filter g) (b2jOf g kb) :=
 have a:=Nat.lt_trans h2 h3
 have b:=Nat.lt_trans h3 h4
 ⟨(if_neg (Qg (Nat.lt_trans a h4))).trans ((if_neg (Qg a)).trans ((if_neg (Qg h2)).trans (if_pos rfl))),by rfl,by rfl,by rfl,by rfl,by(intro _ e;cases e),by(intro _ e;cases e),rfl,rfl, .inl ((if_neg (Qg b)).trans ((if_neg (Qg h3)).trans (if_pos rfl))),tabOf_b2j, .inl ((if_neg (Qg h4)).trans (if_pos rfl)),hf,ht⟩
end
section
variable {hb:Hs} {mg mb:Str→Option Value}
theorem ok_lblocks (X:Top C mg mb):FnOk C 259 (fnOf (k259 C.w.params)) (bodyOf (fnOf (k259 C.w.params))) :=
 fnOk_of (c:=258) (oc:=k258 C.w.params) X.I X.T (by rfl) (by rfl)
theorem pf_lblocks (X:Top C mg mb) {jV:V} {Kn:Hs→Prop} {f:Key→Bool} {kOk:Key→Prop} {ka kb:List Key} (J:Flt C (n+2) jV Kn f kOk) (hkn:Kn h) (hkk:∀k∈kb,kOk k) (la:ka.length≤100) (lb:kb.length≤100) {bl:List Tr}
 (e1:blocks (mP ((firsts kb).filter f) ka kb) (mQ ((firsts kb).filter f) ka kb) kb.length ka.length=bl) (h64:(gmW (mP ((firsts kb).filter f) ka kb) (mQ ((firsts kb).filter f) ka kb) kb.length (0,ka.length,0,kb.length)).length<64) (hbl:bl.length≤100) :
 PF C (n+9) h (.top 259) [jV,kV ka,kV kb] [] (.lst (bl.map trV)):=by
 refine pf_fn (n:=n+8) (ok_lblocks X) binds3 (loc:=[(Qq "isjunk",jV),(Qq "first",kV ka),(Qq "second",kV kb)]) fun hb hi ok L cells=> ?_
 have hkn:=J.st _ _ hkn fun j u e=>hi.cell e
 refine kx_retE (ke_lcI (as:=bl) (g:=matV) trV (ke_mcallK (ke_call0 (f:= .top 242) (Top.top X (by rfl) (by rfl)) (kp_cls X.I (by rfl)) (pes_cons pLo (pes_cons pLo (pes_cons pLo pes_nil))) (kc_make X (n:=n) (us:=ka) (ks:=kb) (Qj lb (by decide)) J hkn hkk fun i d s p k1 k2 k3 k4 h1 i1=> ?_))) (sizeOk (Qe hbl (by decide))) fun t _ L' cells'=> ?_)
 · have M:=(mk_SM (h:=hb) (g:=f) (ka:=ka) (kb:=kb) (jV:=jV) k2 k3 k4 (Qe la (by decide)) (Qe lb (by decide))).up i1
   refine⟨.top 203,[.obj i 242],pm_own X.I (kp_fn (ok_gmb X)) M.inst (by rfl),kes_nil fun h2 i2=>KC.less (m:=n+5) (kc_gmb X (n:=n) (M.up i2) (by rfl) (by rfl) (QV (by rfl)) (Qe la (by decide)) h64 fun m hd hm h3 i3=> ?_) (Q2 (by decide) n)⟩
   rw[e1] at i3
   have hmi:m≠i:=fun z=>by rw[z,(M.up i2).inst] at hd;cases hd
   refine⟨i3.list ((Hs.σ_ne hmi).trans (Hs.σ_eq rfl)),fun h4 i4=>⟨rfl, ?_⟩⟩
   refine Hs.In.trans (In.of (Qe ((in_SM ok k1 k2 k3 k4).trans (i1.trans i2)).nx (QT hm)) fun j=> ?_) (i3.trans i4)
   show AO.le (if j=i then _ else if j=m then _ else h2.σ j) (hb.σ j)
   by_cases z:j=i
   ·rw[z,ok i k1];exact AO.le_any _
   rw[if_neg z]
   by_cases z:j=m
   ·rw[z,ok m (Qe ((in_SM ok k1 k2 k3 k4).trans (i1.trans i2)).nx hm)];exact AO.le_any _
   rw[if_neg z]
   exact((in_SM ok k1 k2 k3 k4).trans (i1.trans i2)).le j
 ·exact pu_call0 (Top.ty X (by rfl) (by rfl)) kp_ty (pes_cons pLo pes_nil) (pf_tupM X.I (matK _) (by rfl) (by rfl) (QV rfl))
end
noncomputable def κ9 (k:Nat):Key:=if k<11 then kS (wd9 k) else .i 0
noncomputable def κN (k:Nat):Key:= .i (k:Int)
theorem wd_inj:∀x,x<11→∀y,y<11→wd9 x=wd9 y→x=y:=by decide +kernel
theorem wd_mem:∀x,x<11→wd9 x∈W9:=by decide +kernel
theorem κ9_lt {k:Nat} (h:k<11):κ9 k=kS (wd9 k):=if_pos h
theorem κ9_inj {x y:Nat} (hx:x<12) (hy:y<12):κ9 x=κ9 y↔x=y:=by
 refine⟨fun e=> ?_,fun e=>e▸rfl⟩
 unfold κ9 at e
 by_cases a:x<11<;>by_cases b:y<11
 ·rw[if_pos a,if_pos b] at e;exact wd_inj x a y b (kS_inj.mp e)
 ·rw[if_pos a,if_neg b] at e;cases e
 ·rw[if_neg a,if_pos b] at e;cases e
 ·exact(Nat.le_antisymm (Qv hx) (Nat.le_of_not_lt a)).trans (Nat.le_antisymm (Qv hy) (Nat.le_of_not_lt b)).symm
theorem κN_inj {x y:Nat}:κN x=κN y↔x=y:=⟨fun e=>by injection e with e;exact Int.ofNat_inj.mp e,fun e=>e▸rfl⟩
theorem mP_M {κ:Nat→Key} {f:Key→Bool} {s t:List Nat} (inj:∀x∈s,∀y∈t,κ x=κ y↔x=y):mP ((firsts (t.map κ)).filter f) (s.map κ) (t.map κ)=pq (fun c=> !f (κ c)) s t∧mQ ((firsts (t.map κ)).filter f) (s.map κ) (t.map κ)=pq (fun c=>f (κ c)) s t:=by
 have hj:∀c∈t,decide (κ c∈(firsts (t.map κ)).filter f)=f (κ c):=fun c hc=>by
  rw[Bool.eq_iff_iff,decide_eq_true_iff,Wp,mem_firsts]
  exact and_iff_right (List.mem_map_of_mem hc)
 constructor <;>
 · funext i j
   unfold pq
   first|unfold mP|unfold mQ
   unfold mJ mE
   rw[Qb,Qb]
   cases hx:s[i]? with
   |none=>cases t[j]?<;>exact Bool.and_false _
   |some x=>cases hy:t[j]? with
    |none=>exact Bool.and_false _
    |some y =>
     show(_&&decide (κ x=κ y))=_
     rw[decide_eq_decide.mpr (inj x (Qa hx) y (Qa hy))]
     show(_&&_)=(_&&_)
     congr 1
     simp only[Option.map_some,hj y (Qa hy)]
theorem pq_congr {p q:Nat→Bool} {s t:List Nat} (h:∀c∈s,c∈t→p c=q c):pq p s t=pq q s t:=by
 funext i j
 unfold pq
 cases hx:s[i]? with
 |none=>rfl
 |some x=>cases hy:t[j]? with
  |none=>rfl
  |some y =>
   show(p y&&decide (x=y))=(q y&&decide (x=y))
   by_cases e:x=y
   ·subst e;rw[h x (Qa hx) (Qa hy)]
   ·rw[decide_eq_false e,Bool.and_false,Bool.and_false]
theorem pq_out {p:Nat→Bool} {s t:List Nat} {i j:Nat} (h:s.length≤i∨t.length≤j):pq p s t i j=false:=by
 unfold pq
 rcases h with h|h
 ·rw[List.getElem?_eq_none h]
 ·rw[List.getElem?_eq_none h];cases s[i]?<;>rfl
theorem pq_appL {p:Nat→Bool} {s t:List Nat} {c:Nat} (h:c∉t):pq p (s++[c]) t=pq p s t:=by
 funext i j
 unfold pq
 rcases Nat.lt_trichotomy i s.length with z|z|z
 ·rw[List.getElem?_append_left z]
 · subst z
   rw[List.getElem?_concat_length,List.getElem?_eq_none (Qt _)]
   cases hy:t[j]? with
   |none=>rfl
   |some y =>
    show(p y&&decide (c=y))=false
    rw[decide_eq_false fun e:c=y=>h (e▸Qa hy),Bool.and_false]
 ·rw[List.getElem?_eq_none (by rw[Qn];exact z),List.getElem?_eq_none (Qx z)]
theorem pq_appR {p:Nat→Bool} {s t:List Nat} {c:Nat} (h:c∉s):pq p s (t++[c])=pq p s t:=by
 funext i j
 unfold pq
 cases hx:s[i]? with
 |none=>rfl
 |some x =>
  rcases Nat.lt_trichotomy j t.length with z|z|z
  ·rw[List.getElem?_append_left z]
  · subst z
    rw[List.getElem?_concat_length,List.getElem?_eq_none (Qt _)]
    show(p c&&decide (x=c))=false
    rw[decide_eq_false fun e:x=c=>h (e▸Qa hx),Bool.and_false]
  ·rw[List.getElem?_eq_none (by rw[Qn];exact z),List.getElem?_eq_none (Qx z)]
noncomputable def B9 (q:Nat→Bool) (s t:List Nat):List Tr:=blocks (pq (fun c=> !q c) s t) (pq q s t) t.length s.length
theorem B9_len {q:Nat→Bool} {s t:List Nat} (hs:s.length≤70) (ht:t.length≤70):(B9 q s t).length≤100:=by
 unfold B9 blocks
 rw[Qn]
 have h1:=gm_few (P:=pq (fun c=> !q c) s t) (Q:=pq q s t) hs ht
 exact Qe (QC (mg_len _ (0,0,0))) (Qe (QC (Nat.succ_le_of_lt h1)) (by decide:64+1≤100))
section
variable {hb:Hs} {mg mb:Str→Option Value}
theorem pf_lb9 (X:Top C mg mb) {jV:V} {Kn:Hs→Prop} {f:Key→Bool} {kOk:Key→Prop} {κ:Nat→Key} {q:Nat→Bool} {s t:List Nat} (J:Flt C (n+2) jV Kn f kOk) (hkn:Kn h) (hkk:∀c∈t,kOk (κ c)) (inj:∀x∈s,∀y∈t,κ x=κ y↔x=y) (hq:∀c∈s,c∈t→f (κ c)=q c) (hs:s.length≤70) (ht:t.length≤70) :
 PF C (n+9) h (.top 259) [jV,kV (s.map κ),kV (t.map κ)] [] (.lst ((B9 q s t).map trV)):=by
 refine x_A (mP_M (f:=f) inj) fun e1 e2=> ?_
 have e1:=e1.trans (pq_congr fun c h1 h2=>by rw[hq c h1 h2]:_=pq (fun c=> !q c) s t)
 have e2:=e2.trans (pq_congr hq)
 refine pf_lblocks X (n:=n) J hkn (fun k hk=> ?_) (by rw[Qo];exact Qe hs (by decide)) (by rw[Qo];exact Qe ht (by decide)) (by rw[e1,e2,Qo,Qo];rfl) (by rw[e1,e2,Qo,Qo];exact gm_few hs ht) (B9_len hs ht)
 refine x_EA (QO.mp hk) fun c hc z165=> ?_;subst z165
 exact hkk c hc
end
section
variable {hb:Hs} {mg mb:Str→Option Value}
theorem ok_lstanding (X:Top C mg mb):FnOk C 264 (fnOf (k264 C.w.params)) (bodyOf (fnOf (k264 C.w.params))) :=
 fnOk_of (c:=263) (oc:=k263 C.w.params) X.I X.T (by rfl) (by rfl)
theorem w9_len:∀w∈W9,w.length≤3:=by decide +kernel
theorem pf_standing (X:Top C mg mb) {x:List Nat} (hx:x.length≤100):PF C (n+2) h (.top 264) [.lst (W9.map sV),sV x] [] (.lst ((W9.filter fun y=>stands y x).map sV)):=by
 have hz:x.length≤Qc:=sizeOk (Qe hx (by decide))
 refine pf_fnC (n:=n+1) (ok_lstanding X) binds2 (loc:=[(Qq "words", .lst (W9.map sV))]) (h1:=fun hb=>((hb.upd hb.nx (.cell none)).at (hb.nx+1)).upd hb.nx (.cell (some (sV x)))) (fun hb=> ?_) fun hb hi ok L cells=> ?_
 · show bindAll _ _ _ [] ((hb.upd hb.nx (.cell none)).at (hb.nx+1))=_
   exact bind_local (by rfl) (bind_cell (by rfl) (by rfl) (i:=hb.nx) (u:=none) (if_pos rfl) (by rfl))
 have i0:hb.In (((hb.upd hb.nx (.cell none)).at (hb.nx+1)).upd hb.nx (.cell (some (sV x)))):=(((Hs.In.refl hb).updd (ok _ (Qt _))).at (Nat.le_succ _)).updd (ok _ (Qt _))
 have c0:(((hb.upd hb.nx (.cell none)).at (hb.nx+1)).upd hb.nx (.cell (some (sV x)))).σ hb.nx= .cell (some (sV x)):=if_pos rfl
 have n0:hb.nx+1≤(((hb.upd hb.nx (.cell none)).at (hb.nx+1)).upd hb.nx (.cell (some (sV x)))).nx:=Qt _
 generalize((hb.upd hb.nx (.cell none)).at (hb.nx+1)).upd hb.nx (.cell (some (sV x)))=h1 at *
 refine kx_ret (v:= .lst ((W9.filter fun y=>stands y x).map sV)) (pu_listcompC (as:=W9) (g:=sV) (fun y=>stands y x) sV (pi_lst pLo) (sizeOk (by decide)) (fun y hy L' cells' q hq=> ?_) fun y hy _ L' cells' q hq=>pu_cell (i:=q) (by rfl) (by rfl) (if_pos rfl)) fun h' i=>⟨rfl,i0.trans i⟩
 have cq:((h1.upd q (.cell (some (sV y)))).at (q+1)).σ q= .cell (some (sV y)):=if_pos rfl
 have ct:((h1.upd q (.cell (some (sV y)))).at (q+1)).σ hb.nx= .cell (some (sV x)):=(if_neg (Qg (Nat.lt_of_succ_le (Qe n0 hq)))).trans c0
 generalize(h1.upd q (.cell (some (sV y)))).at (q+1)=h2 at *
 refine pts_one (PuB.eq (pub_cmp (a:= .lst ((((Wo (x.length+1)).filter fun p=>decide ((x.take (p+y.length)).drop p=y)).map fun(i:Nat)=>(i:Int)).map V.int)) (b:= .lst (([]:List Int).map V.int)) ?_ (pu_list pes_nil) (p2_ne_ints rfl rfl)) ?_)
 · refine pu_lcT (as:=Wo (x.length+1)) (g:=fun(i:Nat)=>V.int i) (fun p=>decide ((x.take (p+y.length)).drop p=y)) (fun(i:Nat)=>(i:Int)) V.int (pi_rng0 (m:=x.length+1) (pu_call0 (f:= .ty "range") (vs:=[.int ((x.length:Int)+1)]) (Top.ty X (by rfl) (by rfl)) kp_ty (pes_cons (pu_bin (a:= .int x.length) (b:= .int 1) (pu_call0 (f:= .blt "len") (vs:=[sV x]) (Top.blt X (by rfl) (by rfl)) kp_blt (pes_cons (pu_cell (i:=hb.nx) (by rfl) (by rfl) ct) pes_nil) (pf_lenS hz)) pu_int p2_addi) pes_nil) pf_range1) (Qe (QC hx) (by decide:101≤2^61))) (by rw[List.length_range];exact sizeOk (Qe (QC hx) (by decide:101≤10000))) (fun p hp L3 cells3=> ?_) fun p hp _ L3 cells3=>pLo
   exact pts_one (pub_cmp (a:=sV ((x.take (p+y.length)).drop p)) (b:=sV y) (Pu.eq (pu_slice (a:=sV x) (l:=partV (some (p:Int))) (u:=partV (some ((p:Int)+(y.length:Int)))) (s:=partV none) (pu_cell (by rfl) (by rfl) ct) (po_some pLo) (po_some (pu_bin pLo (pu_call0 (f:= .blt "len") (vs:=[sV y]) (Top.blt X (by rfl) (by rfl)) kp_blt (pes_cons (pu_cell (by rfl) (by rfl) cq) pes_nil) (pf_lenS (sizeOk (Qe (w9_len y hy) (by decide))))) p2_addi)) po_none notPyU_S (ps_S hz)) (congrArg sV (pick_seg x p (p+y.length)))) (pu_cell (by rfl) (by rfl) cq) p2_eqS)
 · unfold stands
   simp only[List.map_eq_nil_iff,ne_eq,decide_not]
end
noncomputable def c09:Expr:= .Constant .none 0 ⟨0,0,0,0⟩
noncomputable def stP9:Stmt→List Stmt × Expr
 | .Assign _ e _=>([],e)
 | .For _ i b _ _=>(b,i)
 | .If t b _ _=>(b,t)
 | .Try b _ _ _ _=>(b,c09)
 | .Expr e _=>([],e)
 |_=>([],c09)
noncomputable abbrev exAsg (s:Stmt):Expr:=(stP9 s).2
noncomputable abbrev forB9 (s:Stmt):List Stmt:=(stP9 s).1
noncomputable abbrev forI9 (s:Stmt):Expr:=(stP9 s).2
noncomputable def lamP9:Expr→Arguments × Expr × Scope
 | .Lambda p b s _=>(p,b,s)
 |e=>(⟨[],[],none,[],[],none,[]⟩,e,default)
noncomputable abbrev lamParams (e:Expr):Arguments:=(lamP9 e).1
noncomputable abbrev lamBody (e:Expr):Expr:=(lamP9 e).2.1
noncomputable abbrev lamScope (e:Expr):Scope:=(lamP9 e).2.2
noncomputable def elts9:Expr→List Expr
 | .List es _=>es
 | .Tuple es _ _=>es
 | .BinOp _ _ e _=>elts9 e
 | .Call _ es _ _=>es
 | .Subscript e _ _=>elts9 e
 | .Compare e _ _ _=>elts9 e
 |_=>[]
noncomputable def exAt:List Expr→Nat→Expr
 |e::_,0=>e
 |_::r,n+1=>exAt r n
 |[],_=>c09
noncomputable abbrev B269 (C:Cx):List Stmt:=bodyOf (fnOf (k269 C.w.params))
noncomputable abbrev lamV (e:Expr) (x:String) (c:Nat):V:= .lam (lamParams e) (lamBody e) (lamScope e) (Qq "law.<locals>.<lambda>") [(Qq x,c)]
noncomputable abbrev fam9 (C:Cx) (i j:Nat):Expr:=exAt (elts9 (exAt (elts9 (exAt (elts9 (exAsg (stAt (B269 C) 11))) i)) 1)) j
section
variable {hb:Hs} {mg mb:Str→Option Value}
theorem tst_text (X:Top C mg mb) {x:List Nat}:Tst C (n+3) 11 (sV x) (lamV (fam9 C 0 0) "text" 11) fun w=>stands w x where
 nb:=by intro id e;cases e
 tru:=fun h QB q=>tru_lam q
 kp:=kp_lam
 call:=fun w hw=>pf_lam (x:=Qq "w") X.T (.inl rfl) (fun hb hi f L cells code=>pu_call0 (f:= .top 254) (Top.top X (by rfl) (by rfl)) (kp_fn (ok_junk X)) (pes_cons pLo (pes_cons (pu_free (by rfl) (by rfl) (hi.cell kc_at)) pes_nil)) (junk_of' X (n:=n+1) (binds_junk2 X) p2_inS'))
theorem tst_top (X:Top C mg mb) {c:Nat} {u:V}:Tst C (n+3) c u (.top 254) fun w=>stands w ws2 where
 nb:=by intro id e;cases e
 tru:=fun h QB q=>tru_top X.I (by rfl) (by rfl) q
 kp:=kp_fn (ok_junk X)
 call:=fun w hw=>junk_of' X (n:=n+2) (binds_junk1 X) (ws2_eq▸p2_inS')
theorem tst_tup (X:Top C mg mb) {ls:List (List Nat)} (hl:∀y∈ls,QH (S y)=true) (hz:ls.length≤100):Tst C (n+3) 9 (.lst (ls.map sV)) (lamV (fam9 C 2 0) "listed" 9) fun w=>decide (w∈ls) where
 nb:=by intro id e;cases e
 tru:=fun h QB q=>tru_lam q
 kp:=kp_lam
 call:=fun w hw=>pf_lam (x:=Qq "w") X.T (.inl rfl) (fun hb hi f L cells code=>pu_call0 (f:= .top 254) (Top.top X (by rfl) (by rfl)) (kp_fn (ok_junk X)) (pes_cons pLo (pes_cons (pu_call0 (f:= .ty "tuple") (vs:=[.lst (ls.map sV)]) (Top.ty X (by rfl) (by rfl)) kp_ty (pes_cons (pu_free (by rfl) (by rfl) (hi.cell kc_at)) pes_nil) (pf_tupL rfl (by rw[Qo];exact sizeOk (Qe hz (by decide))))) pes_nil)) (junk_of' X (n:=n+1) (binds_junk2 X) (p2_in_textsT (ok9 w hw) hl)))
theorem tst_kw (X:Top C mg mb) {ls:List (List Nat)} (hl:∀y∈ls,QH (S y)=true) (hz:ls.length≤100):Tst C (n+3) 9 (.lst (ls.map sV)) (lamV (fam9 C 2 1) "listed" 9) fun w=>decide (w∈ls) where
 nb:=by intro id e;cases e
 tru:=fun h QB q=>tru_lam q
 kp:=kp_lam
 call:=fun w hw=>pf_lam (x:=Qq "w") X.T (.inl rfl) (fun hb hi f L cells code=>pu_call (f:= .top 254) (ns:=[Qq "ws",Qq "ch"]) (Top.top X (by rfl) (by rfl)) (kp_fn (ok_junk X)) pes_nil (pks_cons (pu_free (by rfl) (by rfl) (hi.cell kc_at)) (pks_cons pLo pks_nil)) (junk_of' X (n:=n+1) (binds_junkW X) (p2_in_texts (b:= .lst (ls.map sV)) rfl (ok9 w hw) hl)))
theorem kS_mem {t:List Nat} {as:List (List Nat)}:kS t∈as.map kS↔t∈as:=by
 rw[QO]
 exact⟨fun⟨a,h1,h2⟩=>kS_inj.mp h2▸h1,fun h1=>⟨t,h1,rfl⟩⟩
theorem tst_set (X:Top C mg mb) {ls:List (List Nat)} (hl:∀y∈ls,QH (S y)=true) (hz:ls.length≤100):Tst C (n+3) 9 (.lst (ls.map sV)) (lamV (fam9 C 2 2) "listed" 9) fun w=>decide (w∈ls) where
 nb:=by intro id e;cases e
 tru:=fun h QB q=>tru_lam q
 kp:=kp_lam
 call:=fun w hw=>(decide_eq_decide.mpr (mem_firsts.trans kS_mem):decide (kS w∈firsts (ls.map kS))=decide (w∈ls))▸pf_lam (x:=Qq "w") X.T (.inl rfl) (fun hb hi f L cells code=>pu_call0 (f:= .top 254) (Top.top X (by rfl) (by rfl)) (kp_fn (ok_junk X)) (pes_cons pLo (pes_cons (pu_call0 (f:= .ty "set") (vs:=[.lst (ls.map sV)]) (Top.ty X (by rfl) (by rfl)) kp_ty (pes_cons (pu_free (by rfl) (by rfl) (hi.cell kc_at)) pes_nil) (pf_set (keys:=ls.map kS) rfl (by rw[Q7];rfl) (by rw[Qo];exact Qj hz (by decide)))) pes_nil)) (junk_of' X (n:=n+1) (binds_junk2 X) (p2_ins (k:=kS w) (ks:=firsts (ls.map kS)) (v:= .fset _) rfl)))
theorem kget_kS {ls:List (List Nat)} {w:List Nat}:(kget ((ls.filter fun _=>true).map fun a=>(kS a,V.int 0)) (kS w)).isSome=decide (w∈ls):=by
 rw[filter_tt,show(ls.map fun a=>(kS a,V.int 0))=(ls.map kS).map fun k=>(k,V.int 0) by rw[Q7];rfl,kget_map]
 by_cases h:w∈ls
 ·rw[if_pos (kS_mem.mpr h),decide_eq_true h];rfl
 ·rw[if_neg fun z=>h (kS_mem.mp z),decide_eq_false h];rfl
theorem tst_dict (X:Top C mg mb) {ls:List (List Nat)} (hl:∀y∈ls,QH (S y)=true) (hz:ls.length≤100) (nd:(ls.map kS).Nodup):Tst C (n+3) 9 (.lst (ls.map sV)) (lamV (fam9 C 2 3) "listed" 9) fun w=>decide (w∈ls) where
 nb:=by intro id e;cases e
 tru:=fun h QB q=>tru_lam q
 kp:=kp_lam
 call:=fun w hw=>kget_kS▸pf_lam (x:=Qq "w") X.T (.inl rfl) (fun hb hi f L cells code=>pu_call0 (f:= .top 254) (Top.top X (by rfl) (by rfl)) (kp_fn (ok_junk X)) (pes_cons pLo (pes_cons (pu_dictcomp (as:=ls) (g:=sV) (fun _=>true) kS (fun _=> .int 0) (pi_lst (pu_free (by rfl) (by rfl) (hi.cell kc_at))) (sizeOk (Qe hz (by decide))) (by rw[filter_tt];exact nd) (fun a _ L2 cells2=>pts_nil) (fun a _ _ L2 cells2=>⟨pLo,pu_int⟩)) pes_nil)) (junk_of' X (n:=n+1) (binds_junk2 X) (p2_inD (k:=kS w) (v:= .fdict _) X.S rfl)))
noncomputable abbrev B9f (C:Cx):List Stmt:=forB9 (stAt (B269 C) 12)
theorem tst_less (X:Top C mg mb) {ls:List (List Nat)} (hl:∀y∈ls,QH (S y)=true):Tst C (n+3) 8 (.tup (ls.map sV)) (lamV (exAt (elts9 (forI9 (stAt (B9f C) 4))) 0) "less" 8) fun w=>decide (w∈ls) where
 nb:=by intro id e;cases e
 tru:=fun h QB q=>tru_lam q
 kp:=kp_lam
 call:=fun w hw=>pf_lam (x:=Qq "w") X.T (.inl rfl) (fun hb hi f L cells code=>pu_call0 (f:= .top 254) (Top.top X (by rfl) (by rfl)) (kp_fn (ok_junk X)) (pes_cons pLo (pes_cons (pu_free (by rfl) (by rfl) (hi.cell kc_at)) pes_nil)) (junk_of' X (n:=n+1) (binds_junk2 X) (p2_in_textsT (ok9 w hw) hl)))
theorem tst_more (X:Top C mg mb) {ls:List (List Nat)} (hl:∀y∈ls,QH (S y)=true):Tst C (n+3) 10 (.lst (ls.map sV)) (lamV (exAt (elts9 (forI9 (stAt (B9f C) 4))) 1) "more" 10) fun w=>decide (w∈ls) where
 nb:=by intro id e;cases e
 tru:=fun h QB q=>tru_lam q
 kp:=kp_lam
 call:=fun w hw=>pf_lam (x:=Qq "w") X.T (.inl rfl) (fun hb hi f L cells code=>pu_call0 (f:= .top 254) (Top.top X (by rfl) (by rfl)) (kp_fn (ok_junk X)) (pes_cons pLo (pes_cons (pu_free (by rfl) (by rfl) (hi.cell kc_at)) pes_nil)) (junk_of' X (n:=n+1) (binds_junk2 X) (p2_in_texts (b:= .lst (ls.map sV)) rfl (ok9 w hw) hl)))
end
noncomputable abbrev vN (l:List Nat):V:= .lst ((l.map fun k:Nat=>(k:Int)).map V.int)
noncomputable abbrev vW (l:List Nat):V:= .lst ((l.map wd9).map sV)
theorem kV_N (l:List Nat):kV (l.map κN)=vN l:=by
 show V.lst _=V.lst _
 rw[Q7,Q7];rfl
theorem kV_W {l:List Nat} (hl:∀k∈l,k<11):kV (l.map κ9)=vW l:=by
 show V.lst _=V.lst _
 rw[Q7,Q7]
 exact congrArg V.lst (List.map_congr_left fun k hk=>by show(κ9 k).v=sV (wd9 k);rw[κ9_lt (hl k hk)];rfl)
noncomputable def jn (kp:List Nat) (k:Key):Bool:=match k with | .i z=>decide (z∈kp.map fun k:Nat=>(k:Int)) | .s _=>false
theorem jn_N (kp:List Nat) (c:Nat):jn kp (κN c)=decide (c∈kp):=decide_eq_decide.mpr (by
 rw[QO]
 exact⟨fun⟨a,h1,h2⟩=>Int.ofNat_inj.mp h2▸h1,fun h1=>⟨c,h1,rfl⟩⟩)
section
variable {hb:Hs} {mg mb:Str→Option Value}
theorem flt_num (X:Top C mg mb) {kp:List Nat}:Flt C (n+2) (lamV (exAt (elts9 (exAsg (stAt (B9f C) 3))) 0) "kept" 7) (fun h1=>(kc 7 (vN kp)).In h1) (jn kp) (fun k=>∃c,k=κN c) :=
 flt_of (by intro id e;cases e) (fun h QB q=>tru_lam q) kp_lam fun k ⟨c,e⟩=>by
  subst e
  exact pf_lam (x:=Qq "k") X.T (.inr rfl) (fun hb hi f L cells code=>pu_cmp pLo (pu_free (by rfl) (by rfl) (hi.cell kc_at)) (p2_in_ints (b:=vN kp) rfl))
theorem tst_wsL (X:Top C mg mb) {ls:List (List Nat)} (hl:∀y∈ls,QH (S y)=true):Tst C (n+3) 12 (.lst (ls.map sV)) (lamV (exAt (elts9 (forI9 (stAt (forB9 (stAt (B269 C) 17)) 0))) 0) "ws" 12) fun w=>decide (w∈ls) where
 nb:=by intro id e;cases e
 tru:=fun h QB q=>tru_lam q
 kp:=kp_lam
 call:=fun w hw=>pf_lam (x:=Qq "w") X.T (.inl rfl) (fun hb hi f L cells code=>pu_call0 (f:= .top 254) (Top.top X (by rfl) (by rfl)) (kp_fn (ok_junk X)) (pes_cons pLo (pes_cons (pu_free (by rfl) (by rfl) (hi.cell kc_at)) pes_nil)) (junk_of' X (n:=n+1) (binds_junk2 X) (p2_in_texts (b:= .lst (ls.map sV)) rfl (ok9 w hw) hl)))
theorem tst_wsT (X:Top C mg mb) {ls:List (List Nat)} (hl:∀y∈ls,QH (S y)=true):Tst C (n+3) 12 (.tup (ls.map sV)) (lamV (exAt (elts9 (forI9 (stAt (forB9 (stAt (B269 C) 17)) 0))) 0) "ws" 12) fun w=>decide (w∈ls) where
 nb:=by intro id e;cases e
 tru:=fun h QB q=>tru_lam q
 kp:=kp_lam
 call:=fun w hw=>pf_lam (x:=Qq "w") X.T (.inl rfl) (fun hb hi f L cells code=>pu_call0 (f:= .top 254) (Top.top X (by rfl) (by rfl)) (kp_fn (ok_junk X)) (pes_cons pLo (pes_cons (pu_free (by rfl) (by rfl) (hi.cell kc_at)) pes_nil)) (junk_of' X (n:=n+1) (binds_junk2 X) (p2_in_textsT (ok9 w hw) hl)))
theorem tst_20 (X:Top C mg mb) {ls:List (List Nat)} (hl:∀y∈ls,QH (S y)=true) (hz:ls.length≤100):Tst C (n+3) 9 (.lst (ls.map sV)) (lamV (exAt (elts9 (exAsg (stAt (B269 C) 20))) 0) "listed" 9) fun w=>decide (w∈ls) where
 nb:=by intro id e;cases e
 tru:=fun h QB q=>tru_lam q
 kp:=kp_lam
 call:=fun w hw=>pf_lam (x:=Qq "w") X.T (.inl rfl) (fun hb hi f L cells code=>pu_call0 (f:= .top 254) (Top.top X (by rfl) (by rfl)) (kp_fn (ok_junk X)) (pes_cons pLo (pes_cons (pu_call0 (f:= .ty "tuple") (vs:=[.lst (ls.map sV)]) (Top.ty X (by rfl) (by rfl)) kp_ty (pes_cons (pu_free (by rfl) (by rfl) (hi.cell kc_at)) pes_nil) (pf_tupL rfl (by rw[Qo];exact sizeOk (Qe hz (by decide))))) pes_nil)) (junk_of' X (n:=n+1) (binds_junk2 X) (p2_in_textsT (ok9 w hw) hl)))
theorem flt_21 (X:Top C mg mb) {ls:List (List Nat)} (hl:∀y∈ls,QH (S y)=true) (hz:ls.length≤100):Flt C (n+3) (lamV (exAt (elts9 (forI9 (stAt (B269 C) 21))) 0) "listed" 9) (fun h1=>(kc 9 (.lst (ls.map sV))).In h1) (jw fun w=>decide (w∈ls)) (fun k=>kOk9 k∨k= .i 0) :=
 flt_of (by intro id e;cases e) (fun h QB q=>tru_lam q) kp_lam fun k hk =>
  pf_lam (x:=Qq "w") X.T (.inl rfl) (fun hb hi f L cells code=>pu_call0 (f:= .top 254) (Top.top X (by rfl) (by rfl)) (kp_fn (ok_junk X)) (pes_cons pLo (pes_cons (pu_call0 (f:= .ty "tuple") (vs:=[.lst (ls.map sV)]) (Top.ty X (by rfl) (by rfl)) kp_ty (pes_cons (pu_free (by rfl) (by rfl) (hi.cell kc_at)) pes_nil) (pf_tupL rfl (by rw[Qo];exact sizeOk (Qe hz (by decide))))) pes_nil)) (junk_of' X (n:=n+1) (binds_junk2 X) (by
   rcases hk with⟨w,hw,e⟩|e
   ·subst e;exact p2_in_textsT (ok9 w hw) hl
   ·subst e;exact p2_in_int_textsT hl)))
end
noncomputable def dr9 (ns:List Int):Int:=ns.headD 3
noncomputable def y9 (ns:List Int):Int:=ns.getD 1 30
noncomputable def nm9 (ns:List Int):List Int:=ns.drop 2++[14,0,4,13,20,16,24,5]
noncomputable def ix9 (x:Int):Nat:=((x.fdiv 4).fmod 11).toNat
noncomputable def s9 (ns:List Int):List Nat:=((nm9 ns).filter fun x=>x.fmod 4 != 2).map ix9
noncomputable def t9 (ns:List Int):List Nat:=((nm9 ns).filter fun x=>x.fmod 4 != 1).map ix9
noncomputable def b9 (ns:List Int):List Nat:=(Wo 11).filter fun k=>decide (k∈s9 ns)&&decide (k∈t9 ns)
theorem ix9_lt (x:Int):ix9 x<11:=by
 have:=fmod_range (x.fdiv 4) (m:=11) (by decide)
 exact(Int.toNat_lt this.1).mpr this.2
theorem ix9_eq (x:Int):V.int ((x.fdiv 4).fmod 11)=V.int ((ix9 x:Nat):Int):=congrArg V.int (Int.toNat_of_nonneg (fmod_range (x.fdiv 4) (m:=11) (by decide)).1).symm
theorem s9_lt {ns:List Int}:∀k∈s9 ns,k<11:=fun k hk=>by refine x_EA (QO.mp hk) fun x _ z166=> ?_;subst z166;exact ix9_lt x
theorem t9_lt {ns:List Int}:∀k∈t9 ns,k<11:=fun k hk=>by refine x_EA (QO.mp hk) fun x _ z167=> ?_;subst z167;exact ix9_lt x
theorem nm9_len {ns:List Int} (h:ns.length≤63):(nm9 ns).length≤69:=by
 unfold nm9
 rw[Qn,List.length_drop]
 show ns.length-2+8≤69
 omega
theorem s9_len {ns:List Int} (h:ns.length≤63):(s9 ns).length≤69:=by
 unfold s9;rw[Qo];exact Qe (QX _ _) (nm9_len h)
theorem t9_len {ns:List Int} (h:ns.length≤63):(t9 ns).length≤69:=by
 unfold t9;rw[Qo];exact Qe (QX _ _) (nm9_len h)
noncomputable def sg9 (y:Int) (k:Nat):Nat:=[97,98,32,9].getD (((y.fdiv 7).fdiv (4^k)).fmod 4).toNat 0
noncomputable def tx9 (ns:List Int):List Nat:=((Wo ((y9 ns).fmod 7).toNat).map fun k=>[sg9 (y9 ns) k]).flatten
noncomputable def ls9 (ns:List Int):List Nat:=(Wo 11).filter fun k=>((dr9 ns).fdiv (2^k)).fmod 2==1
section
variable {hb:Hs} {mg mb:Str→Option Value}
theorem ok_law (X:Top C mg mb):FnOk C 269 (fnOf (k269 C.w.params)) (bodyOf (fnOf (k269 C.w.params))) :=
 fnOk_of (c:=268) (oc:=k268 C.w.params) X.I X.T (by rfl) (by rfl)
noncomputable abbrev F09 (C:Cx) (L:Addr) (cells:List (Str × Addr)):Fr:=⟨envFn 269 (fnOf (k269 C.w.params)) L cells,celFrom 0 (fnOf (k269 C.w.params)).scope.names []⟩
noncomputable abbrev R09 (C:Cx) (k:Nat):List Stmt:=((B269 C).take 22).drop k
noncomputable abbrev bk (f:Nat→Option V):Hs:=blk Hs.none 13 f
theorem bk_at {f:Nat→Option V} {j:Nat} {v:V} (e:f j=some v) (hj:autoParam (j<13) aD):(bk f).σ j= .cell (some v):=by
 have:=blk_at (h:=Hs.none) (f:=f) hj
 rw[e] at this
 rwa [show Hs.none.nx+j=j from Nat.zero_add j] at this
theorem ka_bk {x:Str} {p:Pos} {v:V} (i:Nat) {f:Nat→Option V} {b:List Stmt} (H:KX C n F loc (bk fun j=>if j=i then some v else f j) b QF) (hc:autoParam (F.cel.lookup x=some (0+i)) aR) (hi:autoParam (i<13) aD) (hk:autoParam (F.env.kindOf x=some .cell) aR):KA C n F loc (bk f) (.Name x p) v fun l2 h2=>KX C n F l2 h2 b QF :=
 ka_blk hc hi (KX.all H) hk
noncomputable abbrev L9a (ns:List Int):Loc:=[(Qq "script",vI ns),(Qq "numbers",vI (nm9 ns))]
theorem law9_a (X:Top C mg mb) {ns:List Int} (hns:ns.length≤63) {L:Addr} {cells:List (Str × Addr)} {f:Nat→Option V}
 (tail:KX C n (F09 C L cells) (L9a ns) (bk fun j=>if j=4 then some (vN (t9 ns)) else if j=3 then some (vN (s9 ns)) else if j=2 then some (.int (y9 ns)) else if j=1 then some (.int (dr9 ns)) else if j=0 then some (.lst (W9.map sV)) else f j) (R09 C 6) QF) :
 KX C n (F09 C L cells) [(Qq "script",vI ns)] (bk f) (R09 C 0) QF:=by
 have hz:ns.length≤Qc:=sizeOk (Qe hns (by decide))
 have hm:(nm9 ns).length≤Qc:=sizeOk (Qe (nm9_len hns) (by decide))
 refine kx_asg (v:= .lst (W9.map sV)) (pu_list (pes_cons (pu_strS (l:=[97]) (by decide +kernel)) (pes_cons (pu_strS (l:=[98]) (by decide +kernel)) (pes_cons (pu_strS (l:=[97,98]) (by decide +kernel)) (pes_cons (pu_strS (l:=[98,97]) (by decide +kernel)) (pes_cons (pu_strS (l:=[]) (by decide +kernel)) (pes_cons (pu_strS (l:=[32]) (by decide +kernel)) (pes_cons (pu_strS (l:=[9]) (by decide +kernel)) (pes_cons (pu_strS (l:=[32,9]) (by decide +kernel)) (pes_cons (pu_strS (l:=[9,32]) (by decide +kernel)) (pes_cons (pu_strS (l:=[10]) (by decide +kernel)) (pes_cons (pu_strS (l:=[97,98,97]) (by decide +kernel)) pes_nil))))))))))) (sizeOk (by decide))) (ka_bk 0 ?_)
 refine kx_asg (v:= .int (dr9 ns)) (pu_ifT (c:= !(ns.map V.int).isEmpty) (pub_value pLo (pt_list (v:=vI ns) rfl (by rw[Qo];exact hz))) (fun e=> ?_) fun e=> ?_) (ka_bk 1 ?_)
 · cases ns with
   |nil=>cases e
   |cons a l=>exact pu_sub pLo pu_int (notPyU_lst (v:=vI (a::l)) rfl) (p2_get_ints (v:=vI (a::l)) (j:=0) rfl (by rfl) (Nat.succ_pos _) hz)
 · cases ns with
   |nil=>exact pu_int
   |cons a l=>cases e
 refine kx_asg (v:= .int (y9 ns)) (pu_ifT (c:=decide ((1:Int)<(ns.length:Int))) (pub_cmp (pu_call0 (Top.blt X (by rfl) (by rfl)) kp_blt (pes_cons pLo pes_nil) (pf_lenT (v:=vI ns) rfl hz)) pu_int p2_gti) (fun e=> ?_) fun e=> ?_) (ka_bk 2 ?_)
 · have e:=Ww.mp (of_decide_eq_true e)
   exact Pu.eq (pu_sub pLo pu_int (notPyU_lst (v:=vI ns) rfl) (p2_get_ints (v:=vI ns) (j:=1) rfl (by rfl) e hz)) (congrArg V.int (by unfold y9;rw[QN,QN,Qh e];rfl))
 · have e:=Nat.le_of_not_lt fun z=>of_decide_eq_false e (Ww.mpr z)
   exact Pu.eq pu_int (congrArg V.int (by unfold y9;rw[QN,List.getElem?_eq_none e];rfl))
 refine kx_set (v:=vI (nm9 ns)) (pu_bin (a:= .lst ((ns.drop 2).map V.int)) (b:=vI [14,0,4,13,20,16,24,5]) (Pu.eq (pu_slice (l:=partV (some ((2:Nat):Int))) (u:=partV none) (s:=partV none) pLo (po_some pu_int) po_none po_none (notPyU_lst (v:=vI ns) rfl) (ps_listT (v:=vI ns) (g:=V.int) rfl hz (by simp))) (by rw[pick_from])) (pu_ints (pes_cons pu_int (pes_cons pu_int (pes_cons pu_int (pes_cons pu_int (pes_cons pu_int (pes_cons pu_int (pes_cons pu_int (pes_cons pu_int pes_nil))))))))) (p2_addT (g:=V.int) (u:= .lst _) (v:= .lst _) rfl rfl (by have:=nm9_len hns;unfold nm9 at this;rw[Qn] at this;exact sizeOk (Qe this (by decide))))) ?_
 refine kx_asg (v:=vN (s9 ns)) (Pu.eq (pu_lcT (as:=nm9 ns) (g:=V.int) (fun x=>x.fmod 4 != 2) ix9 (fun k:Nat=>V.int (k:Int)) (pi_lst pLo) hm (fun x _ L' cells'=>pts_one (pub_cmp (pu_bin pLo pu_int (p2_modi (by decide))) pu_int p2_nei)) fun x _ _ L' cells'=>Pu.eq (pu_bin (pu_bin pLo pu_int (p2_divi (by decide) (PyProof.noPylong_small (by decide)))) pu_int (p2_modi (by decide))) (ix9_eq x)) (by show V.lst _=V.lst _;rw[Q7 (g:=V.int)];rfl)) (ka_bk 3 ?_)
 exact kx_asg (v:=vN (t9 ns)) (Pu.eq (pu_lcT (as:=nm9 ns) (g:=V.int) (fun x=>x.fmod 4 != 1) ix9 (fun k:Nat=>V.int (k:Int)) (pi_lst pLo) hm (fun x _ L' cells'=>pts_one (pub_cmp (pu_bin pLo pu_int (p2_modi (by decide))) pu_int p2_nei)) fun x _ _ L' cells'=>Pu.eq (pu_bin (pu_bin pLo pu_int (p2_divi (by decide) (PyProof.noPylong_small (by decide)))) pu_int (p2_modi (by decide))) (ix9_eq x)) (by show V.lst _=V.lst _;rw[Q7 (g:=V.int)];rfl)) (ka_bk 4 tail)
end
theorem w9_at:∀k,k<11→(W9.map sV)[k]? =some (sV (wd9 k)):=fun k hk=>by
 rw[Qb]
 unfold wd9
 rw[QN,Qh (show k<W9.length from hk)]
 rfl
theorem vN_v (l:List Nat):vN l= .lst (l.map fun k:Nat=>V.int (k:Int)):=by
 show V.lst _=V.lst _
 rw[Q7];rfl
theorem sg9_at (y:Int) (k:Nat):([97,98,32,9]:List Nat)[(((y.fdiv 7).fdiv (4^k)).fmod 4).toNat]? =some (sg9 y k):=by
 have h:=fmod_range ((y.fdiv 7).fdiv (4^k)) (m:=4) (by decide)
 have h2:(((y.fdiv 7).fdiv (4^k)).fmod 4).toNat<4:=(Int.toNat_lt h.1).mpr h.2
 unfold sg9
 rw[QN,Qh (show _<([97,98,32,9]:List Nat).length from h2)]
 rfl
theorem y7_lt (y:Int):(y.fmod 7).toNat<7:=by
 have h:=fmod_range y (m:=7) (by decide)
 exact(Int.toNat_lt h.1).mpr h.2
theorem p4_lt {k:Nat} (h:k<7):((4:Int)^k).natAbs<1073741824:=by
 rw[Int.natAbs_pow]
 exact Qj (Nat.pow_le_pow_right (by decide) (Qx h)) (by decide)
theorem p2_lt {k:Nat} (h:k<11):((2:Int)^k).natAbs<1073741824:=by
 rw[Int.natAbs_pow]
 exact Qj (Nat.pow_le_pow_right (by decide) (Qx h)) (by decide)
section
variable {hb:Hs} {mg mb:Str→Option Value}
theorem pu_w9 {e:Expr} {k:Nat} {w:Expr} {pp:Pos} (hk:k<11) (W:Pu C n F loc h w (.lst (W9.map sV))) (E:Pu C n F loc h e (.int (k:Int))) (hs:autoParam (∀x y,subscripted e false x y=operate [x,y] (getItem x y)) aI):Pu C n F loc h (.Subscript w e pp) (sV (wd9 k)) :=
 pu_sub W E (notPyU_lst (v:= .lst (W9.map sV)) rfl) (p2_getlN (v:= .lst (W9.map sV)) rfl (sizeOk (by decide)) (w9_at k hk)) hs
noncomputable abbrev L9b (ns:List Int):Loc:=L9a ns++[(Qq "a",vW (s9 ns)),(Qq "b",vW (t9 ns))]
theorem law9_b (X:Top C mg mb) {ns:List Int} (hns:ns.length≤63) {L:Addr} {cells:List (Str × Addr)} {f:Nat→Option V}
 (f0:f 0=some (.lst (W9.map sV))) (f1:f 1=some (.int (dr9 ns))) (f2:f 2=some (.int (y9 ns))) (f3:f 3=some (vN (s9 ns))) (f4:f 4=some (vN (t9 ns)))
 (tail:KX C (n+1) (F09 C L cells) (L9b ns) (bk fun j=>if j=9 then some (vW (ls9 ns)) else if j=11 then some (sV (tx9 ns)) else if j=5 then some (vN (b9 ns)) else f j) (R09 C 11) QF) :
 KX C (n+1) (F09 C L cells) (L9a ns) (bk f) (R09 C 6) QF:=by
 have hs:=s9_len hns
 have ht:=t9_len hns
 have e:((s9 ns).filter fun _=>true).map (fun k=>sV (wd9 k))=((s9 ns).map wd9).map sV:=by rw[filter_tt,Q7];rfl
 refine kx_lc (as:=s9 ns) (g:=fun k:Nat=>V.int (k:Int)) (fun _=>true) (fun k=>sV (wd9 k)) (pi_lst (Pu.eq (pu_cell (i:=3) (by rfl) (by rfl) (bk_at f3)) (vN_v _))) (sizeOk (Qe hs (by decide))) (fun k hk L' cells'=>pts_nil) (fun k hk _ L' cells'=> ?_) ?_
 ·exact pu_w9 (s9_lt k hk) (pu_cell (i:=0) (by rfl) (by rfl) (bk_at f0)) pLo
 rw[e]
 clear e
 refine ka_loc (KX.all ?_)
 have e:((t9 ns).filter fun _=>true).map (fun k=>sV (wd9 k))=((t9 ns).map wd9).map sV:=by rw[filter_tt,Q7];rfl
 refine kx_lc (as:=t9 ns) (g:=fun k:Nat=>V.int (k:Int)) (fun _=>true) (fun k=>sV (wd9 k)) (pi_lst (Pu.eq (pu_cell (i:=4) (by rfl) (by rfl) (bk_at f4)) (vN_v _))) (sizeOk (Qe ht (by decide))) (fun k hk L' cells'=>pts_nil) (fun k hk _ L' cells'=> ?_) ?_
 ·exact pu_w9 (t9_lt k hk) (pu_cell (i:=0) (by rfl) (by rfl) (bk_at f0)) pLo
 rw[e]
 clear e
 refine ka_loc (KX.all ?_)
 refine kx_asg (v:=vN (b9 ns)) (pu_lcT (as:=Wo 11) (g:=fun i:Nat=>V.int (i:Int)) (fun k=>decide (k∈s9 ns)&&decide (k∈t9 ns)) (fun k:Nat=>(k:Int)) V.int (pi_rng0 (m:=11) (pu_call0 (Top.ty X (by rfl) (by rfl)) kp_ty (pes_cons pu_int pes_nil) pf_range1) (by decide)) (sizeOk (by decide)) (fun k hk L' cells'=> ?_) fun k hk _ L' cells'=>pLo) (ka_bk 5 ?_)
 ·exact pts_one (PuB.eq (pub_and (a:=decide ((k:Int)∈(s9 ns).map fun k:Nat=>(k:Int))) (b:=decide ((k:Int)∈(t9 ns).map fun k:Nat=>(k:Int))&&true) (pub_cmp pLo (pu_cell (i:=3) (by rfl) (by rfl) (bk_at f3)) (p2_in_ints (b:=vN (s9 ns)) rfl)) fun _=>pub_and (pub_cmp pLo (pu_cell (i:=4) (by rfl) (by rfl) (bk_at f4)) (p2_in_ints (b:=vN (t9 ns)) rfl)) fun _=>pub_and_nil) (by rw[Bool.and_true];exact congr (congrArg _ (jn_N (s9 ns) k)) (jn_N (t9 ns) k)))
 have z7:=y7_lt (y9 ns)
 have hy:=fmod_range (y9 ns) (m:=7) (by decide)
 refine kx_asg (v:=sV (tx9 ns)) (pu_mcall0 (a:=sV []) (f:= .blt "str.join") (first:=[sV []]) (vs:=[.lst (((Wo ((y9 ns).fmod 7).toNat).map fun k=>[sg9 (y9 ns) k]).map sV)]) (pu_strS (by decide +kernel)) pm_join (pes_cons (pu_lcT0 (as:=Wo ((y9 ns).fmod 7).toNat) (g:=fun i:Nat=>V.int (i:Int)) (fun k=>[sg9 (y9 ns) k]) sV (pi_rng0 (m:=((y9 ns).fmod 7).toNat) (pu_call0 (Top.ty X (by rfl) (by rfl)) kp_ty (pes_cons (Pu.eq (pu_bin (pu_cell (i:=2) (by rfl) (by rfl) (bk_at (v:= .int (y9 ns)) f2)) pu_int (p2_modi (by decide))) (congrArg V.int (Int.toNat_of_nonneg hy.1).symm)) pes_nil) pf_range1) (Qe (Qx z7) (by decide))) (sizeOk (by rw[List.length_range];exact Qe (Qx z7) (by decide))) fun k hk L' cells'=> ?_) pes_nil) (pf_join (v:= .lst _) (B:=1) rfl ?_ ?_)) (ka_bk 11 ?_)
 · have hk:=Nat.lt_trans (List.mem_range.mp hk) z7
   have h4:=fmod_range (((y9 ns).fdiv 7).fdiv (4^k)) (m:=4) (by decide)
   exact pu_sub (a:=sV [97,98,32,9]) (b:= .int ((((y9 ns).fdiv 7).fdiv (4^k)).fmod 4)) (pu_strS (by decide +kernel)) (pu_bin (pu_bin (pu_bin (pu_cell (i:=2) (by rfl) (by rfl) (bk_at (v:= .int (y9 ns)) f2)) pu_int (p2_divi (by decide) (PyProof.noPylong_small (by decide)))) (pu_bin (b:= .int (k:Int)) pu_int pLo (p2_powi (Int.natCast_nonneg k) (Int.ofNat_le.mpr (Qe (Qx hk) (by decide))) (by decide))) (p2_divi (Int.ne_of_gt (Int.pow_pos (by decide))) (PyProof.noPylong_small (p4_lt hk)))) pu_int (p2_modi (by decide))) notPyU_S (p2_getSI (sizeOk (by decide)) h4.1 (sg9_at _ k))
 · intro y hy
   refine x_EA (QO.mp hy) fun x _ z168=> ?_;subst z168
   exact Qt 1
 · rw[Qo,List.length_range,Nat.mul_one]
   exact Qe (Qx z7) (by decide)
 refine kx_asg (v:=vW (ls9 ns)) (pu_lcT (as:=Wo 11) (g:=fun i:Nat=>V.int (i:Int)) (fun k=>((dr9 ns).fdiv (2^k)).fmod 2==1) wd9 sV (pi_rng0 (m:=11) (pu_call0 (Top.ty X (by rfl) (by rfl)) kp_ty (pes_cons pu_int pes_nil) pf_range1) (by decide)) (sizeOk (by decide)) (fun k hk L' cells'=> ?_) fun k hk _ L' cells'=> ?_) (ka_bk 9 tail)
 ·exact pts_one (pub_cmp (pu_bin (pu_bin (pu_cell (i:=1) (by rfl) (by rfl) (bk_at (v:= .int (dr9 ns)) f1)) (pu_bin (b:= .int (k:Int)) pu_int pLo (p2_powi (Int.natCast_nonneg k) (Int.ofNat_le.mpr (Qe (Qx (List.mem_range.mp hk)) (by decide))) (by decide))) (p2_divi (Int.ne_of_gt (Int.pow_pos (by decide))) (PyProof.noPylong_small (p2_lt (List.mem_range.mp hk))))) pu_int (p2_modi (by decide))) pu_int p2_eqi)
 ·exact pu_w9 (List.mem_range.mp hk) (pu_cell (i:=0) (by rfl) (by rfl) (bk_at f0)) pLo
end
structure Cel (ns:List Int) (g:Nat→Option V):Prop where
 c0:g 0=some (.lst (W9.map sV))
 c3:g 3=some (vN (s9 ns))
 c4:g 4=some (vN (t9 ns))
 c5:g 5=some (vN (b9 ns))
 c9:g 9=some (vW (ls9 ns))
 c11:g 11=some (sV (tx9 ns))
theorem Cel.upd {ns:List Int} {g:Nat→Option V} {i:Nat} {v:V} (c:Cel ns g) (hi:i=6∨i=7∨i=8∨i=10∨i=12):Cel ns fun j=>if j=i then some v else g j:=by
 rcases hi with rfl|rfl|rfl|rfl|rfl<;>exact⟨c.c0,c.c3,c.c4,c.c5,c.c9,c.c11⟩
theorem kc_in {g:Nat→Option V} {c:Nat} {u:V} (e:g c=some u) (hc:c<13):(kc c u).In (bk g):=Hs.In.only (bk_at e hc)
theorem Tst.congr {C:Cx} {n c:Nat} {u T:V} {p q:List Nat→Bool} (t:Tst C n c u T p) (e:∀w∈W9,p w=q w):Tst C n c u T q:=⟨t.nb,t.tru,t.kp,fun w hw=>e w hw▸t.call w hw⟩
structure Fam (C:Cx) (n:Nat) (ns:List Int) (x:List (List Nat) × List V):Prop where
 sub:∀w∈x.1,w∈W9
 lt:x.2.length≤10
 len:x.1.length≤100
 tests:∀T∈x.2,∃c u,(∀g,Cel ns g→(kc c u).In (bk g))∧Tst C (n+3) c u T fun w=>decide (w∈x.1)
noncomputable abbrev fams (C:Cx) (ns:List Int):List (List (List Nat) × List V) :=
 [(W9.filter fun y=>stands y (tx9 ns),[lamV (fam9 C 0 0) "text" 11]),(W9.filter fun y=>stands y ws2,[.top 254]),((ls9 ns).map wd9,[lamV (fam9 C 2 0) "listed" 9,lamV (fam9 C 2 1) "listed" 9,lamV (fam9 C 2 2) "listed" 9,lamV (fam9 C 2 3) "listed" 9])]
noncomputable abbrev famV (x:List (List Nat) × List V):V:= .tup [.lst (x.1.map sV), .lst x.2]
theorem ls9_lt {ns:List Int}:∀k∈ls9 ns,k<11:=fun k hk=>List.mem_range.mp (Wp.mp hk).1
theorem b9_lt {ns:List Int}:∀k∈b9 ns,k<11:=fun k hk=>List.mem_range.mp (Wp.mp hk).1
theorem wds_sub {l:List Nat} (h:∀k∈l,k<11):∀w∈l.map wd9,w∈W9:=fun w hw=>by
 refine x_EA (QO.mp hw) fun k hk z169=> ?_;subst z169
 exact wd_mem k (h k hk)
theorem wds_mem {l:List Nat} {k:Nat} (h:∀k∈l,k<11) (hk:k<11):wd9 k∈l.map wd9↔k∈l:=by
 rw[QO]
 exact⟨fun⟨a,h1,h2⟩=>wd_inj a (h a h1) k hk h2▸h1,fun h1=>⟨k,h1,rfl⟩⟩
theorem ls9_nd {ns:List Int}:(((ls9 ns).map wd9).map kS).Nodup:=by
 have h1:(ls9 ns).Nodup:=List.Nodup.sublist List.filter_sublist List.nodup_range
 rw[Q7]
 have go:∀l:List Nat,(∀k∈l,k<11)→l.Nodup→(l.map (kS∘wd9)).Nodup:=fun l=>by
  induction l with
  |nil=>exact fun _ _=>List.nodup_nil
  |cons a l ih =>
   intro h nd
   rw[List.nodup_cons] at nd
   rw[Q3,List.nodup_cons]
   refine⟨fun z=> ?_,ih (fun k hk=>h k (List.mem_cons_of_mem _ hk)) nd.2⟩
   refine x_EA (QO.mp z) fun k hk e=> ?_
   exact nd.1 (wd_inj k (h k (List.mem_cons_of_mem _ hk)) a (h a (List.mem_cons_self ..)) (kS_inj.mp e)▸hk)
 exact go _ ls9_lt h1
theorem filt_len {p:List Nat→Bool}:(W9.filter p).length≤100:=Qe (QX _ _) (by decide)
theorem tx9_len {ns:List Int}:(tx9 ns).length≤100:=by
 unfold tx9
 have h:=y7_lt (y9 ns)
 have go:∀l:List Nat,(l.map fun k=>[sg9 (y9 ns) k]).flatten.length=l.length:=fun l=>by
  induction l with
  |nil=>rfl
  |cons a l ih=>rw[Q3,List.flatten_cons,Qn,ih];exact Nat.add_comm 1 _
 rw[go,List.length_range]
 exact Qe (Qx h) (by decide)
section
variable {hb:Hs} {mg mb:Str→Option Value}
theorem ls9_len {ns:List Int}:((ls9 ns).map wd9).length≤100:=by
 rw[Qo]
 exact Qe (QX _ _) (by decide)
theorem filt_mem {p:List Nat→Bool}:∀w∈W9,p w=decide (w∈W9.filter p):=fun w hw=>by
 rw[Bool.eq_iff_iff,decide_eq_true_iff,Wp]
 exact(and_iff_right hw).symm
theorem fams_ok (X:Top C mg mb) {ns:List Int}:∀x∈fams C ns,Fam C n ns x:=by
 have hl:∀y∈(ls9 ns).map wd9,QH (S y)=true:=fun y hy=>ok9 y (wds_sub ls9_lt y hy)
 intro x hx
 rcases QY.mp hx with rfl|hx
 · refine⟨fun w hw=>(Wp.mp hw).1,QV rfl,filt_len (p:=fun y=>stands y (tx9 ns)),fun T hT=> ?_⟩
   rw[Qs] at hT;subst hT
   exact⟨11,_,fun g c=>kc_in c.c11 (by decide),(tst_text X).congr filt_mem⟩
 rcases QY.mp hx with rfl|hx
 · refine⟨fun w hw=>(Wp.mp hw).1,QV rfl,filt_len (p:=fun y=>stands y ws2),fun T hT=> ?_⟩
   rw[Qs] at hT;subst hT
   exact⟨11,_,fun g c=>kc_in c.c11 (by decide),(tst_top X).congr filt_mem⟩
 rw[Qs] at hx;subst hx
 refine⟨wds_sub ls9_lt,QV rfl,ls9_len,fun T hT=>⟨9,_,fun g c=>kc_in c.c9 (by decide), ?_⟩⟩
 rcases QY.mp hT with rfl|hT
 ·exact tst_tup X hl ls9_len
 rcases QY.mp hT with rfl|hT
 ·exact tst_kw X hl ls9_len
 rcases QY.mp hT with rfl|hT
 ·exact tst_set X hl ls9_len
 rw[Qs] at hT;subst hT
 exact tst_dict X hl ls9_len ls9_nd
theorem pu_lambdaQ {F:Fr} {loc:Loc} {params:Arguments} {body:Expr} {scope:Scope} {pos:Pos} {c P:Addr} {cl:List (Str × Nat)} {q:Str} (T:Tp C mg mb) (B:BmOk C mg) (hq:F.env.qual ++ "<lambda>" = q) (K:CdOk C c P q) (hcode:F.env.code= .ref c)
 (hclo:autoParam (cloA F.cel scope.names []=some cl) aR) (hdef:autoParam (defaultsOf params F.env=([],[])) aR):Pu C n F loc h (.Lambda params body scope pos) (.lam params body scope q cl):=by
 subst hq;exact pu_lambda T B K hcode hclo hdef
theorem q9 {L:Addr} {cells:List (Str × Addr)}:(F09 C L cells).env.qual ++ "<lambda>" = Qq "law.<locals>.<lambda>" := by kernel_rfl
noncomputable abbrev L9c (C:Cx) (ns:List Int):Loc:=L9b ns++[(Qq "families", .lst ((fams C ns).map famV))]
theorem law9_c (X:Top C mg mb) (CD:CdOk C 268 266 (Qq "law.<locals>.<lambda>")) {ns:List Int} {L:Addr} {cells:List (Str × Addr)} {g:Nat→Option V} (c:Cel ns g)
 (tail:KX C (n+2) (F09 C L cells) (L9c C ns) (bk g) (R09 C 12) QF) :
 KX C (n+2) (F09 C L cells) (L9b ns) (bk g) (R09 C 11) QF:=by
 refine kx_set (v:= .lst ((fams C ns).map famV)) (pu_list (vs:=(fams C ns).map famV) (pes_cons (pu_tuple (pes_cons (pu_call0 (f:= .top 264) (Top.top X (by rfl) (by rfl)) (kp_fn (ok_lstanding X)) (pes_cons (pu_cell (i:=0) (by rfl) (by rfl) (bk_at c.c0)) (pes_cons (pu_cell (i:=11) (by rfl) (by rfl) (bk_at c.c11)) pes_nil)) (pf_standing X tx9_len)) (pes_cons (pu_list (pes_cons (pu_lambdaQ X.T X.B q9 CD rfl) pes_nil) (le_szL (by rfl))) pes_nil)) (le_szL (by rfl))) (pes_cons (pu_tuple (pes_cons (pu_call0 (f:= .top 264) (Top.top X (by rfl) (by rfl)) (kp_fn (ok_lstanding X)) (pes_cons (pu_cell (i:=0) (by rfl) (by rfl) (bk_at c.c0)) (pes_cons (pu_strS (l:=ws2) (by decide +kernel)) pes_nil)) (pf_standing X (by decide))) (pes_cons (pu_list (pes_cons (Top.top X (by rfl) (by rfl)) pes_nil) (le_szL (by rfl))) pes_nil)) (le_szL (by rfl))) (pes_cons (pu_tuple (pes_cons (pu_cell (i:=9) (by rfl) (by rfl) (bk_at c.c9)) (pes_cons (pu_list (pes_cons (pu_lambdaQ X.T X.B q9 CD rfl) (pes_cons (pu_lambdaQ X.T X.B q9 CD rfl) (pes_cons (pu_lambdaQ X.T X.B q9 CD rfl) (pes_cons (pu_lambdaQ X.T X.B q9 CD rfl) pes_nil)))) (le_szL (by rfl))) pes_nil)) (le_szL (by rfl))) pes_nil))) (le_szL (by rfl))) tail
end
noncomputable abbrev trI (t:Tr):List Int:=[(t.1:Int),(t.2.1:Int),(t.2.2:Int)]
theorem map_trI (l:List Tr):l.map trV=(l.map trI).map tI:=by rw[Q7];rfl
noncomputable def kp9 (ns:List Int) (hd:List (List Nat)):List Nat:=(b9 ns).filter fun k=>decide (wd9 k∈hd)
noncomputable def mo9 (ns:List Int) (hd:List (List Nat)):List Nat:=(Wo 11).filter fun k=> !decide (k∈b9 ns)||decide (wd9 k∈hd)
theorem kp9_lt {ns:List Int} {hd:List (List Nat)}:∀k∈kp9 ns hd,k<11:=fun k hk=>b9_lt k (Wp.mp hk).1
theorem mo9_lt {ns:List Int} {hd:List (List Nat)}:∀k∈mo9 ns hd,k<11:=fun k hk=>List.mem_range.mp (Wp.mp hk).1
theorem b9_len {ns:List Int}:(b9 ns).length≤11:=Qe (QX _ _) (QK List.length_range)
theorem kp9_len {ns:List Int} {hd:List (List Nat)}:(kp9 ns hd).length≤11:=Qe (QX _ _) b9_len
theorem mem_b9 {ns:List Int} {k:Nat} (h1:k∈s9 ns) (h2:k∈t9 ns):k∈b9 ns:=Wp.mpr ⟨List.mem_range.mpr (s9_lt k h1),by rw[decide_eq_true h1,decide_eq_true h2];rfl⟩
theorem mem_kp9 {ns:List Int} {hd:List (List Nat)} {k:Nat} (h:k∈b9 ns):k∈kp9 ns hd↔wd9 k∈hd:=by
 unfold kp9
 rw[Wp,decide_eq_true_iff]
 exact and_iff_right h
theorem mem_mo9 {ns:List Int} {hd:List (List Nat)} {k:Nat} (h:k∈b9 ns):k∈mo9 ns hd↔wd9 k∈hd:=by
 unfold mo9
 rw[Wp,decide_eq_true h,Bool.not_true,Bool.false_or,decide_eq_true_iff]
 exact and_iff_right (List.mem_range.mpr (b9_lt k h))
section
variable {hb:Hs} {mg mb:Str→Option Value}
theorem pf_words (X:Top C mg mb) {ns:List Int} (hns:ns.length≤63) {jV:V} {Kn:Hs→Prop} {p:List Nat→Bool} {kOk:Key→Prop} {q:Nat→Bool} (J:Flt C (n+2) jV Kn (jw p) kOk) (hkn:Kn h) (hkk:∀k,kOk9 k→kOk k) (hq:∀c∈s9 ns,c∈t9 ns→p (wd9 c)=q c) :
 PF C (n+9) h (.top 259) [jV,vW (s9 ns),vW (t9 ns)] [] (.lst ((B9 q (s9 ns) (t9 ns)).map trV)):=by
 rw[←kV_W (s9_lt (ns:=ns)),←kV_W (t9_lt (ns:=ns))]
 exact pf_lb9 X (n:=n) J hkn (fun c hc=>hkk _ ⟨wd9 c,wd_mem c (t9_lt c hc),κ9_lt (t9_lt c hc)⟩) (fun x hx y hy=>κ9_inj (Nat.lt_succ_of_lt (s9_lt x hx)) (Nat.lt_succ_of_lt (t9_lt y hy))) (fun c h1 h2=>by rw[κ9_lt (s9_lt c h1)];exact hq c h1 h2) (QT (s9_len hns)) (QT (t9_len hns))
theorem pf_nums (X:Top C mg mb) {ns:List Int} (hns:ns.length≤63) {kp:List Nat} (hk:(kc 7 (vN kp)).In h) :
 PF C (n+9) h (.top 259) [lamV (exAt (elts9 (exAsg (stAt (B9f C) 3))) 0) "kept" 7,vN (s9 ns),vN (t9 ns)] [] (.lst ((B9 (fun c=>decide (c∈kp)) (s9 ns) (t9 ns)).map trV)):=by
 rw[←kV_N (s9 ns),←kV_N (t9 ns)]
 exact pf_lb9 X (n:=n) (flt_num X) hk (fun c hc=>⟨c,rfl⟩) (fun x hx y hy=>κN_inj) (fun c h1 h2=>jn_N kp c) (QT (s9_len hns)) (QT (t9_len hns))
theorem p2_ne_tr {l m:List Tr} (e:l=m):P2 C (n+1) (QQ .NotEq) h (.lst (l.map trV)) (.lst (m.map trV)) (.bool false):=by
 subst e
 have e:=p2_neT (C:=C) (n:=n) (h:=h) (a:= .lst (l.map trV)) (b:= .lst (l.map trV)) (as:=l.map trI) (bs:=l.map trI) (map_trI l) (map_trI l)
 rw[decide_eq_true rfl] at e
 exact e
theorem fam_head (X:Top C mg mb) (CD:CdOk C 268 266 (Qq "law.<locals>.<lambda>")) {ns:List Int} (hns:ns.length≤63) {x:List (List Nat) × List V} (fx:Fam C n ns x) {L:Addr} {cells:List (Str × Addr)} {g:Nat→Option V} (c:Cel ns g) (c6:g 6=some (.lst (x.1.map sV)))
 (tail:KX C (n+10) (F09 C L cells) (L9c C ns++[(Qq "tests", .lst x.2),(Qq "due", .lst ((B9 (fun c=>decide (c∈kp9 ns x.1)) (s9 ns) (t9 ns)).map trV))]) (bk fun j=>if j=10 then some (vW (mo9 ns x.1)) else if j=8 then some (.tup (((kp9 ns x.1).map wd9).map sV)) else if j=7 then some (vN (kp9 ns x.1)) else g j) ((B9f C).drop 4) QF) :
 KX C (n+10) (F09 C L cells) (L9c C ns++[(Qq "tests", .lst x.2)]) (bk g) ((B9f C).drop 0) QF:=by
 have hl:∀y∈x.1,QH (S y)=true:=fun y hy=>ok9 y (fx.sub y hy)
 refine kx_asg (v:=vN (kp9 ns x.1)) (pu_lcT (as:=b9 ns) (g:=fun k:Nat=>V.int (k:Int)) (fun k=>decide (wd9 k∈x.1)) (fun k:Nat=>(k:Int)) V.int (pi_lst (Pu.eq (pu_cell (i:=5) (by rfl) (by rfl) (bk_at c.c5)) (vN_v _))) (sizeOk (Qe b9_len (by decide))) (fun k hk L' cells'=> ?_) fun k hk _ L' cells'=> ?_) (ka_bk 7 ?_)
 ·exact pts_one (pub_cmp (pu_w9 (b9_lt k hk) (pu_cell (i:=0) (by rfl) (by rfl) (bk_at c.c0)) pLo) (pu_cell (i:=6) (by rfl) (by rfl) (bk_at c6)) (p2_in_texts (b:= .lst (x.1.map sV)) rfl (ok9 _ (wd_mem k (b9_lt k hk))) hl))
 ·exact pLo
 refine kx_asg (v:= .tup (((kp9 ns x.1).map wd9).map sV)) (pu_call0 (f:= .ty "tuple") (vs:=[.lst (((kp9 ns x.1).map wd9).map sV)]) (Top.ty X (by rfl) (by rfl)) kp_ty (pes_cons (pu_lcT0 (as:=kp9 ns x.1) (g:=fun k:Nat=>V.int (k:Int)) wd9 sV (pi_lst (Pu.eq (pu_cell (i:=7) (by rfl) (by rfl) (bk_at (v:=vN (kp9 ns x.1)) (by rfl))) (vN_v _))) (sizeOk (Qe kp9_len (by decide))) fun k hk L' cells'=> ?_) pes_nil) (pf_tupL rfl (by rw[Qo,Qo];exact sizeOk (Qe kp9_len (by decide))))) (ka_bk 8 ?_)
 ·exact pu_w9 (kp9_lt k hk) (pu_cell (i:=0) (by rfl) (by rfl) (bk_at c.c0)) pLo
 refine kx_asg (v:=vW (mo9 ns x.1)) (pu_lcT (as:=Wo 11) (g:=fun i:Nat=>V.int (i:Int)) (fun k=> !decide (k∈b9 ns)||decide (wd9 k∈x.1)) wd9 sV (pi_rng0 (m:=11) (pu_call0 (Top.ty X (by rfl) (by rfl)) kp_ty (pes_cons pu_int pes_nil) pf_range1) (by decide)) (sizeOk (by decide)) (fun k hk L' cells'=> ?_) fun k hk _ L' cells'=> ?_) (ka_bk 10 ?_)
 · have hk:=List.mem_range.mp hk
   exact pts_one (PuB.eq (pub_or (a:= !decide ((k:Int)∈(b9 ns).map fun k:Nat=>(k:Int))) (b:=decide (wd9 k∈x.1)||false) (pub_cmp pLo (pu_cell (i:=5) (by rfl) (by rfl) (bk_at (v:=vN (b9 ns)) c.c5)) (p2_nin_ints (b:=vN (b9 ns)) rfl)) fun _=>pub_or (pub_cmp (pu_w9 hk (pu_cell (i:=0) (by rfl) (by rfl) (bk_at c.c0)) pLo) (pu_cell (i:=6) (by rfl) (by rfl) (bk_at (v:= .lst (x.1.map sV)) c6)) (p2_in_texts (b:= .lst (x.1.map sV)) rfl (ok9 _ (wd_mem k hk)) hl)) fun _=>pub_or_nil) (by rw[Bool.or_false];exact congrArg (fun z=> !z||_) (jn_N (b9 ns) k)))
 ·exact pu_w9 (List.mem_range.mp hk) (pu_cell (i:=0) (by rfl) (by rfl) (bk_at c.c0)) pLo
 exact kx_set (v:= .lst ((B9 (fun c=>decide (c∈kp9 ns x.1)) (s9 ns) (t9 ns)).map trV)) (pu_call0 (f:= .top 259) (Top.top X (by rfl) (by rfl)) (kp_fn (ok_lblocks X)) (pes_cons (pu_lambdaQ X.T X.B q9 CD rfl) (pes_cons (pu_cell (i:=3) (by rfl) (by rfl) (bk_at (v:=vN (s9 ns)) c.c3)) (pes_cons (pu_cell (i:=4) (by rfl) (by rfl) (bk_at (v:=vN (t9 ns)) c.c4)) pes_nil))) (pf_nums X (n:=n+1) hns (kc_in (by rfl) (by decide)))) tail
end
section
variable {hb:Hs} {mg mb:Str→Option Value}
noncomputable abbrev L9d (C:Cx) (ns:List Int) (x:List (List Nat) × List V):Loc:=L9c C ns++[(Qq "tests", .lst x.2),(Qq "due", .lst ((B9 (fun c=>decide (c∈kp9 ns x.1)) (s9 ns) (t9 ns)).map trV))]
theorem fam_blocks (X:Top C mg mb) (CD:CdOk C 268 266 (Qq "law.<locals>.<lambda>")) {ns:List Int} (hns:ns.length≤63) {x:List (List Nat) × List V} (fx:Fam C n ns x) {L:Addr} {cells:List (Str × Addr)} {g:Nat→Option V} (c:Cel ns g)
 (c8:g 8=some (.tup (((kp9 ns x.1).map wd9).map sV))) (c10:g 10=some (vW (mo9 ns x.1)))
 (tail:KX C (n+10) (F09 C L cells) (L9d C ns x) (bk g) ((B9f C).drop 5) QF) :
 KX C (n+10) (F09 C L cells) (L9d C ns x) (bk g) ((B9f C).drop 4) QF:=by
 have hT:∀T∈x.2++[lamV (exAt (elts9 (forI9 (stAt (B9f C) 4))) 0) "less" 8,lamV (exAt (elts9 (forI9 (stAt (B9f C) 4))) 1) "more" 10],∃c u p,(kc c u).In (bk g)∧Tst C (n+3) c u T p∧∀k∈s9 ns,k∈t9 ns→p (wd9 k)=decide (k∈kp9 ns x.1):=fun T hT=>by
  rcases List.mem_append.mp hT with hT|hT
  · refine x_EEA (fx.tests T hT) fun i u h1 h2=> ?_
    exact⟨i,u,_,h1 g c,h2,fun k k1 k2=>decide_eq_decide.mpr (mem_kp9 (mem_b9 k1 k2)).symm⟩
  rcases QY.mp hT with rfl|hT
  ·exact⟨8,_,_,kc_in c8 (by decide),tst_less X fun y hy=>ok9 y (wds_sub kp9_lt y hy),fun k k1 k2=>decide_eq_decide.mpr (wds_mem kp9_lt (s9_lt k k1))⟩
  rw[Qs] at hT;subst hT
  exact⟨10,_,_,kc_in c10 (by decide),tst_more X fun y hy=>ok9 y (wds_sub mo9_lt y hy),fun k k1 k2=>decide_eq_decide.mpr ((wds_mem mo9_lt (s9_lt k k1)).trans ((mem_mo9 (mem_b9 k1 k2)).trans (mem_kp9 (mem_b9 k1 k2)).symm))⟩
 refine kx_for (items:=x.2++[lamV (exAt (elts9 (forI9 (stAt (B9f C) 4))) 0) "less" 8,lamV (exAt (elts9 (forI9 (stAt (B9f C) 4))) 1) "more" 10]) (fun _ l hk=>l=L9d C ns x∧hk=bk g) (pi_lst (pu_bin (a:= .lst x.2) (b:= .lst [_,_]) pLo (pu_list (pes_cons (pu_lambdaQ X.T X.B q9 CD rfl) (pes_cons (pu_lambdaQ X.T X.B q9 CD rfl) pes_nil)) (le_szL (by rfl))) (p2_addl rfl rfl (sizeOk (Qe (Wi fx.lt 2) (by decide)))))) ⟨rfl,rfl⟩ (fun _ _ hk z=> .none _) (fun k T l hk hv z=> ?_) fun l hk z=> ?_
 · refine x_A z fun z170 z171=> ?_;subst z170;subst z171
   refine x_EEEAA (hT T (Qa hv)) fun i u p h1 h2 h3=> ?_
   clear hT hv
   refine ka_local (kx_ifF (pub_cmp (pu_call0 (f:= .top 259) (Top.top X (by rfl) (by rfl)) (kp_fn (ok_lblocks X)) (pes_cons pLo (pes_cons pLo (pes_cons pLo pes_nil))) (pf_words X (n:=n+1) hns h2.flt h1 (fun _ z=>z) h3)) pLo (p2_ne_tr rfl)) (kx_nil fun h3 i3=> ?_))
   exact⟨_,_, .cons (by rfl) (.cons (by rfl) (.cons (by rfl) (.cons (by rfl) (.cons (by rfl) (.cons (by rfl) (.cons (by rfl) (.nil _))))))),i3,rfl,rfl⟩
 · refine x_A z fun z172 z173=> ?_;subst z172;subst z173
   exact tail
theorem fam_words (X:Top C mg mb) {ns:List Int} {x:List (List Nat) × List V} (fx:Fam C n ns x) {L:Addr} {cells:List (Str × Addr)} {g:Nat→Option V} (c:Cel ns g) (c6:g 6=some (.lst (x.1.map sV)))
 (tail:KX C (n+10) (F09 C L cells) (L9d C ns x) (bk g) [] QF) :
 KX C (n+10) (F09 C L cells) (L9d C ns x) (bk g) ((B9f C).drop 5) QF:=by
 have hl:∀y∈x.1,QH (S y)=true:=fun y hy=>ok9 y (fx.sub y hy)
 refine kx_for (items:=x.2) (fun _ l hk=>l=L9d C ns x∧hk=bk g) (pi_lst pLo) ⟨rfl,rfl⟩ (fun _ _ hk z=> .none _) (fun k T l hk hv z=> ?_) fun l hk z=> ?_
 · refine x_A z fun z174 z175=> ?_;subst z174;subst z175
   refine x_EEA (fx.tests T (Qa hv)) fun i u h1 h2=> ?_
   have h1:=h1 g c
   clear hv
   refine ka_local (kx_for (items:=W9.map sV) (fun _ l hk=>l=L9d C ns x++[(Qq "test",T)]∧hk=bk g) (pi_lst (pu_cell (i:=0) (by rfl) (by rfl) (bk_at c.c0))) ⟨rfl,rfl⟩ (fun _ _ hk z=> .none _) (fun k w l hk hv z=> ?_) fun l hk z=> ?_)
   · refine x_A z fun z176 z177=> ?_;subst z176;subst z177
     refine x_EA (QO.mp (Qa hv)) fun w hw z178=> ?_;subst z178
     clear hv
     refine ka_local (kx_ifF (PuB.eq (pub_cmp (a:= .bool (decide (w∈x.1))) (b:= .bool (decide (w∈x.1))) (pu_call0 (f:=T) pLo h2.kp (pes_cons pLo pes_nil) (PF.less (m:=n+3) ((h2.call w hw).up h1) (Q2 (by decide) n))) (pu_cmp pLo (pu_cell (i:=6) (by rfl) (by rfl) (bk_at (v:= .lst (x.1.map sV)) c6)) (p2_in_texts (b:= .lst (x.1.map sV)) rfl (ok9 w hw) hl)) p2_isnot_bool) (by rw[beq_self_eq_true];rfl)) (kx_nil fun h3 i3=> ?_))
     exact⟨_,_, .cons (by rfl) (.cons (by rfl) (.cons (by rfl) (.cons (by rfl) (.cons (by rfl) (.cons (by rfl) (.cons (by rfl) (.cons (by rfl) (.nil _)))))))),i3,rfl,rfl⟩
   · refine x_A z fun z179 z180=> ?_;subst z179;subst z180
     exact kx_nil fun h3 i3=>⟨_,_, .cons (by rfl) (.cons (by rfl) (.cons (by rfl) (.cons (by rfl) (.cons (by rfl) (.cons (by rfl) (.cons (by rfl) (.nil _))))))),i3,rfl,rfl⟩
 · refine x_A z fun z181 z182=> ?_;subst z181;subst z182
   exact tail
theorem law9_d (X:Top C mg mb) (CD:CdOk C 268 266 (Qq "law.<locals>.<lambda>")) {ns:List Int} (hns:ns.length≤63) {L:Addr} {cells:List (Str × Addr)} {g:Nat→Option V} (c:Cel ns g)
 (tail:∀g,Cel ns g→KX C (n+10) (F09 C L cells) (L9c C ns) (bk g) (R09 C 13) QF) :
 KX C (n+10) (F09 C L cells) (L9c C ns) (bk g) (R09 C 12) QF:=by
 refine kx_for (items:=(fams C ns).map famV) (fun _ l hk=>l=L9c C ns∧∃g,hk=bk g∧Cel ns g) (pi_lst pLo) ⟨rfl,g,rfl,c⟩ (fun _ _ hk z=> .none _) (fun k v l hk hv z=> ?_) fun l hk z=> ?_
 · refine x_AEA z fun z183 g z184 c=> ?_;subst z183;subst z184
   refine x_EA (QO.mp (Qa hv)) fun x hx z185=> ?_;subst z185
   have fx:=fams_ok (n:=n) X x hx
   clear hv hx
   refine ka_tup (kal_cons (ka_blk (i:=6) (by rfl) (by decide) (KAL.all (kal_cons (ka_loc (KAL.all (kal_nil (KX.all ?_))))))))
   refine fam_head X CD hns fx (c.upd (.inl rfl)) (by rfl) ?_
   refine fam_blocks X CD hns fx (((c.upd (.inl rfl)).upd (i:=7) (.inr (.inl rfl))).upd (i:=8) (.inr (.inr (.inl rfl)))|>.upd (i:=10) (.inr (.inr (.inr (.inl rfl))))) (by rfl) (by rfl) ?_
   refine fam_words X fx (((c.upd (.inl rfl)).upd (i:=7) (.inr (.inl rfl))).upd (i:=8) (.inr (.inr (.inl rfl)))|>.upd (i:=10) (.inr (.inr (.inr (.inl rfl))))) (by rfl) ?_
   refine kx_nil fun h3 i3=>⟨_,_, .cons (by rfl) (.cons (by rfl) (.cons (by rfl) (.cons (by rfl) (.cons (by rfl) (.nil _))))),i3,rfl,_,rfl,((c.upd (.inl rfl)).upd (i:=7) (.inr (.inl rfl))).upd (i:=8) (.inr (.inr (.inl rfl)))|>.upd (i:=10) (.inr (.inr (.inr (.inl rfl))))⟩
 · refine x_AEA z fun z186 g z187 c=> ?_;subst z186;subst z187
   exact tail g c
end
section
variable {hb:Hs} {mg mb:Str→Option Value}
theorem law9_e (X:Top C mg mb) {ns:List Int} {L:Addr} {cells:List (Str × Addr)} {g:Nat→Option V} (c:Cel ns g)
 (tail:KX C (n+10) (F09 C L cells) (L9c C ns) (bk g) (R09 C 14) QF) :
 KX C (n+10) (F09 C L cells) (L9c C ns) (bk g) (R09 C 13) QF:=by
 have hl:∀y∈(ls9 ns).map wd9,QH (S y)=true:=fun y hy=>ok9 y (wds_sub ls9_lt y hy)
 refine kx_ifF (PuB.eq (pub_cmp (a:= .lst (([]:List (List Nat)).map sV)) (b:= .lst (([]:List (List Nat)).map sV)) (Pu.eq (pu_listcomp (as:=W9) (g:=sV) (fun w=> !(decide (w∈(ls9 ns).map wd9)==decide (w∈(ls9 ns).map wd9))) sV (pi_lst (pu_cell (i:=0) (by rfl) (by rfl) (bk_at c.c0))) (sizeOk (by decide)) (fun w hw L' cells'=> ?_) fun w hw z L' cells'=> ?_) ?_) (pu_list pes_nil) (p2_ne_texts rfl rfl (by intro y hy;cases hy) (by intro y hy;cases hy))) (by rfl)) tail
 · refine pts_one (pub_cmp (a:= .bool (decide (w∈(ls9 ns).map wd9))) (b:= .bool (decide (w∈(ls9 ns).map wd9))) (pu_call0 (f:= .top 254) (vs:=[.lst [sV w], .lst (((ls9 ns).map wd9).map fun y=> .lst [sV y])]) (Top.top X (by rfl) (by rfl)) (kp_fn (ok_junk X)) (pes_cons (pu_list (pes_cons pLo pes_nil) (le_szL (by rfl))) (pes_cons ?_ pes_nil)) (PF.less (m:=n+2) (junk_of' X (n:=n+1) (binds_junk2 X) (p2_in_lists (ok9 w hw) hl)) (Q2 (by decide) n))) (pu_cmp pLo (pu_cell (i:=9) (by rfl) (by rfl) (bk_at (v:=vW (ls9 ns)) c.c9)) (p2_in_texts (b:=vW (ls9 ns)) rfl (ok9 w hw) hl)) p2_isnot_bool)
   refine Pu.eq (pu_listcomp (as:=(ls9 ns).map wd9) (g:=sV) (fun _=>true) (fun y=> .lst [sV y]) (pi_lst (pu_cell (i:=9) (by rfl) (by rfl) (bk_at (v:=vW (ls9 ns)) c.c9))) (sizeOk (Qe ls9_len (by decide))) (fun y hy L2 cells2=>pts_nil) fun y hy _ L2 cells2=> ?_) (by rw[filter_tt])
   exact pu_list (pes_cons pLo pes_nil) (le_szL (by rfl))
 ·rw[beq_self_eq_true] at z;cases z
 · show V.lst _=V.lst []
   rw[show(fun w=> !(decide (w∈(ls9 ns).map wd9)==decide (w∈(ls9 ns).map wd9)))=fun _=>false from funext fun w=>by rw[beq_self_eq_true];rfl]
   rfl
noncomputable def sm9 (ns:List Int):Nat:=fwd (pq (fun _=>true) (s9 ns) (t9 ns)) (s9 ns).length (t9 ns).length 0 0 (s9 ns).length 0
noncomputable def al9 (ns:List Int):List Tr:=(if 0<sm9 ns then[(0,0,sm9 ns)] else[])++[((s9 ns).length,(t9 ns).length,0)]
noncomputable abbrev L9e (C:Cx) (ns:List Int) (u:Nat):Loc:=L9c C ns++[(Qq "same", .int (u:Int))]
theorem vW_len {l:List Nat} (hl:l.length≤69):((l.map wd9).map sV).length≤Qc:=by rw[Qo,Qo];exact sizeOk (Qe hl (by decide))
theorem pf_lenW {l:List Nat} (hl:l.length≤69):PF C n h (.blt "len") [vW l] [] (.int (l.length:Int)):=(pf_lenT (v:=vW l) (xs:=l.map wd9) rfl (by rw[Qo];exact sizeOk (Qe hl (by decide)))).eq (by rw[Qo])
theorem vW_at {l:List Nat} {u x:Nat} (e:l[u]? =some x):((l.map wd9).map sV)[u]? =some (sV (wd9 x)):=by rw[Qb,Qb,e];rfl
theorem law9_f (X:Top C mg mb) {ns:List Int} (hns:ns.length≤63) {L:Addr} {cells:List (Str × Addr)} {g:Nat→Option V}
 (tail:KX C (n+10) (F09 C L cells) (L9e C ns (sm9 ns)) (bk g) (R09 C 16) QF) :
 KX C (n+10) (F09 C L cells) (L9c C ns) (bk g) (R09 C 14) QF:=by
 have hs:=s9_len hns
 have ht:=t9_len hns
 refine kx_set (v:= .int ((0:Nat):Int)) pu_int ?_
 refine kx_while (fun k l hk=>hk=bk g∧∃u,l=L9e C ns u∧fwd (pq (fun _=>true) (s9 ns) (t9 ns)) (s9 ns).length (t9 ns).length 0 0 k u=sm9 ns∧(s9 ns).length≤0+u+k) (s9 ns).length ⟨rfl,0,rfl,rfl,Q9 _ _⟩ ?_
 rintro k l hk ⟨rfl,u,rfl,hf,hb⟩
 refine⟨decide (0+u<(s9 ns).length∧0+u<(t9 ns).length∧pq (fun _=>true) (s9 ns) (t9 ns) (0+u) (0+u)=true), ?_, ?_, ?_⟩
 · rw[Nat.zero_add]
   by_cases hu:u<(s9 ns).length∧u<(t9 ns).length
   · refine x_A hu fun h1 h2=> ?_
     obtain⟨x,hx⟩:∃x,(s9 ns)[u]? =some x:=⟨_,Qh h1⟩
     obtain⟨y,hy⟩:∃y,(t9 ns)[u]? =some y:=⟨_,Qh h2⟩
     refine PuB.eq (u:=decide ((u:Int)<min ((s9 ns).length:Int) ((t9 ns).length:Int))&&(decide (wd9 x=wd9 y)&&true)) (pub_and (pub_cmp pLo (pu_call0 (f:= .blt "min") (Top.blt X (by rfl) (by rfl)) kp_blt (pes_cons (pu_call0 (f:= .blt "len") (Top.blt X (by rfl) (by rfl)) kp_blt (pes_cons pLo pes_nil) (pf_lenW hs)) (pes_cons (pu_call0 (f:= .blt "len") (Top.blt X (by rfl) (by rfl)) kp_blt (pes_cons pLo pes_nil) (pf_lenW ht)) pes_nil)) pf_min2) p2_lti) fun z1=>pub_and (pub_cmp (pu_sub pLo pLo (notPyU_lst (v:=vW (s9 ns)) rfl) (p2_getlN (v:=vW (s9 ns)) rfl (vW_len hs) (vW_at hx))) (pu_sub pLo pLo (notPyU_lst (v:=vW (t9 ns)) rfl) (p2_getlN (v:=vW (t9 ns)) rfl (vW_len ht) (vW_at hy))) p2_eqS) fun _=>pub_and_nil) ?_
     rw[decide_eq_true (Int.lt_min.mpr ⟨Ww.mpr h1,Ww.mpr h2⟩),Bool.true_and,Bool.and_true]
     refine decide_eq_decide.mpr ?_
     rw[and_iff_right h1,and_iff_right h2]
     unfold pq
     rw[hx,hy]
     show _↔(true&&decide (x=y))=true
     rw[Bool.true_and,decide_eq_true_iff]
     exact⟨wd_inj x (s9_lt x (Qa hx)) y (t9_lt y (Qa hy)),fun e=>e▸rfl⟩
   · have hm:¬((u:Int)<min ((s9 ns).length:Int) ((t9 ns).length:Int)):=fun z=>hu ⟨Ww.mp (Int.lt_min.mp z).1,Ww.mp (Int.lt_min.mp z).2⟩
     refine PuB.eq (u:=decide ((u:Int)<min ((s9 ns).length:Int) ((t9 ns).length:Int))&&false) (pub_and (pub_cmp pLo (pu_call0 (f:= .blt "min") (Top.blt X (by rfl) (by rfl)) kp_blt (pes_cons (pu_call0 (f:= .blt "len") (Top.blt X (by rfl) (by rfl)) kp_blt (pes_cons pLo pes_nil) (pf_lenW hs)) (pes_cons (pu_call0 (f:= .blt "len") (Top.blt X (by rfl) (by rfl)) kp_blt (pes_cons pLo pes_nil) (pf_lenW ht)) pes_nil)) pf_min2) p2_lti) fun z1=>absurd (of_decide_eq_true z1) hm) ?_
     rw[Bool.and_false]
     exact(decide_eq_false fun z=>hu ⟨z.1,z.2.1⟩).symm
 · intro hc
   have hc:=of_decide_eq_true hc
   cases k with
   |zero=>exact absurd hc.1 (Nat.not_lt_of_le hb)
   |succ k =>
    refine kx_aug (by rfl) pu_int p2_iaddi (kx_nil fun h2 i2=>⟨k,_,_,Qk _, ?_,i2,rfl,u+1,rfl, ?_,fuelAt hb⟩)
    ·exact LocSub.refl _
    ·rw[←hf,fwd,if_pos hc]
 · intro hc
   have hc:=of_decide_eq_false hc
   have e:fwd (pq (fun _=>true) (s9 ns) (t9 ns)) (s9 ns).length (t9 ns).length 0 0 k u=u:=by
    cases k with
    |zero=>rfl
    |succ k=>rw[fwd,if_neg hc]
   rw[←hf,e] at tail
   exact tail
noncomputable abbrev L9f (C:Cx) (ns:List Int):Loc:=L9e C ns (sm9 ns)++[(Qq "alone", .lst ((al9 ns).map trV))]
theorem law9_g (X:Top C mg mb) {ns:List Int} (hns:ns.length≤63) {L:Addr} {cells:List (Str × Addr)} {g:Nat→Option V}
 (tail:KX C (n+10) (F09 C L cells) (L9f C ns) (bk g) (R09 C 17) QF) :
 KX C (n+10) (F09 C L cells) (L9e C ns (sm9 ns)) (bk g) (R09 C 16) QF:=by
 have hs:=s9_len hns
 have ht:=t9_len hns
 refine kx_set (v:= .lst ((al9 ns).map trV)) (pu_bin (a:= .lst ((if 0<sm9 ns then[((0:Nat),(0:Nat),sm9 ns)] else[]).map trV)) (b:= .lst ([((s9 ns).length,(t9 ns).length,(0:Nat))].map trV)) (pu_ifT (c:=decide ((0:Int)<(sm9 ns:Int))) (pub_cmp pLo pu_int p2_gti) (fun z=> ?_) fun z=> ?_) ?_ (p2_addT (g:=trV) (u:= .lst _) (v:= .lst _) rfl rfl ?_)) tail
 · rw[if_pos (Ww.mp (of_decide_eq_true z))]
   exact pu_list (pes_cons (pu_tuple (pes_cons pu_int (pes_cons pu_int (pes_cons pLo pes_nil))) (le_szL (by rfl))) pes_nil) (le_szL (by rfl))
 · rw[if_neg fun q=>of_decide_eq_false z (Ww.mpr q)]
   exact pu_list pes_nil
 ·exact pu_list (pes_cons (pu_tuple (pes_cons (pu_call0 (f:= .blt "len") (Top.blt X (by rfl) (by rfl)) kp_blt (pes_cons pLo pes_nil) (pf_lenW hs)) (pes_cons (pu_call0 (f:= .blt "len") (Top.blt X (by rfl) (by rfl)) kp_blt (pes_cons pLo pes_nil) (pf_lenW ht)) (pes_cons pu_int pes_nil))) (le_szL (by rfl))) pes_nil) (le_szL (by rfl))
 · refine sizeOk (Qe (Wi (?_:_≤1) 1) (by decide))
   split
   ·exact Qt 1
   ·exact Qz 1
end
theorem pick_init {α:Type} (l:List α) (x:α):pick (l++[x]) none (some (-1)) none=l:=by
 rw[pick_plain]
 have e:clipAt (l++[x]).length (-1)=l.length:=by
  rw[Qn,List.length_singleton]
  unfold clipAt
  rw[if_pos (by decide)]
  have e1:(-1:Int)+((l.length+1:Nat):Int)=(l.length:Int):=by omega
  have e2:min (l.length:Int) ((l.length+1:Nat):Int)=(l.length:Int):=Int.min_eq_left (Int.ofNat_le.mpr (Nat.le_succ _))
  have e3:max (0:Int) (l.length:Int)=(l.length:Int):=Int.max_eq_right (Int.natCast_nonneg _)
  rw[e1,e2,e3]
  rfl
 show((l++[x]).drop 0).take (clipAt (l++[x]).length (-1)-0)=l
 rw[e,List.drop_zero,Nat.sub_zero]
 exact List.take_left
noncomputable def M9 (q:Nat→Bool) (s t:List Nat):List Tr:=mg (0,0,0) (gmW (pq (fun c=> !q c) s t) (pq q s t) t.length (0,s.length,0,t.length))
theorem B9_M {q:Nat→Bool} {s t:List Nat}:B9 q s t=M9 q s t++[(s.length,t.length,0)]:=rfl
theorem B9_L {q:Nat→Bool} {s t:List Nat} (h:∀c∈t,c<11):B9 q (s++[11]) t=M9 q s t++[(s.length+1,t.length,0)]:=by
 have h:11∉t:=fun z=>Nat.lt_irrefl _ (h 11 z)
 unfold B9
 rw[pq_appL h,pq_appL h,Qn,List.length_singleton]
 exact blocks_ext (Nat.le_succ _) (Qt _) fun i j z=>⟨pq_out z,pq_out z⟩
theorem B9_R {q:Nat→Bool} {s t:List Nat} (h:∀c∈s,c<11):B9 q s (t++[11])=M9 q s t++[(s.length,t.length+1,0)]:=by
 have h:11∉s:=fun z=>Nat.lt_irrefl _ (h 11 z)
 unfold B9
 rw[pq_appR h,pq_appR h,Qn,List.length_singleton]
 exact blocks_ext (Qt _) (Nat.le_succ _) fun i j z=>⟨pq_out z,pq_out z⟩
theorem B9_al {ns:List Int}:B9 (fun _=>true) (s9 ns) (t9 ns)=al9 ns:=by
 unfold B9
 refine blocks_alone fun i j _ _=> ?_
 unfold pq
 cases(s9 ns)[i]? with
 |none=>rfl
 |some x=>cases(t9 ns)[j]?<;>rfl
noncomputable abbrev vW0 (l:List Nat):V:= .lst ((l.map wd9).map sV++[.int 0])
theorem kV_W0 {l:List Nat} (hl:∀k∈l,k<11):kV ((l++[11]).map κ9)=vW0 l:=by
 show V.lst _=V.lst _
 rw[Q7,Wt,Q7]
 exact congrArg (fun z=>V.lst (z++[.int 0])) (List.map_congr_left fun k hk=>by show(κ9 k).v=sV (wd9 k);rw[κ9_lt (hl k hk)];rfl)
theorem lt12 {l:List Nat} (hl:∀k∈l,k<11):∀k∈l++[11],k<12:=fun k hk=>by
 rcases List.mem_append.mp hk with h|h
 ·exact Nat.lt_succ_of_lt (hl k h)
 ·rw[Qs.mp h];decide
section
variable {hb:Hs} {mg mb:Str→Option Value}
theorem pf_w0L (X:Top C mg mb) {ns:List Int} (hns:ns.length≤63) {jV:V} {Kn:Hs→Prop} {p:List Nat→Bool} (J:Flt C (n+2) jV Kn (jw p) kOk9) (hkn:Kn h) :
 PF C (n+9) h (.top 259) [jV,vW0 (s9 ns),vW (t9 ns)] [] (.lst ((M9 (fun c=>p (wd9 c)) (s9 ns) (t9 ns)++[((s9 ns).length+1,(t9 ns).length,0)]).map trV)):=by
 rw[←kV_W0 (s9_lt (ns:=ns)),←kV_W (t9_lt (ns:=ns)),←B9_L t9_lt]
 exact pf_lb9 X (n:=n) J hkn (fun c hc=>⟨wd9 c,wd_mem c (t9_lt c hc),κ9_lt (t9_lt c hc)⟩) (fun x hx y hy=>κ9_inj (lt12 s9_lt x hx) (Nat.lt_succ_of_lt (t9_lt y hy))) (fun c h1 h2=>by rw[κ9_lt (t9_lt c h2)];rfl) (by rw[Qn];exact QC (s9_len hns)) (QT (t9_len hns))
theorem pf_w0R (X:Top C mg mb) {ns:List Int} (hns:ns.length≤63) {jV:V} {Kn:Hs→Prop} {p:List Nat→Bool} (J:Flt C (n+2) jV Kn (jw p) fun k=>kOk9 k∨k= .i 0) (hkn:Kn h) :
 PF C (n+9) h (.top 259) [jV,vW (s9 ns),vW0 (t9 ns)] [] (.lst ((M9 (fun c=>p (wd9 c)) (s9 ns) (t9 ns)++[((s9 ns).length,(t9 ns).length+1,0)]).map trV)):=by
 rw[←kV_W0 (t9_lt (ns:=ns)),←kV_W (s9_lt (ns:=ns)),←B9_R s9_lt]
 refine pf_lb9 X (n:=n) J hkn (fun c hc=> ?_) (fun x hx y hy=>κ9_inj (Nat.lt_succ_of_lt (s9_lt x hx)) (lt12 t9_lt y hy)) (fun c h1 h2=>by rw[κ9_lt (s9_lt c h1)];rfl) (QT (s9_len hns)) (by rw[Qn];exact QC (t9_len hns))
 rcases List.mem_append.mp hc with h|h
 ·exact .inl ⟨wd9 c,wd_mem c (t9_lt c h),κ9_lt (t9_lt c h)⟩
 ·rw[Qs.mp h];exact .inr rfl
theorem M9_len {ns:List Int} (hns:ns.length≤63) {q:Nat→Bool}:(M9 q (s9 ns) (t9 ns)++[((s9 ns).length,(t9 ns).length,0)]).length≤100:=B9_M▸B9_len (QT (s9_len hns)) (QT (t9_len hns))
theorem law9_h (X:Top C mg mb) (CD:CdOk C 268 266 (Qq "law.<locals>.<lambda>")) {ns:List Int} (hns:ns.length≤63) {L:Addr} {cells:List (Str × Addr)} {g:Nat→Option V} (c:Cel ns g)
 (tail:∀g,Cel ns g→KX C (n+10) (F09 C L cells) (L9f C ns) (bk g) (R09 C 18) QF) :
 KX C (n+10) (F09 C L cells) (L9f C ns) (bk g) (R09 C 17) QF:=by
 refine kx_for (items:=[vW (s9 ns), .tup (((t9 ns).map wd9).map sV)]) (fun _ l hk=>l=L9f C ns∧∃g,hk=bk g∧Cel ns g) (pi_lst (pu_list (pes_cons pLo (pes_cons (pu_call0 (f:= .ty "tuple") (Top.ty X (by rfl) (by rfl)) kp_ty (pes_cons pLo pes_nil) (pf_tupL (v:=vW (t9 ns)) rfl (vW_len (t9_len hns)))) pes_nil)) (le_szL (by rfl)))) ⟨rfl,g,rfl,c⟩ (fun _ _ hk z=> .none _) (fun k v l hk hv z=> ?_) fun l hk z=> ?_
 · refine x_AEA z fun z188 g z189 c=> ?_;subst z188;subst z189
   have hT:∃p,Tst C (n+3) 12 v (lamV (exAt (elts9 (forI9 (stAt (forB9 (stAt (B269 C) 17)) 0))) 0) "ws" 12) p∧∀k∈s9 ns,k∈t9 ns→p (wd9 k)=true:=by
    rcases QY.mp (Qa hv) with rfl|hv
    ·exact⟨_,tst_wsL X fun y hy=>ok9 y (wds_sub s9_lt y hy),fun k k1 k2=>decide_eq_true ((wds_mem s9_lt (s9_lt k k1)).mpr k1)⟩
    · rw[Qs] at hv;subst hv
      exact⟨_,tst_wsT X fun y hy=>ok9 y (wds_sub t9_lt y hy),fun k k1 k2=>decide_eq_true ((wds_mem t9_lt (s9_lt k k1)).mpr k2)⟩
   refine x_EA hT fun p h1 h2=> ?_
   clear hv
   refine ka_bk 12 (kx_ifF (pub_cmp (pu_call0 (f:= .top 259) (Top.top X (by rfl) (by rfl)) (kp_fn (ok_lblocks X)) (pes_cons (pu_lambdaQ X.T X.B q9 CD rfl) (pes_cons pLo (pes_cons pLo pes_nil))) (pf_words X (n:=n+1) hns h1.flt (kc_in (by rfl) (by decide)) (fun _ z=>z) h2)) pLo (p2_ne_tr B9_al)) (kx_nil fun h3 i3=> ?_))
   exact⟨_,_, .cons (by rfl) (.cons (by rfl) (.cons (by rfl) (.cons (by rfl) (.cons (by rfl) (.cons (by rfl) (.cons (by rfl) (.nil _))))))),i3,rfl,_,rfl,c.upd (i:=12) (.inr (.inr (.inr (.inr rfl))))⟩
 · refine x_AEA z fun z190 g z191 c=> ?_;subst z190;subst z191
   exact tail g c
end
section
variable {hb:Hs} {mg mb:Str→Option Value}
noncomputable abbrev L9g (C:Cx) (ns:List Int) (q:Nat→Bool):Loc:=L9f C ns++[(Qq "due", .lst ((M9 q (s9 ns) (t9 ns)).map trV))]
theorem M9_len' {ns:List Int} (hns:ns.length≤63) {q:Nat→Bool}:(M9 q (s9 ns) (t9 ns)).length≤100:=by
 have:=M9_len hns (q:=q)
 rw[Qn] at this
 exact Qe (QP _ _) this
theorem pu_init {ns:List Int} (hns:ns.length≤63) {q:Nat→Bool} {e:Expr} {k:Nat} {p1 p2 p3 p4:Pos} (E:Pu C n F loc h e (.lst ((B9 q (s9 ns) (t9 ns)).map trV))):Pu C n F loc h (.Subscript e (.Slice none (some (.UnaryOp .USub (.Constant (.int 1) k p1) p2)) none p3) p4) (.lst ((M9 q (s9 ns) (t9 ns)).map trV)) :=
 Pu.eq (pu_slice (l:=partV none) (u:=partV (some (-1))) (s:=partV none) E po_none (po_some (pu_unary pu_int p1_negi)) po_none (notPyU_lst (v:= .lst _) rfl) (ps_listT (v:= .lst _) (g:=trV) rfl (sizeOk (Qe (B9_len (QT (s9_len hns)) (QT (t9_len hns))) (by decide))) (fun z=>by cases z))) (by rw[B9_M,pick_init])
theorem p2_add0 {l:List Nat} (hl:l.length≤69):P2 C n (binaryOp .Add) h (vW l) (.lst [.int 0]) (vW0 l):=p2_addl (u:=vW l) (v:= .lst [.int 0]) rfl rfl (by rw[Qo,Qo];exact sizeOk (Qe (Wi hl 1) (by decide)))
theorem law9_i (X:Top C mg mb) {ns:List Int} (hns:ns.length≤63) {L:Addr} {cells:List (Str × Addr)} {g:Nat→Option V} (c:Cel ns g)
 (tail:∀q,KX C (n+10) (F09 C L cells) (L9g C ns q) (bk g) (R09 C 20) QF) :
 KX C (n+10) (F09 C L cells) (L9f C ns) (bk g) (R09 C 18) QF:=by
 have hs:=s9_len hns
 have ht:=t9_len hns
 have hT:Tst C (n+3) 9 (vW (ls9 ns)) (.top 254) fun w=>stands w ws2:=tst_top X
 have hk:(kc 9 (vW (ls9 ns))).In (bk g):=kc_in c.c9 (by decide)
 refine kx_set (v:= .lst ((M9 (fun k=>stands (wd9 k) ws2) (s9 ns) (t9 ns)).map trV)) (pu_init hns (pu_call0 (f:= .top 259) (Top.top X (by rfl) (by rfl)) (kp_fn (ok_lblocks X)) (pes_cons (Top.top X (by rfl) (by rfl)) (pes_cons pLo (pes_cons pLo pes_nil))) (pf_words X (n:=n+1) hns hT.flt hk (fun _ z=>z) fun _ _ _=>rfl))) ?_
 refine kx_ifF (pub_cmp (a:= .lst ((M9 (fun k=>stands (wd9 k) ws2) (s9 ns) (t9 ns)++[((s9 ns).length+1,(t9 ns).length,0)]).map trV)) (b:= .lst ((M9 (fun k=>stands (wd9 k) ws2) (s9 ns) (t9 ns)++[((s9 ns).length+1,(t9 ns).length,0)]).map trV)) (pu_call0 (f:= .top 259) (Top.top X (by rfl) (by rfl)) (kp_fn (ok_lblocks X)) (pes_cons (Top.top X (by rfl) (by rfl)) (pes_cons (pu_bin pLo (pu_list (vs:=[.int 0]) (pes_cons pu_int pes_nil) (le_szL (by rfl))) (p2_add0 hs)) (pes_cons pLo pes_nil))) (pf_w0L X (n:=n+1) hns hT.flt hk)) (pu_bin (a:= .lst ((M9 (fun k=>stands (wd9 k) ws2) (s9 ns) (t9 ns)).map trV)) (b:= .lst ([((s9 ns).length+1,(t9 ns).length,0)].map trV)) pLo (pu_list (pes_cons (pu_tuple (vs:=[.int (((s9 ns).length+1:Nat):Int), .int ((t9 ns).length:Int), .int ((0:Nat):Int)]) (pes_cons (pu_bin (pu_call0 (f:= .blt "len") (Top.blt X (by rfl) (by rfl)) kp_blt (pes_cons pLo pes_nil) (pf_lenW hs)) pu_int p2_addi) (pes_cons (pu_call0 (f:= .blt "len") (Top.blt X (by rfl) (by rfl)) kp_blt (pes_cons pLo pes_nil) (pf_lenW ht)) (pes_cons pu_int pes_nil))) (le_szL (by rfl))) pes_nil) (le_szL (by rfl))) (p2_addT (g:=trV) (u:= .lst _) (v:= .lst _) rfl rfl (sizeOk (Qe (Wi (M9_len' hns) 1) (by decide))))) (p2_ne_tr rfl)) (tail _)
theorem law9_j (X:Top C mg mb) (CD:CdOk C 268 266 (Qq "law.<locals>.<lambda>")) {ns:List Int} (hns:ns.length≤63) {L:Addr} {cells:List (Str × Addr)} {g:Nat→Option V} (c:Cel ns g) {q:Nat→Bool}
 (tail:∀q,KX C (n+10) (F09 C L cells) (L9g C ns q) (bk g) (R09 C 22) QF) :
 KX C (n+10) (F09 C L cells) (L9g C ns q) (bk g) (R09 C 20) QF:=by
 have hs:=s9_len hns
 have ht:=t9_len hns
 have hl:∀y∈(ls9 ns).map wd9,QH (S y)=true:=fun y hy=>ok9 y (wds_sub ls9_lt y hy)
 have hT:=tst_20 (n:=n) X hl ls9_len
 have hJ:=flt_21 (n:=n) X hl ls9_len
 have hk:(kc 9 (vW (ls9 ns))).In (bk g):=kc_in c.c9 (by decide)
 refine kx_set (v:= .lst ((M9 (fun k=>decide (wd9 k∈(ls9 ns).map wd9)) (s9 ns) (t9 ns)).map trV)) (pu_init hns (pu_call0 (f:= .top 259) (Top.top X (by rfl) (by rfl)) (kp_fn (ok_lblocks X)) (pes_cons (pu_lambdaQ X.T X.B q9 CD rfl) (pes_cons pLo (pes_cons pLo pes_nil))) (pf_words X (n:=n+1) hns hT.flt hk (fun _ z=>z) fun _ _ _=>rfl))) ?_
 refine kx_ifF (pub_cmp (a:= .lst ((M9 (fun k=>decide (wd9 k∈(ls9 ns).map wd9)) (s9 ns) (t9 ns)++[((s9 ns).length,(t9 ns).length+1,0)]).map trV)) (b:= .lst ((M9 (fun k=>decide (wd9 k∈(ls9 ns).map wd9)) (s9 ns) (t9 ns)++[((s9 ns).length,(t9 ns).length+1,0)]).map trV)) (pu_call0 (f:= .top 259) (Top.top X (by rfl) (by rfl)) (kp_fn (ok_lblocks X)) (pes_cons (pu_lambdaQ X.T X.B q9 CD rfl) (pes_cons pLo (pes_cons (pu_bin pLo (pu_list (vs:=[.int 0]) (pes_cons pu_int pes_nil) (le_szL (by rfl))) (p2_add0 ht)) pes_nil))) ?_) (pu_bin (a:= .lst ((M9 (fun k=>decide (wd9 k∈(ls9 ns).map wd9)) (s9 ns) (t9 ns)).map trV)) (b:= .lst ([((s9 ns).length,(t9 ns).length+1,0)].map trV)) pLo (pu_list (pes_cons (pu_tuple (vs:=[.int ((s9 ns).length:Int), .int (((t9 ns).length+1:Nat):Int), .int ((0:Nat):Int)]) (pes_cons (pu_call0 (f:= .blt "len") (Top.blt X (by rfl) (by rfl)) kp_blt (pes_cons pLo pes_nil) (pf_lenW hs)) (pes_cons (pu_bin (pu_call0 (f:= .blt "len") (Top.blt X (by rfl) (by rfl)) kp_blt (pes_cons pLo pes_nil) (pf_lenW ht)) pu_int p2_addi) (pes_cons pu_int pes_nil))) (le_szL (by rfl))) pes_nil) (le_szL (by rfl))) (p2_addT (g:=trV) (u:= .lst _) (v:= .lst _) rfl rfl (sizeOk (Qe (Wi (M9_len' hns) 1) (by decide))))) (p2_ne_tr rfl)) (tail _)
 have pf:=pf_w0R X (n:=n+1) hns hJ hk
 refine pf
end
section
variable {hb:Hs} {QR:Hs→Prop} {words:Str} {mg mb:Str→Option Value}
theorem junk_raise (X:Top C mg mb) {x:List Nat} {i:Int} (q:QR h):ClR C (n+1) h (.top 254) [.int i,sV x] [] (Qq inWords) QR :=
 clR_made (ok_junk X) (binds_junk2 X) (loc:=[(Qq "ch", .int i),(Qq "ws",sV x)]) (h1:=h) (bind_local (by rfl) (bind_local (by rfl) (by rfl))) fun L cells =>
  exsM_cons (ex_expr (ev_str ⟨rfl,exsM_ret (evM_cmp (ev_local (by rfl) (by rfl) (ev_local (by rfl) (by rfl) (op2M_in q))))⟩))
noncomputable abbrev lam22 (C:Cx):V:=lamV (exAt (elts9 (forI9 (stAt (forB9 (stAt (B269 C) 22)) 0))) 0) "text" 11
theorem tst_22 (X:Top C mg mb) {x:List Nat}:Tst C (n+3) 11 (sV x) (lam22 C) fun w=>stands w x where
 nb:=by intro id e;cases e
 tru:=fun h QB q=>tru_lam q
 kp:=kp_lam
 call:=fun w hw=>pf_lam (x:=Qq "w") X.T (.inl rfl) (fun hb hi f L cells code=>pu_call0 (f:= .top 254) (Top.top X (by rfl) (by rfl)) (kp_fn (ok_junk X)) (pes_cons pLo (pes_cons (pu_free (by rfl) (by rfl) (hi.cell kc_at)) pes_nil)) (junk_of' X (n:=n+1) (binds_junk2 X) p2_inS'))
theorem evR_callP {x:Str} {p' p:Pos} {es:List Expr} {f:V} {vs:List V} (N:Pu C n F loc h (.Name x p') f) (K:Kp C f) (A:PEs C n F loc h es vs) (O:∀h',h.In h'→ClR C n h' f vs [] words QR) (hs:autoParam (noStar es=true) aR):EvR C n F loc h (.Call (.Name x p') es [] p) words QR :=
 evR_call (ns:=[]) (N h (.refl _) _ fun h1 i1=>⟨K,A h1 i1 _ fun h2 i2=>evk_nil (O h2 (i1.trans i2))⟩) hs rfl
theorem lam_raise (X:Top C mg mb) {x:List Nat} {i:Int} (hc:(kc 11 (sV x)).In h) (q:∀h',QR h'):ClR C (n+2) h (lam22 C) [.int i] [] (Qq inWords) QR :=
 clR_lam (n:=n+1) X.T (by rfl) (by rfl) (by rfl) (fun fd h1 h2 h3=>binds1 (x:=Qq "w") fun v=>bind_w (.inl rfl) ⟨_,_,rfl⟩ h1 h2 h3) (loc:=[(Qq "w", .int i)]) (h1:=h) (by rfl) fun f L cells code =>
  evR_callP (f:= .top 254) (Top.top X (by rfl) (by rfl)) (kp_fn (ok_junk X)) (pes_cons pLo (pes_cons (pu_free (by rfl) (by rfl) (hc.cell kc_at)) pes_nil)) fun h' i'=>junk_raise X (q h')
end
section
variable {QR:Hs→Prop} {words:Str} {mg mb:Str→Option Value}
theorem chainR (S:SysIn C) (I:InC C (KF C.w.params)) (T:Tp C mg mb) (N:Nm mg mb) {i:Nat} {fs:List (Str × V)} {ks l:List Key} {k0:Key} {bV jV:V} (hi:h.σ i= .inst fs) (hfs:fs.length<20) (hb:fs.lookup (Qq "b")=some bV) (hbl:IsSq h bV ks) (hkl:ks.length<200) (hbn:∀id,bV≠ .blt id) (hj:fs.lookup (Qq "isjunk")=some jV) {f:Key→Bool} {kOk:Key→Prop} {Kn:Hs→Prop} (J:Flt C (n+2) jV Kn f kOk) (hkn:Kn h) (hl:firsts ks=l++[k0]) (hkk:∀k∈l,kOk k)
 (HR:∀h',Kn h'→ClR C (n+2) h' jV [k0.v] [] words QR):CdR C (n+3) h 188 [.obj i 242] [] words QR:=by
 refine CdR.ok fun hok=> ?_
 have hin:i<h.nx:=hok.lt (by rw[hi];simp)
 refine cdR_fn (ok_chain I T) binds1 (loc:=[(Qq "self", .obj i 242)]) (h1:=h) (bind_local (by rfl) (by rfl)) fun L cells=> ?_
 refine exsP_cons (ex_assign (ev_attr (ev_local (by rfl) (by rfl) (get_field (attr:=none) I hi hb hbn (by rfl) (by rfl) (by rfl) (by rfl) (as_local (by rfl) ⟨rfl, ?_⟩)))))
 refine exsP_cons (ex_assign2 (ev_dict0 (as_attr (ev_local (by rfl) (by rfl) (set_field I (fs:=fs) ?_ (by rfl) (by rfl) (by rfl) (by rfl) (as_local (by rfl) ⟨rfl, ?_⟩) (Nat.lt_trans hfs (by decide)))))))
 ·exact(if_neg (Qg hin)).trans hi
 -- the first loop
 have hd:(((h.new (.dict [])).upd i (.inst (upd (Qq "b2j") (.ref h.nx) fs))).σ h.nx)= .dict []:=(if_neg (QE hin)).trans (if_pos rfl)
 have hi1:((h.new (.dict [])).upd i (.inst (upd (Qq "b2j") (.ref h.nx) fs))).σ i= .inst (upd (Qq "b2j") (.ref h.nx) fs):=if_pos rfl
 have hn1:((h.new (.dict [])).upd i (.inst (upd (Qq "b2j") (.ref h.nx) fs))).nx=h.nx+1:=rfl
 have hs1:Same (fun j=>j=i∨j=h.nx) h ((h.new (.dict [])).upd i (.inst (upd (Qq "b2j") (.ref h.nx) fs))):=((Same.refl _ h).new).upd (.inl (.inl rfl))
 have hok1:∀j,((h.new (.dict [])).upd i (.inst (upd (Qq "b2j") (.ref h.nx) fs))).nx≤j→((h.new (.dict [])).upd i (.inst (upd (Qq "b2j") (.ref h.nx) fs))).σ j= .dead:=fun j hj =>
  (if_neg (QE (Qy hin (We hj)))).trans ((if_neg (QE (Nat.lt_of_succ_le hj))).trans (hok j (We hj)))
 have sm1:∀j,j<h.nx→j≠i→((h.new (.dict [])).upd i (.inst (upd (Qq "b2j") (.ref h.nx) fs))).σ j=h.σ j:=fun j hj z=>(if_neg z).trans (if_neg (Qg hj))
 generalize(h.new (.dict [])).upd i (.inst (upd (Qq "b2j") (.ref h.nx) fs))=h1 at hd hi1 hn1 hs1 hok1 sm1 ⊢
 refine exsP_cons (ex_forI (tg:=fun t=>∃elts k p,t=Expr.Tuple elts k p) (ite_enumQ (v:=bV) (ks:=ks) T rfl (by rfl) (N.g _ (by simp)) N.enumerate (fun t ht=>ht) hbl (fun Q q=>ev_local (by rfl) (by rfl) q) fun okk hokk=> ?_) ⟨_,_,_,rfl⟩)
 refine fow_inv2 (fun t loc h'=>loc=[(Qq "self", .obj i 242),(Qq "b",bV),(Qq "b2j", .ref h.nx)]∧∃q,I1 h1 h.nx ks t q h') ?_ ?_ ?_ ?_
 · rintro t loc h' ⟨_,q,i1⟩
   exact hokk _ hbl
 · rintro t v loc h' hv ⟨rfl,q,i1⟩
   refine x_EA (enumV_get 0 _ t v hv) fun u hu z192=> ?_;subst z192
   rw[Qb] at hu
   refine x_EA (QW.mp hu) fun k hk z193=> ?_;subst z193
   refine as_tuple rfl (as_local (by rfl) (as_local (by rfl) ?_))
   refine exs_cons (ex_assign (ev_mcall (ev_local (by rfl) (by rfl) (mth_dct (show IsDct h' (.ref h.nx) _ from Or.inl i1.dict) PySem.F.slot_dict_setdefault (by first|exact PySem.F.type_dict_setdefault|(show builtinType _=_;rw[builtinType_eq_fast];kernel_rfl)) ⟨kp_blt,evs_cons (ev_local (by rfl) (by rfl) (evs_cons (ev_list (evs_nil ⟨Qz _,evs_nil (evk_nil ?_)⟩))))⟩))))
   have hnx:=i1.same.nx
   have hdm:h'.nx≠h.nx:=QE (Qy (hn1▸Qk _) hnx)
   have hkt:=take_snoc hk
   refine cl_setdefault (S:=S) (kvs:=(firsts (ks.take t)).map fun k=>(k, .ref (q k))) ?_ ?_ ?_ ?_
   ·exact(if_neg (Ne.symm hdm)).trans i1.dict
   · rw[Qo]
     exact Qe (m:=200) (Qe (length_firsts _) (Qx (Qj (List.length_take_le' ..) hkl))) (by rw[sizeLine_eq];decide)
   · intro u hu
     rw[kget_map] at hu
     by_cases hkm:k∈firsts (ks.take t)
     · rw[if_pos hkm] at hu
       obtain rfl:=Option.some.inj hu
       have hq:(h'.new (.list [])).σ (q k)= .list (intsV (places (ks.take t) k)):=(if_neg (Qg (i1.hi k hkm))).trans (i1.list k hkm)
       refine as_local (by rfl) (exs_cons (ex_expr (ev_mcall (ev_local (by rfl) (by rfl) (mth_append (v:= .ref (q k)) (xs:=intsV (places (ks.take t) k)) hq ⟨kp_blt,evs_cons (ev_local (by rfl) (by rfl) (evs_nil (evk_nil (cl_append (xs:=intsV (places (ks.take t) k)) hq ?_ ?_))))⟩)))))
       · rw[intsV,Qo]
         exact Qe (m:=200) (Qe (length_places _ _) (Qx (Qj (List.length_take_le' ..) hkl))) (by rw[sizeLine_eq];decide)
       · rw[Nat.zero_add]
         exact exs_nil ⟨_,_,LocSub.app _ [(Qq "i",_),(Qq "elt",_),(Qq "indices",_)], .refl _,rfl,q,i1.old hk hkm (hn1▸Qk _)⟩
     ·rw[if_neg hkm] at hu;cases hu
   · intro hu
     rw[kget_map] at hu
     by_cases hkm:k∈firsts (ks.take t)
     ·rw[if_pos hkm] at hu;cases hu
     refine as_local (by rfl) (exs_cons (ex_expr (ev_mcall (ev_local (by rfl) (by rfl) (mth_append (xs:=[]) ?_ ⟨kp_blt,evs_cons (ev_local (by rfl) (by rfl) (evs_nil (evk_nil (cl_append (xs:=[]) ?_ ?_ ?_))))⟩)))))
     ·exact(if_neg hdm).trans (if_pos rfl)
     ·exact(if_neg hdm).trans (if_pos rfl)
     ·exact Qz _
     · rw[Nat.zero_add]
       exact exs_nil ⟨_,_,LocSub.app _ [(Qq "i",_),(Qq "elt",_),(Qq "indices",_)], .refl _,rfl,(fun x=>if x=k then h'.nx else q x),i1.add hk hkm (hn1▸Qk _)⟩
 · rintro loc h' ⟨rfl,q,i1⟩
   have hl0:(enumV 0 (ks.map Key.v)).length=ks.length:=by rw[enumV_length,Qo]
   rw[hl0] at i1
   obtain⟨isame,_,_,_,idict,_⟩:=i1
   rw[List.take_length,hl] at idict
   refine⟨rfl, ?_⟩
   have hnd:(l++[k0]).Nodup:=hl▸nodup_firsts ks
   have hk4:(l++[k0]).length≤4000:=hl▸Qe (length_firsts ks) (Qe (Qx hkl) (by decide))
   have hi1':h'.σ i= .inst (upd (Qq "b2j") (.ref h.nx) fs):=(isame.σ i (hn1▸Nat.lt_succ_of_lt hin) (Qg hin)).trans hi1
   have hc1:∀j u,h.σ j= .cell u→h'.σ j= .cell u:=fun j u e=>by
    have jn:j<h.nx:=hok.lt (by rw[e];simp)
    have ji:j≠i:=fun z=>by rw[z,hi] at e;cases e
    exact(isame.σ j (hn1▸Nat.lt_succ_of_lt jn) (Qg jn)).trans ((sm1 j jn ji).trans e)
   have hnx:h.nx+1≤h'.nx:=hn1▸isame.nx
   clear isame hok1 hs1 sm1 hd hi1
   have him:i<h'.nx:=Qy (Nat.lt_succ_of_lt hin) hnx
   refine exsP_cons (ex_assign2 (ev_call (ev_builtin T (by rfl) (N.g _ (by simp)) N.set (v:= .ty "set") rfl ⟨kp_ty,evs_nil (evk_nil (cl_set0 ?_))⟩)))
   refine as_attr (ev_local (by rfl) (by rfl) (set_field I (fs:=upd (Qq "b2j") (.ref h.nx) fs) ?_ (by rfl) (by rfl) (by rfl) (by rfl) (as_local (by rfl) ⟨rfl, ?_⟩) (Nat.lt_trans (len_upd (x:=Qq "b2j") (v:= .ref h.nx) hfs) (by decide))))
   ·exact(if_neg (Qg him)).trans hi1'
   have hj1:(upd (Qq "bjunk") (.ref h'.nx) (upd (Qq "b2j") (.ref h.nx) fs)).lookup (Qq "isjunk")=some jV:=by
    rw[lookup_upd,if_neg (by decide),lookup_upd,if_neg (by decide)];exact hj
   refine exsP_cons (ex_assign (ev_attr (ev_local (by rfl) (by rfl) (get_field (attr:=none) I (fs:=upd (Qq "bjunk") (.ref h'.nx) (upd (Qq "b2j") (.ref h.nx) fs)) (if_pos rfl) hj1 J.nb (by rfl) (by rfl) (by rfl) (by rfl) (as_local (by rfl) ⟨rfl, ?_⟩)))))
   have hs2:((h'.new (.set [])).upd i (.inst (upd (Qq "bjunk") (.ref h'.nx) (upd (Qq "b2j") (.ref h.nx) fs)))).σ h'.nx= .set []:=(if_neg (QE him)).trans (if_pos rfl)
   have hd2:((h'.new (.set [])).upd i (.inst (upd (Qq "bjunk") (.ref h'.nx) (upd (Qq "b2j") (.ref h.nx) fs)))).σ h.nx= .dict ((l++[k0]).map fun k=>(k, .ref (q k))):=(if_neg (QE hin)).trans ((if_neg (Qg (Nat.lt_of_succ_le hnx))).trans idict)
   have hc2:∀j u,h.σ j= .cell u→((h'.new (.set [])).upd i (.inst (upd (Qq "bjunk") (.ref h'.nx) (upd (Qq "b2j") (.ref h.nx) fs)))).σ j= .cell u:=fun j u e=>by
    have jn:j<h.nx:=hok.lt (by rw[e];simp)
    exact(if_neg fun z:j=i=>by rw[z,hi] at e;cases e).trans ((if_neg (Qg (Qy jn (We hnx)))).trans (hc1 j u e))
   generalize hs:h'.nx=s at *
   generalize hdd:h.nx=d at *
   show ExsP C (n+2) _ [(Qq "self", .obj i 242),(Qq "b",bV),(Qq "b2j", .ref d),(Qq "junk", .ref s),(Qq "isjunk",jV)] ((h'.new (.set [])).upd i (.inst (upd (Qq "bjunk") (.ref s) (upd (Qq "b2j") (.ref d) fs)))) _ _ _
   generalize(h'.new (.set [])).upd i (.inst (upd (Qq "bjunk") (.ref s) (upd (Qq "b2j") (.ref d) fs)))=H2 at hs2 hd2 hc2 ⊢
   refine exsP_ifT (evB_value (ev_local (by rfl) (by rfl) (J.tru _ _ ⟨rfl, ?_⟩)))
   exact junk_loopR (l:=l) (k0:=k0) (g:=fun k=> .ref (q k)) (s:=s) (d:=d) S J (J.st _ _ hkn hc2) (by rfl) (by rfl) (by rfl) (by rfl) (by rfl) (by rfl) (by rfl) (by rfl) hs2 hd2 hnd hkk hk4 HR
 ·exact⟨rfl,fun _=>0,⟨.refl _ _,fun k hk=>absurd hk (by rw[List.take_zero];exact QZ),fun k hk=>absurd hk (by rw[List.take_zero];exact QZ),fun k hk=>absurd hk (by rw[List.take_zero];exact QZ),hd,fun k hk=>absurd hk (by rw[List.take_zero];exact QZ)⟩⟩
end
section
variable {QR:Hs→Prop} {words:Str} {mg mb:Str→Option Value}
theorem seq2R (I:InC C (KF C.w.params)) (T:Tp C mg mb) {i:Nat} {fs:List (Str × V)} {bV oV:V} (hi:h.σ i= .inst fs) (hfs:fs.length<15) (ho:fs.lookup (Qq "b")=some oV) (hon:∀id,oV≠ .blt id) (hnc:fs.lookup (Qq "_SequenceMatcher__chain_b")=none)
 (his:∀Q:V→Hs→Prop,Q (.bool false) h→Op2 C n (QQ .Is) h bV oV Q)
 (H:ClR C n (h.upd i (.inst (upd (Qq "fullbcount") .none (upd (Qq "opcodes") .none (upd (Qq "matching_blocks") .none (upd (Qq "b") bV fs)))))) (.top 188) [.obj i 242] [] words QR):CdR C (n+1) h 181 [.obj i 242,bV] [] words QR:=by
 refine cdR_fn (ok_seq2 I T) binds2 (loc:=[(Qq "self", .obj i 242),(Qq "b",bV)]) (h1:=h) (bind_local (by rfl) (bind_local (by rfl) (by rfl))) fun L cells=> ?_
 refine exsP_cons (ex_expr (ev_str ⟨rfl, ?_⟩))
 refine exsP_cons (ex_if (evB_cmp (ev_local (by rfl) (by rfl) (ev_attr (ev_local (by rfl) (by rfl) (get_field (attr:=none) I hi ho hon (by rfl) (by rfl) (by rfl) (by rfl) (his _ (tru_bool ?_))))))))
 refine exs_nil ⟨rfl, ?_⟩
 have l1:=len_upd (x:=Qq "b") (v:=bV) hfs
 have l2:=len_upd (x:=Qq "matching_blocks") (v:= .none) l1
 have l3:=len_upd (x:=Qq "opcodes") (v:= .none) l2
 refine exsP_cons (ex_assign (ev_local (by rfl) (by rfl) (as_attr (ev_local (by rfl) (by rfl) (set_field I hi (by rfl) (by rfl) (by rfl) (by rfl) ⟨rfl, ?_⟩ (Nat.lt_trans hfs (by decide)))))))
 refine exsP_cons (ex_assign2 (ev_none (as_attr (ev_local (by rfl) (by rfl) (set_field I (fs:=upd (Qq "b") bV fs) (if_pos rfl) (by rfl) (by rfl) (by rfl) (by rfl) (as_attr (ev_local (by rfl) (by rfl) (set_field I (fs:=upd (Qq "matching_blocks") .none (upd (Qq "b") bV fs)) (if_pos rfl) (by rfl) (by rfl) (by rfl) (by rfl) ⟨rfl, ?_⟩ (Nat.lt_trans l2 (by decide))))) (Nat.lt_trans l1 (by decide)))))))
 refine exsP_cons (ex_assign (ev_none (as_attr (ev_local (by rfl) (by rfl) (set_field I (fs:=upd (Qq "opcodes") .none (upd (Qq "matching_blocks") .none (upd (Qq "b") bV fs))) (if_pos rfl) (by rfl) (by rfl) (by rfl) (by rfl) ⟨rfl, ?_⟩ (Nat.lt_trans l3 (by decide)))))))
 rw[upd_upd,upd_upd,upd_upd]
 refine(exsR_expr (evR_mcall (ns:=[]) (ev_local (by rfl) (by rfl) (mth_own (f:=188) I (fs:=upd (Qq "fullbcount") .none (upd (Qq "opcodes") .none (upd (Qq "matching_blocks") .none (upd (Qq "b") bV fs)))) (if_pos rfl) ?_ (by rfl) (by rfl) (by rfl) ⟨kp_fn (ok_chain I T),evs_nil (evk_nil H)⟩)))).p
 rw[lookup_upd,if_neg (by decide),lookup_upd,if_neg (by decide),lookup_upd,if_neg (by decide),lookup_upd,if_neg (by decide)];exact hnc
theorem seqsR (I:InC C (KF C.w.params)) (T:Tp C mg mb) {i:Nat} {fs:List (Str × V)} {aV bV:V} (hi:h.σ i= .inst fs) (hn1:fs.lookup (Qq "set_seq1")=none)
 (H:Cl C n h (.top 174) [.obj i 242,aV] [] fun _ h'=>(∃fs',h'.σ i= .inst fs'∧fs'.lookup (Qq "set_seq2")=none)∧ClR C n h' (.top 181) [.obj i 242,bV] [] words QR):CdR C (n+1) h 167 [.obj i 242,aV,bV] [] words QR:=by
 refine cdR_fn (ok_seqs I T) binds3 (loc:=[(Qq "self", .obj i 242),(Qq "a",aV),(Qq "b",bV)]) (h1:=h) (bind_local (by rfl) (bind_local (by rfl) (bind_local (by rfl) (by rfl)))) fun L cells=> ?_
 refine exsP_cons (ex_expr (ev_str ⟨rfl, ?_⟩))
 refine exsP_cons (ex_expr (ev_mcall (ev_local (by rfl) (by rfl) (mth_own (f:=174) I hi hn1 (by rfl) (by rfl) (by rfl) ⟨kp_fn (ok_seq1 I T),evs_cons (ev_local (by rfl) (by rfl) (evs_nil (evk_nil ?_)))⟩))))
 refine Cl.mono H fun v h' q=>⟨rfl, ?_⟩
 refine x_A q fun z194 q=> ?_;obtain⟨fs',hi',hn'⟩:=z194
 exact(exsR_expr (evR_mcall (ns:=[]) (ev_local (by rfl) (by rfl) (mth_own (f:=181) I hi' hn' (by rfl) (by rfl) (by rfl) ⟨kp_fn (ok_seq2 I T),evs_cons (ev_local (by rfl) (by rfl) (evs_nil (evk_nil q)))⟩)))).p
theorem initR (I:InC C (KF C.w.params)) (T:Tp C mg mb) {i:Nat} {jV aV bV:V} (hi:h.σ i= .inst [])
 (H:ClR C n (h.upd i (.inst [(Qq "isjunk",jV),(Qq "a", .none),(Qq "b", .none),(Qq "autojunk", .bool true)])) (.top 167) [.obj i 242,aV,bV] [] words QR):CdR C (n+1) h 160 [.obj i 242,jV,aV,bV] [] words QR:=by
 refine cdR_fn (ok_init I T) (binds_init I) (loc:=[(Qq "self", .obj i 242),(Qq "isjunk",jV),(Qq "a",aV),(Qq "b",bV),(Qq "autojunk", .bool true)]) (h1:=h) (bind_local (by rfl) (bind_local (by rfl) (bind_local (by rfl) (bind_local (by rfl) (bind_local (by rfl) (by rfl)))))) fun L cells=> ?_
 refine exsP_cons (ex_expr (ev_str ⟨rfl, ?_⟩))
 refine exsP_cons (ex_assign (ev_local (by rfl) (by rfl) (as_attr (ev_local (by rfl) (by rfl) (set_field I hi (by rfl) (by rfl) (by rfl) (by rfl) ⟨rfl, ?_⟩)))))
 refine exsP_cons (ex_assign2 (ev_none (as_attr (ev_local (by rfl) (by rfl) (set_field I (fs:=[(Qq "isjunk",jV)]) (if_pos rfl) (by rfl) (by rfl) (by rfl) (by rfl) (as_attr (ev_local (by rfl) (by rfl) (set_field I (fs:=[(Qq "isjunk",jV),(Qq "a", .none)]) (if_pos rfl) (by rfl) (by rfl) (by rfl) (by rfl) ⟨rfl, ?_⟩ (by simp)))) (by simp))))))
 refine exsP_cons (ex_assign (ev_local (by rfl) (by rfl) (as_attr (ev_local (by rfl) (by rfl) (set_field I (fs:=[(Qq "isjunk",jV),(Qq "a", .none),(Qq "b", .none)]) (if_pos rfl) (by rfl) (by rfl) (by rfl) (by rfl) ⟨rfl, ?_⟩ (by simp))))))
 rw[upd_upd,upd_upd,upd_upd]
 exact(exsR_expr (evR_mcall (ns:=[]) (ev_local (by rfl) (by rfl) (mth_own (f:=167) I (fs:=[(Qq "isjunk",jV),(Qq "a", .none),(Qq "b", .none),(Qq "autojunk", .bool true)]) (if_pos rfl) (by rfl) (by rfl) (by rfl) (by rfl) ⟨kp_fn (ok_seqs I T),evs_cons (ev_local (by rfl) (by rfl) (evs_cons (ev_local (by rfl) (by rfl) (evs_nil (evk_nil H)))))⟩)))).p
theorem ClR.ok {f:V} {args:List V} {kw:List (Str × V)} (H:h.Ok→ClR C n h f args kw words QR):ClR C n h f args kw words QR:=⟨fun A w Q' E fx xs ks l a0 R=>(H R.dead).run A w Q' E fx xs ks l a0 R⟩
theorem make_raise (X:Top C mg mb) {jV:V} {us ks l:List Key} {k0:Key} (hkl:ks.length<200) {f:Key→Bool} {kOk:Key→Prop} {Kn:Hs→Prop} (J:Flt C (n+2) jV Kn f kOk) (hkn:Kn h) (hl:firsts ks=l++[k0]) (hkk:∀k∈l,kOk k)
 (HR:∀h',Kn h'→ClR C (n+2) h' jV [k0.v] [] words QR):ClR C (n+7) h (.top 242) [jV,kV us,kV ks] [] words QR:=by
 refine ClR.ok fun ok=> ?_
 have hd:h.σ h.nx= .dead:=ok h.nx (Qt _)
 refine clR_new (n:=n+6) X.I (by rfl) (by rfl) (by rfl) ?_
 refine initR (n:=n+5) X.I X.T (i:=h.nx) (if_pos rfl) (CdR.cl ?_)
 refine seqsR (n:=n+4) X.I X.T (fs:=[(Qq "isjunk",jV),(Qq "a", .none),(Qq "b", .none),(Qq "autojunk", .bool true)]) (if_pos rfl) (by rfl) (Cd.cl ?_)
 refine seq1 (n:=n+3) X.I X.T (fs:=[(Qq "isjunk",jV),(Qq "a", .none),(Qq "b", .none),(Qq "autojunk", .bool true)]) (if_pos rfl) (QV rfl) (by rfl) (by intro _ e;cases e) (fun Q q=>is_none_l (v:=kV us) (by intro _ e;cases e) q) ⟨⟨_,if_pos rfl,by rfl⟩,CdR.cl ?_⟩
 refine seq2R (n:=n+3) X.I X.T (fs:=[(Qq "isjunk",jV),(Qq "a",kV us),(Qq "b", .none),(Qq "autojunk", .bool true),(Qq "matching_blocks", .none),(Qq "opcodes", .none)]) (if_pos rfl) (QV rfl) (by rfl) (by intro _ e;cases e) (by rfl) (fun Q q=>is_none_l (v:=kV ks) (by intro _ e;cases e) q) (CdR.cl ?_)
 refine chainR (n:=n) X.S X.I X.T X.nm (ks:=ks) (l:=l) (k0:=k0) (fs:=[(Qq "isjunk",jV),(Qq "a",kV us),(Qq "b",kV ks),(Qq "autojunk", .bool true),(Qq "matching_blocks", .none),(Qq "opcodes", .none),(Qq "fullbcount", .none)]) (if_pos rfl) (QV rfl) (by rfl) (rfl:IsSq _ (kV ks) ks) hkl (by intro _ e;cases e) (by rfl) J (J.st h _ hkn fun j u e=> ?_) hl hkk HR
 have hj:j≠h.nx:=fun z=>by rw[z,hd] at e;cases e
 exact(if_neg hj).trans ((if_neg hj).trans ((if_neg hj).trans ((if_neg hj).trans e)))
end
section
variable {hb:Hs} {mg mb:Str→Option Value}
theorem firsts_0 {ns:List Int}:firsts ((t9 ns++[11]).map κ9)=firsts ((t9 ns).map κ9)++[.i 0]:=by
 rw[Wt]
 refine(firsts_snoc _ _).trans (if_neg fun z=> ?_)
 refine x_EA (QO.mp (mem_firsts.mp z)) fun k hk e=> ?_
 rw[κ9_lt (t9_lt k hk)] at e
 cases e
theorem law9_try (X:Top C mg mb) (CD:CdOk C 268 266 (Qq "law.<locals>.<lambda>")) {ns:List Int} (hns:ns.length≤63) {L:Addr} {cells:List (Str × Addr)} {q:Nat→Bool} (hc:(kc 11 (sV (tx9 ns))).In h) :
 ExsT C (n+10) (F09 C L cells) (L9g C ns q) h ((B269 C).drop 22) (RetQ fun v _=>v= .bool true):=by
 have ht:=t9_len hns
 refine exsT_try (n:=n+9) (Q:=fun _=>True) (words:=Qq inWords) X.T (exsR_expr (evR_callP (f:= .top 242) (vs:=[lam22 C,vW (s9 ns),vW0 (t9 ns)]) (Top.top X (by rfl) (by rfl)) (kp_cls X.I (by rfl)) (pes_cons (pu_lambdaQ X.T X.B q9 CD rfl) (pes_cons pLo (pes_cons (pu_bin pLo (pu_list (vs:=[.int 0]) (pes_cons pu_int pes_nil) (le_szL (by rfl))) (p2_add0 ht)) pes_nil))) fun h' i'=> ?_)) (fun _ _ _=>rfl) (X.bl _ _ (by rfl)) (by rfl)
 rw[←kV_W0 (t9_lt (ns:=ns)),←kV_W (s9_lt (ns:=ns))]
 refine ClR.less (make_raise (n:=n+1) X (l:=firsts ((t9 ns).map κ9)) (k0:= .i 0) ?_ (tst_22 (n:=n) X).flt (hc.trans i') firsts_0 (fun k hk=> ?_) fun h2 hk=>lam_raise (n:=n+1) X hk fun _=>trivial) (QV (Nat.ble_eq_true_of_le (Q2 (by decide:8≤10) n)))
 · rw[Qo,Qn]
   exact Qj (Wi ht 1) (by decide)
 · refine x_EA (QO.mp (mem_firsts.mp hk)) fun c hc z195=> ?_;subst z195
   exact⟨wd9 c,wd_mem c (t9_lt c hc),κ9_lt (t9_lt c hc)⟩
theorem law09_true (X:Top C mg mb) (CD:CdOk C 268 266 (Qq "law.<locals>.<lambda>")) {ns:List Int} (hns:ns.length≤63):ClT C (n+11) Hs.none (.top 269) [vI ns] fun v _=>v= .bool true:=by
 refine clT_fn (ok_law X) binds1 (loc:=[(Qq "script",vI ns)]) (h1:=hsCells (fnOf (k269 C.w.params)).scope.names Hs.none) (bind_local (by rfl) (by rfl)) fun L cells=> ?_
 rw[hs_blk,show cellsOf (fnOf (k269 C.w.params)).scope.names=13 from rfl]
 refine(congrArg (fun b=>ExsT C (n+10) (F09 C L cells) [(Qq "script",vI ns)] (bk fun _=>none) b (RetQ fun v _=>v= .bool true)) (List.take_append_drop 22 (B269 C))).mp (exsT_app ?_)
 refine(?_:KX C (n+10) (F09 C L cells) [(Qq "script",vI ns)] (bk fun _=>none) (R09 C 0) fun fl l1 h1=>fl= .next∧ExsT C (n+10) (F09 C L cells) l1 h1 ((B269 C).drop 22) (RetQ fun v _=>v= .bool true)) _ (.refl _)
 refine law9_a X hns (law9_b (n:=n+9) X hns (by rfl) (by rfl) (by rfl) (by rfl) (by rfl) ?_)
 refine law9_c (n:=n+8) X CD ⟨by rfl,by rfl,by rfl,by rfl,by rfl,by rfl⟩ (law9_d X CD hns ⟨by rfl,by rfl,by rfl,by rfl,by rfl,by rfl⟩ fun g c=> ?_)
 refine law9_e X c (law9_f X hns (law9_g X hns (law9_h X CD hns c fun g c=> ?_)))
 exact law9_i X hns c fun q=>law9_j X CD hns c fun q=>kx_nil fun h' i'=>⟨rfl,law9_try X CD hns ((kc_in c.c11 (by decide)).trans i')⟩
end
noncomputable def tabq0:Addr→Str:=fun a=>if a=Kt.getD 0 0 then Qq "SequenceMatcher.ratio.<locals>.<genexpr>" else Qq "law.<locals>.<lambda>"
noncomputable def Cx0 (w:World) (s:Shared):Cx:=⟨pw,w,s.os,Kt,tabq0,s.heap⟩
noncomputable def g0 (h:Heap):G:=fun a=>if a∈Kt then none else h.get? a
theorem seen {P:Params} {h:Heap} {a:Addr} {o:Obj} (Y:Ka.map h.get? =Kv P) (e:(Ka.zip (Kv P)).lookup a=some (some o)):h.get? a=some o:=by
 rw[←Y] at e
 generalize Ka=l at e
 clear Y
 induction l with
 |nil=>cases e
 |cons b l ih =>
  simp only[Q3,List.zip_cons_cons,List.lookup_cons] at e
  by_cases hb:(a==b)=true
  ·rw[hb] at e;cases beq_iff_eq.mp hb;exact Option.some.inj e
  ·rw[Bool.not_eq_true] at hb;rw[hb] at e;exact ih e
theorem seen_KF {P:Params} {h:Heap} (Y:Ka.map h.get? =Kv P):∀a o,(KF P).lookup a=some o→h.get? a=some o:=fun a o e=>by
 have:∀l:W.Frag,(∀x∈l,h.get? x.1=some x.2)→l.lookup a=some o→h.get? a=some o:=by
  intro l
  induction l with
  |nil=>intro _ e;cases e
  |cons x l ih =>
   intro H e
   rw[List.lookup_cons] at e
   cases hb:a==x.1 with
   |true=>rw[hb] at e;cases e;rw[eq_of_beq hb];exact H x (by simp)
   |false=>rw[hb] at e;exact ih (fun y hy=>H y (by simp[hy])) e
 refine this _ ?_ e
 have e2:Ka=(KF P).map (·.1)++Kt:=by rfl
 have e3:∃t,Kv P=(KF P).map (fun x=>some x.2)++t:=⟨Kt.map fun _=>some (W.tabObj #[]),by rfl⟩
 refine x_E e3 fun t e3=> ?_
 rw[e2,e3,Wt] at Y
 have Y:=(List.append_inj Y (by simp)).1
 rw[Q7] at Y
 intro x hx
 have:=List.map_inj_left.mp Y x hx
 exact this
theorem seen_Kt {P:Params} {h:Heap} (Y:Ka.map h.get? =Kv P):∀a∈Kt,h.get? a=some (W.tabObj #[]):=fun a ha=>by
 have e2:Ka=(KF P).map (·.1)++Kt:=by rfl
 have e3:Kv P=(KF P).map (fun x=>some x.2)++Kt.map fun _=>some (W.tabObj #[]):=by rfl
 rw[e2,e3,Wt] at Y
 exact List.map_inj_left.mp (List.append_inj Y (by simp)).2 a ha
theorem off_Kt:∀P:Params,∀x∈KF P,x.1∉Kt:=fun P x hx=>by
 have:((KF P).map (·.1)).all (fun a=>decide (a∉Kt))=true:=by rfl
 have:=List.all_eq_true.mp this x.1 (List.mem_map_of_mem hx)
 simpa using this
theorem rep0 {w:World} {s:Shared} (Y:Ka.map s.heap.get? =Kv w.params) (hg:s.gens=#[]):Rep (Cx0 w s) ⟨g0 s.heap,[],s⟩ Hs.none where
 keep:=fun a o e=>by
  have e:(if a∈Kt then none else s.heap.get? a)=some o:=e
  split at e
  ·cases e
  ·exact e
 len:=rfl
 nd:=List.nodup_nil
 off:=fun i a e=>by simp at e
 dead:=fun i _=>rfl
 obj:=fun i a e=>by simp at e
 new:=fun a e=>by simp at e
 os:=rfl
 bare:=AllBare.of_eq hg
 top:=fun a o e ht=>(if_neg ht).trans e
 tab:=fun a ha=>⟨_,seen_Kt Y a ha,#[],rfl,trivial,fun pos cv e=>by cases e⟩
 offtab:=fun a ha=>⟨if_pos ha,by simp⟩
theorem Conc.ints {C:Cx} {g:G} {ρ:List Addr}:∀{vs:List Value} {ns:List Int},IntsAre vs ns→Concs C g ρ (ns.map V.int) vs
 |_,_, .nil=> .nil
 |_,_, .cons n t h=> .cons (.int n t) (Conc.ints h)
theorem map_look {β:Type} {f:Str→Option β}:∀{l:List (Str × Value)} {g:Value→Option β},l.map (fun p=>f p.1)=l.map (fun p=>g p.2)→∀x v,l.lookup x=some v→f x=g v
 |[],_,_,x,v,e=>by cases e
 |p::l,g,h,x,v,e=>by
  rw[Q3,Q3] at h
  refine x_A (List.cons.inj h) fun h1 h2=> ?_
  rw[List.lookup_cons] at e
  cases hb:x==p.1 with
  |true=>rw[hb] at e;cases e;rw[eq_of_beq hb];exact h1
  |false=>rw[hb] at e;exact map_look h2 x v e
noncomputable def es3 (P:Params):Array DictEntry:=match(k3 P).data with | .dict es _=>es|_=>#[]
theorem gl_ok (P:Params):gl0.map (fun p=>nsFind (es3 P) p.1)=gl0.map (fun p=>some p.2):=by kernel_rfl
theorem bl_ok (P:Params):bl0.map (fun p=>nsFind (es3 P) p.1)=bl0.map (fun _=>(none:Option Value)):=by kernel_rfl
theorem bb_ok:bl0.map (fun p=>bootBuiltins p.1)=bl0.map (fun p=>some p.2):=by kernel_rfl
theorem bn_ok:bl0.map (fun p=>(if p.1=("__name__" : Str) then none else some ()))=bl0.map (fun _=>some ()):=by kernel_rfl
theorem es3_str (P:Params):StrKeys (es3 P):=fun e he=>by
 have:(es3 P).toList.all (fun e=>match e.key with | .str _ _=>true|_=>false)=true:=by kernel_rfl
 have:=List.all_eq_true.mp this e (by simpa using he)
 cases h:e.key<;>rw[h] at this<;>first|(cases this;done)|exact⟨_,_,rfl⟩
theorem look_mem {β:Type}:∀{l:List (Addr × β)} {a:Addr} {o:β},l.lookup a=some o→∃x∈l,x.1=a
 |[],a,o,e=>by cases e
 |p::l,a,o,e=>by
  rw[List.lookup_cons] at e
  cases hb:a==p.1 with
  |true=>exact⟨p,by simp,(eq_of_beq hb).symm⟩
  |false =>
   rw[hb] at e
   refine x_EA (look_mem e) fun x h1 h2=> ?_
   exact⟨x,by simp[h1],h2⟩
theorem top0 {w:World} {s:Shared} {mb:Str→Option Value} (hb:s.heap.Ns builtinsNs mb) (hbb:∀x:Str,x ≠ "__name__" → mb x=bootBuiltins x) (hl:s.heap.NoLimit) (Y:Ka.map s.heap.get? =Kv w.params):Top (Cx0 w s) (nsFind (es3 w.params)) mb:=by
 have h3:s.heap.get? 3=some (k3 w.params):=seen_KF Y 3 _ (by rfl)
 have nk:builtinsNs∉Kt∧Wy∉Kt∧cStatics∉Kt:=by decide
 have hns:s.heap.Ns Wy (nsFind (es3 w.params)):=⟨_,_,_,h3,rfl,es3_str _,fun _=>rfl⟩
 refine⟨⟨hns,hb,nk.2.1,nk.1,hl,nk.2.2⟩,⟨_,seen_KF Y 1 _ (by rfl)⟩,fun a o e=>⟨seen_KF Y a o e,fun z=> ?_⟩,⟨4,_,by kernel_rfl,by decide,by decide,(show 4∉Kt by decide),seen_KF Y 4 _ (by rfl),by rfl,by rfl,by rfl⟩,fun x v e=>map_look (gl_ok _) x v e,fun x v e=>⟨?_, ?_⟩⟩
 · refine x_EA (look_mem e) fun x h1 h2=> ?_
   exact off_Kt _ x h1 (h2▸z)
 ·exact map_look (g:=fun _=>none) (bl_ok _) x v e
 · refine(hbb x fun z=> ?_).trans (map_look bb_ok x v e)
   have:=map_look (f:=fun y=>if y=("__name__" : Str) then none else some ()) (g:=fun _=>some ()) bn_ok x v e
   simp[z] at this
theorem isTab {w:World} {s:Shared} (Y:Ka.map s.heap.get? =Kv w.params) {c P:Addr} {oc:Obj} {vs:Array Value} (ho:(KF w.params).lookup c=some oc) (hc:oc.cls= .type "code") (hd:oc.data= .fields vs) (h11:vs[11]? =some (.ref P)):isCodeTable s.heap P:=⟨c,oc,vs,seen_KF Y c oc ho,hc,hd,h11⟩
theorem walk_of {w:World} {s:Shared} {mb:Str→Option Value} {a f:Addr} {vs:List Value} {ns:List Int} {n:Nat} (hb:s.heap.Ns builtinsNs mb) (hbb:∀x:Str,x ≠ "__name__" → mb x=bootBuiltins x) (hl:s.heap.NoLimit) (Y:Ka.map s.heap.get? =Kv w.params) (hg:s.gens=#[])
 (ha:s.heap.PlainList a vs.toArray) (hi:IntsAre vs ns) (hn:n≤100) (hT:∀P∈Kt,isCodeTable s.heap P) (law:ClT (Cx0 w s) n Hs.none (.top f) [.lst (ns.map V.int)] fun v _=>v= .bool true) :
 wpAny (model pw w) callerA (call (.ref f) [.ref a]) (fun v s'=>v= .bool true∧OldK s.heap s'.heap∧s'.os=s.os∧AllBare s'.gens) (fun _ _=>False) s:=by
 have R:=rep0 Y hg
 refine x_E ha fun k hk=> ?_
 have hat:a∉Kt:=fun z=>by rw[seen_Kt Y a z] at hk;injection hk with hk;injection hk with h1;cases h1
 refine law.run callerA ⟨g0 s.heap,[],s⟩ _ _ (.ref f) [.ref a] ⟨rfl, ?_, ?_⟩ R (.top f) (.cons (.lst (vs:=vs) (n:=k) ((if_neg hat).trans hk) (Conc.ints hi)) .nil) rfl fun r v h' w' hv e R' c=> ?_
 · show 1+claimMargin+4*n<recursionLimit
   unfold claimMargin recursionLimit;omega
 · show 4+40*n<cLine
   unfold cLine;omega
 · subst hv
   cases c
   refine⟨rfl,⟨fun b o hb=> ?_,fun b o hb=> ?_⟩,R'.os,R'.bare⟩
   · by_cases ht:b∈Kt
     · have h1:=seen_Kt Y b ht
       rw[hb] at h1
       injection h1 with h1
       subst h1
       refine x_EAEA (R'.tab b ht) fun o' h2 ps h3 _=> ?_
       exact .inr (.inl ⟨hT b ht,rfl,#[],ps,rfl,by rw[h2,h3];simp[W.tabObj]⟩)
     ·exact .inl (e.kept b o hb (by simp) (by simp) ht)
   ·exact e.live b o hb
theorem walk09:Walk:=fun w s₁ mb a vs ns hb hbb hl Y hg ha hi hn _ =>
 have X:=top0 (w:=w) hb hbb hl Y
 have CD:CdOk (Cx0 w s₁) 268 266 (Qq "law.<locals>.<lambda>"):=⟨codeHd_of_K (K:=KF w.params) (fun a o e=>seen_KF Y a o e) (by rfl),(show 268∉Kt by decide),(show 266∈Kt by decide),by rfl⟩
 walk_of hb hbb hl Y hg ha hi (n:=1+11) (by decide) (fun P hP=>by
  simp only[Kt,QY,QZ,or_false] at hP
  rcases hP with rfl|rfl
  ·exact isTab Y (c:=224) (oc:=k224 w.params) (by rfl) (by rfl) (by rfl) (by rfl)
  ·exact isTab Y (c:=268) (oc:=k268 w.params) (by rfl) (by rfl) (by rfl) (by rfl)) (law09_true (n:=1) X CD hn)
end Mine.Internal
set_option maxRecDepth 100000 in
set_option maxHeartbeats 8000000 in
theorem PySem.Challenge.cw_dm0060_09_holds : PySem.Challenge.rw_dm0060_09.Holds :=
 Mine.holds_of Mine.Internal.walk09

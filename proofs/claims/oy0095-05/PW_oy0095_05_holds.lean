import PyProof.Rows.All
import Wide.All
import OpenK.AllK
import Wide.FinOn
import Lean
import PySem.Challenge.RW_oy0095_05
set_option tactic.hygienic false
set_option maxRecDepth 100000
set_option Elab.async false
set_option linter.all false
set_option genSizeOfSpec false
set_option genSizeOf false
set_option genInjectivity false
set_option bootstrap.genMatcherCode false
namespace Mine
theorem x0_2  {p0 p1:Prop} {P:Prop} (h:p0∧p1) (k:p0→p1→P):P:=k h.1 h.2
theorem x0_3  {p0 p1 p2:Prop} {P:Prop} (h:p0∧p1∧p2) (k:p0→p1→p2→P):P:=k h.1 h.2.1 h.2.2
theorem x0_4  {p0 p1 p2 p3:Prop} {P:Prop} (h:p0∧p1∧p2∧p3) (k:p0→p1→p2→p3→P):P:=k h.1 h.2.1 h.2.2.1 h.2.2.2
theorem x0_5  {p0 p1 p2 p3 p4:Prop} {P:Prop} (h:p0∧p1∧p2∧p3∧p4) (k:p0→p1→p2→p3→p4→P):P:=k h.1 h.2.1 h.2.2.1 h.2.2.2.1 h.2.2.2.2
theorem x1_1 {A0:Type} {p0:A0→Prop} {P:Prop} (h:∃ a0,p0 a0) (k:∀ a0,p0 a0→P):P:=h.elim fun a0 h0=>k a0 h0
theorem x1_2 {A0:Type} {p0 p1:A0→Prop} {P:Prop} (h:∃ a0,p0 a0∧p1 a0) (k:∀ a0,p0 a0→p1 a0→P):P:=h.elim fun a0 h0=>k a0 h0.1 h0.2
theorem x1_3 {A0:Type} {p0 p1 p2:A0→Prop} {P:Prop} (h:∃ a0,p0 a0∧p1 a0∧p2 a0) (k:∀ a0,p0 a0→p1 a0→p2 a0→P):P:=h.elim fun a0 h0=>k a0 h0.1 h0.2.1 h0.2.2
theorem x1_4 {A0:Type} {p0 p1 p2 p3:A0→Prop} {P:Prop} (h:∃ a0,p0 a0∧p1 a0∧p2 a0∧p3 a0) (k:∀ a0,p0 a0→p1 a0→p2 a0→p3 a0→P):P:=h.elim fun a0 h0=>k a0 h0.1 h0.2.1 h0.2.2.1 h0.2.2.2
theorem x1_5 {A0:Type} {p0 p1 p2 p3 p4:A0→Prop} {P:Prop} (h:∃ a0,p0 a0∧p1 a0∧p2 a0∧p3 a0∧p4 a0) (k:∀ a0,p0 a0→p1 a0→p2 a0→p3 a0→p4 a0→P):P:=h.elim fun a0 h0=>k a0 h0.1 h0.2.1 h0.2.2.1 h0.2.2.2.1 h0.2.2.2.2
theorem x2_1 {A0:Type} {A1:Type} {p0:A0→A1→Prop} {P:Prop} (h:∃ a0 a1,p0 a0 a1) (k:∀ a0 a1,p0 a0 a1→P):P:=h.elim fun a0 h0=>h0.elim fun a1 h1=>k a0 a1 h1
theorem x2_2 {A0:Type} {A1:Type} {p0 p1:A0→A1→Prop} {P:Prop} (h:∃ a0 a1,p0 a0 a1∧p1 a0 a1) (k:∀ a0 a1,p0 a0 a1→p1 a0 a1→P):P:=h.elim fun a0 h0=>h0.elim fun a1 h1=>k a0 a1 h1.1 h1.2
theorem x2_3 {A0:Type} {A1:Type} {p0 p1 p2:A0→A1→Prop} {P:Prop} (h:∃ a0 a1,p0 a0 a1∧p1 a0 a1∧p2 a0 a1) (k:∀ a0 a1,p0 a0 a1→p1 a0 a1→p2 a0 a1→P):P:=h.elim fun a0 h0=>h0.elim fun a1 h1=>k a0 a1 h1.1 h1.2.1 h1.2.2
theorem x2_4 {A0:Type} {A1:Type} {p0 p1 p2 p3:A0→A1→Prop} {P:Prop} (h:∃ a0 a1,p0 a0 a1∧p1 a0 a1∧p2 a0 a1∧p3 a0 a1) (k:∀ a0 a1,p0 a0 a1→p1 a0 a1→p2 a0 a1→p3 a0 a1→P):P:=h.elim fun a0 h0=>h0.elim fun a1 h1=>k a0 a1 h1.1 h1.2.1 h1.2.2.1 h1.2.2.2
theorem x2_8 {A0:Type} {A1:Type} {p0 p1 p2 p3 p4 p5 p6 p7:A0→A1→Prop} {P:Prop} (h:∃ a0 a1,p0 a0 a1∧p1 a0 a1∧p2 a0 a1∧p3 a0 a1∧p4 a0 a1∧p5 a0 a1∧p6 a0 a1∧p7 a0 a1) (k:∀ a0 a1,p0 a0 a1→p1 a0 a1→p2 a0 a1→p3 a0 a1→p4 a0 a1→p5 a0 a1→p6 a0 a1→p7 a0 a1→P):P:=h.elim fun a0 h0=>h0.elim fun a1 h1=>k a0 a1 h1.1 h1.2.1 h1.2.2.1 h1.2.2.2.1 h1.2.2.2.2.1 h1.2.2.2.2.2.1 h1.2.2.2.2.2.2.1 h1.2.2.2.2.2.2.2
theorem x2_11 {A0:Type} {A1:Type} {p0 p1 p2 p3 p4 p5 p6 p7 p8 p9 p10:A0→A1→Prop} {P:Prop} (h:∃ a0 a1,p0 a0 a1∧p1 a0 a1∧p2 a0 a1∧p3 a0 a1∧p4 a0 a1∧p5 a0 a1∧p6 a0 a1∧p7 a0 a1∧p8 a0 a1∧p9 a0 a1∧p10 a0 a1) (k:∀ a0 a1,p0 a0 a1→p1 a0 a1→p2 a0 a1→p3 a0 a1→p4 a0 a1→p5 a0 a1→p6 a0 a1→p7 a0 a1→p8 a0 a1→p9 a0 a1→p10 a0 a1→P):P:=h.elim fun a0 h0=>h0.elim fun a1 h1=>k a0 a1 h1.1 h1.2.1 h1.2.2.1 h1.2.2.2.1 h1.2.2.2.2.1 h1.2.2.2.2.2.1 h1.2.2.2.2.2.2.1 h1.2.2.2.2.2.2.2.1 h1.2.2.2.2.2.2.2.2.1 h1.2.2.2.2.2.2.2.2.2.1 h1.2.2.2.2.2.2.2.2.2.2
theorem x3_2 {A0:Type} {A1:Type} {A2:Type} {p0 p1:A0→A1→A2→Prop} {P:Prop} (h:∃ a0 a1 a2,p0 a0 a1 a2∧p1 a0 a1 a2) (k:∀ a0 a1 a2,p0 a0 a1 a2→p1 a0 a1 a2→P):P:=h.elim fun a0 h0=>h0.elim fun a1 h1=>h1.elim fun a2 h2=>k a0 a1 a2 h2.1 h2.2
theorem x3_3 {A0:Type} {A1:Type} {A2:Type} {p0 p1 p2:A0→A1→A2→Prop} {P:Prop} (h:∃ a0 a1 a2,p0 a0 a1 a2∧p1 a0 a1 a2∧p2 a0 a1 a2) (k:∀ a0 a1 a2,p0 a0 a1 a2→p1 a0 a1 a2→p2 a0 a1 a2→P):P:=h.elim fun a0 h0=>h0.elim fun a1 h1=>h1.elim fun a2 h2=>k a0 a1 a2 h2.1 h2.2.1 h2.2.2
theorem x3_4 {A0:Type} {A1:Type} {A2:Type} {p0 p1 p2 p3:A0→A1→A2→Prop} {P:Prop} (h:∃ a0 a1 a2,p0 a0 a1 a2∧p1 a0 a1 a2∧p2 a0 a1 a2∧p3 a0 a1 a2) (k:∀ a0 a1 a2,p0 a0 a1 a2→p1 a0 a1 a2→p2 a0 a1 a2→p3 a0 a1 a2→P):P:=h.elim fun a0 h0=>h0.elim fun a1 h1=>h1.elim fun a2 h2=>k a0 a1 a2 h2.1 h2.2.1 h2.2.2.1 h2.2.2.2
theorem x3_5 {A0:Type} {A1:Type} {A2:Type} {p0 p1 p2 p3 p4:A0→A1→A2→Prop} {P:Prop} (h:∃ a0 a1 a2,p0 a0 a1 a2∧p1 a0 a1 a2∧p2 a0 a1 a2∧p3 a0 a1 a2∧p4 a0 a1 a2) (k:∀ a0 a1 a2,p0 a0 a1 a2→p1 a0 a1 a2→p2 a0 a1 a2→p3 a0 a1 a2→p4 a0 a1 a2→P):P:=h.elim fun a0 h0=>h0.elim fun a1 h1=>h1.elim fun a2 h2=>k a0 a1 a2 h2.1 h2.2.1 h2.2.2.1 h2.2.2.2.1 h2.2.2.2.2
theorem x3_6 {A0:Type} {A1:Type} {A2:Type} {p0 p1 p2 p3 p4 p5:A0→A1→A2→Prop} {P:Prop} (h:∃ a0 a1 a2,p0 a0 a1 a2∧p1 a0 a1 a2∧p2 a0 a1 a2∧p3 a0 a1 a2∧p4 a0 a1 a2∧p5 a0 a1 a2) (k:∀ a0 a1 a2,p0 a0 a1 a2→p1 a0 a1 a2→p2 a0 a1 a2→p3 a0 a1 a2→p4 a0 a1 a2→p5 a0 a1 a2→P):P:=h.elim fun a0 h0=>h0.elim fun a1 h1=>h1.elim fun a2 h2=>k a0 a1 a2 h2.1 h2.2.1 h2.2.2.1 h2.2.2.2.1 h2.2.2.2.2.1 h2.2.2.2.2.2
theorem x4_1 {A0:Type} {A1:Type} {A2:Type} {A3:Type} {p0:A0→A1→A2→A3→Prop} {P:Prop} (h:∃ a0 a1 a2 a3,p0 a0 a1 a2 a3) (k:∀ a0 a1 a2 a3,p0 a0 a1 a2 a3→P):P:=h.elim fun a0 h0=>h0.elim fun a1 h1=>h1.elim fun a2 h2=>h2.elim fun a3 h3=>k a0 a1 a2 a3 h3
theorem x4_2 {A0:Type} {A1:Type} {A2:Type} {A3:Type} {p0 p1:A0→A1→A2→A3→Prop} {P:Prop} (h:∃ a0 a1 a2 a3,p0 a0 a1 a2 a3∧p1 a0 a1 a2 a3) (k:∀ a0 a1 a2 a3,p0 a0 a1 a2 a3→p1 a0 a1 a2 a3→P):P:=h.elim fun a0 h0=>h0.elim fun a1 h1=>h1.elim fun a2 h2=>h2.elim fun a3 h3=>k a0 a1 a2 a3 h3.1 h3.2
theorem x4_4 {A0:Type} {A1:Type} {A2:Type} {A3:Type} {p0 p1 p2 p3:A0→A1→A2→A3→Prop} {P:Prop} (h:∃ a0 a1 a2 a3,p0 a0 a1 a2 a3∧p1 a0 a1 a2 a3∧p2 a0 a1 a2 a3∧p3 a0 a1 a2 a3) (k:∀ a0 a1 a2 a3,p0 a0 a1 a2 a3→p1 a0 a1 a2 a3→p2 a0 a1 a2 a3→p3 a0 a1 a2 a3→P):P:=h.elim fun a0 h0=>h0.elim fun a1 h1=>h1.elim fun a2 h2=>h2.elim fun a3 h3=>k a0 a1 a2 a3 h3.1 h3.2.1 h3.2.2.1 h3.2.2.2
theorem x4_5 {A0:Type} {A1:Type} {A2:Type} {A3:Type} {p0 p1 p2 p3 p4:A0→A1→A2→A3→Prop} {P:Prop} (h:∃ a0 a1 a2 a3,p0 a0 a1 a2 a3∧p1 a0 a1 a2 a3∧p2 a0 a1 a2 a3∧p3 a0 a1 a2 a3∧p4 a0 a1 a2 a3) (k:∀ a0 a1 a2 a3,p0 a0 a1 a2 a3→p1 a0 a1 a2 a3→p2 a0 a1 a2 a3→p3 a0 a1 a2 a3→p4 a0 a1 a2 a3→P):P:=h.elim fun a0 h0=>h0.elim fun a1 h1=>h1.elim fun a2 h2=>h2.elim fun a3 h3=>k a0 a1 a2 a3 h3.1 h3.2.1 h3.2.2.1 h3.2.2.2.1 h3.2.2.2.2
theorem x4_6 {A0:Type} {A1:Type} {A2:Type} {A3:Type} {p0 p1 p2 p3 p4 p5:A0→A1→A2→A3→Prop} {P:Prop} (h:∃ a0 a1 a2 a3,p0 a0 a1 a2 a3∧p1 a0 a1 a2 a3∧p2 a0 a1 a2 a3∧p3 a0 a1 a2 a3∧p4 a0 a1 a2 a3∧p5 a0 a1 a2 a3) (k:∀ a0 a1 a2 a3,p0 a0 a1 a2 a3→p1 a0 a1 a2 a3→p2 a0 a1 a2 a3→p3 a0 a1 a2 a3→p4 a0 a1 a2 a3→p5 a0 a1 a2 a3→P):P:=h.elim fun a0 h0=>h0.elim fun a1 h1=>h1.elim fun a2 h2=>h2.elim fun a3 h3=>k a0 a1 a2 a3 h3.1 h3.2.1 h3.2.2.1 h3.2.2.2.1 h3.2.2.2.2.1 h3.2.2.2.2.2
theorem x5_3 {A0:Type} {A1:Type} {A2:Type} {A3:Type} {A4:Type} {p0 p1 p2:A0→A1→A2→A3→A4→Prop} {P:Prop} (h:∃ a0 a1 a2 a3 a4,p0 a0 a1 a2 a3 a4∧p1 a0 a1 a2 a3 a4∧p2 a0 a1 a2 a3 a4) (k:∀ a0 a1 a2 a3 a4,p0 a0 a1 a2 a3 a4→p1 a0 a1 a2 a3 a4→p2 a0 a1 a2 a3 a4→P):P:=h.elim fun a0 h0=>h0.elim fun a1 h1=>h1.elim fun a2 h2=>h2.elim fun a3 h3=>h3.elim fun a4 h4=>k a0 a1 a2 a3 a4 h4.1 h4.2.1 h4.2.2
theorem x5_4 {A0:Type} {A1:Type} {A2:Type} {A3:Type} {A4:Type} {p0 p1 p2 p3:A0→A1→A2→A3→A4→Prop} {P:Prop} (h:∃ a0 a1 a2 a3 a4,p0 a0 a1 a2 a3 a4∧p1 a0 a1 a2 a3 a4∧p2 a0 a1 a2 a3 a4∧p3 a0 a1 a2 a3 a4) (k:∀ a0 a1 a2 a3 a4,p0 a0 a1 a2 a3 a4→p1 a0 a1 a2 a3 a4→p2 a0 a1 a2 a3 a4→p3 a0 a1 a2 a3 a4→P):P:=h.elim fun a0 h0=>h0.elim fun a1 h1=>h1.elim fun a2 h2=>h2.elim fun a3 h3=>h3.elim fun a4 h4=>k a0 a1 a2 a3 a4 h4.1 h4.2.1 h4.2.2.1 h4.2.2.2
theorem x6_2 {A0:Type} {A1:Type} {A2:Type} {A3:Type} {A4:Type} {A5:Type} {p0 p1:A0→A1→A2→A3→A4→A5→Prop} {P:Prop} (h:∃ a0 a1 a2 a3 a4 a5,p0 a0 a1 a2 a3 a4 a5∧p1 a0 a1 a2 a3 a4 a5) (k:∀ a0 a1 a2 a3 a4 a5,p0 a0 a1 a2 a3 a4 a5→p1 a0 a1 a2 a3 a4 a5→P):P:=h.elim fun a0 h0=>h0.elim fun a1 h1=>h1.elim fun a2 h2=>h2.elim fun a3 h3=>h3.elim fun a4 h4=>h4.elim fun a5 h5=>k a0 a1 a2 a3 a4 a5 h5.1 h5.2
theorem x6_5 {A0:Type} {A1:Type} {A2:Type} {A3:Type} {A4:Type} {A5:Type} {p0 p1 p2 p3 p4:A0→A1→A2→A3→A4→A5→Prop} {P:Prop} (h:∃ a0 a1 a2 a3 a4 a5,p0 a0 a1 a2 a3 a4 a5∧p1 a0 a1 a2 a3 a4 a5∧p2 a0 a1 a2 a3 a4 a5∧p3 a0 a1 a2 a3 a4 a5∧p4 a0 a1 a2 a3 a4 a5) (k:∀ a0 a1 a2 a3 a4 a5,p0 a0 a1 a2 a3 a4 a5→p1 a0 a1 a2 a3 a4 a5→p2 a0 a1 a2 a3 a4 a5→p3 a0 a1 a2 a3 a4 a5→p4 a0 a1 a2 a3 a4 a5→P):P:=h.elim fun a0 h0=>h0.elim fun a1 h1=>h1.elim fun a2 h2=>h2.elim fun a3 h3=>h3.elim fun a4 h4=>h4.elim fun a5 h5=>k a0 a1 a2 a3 a4 a5 h5.1 h5.2.1 h5.2.2.1 h5.2.2.2.1 h5.2.2.2.2
theorem x8_1 {A0:Type} {A1:Type} {A2:Type} {A3:Type} {A4:Type} {A5:Type} {A6:Type} {A7:Type} {p0:A0→A1→A2→A3→A4→A5→A6→A7→Prop} {P:Prop} (h:∃ a0 a1 a2 a3 a4 a5 a6 a7,p0 a0 a1 a2 a3 a4 a5 a6 a7) (k:∀ a0 a1 a2 a3 a4 a5 a6 a7,p0 a0 a1 a2 a3 a4 a5 a6 a7→P):P:=h.elim fun a0 h0=>h0.elim fun a1 h1=>h1.elim fun a2 h2=>h2.elim fun a3 h3=>h3.elim fun a4 h4=>h4.elim fun a5 h5=>h5.elim fun a6 h6=>h6.elim fun a7 h7=>k a0 a1 a2 a3 a4 a5 a6 a7 h7
theorem x9_3 {A0:Type} {A1:Type} {A2:Type} {A3:Type} {A4:Type} {A5:Type} {A6:Type} {A7:Type} {A8:Type} {p0 p1 p2:A0→A1→A2→A3→A4→A5→A6→A7→A8→Prop} {P:Prop} (h:∃ a0 a1 a2 a3 a4 a5 a6 a7 a8,p0 a0 a1 a2 a3 a4 a5 a6 a7 a8∧p1 a0 a1 a2 a3 a4 a5 a6 a7 a8∧p2 a0 a1 a2 a3 a4 a5 a6 a7 a8) (k:∀ a0 a1 a2 a3 a4 a5 a6 a7 a8,p0 a0 a1 a2 a3 a4 a5 a6 a7 a8→p1 a0 a1 a2 a3 a4 a5 a6 a7 a8→p2 a0 a1 a2 a3 a4 a5 a6 a7 a8→P):P:=h.elim fun a0 h0=>h0.elim fun a1 h1=>h1.elim fun a2 h2=>h2.elim fun a3 h3=>h3.elim fun a4 h4=>h4.elim fun a5 h5=>h5.elim fun a6 h6=>h6.elim fun a7 h7=>h7.elim fun a8 h8=>k a0 a1 a2 a3 a4 a5 a6 a7 a8 h8.1 h8.2.1 h8.2.2
theorem x9_5 {A0:Type} {A1:Type} {A2:Type} {A3:Type} {A4:Type} {A5:Type} {A6:Type} {A7:Type} {A8:Type} {p0 p1 p2 p3 p4:A0→A1→A2→A3→A4→A5→A6→A7→A8→Prop} {P:Prop} (h:∃ a0 a1 a2 a3 a4 a5 a6 a7 a8,p0 a0 a1 a2 a3 a4 a5 a6 a7 a8∧p1 a0 a1 a2 a3 a4 a5 a6 a7 a8∧p2 a0 a1 a2 a3 a4 a5 a6 a7 a8∧p3 a0 a1 a2 a3 a4 a5 a6 a7 a8∧p4 a0 a1 a2 a3 a4 a5 a6 a7 a8) (k:∀ a0 a1 a2 a3 a4 a5 a6 a7 a8,p0 a0 a1 a2 a3 a4 a5 a6 a7 a8→p1 a0 a1 a2 a3 a4 a5 a6 a7 a8→p2 a0 a1 a2 a3 a4 a5 a6 a7 a8→p3 a0 a1 a2 a3 a4 a5 a6 a7 a8→p4 a0 a1 a2 a3 a4 a5 a6 a7 a8→P):P:=h.elim fun a0 h0=>h0.elim fun a1 h1=>h1.elim fun a2 h2=>h2.elim fun a3 h3=>h3.elim fun a4 h4=>h4.elim fun a5 h5=>h5.elim fun a6 h6=>h6.elim fun a7 h7=>h7.elim fun a8 h8=>k a0 a1 a2 a3 a4 a5 a6 a7 a8 h8.1 h8.2.1 h8.2.2.1 h8.2.2.2.1 h8.2.2.2.2
theorem x10_5 {A0:Type} {A1:Type} {A2:Type} {A3:Type} {A4:Type} {A5:Type} {A6:Type} {A7:Type} {A8:Type} {A9:Type} {p0 p1 p2 p3 p4:A0→A1→A2→A3→A4→A5→A6→A7→A8→A9→Prop} {P:Prop} (h:∃ a0 a1 a2 a3 a4 a5 a6 a7 a8 a9,p0 a0 a1 a2 a3 a4 a5 a6 a7 a8 a9∧p1 a0 a1 a2 a3 a4 a5 a6 a7 a8 a9∧p2 a0 a1 a2 a3 a4 a5 a6 a7 a8 a9∧p3 a0 a1 a2 a3 a4 a5 a6 a7 a8 a9∧p4 a0 a1 a2 a3 a4 a5 a6 a7 a8 a9) (k:∀ a0 a1 a2 a3 a4 a5 a6 a7 a8 a9,p0 a0 a1 a2 a3 a4 a5 a6 a7 a8 a9→p1 a0 a1 a2 a3 a4 a5 a6 a7 a8 a9→p2 a0 a1 a2 a3 a4 a5 a6 a7 a8 a9→p3 a0 a1 a2 a3 a4 a5 a6 a7 a8 a9→p4 a0 a1 a2 a3 a4 a5 a6 a7 a8 a9→P):P:=h.elim fun a0 h0=>h0.elim fun a1 h1=>h1.elim fun a2 h2=>h2.elim fun a3 h3=>h3.elim fun a4 h4=>h4.elim fun a5 h5=>h5.elim fun a6 h6=>h6.elim fun a7 h7=>h7.elim fun a8 h8=>h8.elim fun a9 h9=>k a0 a1 a2 a3 a4 a5 a6 a7 a8 a9 h9.1 h9.2.1 h9.2.2.1 h9.2.2.2.1 h9.2.2.2.2
theorem xP1_2 {A B:Type} {p0 p1:A × B→Prop} {P:Prop} (h:∃ x,p0 x∧p1 x) (k:∀ a b,p0 (a,b)→p1 (a,b)→P):P:=h.elim fun x h0=>k x.1 x.2 h0.1 h0.2
theorem q1 {A:Type} {a x:A} {P:A→Prop} (e:x=a) (h:P a):P x:=e▸h
theorem q2 {A:Type} {a x:A} {P:A→Prop} (e:a=x) (h:P a):P x:=e▸h
theorem s1 {A:Type} {a x:A} {P:A→Prop} (e:some a=some x) (h:P a):P x:=Option.some.inj e▸h
theorem p2 {A B:Type} {a x:A} {b y:B} {P:A→B→Prop} (e:(a,b)=(x,y)) (h:P a b):P x y:=by cases e; exact h
theorem s2 {A B:Type} {a x:A} {b y:B} {P:A→B→Prop} (e:some (a,b)=some (x,y)) (h:P a b):P x y:=p2 (Option.some.inj e) h
theorem p3 {A B C:Type} {a x:A} {b y:B} {c z:C} {P:A→B→C→Prop} (e:(a,b,c)=(x,y,z)) (h:P a b c):P x y z:=by cases e; exact h
theorem s3 {A B C:Type} {a x:A} {b y:B} {c z:C} {P:A→B→C→Prop} (e:some (a,b,c)=some (x,y,z)) (h:P a b c):P x y z:=p3 (Option.some.inj e) h
theorem noS {A:Type} {x:A} {P:Prop} (h:none=some x):P:=nomatch h
theorem noT {P:Prop} (h:false=true):P:=nomatch h
theorem len1 {A:Type} {xs:List A} (h:xs.length=1):∃ a,xs=[a]:=List.length_eq_one_iff.mp h
theorem len2 {A:Type} {xs:List A} (h:xs.length=2):∃ a b,xs=[a,b]:=by
 cases xs with
 | nil=>cases h
 | cons a xs=>exact (len1 (Nat.succ.inj h)).elim fun b e=>⟨a,b,by rw [e]⟩
end Mine
namespace Mine
open PySem
inductive Bi where
 | len | sum | sorted | min | max | chr | iter
inductive Ty where
 | range | bytes | str | int | enumerate | type | bool | bytearray
inductive Me where
 | append | pop | extend | index | join | count | replace | get_token | push_token | read_char
inductive At where
 | lineno | pushback | whitespace | read_char
noncomputable def Bi.id:Bi→String
 | .len=>"len" | .sum=>"sum" | .sorted=>"sorted" | .min=>"min" | .max=>"max" | .chr=>"chr" | .iter=>"iter"
noncomputable def Ty.nm:Ty→String
 | .range=>"range" | .bytes=>"bytes" | .str=>"str" | .int=>"int" | .enumerate=>"enumerate" | .type=>"type" | .bool=>"bool" | .bytearray=>"bytearray"
noncomputable def Me.nm:Me→Str
 | .append=>Str.ofString "append" | .pop=>Str.ofString "pop" | .extend=>Str.ofString "extend" | .index=>Str.ofString "index" | .join=>Str.ofString "join" | .count=>Str.ofString "count"
 | .replace=>Str.ofString "replace" | .get_token=>Str.ofString "get_token" | .push_token=>Str.ofString "push_token" | .read_char=>Str.ofString "_read_char"
noncomputable def Me.lex:Me→Bool
 | .get_token=>true
 | .push_token=>true
 | .read_char=>true
 | _=>false
noncomputable def At.nm:At→Str
 | .lineno=>Str.ofString "lineno" | .pushback=>Str.ofString "pushback" | .whitespace=>Str.ofString "whitespace" | .read_char=>Str.ofString "_read_char"
inductive V where
 | none
 | bool (b:Bool)
 | int (i:Int)
 | str (s:List Nat)
 | bytes (s:List Nat)
 | ref (i:Nat)
 | tup (vs:List V)
 | lst (vs:List V)
 | rng (a b c:Int)
 | fn (f:Nat)
 | bi (b:Bi)
 | ty (t:Ty)
 deriving Inhabited
inductive O where
 | list (xs:List V)
 | lex (text:List Nat) (at_:Nat) (line:Int) (pb:Nat)
 | cit (l:Nat) (fin:Bool)
 | scr (k:Nat) (xs:List Int)
 deriving Inhabited
noncomputable abbrev Sto:=List O
noncomputable abbrev Loc:=List (Option V)
inductive Tg where
 | name (i:Nat) (p:Pos)
 | tup (is:List (Nat × Pos)) (p:Pos)
structure CS where
 sc:Scope
 own:List (Nat × Bool)
 fr:List Nat
 gl:List Nat
set_option genCtorIdx false
mutual
inductive E where
 | cnone (p:Pos)
 | cbool (b:Bool) (p:Pos)
 | cint (i:Int) (p:Pos)
 | cstr (s:List Nat) (p:Pos)
 | var (i:Nat) (p:Pos)
 | glob (g:Nat) (p:Pos)
 | bin (op:Operator) (a b:E) (p:Pos)
 | neg (a:E) (p:Pos)
 | cmp (op:CmpOp) (a b:E) (p:Pos)
 | cmp2 (op op':CmpOp) (a b c:E) (p:Pos)
 | boolop (op:BoolOp) (es:EL) (p:Pos)
 | ife (t a b:E) (p:Pos)
 | list (cell:Bool) (es:EL) (p:Pos)
 | tup (es:EL) (p:Pos)
 | sub (a i:E) (p:Pos)
 | slice (a:E) (lo hi st:OE) (q p:Pos)
 | call (g:Nat) (q:Pos) (es:EL) (p:Pos)
 | callkw (g:Nat) (q0:Pos) (es:EL) (k:Str) (e:E) (q p:Pos)
 | meth (o:E) (m:Me) (es:EL) (q p:Pos)
 | attr (o:E) (a:At) (p:Pos)
 | comp (cell:Bool) (e:E) (t:Tg) (it:E) (ifs:EL) (r:CL) (cs:CS) (p:Pos)
 | fit (g:Nat) (o:E) (q1 q2 q3 p:Pos)
 | readc (o:E) (q1 q2 q3 p:Pos)
 | raw (e:Expr)
inductive EL where
 | nil
 | cons (e:E) (es:EL)
inductive OE where
 | none
 | some (e:E)
inductive CL where
 | nil
 | cons (t:Tg) (it:E) (ifs:EL) (r:CL)
end
set_option genCtorIdx true
noncomputable def EL.isNil:EL→Bool
 | .nil=>true
 | .cons ..=>false
set_option genCtorIdx false
mutual
inductive S where
 | assign (t:Tg) (e:E) (p:Pos)
 | assignSub (a i:E) (q:Pos) (e:E) (p:Pos)
 | aug (i:Nat) (q:Pos) (op:Operator) (e:E) (p:Pos)
 | augSub (a i:E) (q:Pos) (op:Operator) (e:E) (p:Pos)
 | expr (e:E) (p:Pos)
 | ret (e:E) (p:Pos)
 | cond (t:E) (a b:SL) (p:Pos)
 | whil (fuel:Nat) (clr:List Nat) (t:E) (a:SL) (p:Pos)
 | loop (clr:List Nat) (t:Tg) (it:E) (a b:SL) (p:Pos)
 | enum (clr:List Nat) (is:List (Nat × Pos)) (tp:Pos) (g:Nat) (gp:Pos) (it:E) (a b:SL) (q p:Pos)
 | inc (o:E) (q1 q2 p:Pos)
 | fitr (fuel:Nat) (i:Nat) (tp:Pos) (it:E) (a b:SL) (p:Pos)
 | brk (p:Pos)
 | cont (p:Pos)
 | raw (s:Stmt)
inductive SL where
 | nil
 | cons (s:S) (r:SL)
end
set_option genCtorIdx true
noncomputable def nmOf (tb:List Str) (i:Nat):Str:=tb.getD i Str.empty
noncomputable def toTg (tb:List Str):Tg→Expr
 | .name i p=>.Name (nmOf tb i) p
 | .tup is p=>.Tuple (is.map fun x=>.Name (nmOf tb x.1) x.2) 0 p
section
variable (gt tb:List Str)
mutual
noncomputable def toE:E→Expr
 | .cnone p=>.Constant .none 0 p
 | .cbool b p=>.Constant (.bool b) 0 p
 | .cint i p=>.Constant (.int i) 0 p
 | .cstr s p=>.Constant (.str ⟨s.toArray⟩) 0 p
 | .var i p=>.Name (nmOf tb i) p
 | .glob g p=>.Name (nmOf gt g) p
 | .bin op a b p=>.BinOp (toE a) op (toE b) p
 | .neg a p=>.UnaryOp .USub (toE a) p
 | .cmp op a b p=>.Compare (toE a) [op] [toE b] p
 | .cmp2 op op' a b c p=>.Compare (toE a) [op,op'] [toE b,toE c] p
 | .boolop op es p=>.BoolOp op (toEL es) p
 | .ife t a b p=>.IfExp (toE t) (toE a) (toE b) p
 | .list _ es p=>.List (toEL es) p
 | .tup es p=>.Tuple (toEL es) 0 p
 | .sub a i p=>.Subscript (toE a) (toE i) p
 | .slice a lo hi st q p=>.Subscript (toE a) (.Slice (toOE lo) (toOE hi) (toOE st) q) p
 | .call g q es p=>.Call (.Name (nmOf gt g) q) (toEL es) [] p
 | .callkw g q0 es k e q p=>.Call (.Name (nmOf gt g) q0) (toEL es) [⟨some k,toE e,q⟩] p
 | .meth o m es q p=>.Call (.Attribute (toE o) m.nm q) (toEL es) [] p
 | .attr o a p=>.Attribute (toE o) a.nm p
 | .comp _ e t it ifs r cs p=>.ListComp (toE e) (⟨toTg tb t,toE it,toEL ifs,0⟩ :: toCL r) cs.sc p
 | .fit g o q1 q2 q3 p=>.Call (.Name (nmOf gt g) q1) [.Attribute (toE o) At.read_char.nm q2,.Constant (.str ⟨#[]⟩) 0 q3] [] p
 | .readc o q1 q2 q3 p=>.Call (.Attribute (.Attribute (toE o) (Str.ofString "instream") q1) (Str.ofString "read") q2) [.Constant (.int 1) 0 q3] [] p
 | .raw e=>e
noncomputable def toEL:EL→List Expr
 | .nil=>[]
 | .cons e es=>toE e :: toEL es
noncomputable def toOE:OE→Option Expr
 | .none=>none
 | .some e=>some (toE e)
noncomputable def toCL:CL→List Comprehension
 | .nil=>[]
 | .cons t it ifs r=>⟨toTg tb t,toE it,toEL ifs,0⟩ :: toCL r
end
mutual
noncomputable def toS:S→Stmt
 | .assign t e p=>.Assign [toTg tb t] (toE gt tb e) p
 | .assignSub a i q e p=>.Assign [.Subscript (toE gt tb a) (toE gt tb i) q] (toE gt tb e) p
 | .aug i q op e p=>.AugAssign (.Name (nmOf tb i) q) op (toE gt tb e) p
 | .augSub a i q op e p=>.AugAssign (.Subscript (toE gt tb a) (toE gt tb i) q) op (toE gt tb e) p
 | .expr e p=>.Expr (toE gt tb e) p
 | .ret e p=>.Return (some (toE gt tb e)) p
 | .cond t a b p=>.If (toE gt tb t) (toSL a) (toSL b) p
 | .whil _ _ t a p=>.While (toE gt tb t) (toSL a) [] p
 | .loop _ t it a b p=>.For (toTg tb t) (toE gt tb it) (toSL a) (toSL b) p
 | .enum _ is tp g gp it a b q p=>.For (toTg tb (.tup is tp)) (.Call (.Name (nmOf gt g) gp) [toE gt tb it] [] q) (toSL a) (toSL b) p
 | .inc o q1 q2 p=>.AugAssign (.Attribute (toE gt tb o) At.lineno.nm q1) .Add (.Constant (.int 1) 0 q2) p
 | .fitr _ i tp it a b p=>.For (toTg tb (.name i tp)) (toE gt tb it) (toSL a) (toSL b) p
 | .brk p=>.Break p
 | .cont p=>.Continue p
 | .raw s=>s
noncomputable def toSL:SL→List Stmt
 | .nil=>[]
 | .cons s r=>toS s :: toSL r
end
end
noncomputable def maxLen:Nat:=1048576
noncomputable def small (x:Int):Bool:=decide (x.natAbs < 18446744073709551616)
noncomputable def vlist (σ:Sto) (i:Nat):Option (List V):=match σ[i]? with
 | some (.list xs)=>some xs
 | _=>none
noncomputable def scrOf (σ:Sto) (k:Nat):Option (List V):=match (σ[(0:Nat)]?:Option O) with
 | some (.scr k' xs)=>if k'=k then some (xs.map .int) else none
 | _=>none
noncomputable def newList (xs:List V) (σ:Sto):Option (V × Sto):=if xs.length≤maxLen then some (.lst xs,σ) else none
noncomputable def newL (cell:Bool) (xs:List V) (σ:Sto):V × Sto:=if cell then (.ref σ.length,σ++[.list xs]) else (.lst xs,σ)
noncomputable def mkStr (l:List Nat) (σ:Sto):Option (V × Sto):=if l.length≤maxLen then some (.str l,σ) else none
noncomputable def orO {α:Type} (a b:Option α):Option α:=match a with
 | some x=>some x
 | none=>b
noncomputable def intV:V→Option Int
 | .int x=>some x
 | _=>none
noncomputable def strV:V→Option (List Nat)
 | .str x=>some x
 | _=>none
noncomputable def refV:V→Option Nat
 | .ref r=>some r
 | _=>none
noncomputable def tupV:V→Option (List V)
 | .tup r=>some r
 | _=>none
noncomputable def lsV (σ:Sto):V→Option (List V)
 | .ref r=>vlist σ r
 | .lst xs=>some xs
 | _=>none
noncomputable def bytesV:V→Option (List Nat)
 | .bytes r=>some r
 | _=>none
noncomputable def boolV:V→Option Bool
 | .bool r=>some r
 | _=>none
noncomputable def fnV:V→Option Nat
 | .fn r=>some r
 | _=>none
noncomputable def tyV:V→Option Ty
 | .ty r=>some r
 | _=>none
noncomputable def isNone:V→Bool
 | .none=>true
 | _=>false
noncomputable def bII (op:Operator) (x y:Int) (σ:Sto):Option (V × Sto):=match op with
 | .Add=>some (.int (x+y),σ)
 | .Sub=>some (.int (x - y),σ)
 | .Mult=>if small y then some (.int (x*y),σ) else none
 | .FloorDiv=>if y=0||!small y then none else some (.int (x.fdiv y),σ)
 | .Mod=>if y=0 then none else some (.int (x.fmod y),σ)
 | .Pow=>if small x&&decide (0≤y)&&decide (y≤1000) then some (.int (x ^ y.toNat),σ) else none
 | .LShift=>if small x&&decide (0≤y)&&decide (y≤1000) then some (.int (x*2 ^ y.toNat),σ) else none
 | .RShift=>if 0≤y then some (.int (x.fdiv (2 ^ y.toNat)),σ) else none
 | .BitAnd=>some (.int (Builtin.bitAnd x y),σ)
 | .BitOr=>some (.int (Builtin.bitOr x y),σ)
 | .BitXor=>some (.int (Builtin.bitXor x y),σ)
 | _=>none
noncomputable def isAdd:Operator→Bool
 | .Add=>true
 | _=>false
noncomputable def isMult:Operator→Bool
 | .Mult=>true
 | _=>false
noncomputable def bSI (x:List Nat) (y:Int) (σ:Sto):Option (V × Sto):=if 0≤y∧y≤1000∧x.length≤1000 then some (.str (List.replicate y.toNat x).flatten,σ) else none
noncomputable def bLL (xs ys:List V) (σ:Sto):Option (V × Sto):=newList (xs++ys) σ
noncomputable def bLI (xs:List V) (y:Int) (σ:Sto):Option (V × Sto):=if 0≤y∧y≤1000∧xs.length≤1000∧xs≠[] then newList (List.replicate y.toNat xs).flatten σ else none
noncomputable def binop (op:Operator) (a b:V) (σ:Sto):Option (V × Sto) :=
 orO ((intV a).bind fun x=>(intV b).bind fun y=>bII op x y σ) <|
 orO (if isAdd op then (strV a).bind fun x=>(strV b).bind fun y=>mkStr (x++y) σ else none) <|
 orO (if isMult op then (strV a).bind fun x=>(intV b).bind fun y=>bSI x y σ else none) <|
 orO (if isAdd op then (lsV σ a).bind fun xs=>(lsV σ b).bind fun ys=>bLL xs ys σ else none)
  (if isMult op then (lsV σ a).bind fun xs=>(intV b).bind fun y=>bLI xs y σ else none)
noncomputable def augop (op:Operator) (a b:V) (σ:Sto):Option (V × Sto):=if isAdd op then
 orO ((intV a).bind fun x=>(intV b).map fun y=>(.int (x+y),σ)) ((strV a).bind fun x=>(strV b).bind fun y=>mkStr (x++y) σ) else none
noncomputable def eqS (a b:V):Option Bool :=
 orO ((intV a).bind fun x=>orO ((intV b).map fun y=>x==y) (if isNone b then some false else none)) <|
 orO ((strV a).bind fun x=>(strV b).map fun y=>x==y) <|
 orO (if isNone a then (if isNone b then some true else (intV b).map fun ζ=>false) else none)
  ((boolV a).bind fun x=>(boolV b).map fun y=>x==y)
noncomputable def eqL:List V→List V→Option Bool
 | [],ys=>if ys.isEmpty then some true else none
 | x :: xs,ys=>match ys with
  | []=>none
  | y :: ys=>(eqS x y).bind fun a=>(eqL xs ys).map fun b=>a&&b
noncomputable def inL (v:V):List V→Option Bool
 | []=>some false
 | x :: xs=>(eqS x v).bind fun a=>(inL v xs).map fun b=>a||b
noncomputable def subAt (p:List Nat):List Nat→Nat→Option Nat
 | [],k=>if p=[] then some k else none
 | c :: cs,k=>if p.isPrefixOf (c :: cs) then some k else subAt p cs (k+1)
noncomputable def eqR (xs ys:List V):Option Bool:=if xs.length=ys.length then eqL xs ys else some false
noncomputable def eqV (σ:Sto) (a b:V):Option Bool :=
 orO ((lsV σ a).bind fun xs=>(lsV σ b).bind fun ys=>eqR xs ys) <|
 orO ((tupV a).bind fun xs=>(tupV b).bind fun ys=>if xs.length=ys.length then eqL xs ys else none) (eqS a b)
noncomputable def inV (σ:Sto) (a b:V):Option Bool :=
 orO ((strV b).bind fun x=>(strV a).map fun p=>(subAt p x 0).isSome) <|
 orO ((tupV b).bind fun xs=>inL a xs) ((lsV σ b).bind fun xs=>inL a xs)
noncomputable def isV (a b:V):Option Bool :=
 orO (if isNone b then (if isNone a then some true else orO ((intV a).map fun ζ=>false) <| orO ((bytesV a).map fun ζ=>false) ((boolV a).map fun ζ=>false)) else none)
  ((tyV b).bind fun t=>(tyV a).map fun s=>s.nm==t.nm)
noncomputable def iiV (op:CmpOp) (x y:Int):Option Bool:=match op with
 | .Lt=>some (decide (x < y))
 | .LtE=>some (decide (x≤y))
 | .Gt=>some (decide (x > y))
 | .GtE=>some (decide (x ≥ y))
 | _=>none
noncomputable def cmpop (op:CmpOp) (a b:V) (σ:Sto):Option Bool:=match op with
 | .Eq=>eqV σ a b
 | .NotEq=>(eqV σ a b).map (!·)
 | .In=>inV σ a b
 | .NotIn=>(inV σ a b).map (!·)
 | .Is=>isV a b
 | .IsNot=>if isNone a&&isNone b then some false else none
 | op=>(intV a).bind fun x=>(intV b).bind fun y=>iiV op x y
noncomputable def truth (σ:Sto):V→Option Bool
 | .bool b=>some b
 | .int i=>some (i != 0)
 | .str s=>some (!s.isEmpty)
 | .none=>some false
 | .ref i=>(vlist σ i).map fun xs=>!xs.isEmpty
 | .lst xs=>some !xs.isEmpty
 | _=>none
noncomputable def idx (n:Nat) (k:Int):Option Nat :=
 if 0≤k then (if k < (n:Int) then some k.toNat else none) else if -(n:Int)≤k then some (k+(n:Int)).toNat else none
noncomputable def pick (xs:List V) (k:Int):Option V:=(idx xs.length k).bind fun j=>xs[j]?
noncomputable def subI (a:V) (k:Int) (σ:Sto):Option V :=
 orO ((lsV σ a).bind fun xs=>pick xs k) <|
 orO ((tupV a).bind fun xs=>pick xs k) <|
 orO ((strV a).bind fun s=>(idx s.length k).bind fun j=>(s[j]?).map fun c=>.str [c]) <|
 orO ((bytesV a).bind fun s=>(idx s.length k).bind fun j=>(s[j]?).map fun c=>.int (c:Nat))
  ((fnV a).bind fun r=>(scrOf σ r).bind fun xs=>pick xs k)
noncomputable def subV (a i:V) (σ:Sto):Option V:=(intV i).bind fun k=>subI a k σ
noncomputable def setV (a i v:V) (σ:Sto):Option Sto:=(refV a).bind fun r=>(intV i).bind fun k=>(vlist σ r).bind fun xs=>if 0≤k∧k < (xs.length:Int) then some (σ.set r (.list (xs.set k.toNat v))) else none
noncomputable def clip (n:Nat) (d:Nat):V→Option Nat
 | .none=>some d
 | .int k=>some (if 0≤k then min k.toNat n else (k+(n:Int)).toNat)
 | _=>none
noncomputable def everyOther {α:Type}:List α→List α
 | []=>[]
 | [x]=>[x]
 | x :: _ :: r=>x :: everyOther r
noncomputable def cut {α:Type} (xs:List α) (lo hi:Nat):List α:=(xs.take hi).drop lo
noncomputable def sliceL (xs:List V) (lo hi st:V) (σ:Sto):Option (V × Sto):=(clip xs.length 0 lo).bind fun l=>(clip xs.length xs.length hi).bind fun h =>
 if isNone st then newList (cut xs l h) σ else (intV st).bind fun k=>if k=2 then newList (everyOther (cut xs l h)) σ else none
noncomputable def sliceV (a lo hi st:V) (σ:Sto):Option (V × Sto) :=
 orO ((strV a).bind fun s=>if isNone st then (clip s.length 0 lo).bind fun l=>(clip s.length s.length hi).map fun h=>(.str (cut s l h),σ) else none)
  ((lsV σ a).bind fun xs=>sliceL xs lo hi st σ)
noncomputable def sumL:List V→Int→Option Int
 | [],a=>some a
 | v :: r,a=>(intV v).bind fun x=>sumL r (a+x)
noncomputable def maxL:List V→Int→Option Int
 | [],a=>some a
 | v :: r,a=>(intV v).bind fun x=>maxL r (if x > a then x else a)
noncomputable def insS (x:Int):List Int→List Int
 | []=>[x]
 | y :: r=>if x < y then x :: y :: r else y :: insS x r
noncomputable def sortS:List Int→List Int
 | []=>[]
 | x :: r=>insS x (sortS r)
noncomputable def intsOf:List V→Option (List Int)
 | []=>some []
 | v :: r=>(intV v).bind fun x=>(intsOf r).map (x :: ·)
noncomputable def strsOf:List V→Option (List (List Nat))
 | []=>some []
 | v :: r=>(strV v).bind fun x=>(strsOf r).map (x :: ·)
noncomputable def bytesOf:List V→Option (List Nat)
 | []=>some []
 | v :: r=>(intV v).bind fun x=>if 0≤x∧x < 256 then (bytesOf r).map (x.toNat :: ·) else none
noncomputable def joinL (sep:List Nat):List (List Nat)→List Nat
 | []=>[]
 | [x]=>x
 | x :: y :: r=>x++sep++joinL sep (y :: r)
noncomputable def firstL (v:V):List V→Nat→Option Nat
 | [],_=>none
 | x :: xs,k=>if eqS x v=some true then some k else firstL v xs (k+1)
noncomputable def indexL (v:V) (xs:List V):Option Nat:=(inL v xs).bind fun b=>if b then firstL v xs 0 else none
noncomputable def rangeL (a b c:Int):List Int:=(List.range (Builtin.Range.rangeSize a b c).toNat).map fun i:Nat=>a+(i:Int)*c
noncomputable def smallR (x:Int):Bool:=decide (x.natAbs≤1048576)
inductive It where
 | items (vs:List V)
 | live (i:Nat)
noncomputable def iterOf (σ:Sto):V→Option (It × Nat)
 | .ref i=>(vlist σ i).map fun xs=>(.live i,xs.length)
 | .lst xs=>some (.items xs,xs.length)
 | .tup xs=>some (.items xs,xs.length)
 | .str s=>some (.items (s.map fun c=>.str [c]),s.length)
 | .bytes s=>some (.items (s.map fun c=>.int (c:Nat)),s.length)
 | .rng a b c=>if smallR a&&smallR b&&smallR c&&c != 0 then some (.items ((rangeL a b c).map .int),(rangeL a b c).length) else none
 | _=>none
noncomputable def nextAt (it:It) (k:Nat) (σ:Sto):Option (Option V):=match it with
 | .items vs=>some vs[k]?
 | .live i=>(vlist σ i).map fun xs=>xs[k]?
noncomputable def itemsOf (σ:Sto) (v:V):Option (List V):=orO (lsV σ v) (tupV v)
noncomputable def lenV (v:V) (σ:Sto):Option V :=
 orO ((strV v).map fun s=>.int (s.length:Nat)) <|
 orO ((lsV σ v).map fun xs=>.int (xs.length:Nat))
  ((fnV v).bind fun i=>(scrOf σ i).map fun xs=>.int (xs.length:Nat))
noncomputable def itsV (v:V) (σ:Sto):Option (List V):=orO (lsV σ v) ((fnV v).bind fun i=>scrOf σ i)
noncomputable def arg1 {α:Type} (as:List V) (f:V→Option α):Option α:=match as with
 | []=>none
 | v :: r=>if r.isEmpty then f v else none
noncomputable def arg2 {α:Type} (as:List V) (f:V→V→Option α):Option α:=match as with
 | []=>none
 | v :: r=>arg1 r fun w=>f v w
noncomputable def maxV (xs:List V):Option Int:=match xs with
 | []=>none
 | v :: r=>(intV v).bind fun x=>maxL r x
noncomputable def sortV (xs:List V) (σ:Sto):Option (V × Sto):=(intsOf xs).bind fun ns=>if ns.length < 64 then newList ((sortS ns).map .int) σ else none
noncomputable def callB (b:Bi) (as:List V) (σ:Sto):Option (V × Sto):=match b with
 | .len=>arg1 as fun v=>(lenV v σ).map fun r=>(r,σ)
 | .sum=>arg1 as fun v=>(itsV v σ).bind fun xs=>(sumL xs 0).map fun n=>(.int n,σ)
 | .max=>arg1 as fun v=>(lsV σ v).bind fun xs=>(maxV xs).map fun n=>(.int n,σ)
 | .min=>arg2 as fun v w=>(intV v).bind fun x=>(intV w).map fun y=>(.int (if y < x then y else x),σ)
 | .sorted=>arg1 as fun v=>(lsV σ v).bind fun xs=>sortV xs σ
 | .chr=>arg1 as fun v=>(intV v).bind fun x=>if 0≤x∧x < 256 then some (.str [x.toNat],σ) else none
 | .iter=>none
noncomputable def rng1 (b:Int):Option V:=if smallR b then some (.rng 0 b 1) else none
noncomputable def rng2 (a b:Int):Option V:=if smallR a&&smallR b then some (.rng a b 1) else none
noncomputable def rng3 (a b c:Int):Option V:=if smallR a&&smallR b&&smallR c&&c != 0 then some (.rng a b c) else none
noncomputable def rngV (as:List V):Option V:=(intsOf as).bind fun ns=>match ns with
 | []=>none
 | x :: r=>match r with
  | []=>rng1 x
  | y :: r=>match r with
   | []=>rng2 x y
   | z :: r=>if r.isEmpty then rng3 x y z else none
noncomputable def tyOf (v:V):Option V:=orO ((bytesV v).map fun ζ=>.ty .bytes) ((boolV v).map fun ζ=>.ty .bool)
noncomputable def digit (x:Int):Option V:=if 0≤x∧x < 10 then some (.str [48+x.toNat]) else none
noncomputable def ofDigit (s:List Nat):Option V:=match s with
 | []=>none
 | c :: r=>if r.isEmpty∧48≤c∧c < 58 then some (.int ((c:Int) - 48)) else none
noncomputable def callT (t:Ty) (as:List V) (σ:Sto):Option (V × Sto):=match t with
 | .range=>(rngV as).map fun v=>(v,σ)
 | .bytes=>arg1 as fun v=>(lsV σ v).bind fun xs=>(bytesOf xs).map fun l=>(.bytes l,σ)
 | .type=>arg1 as fun v=>(tyOf v).map fun t=>(t,σ)
 | .str=>arg1 as fun v=>(intV v).bind fun x=>(digit x).map fun r=>(r,σ)
 | .int=>arg1 as fun v=>(strV v).bind fun x=>(ofDigit x).map fun r=>(r,σ)
 | _=>none
noncomputable def wsp (c:Nat):Bool:=c==10||c==9||c==13||c==32
noncomputable def recv (σ:Sto):V→Option Nat
 | .str _=>some 0
 | .ref i=>match σ[i]? with
  | some (.list _)=>some 1
  | some (.lex ..)=>some 2
  | _=>none
 | .lst _=>some 1
 | _=>none
noncomputable def hdL (xs:List V):Option (V × List V):=match xs with
 | []=>none
 | v :: r=>some (v,r)
noncomputable def methV (o:V) (m:Me) (as:List V) (σ:Sto):Option (V × Sto):=match m with
 | .append=>(refV o).bind fun i=>arg1 as fun v=>(vlist σ i).bind fun xs=>if xs.length < maxLen then some (.none,σ.set i (.list (xs++[v]))) else none
 | .extend=>(refV o).bind fun i=>arg1 as fun v=>(lsV σ v).bind fun ys=>(vlist σ i).bind fun xs=>if refV v≠some i∧xs.length+ys.length≤maxLen then some (.none,σ.set i (.list (xs++ys))) else none
 | .index=>orO ((strV o).bind fun x=>arg1 as fun v=>(strV v).bind fun p=>(subAt p x 0).map fun k=>(.int (k:Nat),σ))
  ((lsV σ o).bind fun xs=>arg1 as fun v=>(indexL v xs).map fun k=>(.int (k:Nat),σ))
 | .join=>(strV o).bind fun sep=>arg1 as fun v=>(lsV σ v).bind fun xs=>(strsOf xs).bind fun ss=>if (joinL sep ss).length≤maxLen then some (.str (joinL sep ss),σ) else none
 | .count=>(strV o).bind fun x=>arg1 as fun v=>(strV v).bind fun p=>if p.length=1 then some (.int (x.count (p.headD 0):Nat),σ) else none
 | .pop=>(refV o).bind fun i=>arg1 as fun v=>(intV v).bind fun k=>if k=0 then (vlist σ i).bind fun xs=>(hdL xs).map fun p=>(p.1,σ.set i (.list p.2)) else none
 | _=>none
mutual
noncomputable def V.low (n:Nat):V→Bool
 | .ref i=>decide (i < n)
 | .tup vs=>lowL n vs
 | .lst vs=>lowL n vs
 | _=>true
noncomputable def lowL (n:Nat):List V→Bool
 | []=>true
 | v :: vs=>v.low n&&lowL n vs
end
noncomputable def O.low (n:Nat):O→Bool
 | .list xs=>lowL n xs
 | .lex _ a _ pb=>decide (a < n)&&decide (pb < n)
 | .cit l _=>decide (l < n)
 | .scr ..=>true
noncomputable def stoLow (n:Nat) (σ:Sto):Bool:=σ.all (O.low n)
noncomputable def clear (clr:List Nat) (loc:Loc):Loc:=clr.foldl (fun l i=>l.set i none) loc
noncomputable def bindT (t:Tg) (v:V) (loc:Loc) (σ:Sto):Option Loc:=match t with
 | .name i _=>if i < loc.length then some (loc.set i (some v)) else none
 | .tup is _=>(itemsOf σ v).bind fun vs=>if vs.length=is.length then some ((is.zip vs).foldl (fun l x=>l.set x.1.1 (some x.2)) loc) else none
inductive Fl where
 | next | brk | cont
 | ret (v:V)
noncomputable def iterate {α:Type} (step:V→α→Sto→Option (Bool × α × Sto)) (it:It):Nat→Nat→α→Sto→Option (Bool × α × Sto)
 | 0,k,a,σ=>(nextAt it k σ).bind fun o=>if o.isNone then some (true,a,σ) else none
 | n+1,k,a,σ=>(nextAt it k σ).bind fun o=>match o with
  | none=>some (true,a,σ)
  | some v=>(step v a σ).bind fun y=>if y.1 then iterate step it n (k+1) y.2.1 y.2.2 else some y
noncomputable abbrev Calls:=Nat→List V→Sto→Option (V × Sto)
noncomputable abbrev Lexer:=Me→List V→Sto→Option (V × Sto)
section
variable (Φ:Calls) (Λ:Lexer) (G:Nat→Option V)
noncomputable def callV (f:V) (as:List V) (σ:Sto):Option (V × Sto):=match f with
 | .fn k=>Φ k as σ
 | .bi b=>callB b as σ
 | .ty t=>callT t as σ
 | _=>none
noncomputable def lexO:O→Option (List Nat × Nat × Int × Nat)
 | .lex text a line pb=>some (text,a,line,pb)
 | _=>none
noncomputable def lexI (σ:Sto) (i:Nat):Option (List Nat × Nat × Int × Nat):=(σ[i]?).bind lexO
noncomputable def attL (a:At) (L:List Nat × Nat × Int × Nat):Option V:=match a with
 | .lineno=>some (.int L.2.2.1)
 | .pushback=>some (.ref L.2.2.2)
 | .whitespace=>some (.str [10,9,13,32])
 | .read_char=>none
noncomputable def attrV (a:At) (σ:Sto) (v:V):Option V:=(refV v).bind fun i=>(lexI σ i).bind (attL a)
noncomputable def pieceAt (text:List Nat) (k:Int):List Nat:=cut text (min k.toNat text.length) (min (k.toNat+1) text.length)
noncomputable def readC (i:Nat) (σ:Sto):Option (V × Sto):=(lexI σ i).bind fun L=>(vlist σ L.2.1).bind fun xs=>arg1 xs fun v=>(intV v).bind fun k =>
 if 0≤k then some (.str (pieceAt L.1 k),σ.set L.2.1 (.list [.int (k+(pieceAt L.1 k).length)])) else none
noncomputable def fitC (i:Nat) (σ:Sto):Option (V × Sto):=(lexI σ i).map fun ζ=>(.ref σ.length,σ++[.cit i false])
noncomputable def incC (i:Nat) (σ:Sto):Option Sto:=(lexI σ i).map fun L=>σ.set i (.lex L.1 L.2.1 (L.2.2.1+1) L.2.2.2)
noncomputable def isIter:V→Bool
 | .bi .iter=>true
 | _=>false
noncomputable def isEnumT:V→Bool
 | .ty .enumerate=>true
 | _=>false
noncomputable def asB (r:Option (V × Sto)):Option (Bool × Sto):=r.bind fun p=>(boolV p.1).map fun b=>(b,p.2)
noncomputable def fin (m:Bool) (r:Option (V × Sto)):Option (V × Sto):=if m then (r.bind fun p=>(truth p.2 p.1).map fun b=>(.bool b,p.2)) else r
mutual
noncomputable def evM:E→Bool→Loc→Sto→Option (V × Sto)
 | .cnone _,md,_,σ=>fin md <| some (.none,σ)
 | .cbool b _,md,_,σ=>fin md <| some (.bool b,σ)
 | .cint i _,md,_,σ=>fin md <| some (.int i,σ)
 | .cstr s _,md,_,σ=>fin md <| some (.str s,σ)
 | .var i _,md,loc,σ=>fin md <| (loc[i]?).bind fun o=>o.map fun v=>(v,σ)
 | .glob g _,md,_,σ=>fin md <| (G g).map fun v=>(v,σ)
 | .bin op a b _,md,loc,σ=>fin md <| (evM a false loc σ).bind fun x=>(evM b false loc x.2).bind fun y=>binop op x.1 y.1 y.2
 | .neg a _,md,loc,σ=>fin md <| (evM a false loc σ).bind fun x=>(intV x.1).map fun i=>(.int (-i),x.2)
 | .cmp op a b _,md,loc,σ=>fin md <| (evM a false loc σ).bind fun x=>(evM b false loc x.2).bind fun y=>(cmpop op x.1 y.1 y.2).map fun c=>(.bool c,y.2)
 | .cmp2 op op' a b c _,md,loc,σ=>if md then (evM a false loc σ).bind fun x=>(evM b false loc x.2).bind fun y=>(cmpop op x.1 y.1 y.2).bind fun r =>
   if r then (evM c false loc y.2).bind fun z=>(cmpop op' y.1 z.1 z.2).map fun c=>(.bool c,z.2) else some (.bool false,y.2) else none
 | .boolop op es _,md,loc,σ=>if md then (evB op es loc σ).map fun r=>(.bool r.1,r.2) else evBV op es loc σ
 | .ife t a b _,md,loc,σ=>(asB (evM t true loc σ)).bind fun c=>if c.1 then evM a md loc c.2 else evM b md loc c.2
 | .list cell es _,md,loc,σ=>fin md <| (evEL es loc σ).bind fun r=>if r.1.length≤maxLen then some (newL cell r.1 r.2) else none
 | .tup es _,md,loc,σ=>fin md <| (evEL es loc σ).map fun r=>(.tup r.1,r.2)
 | .sub a i _,md,loc,σ=>fin md <| (evM a false loc σ).bind fun x=>(evM i false loc x.2).bind fun y=>(subV x.1 y.1 y.2).map fun v=>(v,y.2)
 | .slice a lo hi st _ _,md,loc,σ=>fin md <| (evM a false loc σ).bind fun x=>(evO lo loc x.2).bind fun l=>(evO hi loc l.2).bind fun h=>(evO st loc h.2).bind fun t=>sliceV x.1 l.1 h.1 t.1 t.2
 | .call g _ es _,md,loc,σ=>fin md <| (G g).bind fun f=>(evEL es loc σ).bind fun vs=>callV Φ f vs.1 vs.2
 | .callkw g _ es _ e _ _,md,loc,σ=>fin md <| (G g).bind fun f=>(evEL es loc σ).bind fun vs=>(evM e false loc vs.2).bind fun w=>(fnV f).bind fun k=>Φ k (vs.1++[w.1]) w.2
 | .meth o m es _ _,md,loc,σ=>fin md <| (evM o false loc σ).bind fun x=>(recv x.2 x.1).bind fun k=>(evEL es loc x.2).bind fun vs=>if k=2 then (if m.lex then Λ m (x.1 :: vs.1) vs.2 else none) else methV x.1 m vs.1 vs.2
 | .attr o a _,md,loc,σ=>fin md <| (evM o false loc σ).bind fun x=>(attrV a x.2 x.1).map fun v=>(v,x.2)
 | .comp cell e t it ifs r cs _,md,loc,σ=>fin md <| ((evM it false (clear (cs.own.map (·.1)) loc) σ).bind fun x=>(iterOf x.2 x.1).bind fun i=>(iterate (fun v acc σ=>(bindT t v (clear (cs.own.map (·.1)) loc) σ).bind fun loc=>(evIfs ifs loc σ).bind fun c =>
   if c.1 then (evC r (fun loc σ acc=>(evM e false loc σ).bind fun v=>if acc.length < maxLen then some (acc++[v.1],v.2) else none) loc c.2 acc).map fun y=>(true,y) else some (true,acc,c.2)) i.1 i.2 0 [] x.2).map fun y=>newL cell y.2.1 y.2.2)
 | .fit g o _ _ _ _,md,loc,σ=>fin md <| (G g).bind fun f=>if isIter f then (evM o false loc σ).bind fun x=>(refV x.1).bind fun i=>fitC i x.2 else none
 | .readc o _ _ _ _,md,loc,σ=>fin md <| (evM o false loc σ).bind fun x=>Λ .count [x.1] x.2
 | .raw _,md,_,_=>fin md <| none
noncomputable def evBV:BoolOp→EL→Loc→Sto→Option (V × Sto)
 | _,.nil,_,_=>none
 | op,.cons e es,loc,σ=>(evM e false loc σ).bind fun v=>if es.isNil then some v else (boolV v.1).bind fun b=>if (op==.And)=b then evBV op es loc v.2 else some v
noncomputable def evB:BoolOp→EL→Loc→Sto→Option (Bool × Sto)
 | op,.nil,_,σ=>some (op==.And,σ)
 | op,.cons e es,loc,σ=>(asB (evM e true loc σ)).bind fun c=>if (op==.And)=c.1 then evB op es loc c.2 else some c
noncomputable def evEL:EL→Loc→Sto→Option (List V × Sto)
 | .nil,_,σ=>some ([],σ)
 | .cons e es,loc,σ=>(evM e false loc σ).bind fun v=>(evEL es loc v.2).map fun vs=>(v.1 :: vs.1,vs.2)
noncomputable def evO:OE→Loc→Sto→Option (V × Sto)
 | .none,_,σ=>some (.none,σ)
 | .some e,loc,σ=>evM e false loc σ
noncomputable def evIfs:EL→Loc→Sto→Option (Bool × Sto)
 | .nil,_,σ=>some (true,σ)
 | .cons e es,loc,σ=>(asB (evM e true loc σ)).bind fun c=>if c.1 then evIfs es loc c.2 else some c
noncomputable def evC:CL→(Loc→Sto→List V→Option (List V × Sto))→Loc→Sto→List V→Option (List V × Sto)
 | .nil,k,loc,σ,acc=>k loc σ acc
 | .cons t it ifs r,k,loc,σ,acc=>(evM it false loc σ).bind fun x=>(iterOf x.2 x.1).bind fun i=>(iterate (fun v acc σ=>(bindT t v loc σ).bind fun loc=>(evIfs ifs loc σ).bind fun c =>
   if c.1 then (evC r k loc c.2 acc).map fun y=>(true,y) else some (true,acc,c.2)) i.1 i.2 0 acc x.2).map fun y=>y.2
end
noncomputable def evE (e:E) (loc:Loc) (σ:Sto):Option (V × Sto):=evM Φ Λ G e false loc σ
noncomputable def evT (e:E) (loc:Loc) (σ:Sto):Option (Bool × Sto):=asB (evM Φ Λ G e true loc σ)
noncomputable def turn (clr:List Nat) (x:Fl × Loc × Sto):Bool × (Fl × Loc) × Sto:=match x.1 with
 | .next=>(true,(.next,clear clr x.2.1),x.2.2)
 | .cont=>(true,(.next,clear clr x.2.1),x.2.2)
 | .brk=>(false,(.next,x.2.1),x.2.2)
 | .ret v=>(false,(.ret v,x.2.1),x.2.2)
noncomputable def whileN (t:Loc→Sto→Option (Bool × Sto)) (b:Loc→Sto→Option (Bool × (Fl × Loc) × Sto)):Nat→Loc→Sto→Option (Fl × Loc × Sto)
 | 0,_,_=>none
 | n+1,loc,σ=>(t loc σ).bind fun c=>if c.1 then (b loc c.2).bind fun y=>if y.1 then whileN t b n y.2.1.2 y.2.2 else some (y.2.1.1,y.2.1.2,y.2.2) else some (.next,loc,c.2)
noncomputable def citO:O→Option (Nat × Bool)
 | .cit l over=>some (l,over)
 | _=>none
noncomputable def citI (σ:Sto) (j:Nat):Option (Nat × Bool):=(σ[j]?).bind citO
noncomputable def fitNext (rd:V→Sto→Option (V × Sto)) (j:Nat) (σ:Sto):Option (Option (List Nat) × Sto):=(citI σ j).bind fun c=>if c.2 then some (none,σ) else
 (rd (.ref c.1) σ).bind fun r=>(strV r.1).bind fun s=>(citI r.2 j).bind fun c'=>if c'=c then (if s.isEmpty then some (none,r.2.set j (.cit c.1 true)) else some (some s,r.2)) else none
noncomputable def fitN (rd:V→Sto→Option (V × Sto)) (step:V→Fl × Loc→Sto→Option (Bool × (Fl × Loc) × Sto)) (j:Nat):Nat→Fl × Loc→Sto→Option (Bool × (Fl × Loc) × Sto)
 | 0,_,_=>none
 | n+1,st,σ=>(fitNext rd j σ).bind fun o=>match o.1 with
  | none=>some (true,st,o.2)
  | some c=>(step (.str c) st o.2).bind fun y=>if y.1 then fitN rd step j n y.2.1 y.2.2 else some y
noncomputable def enumItems (xs:List V):List V:=xs.zipIdx.map fun x=>.tup [.int (x.2:Nat),x.1]
noncomputable def seqF (k:Loc→Sto→Option (Fl × Loc × Sto)) (x:Fl × Loc × Sto):Option (Fl × Loc × Sto):=match x.1 with
 | .next=>k x.2.1 x.2.2
 | _=>some x
noncomputable def endF (k:Loc→Sto→Option (Fl × Loc × Sto)) (y:Bool × (Fl × Loc) × Sto):Option (Fl × Loc × Sto):=if y.1 then k y.2.1.2 y.2.2 else some (y.2.1.1,y.2.1.2,y.2.2)
mutual
noncomputable def evS:S→Loc→Sto→Option (Fl × Loc × Sto)
 | .assign t e _,loc,σ=>(evE Φ Λ G e loc σ).bind fun v=>(bindT t v.1 loc v.2).map fun loc=>(.next,loc,v.2)
 | .assignSub a i _ e _,loc,σ=>(evE Φ Λ G e loc σ).bind fun v=>(evE Φ Λ G a loc v.2).bind fun x=>(evE Φ Λ G i loc x.2).bind fun k=>(setV x.1 k.1 v.1 k.2).map fun σ=>(.next,loc,σ)
 | .aug i _ op e _,loc,σ=>(loc[i]?).bind fun o=>o.bind fun x=>(evE Φ Λ G e loc σ).bind fun y=>(augop op x y.1 y.2).map fun v=>(.next,loc.set i (some v.1),v.2)
 | .augSub a i _ op e _,loc,σ=>(evE Φ Λ G a loc σ).bind fun x=>(evE Φ Λ G i loc x.2).bind fun k=>(subV x.1 k.1 k.2).bind fun old=>(evE Φ Λ G e loc k.2).bind fun y=>(augop op old y.1 y.2).bind fun v=>(setV x.1 k.1 v.1 v.2).map fun σ=>(.next,loc,σ)
 | .expr e _,loc,σ=>(evE Φ Λ G e loc σ).map fun v=>(.next,loc,v.2)
 | .ret e _,loc,σ=>(evE Φ Λ G e loc σ).map fun v=>(.ret v.1,loc,v.2)
 | .cond t a b _,loc,σ=>(evT Φ Λ G t loc σ).bind fun c=>if c.1 then evSL a loc c.2 else evSL b loc c.2
 | .whil fuel clr t a _,loc,σ=>whileN (fun loc σ=>evT Φ Λ G t loc σ) (fun loc σ=>(evSL a loc σ).map (turn clr)) fuel loc σ
 | .loop clr t it a b _,loc,σ=>(evE Φ Λ G it loc σ).bind fun x=>(iterOf x.2 x.1).bind fun i=>(iterate (fun v (st:Fl × Loc) σ'=>(bindT t v st.2 σ').bind fun loc=>(evSL a loc σ').map (turn clr)) i.1 i.2 0 (Fl.next,loc) x.2).bind (endF fun loc σ=>evSL b loc σ)
 | .enum clr is tp g _ it a b _ _,loc,σ=>(G g).bind fun f=>if isEnumT f then (evE Φ Λ G it loc σ).bind fun x=>(tupV x.1).bind fun xs=>(iterate (fun v (st:Fl × Loc) σ'=>(bindT (.tup is tp) v st.2 σ').bind fun loc=>(evSL a loc σ').map (turn clr)) (.items (enumItems xs)) xs.length 0 (Fl.next,loc) x.2).bind (endF fun loc σ=>evSL b loc σ) else none
 | .inc o _ _ _,loc,σ=>(evE Φ Λ G o loc σ).bind fun x=>(refV x.1).bind fun i=>(incC i x.2).map fun σ=>(.next,loc,σ)
 | .fitr fuel i tp it a b _,loc,σ=>(evE Φ Λ G it loc σ).bind fun x=>(refV x.1).bind fun j=>(fitN (fun v σ=>Λ .read_char [v] σ) (fun v (st:Fl × Loc) σ'=>(bindT (.name i tp) v st.2 σ').bind fun loc=>(evSL a loc σ').map (turn [])) j fuel (Fl.next,loc) x.2).bind (endF fun loc σ=>evSL b loc σ)
 | .brk _,loc,σ=>some (.brk,loc,σ)
 | .cont _,loc,σ=>some (.cont,loc,σ)
 | .raw _,_,_=>none
noncomputable def evSL:SL→Loc→Sto→Option (Fl × Loc × Sto)
 | .nil,loc,σ=>some (.next,loc,σ)
 | .cons s r,loc,σ=>(evS s loc σ).bind (seqF fun loc σ=>evSL r loc σ)
end
noncomputable def loopStep (clr:List Nat) (t:Tg) (a:SL) (v:V) (st:Fl × Loc) (σ:Sto):Option (Bool × (Fl × Loc) × Sto):=(bindT t v st.2 σ).bind fun loc=>(evSL Φ Λ G a loc σ).map (turn clr)
noncomputable def hand (fz:Bool) (n:Nat) (σ:Sto) (o:O):V × Sto:=match o with
 | .list xs=>if fz then (.lst xs,σ.take n) else (.ref n,σ.take n++[.list xs])
 | o=>(.ref n,σ.take n++[o])
noncomputable def leave (fz:Bool) (n:Nat) (v:V) (σ:Sto):V × Sto :=
 if stoLow n (σ.take n)&&decide (n≤σ.length) then
  (if v.low n then (v,σ.take n) else ((refV v).bind fun i=>(σ[i]?).bind fun o=>if o.low n then some (hand fz n σ o) else none).getD (v,σ))
 else (v,σ)
noncomputable def retV:Fl→Option V
 | .ret v=>some v
 | .next=>some .none
 | _=>none
noncomputable def runF (fz:Bool) (nslots:Nat) (body:SL) (args:List V) (σ:Sto):Option (V × Sto) :=
 (evSL Φ Λ G body (args.map some++List.replicate (nslots - args.length) none) σ).bind fun x=>(retV x.1).map fun v=>leave fz σ.length v x.2.2
end
end Mine
namespace Mine
open PySem
structure LexB where
 C:Addr
 rd:Nat
 gv:List (Str × Addr)→Value→Value→FuncData
 p1:Pos
 p2:Pos
 q1:Str
 q2:Str
structure Base where
 lx:LexB
 prog:Program
 w:World
 h0:Heap
 os:OsState
 fa:Nat→Addr
 tab:Addr
 gA:Addr
 bA:Addr
 mg:Str→Option Value
 mb:Str→Option Value
noncomputable abbrev Lay:=List (List Addr)
noncomputable def Imm (o:Obj):Prop:=(o.cls=.type "tuple"∨o.cls=.type "range"∨o.cls=.type "code"∨o.cls=.type "list")∧((∃ xs n,o.data=.seq xs n)∨∃ vs,o.data=.fields vs)
noncomputable def Ls (o:Obj):Prop:=o.cls=.type "list"
noncomputable def Mut (F:Lay) (b:Addr) (o:Obj):Prop:=Imm o→Ls o∧b∈F.flatten
theorem Mut.of {F:Lay} {b:Addr} {o:Obj} (h:¬ Imm o):Mut F b o:=fun i=>(h i).elim
noncomputable def Fat (F:Lay) (i:Nat) (as:List Addr):Prop:=0 < i∧F[i]?=some as
structure Mv (F G:Lay) (h h':Heap):Prop where
 im:∀ b o,h.get? b=some o→Imm o→(Ls o→b∉F.flatten)→h'.get? b=some o
 kf:∀ i x,Fat F i x→Fat G i x
 kg:∀ b o,h.get? b=some o→Imm o→Ls o→b∉F.flatten→b∉G.flatten
noncomputable def Kept (W:Addr→Prop) (h h':Heap):Prop:=∀ b o,h.get? b=some o→¬ W b→h'.get? b=some o
theorem Kept.refl (W:Addr→Prop) (h:Heap):Kept W h h:=fun ζ ζ e ζ=>e
theorem Kept.trans {W:Addr→Prop} {h h' h'':Heap} (x:Kept W h h') (y:Kept W h' h''):Kept W h h'':=fun b o e n=>y b o (x b o e n) n
theorem Kept.mono {W W':Addr→Prop} {h h':Heap} (x:Kept W h h') (i:∀ b,W b→W' b):Kept W' h h':=fun b o e n=>x b o e fun q=>n (i b q)
theorem Kept.push (W:Addr→Prop) (h:Heap) (o:Obj):Kept W h (h.push o):=fun ζ ζ e ζ=>Heap.get?_push_of_some o e
theorem Kept.all {W:Addr→Prop} {h h':Heap} (k:∀ b o,h.get? b=some o→h'.get? b=some o):Kept W h h':=fun b o e ζ=>k b o e
theorem Kept.of_ext {a:Addr} {h h':Heap} (x:Heap.ExtBut a h h'):Kept (·=a) h h':=fun b o e n=>x b o n e
theorem Kept.of_same {a:Addr} {h h':Heap} (x:Heap.SameBut a h h'):Kept (·=a) h h':=.of_ext x.extBut
theorem app_get (F G:Lay):∀ (i:Nat) (x:List Addr),Fat F i x→Fat (F++G) i x:=fun i x e=>by
 obtain ⟨l,_⟩:=List.getElem?_eq_some_iff.mp e.2
 exact ⟨e.1,(List.getElem?_append_left l).trans e.2⟩
theorem Mv.trans {F G K:Lay} {h h' h'':Heap} (x:Mv F G h h') (y:Mv G K h' h''):Mv F K h h'' :=
 ⟨fun b o e i n=>y.im b o (x.im b o e i n) i fun l=>x.kg b o e i l (n l),fun i z e=>y.kf i z (x.kf i z e),fun b o e i l n=>y.kg b o (x.im b o e i fun ζ=>n) i l (x.kg b o e i l n)⟩
theorem Mv.of {F:Lay} {h h':Heap} (k:∀ b o,h.get? b=some o→h'.get? b=some o):Mv F F h h':=⟨fun b o e ζ ζ=>k b o e,fun ζ ζ e=>e,fun ζ ζ ζ ζ ζ e=>e⟩
theorem Mv.push (F:Lay) (h:Heap) (o:Obj):Mv F F h (h.push o):=.of fun ζ ζ e=>Heap.get?_push_of_some o e
theorem Mv.of_kept {W:Addr→Prop} {F:Lay} {h h':Heap} (x:Kept W h h') (n:∀ b o,W b→h.get? b=some o→Mut F b o):Mv F F h h':=⟨fun b o e i z=>x b o e fun w=>z (n b o w e i).1 (n b o w e i).2,fun ζ ζ e=>e,fun ζ ζ ζ ζ ζ e=>e⟩
theorem Mv.add {F G:Lay} {h h':Heap} (x:Mv F F h h') (d:∀ a∈G.flatten,h.get? a=none):Mv F (F++G) h h':=⟨x.im,app_get F G,fun b o e ζ ζ n q=>by
 rw [List.flatten_append,List.mem_append] at q
 exact q.elim n fun q=>by rw [d b q] at e; cases e⟩
theorem imSeq {c:String} {xs:Array Value} {n:Nat} (h:Value.type c=.type "tuple"∨Value.type c=.type "range"∨Value.type c=.type "code"∨Value.type c=.type "list"):Imm { cls:=.type c,data:=.seq xs n }:=⟨h,.inl ⟨_,_,rfl⟩⟩
theorem imTup {xs:Array Value} {n:Nat}:Imm { cls:=.type "tuple",data:=.seq xs n }:=imSeq (.inl rfl)
theorem imLst {xs:Array Value} {n:Nat}:Imm { cls:=.type "list",data:=.seq xs n }:=imSeq (.inr (.inr (.inr rfl)))
theorem lsNo {o:Obj} {n:String} (hc:o.cls=.type n) (h:n≠"list"):¬ Ls o:=fun l=>h (Value.type.inj (hc.symm.trans l))
mutual
inductive VR (fa:Nat→Addr) (h:Heap) (F:Lay):V→Value→Prop
 | none:VR fa h F .none .none
 | bool (b:Bool):VR fa h F (.bool b) (.bool b)
 | int (i:Int) (t:Tok):VR fa h F (.int i) (.int i t)
 | str {l:List Nat} {x:Str} (t:Tok) (e:x.cps.toList=l) (b:l.length≤maxLen):VR fa h F (.str l) (.str x t)
 | bytes {l:List Nat} {b:Array UInt8} (t:Tok) (e:b.toList.map UInt8.toNat=l) (n:l.length≤maxLen):VR fa h F (.bytes l) (.bytes b t)
 | ref {i:Nat} {a:Addr} {as:List Addr} (e:Fat F i (a :: as)):VR fa h F (.ref i) (.ref a)
 | tup {vs:List V} {a:Addr} {items:Array Value} {n:Nat} (e:h.get? a=some { cls:=.type "tuple",data:=.seq items n }) (r:VRs fa h F vs items.toList) (b:vs.length≤maxLen):VR fa h F (.tup vs) (.ref a)
 | lst {vs:List V} {a:Addr} {items:Array Value} {n:Nat} (e:h.get? a=some { cls:=.type "list",data:=.seq items n }) (q:a∉F.flatten) (r:VRs fa h F vs items.toList) (b:vs.length≤maxLen):VR fa h F (.lst vs) (.ref a)
 | rng {a b c:Int} {r:Addr} {t u v:Tok} (e:IsRange h r a b c t u v):VR fa h F (.rng a b c) (.ref r)
 | fn (f:Nat):VR fa h F (.fn f) (.ref (fa f))
 | bi (b:Bi):VR fa h F (.bi b) (.builtin b.id)
 | ty (t:Ty):VR fa h F (.ty t) (.type t.nm)
inductive VRs (fa:Nat→Addr) (h:Heap) (F:Lay):List V→List Value→Prop
 | nil:VRs fa h F [] []
 | cons {v:V} {x:Value} {vs:List V} {xs:List Value} (a:VR fa h F v x) (r:VRs fa h F vs xs):VRs fa h F (v :: vs) (x :: xs)
end
section
variable {fa:Nat→Addr} {h h':Heap} {F G:Lay}
theorem VR.step (m:Mv F G h h') {v:V} {x:Value} (r:VR fa h F v x):VR fa h' G v x :=
 VR.rec (motive_1:=fun v x ζ=>VR fa h' G v x) (motive_2:=fun vs xs ζ=>VRs fa h' G vs xs) .none .bool .int (fun t e b=>.str t e b) (fun t e b=>.bytes t e b) (fun e=>.ref (m.kf _ _ e)) (fun e ζ b r=>.tup (m.im _ _ e imTup fun l=>(lsNo rfl (by decide) l).elim) r b) (fun e q ζ b r=>.lst (m.im _ _ e imLst fun ζ=>q) (m.kg _ _ e imLst rfl q) r b) (fun e=>.rng (m.im _ _ e ⟨.inr (.inl rfl),.inr ⟨_,rfl⟩⟩ fun l=>(lsNo rfl (by decide) l).elim)) .fn .bi .ty .nil (fun ζ ζ a r=>.cons a r) r
theorem VRs.step (m:Mv F G h h') {vs:List V} {xs:List Value} (r:VRs fa h F vs xs):VRs fa h' G vs xs :=
 VRs.rec (motive_1:=fun v x ζ=>VR fa h' G v x) (motive_2:=fun vs xs ζ=>VRs fa h' G vs xs) .none .bool .int (fun t e b=>.str t e b) (fun t e b=>.bytes t e b) (fun e=>.ref (m.kf _ _ e)) (fun e ζ b r=>.tup (m.im _ _ e imTup fun l=>(lsNo rfl (by decide) l).elim) r b) (fun e q ζ b r=>.lst (m.im _ _ e imLst fun ζ=>q) (m.kg _ _ e imLst rfl q) r b) (fun e=>.rng (m.im _ _ e ⟨.inr (.inl rfl),.inr ⟨_,rfl⟩⟩ fun l=>(lsNo rfl (by decide) l).elim)) .fn .bi .ty .nil (fun ζ ζ a r=>.cons a r) r
theorem VRs.length {vs:List V} {xs:List Value} (r:VRs fa h F vs xs):vs.length=xs.length:=by
 induction vs generalizing xs with
 | nil=>cases r; rfl
 | cons v vs ih=>cases r with | cons a r=>rw [List.length_cons,List.length_cons,ih r]
theorem VRs.get {vs:List V} {xs:List Value} (r:VRs fa h F vs xs) {k:Nat} {v:V} (e:vs[k]?=some v):∃ x,xs[k]?=some x∧VR fa h F v x:=by
 induction vs generalizing xs k with
 | nil=>exact noS e
 | cons u vs ih =>
  cases r with
  | cons a r =>
   cases k with
   | zero=>apply s1 e; exact ⟨_,rfl,a⟩
   | succ k=>exact ih r e
theorem VRs.append {vs ws:List V} {xs ys:List Value} (r:VRs fa h F vs xs) (q:VRs fa h F ws ys):VRs fa h F (vs++ws) (xs++ys):=by
 induction vs generalizing xs with
 | nil=>cases r; exact q
 | cons u vs ih=>cases r with | cons a r=>exact .cons a (ih r)
theorem VRs.one {v:V} {x:Value} (a:VR fa h F v x):VRs fa h F [v] [x]:=.cons a .nil
theorem VRs.set {vs:List V} {xs:List Value} (r:VRs fa h F vs xs) {k:Nat} {v:V} {x:Value} (a:VR fa h F v x):VRs fa h F (vs.set k v) (xs.set k x):=by
 induction vs generalizing xs k with
 | nil=>cases r; exact .nil
 | cons u vs ih =>
  cases r with
  | cons b r =>
   cases k with
   | zero=>exact .cons a r
   | succ k=>exact .cons b (ih r)
end
section
variable {fa:Nat→Addr} {h:Heap} {F:Lay} {x:Value}
theorem VR.none_is (r:VR fa h F .none x):x=.none:=by cases r; rfl
theorem VR.bool_is {b:Bool} (r:VR fa h F (.bool b) x):x=.bool b:=by cases r; rfl
theorem VR.int_is {i:Int} (r:VR fa h F (.int i) x):∃ t,x=.int i t:=by cases r with | int _ t=>exact ⟨t,rfl⟩
theorem VR.str_is {l:List Nat} (r:VR fa h F (.str l) x):∃ s t,x=.str s t∧s.cps.toList=l∧l.length≤maxLen:=by cases r with | str t e b=>exact ⟨_,t,rfl,e,b⟩
theorem VR.bytes_is {l:List Nat} (r:VR fa h F (.bytes l) x):∃ s t,x=.bytes s t∧s.toList.map UInt8.toNat=l∧l.length≤maxLen:=by cases r with | bytes t e b=>exact ⟨_,t,rfl,e,b⟩
theorem VR.ref_is {i:Nat} (r:VR fa h F (.ref i) x):∃ (a:Addr) (as:List Addr),x=.ref a∧Fat F i (a :: as):=by cases r with | ref e=>exact ⟨_,_,rfl,e⟩
theorem VR.tup_is {vs:List V} (r:VR fa h F (.tup vs) x):∃ (a:Addr) (items:Array Value) (n:Nat),x=.ref a∧h.get? a=some { cls:=.type "tuple",data:=.seq items n }∧VRs fa h F vs items.toList∧vs.length≤maxLen:=by cases r with | tup e r b=>exact ⟨_,_,_,rfl,e,r,b⟩
theorem VR.lst_is {vs:List V} (r:VR fa h F (.lst vs) x):∃ (a:Addr) (items:Array Value) (n:Nat),x=.ref a∧h.get? a=some { cls:=.type "list",data:=.seq items n }∧a∉F.flatten∧VRs fa h F vs items.toList∧vs.length≤maxLen:=by cases r with | lst e q r b=>exact ⟨_,_,_,rfl,e,q,r,b⟩
theorem VR.rng_is {a b c:Int} (r:VR fa h F (.rng a b c) x):∃ (q:Addr) (t u v:Tok),x=.ref q∧IsRange h q a b c t u v:=by cases r with | rng e=>exact ⟨_,_,_,_,rfl,e⟩
theorem VR.fn_is {f:Nat} (r:VR fa h F (.fn f) x):x=.ref (fa f):=by cases r; rfl
theorem VR.bi_is {b:Bi} (r:VR fa h F (.bi b) x):x=.builtin b.id:=by cases r; rfl
theorem VR.ty_is {t:Ty} (r:VR fa h F (.ty t) x):x=.type t.nm:=by cases r; rfl
theorem VRs.nil_is {xs:List Value} (r:VRs fa h F [] xs):xs=[]:=by cases r; rfl
theorem VRs.cons_is {v:V} {vs:List V} {xs:List Value} (r:VRs fa h F (v :: vs) xs):∃ x ys,xs=x :: ys∧VR fa h F v x∧VRs fa h F vs ys:=by cases r with | cons a r=>exact ⟨_,_,rfl,a,r⟩
end
noncomputable def CodeI (h:Heap) (c:Addr) (q:Str):Prop:=∃ o vs t,h.get? c=some o∧o.cls=.type "code"∧o.data=.fields vs∧vs[1]?=some (.str q t)
theorem CodeI.imk {F G:Lay} {h h':Heap} {c:Addr} {q:Str} (x:CodeI h c q) (k:Mv F G h h'):CodeI h' c q :=
 let ⟨o,vs,t,e,hc,hd,hv⟩:=x
 ⟨o,vs,t,k.im c o e ⟨.inr (.inr (.inl hc)),.inr ⟨_,hd⟩⟩ (fun l=>(lsNo hc (by decide) l).elim),hc,hd,hv⟩
theorem CodeI.rec {h:Heap} {c:Addr} {q:Str} (x:CodeI h c q):h.CodeRec (.ref c) q:=let ⟨o,vs,t,e,_,hd,hv⟩:=x; ⟨c,o,vs,t,rfl,e,hd,hv⟩
noncomputable def NsL (h:Heap) (a:Addr) (m:Str→Option Value) (k:Nat):Prop:=∃ d es n sl,h.get? a=some { cls:=.type "dict",dict:=d,data:=.dict es n,slots:=sl }∧StrKeys es∧es.size≤k∧∀ name,nsFind es name=m name
theorem NsL.ns {h:Heap} {a:Addr} {m:Str→Option Value} {k:Nat} (n:NsL h a m k):h.Ns a m:=let ⟨d,es,ep,sl,e,x,_,y⟩:=n; ⟨_,es,ep,e,rfl,x,y⟩
theorem NsL.at' {h h':Heap} {a:Addr} {m:Str→Option Value} {k:Nat} (n:NsL h a m k) (f:∀ o,h.get? a=some o→h'.get? a=some o):NsL h' a m k:=let ⟨d,es,ep,sl,e,r⟩:=n; ⟨d,es,ep,sl,f _ e,r⟩
noncomputable def instO (C dx:Addr):Obj:={ cls:=.ref C,dict:=some dx,data:=.plain }
noncomputable def wsS:Str:=⟨#[10,9,13,32]⟩
structure LexN (m:Str→Option Value) (line:Int) (st p:Addr):Prop where
 line:∃ t,m At.lineno.nm=some (.int line t)
 stream:m (Str.ofString "instream")=some (.ref st)
 white:∃ t,m At.whitespace.nm=some (.str wsS t)
 push:m At.pushback.nm=some (.ref p)
 no1:m Me.get_token.nm=none
 no2:m Me.push_token.nm=none
 no3:m Me.read_char.nm=none
structure LexH (B:Base) (h:Heap) (as:List Addr) (text:List Nat) (la:Addr) (line:Int) (p:Addr) (x dx st sd gv cT cA:Addr):Prop where
 as_:as=[x,dx,st,sd,gv,cT,cA]
 inst:h.get? x=some (instO B.lx.C dx)
 names:∃ m,NsL h dx m 4∧LexN m line st p
 stream:∃ fd sl,h.get? st=some { cls:=.type "function",dict:=some sd,data:=.func fd,slots:=sl }
 read:∃ m,NsL h sd m 1∧m (Str.ofString "read")=some (.ref gv)
 give:∃ cd ct,h.get? gv=some { cls:=.type "function",data:=.func (B.lx.gv [(Str.ofString "text",cT),(Str.ofString "at",cA)] (.ref cd) ct) }∧CodeI h cd B.lx.q2
 text:∃ X t,h.IsCell cT (some (.str X t))∧X.cps.toList=text
 at_:h.IsCell cA (some (.ref la))
noncomputable def citF (fin:Bool) (bm:Addr) (tk:Tok):Array Value:=if fin then #[.none,.none,.bool true] else #[.ref bm,.str ⟨#[]⟩ tk,.bool false]
noncomputable def OR (B:Base) (h:Heap) (F:Lay):O→List Addr→Prop
 | .list xs,as=>∃ a items,as=[a]∧h.PlainList a items∧VRs B.fa h F xs items.toList∧xs.length≤maxLen
 | .lex text i line j,as=>text.length≤maxLen∧∃ la p x dx st sd gv cT cA,Fat F i [la]∧Fat F j [p]∧LexH B h as text la line p x dx st sd gv cT cA
 | .cit l fin,as=>∃ it bm x xs tk,as=[it,bm]∧Fat F l (x :: xs)∧h.get? it=some { cls:=.type "callable_iterator",data:=.fields (citF fin bm tk) }∧h.get? bm=some { cls:=.type "method",data:=.fields #[.ref (B.fa B.lx.rd),.ref x] }
 | .scr k xs,as=>(∀ a∈as,∃ o,h.get? a=some o∧(Imm o→Ls o))∧xs.length≤maxLen∧∃ items,B.h0.PlainList (B.fa k) items∧VRs B.fa B.h0 [] (xs.map .int) items.toList
theorem no_data {o:Obj} (h1:∀ xs n,o.data≠.seq xs n) (h2:∀ vs,o.data≠.fields vs):¬ Imm o:=fun i=>i.2.elim (fun ⟨_,_,z⟩=>h1 _ _ z) fun ⟨_,z⟩=>h2 _ z
theorem no_dict {o:Obj} {es:Array DictEntry} {ep:Nat} (d:o.data=.dict es ep):¬ Imm o:=no_data (fun ζ ζ z=>by cases d.symm.trans z) fun ζ z=>by cases d.symm.trans z
theorem ns_no {h:Heap} {a:Addr} {m:Str→Option Value} (n:h.Ns a m):∃ o,h.get? a=some o∧¬ Imm o:=let ⟨o,_,_,e,d,_⟩:=n; ⟨o,e,no_dict d⟩
theorem cell_no {h:Heap} {a:Addr} {v:Option Value} (n:h.IsCell a v):∃ o,h.get? a=some o∧¬ Imm o:=let ⟨o,e,d⟩:=n; ⟨o,e,no_data (fun ζ ζ z=>by cases d.symm.trans z) fun ζ z=>by cases d.symm.trans z⟩
theorem no_cls {n:String} {o:Obj} (hc:o.cls=.type n) (h:["tuple","range","code","list"].contains n=false):¬ Imm o:=fun i=>by
 rcases i.1 with q | q | q | q <;> cases hc.symm.trans q <;> cases h
theorem no_ref {a:Addr} {o:Obj} (hc:o.cls=.ref a):¬ Imm o:=fun i=>by
 rcases i.1 with q | q | q | q <;> cases hc.symm.trans q
theorem LexH.live {B:Base} {h:Heap} {as:List Addr} {text:List Nat} {la p x dx st sd gv cT cA:Addr} {line:Int} (L:LexH B h as text la line p x dx st sd gv cT cA):∀ a∈as,∃ ob,h.get? a=some ob∧¬ Imm ob:=by
 rw [L.as_]
 simp only [List.forall_mem_cons,List.not_mem_nil,false_implies,implies_true,and_true]
 exact ⟨⟨_,L.inst,no_ref rfl⟩,let ⟨_,n,_⟩:=L.names; ns_no n.ns,let ⟨_,_,e⟩:=L.stream; ⟨_,e,no_cls rfl rfl⟩,let ⟨_,n,_⟩:=L.read; ns_no n.ns,let ⟨_,_,e,_⟩:=L.give; ⟨_,e,no_cls rfl rfl⟩,let ⟨_,_,e,_⟩:=L.text; cell_no e,cell_no L.at_⟩
theorem LexH.mono {B:Base} {F G:Lay} {h h':Heap} {as:List Addr} {text:List Nat} {la p x dx st sd gv cT cA:Addr} {line:Int} (L:LexH B h as text la line p x dx st sd gv cT cA) (ka:∀ a∈as,∀ ob,h.get? a=some ob→h'.get? a=some ob) (k:Mv F G h h'):LexH B h' as text la line p x dx st sd gv cT cA:=by
 rw [L.as_] at ka
 simp only [List.forall_mem_cons,List.not_mem_nil,false_implies,implies_true,and_true] at ka
 exact ⟨L.as_,ka.1 _ L.inst,let ⟨m,n,r⟩:=L.names; ⟨m,n.at' ka.2.1,r⟩,let ⟨fd,sl,e⟩:=L.stream; ⟨fd,sl,ka.2.2.1 _ e⟩,let ⟨m,n,r⟩:=L.read; ⟨m,n.at' ka.2.2.2.1,r⟩,
  let ⟨cd,ct,e,r⟩:=L.give; ⟨cd,ct,ka.2.2.2.2.1 _ e,r.imk k⟩,let ⟨X,t,⟨o,e,r⟩,q⟩:=L.text; ⟨X,t,⟨o,ka.2.2.2.2.2.1 _ e,r⟩,q⟩,let ⟨o,e,r⟩:=L.at_; ⟨o,ka.2.2.2.2.2.2 _ e,r⟩⟩
theorem OR.live {B:Base} {h:Heap} {F:Lay} {o:O} {as:List Addr} (r:OR B h F o as):∀ a∈as,∃ ob,h.get? a=some ob∧(Imm ob→Ls ob):=by
 cases o with
 | list xs =>
  refine x2_3 (r) fun a items hq_1 hw_2 ζ=>?_
  apply q1 hq_1
  refine x1_1 (hw_2) fun n e=>?_
  intro b hb
  cases List.mem_singleton.mp hb
  exact ⟨_,e,fun ζ=>rfl⟩
 | lex text i line j =>
  obtain ⟨_,la,p,x,dx,st,sd,gv,cT,cA,_,_,L⟩:=r
  exact fun a h=>let ⟨ob,e,n⟩:=L.live a h; ⟨ob,e,fun i=>(n i).elim⟩
 | cit l fin =>
  refine x5_4 (r) fun it bm x xs tk hq_3 e e1 e2=>?_
  apply q1 hq_3
  simp only [List.forall_mem_cons,List.not_mem_nil,false_implies,implies_true,and_true]
  exact ⟨⟨_,e1,fun i=>(no_cls rfl rfl i).elim⟩,_,e2,fun i=>(no_cls rfl rfl i).elim⟩
 | scr k xs=>exact r.1
theorem OR.mono {B:Base} {h h':Heap} {F G:Lay} {o:O} {as:List Addr} (r:OR B h F o as) (ka:∀ a∈as,∀ ob,h.get? a=some ob→h'.get? a=some ob) (m:Mv F G h h'):OR B h' G o as:=by
 cases o with
 | list xs =>
  refine x2_4 (r) fun a items hq_4 hw_5 q b=>?_
  subst hq_4
  refine x1_1 (hw_5) fun n e=>?_
  exact ⟨a,items,rfl,⟨n,ka a (.head _) _ e⟩,q.step m,b⟩
 | lex text i line j =>
  obtain ⟨b,la,p,x,dx,st,sd,gv,cT,cA,e1,e2,L⟩:=r
  exact ⟨b,la,p,x,dx,st,sd,gv,cT,cA,m.kf _ _ e1,m.kf _ _ e2,L.mono ka m⟩
 | cit l fin =>
  refine x5_4 (r) fun it bm x xs tk hq_6 e e1 e2=>?_
  subst hq_6
  exact ⟨it,bm,x,xs,tk,rfl,m.kf _ _ e,ka _ (.head _) _ e1,ka _ (.tail _ (.head _)) _ e2⟩
 | scr k xs=>exact ⟨fun a ha=>let ⟨ob,e,i⟩:=r.1 a ha; ⟨ob,ka a ha _ e,i⟩,r.2⟩
noncomputable def TabOK (B:Base) (h:Heap):Prop:=h.get? B.tab=some { cls:=.none,data:=.fields #[] } ∨
 ∃ c1 c2,h.get? B.tab=some { cls:=.none,data:=.fields #[rawInt B.lx.p1.line,rawInt B.lx.p1.col,.ref c1,rawInt B.lx.p2.line,rawInt B.lx.p2.col,.ref c2] }∧CodeI h c1 B.lx.q1∧CodeI h c2 B.lx.q2
theorem TabOK.keep {B:Base} {h h':Heap} (t:TabOK B h) (k:∀ o,h.get? B.tab=some o→h'.get? B.tab=some o) {F G:Lay} (im:Mv F G h h'):TabOK B h':=by
 rcases t with t | ⟨c1,c2,t,q1,q2⟩
 ·exact .inl (k _ t)
 ·exact .inr ⟨c1,c2,k _ t,q1.imk im,q2.imk im⟩
structure Inv (B:Base) (F:Lay) (σ:Sto) (s:Shared):Prop where
 old:OldK B.h0 s.heap
 lim:s.heap.NoLimit
 gens:s.gens=#[]
 os:s.os=B.os
 len:F.length=σ.length
 obj:∀ (i:Nat) (o:O) (as:List Addr),σ[i]?=some o→F[i]?=some as→OR B s.heap F o as
 nodup:F.flatten.Nodup
 fresh:∀ a∈F.flatten,B.h0.get? a=none
 tabs:TabOK B s.heap
 tabo:∃ ps,B.h0.get? B.tab=some { cls:=.none,data:=.fields ps }
 tabc:B.tab≠cStatics
 low:∃ o,B.h0.get? cStatics=some o
 zero:∃ k xs,σ[0]?=some (.scr k xs)
theorem flat_mem {F:Lay} {i:Nat} {as:List Addr} {a:Addr} (e:F[i]?=some as) (h:a∈as):a∈F.flatten:=List.mem_flatten.mpr ⟨as,List.mem_of_getElem? e,h⟩
theorem flat_at {F:Lay} {a:Addr} (h:a∈F.flatten):∃ (i:Nat) (as:List Addr),F[i]?=some as∧a∈as:=by
 refine x1_2 (List.mem_flatten.mp h) fun as m q=>?_
 refine x1_1 (List.getElem?_of_mem m) fun i e=>?_
 exact ⟨i,as,e,q⟩
noncomputable def Wm (F:Lay) (b:Addr):Prop:=∃ i as,Fat F i as∧b∈as
theorem Wm.mem {F:Lay} {b:Addr} (w:Wm F b):b∈F.flatten:=let ⟨_,_,e,h⟩:=w; flat_mem e.2 h
theorem Wm.app {F G:Lay} {b:Addr} (w:Wm (F++G) b):Wm F b∨b∈G.flatten:=by
 refine x2_2 (w) fun i as e h=>?_
 rcases Nat.lt_or_ge i F.length with l | l
 ·exact .inl ⟨i,as,⟨e.1,(List.getElem?_append_left l).symm.trans e.2⟩,h⟩
 ·exact .inr (flat_mem ((List.getElem?_append_right l).symm.trans e.2) h)
noncomputable def Wr (B:Base) (F:Lay) (b:Addr):Prop:=Wm F b∨b=B.tab
structure Step (B:Base) (F:Lay) (s:Shared) (G:Lay) (s':Shared):Prop where
 kept:Kept (Wr B F) s.heap s'.heap
 fresh:∀ a∈G.flatten,s.heap.get? a=none
theorem oldK_keep {h₀ h h':Heap} (K:OldK h₀ h) (k:∀ b o,h₀.get? b=some o→∀ o',h.get? b=some o'→h'.get? b=some o'):OldK h₀ h':=by
 refine ⟨fun b o e=>?_,fun b o e=>let ⟨o',q⟩:=K.there b o e; ⟨o',k b o e o' q⟩⟩
 rcases K.old b o e with x | ⟨t,c,vs,more,d,x⟩ | ⟨rfl,c,⟨o',es,n,x,r⟩,z⟩
 ·exact .inl (k b o e _ x)
 ·exact .inr (.inl ⟨t,c,vs,more,d,k b o e _ x⟩)
 ·refine .inr (.inr ⟨rfl,c,⟨o',es,n,k _ o e _ x,r⟩,fun key=>?_⟩)
  rw [OldK.staticOf_congr ((k _ o e _ x).trans x.symm) key]
  exact z key
section
variable {B:Base} {F G:Lay} {σ:Sto} {s s':Shared}
theorem Inv.at (I:Inv B F σ s) {i:Nat} {o:O} (e:σ[i]?=some o):∃ as,F[i]?=some as∧OR B s.heap F o as :=
 let ⟨l,_⟩:=List.getElem?_eq_some_iff.mp e
 have ef:F[i]?=some (F[i]'(I.len▸l)):=List.getElem?_eq_getElem (I.len▸l)
 ⟨_,ef,I.obj i o _ e ef⟩
theorem Inv.live (I:Inv B F σ s) {a:Addr} (h:a∈F.flatten):∃ ob,s.heap.get? a=some ob∧(Imm ob→Ls ob):=by
 refine x2_2 (flat_at h) fun i as e q=>?_
 obtain ⟨l,_⟩:=List.getElem?_eq_some_iff.mp e
 obtain ⟨o,eo⟩:∃ o,σ[i]?=some o:=⟨_,List.getElem?_eq_getElem (I.len▸l)⟩
 exact (I.obj i o as eo e).live a q
theorem Inv.mut (I:Inv B F σ s) {a:Addr} (h:a∈F.flatten):∀ o,s.heap.get? a=some o→Mut F a o:=fun o e i=>by
 refine x1_2 (I.live h) fun ob q z=>?_
 rw [e] at q; cases q; exact ⟨z i,h⟩
noncomputable def O.isScr:O→Bool
 | .scr ..=>true
 | _=>false
theorem Inv.pos (I:Inv B F σ s) {i:Nat} {o:O} (e:σ[i]?=some o) (h:o.isScr=false):0 < i:=by
 cases i with
 | zero=>refine x2_1 (I.zero) fun k xs z=>?_; rw [z] at e; cases e; cases h
 | succ i=>exact Nat.succ_pos i
theorem Inv.at1 (I:Inv B F σ s) {i:Nat} {o:O} (e:σ[i]?=some o) (h:o.isScr=false):∃ as,Fat F i as∧OR B s.heap F o as:=let ⟨as,q,r⟩:=I.at e; ⟨as,⟨I.pos e h,q⟩,r⟩
theorem Inv.size (I:Inv B F σ s):0 < σ.length:=let ⟨_,_,z⟩:=I.zero; (List.getElem?_eq_some_iff.mp z).1
theorem Inv.tabLive (I:Inv B F σ s):∃ ob,s.heap.get? B.tab=some ob∧¬ Imm ob:=by
 have no:∀ vs,¬ Imm { cls:=.none,data:=.fields vs }:=fun vs i=>by rcases i.1 with q | q | q | q <;> cases q
 refine x1_1 (I.tabo) fun ps e=>?_
 rcases I.old.old _ _ e with x | ⟨_,c,vs,more,_,x⟩ | ⟨q,_⟩
 ·exact ⟨_,x,no _⟩
 ·exact ⟨_,x,fun i=>by rcases i.1 with q | q | q | q <;> cases q⟩
 ·exact absurd q I.tabc
theorem Inv.wr (I:Inv B F σ s):∀ b o,Wr B F b→s.heap.get? b=some o→Mut F b o:=by
 intro b o w e
 rcases w with w | rfl
 ·exact I.mut w.mem o e
 ·refine x1_2 (I.tabLive) fun ob q n=>?_
  rw [e] at q; cases q; exact .of n
theorem Step.imk (I:Inv B F σ s) (T:Step B F s G s'):Mv F (F++G) s.heap s'.heap:=(Mv.of_kept T.kept I.wr).add T.fresh
theorem Step.refl (B:Base) (F:Lay) (s:Shared):Step B F s [] s:=⟨.refl _ _,fun ζ h=>by simp at h⟩
theorem Step.trans {G':Lay} {σ'':Sto} {s'':Shared} (x:Step B F s G s') (y:Step B (F++G) s' G' s'') (I:Inv B (F++G++G') σ'' s''):Step B F s (G++G') s'':=by
 refine ⟨fun b o e n=>y.kept b o (x.kept b o e n) ?_,fun a ha=>?_⟩
 ·rintro (q | q)
  ·rcases q.app with q | q
   ·exact n (.inl q)
   ·rw [x.fresh b q] at e; exact noS e
  ·exact n (.inr q)
 ·rw [List.flatten_append,List.mem_append] at ha
  rcases ha with ha | ha
  ·exact x.fresh a ha
  ·cases e:s.heap.get? a with
   | none=>rfl
   | some o =>
    exfalso
    have d:=y.fresh a ha
    have nw:¬ Wr B F a:=by
     rintro (q | rfl)
     ·have nd:=I.nodup
      rw [List.flatten_append,List.flatten_append,List.nodup_append] at nd
      exact nd.2.2 a (List.mem_append.mpr (.inl q.mem)) a ha rfl
     ·refine x1_1 (I.tabo) fun ps t=>?_
      have:=I.fresh B.tab (by rw [List.flatten_append]; exact List.mem_append.mpr (.inr ha))
      rw [t] at this; cases this
    rw [x.kept a o e nw] at d; cases d
theorem Inv.rest (I:Inv B F σ s) {W:Addr→Prop} {h':Heap} (k:Kept W s.heap h') (n:∀ b,W b→B.h0.get? b=none) (m:Mv F F s.heap h'):OldK B.h0 h'∧h'.NoLimit∧TabOK B h':=by
 have k0:∀ b o o',B.h0.get? b=some o→s.heap.get? b=some o'→h'.get? b=some o':=fun b o o' e e'=>k b o' e' fun w=>by rw [n b w] at e; exact noS e
 refine ⟨oldK_keep I.old fun b o e o' e'=>k0 b o o' e e',?_,I.tabs.keep (fun o e=>let ⟨ps,t⟩:=I.tabo; k0 _ _ o t e) m⟩
 refine x1_2 (I.lim) fun mc hw_7 q=>?_
 refine x3_2 (hw_7) fun o es ep eo r=>?_
 refine x1_1 (I.low) fun ol el=>?_
 exact ⟨mc,⟨o,es,ep,k0 _ _ o el eo,r⟩,q⟩
theorem Inv.keep (I:Inv B F σ s) {W:Addr→Prop} {h':Heap} {tk:Nat} (k:Kept W s.heap h') (n:∀ b o,W b→s.heap.get? b=some o→B.h0.get? b=none∧b∉F.flatten∧¬ Imm o):Inv B F σ { s with heap:=h',toks:=tk }:=by
 have k:Kept (fun b=>W b∧∃ o,s.heap.get? b=some o) s.heap h':=fun b o e z=>k b o e fun w=>z ⟨w,o,e⟩
 have m:Mv F F s.heap h':=.of_kept k fun b o w e=>.of (n b o w.1 e).2.2
 refine x0_3 (I.rest k (fun b ⟨w,o,e⟩=>(n b o w e).1) m) fun q1 q2 q3=>?_
 exact ⟨q1,q2,I.gens,I.os,I.len,fun i o as eo e=>(I.obj i o as eo e).mono (fun a ha ob q=>k a ob q fun ⟨w,_,z⟩=>(n a _ w z).2.1 (flat_mem e ha)) m,I.nodup,I.fresh,q3,I.tabo,I.tabc,I.low,I.zero⟩
theorem Inv.toks (I:Inv B F σ s) (tk:Nat):Inv B F σ { s with toks:=tk }:=I.keep (W:=fun ζ=>False) (h':=s.heap) (.refl _ _) fun ζ ζ w=>w.elim
theorem Inv.push (I:Inv B F σ s) (o:Obj) (tk:Nat):Inv B F σ { s with heap:=s.heap.push o,toks:=tk }:=I.keep (W:=fun ζ=>False) (.push _ _ _) fun ζ ζ w=>w.elim
theorem Inv.all (I:Inv B F σ s) {h':Heap} (k:∀ b o,s.heap.get? b=some o→h'.get? b=some o) (tk:Nat):Inv B F σ { s with heap:=h',toks:=tk }:=I.keep (W:=fun ζ=>False) (.all k) fun ζ ζ w=>w.elim
theorem Inv.dead (I:Inv B F σ s) {a:Addr} (e:s.heap.get? a=none):B.h0.get? a=none∧a∉F.flatten:=by
 refine ⟨?_,fun h=>by refine x1_2 (I.live h) fun ob q ζ=>?_; rw [e] at q; cases q⟩
 cases q:B.h0.get? a with
 | none=>rfl
 | some o=>refine x1_1 (I.old.there a o q) fun o' z=>?_; rw [e] at z; exact noS z
theorem dead_size (h:Heap):h.get? h.objs.size=none:=by
 cases e:h.get? h.objs.size with
 | none=>rfl
 | some o=>exact absurd (Heap.lt_size e) (Nat.lt_irrefl _)
theorem Step.toks (T:Step B F s G s') (tk:Nat):Step B F s G { s' with toks:=tk }:=⟨T.kept,T.fresh⟩
theorem Step.of_kept {h':Heap} {tk:Nat} (k:Kept (Wr B F) s.heap h'):Step B F s [] { s with heap:=h',toks:=tk }:=⟨k,fun ζ h=>by simp at h⟩
theorem flat_one {F:Lay} {b:Addr}:∀ {i j:Nat} {as as':List Addr},F.flatten.Nodup→F[i]?=some as→F[j]?=some as'→b∈as→b∈as'→i=j:=by
 induction F with
 | nil=>intro i j as as' _ e; exact noS e
 | cons x F ih =>
  intro i j as as' nd ei ej hb hb'
  rw [List.flatten_cons,List.nodup_append] at nd
  cases i with
  | zero =>
   cases ei
   cases j with
   | zero=>rfl
   | succ j=>exact (nd.2.2 b hb b (flat_mem (F:=F) (i:=j) ej hb') rfl).elim
  | succ i =>
   cases j with
   | zero=>cases ej; exact (nd.2.2 b hb' b (flat_mem (F:=F) (i:=i) ei hb) rfl).elim
   | succ j=>rw [ih nd.2.1 ei ej hb hb']
theorem cat_get {α:Type} {l:List α} {x y:α} {i:Nat} (e:(l++[x])[i]?=some y):l[i]?=some y∨i=l.length∧y=x:=by
 rcases Nat.lt_or_ge i l.length with h | h
 ·rw [List.getElem?_append_left h] at e; exact .inl e
 ·rw [List.getElem?_append_right h] at e
  obtain ⟨k,hk⟩:∃ k,i - l.length=k:=⟨_,rfl⟩
  rw [hk] at e
  cases k with
  | zero=>apply s1 e; exact .inr ⟨Nat.le_antisymm (Nat.sub_eq_zero_iff_le.mp hk) h,rfl⟩
  | succ k=>exact noS e
theorem set_get {α:Type} {l:List α} {x y:α} {i j:Nat} (e:(l.set i x)[j]?=some y):(i=j∧y=x)∨(i≠j∧l[j]?=some y):=by
 by_cases h:i=j
 ·subst h
  rw [List.getElem?_set_self (by simpa using (List.getElem?_eq_some_iff.mp e).1)] at e
  apply s1 e; exact .inl ⟨rfl,rfl⟩
 ·rw [List.getElem?_set_ne h] at e; exact .inr ⟨h,e⟩
theorem Inv.updO {o':O} {as:List Addr} {i:Nat} {h':Heap} {tk:Nat} (I:Inv B F σ s) (ef:Fat F i as) (k:Kept (·∈as) s.heap h') (hor:Mv F F s.heap h'→OR B h' F o' as) :
  Inv B F (σ.set i o') { s with heap:=h',toks:=tk }:=by
 have m:Mv F F s.heap h':=.of_kept k fun b ob w e=>I.mut (flat_mem ef.2 w) ob e
 refine x0_3 (I.rest k (fun b w=>I.fresh b (flat_mem ef.2 w)) m) fun q1 q2 q3=>?_
 refine ⟨q1,q2,I.gens,I.os,by rw [List.length_set]; exact I.len,fun j oj asj ejo ej=>?_,I.nodup,I.fresh,q3,I.tabo,I.tabc,I.low,?_⟩
 ·rcases set_get ejo with ⟨rfl,rfl⟩ | ⟨n,q⟩
  ·cases ef.2.symm.trans ej; exact hor m
  ·exact (I.obj j oj asj q ej).mono (fun b hb ob e=>k b ob e fun w=>n (flat_one I.nodup ef.2 ej w hb)) m
 ·rw [List.getElem?_set_ne (Nat.ne_of_gt ef.1)]; exact I.zero
theorem Inv.grow {o:O} {as:List Addr} (I:Inv B F σ s) (hobj:∀ (i:Nat) (o':O) (as':List Addr),σ[i]?=some o'→F[i]?=some as'→OR B s.heap (F++[as]) o' as') (hor:OR B s.heap (F++[as]) o as) (nd:as.Nodup) (hf:∀ a∈as,a∉F.flatten) (hb:∀ a∈as,B.h0.get? a=none):Inv B (F++[as]) (σ++[o]) s:=by
 have fl:(F++[as]).flatten=F.flatten++as:=by simp
 refine ⟨I.old,I.lim,I.gens,I.os,by rw [List.length_append,List.length_append,I.len]; rfl,fun i o' as' eo e=>?_,?_,fun b q=>?_,I.tabs,I.tabo,I.tabc,I.low,?_⟩
 ·rcases cat_get eo with eo | ⟨rfl,rfl⟩
  ·rcases cat_get e with e | ⟨rfl,_⟩
   ·exact hobj i o' as' eo e
   ·rw [I.len] at eo; exact absurd (List.getElem?_eq_some_iff.mp eo).1 (Nat.lt_irrefl _)
  ·rw [← I.len,List.getElem?_concat_length] at e
   apply s1 e; exact hor
 ·rw [fl,List.nodup_append]
  exact ⟨I.nodup,nd,fun b hb' c hc e=>hf c hc (e▸hb')⟩
 ·rw [fl,List.mem_append] at q
  exact q.elim (I.fresh b) (hb b)
 ·rw [List.getElem?_append_left I.size]; exact I.zero
theorem Inv.newO {o:O} {as:List Addr} {s₁:Shared} (I:Inv B F σ s) (I₁:Inv B F σ s₁) (m:Mv F F s.heap s₁.heap) (ka:∀ a∈F.flatten,∀ ob,s.heap.get? a=some ob→s₁.heap.get? a=some ob) (d:∀ a∈as,s.heap.get? a=none) (nd:as.Nodup)
  (hor:Mv F (F++[as]) s.heap s₁.heap→OR B s₁.heap (F++[as]) o as):Inv B (F++[as]) (σ++[o]) s₁ :=
 have m':Mv F (F++[as]) s.heap s₁.heap:=m.add fun a h=>d a (by simpa using h)
 I₁.grow (fun i o' as' eo e=>(I.obj i o' as' eo e).mono (fun a h=>ka a (flat_mem e h)) m') (hor m') nd (fun a h=>(I.dead (d a h)).2) fun a h=>(I.dead (d a h)).1
theorem Inv.alloc {xs:List V} {items:Array Value} {n:Nat} {tk:Nat} (I:Inv B F σ s) (hv:VRs B.fa s.heap F xs items.toList) (hz:xs.length≤maxLen) :
  Inv B (F++[[s.heap.objs.size]]) (σ++[.list xs]) { s with heap:=s.heap.push { cls:=.type "list",data:=.seq items n },toks:=tk } :=
 I.newO (I.push _ tk) (.push _ _ _) (fun ζ ζ ζ e=>Heap.get?_push_of_some _ e) (fun a h=>by cases List.mem_singleton.mp h; exact dead_size _) (by simp) fun m=>⟨_,items,rfl,⟨n,Heap.get?_push_size _ rfl⟩,hv.step m,hz⟩
theorem Step.of_updO {as:List Addr} {i:Nat} {h':Heap} {tk:Nat} (ef:Fat F i as) (k:Kept (·∈as) s.heap h'):Step B F s [] { s with heap:=h',toks:=tk }:=.of_kept (k.mono fun b w=>.inl ⟨_,_,ef,w⟩)
set_option tactic.hygienic true in
theorem vlist_is {i:Nat} {xs:List V} (e:vlist σ i=some xs):σ[i]?=some (.list xs):=by
 unfold vlist at e
 split at e
 ·rename_i ys q; apply s1 e; exact q
 ·exact noS e
theorem Inv.listAt (I:Inv B F σ s) {i:Nat} {xs:List V} (e:vlist σ i=some xs):∃ a items,Fat F i [a]∧s.heap.PlainList a items∧VRs B.fa s.heap F xs items.toList∧xs.length≤maxLen:=by
 obtain ⟨_,ef,a,items,hq_8,hl,hv,hz⟩:=I.at1 (vlist_is e) rfl
 subst hq_8
 exact ⟨a,items,ef,hl,hv,hz⟩
theorem Inv.upd {ys:List V} {its':Array Value} {a:Addr} {i:Nat} {h':Heap} {tk:Nat} (I:Inv B F σ s) (ef:Fat F i [a]) (hs:Heap.SameBut a s.heap h') (hl:h'.PlainList a its') (hv:VRs B.fa s.heap F ys its'.toList) (hz:ys.length≤maxLen) :
  Inv B F (σ.set i (.list ys)) { s with heap:=h',toks:=tk }:=I.updO ef ((Kept.of_same hs).mono fun ζ w=>List.mem_singleton.mpr w) fun m=>⟨a,its',rfl,hl,hv.step m,hz⟩
theorem Step.of_upd {a:Addr} {i:Nat} {h':Heap} {tk:Nat} (ef:Fat F i [a]) (hs:Heap.SameBut a s.heap h'):Step B F s [] { s with heap:=h',toks:=tk }:=.of_updO ef ((Kept.of_same hs).mono fun ζ w=>List.mem_singleton.mpr w)
theorem VRs.ints {fa:Nat→Addr} {h h':Heap} {F G:Lay}:∀ {xs:List Int} {ys:List Value},VRs fa h F (xs.map .int) ys→VRs fa h' G (xs.map .int) ys
 | [],_,r=>by cases r; exact .nil
 | x :: xs,_,r=>by
  cases r with
  | cons a r=>cases a; exact .cons (.int _ _) (VRs.ints r)
theorem Inv.scrAt (I:Inv B F σ s) {k:Nat} {ls:List V} (e:scrOf σ k=some ls):∃ items,s.heap.PlainList (B.fa k) items∧VRs B.fa s.heap F ls items.toList∧ls.length≤maxLen:=by
 refine x2_1 (I.zero) fun k' xs q=>?_
 rw [scrOf,q] at e
 dsimp only at e
 by_cases hk:k'=k
 ·rw [if_pos hk] at e
  subst hk
  cases e
  obtain ⟨_,_,_,hb,items,hw_9,hv⟩:=I.at q
  refine x1_1 (hw_9) fun n hl=>?_
  exact ⟨items,⟨n,I.old.get_of_cls hl (by simp)⟩,hv.ints,by rw [List.length_map]; exact hb⟩
 ·rw [if_neg hk] at e; exact noS e
theorem VR.refAt {i:Nat} {a:Addr} {as:List Addr} {x:Value} {h:Heap} (r:VR B.fa h F (.ref i) x) (e:Fat F i (a :: as)):x=.ref a:=by
 refine x2_2 (r.ref_is) fun ζ ζ hq_10 q=>?_
 apply q1 hq_10
 cases q.2.symm.trans e.2; rfl
end
end Mine
namespace Mine
open PySem
noncomputable abbrev Bot:Value→Shared→Prop:=fun ζ ζ=>False
noncomputable def EvT {α:Type} (B:Base) (A:Around) (F:Lay) (s:Shared) (t:Sem α) (P:α→Lay→Shared→Prop):Prop :=
 wpAny (model B.prog B.w) A t (fun a s'=>∃ G,Step B F s G s'∧P a (F++G) s') Bot s
noncomputable def PE (B:Base) (σ:Sto) (v:V) (x:Value) (F:Lay) (s:Shared):Prop:=Inv B F σ s∧VR B.fa s.heap F v x
noncomputable def PB (B:Base) (σ:Sto) (v:Bool) (x:Bool) (F:Lay) (s:Shared):Prop:=Inv B F σ s∧x=v
noncomputable def PU (B:Base) (σ:Sto) (_:Unit) (F:Lay) (s:Shared):Prop:=Inv B F σ s
structure Room (A:Around) (d:Nat):Prop where
 handled:A.handled=none
 depth:A.depth+d≤800
 units:A.units+10*d+100≤9900
structure Near (A A':Around):Prop where
 handled:A.handled=none→A'.handled=none
 depth:A'.depth≤A.depth
 units:A'.units≤A.units+7
theorem Near.refl (A:Around):Near A A:=⟨id,Nat.le_refl _,Nat.le_add_right _ _⟩
section
variable {α:Type} {B:Base} {A:Around} {F G:Lay} {σ:Sto} {s s':Shared} {t:Sem α} {P:α→Lay→Shared→Prop}
theorem EvT.seq {Q:α→Shared→Prop} (h:EvT B A F s t P) (k:∀ a G s',Step B F s G s'→P a (F++G) s'→Q a s'):wpAny (model B.prog B.w) A t Q Bot s :=
 wpAny_mono h (fun a s' ⟨G,T,p⟩=>k a G s' T p) fun ζ ζ x=>x
theorem evEnd {v:V} {x:Value} {h':Heap} {tk:Nat} (k:Kept (Wr B F) s.heap h') (I:Inv B F σ { s with heap:=h',toks:=tk }) (r:VR B.fa h' F v x):∃ G,Step B F s G { s with heap:=h',toks:=tk }∧PE B σ v x (F++G) { s with heap:=h',toks:=tk } :=
 ⟨[],.of_kept k,by rw [List.append_nil]; exact ⟨I,r⟩⟩
theorem evTok {v:V} {x:Value} (tk:Nat) (I:Inv B F σ s) (r:VR B.fa s.heap F v x):∃ G,Step B F s G { s with toks:=tk }∧PE B σ v x (F++G) { s with toks:=tk } :=
 evEnd (h':=s.heap) (.refl _ _) (I.toks tk) r
theorem evTokB {b:Bool} (tk:Nat) (I:Inv B F σ s):∃ G,Step B F s G { s with toks:=tk }∧PB B σ b b (F++G) { s with toks:=tk } :=
 ⟨[],.of_kept (h':=s.heap) (.refl _ _),by rw [List.append_nil]; exact ⟨I.toks tk,rfl⟩⟩
theorem evList {xs:List V} {items:Array Value} {n:Nat} {tk:Nat} (I:Inv B F σ s) (hv:VRs B.fa s.heap F xs items.toList) (hz:xs.length≤maxLen) :
  ∃ G,Step B F s G { s with heap:=s.heap.push { cls:=.type "list",data:=.seq items n },toks:=tk }∧PE B σ (.lst xs) (.ref s.heap.objs.size) (F++G) { s with heap:=s.heap.push { cls:=.type "list",data:=.seq items n },toks:=tk } :=
 evEnd (.push _ _ _) (I.push _ tk) (.lst (n:=n) (Heap.get?_push_size _ rfl) (I.dead (dead_size _)).2 (hv.step (.push _ _ _)) hz)
theorem evCell {xs:List V} {items:Array Value} {n:Nat} {tk:Nat} (I:Inv B F σ s) (hv:VRs B.fa s.heap F xs items.toList) (hz:xs.length≤maxLen) :
  ∃ G,Step B F s G { s with heap:=s.heap.push { cls:=.type "list",data:=.seq items n },toks:=tk }∧PE B (σ++[.list xs]) (.ref σ.length) (.ref s.heap.objs.size) (F++G) { s with heap:=s.heap.push { cls:=.type "list",data:=.seq items n },toks:=tk } :=
 ⟨[[s.heap.objs.size]],⟨.push _ _ _,fun a ha=>by simp at ha; rw [ha]; exact dead_size _⟩,I.alloc hv hz,.ref (as:=[]) ⟨I.size,by rw [← I.len,List.getElem?_concat_length]⟩⟩
theorem evNew (cell:Bool) {xs:List V} {items:Array Value} {n:Nat} {tk:Nat} (I:Inv B F σ s) (hv:VRs B.fa s.heap F xs items.toList) (hz:xs.length≤maxLen) :
  ∃ G,Step B F s G { s with heap:=s.heap.push { cls:=.type "list",data:=.seq items n },toks:=tk }∧PE B (newL cell xs σ).2 (newL cell xs σ).1 (.ref s.heap.objs.size) (F++G) { s with heap:=s.heap.push { cls:=.type "list",data:=.seq items n },toks:=tk }:=by
 cases cell with
 | true=>exact evCell I hv hz
 | false=>exact evList I hv hz
theorem evPush {v:V} {x:Value} {o:Obj} {tk:Nat} (I:Inv B F σ s) (r:VR B.fa (s.heap.push o) F v x):∃ G,Step B F s G { s with heap:=s.heap.push o,toks:=tk }∧PE B σ v x (F++G) { s with heap:=s.heap.push o,toks:=tk } :=
 evEnd (.push _ _ _) (I.push o tk) r
end
theorem str_len {x:Str} {l:List Nat} (e:x.cps.toList=l):x.length=l.length:=by rw [← e]; exact (Array.length_toList).symm
theorem str_app (x y:Str):(x++y).cps.toList=x.cps.toList++y.cps.toList:=by
 show (x.cps++y.cps).toList=_
 simp
theorem small_lt {x:Int} (h:small x=true):x.natAbs < 2 ^ 64:=by
 have:=of_decide_eq_true h; omega
theorem small_bits {x:Int} (h:small x=true):Builtin.Int.intBits x≤64:=by
 have:=small_lt h
 exact intBits_le_64 (by omega) (by omega)
theorem len_line {n:Nat} (h:n≤maxLen):n≤sizeLine:=Nat.le_trans h (by decide)
section
variable {B:Base} {A:Around} {F:Lay} {σ σ':Sto} {s:Shared} {d:Nat} {a b v:V} {x y:Value}
theorem intV_is {i:Int} (h:intV a=some i):a=.int i:=by
 cases a <;> first | (cases h; rfl) | exact noS h
theorem strV_is {l:List Nat} (h:strV a=some l):a=.str l:=by
 cases a <;> first | (cases h; rfl) | exact noS h
theorem refV_is {i:Nat} (h:refV a=some i):a=.ref i:=by
 cases a <;> first | (cases h; rfl) | exact noS h
theorem tupV_is {l:List V} (h:tupV a=some l):a=.tup l:=by
 cases a <;> first | (cases h; rfl) | exact noS h
theorem bytesV_is {l:List Nat} (h:bytesV a=some l):a=.bytes l:=by
 cases a <;> first | (cases h; rfl) | exact noS h
theorem boolV_is {l:Bool} (h:boolV a=some l):a=.bool l:=by
 cases a <;> first | (cases h; rfl) | exact noS h
theorem fnV_is {l:Nat} (h:fnV a=some l):a=.fn l:=by
 cases a <;> first | (cases h; rfl) | exact noS h
theorem tyV_is {l:Ty} (h:tyV a=some l):a=.ty l:=by
 cases a <;> first | (cases h; rfl) | exact noS h
theorem isNone_is (h:isNone a=true):a=.none:=by
 cases a <;> first | rfl | exact noT h
section
variable {fa:Nat→Addr} {h:Heap}
theorem VR.ofInt {i:Int} (r:VR fa h F a x) (e:intV a=some i):∃ t,x=.int i t:=by have r:=intV_is e▸r; exact r.int_is
theorem VR.ofStr {l:List Nat} (r:VR fa h F a x) (e:strV a=some l):∃ s t,x=.str s t∧s.cps.toList=l∧l.length≤maxLen:=by have r:=strV_is e▸r; exact r.str_is
theorem VR.ofBytes {l:List Nat} (r:VR fa h F a x) (e:bytesV a=some l):∃ s t,x=.bytes s t∧s.toList.map UInt8.toNat=l∧l.length≤maxLen:=by have r:=bytesV_is e▸r; exact r.bytes_is
theorem VR.ofTup {vs:List V} (r:VR fa h F a x) (e:tupV a=some vs):∃ (a:Addr) (items:Array Value) (n:Nat),x=.ref a∧h.get? a=some { cls:=.type "tuple",data:=.seq items n }∧VRs fa h F vs items.toList∧vs.length≤maxLen:=by have r:=tupV_is e▸r; exact r.tup_is
theorem VR.asTup {vs:List V} (r:VR fa h F a x) (e:tupV a=some vs):VR fa h F (.tup vs) x:=tupV_is e▸r
theorem VR.asRef {i:Nat} (r:VR fa h F a x) (e:refV a=some i):VR fa h F (.ref i) x:=refV_is e▸r
theorem VR.ofBool {c:Bool} (r:VR fa h F a x) (e:boolV a=some c):x=.bool c:=by have r:=boolV_is e▸r; exact r.bool_is
theorem VR.ofFn {f:Nat} (r:VR fa h F a x) (e:fnV a=some f):x=.ref (fa f):=by have r:=fnV_is e▸r; exact r.fn_is
theorem VR.ofTy {t:Ty} (r:VR fa h F a x) (e:tyV a=some t):x=.type t.nm:=by have r:=tyV_is e▸r; exact r.ty_is
theorem VR.ofNone (r:VR fa h F a x) (e:isNone a=true):x=.none:=by have r:=isNone_is e▸r; exact r.none_is
theorem VR.asLst {vs:List V} (r:VR fa h F (.lst vs) x):∃ (a:Addr) (items:Array Value),x=.ref a∧h.PlainList a items∧VRs fa h F vs items.toList∧vs.length≤maxLen :=
 let ⟨a,items,n,q,e,_,r,b⟩:=r.lst_is; ⟨a,items,q,⟨n,e⟩,r,b⟩
theorem VR.asList {xs:List V} (r:VR B.fa s.heap F a x) (I:Inv B F σ s) (e:lsV σ a=some xs):∃ (a:Addr) (items:Array Value),x=.ref a∧s.heap.PlainList a items∧VRs B.fa s.heap F xs items.toList∧xs.length≤maxLen:=by
 cases a with
 | ref i =>
  refine x2_4 (I.listAt (show vlist σ i=some xs from e)) fun a items q hl hv hz=>?_
  exact ⟨a,items,r.refAt q,hl,hv,hz⟩
 | lst ys=>apply s1 e; exact r.asLst
 | _=>exact noS e
end
theorem isAdd_is {op:Operator} (h:isAdd op=true):op=.Add:=by
 cases op <;> first | rfl | exact noT h
theorem isMult_is {op:Operator} (h:isMult op=true):op=.Mult:=by
 cases op <;> first | rfl | exact noT h
theorem one_is {α:Type} {as:List V} {f:V→Option α} {r:α} (h:arg1 as f=some r):∃ v,as=[v]∧f v=some r:=by
 cases as with
 | nil=>exact noS h
 | cons v as =>
  have h:(if as.isEmpty then f v else none)=some r:=h
  cases as with
  | nil=>exact ⟨v,rfl,h⟩
  | cons=>exact noS h
theorem two_is {α:Type} {as:List V} {f:V→V→Option α} {r:α} (h:arg2 as f=some r):∃ v w,as=[v,w]∧f v w=some r:=by
 cases as with
 | nil=>exact noS h
 | cons v as =>
  refine x1_2 (one_is (show (arg1 as fun w=>f v w)=some r from h)) ?_
  (try clear w)
  intro w hq_11 e
  apply q1 hq_11
  exact ⟨v,w,rfl,e⟩
theorem bind_is {α β:Type} {o:Option α} {f:α→Option β} {r:β} (h:o.bind f=some r):∃ x,o=some x∧f x=some r:=Option.bind_eq_some_iff.mp h
theorem map_is {α β:Type} {o:Option α} {f:α→β} {r:β} (h:o.map f=some r):∃ x,o=some x∧f x=r:=Option.map_eq_some_iff.mp h
theorem ite_is {α:Type} {c:Prop} [Decidable c] {x r:α} (h:(if c then some x else none)=some r):c∧x=r:=by
 by_cases q:c
 ·rw [if_pos q] at h; cases h; exact ⟨q,rfl⟩
 ·rw [if_neg q] at h; exact noS h
theorem ite_of {α:Type} {c:Prop} [Decidable c] {x:Option α} {r:α} (h:(if c then x else none)=some r):c∧x=some r:=by
 by_cases q:c
 ·rw [if_pos q] at h; exact ⟨q,h⟩
 ·rw [if_neg q] at h; exact noS h
theorem ite_not {α:Type} {c:Prop} [Decidable c] {x r:α} (h:(if c then none else some x)=some r):¬ c∧x=r:=by
 by_cases q:c
 ·rw [if_pos q] at h; exact noS h
 ·rw [if_neg q] at h; cases h; exact ⟨q,rfl⟩
theorem or_is {α:Type} {x y:Option α} {r:α} (h:orO x y=some r):x=some r∨y=some r:=by
 cases x with
 | none=>exact .inr h
 | some z=>exact .inl h
theorem bin2_is {α β γ:Type} {x:Option α} {y:α→Option β} {f:α→β→Option γ} {r:γ} (h:(x.bind fun a=>(y a).bind fun b=>f a b)=some r):∃ a b,x=some a∧y a=some b∧f a b=some r:=by
 refine x1_2 (bind_is h) ?_
 (try clear h)
 intro a h1 h
 refine x1_2 (bind_is h) ?_
 (try clear h)
 intro b h2 h
 exact ⟨a,b,h1,h2,h⟩
theorem map2_is {α β γ:Type} {x:Option α} {y:α→Option β} {f:α→β→γ} {r:γ} (h:(x.bind fun a=>(y a).map fun b=>f a b)=some r):∃ a b,x=some a∧y a=some b∧f a b=r:=by
 refine x1_2 (bind_is h) ?_
 (try clear h)
 intro a h1 h
 refine x1_2 (map_is h) ?_
 (try clear h)
 intro b h2 h
 exact ⟨a,b,h1,h2,h⟩
theorem newList_is {xs:List V} {r:V × Sto} (h:newList xs σ=some r):xs.length≤maxLen∧(V.lst xs,σ)=r:=ite_is h
theorem mkStr_is {l:List Nat} {r:V × Sto} (h:mkStr l σ=some r):l.length≤maxLen∧(V.str l,σ)=r:=ite_is h
theorem nopy {y:Int} (h:small y=true):y.natAbs.log2 < 64:=by
 by_cases h0:y.natAbs=0
 ·rw [h0]; decide +kernel
 ·exact (Nat.log2_lt h0).mpr (small_lt h)
theorem and3 {a b c:Bool} (h:(a&&b&&c)=true):a=true∧b=true∧c=true:=by
 cases a <;> cases b <;> cases c <;> first | exact ⟨rfl,rfl,rfl⟩ | exact noT h
theorem or2 {c:Prop} [Decidable c] {a:Bool} (h:¬ (decide c||!a)=true):¬ c∧a=true:=by
 cases a <;> by_cases q:c <;> simp_all
theorem bits_le {x y:Int} (hx:Builtin.Int.intBits x≤64) (h0:0≤y) (h1:y≤1000):(Builtin.Int.intBits x:Int)*y≤64*1000 :=
 Int.le_trans (Int.mul_le_mul_of_nonneg_right (Int.ofNat_le.mpr hx) h0) (Int.mul_le_mul_of_nonneg_left h1 (by decide))
theorem ii_ok (I:Inv B F σ s) {x y:Int} {t u:Tok} {op:Operator} (e:bII op x y σ=some (v,σ')):EvT B A F s (binaryOp op (.int x t) (.int y u)) (PE B σ' v):=by
 cases op with
 | Add=>apply s2 e; exact wpAny_add_int (evTok _ I (.int _ _))
 | Sub=>apply s2 e; exact PyProof.Rows.sub_int (evTok _ I (.int _ _))
 | Mult =>
  refine x0_2 (ite_is e) ?_
  (try clear e)
  intro q e
  apply p2 e; exact PyProof.Rows.mul_int (evTok _ I (.int _ _)) (.of_right (small_bits q))
 | FloorDiv =>
  refine x0_2 (ite_not e) ?_
  (try clear e)
  intro q e
  apply p2 e
  have q:=or2 q
  exact PyProof.Rows.floordiv_int q.1 (evTok _ I (.int _ _)) (.inl (PyProof.noPylong_of_log2 (Nat.lt_trans (nopy q.2) (by decide))))
 | Mod =>
  refine x0_2 (ite_not e) ?_
  (try clear e)
  intro q e
  apply p2 e; exact PyProof.Rows.mod_int' q (evTok _ I (.int _ _))
 | Pow =>
  refine x0_2 (ite_is e) ?_
  (try clear e)
  intro q e
  apply p2 e
  refine x0_3 (and3 q) fun q1 q2 q3=>?_
  exact PyProof.Rows.pow_int (of_decide_eq_true q2) (Int.le_trans (bits_le (small_bits q1) (of_decide_eq_true q2) (of_decide_eq_true q3)) (by decide)) (evTok _ I (.int _ _))
 | LShift =>
  refine x0_2 (ite_is e) ?_
  (try clear e)
  intro q e
  apply p2 e
  refine x0_3 (and3 q) fun q1 q2 q3=>?_
  exact PyProof.Rows.lshift_int_small (of_decide_eq_true q2) (Int.le_trans (of_decide_eq_true q3) (by decide)) (small_lt q1) (evTok _ I (.int _ _))
 | RShift =>
  refine x0_2 (ite_is e) ?_
  (try clear e)
  intro q e
  apply p2 e; exact PyProof.Rows.rshift_int q (evTok _ I (.int _ _))
 | BitAnd=>apply s2 e; exact PyProof.Rows.and_int (evTok _ I (.int _ _))
 | BitOr=>apply s2 e; exact PyProof.Rows.or_int (evTok _ I (.int _ _))
 | BitXor=>apply s2 e; exact PyProof.Rows.xor_int (evTok _ I (.int _ _))
 | _=>exact noS e
theorem ss_ok (I:Inv B F σ s) {x y:Str} {l m:List Nat} {t u:Tok} (e1:x.cps.toList=l) (e2:y.cps.toList=m) (q:(l++m).length≤maxLen):EvT B A F s (binaryOp .Add (.str x t) (.str y u)) (PE B σ (.str (l++m))) :=
 PyProof.Rows.add_str (fun t' tk=>evTok _ I (.str _ (by rw [str_app,e1,e2]) q)) (by rw [str_len e1,str_len e2,← List.length_append]; exact len_line q)
theorem fold_rep:∀ (n:Nat) (acc:Array Nat) (c:Array Nat),((List.replicate n c).foldl (·++·) acc).toList=acc.toList++(List.replicate n c.toList).flatten
 | 0,acc,c=>by simp
 | n+1,acc,c=>by rw [List.replicate_succ,List.foldl_cons,fold_rep n]; simp [List.replicate_succ]
theorem rep_len {α:Type} {x:List α} {n:Nat} (h1:n≤1000) (h2:x.length≤1000):(List.replicate n x).flatten.length≤1000000:=by
 rw [List.length_flatten,List.map_replicate,List.sum_replicate_nat]
 exact Nat.mul_le_mul h1 h2
theorem toNat_le {y:Int} (h:y≤1000):y.toNat≤1000:=Int.toNat_le.mpr h
set_option tactic.hygienic true in
theorem si_ok (I:Inv B F σ s) {x:Str} {l:List Nat} {y:Int} {t u:Tok} (e1:x.cps.toList=l) (q0:0≤y) (q1:y≤1000) (q2:l.length≤1000):EvT B A F s (binaryOp .Mult (.str x t) (.int y u)) (PE B σ (.str (List.replicate y.toNat l).flatten)):=by
 have hl:=str_len e1
 have hz:((List.replicate y.toNat l).flatten).length≤maxLen:=Nat.le_trans (rep_len (toNat_le q1) q2) (by decide)
 refine PySem.P.mul_str (by simp; (first | lia | omega)) (fun _ _=>?_) (fun _ _=>?_) ?_
 ·rename_i n1 _
  have:(1:Int)≤y:=by (first | lia | omega)
  have h2:(1000:Int)≤(2 ^ 63 - 1) / y:=by
   rw [Int.le_ediv_iff_mul_le (by (first | lia | omega))]; (first | lia | omega)
  (first | lia | omega)
 ·show decide (_ > sizeLine)=false
  have:l.length*y.toNat≤1000*1000:=Nat.mul_le_mul q2 (toNat_le q1)
  rw [hl]; exact decide_eq_false (Nat.not_lt.mpr (Nat.le_trans this (by decide)))
 ·split
  ·have:y.toNat=0:=by (first | lia | omega)
   exact ⟨by decide,evTok _ I (.str _ (by rw [this]; rfl) hz)⟩
  ·split
   ·rename_i q3
    refine evTok s.toks I (.str _ ?_ hz)
    rw [Bool.or_eq_true] at q3
    rcases q3 with q3 | q3
    ·have:y=1:=by simpa using q3
     subst this; simpa using e1
    ·have hn:l.length=0:=by rw [← hl]; simpa using q3
     have:l=[]:=List.length_eq_zero_iff.mp hn
     subst this; rw [e1]; simp
   ·have e2:∀ c:Array Nat,c.toList=l→((List.replicate y.toNat c).foldl (·++·) #[]).toList=(List.replicate y.toNat l).flatten:=fun c hc=>by rw [fold_rep,hc]; rfl
    refine ⟨?_,evTok _ I (.str _ (e2 _ e1) hz)⟩
    rw [str_len (e2 _ e1)]; exact len_line hz
theorem ll_ok (I:Inv B F σ s) (ra:VR B.fa s.heap F a x) (rb:VR B.fa s.heap F b y) {xs ys:List V} (h1:lsV σ a=some xs) (h2:lsV σ b=some ys) (e:bLL xs ys σ=some (v,σ')):EvT B A F s (binaryOp .Add x y) (PE B σ' v):=by
 refine x0_2 (newList_is e) ?_
 (try clear e)
 intro q e
 apply p2 e
 refine x2_4 (ra.asList I h1) fun a1 its1 hq_12 hw_13 v1 ζ=>?_
 apply q1 hq_12
 refine x1_1 (hw_13) fun n1 l1=>?_
 refine x2_4 (rb.asList I h2) fun a2 its2 hq_14 hw_15 v2 ζ=>?_
 apply q1 hq_14
 refine x1_1 (hw_15) fun n2 l2=>?_
 have z:its1.size+its2.size=(xs++ys).length:=by rw [List.length_append,v1.length,v2.length,Array.length_toList,Array.length_toList]
 exact concat_meets ⟨_,l1,rfl⟩ ⟨_,l2,rfl⟩ noFill_list_add seq_list_add PySem.F.slot_list_add PySem.F.entry_list_add (PySem.F.args_list_add_2 _ _) (PyProof.Rows.list_addW a1 a2 its1 its2 n1 n2 none none #[] #[] (by rw [z]; exact len_line q)) ⟨l1,l2,evList I (by rw [Array.toList_append]; exact v1.append v2) q⟩
theorem vrs_rep {h:Heap} {xs:List V} {its:Array Value} (r:VRs B.fa h F xs its.toList):∀ (n:Nat) (acc:Array Value) (us:List V),VRs B.fa h F us acc.toList→VRs B.fa h F (us++(List.replicate n xs).flatten) ((List.replicate n its).foldl (·++·) acc).toList
 | 0,acc,us,h=>by simpa using h
 | n+1,acc,us,h=>by
  rw [List.replicate_succ,List.replicate_succ,List.foldl_cons,List.flatten_cons,← List.append_assoc]
  exact vrs_rep r n _ _ (by rw [Array.toList_append]; exact h.append r)
theorem li_ok (I:Inv B F σ s) {y:Int} {u:Tok} (ra:VR B.fa s.heap F a x) {xs:List V} (h1:lsV σ a=some xs) (e:bLI xs y σ=some (v,σ')):EvT B A F s (binaryOp .Mult x (.int y u)) (PE B σ' v):=by
 refine x0_2 (ite_of e) ?_
 (try clear e)
 intro hw_16 e
 refine x0_4 (hw_16) fun q0 q1 q2 q3=>?_
 refine x0_2 (newList_is e) ?_
 (try clear e)
 intro hz e
 apply p2 e
 refine x2_4 (ra.asList I h1) fun a1 its1 hq_17 hw_18 v1 ζ=>?_
 subst hq_17
 refine x1_1 (hw_18) fun n1 l1=>?_
 have z1:xs.length=its1.size:=v1.length.trans Array.length_toList
 have hm:its1.size*y.toNat≤1000*1000:=Nat.mul_le_mul (z1▸q2) (toNat_le q1)
 have hne:its1.isEmpty=false:=by
  cases h:its1.isEmpty with
  | false=>rfl
  | true=>exact absurd (List.length_eq_zero_iff.mp (z1.trans (Array.isEmpty_iff_size_eq_zero.mp h))) q3
 refine wpAny_binaryOp_repeat_ref (T:="list") (U:="int") (by decide) ⟨_,l1,rfl⟩ (fun s'=>typeIs_int s' y u) noFill_list_mul PySem.F.fills_int_mul PySem.F.slot_int_rmul repeat_list PySem.F.slot_int_index.lookup
  (call_meets PySem.F.slot_int_rmul (typeIs_int s y u) PySem.F.entry_int_rmul (PySem.F.args_int_rmul_2 _ _) (int___rmul___int_list y u a1 its1 n1)
   ⟨l1,rfl,⟨_,l1,rfl⟩,call_meets PySem.F.slot_list_mul ⟨_,l1,rfl⟩ PySem.F.entry_list_mul (PySem.F.args_list_mul_2 _ _)
    (AutoListH.list___mul___list_int_3 a1 its1 n1 y u (by simp [Builtin.List.listFitsIndex]; (first | lia | omega)) (by (first | lia | omega)) (by simp [Builtin.List.listTooLong,sizeLine]; (first | lia | omega))) ⟨l1,?_⟩⟩)
 rw [hne]
 exact evList I (by simpa using vrs_rep v1 y.toNat #[] [] .nil) hz
theorem bin_ok (R:Room A d) (I:Inv B F σ s) (ra:VR B.fa s.heap F a x) (rb:VR B.fa s.heap F b y) {op:Operator} (e:binop op a b σ=some (v,σ')):EvT B A F s (binaryOp op x y) (PE B σ' v):=by
 rcases or_is e with e | e
 ·refine x2_3 (bin2_is e) ?_
  (try clear e)
  intro i j h1 h2 e
  refine x1_1 (ra.ofInt h1) fun t hq_19=>?_
  apply q1 hq_19
  refine x1_1 (rb.ofInt h2) fun u hq_20=>?_
  apply q1 hq_20
  exact ii_ok I e
 rcases or_is e with e | e
 ·refine x0_2 (ite_of e) ?_
  (try clear e)
  intro q e
  refine x2_3 (bin2_is e) ?_
  (try clear e)
  intro l m h1 h2 e
  refine x2_3 (ra.ofStr h1) fun p t hq_21 e1 ζ=>?_
  apply q1 hq_21
  refine x2_3 (rb.ofStr h2) fun r u hq_22 e2 ζ=>?_
  apply q1 hq_22
  refine x0_2 (mkStr_is e) ?_
  (try clear e)
  intro z e
  apply p2 e
  exact isAdd_is q▸ss_ok I e1 e2 z
 rcases or_is e with e | e
 ·refine x0_2 (ite_of e) ?_
  (try clear e)
  intro q e
  refine x2_3 (bin2_is e) ?_
  (try clear e)
  intro l j h1 h2 e
  refine x2_3 (ra.ofStr h1) fun p t hq_23 e1 ζ=>?_
  apply q1 hq_23
  refine x1_1 (rb.ofInt h2) fun u hq_24=>?_
  apply q1 hq_24
  refine x0_2 (ite_is e) ?_
  (try clear e)
  intro z e
  apply p2 e
  exact isMult_is q▸si_ok I e1 z.1 z.2.1 z.2.2
 rcases or_is e with e | e
 ·refine x0_2 (ite_of e) ?_
  (try clear e)
  intro q e
  refine x2_3 (bin2_is e) ?_
  (try clear e)
  intro i j h1 h2 e
  exact isAdd_is q▸ll_ok I ra rb h1 h2 e
 ·refine x0_2 (ite_of e) ?_
  (try clear e)
  intro q e
  refine x2_3 (bin2_is e) ?_
  (try clear e)
  intro i j h1 h2 e
  refine x1_1 (rb.ofInt h2) fun u hq_25=>?_
  apply q1 hq_25
  exact isMult_is q▸li_ok I ra h1 e
theorem aug_ok (R:Room A d) (I:Inv B F σ s) (ra:VR B.fa s.heap F a x) (rb:VR B.fa s.heap F b y) {op:Operator} (e:augop op a b σ=some (v,σ')):EvT B A F s (inplaceOp op x y) (PE B σ' v):=by
 refine x0_2 (ite_of e) ?_
 (try clear e)
 intro q e
 rw [isAdd_is q]
 rcases or_is e with e | e
 ·refine x2_3 (map2_is e) ?_
  (try clear e)
  intro i j h1 h2 e
  refine x1_1 (ra.ofInt h1) fun t hq_26=>?_
  apply q1 hq_26
  refine x1_1 (rb.ofInt h2) fun u hq_27=>?_
  apply q1 hq_27
  apply p2 e
  exact wpAny_iadd_int (evTok _ I (.int _ _))
 ·refine x2_3 (bin2_is e) ?_
  (try clear e)
  intro l m h1 h2 e
  refine x2_3 (ra.ofStr h1) fun p t hq_28 e1 ζ=>?_
  apply q1 hq_28
  refine x2_3 (rb.ofStr h2) fun r u hq_29 e2 ζ=>?_
  apply q1 hq_29
  refine x0_2 (mkStr_is e) ?_
  (try clear e)
  intro z e
  apply p2 e
  refine PyProof.Rows.iadd_str (fun t' tk=>evTok _ I (.str _ (by rw [str_app,e1,e2]) z)) ?_
  rw [str_len e1,str_len e2,← List.length_append]; exact len_line z
end
end Mine
namespace Mine
open PySem PySem.SeqAt
noncomputable def eqC:Value→Value→Bool
 | .int a _,.int b _=>a==b
 | .str a _,.str b _=>a==b
 | .none,.none=>true
 | .bool a,.bool b=>a==b
 | _,_=>false
section
variable {B:Base} {A:Around} {F:Lay} {σ σ':Sto} {s:Shared} {d:Nat} {a b v:V} {x y:Value}
theorem str_eq {p q:Str} {l m:List Nat} (h1:p.cps.toList=l) (h2:q.cps.toList=m):(p==q)=(l==m):=by rw [← str_beq,h1,h2]
noncomputable def EqP (x y:Value) (c:Bool):Prop:=(∀ A s,EqAt A s x y (eqC x y))∧(∀ A s,RcAt A s x y (eqC x y))∧(∀ A s,RcNeAt A s x y (!eqC x y))∧eqC x y=c
theorem eqS_ok {h:Heap} (ra:VR B.fa h F a x) (rb:VR B.fa h F b y) {c:Bool} (e:eqS a b=some c):EqP x y c:=by
 rcases or_is e with e | e
 ·refine x1_2 (bind_is e) ?_
  (try clear e)
  intro i h1 e
  refine x1_1 (ra.ofInt h1) fun t hq_30=>?_
  apply q1 hq_30
  rcases or_is e with e | e
  ·refine x1_2 (map_is e) fun j h2 hq_31=>?_
   apply q2 hq_31
   refine x1_1 (rb.ofInt h2) fun u hq_32=>?_
   apply q1 hq_32
   exact ⟨fun ζ ζ=>.int_int _ _ _ _,fun ζ ζ=>.int_int _ _ _ _,fun ζ ζ=>.int_int _ _ _ _,rfl⟩
  ·refine x0_2 (ite_is e) fun q hq_33=>?_
   apply q2 hq_33
   rw [rb.ofNone q]
   exact ⟨fun ζ ζ=>.int_none _ _,fun ζ ζ=>.int_none _ _,fun ζ ζ=>.int_none _ _,rfl⟩
 rcases or_is e with e | e
 ·refine x2_3 (map2_is e) fun l m h1 h2 hq_34=>?_
  apply q2 hq_34
  refine x2_3 (ra.ofStr h1) fun p t hq_35 e1 ζ=>?_
  apply q1 hq_35
  refine x2_3 (rb.ofStr h2) fun r u hq_36 e2 ζ=>?_
  apply q1 hq_36
  exact ⟨fun ζ ζ=>.str_str _ _ _ _,fun ζ ζ=>.str_str _ _ _ _,fun ζ ζ=>.str_str _ _ _ _,str_eq e1 e2⟩
 rcases or_is e with e | e
 ·refine x0_2 (ite_of e) ?_
  (try clear e)
  intro q e
  rw [ra.ofNone q]
  by_cases q2:isNone b=true
  ·rw [if_pos q2] at e
   apply s1 e
   rw [rb.ofNone q2]
   exact ⟨fun ζ ζ=>.same _,fun ζ ζ=>.none_none,fun ζ ζ=>.none_none,rfl⟩
  ·rw [if_neg q2] at e
   refine x1_2 (map_is e) fun j h2 hq_37=>?_
   subst hq_37
   refine x1_1 (rb.ofInt h2) fun u hq_38=>?_
   apply q1 hq_38
   exact ⟨fun ζ ζ=>.none_int _ _,fun ζ ζ=>.none_int _ _,fun ζ ζ=>.none_int _ _,rfl⟩
 ·refine x2_3 (map2_is e) fun i j h1 h2 hq_39=>?_
  apply q2 hq_39
  rw [ra.ofBool h1,rb.ofBool h2]
  exact ⟨fun ζ ζ=>.bool_bool _ _,fun ζ ζ=>.bool_bool _ _,fun ζ ζ=>.bool_bool _ _,rfl⟩
theorem eqL_ok {h:Heap}:∀ {as bs:List V} {xs ys:List Value} {c:Bool},VRs B.fa h F as xs→VRs B.fa h F bs ys→eqL as bs=some c →
  xs.length=ys.length∧(∀ (j:Nat) (p q:Value),xs[j]?=some p→ys[j]?=some q→∀ A s,EqAt A s p q (eqC p q))∧(List.range xs.length).all (fun j=>eqC (xs.getD j .none) (ys.getD j .none))=c
 | [],bs,_,_,_,ra,rb,e=>by
  cases bs with
  | cons=>exact noS e
  | nil=>apply s1 e; rw [ra.nil_is,rb.nil_is]; exact ⟨rfl,fun ζ ζ ζ q=>(by cases q),rfl⟩
 | a :: as,bs,_,_,c,ra,rb,e=>by
  cases bs with
  | nil=>exact noS e
  | cons b bs =>
  refine x2_3 (map2_is e) fun u w h1 h2 hq_40=>?_
  apply q2 hq_40
  refine x2_3 (ra.cons_is) ?_; (try clear ra); intro x xs hq_41 ra rs
  apply q1 hq_41
  refine x2_3 (rb.cons_is) ?_; (try clear rb); intro y ys hq_42 rb rt
  apply q1 hq_42
  refine x0_3 (eqL_ok rs rt h2) fun l k z=>?_
  refine x0_4 (eqS_ok ra rb h1) fun e1 ζ ζ e2=>?_
  refine ⟨congrArg Nat.succ l,fun j p q hp hq=>?_,?_⟩
  ·cases j with
   | zero=>apply s1 hp; cases hq; exact e1
   | succ j=>exact k j p q hp hq
  ·rw [List.length_cons,List.range_succ_eq_map,List.all_cons,List.all_map]
   exact congr (congrArg _ e2) z
theorem inL_ok {h:Heap} (rb:VR B.fa h F b y):∀ {as:List V} {xs:List Value} {c:Bool},VRs B.fa h F as xs→inL b as=some c →
  (∀ p∈xs,∀ A s,EqAt A s p y (eqC p y))∧xs.any (fun p=>eqC p y)=c
 | [],_,_,ra,e=>by cases e; rw [ra.nil_is]; exact ⟨fun ζ q=>(by cases q),rfl⟩
 | a :: as,_,c,ra,e=>by
  refine x2_3 (map2_is e) fun u w h1 h2 hq_43=>?_
  apply q2 hq_43
  refine x2_3 (ra.cons_is) ?_; (try clear ra); intro x xs hq_44 ra rs
  apply q1 hq_44
  refine x0_2 (inL_ok rb rs h2) fun k z=>?_
  refine x0_4 (eqS_ok ra rb h1) fun e1 ζ ζ e2=>?_
  refine ⟨fun p hp=>?_,?_⟩
  ·rcases List.mem_cons.mp hp with rfl | hp
   ·exact e1
   ·exact k p hp
  ·rw [List.any_cons,e2,z]
theorem room_line (R:Room A d):A.units < cLine:=by
 have:=R.units
 show _ < 9900
 (first | lia | omega)
theorem evTokV {c c':Bool} (e:c=c') (tk:Nat) (I:Inv B F σ s):∃ G,Step B F s G { s with toks:=tk }∧PE B σ (.bool c') (.bool c) (F++G) { s with toks:=tk }:=by
 apply q1 e; exact evTok _ I (.bool _)
noncomputable def EqO (B:Base) (A:Around) (F:Lay) (σ:Sto) (s:Shared) (x y:Value) (c:Bool):Prop:=EvT B A F s (compareOp .Eq x y) (PE B σ (.bool c))∧EvT B A F s (compareOp .NotEq x y) (PE B σ (.bool !c))
theorem eq_at {its1 its2:Array Value} (k:∀ (j:Nat) (p q:Value),its1.toList[j]?=some p→its2.toList[j]?=some q→∀ A s,EqAt A s p q (eqC p q)) (A:Around) (s:Shared) (j:Nat) (h1:j < its1.size) (h2:j < its2.size):EqAt A s its1[j] its2[j] (eqC (its1.toList.getD j .none) (its2.toList.getD j .none)):=by
 have g1:its1.toList[j]?=some its1[j]:=by rw [Array.getElem?_toList,Array.getElem?_eq_getElem h1]
 have g2:its2.toList[j]?=some its2[j]:=by rw [Array.getElem?_toList,Array.getElem?_eq_getElem h2]
 have:=k j _ _ g1 g2 A s
 rw [List.getD_eq_getElem?_getD,List.getD_eq_getElem?_getD,g1,g2]; exact this
theorem eqR_ok (R:Room A d) (I:Inv B F σ s) {xs ys:List V} {a1 a2:Addr} {its1 its2:Array Value} (l1:s.heap.PlainList a1 its1) (l2:s.heap.PlainList a2 its2) (v1:VRs B.fa s.heap F xs its1.toList) (v2:VRs B.fa s.heap F ys its2.toList) {c:Bool} (e:eqR xs ys=some c):EqO B A F σ s (.ref a1) (.ref a2) c:=by
 have hu:=room_line R
 have z1:xs.length=its1.size:=v1.length.trans Array.length_toList
 have z2:ys.length=its2.size:=v2.length.trans Array.length_toList
 by_cases hn:xs.length=ys.length
 ·rw [eqR,if_pos hn] at e
  refine x0_3 (eqL_ok v1 v2 e) fun q1 q2 q3=>?_
  rw [Array.length_toList] at q3
  exact ⟨RcAt.lists l1.isList l2.isList (z1.symm.trans (hn.trans z2)) hu (eq_at q2 _ _) _ _ _ _ (evTokV q3 s.toks I),RcNeAt.lists l1.isList l2.isList (z1.symm.trans (hn.trans z2)) hu (eq_at q2 _ _) _ _ _ _ (evTokV (by rw [q3]) s.toks I)⟩
 ·rw [eqR,if_neg hn] at e
  apply s1 e
  have hz:(its1.size != its2.size)=true:=bne_iff_ne.mpr fun q=>hn (z1.trans (q.trans z2.symm))
  exact ⟨RcAt.lists_lengths l1.isList l2.isList hz hu _ _ _ _ (evTokV rfl s.toks I),RcNeAt.lists_lengths l1.isList l2.isList hz hu _ _ _ _ (evTokV rfl s.toks I)⟩
theorem eqT_ok (R:Room A d) (I:Inv B F σ s) {xs ys:List V} (ra:VR B.fa s.heap F (.tup xs) x) (rb:VR B.fa s.heap F (.tup ys) y) {c:Bool} (hn:xs.length=ys.length) (e:eqL xs ys=some c):EqO B A F σ s x y c:=by
 have hu:=room_line R
 refine x3_4 (ra.tup_is) fun a1 its1 n1 hq_45 l1 v1 ζ=>?_
 apply q1 hq_45
 refine x3_4 (rb.tup_is) fun a2 its2 n2 hq_46 l2 v2 ζ=>?_
 apply q1 hq_46
 have z1:xs.length=its1.size:=v1.length.trans Array.length_toList
 have z2:ys.length=its2.size:=v2.length.trans Array.length_toList
 have t1:s.heap.IsTuple a1 its1:=⟨_,l1,rfl,_,rfl⟩
 have t2:s.heap.IsTuple a2 its2:=⟨_,l2,rfl,_,rfl⟩
 have hz:its1.size=its2.size:=z1.symm.trans (hn.trans z2)
 refine x0_3 (eqL_ok v1 v2 e) fun q1 q2 q3=>?_
 rw [Array.length_toList] at q3
 have q4:((List.range (min its1.size its2.size)).all (fun j=>eqC (its1.toList.getD j .none) (its2.toList.getD j .none))&&its1.size==its2.size)=c:=by
  rw [← hz,Nat.min_self,q3,beq_self_eq_true,Bool.and_true]
 exact ⟨RcAt.tuples t1 t2 hu (eq_at q2 _ _) _ _ _ _ (evTokV q4 s.toks I),RcNeAt.tuples t1 t2 hu (eq_at q2 _ _) _ _ _ _ (evTokV (by rw [q4]) s.toks I)⟩
theorem eq_ok (R:Room A d) (I:Inv B F σ s) (ra:VR B.fa s.heap F a x) (rb:VR B.fa s.heap F b y) {c:Bool} (e:eqV σ a b=some c):EqO B A F σ s x y c:=by
 rcases or_is e with e | e
 ·refine x2_3 (bin2_is e) ?_
  (try clear e)
  intro i j h1 h2 e
  refine x2_4 (ra.asList I h1) fun a1 its1 hq_47 l1 v1 ζ=>?_
  apply q1 hq_47
  refine x2_4 (rb.asList I h2) fun a2 its2 hq_48 l2 v2 ζ=>?_
  apply q1 hq_48
  exact eqR_ok R I l1 l2 v1 v2 e
 rcases or_is e with e | e
 ·refine x2_3 (bin2_is e) ?_
  (try clear e)
  intro xs ys h1 h2 e
  refine x0_2 (ite_of e) ?_
  (try clear e)
  intro hn e
  exact eqT_ok R I (ra.asTup h1) (rb.asTup h2) hn e
 ·refine x0_4 (eqS_ok ra rb e) fun ζ q1 q2 q3=>?_
  exact ⟨q1 A s _ _ _ _ (evTokV q3 s.toks I),q2 A s _ _ _ _ (evTokV (by rw [q3]) s.toks I)⟩
set_option tactic.hygienic true in
theorem subAt_spec (p:List Nat):∀ (l:List Nat) (k0:Nat),match subAt p l k0 with
  | some k=>k0≤k∧k - k0≤l.length∧p <+: l.drop (k - k0)∧∀ j,j < k - k0→¬ p <+: l.drop j
  | none=>∀ j,j≤l.length→¬ p <+: l.drop j
 | [],k0=>by
  unfold subAt
  split
  ·rename_i k e
   split at e
   ·rename_i h; apply s1 e; apply q1 h; exact ⟨Nat.le_refl _,by simp,by simp,fun j hj=>by (first | lia | omega)⟩
   ·exact noS e
  ·rename_i e
   split at e
   ·cases e
   ·rename_i h
    intro j hj hp
    rw [List.drop_nil] at hp
    exact h (List.prefix_nil.mp hp)
 | c :: cs,k0=>by
  have ih:=subAt_spec p cs (k0+1)
  unfold subAt
  by_cases h:p.isPrefixOf (c :: cs)=true
  ·rw [if_pos h]
   exact ⟨Nat.le_refl _,by simp,by simpa using List.isPrefixOf_iff_prefix.mp h,fun j hj=>by (first | lia | omega)⟩
  ·rw [if_neg h]
   have h':¬ p <+: c :: cs:=fun q=>h (List.isPrefixOf_iff_prefix.mpr q)
   cases e:subAt p cs (k0+1) with
   | some k =>
    rw [e] at ih
    refine x0_4 (ih) fun i1 i2 i3 i4=>?_
    have z:k - k0=(k - (k0+1))+1:=by (first | lia | omega)
    refine ⟨by (first | lia | omega),by rw [z,List.length_cons]; (first | lia | omega),by rw [z,List.drop_succ_cons]; exact i3,fun j hj=>?_⟩
    cases j with
    | zero=>exact h'
    | succ j=>rw [List.drop_succ_cons]; exact i4 j (by (first | lia | omega))
   | none =>
    rw [e] at ih
    intro j hj
    cases j with
    | zero=>exact h'
    | succ j=>rw [List.drop_succ_cons]; exact ih j (by rw [List.length_cons] at hj; (first | lia | omega))
theorem at_iff {x y:Str} {l p:List Nat} (h1:x.cps.toList=l) (h2:y.cps.toList=p) (i:Nat):StrLaws.At x y x.length i↔i≤l.length∧p <+: l.drop i:=by
 unfold StrLaws.At
 rw [StrLaws.subAt_eq,h1,h2,str_len h1,str_len h2,List.prefix_iff_eq_take]
 constructor
 ·rintro ⟨a,b⟩
  exact ⟨by (first | lia | omega),(eq_of_beq b).symm⟩
 ·rintro ⟨a,b⟩
  refine ⟨?_,by rw [← b]; simp⟩
  have:=congrArg List.length b
  rw [List.length_take,List.length_drop] at this
  (first | lia | omega)
theorem occ_sub {x y:Str} {l p:List Nat} (h1:x.cps.toList=l) (h2:y.cps.toList=p):(Builtin.Str.occurrences x y 0 x.length 1).head?=subAt p l 0:=by
 have sp:=subAt_spec p l 0
 rcases StrLaws.occ_head_from x y 0 1 (Nat.le_refl 1) with ⟨e,n⟩ | ⟨i,r,e,_,a,n⟩
 ·rw [e]
  cases q:subAt p l 0 with
  | none=>rfl
  | some k =>
   rw [q] at sp
   exact absurd ((at_iff h1 h2 k).mpr ⟨by simpa using sp.2.1,by simpa using sp.2.2.1⟩) (n k (Nat.zero_le _))
 ·rw [e]
  have a':=(at_iff h1 h2 i).mp a
  cases q:subAt p l 0 with
  | none=>rw [q] at sp; exact absurd a'.2 (sp i a'.1)
  | some k =>
   rw [q] at sp
   have sp1:p <+: l.drop k:=by simpa using sp.2.2.1
   have sp2:k≤l.length:=by simpa using sp.2.1
   have hik:i=k:=by
    rcases Nat.lt_trichotomy i k with h | h | h
    ·exact absurd a'.2 (sp.2.2.2 i (by omega))
    ·exact h
    ·exact absurd ((at_iff h1 h2 k).mpr ⟨sp2,sp1⟩) (n k (Nat.zero_le _) h)
   rw [hik]; rfl
theorem head_empty {α:Type} (l:List α):(!l.isEmpty)=l.head?.isSome:=by cases l <;> rfl
noncomputable def InO (B:Base) (A:Around) (F:Lay) (σ:Sto) (s:Shared) (x y:Value) (c:Bool):Prop:=EvT B A F s (compareOp .In x y) (PE B σ (.bool c))∧EvT B A F s (compareOp .NotIn x y) (PE B σ (.bool !c))
theorem in_ok (R:Room A d) (I:Inv B F σ s) (ra:VR B.fa s.heap F a x) (rb:VR B.fa s.heap F b y) {c:Bool} (e:inV σ a b=some c):InO B A F σ s x y c:=by
 rcases or_is e with e | e
 ·refine x2_3 (map2_is e) fun l m h1 h2 hq_49=>?_
  apply q2 hq_49
  refine x2_3 (ra.ofStr h2) fun p t hq_50 e1 ζ=>?_
  apply q1 hq_50
  refine x2_3 (rb.ofStr h1) fun r u hq_51 e2 ζ=>?_
  apply q1 hq_51
  exact ⟨PySem.P.in_str (evTokV (by rw [head_empty,occ_sub e2 e1]) s.toks I),PySem.P.notIn_str (evTokV (by rw [head_empty,occ_sub e2 e1]) s.toks I)⟩
 rcases or_is e with e | e
 ·refine x1_2 (bind_is e) ?_
  (try clear e)
  intro xs h1 e
  refine x3_4 (rb.ofTup h1) fun a2 its2 n2 hq_52 l2 v2 ζ=>?_
  apply q1 hq_52
  refine x0_2 (inL_ok ra v2 e) fun q1 q2=>?_
  rw [Array.any_toList] at q2
  exact ⟨in_tupleAt (fun p=>eqC p x) ⟨_,l2,rfl,_,rfl⟩ (fun p hp=>q1 p (Array.mem_toList_iff.mpr hp) _ _) (evTokV q2 s.toks I),notIn_tupleAt (fun p=>eqC p x) ⟨_,l2,rfl,_,rfl⟩ (fun p hp=>q1 p (Array.mem_toList_iff.mpr hp) _ _) (evTokV (congrArg (!·) q2) s.toks I)⟩
 ·refine x1_2 (bind_is e) ?_
  (try clear e)
  intro xs h2 e
  refine x2_4 (rb.asList I h2) fun a1 its1 hq_53 l1 v1 ζ=>?_
  apply q1 hq_53
  refine x0_2 (inL_ok ra v1 e) fun q1 q2=>?_
  rw [Array.any_toList] at q2
  exact ⟨in_listAt (fun p=>eqC p x) l1.isList (fun p hp=>q1 p (Array.mem_toList_iff.mpr hp) _ _) (evTokV q2 s.toks I),notIn_listAt (fun p=>eqC p x) l1.isList (fun p hp=>q1 p (Array.mem_toList_iff.mpr hp) _ _) (evTokV (congrArg (!·) q2) s.toks I)⟩
theorem is_ok (I:Inv B F σ s) (ra:VR B.fa s.heap F a x) (rb:VR B.fa s.heap F b y) {c:Bool} (e:isV a b=some c):EvT B A F s (compareOp .Is x y) (PE B σ (.bool c)):=by
 rcases or_is e with e | e
 ·refine x0_2 (ite_of e) ?_
  (try clear e)
  intro q e
  rw [rb.ofNone q]
  by_cases q2:isNone a=true
  ·rw [if_pos q2] at e
   apply s1 e
   rw [ra.ofNone q2]
   exact wpAny_is_self rfl (evTokV rfl s.toks I)
  rw [if_neg q2] at e
  rcases or_is e with e | e
  ·refine x1_2 (map_is e) fun i h1 hq_54=>?_
   subst hq_54
   refine x1_1 (ra.ofInt h1) fun t hq_55=>?_
   apply q1 hq_55
   exact wpAny_is_other rfl nofun (evTokV rfl s.toks I)
  rcases or_is e with e | e
  ·refine x1_2 (map_is e) fun i h1 hq_56=>?_
   subst hq_56
   refine x2_2 (ra.ofBytes h1) fun p t hq_57 ζ=>?_
   apply q1 hq_57
   exact wpAny_is_other rfl nofun (evTokV rfl s.toks I)
  ·refine x1_2 (map_is e) fun i h1 hq_58=>?_
   subst hq_58
   rw [ra.ofBool h1]
   exact wpAny_is_other rfl nofun (evTokV rfl s.toks I)
 ·refine x2_3 (map2_is e) fun t u h1 h2 hq_59=>?_
  apply q2 hq_59
  rw [rb.ofTy h1,ra.ofTy h2]
  refine wpAny_is_plain rfl (evTokV ?_ s.toks I)
  rw [Bool.eq_iff_iff,beq_iff_eq,beq_iff_eq]
  exact ⟨fun h=>Value.type.inj h,fun h=>by rw [h]⟩
theorem num_ok (I:Inv B F σ s) {i j:Int} {t u:Tok} {op:CmpOp} {c:Bool} (e:iiV op i j=some c):EvT B A F s (compareOp op (.int i t) (.int j u)) (PE B σ (.bool c)):=by
 cases op with
 | Lt=>apply s1 e; exact PySem.P.lt_int (evTokV rfl s.toks I)
 | LtE=>apply s1 e; exact PySem.P.le_int (evTokV rfl s.toks I)
 | Gt=>apply s1 e; exact PySem.P.gt_int (evTokV rfl s.toks I)
 | GtE=>apply s1 e; exact PySem.P.ge_int (evTokV rfl s.toks I)
 | _=>exact noS e
theorem cmp_ok (R:Room A d) (I:Inv B F σ s) (ra:VR B.fa s.heap F a x) (rb:VR B.fa s.heap F b y) {op:CmpOp} {c:Bool} (e:cmpop op a b σ=some c):EvT B A F s (compareOp op x y) (PE B σ (.bool c)):=by
 have num:∀ op,((intV a).bind fun x=>(intV b).bind fun y=>iiV op x y)=some c→EvT B A F s (compareOp op x y) (PE B σ (.bool c)):=fun op e=>by
  refine x2_3 (bin2_is e) ?_
  (try clear e)
  intro i j h1 h2 e
  refine x1_1 (ra.ofInt h1) fun t hq_60=>?_
  apply q1 hq_60
  refine x1_1 (rb.ofInt h2) fun u hq_61=>?_
  apply q1 hq_61
  exact num_ok I e
 cases op with
 | Eq=>exact (eq_ok R I ra rb e).1
 | NotEq=>refine x1_2 (map_is e) fun c' h hq_62=>?_; apply q2 hq_62; exact (eq_ok R I ra rb h).2
 | In=>exact (in_ok R I ra rb e).1
 | NotIn=>refine x1_2 (map_is e) fun c' h hq_63=>?_; apply q2 hq_63; exact (in_ok R I ra rb h).2
 | Is=>exact is_ok I ra rb e
 | IsNot =>
  refine x0_2 (ite_is e) ?_
  (try clear e)
  intro q e
  apply q2 e
  rw [Bool.and_eq_true] at q
  rw [ra.ofNone q.1,rb.ofNone q.2]
  exact wpAny_isNot_self rfl (evTokV rfl s.toks I)
 | Lt=>exact num _ e
 | LtE=>exact num _ e
 | Gt=>exact num _ e
 | GtE=>exact num _ e
theorem len_ne (l:List Nat):(((l.length:Nat):Int) != 0)=!l.isEmpty:=by cases l <;> rfl
theorem truth_list (I:Inv B F σ s) {a1:Addr} {its:Array Value} {xs:List V} (l1:s.heap.PlainList a1 its) (v1:VRs B.fa s.heap F xs its.toList) (bd:xs.length≤maxLen):EvT B A F s (truthy (.ref a1)) (PB B σ !xs.isEmpty):=by
 have z1:xs.length=its.size:=v1.length.trans Array.length_toList
 refine wpAny_truthy_list l1.isList (by rw [← z1]; have:maxLen=1048576:=rfl; (first | lia | omega)) ?_
 have:its.isEmpty=xs.isEmpty:=by
  rw [Bool.eq_iff_iff,Array.isEmpty_iff_size_eq_zero,List.isEmpty_iff_length_eq_zero,z1]
 rw [this]
 exact evTokB _ I
theorem truth_ok (I:Inv B F σ s) (ra:VR B.fa s.heap F a x) {c:Bool} (e:truth σ a=some c):EvT B A F s (truthy x) (PB B σ c):=by
 cases a with
 | bool b=>apply s1 e; rw [ra.bool_is]; exact wpAny_truthy_bool (evTokB s.toks I)
 | int i=>apply s1 e; refine x1_1 (ra.int_is) fun t hq_64=>?_; apply q1 hq_64; exact PySem.P.truthy_int (evTokB s.toks I)
 | str l =>
  apply s1 e
  refine x2_3 (ra.str_is) fun p t hq_65 e1 bd=>?_
  apply q1 hq_65
  have hl:=str_len e1
  refine PySem.P.truthy_str (by rw [hl]; have:maxLen=1048576:=rfl; omega) ?_
  rw [hl,len_ne]
  exact evTokB _ I
 | none=>apply s1 e; rw [ra.none_is]; exact PyProof.Rows.truthy_none (evTokB s.toks I)
 | ref i =>
  refine x1_2 (map_is e) fun xs q hq_66=>?_
  apply q2 hq_66
  refine x2_4 (I.listAt q) fun a1 its1 f1 l1 v1 bd=>?_
  rw [ra.refAt f1]
  exact truth_list I l1 v1 bd
 | lst xs =>
  apply s1 e
  refine x2_4 (ra.asLst) fun a1 its1 hq_67 l1 v1 bd=>?_
  apply q1 hq_67
  exact truth_list I l1 v1 bd
 | _=>exact noS e
end
end Mine
namespace Mine
open PySem PySem.SeqAt
section
variable {B:Base} {A:Around} {F:Lay} {σ σ':Sto} {s:Shared} {d:Nat} {a b c v:V} {x y z:Value}
theorem idx_seq (n:Nat) (k:Int):seqIndex? k n=idx n k:=by
 unfold seqIndex? idx
 by_cases h:k < 0
 ·have h1:¬ 0≤k:=by (first | lia | omega)
  simp only [h,h1,if_true,if_false]
  by_cases q:-(n:Int)≤k
  ·rw [if_pos q,if_pos (by simp; (first | lia | omega))]
  ·rw [if_neg q,if_neg (by simp; (first | lia | omega))]
 ·have h1:0≤k:=by (first | lia | omega)
  simp only [h,h1,if_true,if_false]
  by_cases q:k < (n:Int)
  ·rw [if_pos q,if_pos (by simp; (first | lia | omega))]
  ·rw [if_neg q,if_neg (by simp; (first | lia | omega))]
theorem idx_bounds {n:Nat} {k:Int} {j:Nat} (h:idx n k=some j):-(n:Int)≤k∧k < (n:Int)∧j < n:=by
 unfold idx at h
 repeat' split at h
 all_goals first | (cases h; omega) | exact noS h
theorem maxLen_eq:maxLen=1048576:=rfl
noncomputable def SubO (B:Base) (A:Around) (F:Lay) (σ:Sto) (s:Shared) (x y:Value) (v:V):Prop:=EvT B A F s (getItem x y) (PE B σ v)∧∃ T id,s.TypeIs x T∧typeLookup (.type T) "__getitem__"=pure (some (.builtin id))
theorem idx_neg {n j:Nat} {k:Int} (h:idx n k=some j):(0≤k∧k.toNat=j)∨(¬ 0≤k∧(k+(n:Int)).toNat=j):=by
 unfold idx at h
 by_cases h0:0≤k
 ·rw [if_pos h0] at h; exact .inl ⟨h0,(ite_is h).2⟩
 ·rw [if_neg h0] at h; exact .inr ⟨h0,(ite_is h).2⟩
theorem small_idx {n j:Nat} {k:Int} (h:idx n k=some j) (b:n≤maxLen):-1048576≤k∧k < 1048576:=by
 have:=idx_bounds h
 rw [maxLen_eq] at b
 (first | lia | omega)
theorem subl_ok (I:Inv B F σ s) {a1:Addr} {its:Array Value} {xs:List V} {k:Int} {u:Tok} (l1:s.heap.PlainList a1 its) (v1:VRs B.fa s.heap F xs its.toList) (bd:xs.length≤maxLen) (e:pick xs k=some v):SubO B A F σ s (.ref a1) (.int k u) v:=by
 refine x1_2 (bind_is e) ?_
 (try clear e)
 intro j q e
 refine x1_2 (v1.get e) fun x' ex rx=>?_
 have z1:xs.length=its.size:=v1.length.trans Array.length_toList
 have ex':its[j]?=some x':=by rw [← Array.getElem?_toList]; exact ex
 have bb:=small_idx q bd
 refine ⟨?_,"list",_,l1.isList.typeIs,slot_list_getitem.lookup⟩
 rcases idx_neg q with ⟨h0,rfl⟩ | ⟨h0,rfl⟩
 ·exact wpAny_getItem_list l1.isList h0 (by (first | lia | omega)) ex' (evTok s.toks I rx)
 ·have b2:=(idx_bounds q).1
  refine wpAny_getItem_list_neg l1.isList (by (first | lia | omega)) (by (first | lia | omega)) (by (first | lia | omega)) ?_ (evTok s.toks I rx)
  rw [← z1]; exact ex'
theorem subt_ok (I:Inv B F σ s) {a1:Addr} {its:Array Value} {n:Nat} {xs:List V} {k:Int} {u:Tok} (l1:s.heap.get? a1=some { cls:=.type "tuple",data:=.seq its n }) (v1:VRs B.fa s.heap F xs its.toList) (bd:xs.length≤maxLen) (e:pick xs k=some v):SubO B A F σ s (.ref a1) (.int k u) v:=by
 refine x1_2 (bind_is e) ?_
 (try clear e)
 intro j q e
 refine x1_2 (v1.get e) fun x' ex rx=>?_
 have z1:xs.length=its.size:=v1.length.trans Array.length_toList
 have bb:=small_idx q bd
 refine ⟨?_,"tuple",_,⟨_,l1,rfl⟩,PyProof.Rows.slot_tuple_getitem.lookup⟩
 exact PyProof.Rows.getItem_tuple ⟨_,l1,rfl,_,rfl⟩ (by (first | lia | omega)) (by (first | lia | omega)) (by rw [idx_seq,← z1]; exact q) (by rw [← Array.getElem?_toList]; exact ex) (evTok s.toks I rx)
theorem subs_ok (I:Inv B F σ s) {xs:Str} {l:List Nat} {t u:Tok} {k:Int} {j c:Nat} (e1:xs.cps.toList=l) (bd:l.length≤maxLen) (q:idx l.length k=some j) (q2:l[j]?=some c):SubO B A F σ s (.str xs t) (.int k u) (.str [c]):=by
 have bb:=small_idx q bd
 refine ⟨?_,"str",_,typeIs_str s _ _,PySem.F.slot_str_getitem.lookup⟩
 refine PySem.P.getItem_str (by simp; (first | lia | omega)) ?_ (evTok _ I (.str _ rfl (by show 1≤1048576; decide)))
 rw [idx_seq,str_len e1,q,Option.bind_some,← Array.getElem?_toList,e1]
 exact q2
theorem suby_ok (I:Inv B F σ s) {bs:Array UInt8} {l:List Nat} {t u:Tok} {k:Int} {j c:Nat} (e1:bs.toList.map UInt8.toNat=l) (bd:l.length≤maxLen) (q:idx l.length k=some j) (q2:l[j]?=some c):SubO B A F σ s (.bytes bs t) (.int k u) (.int (c:Nat)):=by
 have bb:=small_idx q bd
 have hl:bs.size=l.length:=by rw [← e1,List.length_map,Array.length_toList]
 rw [← e1,List.getElem?_map] at q2
 refine x1_2 (map_is q2) fun w q3 hq_68=>?_
 subst hq_68
 refine ⟨?_,"bytes",_,PySem.W.typeIs_bytes s _ _,PySem.W.FB.slot_bytes_getitem.lookup⟩
 refine getItem_gives (PySem.W.typeIs_bytes s _ t) (by decide) PySem.W.FB.slot_bytes_getitem PySem.W.FB.entry_bytes_getitem (PySem.W.FB.args_bytes_getitem_2 _ _) (PySem.W.gives_bytes_getitem _ k t _ w ?_ ?_) (evTok _ I (.int _ _))
 ·simp only [Builtin.Bytes.fitsIndex,Bool.and_eq_true,decide_eq_true_eq]; (first | lia | omega)
 ·rw [idx_seq,hl,q,Option.bind_some,← Array.getElem?_toList]; exact q3
theorem sub_ok (I:Inv B F σ s) (ra:VR B.fa s.heap F a x) (rb:VR B.fa s.heap F b y) (e:subV a b σ=some v):SubO B A F σ s x y v:=by
 refine x1_2 (bind_is e) ?_
 (try clear e)
 intro k h0 e
 refine x1_1 (rb.ofInt h0) fun u hq_69=>?_
 apply q1 hq_69
 rcases or_is e with e | e
 ·refine x1_2 (bind_is e) ?_
  (try clear e)
  intro xs h2 e
  refine x2_4 (ra.asList I h2) fun a1 its1 hq_70 l1 v1 bd=>?_
  apply q1 hq_70
  exact subl_ok I l1 v1 bd e
 rcases or_is e with e | e
 ·refine x1_2 (bind_is e) ?_
  (try clear e)
  intro xs h1 e
  refine x3_4 (ra.ofTup h1) fun a1 its1 n1 hq_71 l1 v1 bd=>?_
  apply q1 hq_71
  exact subt_ok I l1 v1 bd e
 rcases or_is e with e | e
 ·refine x1_2 (bind_is e) ?_
  (try clear e)
  intro l h1 e
  refine x2_3 (ra.ofStr h1) fun p t hq_72 e1 bd=>?_
  apply q1 hq_72
  refine x1_2 (bind_is e) ?_
  (try clear e)
  intro j q e
  refine x1_2 (map_is e) fun c q2 hq_73=>?_
  subst hq_73
  exact subs_ok I e1 bd q q2
 rcases or_is e with e | e
 ·refine x1_2 (bind_is e) ?_
  (try clear e)
  intro l h1 e
  refine x2_3 (ra.ofBytes h1) fun p t hq_74 e1 bd=>?_
  apply q1 hq_74
  refine x1_2 (bind_is e) ?_
  (try clear e)
  intro j q e
  refine x1_2 (map_is e) fun c q2 hq_75=>?_
  subst hq_75
  exact suby_ok I e1 bd q q2
 ·refine x1_2 (bind_is e) ?_
  (try clear e)
  intro r h1 e
  refine x1_2 (bind_is e) ?_
  (try clear e)
  intro xs h2 e
  refine x1_3 (I.scrAt h2) fun its1 l1 v1 bd=>?_
  rw [ra.ofFn h1]
  exact subl_ok I l1 v1 bd e
theorem set_ok (I:Inv B F σ s) (ra:VR B.fa s.heap F a x) (rb:VR B.fa s.heap F b y) (rc:VR B.fa s.heap F c z) (e:setV a b c σ=some σ'):EvT B A F s (setItem x y z) (PU B σ'):=by
 refine x1_2 (bind_is e) ?_
 (try clear e)
 intro r h1 e
 refine x1_2 (bind_is e) ?_
 (try clear e)
 intro k h2 e
 refine x1_2 (bind_is e) ?_
 (try clear e)
 intro xs h3 e
 refine x0_2 (ite_is e) fun q hq_76=>?_
 apply q2 hq_76
 refine x1_1 (rb.ofInt h2) fun u hq_77=>?_
 apply q1 hq_77
 refine x2_4 (I.listAt h3) fun a1 its1 f1 hw_78 v1 bd=>?_
 refine x1_1 (hw_78) fun n1 l1=>?_
 rw [(ra.asRef h1).refAt f1]
 have z1:xs.length=its1.size:=v1.length.trans Array.length_toList
 rw [maxLen_eq] at bd
 refine PySem.W.ki_setAt l1 q.1 (by (first | lia | omega)) (by (first | lia | omega)) ⟨[],.of_upd (tk:=s.toks) f1 (Heap.SameBut.update ..),?_⟩
 rw [List.append_nil]
 have em:Obj.mapSeq (·.setIfInBounds k.toNat z) { cls:=.type "list",data:=.seq its1 n1 }={ cls:=.type "list",data:=.seq (its1.setIfInBounds k.toNat z) n1 }:=by simp [Obj.mapSeq]
 exact I.upd (tk:=s.toks) f1 (Heap.SameBut.update ..) ⟨n1,by rw [Heap.get?_update_self _ l1 (by rw [em]; rfl),em]⟩ (by rw [Array.toList_setIfInBounds]; exact v1.set rc) (by rw [List.length_set,maxLen_eq]; exact bd)
theorem range_pick {α:Type} (l:List α) (a b:Nat) (hb:b≤l.length):(sliceRange (a:Int) (b:Int) 1).filterMap (l[·]?)=cut l a b:=by
 unfold sliceRange cut
 by_cases h:a < b
 ·have e1:(if (1:Int) > 0 then if (a:Int) < b then ((b:Int) - a+1 - 1) / 1 else 0 else if (a:Int) > b then ((a:Int) - b - 1 - 1) / (-1) else 0).toNat=b - a:=by
   rw [if_pos (by decide),if_pos (by (first | lia | omega)),Int.ediv_one]; (first | lia | omega)
  have e2:(fun k:Nat=>((a:Int)+1*(k:Int)).toNat)=fun k=>a+k:=by funext k; (first | lia | omega)
  show ((List.range (_:Int).toNat).map _).filterMap _=_
  rw [e1,e2,StrLaws.picks l (b - a) a (by (first | lia | omega)),List.drop_take]
 ·have e1:(if (1:Int) > 0 then if (a:Int) < b then ((b:Int) - a+1 - 1) / 1 else 0 else if (a:Int) > b then ((a:Int) - b - 1 - 1) / (-1) else 0).toNat=0:=by
   rw [if_pos (by decide),if_neg (by (first | lia | omega))]; rfl
  show ((List.range (_:Int).toNat).map _).filterMap _=_
  rw [e1,List.drop_take,show b - a=0 by (first | lia | omega)]
  rfl
theorem other_pick {α:Type}:∀ (l:List α),(List.range ((l.length+1) / 2)).filterMap (fun k=>l[2*k]?)=everyOther l
 | []=>by simp [everyOther]
 | [x]=>by simp [everyOther]
 | x :: y :: r=>by
  have e:(((x :: y :: r).length+1) / 2)=(r.length+1) / 2+1:=by simp only [List.length_cons]; (first | lia | omega)
  rw [e,List.range_succ_eq_map,List.filterMap_cons]
  have h0:(x :: y :: r)[2*0]?=some x:=rfl
  rw [h0,List.filterMap_map]
  show x :: _=x :: everyOther r
  rw [← other_pick r]
  congr 1
theorem range_pick2 {α:Type} (l:List α) (a b:Nat) (hb:b≤l.length):(sliceRange (a:Int) (b:Int) 2).filterMap (l[·]?)=everyOther (cut l a b):=by
 rw [← other_pick]
 unfold sliceRange cut
 by_cases h:a < b
 ·have e1:(if (2:Int) > 0 then if (a:Int) < b then ((b:Int) - a+2 - 1) / 2 else 0 else if (a:Int) > b then ((a:Int) - b - 2 - 1) / (-2) else 0).toNat=(b - a+1) / 2:=by
   rw [if_pos (by decide),if_pos (by (first | lia | omega))]; (first | lia | omega)
  show ((List.range (_:Int).toNat).map _).filterMap _=_
  rw [e1,List.filterMap_map,List.length_drop,List.length_take,Nat.min_eq_left hb]
  have fc:∀ (L:List Nat) (f g:Nat→Option α),(∀ k∈L,f k=g k)→L.filterMap f=L.filterMap g:=by
   intro L f g hfg
   induction L with
   | nil=>rfl
   | cons c L ih=>rw [List.filterMap_cons,List.filterMap_cons,hfg c (.head _),ih fun k hk=>hfg k (.tail _ hk)]
  refine fc _ _ _ fun k hk=>?_
  have hk':=List.mem_range.mp hk
  show l[((a:Int)+2*(k:Int)).toNat]?=((l.take b).drop a)[2*k]?
  rw [List.getElem?_drop,show ((a:Int)+2*(k:Int)).toNat=a+2*k by (first | lia | omega),List.getElem?_take_of_lt (by (first | lia | omega))]
 ·have e1:(if (2:Int) > 0 then if (a:Int) < b then ((b:Int) - a+2 - 1) / 2 else 0 else if (a:Int) > b then ((a:Int) - b - 2 - 1) / (-2) else 0).toNat=0:=by
   rw [if_pos (by decide),if_neg (by (first | lia | omega))]; rfl
  show ((List.range (_:Int).toNat).map _).filterMap _=_
  rw [e1,List.length_drop,List.length_take,Nat.min_eq_left hb,show b - a=0 by (first | lia | omega)]
  rfl
noncomputable def partOf:V→Option Int
 | .int k=>some k
 | _=>none
set_option tactic.hygienic true in
theorem clip_is {n dv:Nat} {v:V} {k:Nat} (h:clip n dv v=some k) (hd:dv≤n):(match partOf v with
  | none=>(dv:Int)
  | some i=>max 0 (min (if i < 0 then i+(n:Int) else i) (n:Int)))=(k:Int)∧k≤n:=by
 unfold clip at h
 split at h
 ·cases h; exact ⟨rfl,hd⟩
 ·rename_i i
  cases h
  show max 0 (min (if i < 0 then i+(n:Int) else i) (n:Int))=_∧_
  by_cases q:0≤i
  ·rw [if_pos q,if_neg (by (first | lia | omega))]; constructor <;> (first | lia | omega)
  ·rw [if_neg q,if_pos (by (first | lia | omega))]; constructor <;> (first | lia | omega)
 ·exact noS h
set_option tactic.hygienic true in
theorem part_val {n dv:Nat} {v:V} {k:Nat} {h:Heap} {x:Value} (e:clip n dv v=some k) (r:VR B.fa h F v x):∃ p:Option (Int × Tok),x=partValue p∧p.map (·.1)=partOf v:=by
 unfold clip at e
 split at e
 ·cases r; exact ⟨none,rfl,rfl⟩
 ·rename_i i
  cases r with | int _ t=>exact ⟨some (i,t),rfl,rfl⟩
 ·exact noS e
theorem part_is {p:Option (Int × Tok)}:IsPart (partValue p) (p.map (·.1)):=by
 cases p with
 | none=>exact .none
 | some q=>exact .int _ _
theorem lower {n:Nat} (o:Option Int) (dv dw:Int):(match o with
  | none=>if (1:Int) > 0 then dv else dw
  | some i=>if (1:Int) > 0 then max 0 (min (if i < 0 then i+(n:Int) else i) (n:Int)) else max (-1) (min (if i < 0 then i+(n:Int) else i) ((n:Int) - 1)))=(match o with
  | none=>dv
  | some i=>max 0 (min (if i < 0 then i+(n:Int) else i) (n:Int))):=by
 cases o <;> rfl
theorem picked_is {xs:Str} {l0:List Nat} {l h:V} {p1 p2:Option (Int × Tok)} {k1 k2:Nat} (hn:xs.length=l0.length) (q1:p1.map (·.1)=partOf l) (q2:p2.map (·.1)=partOf h) (h1:clip l0.length 0 l=some k1) (h2:clip l0.length l0.length h=some k2):slicePicked xs p1 p2 none=sliceRange (k1:Int) (k2:Int) 1:=by
 have c1:=(clip_is h1 (Nat.zero_le _)).1
 have c2:=(clip_is h2 (Nat.le_refl _)).1
 unfold slicePicked Builtin.Str.strSliceIndices
 rw [q1,q2,hn]
 have e1:=(lower (partOf l) 0 ((l0.length:Int) - 1)).trans c1
 have e2:=(lower (partOf h) (l0.length:Int) (-1)).trans c2
 show sliceRange _ _ 1=_
 rw [← e1,← e2]
 cases partOf l <;> cases partOf h <;> rfl
theorem range_len (a b:Nat):(sliceRange (a:Int) (b:Int) 1).length≤b - a:=by
 unfold sliceRange
 rw [List.length_map,List.length_range]
 by_cases hk:a < b
 ·rw [if_pos (by decide),if_pos (by (first | lia | omega)),Int.ediv_one]; (first | lia | omega)
 ·rw [if_pos (by decide),if_neg (by (first | lia | omega))]; exact Nat.zero_le _
theorem cut_all {α:Type} {l:List α} {a b:Nat} (h:l.length≤b - a) (hb:b≤l.length):cut l a b=l:=by
 unfold cut
 rw [List.take_of_length_le (Nat.le_trans h (Nat.sub_le _ _))]
 rcases Nat.eq_zero_or_pos a with h0 | h0
 ·rw [h0]; rfl
 ·rw [List.length_eq_zero_iff.mp (show l.length=0 by (first | lia | omega))]; exact List.drop_nil
set_option tactic.hygienic true in
theorem slice_str_ok (I:Inv B F σ s) {xs:Str} {l0:List Nat} {l h:V} {p1 p2:Option (Int × Tok)} {tk:Tok} {k1 k2:Nat} (e1:xs.cps.toList=l0) (bd:l0.length≤maxLen) (q1:p1.map (·.1)=partOf l) (q2:p2.map (·.1)=partOf h) (h1:clip l0.length 0 l=some k1) (h2:clip l0.length l0.length h=some k2) {sl:Addr}
  (hs:s.heap.get? sl=some { cls:=.type "slice",data:=.fields #[partValue p1,partValue p2,.none] }):EvT B A F s (getItem (.str xs tk) (.ref sl)) (PE B σ (.str (cut l0 k1 k2))):=by
 have b2:=(clip_is h2 (Nat.le_refl _)).2
 have hn:=str_len e1
 have pk:=picked_is hn q1 q2 h1 h2
 have pick:(slicePicked xs p1 p2 none).filterMap (xs.cps[·]?)=cut l0 k1 k2:=by
  have:(fun i:Nat=>xs.cps[i]?)=fun i:Nat=>l0[i]?:=by funext i; rw [← e1,Array.getElem?_toList]
  rw [this,← range_pick l0 k1 k2 b2,pk]
 have hz:(cut l0 k1 k2).length≤maxLen:=by
  unfold cut
  rw [List.length_drop,List.length_take]
  exact Nat.le_trans (Nat.sub_le _ _) (Nat.le_trans (Nat.min_le_right _ _) bd)
 refine wpAny_getItem_str_slice (l:=p1) (u:=p2) (st:=none) ⟨_,hs,rfl,rfl⟩ rfl ?_
 unfold sliceMade
 split
 ·rename_i hq
  refine evTok s.toks I (.str _ ?_ hz)
  rw [Bool.and_eq_true] at hq
  have hlen:(slicePicked xs p1 p2 none).length=xs.length:=by simpa using hq.2
  rw [pk,hn] at hlen
  rw [cut_all (hlen▸range_len k1 k2) b2,e1]
 ·have e2:(⟨((slicePicked xs p1 p2 none).filterMap (xs.cps[·]?)).toArray⟩:Str).cps.toList=cut l0 k1 k2:=pick
  exact ⟨by rw [str_len e2]; exact len_line hz,evTok _ I (.str _ e2 hz)⟩
theorem vrs_pick {h:Heap} {xs:List V} {its:Array Value} (v:VRs B.fa h F xs its.toList):∀ is:List Nat,VRs B.fa h F (is.filterMap (xs[·]?)) (is.filterMap (its[·]?))
 | []=>.nil
 | i :: is=>by
  rw [List.filterMap_cons,List.filterMap_cons]
  cases q:xs[i]? with
  | none =>
   rw [List.getElem?_eq_none_iff] at q
   rw [Array.getElem?_eq_none_iff.mpr (by rw [← Array.length_toList,← v.length]; exact q)]
   exact vrs_pick v is
  | some u =>
   refine x1_2 (v.get q) fun w ew rw'=>?_
   rw [Array.getElem?_toList] at ew
   rw [ew]; exact .cons rw' (vrs_pick v is)
theorem bounds_is {n:Nat} {l h:V} {k1 k2:Nat} (st:Option Int) (hst:st.getD 1 > 0) (h1:clip n 0 l=some k1) (h2:clip n n h=some k2):sliceBounds (partOf l) (partOf h) st n=((k1:Int),(k2:Int),st.getD 1):=by
 have c1:=(clip_is h1 (Nat.zero_le _)).1
 have c2:=(clip_is h2 (Nat.le_refl _)).1
 unfold sliceBounds
 refine Prod.ext ?_ (Prod.ext ?_ rfl)
 ·show (match partOf l with
   | none=>if st.getD 1 > 0 then (0:Int) else (n:Int) - 1
   | some i=>if st.getD 1 > 0 then max 0 (min (if i < 0 then i+(n:Int) else i) (n:Int)) else max (-1) (min (if i < 0 then i+(n:Int) else i) ((n:Int) - 1)))=(k1:Int)
  rw [← c1]; cases partOf l <;> simp only [hst,if_true] <;> rfl
 ·show (match partOf h with
   | none=>if st.getD 1 > 0 then (n:Int) else -1
   | some i=>if st.getD 1 > 0 then max 0 (min (if i < 0 then i+(n:Int) else i) (n:Int)) else max (-1) (min (if i < 0 then i+(n:Int) else i) ((n:Int) - 1)))=(k2:Int)
  rw [← c2]; cases partOf h <;> simp only [hst,if_true] <;> rfl
theorem slice_list_ok (I:Inv B F σ s) {a1:Addr} {its:Array Value} {xs:List V} {l h t:V} {p1 p2 p3:Option (Int × Tok)} (l1:s.heap.PlainList a1 its) (v1:VRs B.fa s.heap F xs its.toList) (bd:xs.length≤maxLen) (q1:p1.map (·.1)=partOf l) (q2:p2.map (·.1)=partOf h) {sl:Addr}
  (hs:s.heap.get? sl=some { cls:=.type "slice",data:=.fields #[partValue p1,partValue p2,partValue p3] }) {k1 k2:Nat} (h1:clip xs.length 0 l=some k1) (h2:clip xs.length xs.length h=some k2) (st:Option Int) (q3:p3.map (·.1)=st) (hst:st.getD 1 > 0) (h0:st≠some 0) {ys:List V} (hy:(sliceRange (k1:Int) (k2:Int) (st.getD 1)).filterMap (xs[·]?)=ys) (hz:ys.length≤maxLen):EvT B A F s (getItem (.ref a1) (.ref sl)) (PE B σ (.lst ys)):=by
 have z1:xs.length=its.size:=v1.length.trans Array.length_toList
 refine wpAny_getItem_list_slice (lo:=partOf l) (hi:=partOf h) (st:=st) l1.isList ⟨_,hs,rfl,rfl⟩ (q1▸part_is) (q2▸part_is) (q3▸part_is) h0 ?_ (by rw [← z1]; exact len_line bd)
 refine evList I ?_ hz
 unfold slicePick
 rw [← z1,bounds_is st hst h1 h2,← hy]
 exact vrs_pick v1 _
theorem slice_ok {l h t:V} {xl xh xt:Value} (I:Inv B F σ s) (ra:VR B.fa s.heap F a x) (rl:VR B.fa s.heap F l xl) (rh:VR B.fa s.heap F h xh) (rt:VR B.fa s.heap F t xt) (e:sliceV a l h t σ=some (v,σ')) {sl:Addr}
  (hs:s.heap.get? sl=some { cls:=.type "slice",data:=.fields #[xl,xh,xt] }):EvT B A F s (getItem x (.ref sl)) (PE B σ' v)∧∃ T id,s.TypeIs x T∧typeLookup (.type T) "__getitem__"=pure (some (.builtin id)):=by
 rcases or_is e with e | e
 ·refine x1_2 (bind_is e) ?_
  (try clear e)
  intro l0 h0 e
  refine x0_2 (ite_of e) ?_
  (try clear e)
  intro q e
  refine x2_3 (map2_is e) ?_
  (try clear e)
  intro k1 k2 h1 h2 e
  apply p2 e
  refine x2_3 (ra.ofStr h0) fun xs tk hq_79 e1 bd=>?_
  apply q1 hq_79
  refine x1_2 (part_val h1 rl) fun p1 hq_80 q1=>?_
  subst hq_80
  refine x1_2 (part_val h2 rh) fun p2 hq_81 q2=>?_
  subst hq_81
  rw [rt.ofNone q] at hs
  exact ⟨slice_str_ok I e1 bd q1 q2 h1 h2 hs,"str",_,typeIs_str s _ _,PySem.F.slot_str_getitem.lookup⟩
 ·refine x1_2 (bind_is e) ?_
  (try clear e)
  intro xs h3 e
  refine x2_4 (ra.asList I h3) fun a1 its1 hq_82 l1 v1 bd=>?_
  apply q1 hq_82
  refine ⟨?_,"list",_,l1.isList.typeIs,slot_list_getitem.lookup⟩
  refine x2_3 (bin2_is e) ?_
  (try clear e)
  intro k1 k2 h1 h2 e
  refine x1_2 (part_val h1 rl) fun p1 hq_83 q1=>?_
  subst hq_83
  refine x1_2 (part_val h2 rh) fun p2 hq_84 q2=>?_
  subst hq_84
  have b2:=(clip_is h2 (Nat.le_refl _)).2
  by_cases q:isNone t=true
  ·rw [if_pos q] at e
   refine x0_2 (newList_is e) ?_
   (try clear e)
   intro hz e
   cases e
   rw [rt.ofNone q] at hs
   exact slice_list_ok (p3:=none) (t:=t) I l1 v1 bd q1 q2 hs h1 h2 none rfl (by decide) nofun (range_pick xs k1 k2 b2) hz
  ·rw [if_neg q] at e
   refine x1_2 (bind_is e) ?_
   (try clear e)
   intro k h4 e
   refine x0_2 (ite_of e) ?_
   (try clear e)
   intro hq_85 e
   subst hq_85
   refine x0_2 (newList_is e) ?_
   (try clear e)
   intro hz e
   cases e
   refine x1_1 (rt.ofInt h4) fun u hq_86=>?_
   subst hq_86
   exact slice_list_ok (p3:=some (2,u)) (t:=t) I l1 v1 bd q1 q2 hs h1 h2 (some 2) rfl (by decide) (by decide) (range_pick2 xs k1 k2 b2) hz
end
end Mine
namespace Mine
open PySem PySem.SeqAt
section
variable {B:Base} {A:Around} {F:Lay} {σ σ':Sto} {s:Shared} {d:Nat} {a b c v:V} {x y z:Value}
theorem VRs.inv1 {fa:Nat→Addr} {h:Heap} {F:Lay} {v:V} {xs:List Value} (r:VRs fa h F [v] xs):∃ x,xs=[x]∧VR fa h F v x:=by
 refine x2_3 (r.cons_is) ?_; (try clear r); intro x ys hq_87 a r
 apply q1 hq_87
 exact ⟨x,by rw [r.nil_is],a⟩
theorem VRs.inv2 {fa:Nat→Addr} {h:Heap} {F:Lay} {v w:V} {xs:List Value} (r:VRs fa h F [v,w] xs):∃ x y,xs=[x,y]∧VR fa h F v x∧VR fa h F w y:=by
 refine x2_3 (r.cons_is) ?_; (try clear r); intro x ys hq_88 a r
 apply q1 hq_88
 refine x1_2 (r.inv1) fun y hq_89 b=>?_
 apply q1 hq_89
 exact ⟨x,y,rfl,a,b⟩
theorem ints_ok {h:Heap}:∀ {xs:List V} {vs:List Value} {ns:List Int},VRs B.fa h F xs vs→intsOf xs=some ns→PyProof.Rows.IntsAre vs ns
 | [],_,_,r,e=>by cases e; rw [r.nil_is]; exact .nil
 | v :: r,_,_,q,e=>by
  refine x2_3 (q.cons_is) fun x vs hq_92 a q'=>?_
  apply q1 hq_92
  refine x2_3 (map2_is e) fun n ms h1 h2 hq_93=>?_
  apply q2 hq_93
  refine x1_1 (a.ofInt h1) fun t hq_94=>?_
  apply q1 hq_94
  exact .cons n t (ints_ok q' h2)
theorem sum_ints:∀ {xs:List V} {a n:Int},sumL xs a=some n→∃ ns,intsOf xs=some ns∧n=a+ns.sum
 | [],a,n,e=>by cases e; exact ⟨[],rfl,(Int.add_zero _).symm⟩
 | v :: r,a,n,e=>by
  refine x1_2 (bind_is e) ?_
  (try clear e)
  intro x h e
  refine x1_2 (sum_ints (xs:=r) (a:=a+x) e) fun ns h1 h2=>?_
  exact ⟨x :: ns,by unfold intsOf; rw [h,Option.bind_some,h1]; rfl,by rw [h2,List.sum_cons,Int.add_assoc]⟩
theorem bytes_ints:∀ {xs:List V} {l:List Nat},bytesOf xs=some l→∃ ns,intsOf xs=some ns∧(∀ n∈ns,0≤n∧n < 256)∧l=ns.map Int.toNat
 | [],l,e=>by cases e; exact ⟨[],rfl,fun ζ h=>(by cases h),rfl⟩
 | v :: r,l,e=>by
  refine x1_2 (bind_is e) ?_
  (try clear e)
  intro x h e
  refine x0_2 (ite_of e) ?_
  (try clear e)
  intro q e
  refine x1_2 (map_is e) fun m k hq_95=>?_
  apply q2 hq_95
  refine x1_3 (bytes_ints k) fun ns h1 h2 hq_96=>?_
  apply q1 hq_96
  refine ⟨x :: ns,by unfold intsOf; rw [h,Option.bind_some,h1]; rfl,fun n hn=>?_,rfl⟩
  rcases List.mem_cons.mp hn with rfl | hn
  ·exact q
  ·exact h2 n hn
theorem strs_ok {h:Heap}:∀ {xs:List V} {vs:List Value} {ss:List (List Nat)},VRs B.fa h F xs vs→strsOf xs=some ss→∃ l:List (Str × Tok),strValues l=vs∧l.map (·.1.cps.toList)=ss
 | [],_,_,r,e=>by cases e; rw [r.nil_is]; exact ⟨[],rfl,rfl⟩
 | v :: r,_,_,q,e=>by
  refine x2_3 (q.cons_is) fun x vs hq_97 a q'=>?_
  apply q1 hq_97
  refine x2_3 (map2_is e) fun n ms h1 h2 hq_98=>?_
  apply q2 hq_98
  refine x2_3 (a.ofStr h1) fun p t hq_99 e1 ζ=>?_
  apply q1 hq_99
  refine x1_2 (strs_ok q' h2) fun l h3 h4=>?_
  exact ⟨(p,t) :: l,by rw [← h3]; rfl,by rw [List.map_cons,e1,h4]⟩
theorem insS_perm (x:Int):∀ l:List Int,(insS x l).Perm (x :: l)
 | []=>List.Perm.refl _
 | y :: r=>by
  unfold insS
  split
  ·exact List.Perm.refl _
  ·exact ((insS_perm x r).cons y).trans (List.Perm.swap x y r)
theorem sortS_perm:∀ l:List Int,(sortS l).Perm l
 | []=>List.Perm.refl _
 | x :: r=>(insS_perm x _).trans ((sortS_perm r).cons x)
set_option tactic.hygienic true in
theorem insS_sorted (x:Int):∀ l:List Int,l.Pairwise (·≤·)→(insS x l).Pairwise (·≤·)
 | [],_=>List.pairwise_singleton _ _
 | y :: r,h=>by
  unfold insS
  rw [List.pairwise_cons] at h
  split
  ·rename_i q
   refine List.pairwise_cons.mpr ⟨fun z hz=>?_,List.pairwise_cons.mpr h⟩
   rcases List.mem_cons.mp hz with rfl | hz
   ·(first | lia | omega)
   ·have:=h.1 z hz; (first | lia | omega)
  ·rename_i q
   refine List.pairwise_cons.mpr ⟨fun z hz=>?_,insS_sorted x r h.2⟩
   rcases List.mem_cons.mp ((insS_perm x r).mem_iff.mp hz) with rfl | hz
   ·(first | lia | omega)
   ·exact h.1 z hz
theorem sortS_sorted:∀ l:List Int,(sortS l).Pairwise (·≤·)
 | []=>.nil
 | x :: r=>insS_sorted x _ (sortS_sorted r)
theorem sorted_unique {l m:List Int} (p:l.Perm m) (h1:l.Pairwise (·≤·)) (h2:m.Pairwise (·≤·)):l=m :=
 List.Perm.eq_of_pairwise (fun a b ζ ζ h h'=>Int.le_antisymm h h') h1 h2 p
theorem ints_back {h:Heap}:∀ {vs:List Value} {ns:List Int},PyProof.Rows.IntsAre vs ns→VRs B.fa h F (ns.map .int) vs
 | _,_,.nil=>.nil
 | _,_,.cons n t r=>.cons (.int n t) (ints_back r)
theorem max_step {a x n:Int} (h:(if x > a then x else a)≤n):a≤n∧x≤n:=by
 by_cases q:x > a
 ·rw [if_pos q] at h; exact ⟨Int.le_trans (Int.le_of_lt q) h,h⟩
 ·rw [if_neg q] at h; exact ⟨h,Int.le_trans (Int.not_lt.mp q) h⟩
theorem maxL_ints:∀ {xs:List V} {a n:Int},maxL xs a=some n→∃ ns,intsOf xs=some ns∧n∈a :: ns∧∀ m∈a :: ns,m≤n
 | [],a,n,e=>by cases e; exact ⟨[],rfl,.head _,fun m hm=>by cases List.mem_singleton.mp hm; exact Int.le_refl _⟩
 | v :: r,a,n,e=>by
  refine x1_2 (bind_is e) ?_
  (try clear e)
  intro x h e
  refine x1_3 (maxL_ints e) fun ns h1 h2 h3=>?_
  have h4:=max_step (h3 _ (.head _))
  refine ⟨x :: ns,by unfold intsOf; rw [h,Option.bind_some,h1]; rfl,?_,fun m hm=>?_⟩
  ·rcases List.mem_cons.mp h2 with h | h
   ·rw [h]
    by_cases q:x > a
    ·rw [if_pos q]; exact .tail _ (.head _)
    ·rw [if_neg q]; exact .head _
   ·exact .tail _ (.tail _ h)
  ·rcases List.mem_cons.mp hm with rfl | hm
   ·exact h4.1
   ·rcases List.mem_cons.mp hm with rfl | hm
    ·exact h4.2
    ·exact h3 m (.tail _ hm)
theorem getD_in {ns:List Int} {i:Nat} (h:i < ns.length):ns.getD i 0∈ns:=by
 rw [List.getD_eq_getElem?_getD,List.getElem?_eq_getElem h]; exact List.getElem_mem h
theorem in_getD {ns:List Int} {n:Int} (h:n∈ns):∃ j,j < ns.length∧n=ns.getD j 0:=by
 obtain ⟨j,hj,e⟩:=List.getElem_of_mem h
 exact ⟨j,hj,by rw [List.getD_eq_getElem?_getD,List.getElem?_eq_getElem hj]; exact e.symm⟩
theorem evAt {xs:List V} {items:Array Value} {h':Heap} {tk:Nat} {a:Addr} (I:Inv B F σ s) (k:∀ b o,s.heap.get? b=some o→h'.get? b=some o) (hl:h'.PlainList a items) (hd:s.heap.get? a=none) (hv:VRs B.fa h' F xs items.toList) (hz:xs.length≤maxLen) :
  ∃ G,Step B F s G { s with heap:=h',toks:=tk }∧PE B σ (.lst xs) (.ref a) (F++G) { s with heap:=h',toks:=tk } :=
 let ⟨_,e⟩:=hl
 evEnd (.all k) (I.all k tk) (.lst e (I.dead hd).2 hv hz)
noncomputable abbrev CO (B:Base) (A:Around) (F:Lay) (σ:Sto) (s:Shared) (f:Value) (xs:List Value) (v:V):Prop:=EvT B A F s (call f xs) (PE B σ v)
theorem len_list_ok (I:Inv B F σ s) {a1:Addr} {its:Array Value} {xs:List V} (l1:s.heap.PlainList a1 its) (v1:VRs B.fa s.heap F xs its.toList) (bd:xs.length≤maxLen):CO B A F σ s (.builtin "len") [.ref a1] (.int (xs.length:Nat)):=by
 have z1:xs.length=its.size:=v1.length.trans Array.length_toList
 rw [maxLen_eq] at bd
 refine Calls.call_function_entry kind_len plain_len entry_len (args_len1 _) ?_
 exact wpAny_len_body_list l1.isList (by omega) (by rw [← z1]; exact evTok _ I (.int _ _))
theorem sum_list_ok (R:Room A d) (I:Inv B F σ s) {a1:Addr} {its:Array Value} {xs:List V} (l1:s.heap.PlainList a1 its) (v1:VRs B.fa s.heap F xs its.toList) {n:Int} (k:sumL xs 0=some n):CO B A F σ s (.builtin "sum") [.ref a1] (.int n):=by
 refine x1_2 (sum_ints k) fun ns h1 hq_100=>?_
 apply q1 hq_100
 have hi:=ints_ok v1 h1
 refine x1_1 ((show AllInts its from hi.allInts).items) fun ys hy=>?_
 have hl:s.heap.IsList a1 (intItems ys):=hy▸l1.isList
 refine sum_intListG R.handled hl fun h' tk t' hk=>?_
 have en:preSum (numAt ys) ys.size=0+ns.sum:=by
  have e2:ns=ys.toList.map (·.1):=by
   rw [← nums_intItems,← hy]; exact hi.numsOf.symm
  rw [preSum_eq,List.take_of_length_le (Nat.le_of_eq (by rw [List.length_map,Array.length_toList])),e2,Int.zero_add]
 rw [en]
 exact evEnd (.all hk) (I.all hk tk) (.int _ _)
theorem max_list_ok (R:Room A d) (I:Inv B F σ s) {a1:Addr} {its:Array Value} {xs:List V} (l1:s.heap.PlainList a1 its) (v1:VRs B.fa s.heap F xs its.toList) {n:Int} (k:maxV xs=some n):CO B A F σ s (.builtin "max") [.ref a1] (.int n):=by
 cases xs with
 | nil=>exact noS k
 | cons v r =>
 refine x1_2 (bind_is k) ?_
 (try clear k)
 intro n0 h0 k
 refine x1_3 (maxL_ints k) fun ns h1 h2 h3=>?_
 have hi:=ints_ok (ns:=n0 :: ns) v1 (by unfold intsOf; rw [h0,Option.bind_some,h1]; rfl)
 refine x1_1 ((show AllInts its from hi.allInts).items) fun ys hy=>?_
 have hl:s.heap.IsList a1 (intItems ys):=hy▸l1.isList
 have e2:n0 :: ns=ys.toList.map (·.1):=by
  rw [← nums_intItems,← hy]; exact hi.numsOf.symm
 have hsz:0 < ys.size:=by
  have:=congrArg List.length e2
  rw [List.length_map,List.length_cons] at this
  exact Nat.lt_of_lt_of_eq (Nat.succ_pos _) this
 refine max_intList R.handled hl hsz fun w h' tk hv hk=>?_
 refine x1_1 (intItems_at hv) fun t hq_101=>?_
 apply q1 hq_101
 refine x0_2 (argBest_gt (numAt ys) (ys.size - 1)) fun g1 g2=>?_
 have en:numAt ys (argBest (fun i j=>decide (numAt ys i > numAt ys j)) (ys.size - 1))=n:=by
  refine Int.le_antisymm (h3 _ ?_) ?_
  ·rw [e2,numAt_eq]; exact getD_in (by rw [List.length_map]; exact Nat.lt_of_le_of_lt g1 (by rw [Array.length_toList]; exact Nat.sub_lt hsz Nat.one_pos))
  ·rw [e2] at h2
   refine x1_2 (in_getD h2) fun j hj hq_102=>?_
   apply q1 hq_102
   rw [List.length_map,Array.length_toList] at hj
   rw [← numAt_eq]; exact g2 j (Nat.le_sub_one_of_lt hj)
 rw [en]
 exact evEnd (.all hk) (I.all hk tk) (.int _ _)
theorem sorted_list_ok (I:Inv B F σ s) {a1:Addr} {its:Array Value} {xs:List V} (l1:s.heap.PlainList a1 its) (v1:VRs B.fa s.heap F xs its.toList) (k:sortV xs σ=some (v,σ')):CO B A F σ' s (.builtin "sorted") [.ref a1] v:=by
 refine x1_2 (bind_is k) ?_
 (try clear k)
 intro ns h1 k
 refine x0_2 (ite_of k) ?_
 (try clear k)
 intro h64 k
 refine x0_2 (newList_is k) ?_
 (try clear k)
 intro hz k
 cases k
 have hi:=ints_ok v1 h1
 refine PyProof.Rows.sorted_ints (vs:=its.toList) l1.isList hi (by rw [hi.length]; exact h64) fun out ns' g1 g2 g3=>?_
 refine x1_1 (PyProof.Rows.sortedAll_at s.heap its.toList out) fun n hn=>?_
 have en:ns'=sortS ns:=sorted_unique (g2.trans (sortS_perm ns).symm) g3 (sortS_sorted ns)
 refine evAt (tk:=s.toks) I (fun b o hb=>PyProof.Rows.sortedAll_old hb) ⟨n,hn⟩ ?_ (by rw [← en]; exact ints_back g1) hz
 cases q2:s.heap.get? (s.heap.objs.size+1) with
 | none=>rfl
 | some o=>exact absurd (Heap.lt_size q2) (Nat.not_lt_of_le (Nat.le_succ _))
theorem its_ok (I:Inv B F σ s) (ra:VR B.fa s.heap F a x) {xs:List V} (e:itsV a σ=some xs):∃ (a1:Addr) (its:Array Value),x=.ref a1∧s.heap.PlainList a1 its∧VRs B.fa s.heap F xs its.toList:=by
 rcases or_is e with e | e
 ·refine x2_4 (ra.asList I e) fun a1 its1 q l1 v1 ζ=>?_
  exact ⟨a1,its1,q,l1,v1⟩
 ·refine x1_2 (bind_is e) ?_
  (try clear e)
  intro i h1 e
  refine x1_3 (I.scrAt e) fun its1 l1 v1 ζ=>?_
  exact ⟨_,its1,ra.ofFn h1,l1,v1⟩
theorem len_ok (I:Inv B F σ s) (ra:VR B.fa s.heap F a x) (e:lenV a σ=some v):CO B A F σ s (.builtin "len") [x] v:=by
 rcases or_is e with e | e
 ·refine x1_2 (map_is e) fun l h1 hq_103=>?_
  apply q2 hq_103
  refine x2_3 (ra.ofStr h1) fun p t hq_104 e1 bd=>?_
  apply q1 hq_104
  rw [maxLen_eq] at bd
  refine PySem.P.len_str (by rw [str_len e1]; omega) ?_
  rw [str_len e1]
  exact evTok _ I (.int _ _)
 rcases or_is e with e | e
 ·refine x1_2 (map_is e) fun xs h1 hq_105=>?_
  apply q2 hq_105
  refine x2_4 (ra.asList I h1) fun a1 its1 hq_106 l1 v1 bd=>?_
  apply q1 hq_106
  exact len_list_ok I l1 v1 bd
 ·refine x2_3 (map2_is e) fun i xs h1 h2 hq_107=>?_
  apply q2 hq_107
  refine x1_3 (I.scrAt h2) fun its1 l1 v1 bd=>?_
  rw [ra.ofFn h1]
  exact len_list_ok I l1 v1 bd
theorem callB_ok (R:Room A d) (I:Inv B F σ s) {f:Bi} {as:List V} {xs:List Value} (r:VRs B.fa s.heap F as xs) (e:callB f as σ=some (v,σ')):CO B A F σ' s (.builtin f.id) xs v:=by
 cases f with
 | len =>
  refine x1_2 (one_is e) fun u hq_108 e0=>?_
  subst hq_108
  refine x1_2 (r.inv1) fun x1 hq_109 r1=>?_
  apply q1 hq_109
  refine x1_2 (map_is e0) ?_
  (try clear e0)
  intro w h e0
  apply p2 e0
  exact len_ok I r1 h
 | sum =>
  refine x1_2 (one_is e) fun u hq_110 e0=>?_
  subst hq_110
  refine x1_2 (r.inv1) fun x1 hq_111 r1=>?_
  apply q1 hq_111
  refine x2_3 (map2_is e0) ?_
  (try clear e0)
  intro ls n h1 h2 e0
  apply p2 e0
  refine x2_3 (its_ok I r1 h1) fun a1 its1 hq_112 l1 v1=>?_
  apply q1 hq_112
  exact sum_list_ok R I l1 v1 h2
 | max =>
  refine x1_2 (one_is e) fun u hq_113 e0=>?_
  subst hq_113
  refine x1_2 (r.inv1) fun x1 hq_114 r1=>?_
  apply q1 hq_114
  refine x2_3 (map2_is e0) ?_
  (try clear e0)
  intro ls n h1 h2 e0
  apply p2 e0
  refine x2_4 (r1.asList I h1) fun a1 its1 hq_115 l1 v1 ζ=>?_
  apply q1 hq_115
  exact max_list_ok R I l1 v1 h2
 | min =>
  refine x2_2 (two_is e) fun u w hq_116 e0=>?_
  subst hq_116
  refine x2_3 (r.inv2) fun x1 x2 hq_117 r1 r2=>?_
  apply q1 hq_117
  refine x2_3 (map2_is e0) ?_
  (try clear e0)
  intro i j h1 h2 e0
  apply p2 e0
  refine x1_1 (r1.ofInt h1) fun t hq_118=>?_
  apply q1 hq_118
  refine x1_1 (r2.ofInt h2) fun t' hq_119=>?_
  apply q1 hq_119
  refine min_two_ints R.handled fun h' tk hk=>?_
  by_cases q:j < i
  ·rw [if_pos q,if_pos q]; exact evEnd (.all hk) (I.all hk tk) (.int _ _)
  ·rw [if_neg q,if_neg q]; exact evEnd (.all hk) (I.all hk tk) (.int _ _)
 | sorted =>
  refine x1_2 (one_is e) fun u hq_120 e0=>?_
  subst hq_120
  refine x1_2 (r.inv1) fun x1 hq_121 r1=>?_
  apply q1 hq_121
  refine x1_2 (bind_is e0) ?_
  (try clear e0)
  intro ls h1 e0
  refine x2_4 (r1.asList I h1) fun a1 its1 hq_122 l1 v1 ζ=>?_
  apply q1 hq_122
  exact sorted_list_ok I l1 v1 e0
 | chr =>
  refine x1_2 (one_is e) fun u hq_123 e0=>?_
  subst hq_123
  refine x1_2 (r.inv1) fun x1 hq_124 r1=>?_
  apply q1 hq_124
  refine x1_2 (bind_is e0) ?_
  (try clear e0)
  intro i h1 e0
  refine x0_2 (ite_is e0) ?_
  (try clear e0)
  intro q e0
  apply p2 e0
  refine x1_1 (r1.ofInt h1) fun t hq_125=>?_
  apply q1 hq_125
  exact PySem.P.chr_of_int (by simp; (first | lia | omega)) (evTok _ I (.str _ rfl (by show 1≤1048576; decide)))
 | iter=>exact noS e
theorem rng3_is {a b c:Int} (e:rng3 a b c=some v):c≠0∧c.natAbs≤1048576∧v=.rng a b c:=by
 refine x0_2 (ite_is e) ?_
 (try clear e)
 intro q e
 rw [Bool.and_eq_true,Bool.and_eq_true] at q
 exact ⟨bne_iff_ne.mp q.2,of_decide_eq_true q.1.2,e.symm⟩
theorem IntsAre.cons_is {vs:List Value} {n:Int} {ns:List Int} (h:PyProof.Rows.IntsAre vs (n :: ns)):∃ t ws,vs=.int n t :: ws∧PyProof.Rows.IntsAre ws ns:=by
 cases h with | cons _ t r=>exact ⟨t,_,rfl,r⟩
theorem IntsAre.nil_is {vs:List Value} (h:PyProof.Rows.IntsAre vs []):vs=[]:=by cases h; rfl
theorem range_ok (R:Room A d) (I:Inv B F σ s) {as:List V} {xs:List Value} (r:VRs B.fa s.heap F as xs) (e:rngV as=some v):CO B A F σ s (.type "range") xs v:=by
 refine x1_2 (bind_is e) ?_
 (try clear e)
 intro ns h1 e
 have hi:=ints_ok r h1
 cases ns with
 | nil=>exact noS e
 | cons n ns =>
 refine x2_2 (IntsAre.cons_is hi) fun t ws hq_126 hi1=>?_
 apply q1 hq_126
 cases ns with
 | nil =>
  rw [IntsAre.nil_is hi1]
  refine x0_2 (ite_is e) ?_
  (try clear e)
  intro _ e
  apply q2 e
  exact call_range_1 (evPush I (.rng (IsRange.new ..)))
 | cons m ns =>
 refine x2_2 (IntsAre.cons_is hi1) fun u ws2 hq_127 hi2=>?_
 apply q1 hq_127
 cases ns with
 | nil =>
  rw [IntsAre.nil_is hi2]
  refine x0_2 (ite_is e) ?_
  (try clear e)
  intro _ e
  apply q2 e
  exact call_range_2 (evPush I (.rng (IsRange.new ..)))
 | cons l ns =>
 refine x2_2 (IntsAre.cons_is hi2) fun w ws3 hq_128 hi3=>?_
 apply q1 hq_128
 cases ns with
 | cons=>exact noS e
 | nil =>
 rw [IntsAre.nil_is hi3]
 refine x0_3 (rng3_is e) fun q1 q2 hq_129=>?_
 subst hq_129
 exact call_range_3 q1 (evPush I (.rng (IsRange.new ..))) (.inl (PyProof.noPylong_small (Nat.lt_of_le_of_lt q2 (by decide))))
theorem bytes_ok (R:Room A d) (I:Inv B F σ s) {a1:Addr} {its:Array Value} {ls:List V} {l:List Nat} (l1:s.heap.PlainList a1 its) (v1:VRs B.fa s.heap F ls its.toList) (bd:ls.length≤maxLen) (k:bytesOf ls=some l):CO B A F σ s (.type "bytes") [.ref a1] (.bytes l):=by
 refine x1_3 (bytes_ints k) fun ns h1 h2 hq_130=>?_
 apply q1 hq_130
 have hi:=ints_ok v1 h1
 have z0:ls.length=its.toList.length:=v1.length
 refine call_bytes_ints (vs:=its.toList) l1.isList hi h2 (by rw [← z0]; exact len_line bd) R.handled fun h' t k hk=>?_
 refine evEnd (.all hk) (I.all hk k) (.bytes _ ?_ ?_)
 ·unfold byteArr
  rw [List.toList_toArray,List.map_map]
  refine List.map_congr_left fun n hn=>?_
  have:=h2 n hn
  show UInt8.toNat (n.toNat.toUInt8)=_
  simp [Nat.toUInt8]; omega
 ·rw [List.length_map,← hi.length,← z0]; exact bd
theorem digits_ok:∀ k:Nat,k < 10→((k:Int).natAbs.log2 < 1920)∧(Str.ofString (toString (k:Int))).cps.toList=[48+(k:Int).toNat]:=by decide +kernel
theorem text_ok:∀ k:Nat,k < 58→48≤k→intText? ⟨#[k]⟩=some ((k:Int) - 48):=by decide +kernel
theorem callT_ok (R:Room A d) (I:Inv B F σ s) {f:Ty} {as:List V} {xs:List Value} (r:VRs B.fa s.heap F as xs) (e:callT f as σ=some (v,σ')):CO B A F σ' s (.type f.nm) xs v:=by
 cases f with
 | range =>
  refine x1_2 (map_is e) ?_
  (try clear e)
  intro w h e
  apply p2 e
  exact range_ok R I r h
 | bytes =>
  refine x1_2 (one_is e) fun u hq_131 e0=>?_
  subst hq_131
  refine x1_2 (r.inv1) fun x1 hq_132 r1=>?_
  apply q1 hq_132
  refine x2_3 (map2_is e0) ?_
  (try clear e0)
  intro ls l h1 h2 e0
  apply p2 e0
  refine x2_4 (r1.asList I h1) fun a1 its1 hq_133 l1 v1 bd=>?_
  apply q1 hq_133
  exact bytes_ok R I l1 v1 bd h2
 | type =>
  refine x1_2 (one_is e) fun u hq_134 e0=>?_
  subst hq_134
  refine x1_2 (r.inv1) fun x1 hq_135 r1=>?_
  apply q1 hq_135
  refine x1_2 (map_is e0) ?_
  (try clear e0)
  intro w h e0
  apply p2 e0
  rcases or_is h with h | h
  ·refine x1_2 (map_is h) fun l h' hq_136=>?_
   apply q2 hq_136
   refine x2_2 (r1.ofBytes h') fun p t hq_137 ζ=>?_
   apply q1 hq_137
   exact call_type_of (PySem.W.typeIs_bytes s _ _) (by decide) (evTok s.toks I (.ty .bytes))
  ·refine x1_2 (map_is h) fun l h' hq_138=>?_
   apply q2 hq_138
   rw [r1.ofBool h']
   exact call_type_of (Tx:="bool") rfl (by decide) (evTok s.toks I (.ty .bool))
 | str =>
  refine x1_2 (one_is e) fun u hq_139 e0=>?_
  subst hq_139
  refine x1_2 (r.inv1) fun x1 hq_140 r1=>?_
  apply q1 hq_140
  refine x2_3 (map2_is e0) ?_
  (try clear e0)
  intro n w h1 h2 e0
  apply p2 e0
  refine x0_2 (ite_is h2) fun q hq_141=>?_
  apply q2 hq_141
  refine x1_1 (r1.ofInt h1) fun t hq_142=>?_
  apply q1 hq_142
  have hk:=digits_ok n.toNat (by (first | lia | omega))
  rw [Int.toNat_of_nonneg q.1] at hk
  exact PySem.P.str_of_int hk.1 (evTok _ I (.str _ hk.2 (by show 1≤1048576; decide)))
 | int =>
  refine x1_2 (one_is e) fun u hq_143 e0=>?_
  subst hq_143
  refine x1_2 (r.inv1) fun x1 hq_144 r1=>?_
  apply q1 hq_144
  refine x2_3 (map2_is e0) ?_
  (try clear e0)
  intro l w h1 h2 e0
  apply p2 e0
  cases l with
  | nil=>exact noS h2
  | cons c l =>
  refine x0_2 (ite_is h2) fun q hq_145=>?_
  apply q2 hq_145
  have hl:=List.isEmpty_iff.mp q.1
  subst hl
  refine x2_3 (r1.ofStr h1) fun p t hq_146 e1 bd=>?_
  subst hq_146
  refine PySem.W.KIN.call_text ?_ (by rw [str_len e1]; show 1≤640; decide) (evTok _ I (.int _ _))
  have ex:p=⟨#[c]⟩:=by cases p; simp only [Str.mk.injEq]; exact Array.toList_inj.mp e1
  rw [ex]; exact text_ok c q.2.2 q.2.1
 | _=>exact noS e
end
end Mine
namespace Mine
open PySem
section
variable {B:Base} {A:Around} {F:Lay} {σ σ':Sto} {s:Shared} {d:Nat} {a b v:V} {x y:Value}
theorem occ_many (x y:Str) (hi limit:Nat) (hy:y.length=1):∀ (n lo:Nat) (st:Array Nat × Nat),st.snd≤lo→st.fst.size+n≤limit →
  (forIn (List.range' lo n) st (StrLaws.occBody x y hi limit)).run.fst.size=st.fst.size+(List.range' lo n).countP (fun i=>decide (i+1≤hi)&&Builtin.Str.subAt x y i)
 | 0,lo,st,_,_=>by simp
 | n+1,lo,st,h1,h2=>by
  rw [List.range'_succ,List.forIn_cons,List.countP_cons]
  unfold StrLaws.occBody
  by_cases hc:(((st.fst.size < limit∧st.snd≤lo)∧lo+y.length≤hi)∧Builtin.Str.subAt x y lo=true)
  ·rw [if_pos hc]
   have ih:=occ_many x y hi limit hy n (lo+1) (st.fst.push lo,lo+y.length) (by simp [hy]) (by simp; (first | lia | omega))
   have hp:(decide (lo+1≤hi)&&Builtin.Str.subAt x y lo)=true:=by rw [hc.2,Bool.and_true,decide_eq_true_eq]; rw [hy] at hc; exact hc.1.2
   rw [hp,if_pos rfl]
   refine ih.trans ?_
   simp; (first | lia | omega)
  ·rw [if_neg hc]
   have ih:=occ_many x y hi limit hy n (lo+1) st (by (first | lia | omega)) (by (first | lia | omega))
   have hp:(decide (lo+1≤hi)&&Builtin.Str.subAt x y lo)=false:=by
    cases q:(decide (lo+1≤hi)&&Builtin.Str.subAt x y lo) with
    | false=>rfl
    | true =>
     rw [Bool.and_eq_true,decide_eq_true_eq] at q
     exact absurd ⟨⟨⟨by (first | lia | omega),h1⟩,by rw [hy]; exact q.1⟩,q.2⟩ hc
   rw [hp,if_neg (by decide)]
   exact ih.trans (by (first | lia | omega))
theorem count_range (c:Nat):∀ (l:List Nat) (lo:Nat),(List.range' lo (l.length+1)).countP (fun i=>decide (i+1≤lo+l.length)&&((l[i - lo]?)==some c))=l.count c
 | [],lo=>by simp
 | e :: l,lo=>by
  rw [List.length_cons,List.range'_succ,List.countP_cons,List.count_cons,← count_range c l (lo+1)]
  congr 1
  ·refine List.countP_congr fun i hi=>?_
   rw [List.mem_range'_1] at hi
   have:i - lo=(i - (lo+1))+1:=by (first | lia | omega)
   rw [this,List.getElem?_cons_succ,show lo+(l.length+1)=lo+1+l.length by (first | lia | omega)]
  ·simp
theorem count_ok {x y:Str} {l:List Nat} {c:Nat} (h1:x.cps.toList=l) (h2:y.cps.toList=[c]):Txt.count x y=((l.count c:Nat):Int):=by
 show (((Builtin.Str.occurrences x y 0 x.length (x.length+1)).length:Nat):Int)=_
 congr 1
 have hy:y.length=1:=by rw [str_len h2]; rfl
 rw [StrLaws.occ_eq,Array.length_toList,occ_many x y _ _ hy (x.length+1 - 0) 0 (#[],0) (Nat.le_refl _) (by simp),← count_range c l 0,str_len h1]
 simp only [List.size_toArray,List.length_nil,Nat.zero_add,Nat.sub_zero]
 refine List.countP_congr fun i hi=>?_
 rw [List.mem_range'_1] at hi
 rw [Bool.and_eq_true,Bool.and_eq_true,decide_eq_true_eq]
 refine and_congr_right fun hl=>?_
 rw [StrLaws.subAt_eq,h1,h2,hy]
 have hil:i < l.length:=by omega
 rw [List.drop_eq_getElem_cons hil,List.getElem?_eq_getElem hil,List.take_succ_cons,List.take_zero]
 simp
theorem glue_list (sep:List Nat):∀ (ss:List (List Nat)) (x:List Nat),ss.foldl (fun acc p=>acc++sep++p) x=joinL sep (x :: ss)
 | [],x=>rfl
 | y :: r,x=>by
  rw [List.foldl_cons,glue_list sep r]
  cases r with
  | nil=>rfl
  | cons z r=>show _=x++sep++(y++sep++joinL sep (z :: r)); show x++sep++y++sep++joinL sep (z :: r)=_; simp
theorem foldl_cps (sep:Str):∀ (ps:List Str) (acc:Array Nat),(ps.foldl (fun acc p=>acc++sep.cps++p.cps) acc).toList=(ps.map (·.cps.toList)).foldl (fun acc p=>acc++sep.cps.toList++p) acc.toList
 | [],acc=>rfl
 | p :: ps,acc=>by rw [List.foldl_cons,foldl_cps sep ps,List.map_cons,List.foldl_cons]; simp
theorem join_cps (sep:Str) (ps:List Str):(Txt.join sep ps).cps.toList=joinL sep.cps.toList (ps.map (·.cps.toList)):=by
 show ((ps.drop 1).foldl (fun acc p=>acc++sep.cps++p.cps) (ps.headD Str.empty).cps).toList=_
 rw [foldl_cps]
 cases ps with
 | nil=>rfl
 | cons p ps=>exact glue_list _ _ _
theorem join_sum (sep:List Nat):∀ ss:List (List Nat),ss≠[]→(joinL sep ss).length+sep.length=(ss.map fun x=>x.length+sep.length).sum
 | [],h=>absurd rfl h
 | [x],_=>by simp [joinL]
 | x :: y :: r,_=>by
  show (x++sep++joinL sep (y :: r)).length+_=_
  rw [List.map_cons,List.sum_cons,← join_sum sep (y :: r) (by simp)]
  simp only [List.length_append]; (first | lia | omega)
theorem fold_sum (k:Nat):∀ (ps:List Str) (n:Nat),ps.foldl (fun a p=>a+p.length+k) n=n+(ps.map fun p=>p.length+k).sum
 | [],n=>by simp
 | p :: ps,n=>by rw [List.foldl_cons,fold_sum k ps,List.map_cons,List.sum_cons]; (first | lia | omega)
theorem joinOk_of {sep:Str} {ps:List Str} (hs:sep.length≤maxLen) (h:(joinL sep.cps.toList (ps.map (·.cps.toList))).length≤maxLen):JoinOk sep ps=true:=by
 unfold JoinOk
 rw [Bool.not_eq_true']
 have e:ps.toArray.foldl (·+·.length+sep.length) 0=(ps.map fun p=>p.length+sep.length).sum:=by
  rw [List.foldl_toArray',fold_sum,Nat.zero_add]
  rfl
 rw [e]
 unfold Builtin.Str.tooLong
 refine decide_eq_false ?_
 cases ps with
 | nil=>simp
 | cons p ps =>
  have:=join_sum sep.cps.toList ((p :: ps).map (·.cps.toList)) (by simp)
  rw [List.map_map] at this
  have e2:((fun x:List Nat=>x.length+sep.cps.toList.length) ∘ fun x:Str=>x.cps.toList)=fun p:Str=>p.length+sep.length:=by
   funext p
   show p.cps.toList.length+sep.cps.toList.length=_
   rw [Array.length_toList,Array.length_toList]; rfl
  rw [e2] at this
  rw [← this,sizeLine_eq]
  have h2:sep.cps.toList.length=sep.length:=Array.length_toList
  rw [h2]
  unfold maxLen at hs h
  (first | lia | omega)
theorem first_ok {h:Heap} (rb:VR B.fa h F b y):∀ {as:List V} {xs:List Value} {k n:Nat},VRs B.fa h F as xs→inL b as=some true→firstL b as k=some n →
  ∃ j,n=k+j∧(∃ p,xs[j]?=some p∧eqC p y=true)∧∀ m p,m < j→xs[m]?=some p→eqC p y=false
 | [],_,k,n,_,e1,_=>by cases e1
 | u :: as,_,k,n,r,e1,e2=>by
  refine x2_3 (r.cons_is) fun x xs hq_147 ra r'=>?_
  apply q1 hq_147
  refine x2_3 (map2_is e1) fun c c2 q q2 hc=>?_
  have eq:=(eqS_ok ra rb q).2.2.2
  have e2':(if eqS u b=some true then some k else firstL b as (k+1))=some n:=e2
  rw [q] at e2'
  cases c with
  | true =>
   rw [if_pos rfl] at e2'; apply s1 e2'
   exact ⟨0,rfl,⟨x,rfl,eq⟩,fun m p hm=>absurd hm (Nat.not_lt_zero _)⟩
  | false =>
   rw [if_neg (by decide)] at e2'
   have hc:c2=true:=hc
   subst hc
   refine x1_3 (first_ok rb r' q2 e2') fun j hq_148 hw_149 hn=>?_
   apply q1 hq_148
   refine x1_2 (hw_149) fun p hp hq=>?_
   refine ⟨j+1,Nat.add_right_comm k 1 j,⟨p,hp,hq⟩,fun m p' hm hp'=>?_⟩
   cases m with
   | zero=>cases hp'; exact eq
   | succ m=>exact hn m p' (Nat.lt_of_succ_lt_succ hm) hp'
theorem head_cons {α:Type} {l:List α} {n:α} (h:l.head?=some n):∃ r,l=n :: r:=by
 cases l with
 | nil=>exact noS h
 | cons p r=>cases h; exact ⟨r,rfl⟩
noncomputable def recvT:Nat→String
 | 0=>"str"
 | _=>"list"
theorem recv_str {l:List Nat} (h:strV a=some l):recv σ a=some 0:=by rw [strV_is h]; rfl
theorem recv_cell {i:Nat} {xs:List V} (e:σ[i]?=some (.list xs)):recv σ (.ref i)=some 1:=by
 show (match σ[i]? with
  | some (.list _)=>some 1
  | some (.lex ..)=>some 2
  | _=>none)=_
 rw [e]
theorem recv_ref {i:Nat} {xs:List V} (h:refV a=some i) (e:vlist σ i=some xs):recv σ a=some 1:=by
 rw [refV_is h]; exact recv_cell (vlist_is e)
theorem recv_ls {xs:List V} (e:lsV σ a=some xs):recv σ a=some 1:=by
 cases a with
 | ref i=>exact recv_ref rfl e
 | lst=>rfl
 | _=>exact noS e
theorem recv_list {a1:Addr} {its:Array Value} (l1:s.heap.PlainList a1 its):PlainAttrs "list"∧s.TypeIs (.ref a1) "list"∧(∀ l,Value.ref a1=.ref l→∃ ob,s.heap.get? l=some ob∧ob.dict=none) :=
 let ⟨_,l1⟩:=l1; ⟨PySem.F.plainAttrs_list,⟨_,l1,rfl⟩,fun l q=>by rw [← Value.ref.inj q]; exact ⟨_,l1,rfl⟩⟩
set_option tactic.hygienic true in
theorem recv_ok (I:Inv B F σ s) (r:VR B.fa s.heap F a x) {k:Nat} (e:recv σ a=some k) (hk:k≠2):PlainAttrs (recvT k)∧s.TypeIs x (recvT k)∧(∀ l,x=.ref l→∃ ob,s.heap.get? l=some ob∧ob.dict=none):=by
 cases a with
 | str l =>
  apply s1 e
  refine x2_2 (r.str_is) fun p t hq_150 _=>?_
  apply q1 hq_150
  exact ⟨PySem.F.plainAttrs_str,typeIs_str _ _ _,fun _ q=>nomatch q⟩
 | ref i =>
  have e:(match σ[i]? with
   | some (.list _)=>some 1
   | some (.lex ..)=>some 2
   | _=>none)=some k:=e
  split at e
  ·rename_i ls q
   apply s1 e
   obtain ⟨_,f1,a1,its1,hq_151,l1,_⟩:=I.at1 q rfl
   subst hq_151
   rw [r.refAt f1]
   exact recv_list l1
  ·cases e; exact absurd rfl hk
  ·exact noS e
 | lst xs =>
  apply s1 e
  refine x2_3 (r.asLst) fun a1 its1 hq_152 l1 _=>?_
  apply q1 hq_152
  exact recv_list l1
 | _=>exact noS e
noncomputable def methId:Nat→Me→String
 | 0,.index=>"str.index"
 | 0,.join=>"str.join"
 | 0,.count=>"str.count"
 | 1,.append=>"list.append"
 | 1,.extend=>"list.extend"
 | 1,.index=>"list.index"
 | 1,.pop=>"list.pop"
 | _,_=>""
noncomputable def SlotO (k:Nat) (m:Me):Prop:=Slot (recvT k) m.nm (methId k m)∧typeOf (.builtin (methId k m))=pure (.type "method_descriptor")
noncomputable abbrev MethO (B:Base) (A:Around) (F:Lay) (s:Shared) (x:Value) (m:Me) (xs:List Value) (r:V × Sto) (k:Nat):Prop:=EvT B A F s (call (.builtin (methId k m)) (x :: xs)) (PE B r.2 r.1)
theorem kind_now {as:List V} {r:V × Sto} {m:Me} (e:methV a m as σ=some r):∃ k,recv σ a=some k∧k≠2∧SlotO k m:=by
 cases m with
 | append=>refine x1_2 (bind_is e) ?_; (try clear e); intro i h e; refine x1_2 (one_is e) ?_; (try clear e); intro u _ e; refine x1_2 (bind_is e) fun xs q ζ=>?_; exact ⟨1,recv_ref h q,by decide,PySem.F.slot_list_append,PySem.F.type_list_append⟩
 | pop=>refine x1_2 (bind_is e) ?_; (try clear e); intro i h e; refine x1_2 (one_is e) ?_; (try clear e); intro u _ e; refine x1_2 (bind_is e) ?_; (try clear e); intro k _ e; refine x0_2 (ite_of e) ?_; (try clear e); intro _ e; refine x1_2 (bind_is e) fun xs q ζ=>?_; exact ⟨1,recv_ref h q,by decide,PySem.F.slot_list_pop,PySem.F.type_list_pop⟩
 | extend=>refine x1_2 (bind_is e) ?_; (try clear e); intro i h e; refine x1_2 (one_is e) ?_; (try clear e); intro u _ e; refine x1_2 (bind_is e) ?_; (try clear e); intro ys _ e; refine x1_2 (bind_is e) fun xs q ζ=>?_; exact ⟨1,recv_ref h q,by decide,PySem.F.slot_list_extend,PySem.F.type_list_extend⟩
 | index =>
  rcases or_is e with e | e
  ·refine x1_2 (bind_is e) fun l h ζ=>?_; exact ⟨0,recv_str h,by decide,PySem.F.slot_str_index,PySem.F.type_str_index⟩
  ·refine x1_2 (bind_is e) fun xs q ζ=>?_; exact ⟨1,recv_ls q,by decide,PySem.F.slot_list_index,PySem.F.type_list_index⟩
 | join=>refine x1_2 (bind_is e) fun l h ζ=>?_; exact ⟨0,recv_str h,by decide,PySem.F.slot_str_join,PySem.F.type_str_join⟩
 | count=>refine x1_2 (bind_is e) fun l h ζ=>?_; exact ⟨0,recv_str h,by decide,PySem.F.slot_str_count,PySem.F.type_str_count⟩
 | _=>exact noS e
theorem pop_toList {its:Array Value} {y:Value} {ys:List Value} (h:its.toList=y :: ys):(its.eraseIdxIfInBounds 0).toList=ys:=by
 have z1:0 < its.size:=by rw [← Array.length_toList,h]; exact Nat.succ_pos _
 rw [show its.eraseIdxIfInBounds 0=its.eraseIdx 0 z1 from by simp [Array.eraseIdxIfInBounds,z1],Array.toList_eraseIdx,h]; rfl
theorem seq0 {n:Nat} (h:0 < n):seqIndex? 0 n=some 0:=by
 have h1:(decide ((0:Int)≤0)&&decide ((0:Int) < (n:Nat)))=true:=by simpa using h
 show (if (decide ((0:Int)≤0)&&decide ((0:Int) < (n:Nat)))=true then some (0:Int).toNat else none)=some 0
 rw [h1]; rfl
theorem append_ok (I:Inv B F σ s) {i:Nat} {ls:List V} {w:V} {x1:Value} (rx:VR B.fa s.heap F (.ref i) x) (q:vlist σ i=some ls) (r1:VR B.fa s.heap F w x1) (hz:ls.length < maxLen):EvT B A F s (call (.builtin "list.append") [x,x1]) (PE B (σ.set i (.list (ls++[w]))) .none):=by
 refine x2_4 (I.listAt q) fun a1 its1 f1 l1 v1 bd=>?_
 rw [rx.refAt f1]
 have z1:ls.length=its1.size:=v1.length.trans Array.length_toList
 refine wpAny_list_append_plain l1 (fun h' hl hs=>⟨[],.of_upd (tk:=s.toks) f1 hs,?_⟩) (by rw [sizeLine_eq,← z1]; unfold maxLen at bd; (first | lia | omega))
 rw [List.append_nil]
 exact ⟨I.upd (tk:=s.toks) f1 hs hl (by rw [Array.toList_push]; exact v1.append (.one r1)) (by rw [List.length_append,List.length_singleton]; exact hz),.none⟩
theorem extend_ok (I:Inv B F σ s) {i:Nat} {ls ms:List V} {x1:Value} (rx:VR B.fa s.heap F (.ref i) x) (ry:VR B.fa s.heap F b x1) (q1:vlist σ i=some ls) (q2:lsV σ b=some ms) (hz:ls.length+ms.length≤maxLen):EvT B A F s (call (.builtin "list.extend") [x,x1]) (PE B (σ.set i (.list (ls++ms))) .none):=by
 refine x2_4 (I.listAt q1) fun a1 its1 f1 hw_153 v1 bd=>?_
 refine x1_1 (hw_153) fun n1 l1=>?_
 refine x2_4 (ry.asList I q2) fun a2 its2 hq_154 hw_155 v2 bd2=>?_
 subst hq_154
 refine x1_1 (hw_155) fun n2 l2=>?_
 rw [rx.refAt f1]
 have z1:ls.length=its1.size:=v1.length.trans Array.length_toList
 have z2:ms.length=its2.size:=v2.length.trans Array.length_toList
 have hz':its1.size+its2.size≤1048576:=by rw [← z1,← z2]; exact hz
 refine call_meets PySem.F.slot_list_extend ⟨_,l1,rfl⟩ PySem.F.entry_list_extend (PySem.F.args_list_extend_2 _ _) (AutoSeq1.list_extend_list_list_0 a1 its1 n1 a2 its2 n2 ?_ (by rw [sizeLine_eq]; (first | lia | omega)) (by rw [sizeLine_eq]; (first | lia | omega))) ⟨l1,l2,?_⟩
 ·unfold Builtin.List.listTooLong
  rw [sizeLine_eq,decide_eq_false (by (first | lia | omega))]; simp
 ·refine ⟨[],.of_upd (tk:=s.toks) f1 (Heap.SameBut.update ..),?_⟩
  rw [List.append_nil]
  have em:Obj.mapSeq (fun x=>x++its2) { cls:=.type "list",data:=.seq its1 n1 }={ cls:=.type "list",data:=.seq (its1++its2) (if (its1++its2).size==its1.size then n1 else n1+1) }:=rfl
  exact ⟨I.upd (tk:=s.toks) f1 (Heap.SameBut.update ..) ⟨_,by rw [Heap.get?_update_self _ l1 (by rw [em]; rfl),em]⟩ (by rw [Array.toList_append]; exact v1.append v2) (by rw [List.length_append]; exact hz),.none⟩
theorem pop_ok (I:Inv B F σ s) {i:Nat} {ls:List V} {w:V} {t:Tok} (rx:VR B.fa s.heap F (.ref i) x) (q:vlist σ i=some (w :: ls)):EvT B A F s (call (.builtin "list.pop") [x,.int 0 t]) (PE B (σ.set i (.list ls)) w):=by
 refine x2_4 (I.listAt q) fun a1 its1 f1 hw_156 v1 bd=>?_
 refine x1_1 (hw_156) fun n1 l1=>?_
 rw [rx.refAt f1]
 have z1:ls.length+1=its1.size:=v1.length.trans Array.length_toList
 refine x2_3 (v1.cons_is) fun y ys hit ry rys=>?_
 have hy:its1[0]?=some y:=by rw [← Array.getElem?_toList,hit]; rfl
 have bd1:ls.length+1≤maxLen:=bd
 have bd':its1.size≤1048576:=by rw [← z1]; exact bd1
 refine call_meets PySem.F.slot_list_pop ⟨_,l1,rfl⟩ PySem.F.entry_list_pop (PySem.F.args_list_pop_2 _ _) (PySem.MeetsSeq.list_pop_at a1 its1 n1 0 t 0 y (by decide) (seq0 (by rw [← z1]; exact Nat.succ_pos _)) hy (by rw [sizeLine_eq]; (first | lia | omega))) ⟨l1,?_⟩
 obtain ⟨m,em⟩:∃ m,Obj.mapSeq (fun x=>x.eraseIdxIfInBounds 0) { cls:=.type "list",data:=.seq its1 n1 }={ cls:=.type "list",data:=.seq (its1.eraseIdxIfInBounds 0) m }:=⟨_,rfl⟩
 refine ⟨[],.of_upd (tk:=s.toks) f1 (Heap.SameBut.update ..),?_⟩
 rw [List.append_nil]
 exact ⟨I.upd (tk:=s.toks) f1 (Heap.SameBut.update ..) ⟨_,by rw [Heap.get?_update_self _ l1 (by rw [em]; rfl),em]⟩ (ys:=ls) (by rw [pop_toList hit]; exact rys) (Nat.le_of_succ_le bd1),ry.step (.of_kept (.of_same (Heap.SameBut.update ..)) fun b o w e=>I.mut (flat_mem f1.2 (w▸.head _)) o e)⟩
theorem index_ok (I:Inv B F σ s) {n:Nat} {ls:List V} {w:V} {x1:Value} (rx:VR B.fa s.heap F a x) (q:lsV σ a=some ls) (r1:VR B.fa s.heap F w x1) (q2:indexL w ls=some n):EvT B A F s (call (.builtin "list.index") [x,x1]) (PE B σ (.int (n:Nat))):=by
 refine x2_4 (rx.asList I q) fun a1 its1 hq_157 hw_158 v1 bd=>?_
 subst hq_157
 refine x1_1 (hw_158) fun n1 l1=>?_
 have z1:ls.length=its1.size:=v1.length.trans Array.length_toList
 rw [maxLen_eq] at bd
 refine x1_2 (bind_is q2) fun c q3 q4=>?_
 refine x0_2 (ite_of q4) ?_
 (try clear q4)
 intro hq_159 q4
 subst hq_159
 refine x1_3 (first_ok r1 v1 q3 q4) fun j hnj hw_160 hn=>?_
 refine x1_2 (hw_160) fun p hp hq=>?_
 rw [Nat.zero_add] at hnj
 subst hnj
 rw [Array.getElem?_toList] at hp
 obtain ⟨hj,hpj⟩:=Array.getElem?_eq_some_iff.mp hp
 have hin:=(inL_ok r1 v1 q3).1
 refine call_meets PySem.F.slot_list_index ⟨_,l1,rfl⟩ PySem.F.entry_list_index (PySem.F.args_list_index_2 _ _) (SeqAt.list_indexAt a1 its1 n1 none #[] x1 (fun p=>eqC p x1) n hj (by (first | lia | omega)) (by rw [hpj]; exact hq) fun m hm hmj=>hn m _ hmj (by rw [Array.getElem?_toList,Array.getElem?_eq_getElem hm])) ⟨l1,fun y hy=>hin y (Array.mem_toList_iff.mpr hy) _ _,evTok _ I (.int _ _)⟩
theorem join_ok (I:Inv B F σ s) {sep:List Nat} {ls:List V} {ss:List (List Nat)} {X:Str} {t:Tok} {a1:Addr} {its:Array Value} (e1:X.cps.toList=sep) (b1:sep.length≤maxLen) (l1:s.heap.PlainList a1 its) (v1:VRs B.fa s.heap F ls its.toList) (q2:strsOf ls=some ss) (hz:(joinL sep ss).length≤maxLen):EvT B A F s (call (.builtin "str.join") [.str X t,.ref a1]) (PE B σ (.str (joinL sep ss))):=by
 refine x1_2 (strs_ok v1 q2) fun l hl hs=>?_
 subst e1
 have hs':ss=(l.map (·.1)).map (·.cps.toList):=by rw [← hs,List.map_map]; rfl
 subst hs'
 exact SC.join (l:=l) (texts:=l.map (·.1)) (by rw [hl]; exact l1.isList) rfl (joinOk_of (by rw [← str_len rfl] at b1; exact b1) hz) fun t' k=>evTok _ I (.str _ (join_cps _ _) hz)
theorem meth_all (R:Room A d) (I:Inv B F σ s) (rx:VR B.fa s.heap F a x) {m:Me} {as:List V} {xs:List Value} (r:VRs B.fa s.heap F as xs) {p:V × Sto} (e:methV a m as σ=some p):∃ k,recv σ a=some k∧MethO B A F s x m xs p k:=by
 cases m with
 | append =>
  refine x1_2 (bind_is e) fun i h e1=>?_
  refine x1_2 (one_is e1) fun u hq_161 e2=>?_
  subst hq_161
  refine x1_2 (bind_is e2) fun ls q e3=>?_
  refine x0_2 (ite_is e3) fun hz hq_162=>?_
  subst hq_162
  refine x1_2 (r.inv1) fun x1 hq_163 r1=>?_
  apply q1 hq_163
  exact ⟨1,recv_ref h q,append_ok I (rx.asRef h) q r1 hz⟩
 | pop =>
  refine x1_2 (bind_is e) fun i h e1=>?_
  refine x1_2 (one_is e1) fun u hq_164 e2=>?_
  subst hq_164
  refine x1_2 (bind_is e2) fun k hk e3=>?_
  refine x0_2 (ite_of e3) fun hq_165 e4=>?_
  subst hq_165
  refine x1_2 (bind_is e4) fun ls q e5=>?_
  refine x1_2 (map_is e5) fun w hw hq_166=>?_
  subst hq_166
  refine x1_2 (r.inv1) fun x1 hq_167 r1=>?_
  apply q1 hq_167
  refine x1_1 (r1.ofInt hk) fun t hq_168=>?_
  apply q1 hq_168
  cases ls with
  | nil=>exact noS hw
  | cons v ls =>
   cases hw
   exact ⟨1,recv_ref h q,pop_ok I (rx.asRef h) q⟩
 | extend =>
  refine x1_2 (bind_is e) fun i h e1=>?_
  refine x1_2 (one_is e1) fun u hq_169 e2=>?_
  subst hq_169
  refine x2_3 (bin2_is e2) fun ms ls q2 q1 e4=>?_
  refine x0_2 (ite_is e4) fun hz hq_170=>?_
  subst hq_170
  refine x1_2 (r.inv1) fun x1 hq_171 r1=>?_
  subst hq_171
  exact ⟨1,recv_ref h q1,extend_ok I (rx.asRef h) r1 q1 q2 hz.2⟩
 | index =>
  rcases or_is e with e1 | e1
  ·refine x1_2 (bind_is e1) fun l h e2=>?_
   refine x1_2 (one_is e2) fun u hq_172 e3=>?_
   subst hq_172
   refine x1_2 (bind_is e3) fun k h2 e4=>?_
   refine x1_2 (map_is e4) fun n q hq_173=>?_
   subst hq_173
   refine x1_2 (r.inv1) fun x1 hq_174 r1=>?_
   apply q1 hq_174
   refine x2_3 (rx.ofStr h) fun p1 t hq_175 f1 bd=>?_
   apply q1 hq_175
   refine x2_3 (r1.ofStr h2) fun p2 t2 hq_176 f2 bd2=>?_
   apply q1 hq_176
   have:=occ_sub f1 f2
   rw [q] at this
   refine x1_1 (head_cons this) fun rest hr=>?_
   exact ⟨0,recv_str h,SC.index hr (evTok _ I (.int _ _))⟩
  ·refine x1_2 (bind_is e1) fun ls q e2=>?_
   refine x1_2 (one_is e2) fun u hq_177 e3=>?_
   subst hq_177
   refine x1_2 (map_is e3) fun n q2 hq_178=>?_
   subst hq_178
   refine x1_2 (r.inv1) fun x1 hq_179 r1=>?_
   apply q1 hq_179
   exact ⟨1,recv_ls q,index_ok I rx q r1 q2⟩
 | join =>
  refine x1_2 (bind_is e) fun sep h e1=>?_
  refine x1_2 (one_is e1) fun u hq_180 e2=>?_
  subst hq_180
  refine x2_3 (bin2_is e2) fun ls ss q1 q2 e3=>?_
  refine x0_2 (ite_is e3) fun hz hq_181=>?_
  subst hq_181
  refine x1_2 (r.inv1) fun x1 hq_182 r1=>?_
  subst hq_182
  refine x2_3 (rx.ofStr h) fun p1 t hq_183 f1 bd=>?_
  subst hq_183
  refine x2_4 (r1.asList I q1) fun a1 its1 hq_184 l1 v1 ζ=>?_
  subst hq_184
  exact ⟨0,recv_str h,join_ok I f1 bd l1 v1 q2 hz⟩
 | count =>
  refine x1_2 (bind_is e) fun l h e1=>?_
  refine x1_2 (one_is e1) fun u hq_185 e2=>?_
  subst hq_185
  refine x1_2 (bind_is e2) fun k h2 e3=>?_
  refine x0_2 (ite_is e3) fun hz hq_186=>?_
  subst hq_186
  refine x1_2 (r.inv1) fun x1 hq_187 r1=>?_
  apply q1 hq_187
  refine x2_3 (rx.ofStr h) fun p1 t hq_188 f1 bd=>?_
  apply q1 hq_188
  refine x2_3 (r1.ofStr h2) fun p2 t2 hq_189 f2 bd2=>?_
  apply q1 hq_189
  refine x1_1 (List.length_eq_one_iff.mp hz) fun c hq_190=>?_
  subst hq_190
  exact ⟨0,recv_str h,SC.count (by rw [count_ok f1 f2]; exact evTok _ I (.int _ _))⟩
 | _=>exact noS e
theorem recv_now {m:Me} {as:List V} {r:V × Sto} {σ₁:Sto} {k:Nat} (hk:recv σ₁ a=some k) (h2:k≠2) (e:methV a m as σ=some r):recv σ a=some k∧SlotO k m:=by
 refine x1_3 (kind_now e) fun k' q h3 o=>?_
 cases a with
 | str l=>cases hk; cases q; exact ⟨rfl,o⟩
 | ref i =>
  have f:∀ (ob:Option O) (k:Nat),(match ob with
   | some (.list _)=>some 1
   | some (.lex ..)=>some 2
   | _=>none)=some k→k=1∨k=2:=fun ob k h=>by
   split at h
   ·cases h; exact .inl rfl
   ·cases h; exact .inr rfl
   ·exact noS h
  have h1:k=1:=(f _ _ hk).resolve_right h2
  apply q1 h1
  have h4:k'=1:=(f _ _ q).resolve_right h3
  subst h4
  exact ⟨q,o⟩
 | lst xs=>cases hk; cases q; exact ⟨rfl,o⟩
 | _=>exact noS hk
theorem meth_ok (R:Room A d) (I:Inv B F σ s) (rx:VR B.fa s.heap F a x) {m:Me} {as:List V} {xs:List Value} (r:VRs B.fa s.heap F as xs) {k:Nat} (hk:recv σ a=some k) (e:methV a m as σ=some (v,σ')):MethO B A F s x m xs (v,σ') k:=by
 refine x1_2 (meth_all (A:=A) R I rx r e) fun k' h o=>?_
 rw [hk] at h
 cases h
 exact o
end
end Mine
namespace Mine
open PySem
noncomputable def PlainIt (o:Obj):Prop:=∀ n vs,o.cls=.type n→o.data=.fields vs→["enumerate","zip","dict_itemiterator","dict_reverseitemiterator","odict_iterator","itertools.zip_longest","itertools.pairwise"].contains n=false
theorem plainIt_of {o:Obj} {n:String} (c:o.cls=.type n) (h:["enumerate","zip","dict_itemiterator","dict_reverseitemiterator","odict_iterator","itertools.zip_longest","itertools.pairwise"].contains n=false):PlainIt o:=fun m ζ e ζ=>by rw [c] at e; cases e; exact h
noncomputable def ItR (B:Base) (h:Heap) (F:Lay) (I:Addr) (k:Nat):It→Prop
 | .live j=>∃ a,Fat F j [a]∧h.IsListIter I a k
 | .items vs=>∃ (n:Nat) (fp:List Addr) (P:Nat→Value→Prop) (St:Nat→Heap→Prop),n=vs.length∧(∀ A:Around,A.handled=none→Walks B.prog B.w A I fp [I] n P St)∧St k h ∧
   (∀ i v,i < n→P i v→∃ u,vs[i]?=some u∧VR B.fa h F u v)∧(∀ b∈fp,b=I∨∃ o,h.get? b=some o∧Imm o∧(Ls o→b∉F.flatten))∧∀ k h,St k h→∃ o,h.get? I=some o∧¬ Imm o∧PlainIt o
section
variable {B:Base} {A:Around} {F G:Lay} {σ σ':Sto} {s:Shared} {d:Nat} {a b v:V} {x y:Value} {I:Addr} {k:Nat} {it:It}
theorem ItR.step {h h':Heap} (r:ItR B h F I k it) (hI:∀ o,h.get? I=some o→h'.get? I=some o) (m:Mv F G h h'):ItR B h' G I k it:=by
 cases it with
 | live j=>refine x1_2 (r) fun a e q=>?_; exact ⟨a,m.kf _ _ e,q.at hI⟩
 | items vs =>
  refine x4_6 (r) fun n fp P St en W st hP hf hn=>?_
  refine ⟨n,fp,P,St,en,W,(W {} rfl).frame k h h' st fun b hb o e=>?_,fun i v hi p=>let ⟨u,e,q⟩:=hP i v hi p; ⟨u,e,q.step m⟩,fun b hb=>(hf b hb).imp id fun ⟨o,e,i,z⟩=>⟨o,m.im b o e i z,i,fun l=>m.kg b o e i l (z l)⟩,hn⟩
  rcases hf b hb with rfl | ⟨o',e',i,z⟩
  ·exact hI o e
  ·rw [e] at e'; cases e'; exact m.im b o e i z
theorem ItR.live' {h:Heap} (r:ItR B h F I k it):∃ o,h.get? I=some o∧¬ Imm o∧PlainIt o:=by
 cases it with
 | live j=>obtain ⟨a,e,o,q,c,_⟩:=r; exact ⟨o,q,no_cls c rfl,plainIt_of c (by decide)⟩
 | items vs=>refine x4_6 (r) fun n fp P St en W st hP hf hn=>?_; exact hn _ _ st
theorem ItR.live_ {h:Heap} (r:ItR B h F I k it):∃ o,h.get? I=some o∧¬ Imm o:=let ⟨o,e,n,_⟩:=r.live'; ⟨o,e,n⟩
structure ItP (B:Base) (F:Lay) (σ:Sto) (it:It) (s:Shared) (I:Addr) (s':Shared):Prop where
 inv:Inv B F σ s'
 dead:s.heap.get? I=none
 keep:∀ b o,s.heap.get? b=some o→s'.heap.get? b=some o
 itr:ItR B s'.heap F I 0 it
theorem ItP.push {o:Obj} (Iv:Inv B F σ s) (r:ItR B (s.heap.push o) F s.heap.objs.size 0 it):ItP B F σ it s s.heap.objs.size { s with heap:=s.heap.push o } :=
 ⟨Iv.push o s.toks,dead_size _,fun ζ ζ e=>Heap.get?_push_of_some o e,r⟩
theorem size_bounds (a b c:Int) (ha:a.natAbs≤1048576) (hb:b.natAbs≤1048576) (hc:c≠0):0≤Builtin.Range.rangeSize a b c∧Builtin.Range.rangeSize a b c≤2097153:=by
 unfold Builtin.Range.rangeSize
 split
 ·split
  ·have h1:0≤(b - a - 1) / c:=Int.ediv_nonneg (by omega) (by omega)
   have h2:(b - a - 1) / c≤b - a - 1:=Int.ediv_le_self _ (by omega)
   omega
  ·omega
 ·split
  ·have h1:0≤(a - b - 1) / (-c):=Int.ediv_nonneg (by omega) (by omega)
   have h2:(a - b - 1) / (-c)≤a - b - 1:=Int.ediv_le_self _ (by omega)
   omega
  ·omega
theorem fits_long {i:Int} (h:i.natAbs≤4194304):Builtin.Range.rangeFitsLong i=true:=by
 unfold Builtin.Range.rangeFitsLong
 rw [Bool.and_eq_true,decide_eq_true_eq,decide_eq_true_eq]; omega
theorem small_range {a b c:Int} (ha:a.natAbs≤1048576) (hb:b.natAbs≤1048576) (hc:c.natAbs≤1048576) (h0:c≠0):Builtin.Range.small a b c=true:=by
 have h:=size_bounds a b c ha hb h0
 unfold Builtin.Range.small
 rw [fits_long (by omega),fits_long (by omega),fits_long (by omega),fits_long (by omega)]
 split
 ·rw [fits_long (by omega)]; simp
 ·rw [fits_long (by omega)]; simp
theorem iterCls {o:Obj} {n:String} (c:o.cls=.type n) (h1:["tuple","range","code","list"].contains n=false) (h:["enumerate","zip","dict_itemiterator","dict_reverseitemiterator","odict_iterator","itertools.zip_longest","itertools.pairwise"].contains n=false):¬ Imm o∧PlainIt o:=⟨no_cls c h1,plainIt_of c h⟩
noncomputable abbrev ItK (B:Base) (A:Around) (F:Lay) (σ:Sto) (s:Shared) (x:Value) (it:It):Prop:=∀ {E Q:Value→Shared→Prop},(∀ I s',ItP B F σ it s I s'→Q (.ref I) s')→wpAny (model B.prog B.w) A (pyIter x) Q E s
theorem vrs_at {fa:Nat→Addr} {h:Heap} {vs:List V} {items:Array Value} (rs:VRs fa h F vs items.toList) {i:Nat} {v:Value} (p:items[i]?=some v):∃ u,vs[i]?=some u∧VR fa h F u v:=by
 rw [← Array.getElem?_toList] at p
 obtain ⟨l,_⟩:=List.getElem?_eq_some_iff.mp p
 rw [← rs.length] at l
 refine x1_2 (rs.get (List.getElem?_eq_getElem l)) fun x' ex rx=>?_
 rw [p] at ex; cases ex
 exact ⟨_,List.getElem?_eq_getElem l,rx⟩
theorem mem_two {b I t:Addr} {P:Prop} (h:b∈[I,t]) (p:b=t→P):b=I∨P:=(List.mem_cons.mp h).imp id fun h=>p (List.mem_singleton.mp h)
theorem iter_tup (Iv:Inv B F σ s) {vs:List V} {t:Addr} {items:Array Value} {n:Nat} (ht:s.heap.get? t=some { cls:=.type "tuple",data:=.seq items n }) (rs:VRs B.fa s.heap F vs items.toList):ItK B A F σ s (.ref t) (.items vs):=by
 intro E Q h
 refine wpAny_pyIter_tuple ⟨_,ht,rfl,_,rfl⟩ (h _ _ (.push Iv ?_))
 refine ⟨items.size,[s.heap.objs.size,t],_,_,(rs.length.trans Array.length_toList).symm,fun A hA=>Walks.tuple hA s.heap.objs.size t (Nat.ne_of_lt (Heap.lt_size ht)) items,⟨⟨_,Heap.get?_push_size _ rfl,rfl,rfl⟩,⟨_,Heap.get?_push_of_some _ ht,rfl,_,rfl⟩⟩,fun i v hi p=>vrs_at (rs.step (.push _ _ _)) p,
  fun b hb=>mem_two hb fun q=>⟨_,q▸Heap.get?_push_of_some _ ht,imTup,fun l=>(lsNo rfl (by decide) l).elim⟩,?_⟩
 rintro k h ⟨⟨o,q,c,_⟩,_⟩
 exact ⟨o,q,iterCls c rfl rfl⟩
theorem iter_lst (Iv:Inv B F σ s) {vs:List V} {t:Addr} {items:Array Value} {n:Nat} (ht:s.heap.get? t=some { cls:=.type "list",data:=.seq items n }) (hq:t∉F.flatten) (rs:VRs B.fa s.heap F vs items.toList):ItK B A F σ s (.ref t) (.items vs):=by
 intro E Q h
 refine wpAny_pyIter_list ⟨_,ht,rfl,_,rfl⟩ (h _ _ (.push Iv ?_))
 refine ⟨items.size,[s.heap.objs.size,t],_,_,(rs.length.trans Array.length_toList).symm,fun A hA=>Walks.list hA s.heap.objs.size t (Nat.ne_of_lt (Heap.lt_size ht)) items,⟨⟨_,Heap.get?_push_size _ rfl,rfl,rfl⟩,⟨_,Heap.get?_push_of_some _ ht,rfl,_,rfl⟩⟩,fun i v hi p=>vrs_at (rs.step (.push _ _ _)) p,
  fun b hb=>mem_two hb fun q=>⟨_,q▸Heap.get?_push_of_some _ ht,imLst,fun ζ=>q▸hq⟩,?_⟩
 rintro k h ⟨⟨o,q,c,_⟩,_⟩
 exact ⟨o,q,iterCls c rfl rfl⟩
theorem mem_one {b I:Addr} {P:Prop} (h:b∈[I]):b=I∨P:=.inl (List.mem_singleton.mp h)
theorem sign_at {xs:Str} {l:List Nat} (e1:xs.cps.toList=l) {fa:Nat→Addr} {h:Heap} {i:Nat} {v:Value} (p:SignAt xs i v):∃ u,(l.map fun c=>V.str [c])[i]?=some u∧VR fa h F u v:=by
 refine x2_2 (p) fun c u hc hq_191=>?_
 apply q1 hq_191
 exact ⟨.str [c],by rw [List.getElem?_map,← e1,Array.getElem?_toList,hc]; rfl,.str _ rfl (by show 1≤1048576; decide)⟩
theorem iter_str (Iv:Inv B F σ s) {xs:Str} {l:List Nat} {t:Tok} (e1:xs.cps.toList=l):ItK B A F σ s (.str xs t) (.items (l.map fun c=>.str [c])):=by
 intro E Q h
 have hl:xs.cps.size=(l.map fun c=>V.str [c]).length:=by rw [List.length_map,← e1,Array.length_toList]
 cases ha:xs.cps.all (· < 128)
 ·refine wpAny_pyIter_wide ha (h _ _ (.push Iv ?_))
  refine ⟨xs.cps.size,[s.heap.objs.size],SignAt xs,fun i h=>h.IsStrIter s.heap.objs.size "str_iterator" xs t i,hl,fun A hA=>Walks.strWide hA s.heap.objs.size xs t,⟨_,Heap.get?_push_size _ rfl,rfl,rfl⟩,fun i v hi p=>sign_at e1 p,fun b hb=>mem_one hb,?_⟩
  rintro k h ⟨o,q,c,_⟩
  exact ⟨o,q,iterCls c rfl rfl⟩
 ·refine wpAny_pyIter_ascii ha (h _ _ (.push Iv ?_))
  refine ⟨xs.cps.size,[s.heap.objs.size],SignAt xs,fun i h=>h.IsStrIter s.heap.objs.size "str_ascii_iterator" xs t i,hl,fun A hA=>Walks.strAscii hA s.heap.objs.size xs t,⟨_,Heap.get?_push_size _ rfl,rfl,rfl⟩,fun i v hi p=>sign_at e1 p,fun b hb=>mem_one hb,?_⟩
  rintro k h ⟨o,q,c,_⟩
  exact ⟨o,q,iterCls c rfl rfl⟩
theorem iter_bytes (Iv:Inv B F σ s) {xs:Array UInt8} {l:List Nat} {t:Tok} (e1:xs.toList.map UInt8.toNat=l):ItK B A F σ s (.bytes xs t) (.items (l.map fun c=>.int (c:Nat))):=by
 intro E Q h
 refine W.KBw.pyIter_bytes (h _ _ (.push Iv ?_))
 refine ⟨xs.size,[s.heap.objs.size],(fun i v=>∃ c u,xs[i]?=some c∧v=.int (c.toNat:Int) u),fun i h=>W.KBw.IsBytesIter h s.heap.objs.size xs t i,by rw [List.length_map,← e1,List.length_map,Array.length_toList],fun A hA=>W.KBw.walks hA s.heap.objs.size xs t,⟨_,Heap.get?_push_size _ rfl,rfl,rfl⟩,fun i v hi p=>?_,fun b hb=>mem_one hb,?_⟩
 ·refine x2_2 (p) fun c u hc hq_192=>?_
  apply q1 hq_192
  exact ⟨.int (c.toNat:Nat),by rw [List.getElem?_map,← e1,List.getElem?_map,Array.getElem?_toList,hc]; rfl,.int _ _⟩
 ·rintro k h ⟨o,q,c,_⟩
  exact ⟨o,q,iterCls c rfl rfl⟩
theorem iter_rng (Iv:Inv B F σ s) {a b c:Int} {ra:Addr} {t u w:Tok} (hr:IsRange s.heap ra a b c t u w) (q:(smallR a&&smallR b&&smallR c&&c != 0)=true):ItK B A F σ s (.ref ra) (.items ((rangeL a b c).map .int)):=by
 intro E Q h
 rw [Bool.and_eq_true,Bool.and_eq_true,Bool.and_eq_true] at q
 have q1:=of_decide_eq_true q.1.1.1
 have q2:=of_decide_eq_true q.1.1.2
 have q3:=of_decide_eq_true q.1.2
 have q4:=bne_iff_ne.mp q.2
 have hs:=size_bounds a b c q1 q2 q4
 refine wpAny_pyIter_range hr (small_range q1 q2 q3 q4) (h _ _ (.push Iv ?_))
 have hl:((rangeL a b c).map V.int).length=(Builtin.Range.rangeSize a b c).toNat:=by unfold rangeL; rw [List.length_map,List.length_map,List.length_range]
 refine ⟨_,[s.heap.objs.size],_,_,hl.symm,fun A hA=>Walks.range (prog:=B.prog) (w:=B.w) hA s.heap.objs.size a c (Builtin.Range.rangeSize a b c).toNat,?_,fun i v hi p=>?_,fun b hb=>mem_one hb,?_⟩
 ·have e1:a+((0:Nat):Int)*c=a:=by rw [Int.natCast_zero,Int.zero_mul,Int.add_zero]
  have e2:(((Builtin.Range.rangeSize a b c).toNat:Nat):Int) - ((0:Nat):Int)=Builtin.Range.rangeSize a b c:=by rw [Int.toNat_of_nonneg hs.1,Int.natCast_zero,Int.sub_zero]
  show IsRangeIter _ _ _ _ _
  rw [e1,e2]
  exact Heap.get?_push_size _ rfl
 ·refine x1_1 (p) fun t' hq_193=>?_
  subst hq_193
  refine ⟨.int (a+(i:Int)*c),?_,.int _ _⟩
  unfold rangeL
  rw [List.getElem?_map,List.getElem?_map,List.getElem?_range hi]; rfl
 ·rintro k h q
  exact ⟨_,q,iterCls rfl rfl rfl⟩
theorem iter_ok (Iv:Inv B F σ s) (r:VR B.fa s.heap F a x) {n:Nat} (e:iterOf σ a=some (it,n)) {E:Value→Shared→Prop} {Q:Value→Shared→Prop} (h:∀ I s',ItP B F σ it s I s'→Q (.ref I) s'):wpAny (model B.prog B.w) A (pyIter x) Q E s:=by
 cases a with
 | ref i =>
  refine x1_2 (map_is e) ?_
  (try clear e)
  intro ls q e
  cases e
  refine x2_4 (Iv.listAt q) fun a1 its1 f1 l1 v1 bd=>?_
  rw [r.refAt f1]
  exact wpAny_pyIter_list l1.isList (h _ _ (.push Iv ⟨a1,f1,_,Heap.get?_push_size _ rfl,rfl,rfl⟩))
 | tup vs=>cases e; refine x3_4 (r.tup_is) fun t items n hq_194 ht rs ζ=>?_; subst hq_194; exact iter_tup Iv ht rs h
 | lst vs=>cases e; refine x3_5 (r.lst_is) fun t items n hq_195 ht q rs ζ=>?_; subst hq_195; exact iter_lst Iv ht q rs h
 | str l=>cases e; refine x2_3 (r.str_is) fun p t hq_196 e1 ζ=>?_; subst hq_196; exact iter_str Iv e1 h
 | bytes l=>cases e; refine x2_3 (r.bytes_is) fun p t hq_197 e1 ζ=>?_; subst hq_197; exact iter_bytes Iv e1 h
 | rng a b c =>
  refine x0_2 (ite_is e) ?_
  (try clear e)
  intro q e
  cases e
  refine x4_2 (r.rng_is) fun ra t u w hq_198 hr=>?_
  subst hq_198
  exact iter_rng Iv hr q h
 | _=>exact noS e
structure NxP (B:Base) (F:Lay) (σ:Sto) (s:Shared) (I:Addr) (s':Shared):Prop where
 inv:Inv B F σ s'
 keep:Kept (·=I) s.heap s'.heap
theorem nx_of {h':Heap} {tk:Nat} (Iv:Inv B F σ s) (r:ItR B s.heap F I k it) (hf:B.h0.get? I=none) (hI:I∉F.flatten) (e:Kept (·=I) s.heap h'):NxP B F σ s I { s with heap:=h',toks:=tk }∧Mv F F s.heap h':=by
 refine x1_2 (r.live_) fun o eo no=>?_
 have nn:∀ b o,b=I→s.heap.get? b=some o→B.h0.get? b=none∧b∉F.flatten∧¬ Imm o:=fun b o' q e'=>by
  subst q; rw [eo] at e'; cases e'; exact ⟨hf,hI,no⟩
 exact ⟨⟨Iv.keep e nn,e⟩,.of_kept e fun b o q e'=>.of (nn b o q e').2.2⟩
theorem next_ok (hh:A.handled=none) (Iv:Inv B F σ s) (r:ItR B s.heap F I k it) (hf:B.h0.get? I=none) (hI:I∉F.flatten) {ov:Option V} (e:nextAt it k σ=some ov) {E:Value→Shared→Prop} {Q:Option Value→Shared→Prop}
  (h0:ov=none→∀ s',NxP B F σ s I s'→Q none s') (h1:∀ v x s',ov=some v→NxP B F σ s I s'→ItR B s'.heap F I (k+1) it→VR B.fa s'.heap F v x→Q (some x) s')
  (hle:∀ vs,it=.items vs→k≤vs.length):wpAny (model B.prog B.w) A (pyNext (.ref I)) Q E s:=by
 cases it with
 | live j =>
  have r':=r
  refine x1_2 (r) fun a ef q=>?_
  unfold nextAt at e; dsimp only at e
  cases qv:vlist σ j with
  | none=>rw [qv] at e; exact noS e
  | some ls =>
   rw [qv] at e; cases e
   refine x2_4 (Iv.listAt qv) fun a1 its1 f1 l1 v1 bd=>?_
   cases ef.2.symm.trans f1.2
   cases qk:ls[k]? with
   | none =>
    refine wpAny_pyNext_list_end hh q l1.isList ?_ fun h' he=>h0 qk _ (nx_of (tk:=s.toks) Iv r' hf hI (.of_ext he)).1
    rw [Array.getElem?_eq_none_iff]; rw [List.getElem?_eq_none_iff,v1.length,Array.length_toList] at qk; exact qk
   | some u =>
    refine x1_2 (v1.get qk) fun x ex rx=>?_
    refine wpAny_pyNext_list_item q l1.isList (by rw [← Array.getElem?_toList]; exact ex) fun h' hi hs=>?_
    refine x0_2 (nx_of (tk:=s.toks) Iv r' hf hI (.of_same hs)) fun n im=>?_
    exact h1 u x _ qk n ⟨a,ef,hi⟩ (rx.step im)
 | items vs =>
  have r':=r
  refine x4_6 (r) fun n fp P St en W st hP hfp hn=>?_
  cases e
  have hk:=hle vs rfl
  by_cases hkn:k < n
  ·refine (W A hh).item k s Q E hkn st fun v h' tk hp st' hk'=>?_
   have kp:Kept (·=I) s.heap h':=fun b o e q=>hk' b o (fun m=>q (by simpa using m)) e
   refine x0_2 (nx_of (tk:=tk) Iv r' hf hI kp) fun nx im=>?_
   refine x1_2 (hP k v hkn hp) fun u eu ru=>?_
   exact h1 u v _ eu nx ⟨n,fp,P,St,en,W,st',fun i v hi p=>let ⟨u,e,q⟩:=hP i v hi p; ⟨u,e,q.step im⟩,fun b hb=>(hfp b hb).imp id fun ⟨o,e,i,z⟩=>⟨o,im.im b o e i z,i,z⟩,hn⟩ (ru.step im)
  ·have:k=n:=by (first | lia | omega)
   subst this
   refine (W A hh).done s Q E st fun h' tk hk'=>?_
   have kp:Kept (·=I) s.heap h':=fun b o e q=>hk' b o (fun m=>q (by simpa using m)) e
   exact h0 (by rw [List.getElem?_eq_none_iff]; (first | lia | omega)) _ (nx_of (tk:=tk) Iv r' hf hI kp).1
theorem self_ok (r:ItR B s.heap F I k it) {E:Value→Shared→Prop} {Q:Value→Shared→Prop} (hh:A.handled=none) (h:Q (.ref I) s):wpAny (model B.prog B.w) A (pyIter (.ref I)) Q E s:=by
 cases it with
 | live j=>refine x1_2 (r) fun a ef q=>?_; exact wpAny_pyIter_listiter q h
 | items vs=>refine x4_6 (r) fun n fp P St en W st hP hfp hn=>?_; exact (W A hh).self k s Q E st h
end
end Mine
namespace Mine
open PySem
structure ER (B:Base) (gt tb:List Str) (vis:List (Nat × Bool)) (wv gl:List Nat) (env:Env):Prop where
 fn:env.scope.kind=.function
 gA:env.globals=B.gA
 bA:env.builtins=B.bA
 lcl:∀ i,(i,false)∈vis→env.kindOf (nmOf tb i)=some .local
 cll:∀ i,(i,true)∈vis→env.kindOf (nmOf tb i)=some .cell∨env.kindOf (nmOf tb i)=some .free
 wr:∀ i∈wv,(i,false)∈vis∨((i,true)∈vis∧env.kindOf (nmOf tb i)=some .cell)
 glb:∀ g∈gl,env.kindOf (nmOf gt g)=some .globalImplicit
 inj:∀ i j b c,(i,b)∈vis→(j,c)∈vis→nmOf tb i=nmOf tb j→i=j∧b=c
 dbg:∀ i b,(i,b)∈vis→(nmOf tb i==("__debug__":Str))=false∧(nmOf tb i==("__classdict__":Str))=false
 dbgG:∀ g∈gl,(nmOf gt g==("__debug__":Str))=false
structure LR (B:Base) (tb:List Str) (vis:List (Nat × Bool)) (env:Env) (F:Lay) (loc:Loc) (h:Heap):Prop where
 lcs:∃ m,h.Ns env.locals m∧∀ i v,(i,false)∈vis→loc[i]?=some (some v)→∃ x,m (nmOf tb i)=some x∧VR B.fa h F v x
 cel:∀ i,(i,true)∈vis→∃ c ov,env.cells.lookup (nmOf tb i)=some c∧h.IsCell c ov∧∀ v,loc[i]?=some (some v)→∃ x,ov=some x∧VR B.fa h F v x
 fl:env.locals∉F.flatten∧B.h0.get? env.locals=none
 fc:∀ n c,env.cells.lookup n=some c→c∉F.flatten∧B.h0.get? c=none∧∃ ov,h.IsCell c ov
 ap:∀ n n' c,env.cells.lookup n=some c→env.cells.lookup n'=some c→n=n'
noncomputable def OwnA (tb:List Str) (wv:List Nat) (env:Env) (b:Addr):Prop:=b=env.locals∨∃ i∈wv,env.cells.lookup (nmOf tb i)=some b
theorem ns_not_imm {h:Heap} {a:Addr} {m:Str→Option Value} {o:Obj} (n:h.Ns a m) (e:h.get? a=some o):¬ Imm o:=by
 refine x1_2 (ns_no n) fun o' e' z=>?_
 rw [e] at e'; cases e'; exact z
theorem Heap_IsCell_at {h h':Heap} {c:Addr} {v:Option Value} (x:h.IsCell c v) (k:∀ o,h.get? c=some o→h'.get? c=some o):h'.IsCell c v:=let ⟨o,e,d⟩:=x; ⟨o,k o e,d⟩
section
variable {B:Base} {A:Around} {F G:Lay} {σ σ':Sto} {s s':Shared} {d:Nat} {a b v:V} {x y:Value} {gt tb:List Str} {vis:List (Nat × Bool)} {wv gl:List Nat} {env:Env} {loc loc':Loc} {i:Nat}
theorem LR.localsLive {h:Heap} (L:LR B tb vis env F loc h):∃ o,h.get? env.locals=some o∧¬ Imm o:=let ⟨_,n,_⟩:=L.lcs; ns_no n
theorem LR.cellLive {h:Heap} (L:LR B tb vis env F loc h) {n:Str} {c:Addr} (e:env.cells.lookup n=some c):∃ o,h.get? c=some o∧¬ Imm o:=let ⟨_,_,_,q⟩:=L.fc n c e; cell_no q
theorem LR.keep {h h':Heap} (L:LR B tb vis env F loc h) (kl:∀ o,h.get? env.locals=some o→h'.get? env.locals=some o) (kc:∀ n c o,env.cells.lookup n=some c→h.get? c=some o→h'.get? c=some o) (im:Mv F G h h')
  (fl:env.locals∉G.flatten) (fc:∀ n c,env.cells.lookup n=some c→c∉G.flatten):LR B tb vis env G loc h':=by
 refine ⟨?_,fun i hi=>?_,⟨fl,L.fl.2⟩,fun n c e=>⟨fc n c e,(L.fc n c e).2.1,?_⟩,L.ap⟩
 ·refine x1_2 (L.lcs) fun m n r=>?_
  exact ⟨m,n.at' kl,fun i v hi e=>let ⟨x,q,z⟩:=r i v hi e; ⟨x,q,z.step im⟩⟩
 ·refine x2_3 (L.cel i hi) fun c ov e q r=>?_
  exact ⟨c,ov,e,Heap_IsCell_at q fun o=>kc _ c o e,fun v ev=>let ⟨x,q,z⟩:=r v ev; ⟨x,q,z.step im⟩⟩
 ·obtain ⟨_,_,ov,q⟩:=L.fc n c e
  exact ⟨ov,Heap_IsCell_at q fun o=>kc n c o e⟩
theorem LR.notTab (I:Inv B F σ s) {b:Addr} (e:B.h0.get? b=none):b≠B.tab:=fun q=>by
 refine x1_1 (I.tabo) fun ps t=>?_
 rw [q,t] at e; cases e
theorem not_new {F G:Lay} {b:Addr} {h:Heap} {o:Obj} (hf:∀ a∈G.flatten,h.get? a=none) (e:h.get? b=some o) (n:b∉F.flatten):b∉(F++G).flatten:=by
 rw [List.flatten_append,List.mem_append]
 rintro (q | q)
 ·exact n q
 ·rw [hf b q] at e; exact noS e
theorem LR.step (L:LR B tb vis env F loc s.heap) (I:Inv B F σ s) (T:Step B F s G s'):LR B tb vis env (F++G) loc s'.heap:=by
 refine x1_2 (L.localsLive) fun ol el ζ=>?_
 refine L.keep (fun o e=>T.kept _ o e ?_) (fun n c o e eo=>T.kept _ o eo ?_) (T.imk I) (not_new T.fresh el L.fl.1) fun n c e=>?_
 ·rintro (q | q)
  ·exact L.fl.1 q.mem
  ·exact LR.notTab I L.fl.2 q
 ·rintro (q | q)
  ·exact (L.fc n c e).1 q.mem
  ·exact LR.notTab I (L.fc n c e).2.1 q
 ·refine x1_2 (L.cellLive e) fun o eo ζ=>?_
  exact not_new T.fresh eo (L.fc n c e).1
theorem var_ok (R:ER B gt tb vis wv gl env) (L:LR B tb vis env F loc s.heap) {c:Bool} (hi:(i,c)∈vis) (e:loc[i]?=some (some v)) {E:Value→Shared→Prop} {Q:Value→Shared→Prop} (h:∀ x,VR B.fa s.heap F v x→Q x s) :
  wpAny (model B.prog B.w) A (loadName env (nmOf tb i)) Q E s:=by
 cases c with
 | false =>
  refine x1_2 (L.lcs) fun m n r=>?_
  refine x1_2 (r i v hi e) fun x q z=>?_
  exact wpAny_loadName_local R.fn (R.lcl i hi) n q (h x z)
 | true =>
  refine x2_3 (L.cel i hi) fun c ov ec q r=>?_
  refine x1_2 (r v e) fun x hq_199 z=>?_
  subst hq_199
  rcases R.cll i hi with k | k
  ·exact wpAny_loadName_cell R.fn k ec q (h x z)
  ·exact wpAny_loadName_free R.fn k ec q (h x z) (R.dbg i _ hi).2
theorem ns_kept {h₀ h:Heap} (K:OldK h₀ h) {a:Addr} {m:Str→Option Value} (n:h₀.Ns a m) (hne:a≠cStatics):∀ o,h₀.get? a=some o→h.get? a=some o:=fun o e=>by
 refine x3_3 (n) fun o' es ep e' d ζ=>?_
 rw [e] at e'; cases e'
 rcases K.old a o e with x | ⟨_,_,vs,more,q,_⟩ | ⟨z,_⟩
 ·exact x
 ·rw [d] at q; cases q
 ·exact (hne z).elim
structure BOk (B:Base):Prop where
 ns:B.h0.Ns B.gA B.mg
 nsb:B.h0.Ns B.bA B.mb
 gc:B.gA≠cStatics
 bc:B.bA≠cStatics
noncomputable def GR (B:Base) (gt:List Str) (Gv:Nat→Option V):Prop:=∀ g v,Gv g=some v→∃ x,(B.mg (nmOf gt g)=some x∨(B.mg (nmOf gt g)=none∧B.mb (nmOf gt g)=some x))∧VR B.fa B.h0 [] v x
theorem Inv.mvOld (I:Inv B F σ s):Mv [] F B.h0 s.heap where
 im b o e i _:=I.old.get_of_cls e (by rcases i.1 with q | q | q | q <;> rw [q] <;> intro z <;> cases z)
 kf _ _ z:=by cases z.2
 kg b o e _ _ _ q:=by rw [I.fresh b q] at e; exact noS e
theorem glob_ok {Gv:Nat→Option V} (O:BOk B) (GG:GR B gt Gv) (I:Inv B F σ s) (R:ER B gt tb vis wv gl env) {g:Nat} (hg:g∈gl) (e:Gv g=some v) {pos:Pos} {E:Value→Shared→Prop} {Q:Value→Shared→Prop} (h:∀ x,VR B.fa s.heap F v x→Q x s) :
  wpAny (model B.prog B.w) A (eval (.Name (nmOf gt g) pos) env) Q E s:=by
 refine x1_2 (GG g v e) fun x q r=>?_
 have rx:VR B.fa s.heap F v x:=r.step I.mvOld
 refine Calls.Name_function_global R.fn (R.glb g hg) ?_ (R.dbgG g hg)
 have n1:s.heap.Ns env.globals B.mg:=by rw [R.gA]; exact O.ns.at' (ns_kept I.old O.ns O.gc)
 have n2:s.heap.Ns env.builtins B.mb:=by rw [R.bA]; exact O.nsb.at' (ns_kept I.old O.nsb O.bc)
 rcases q with q | ⟨q1,q2⟩
 ·exact Calls.loadGlobal_global n1 q (h x rx)
 ·exact Calls.loadGlobal_builtin n1 q1 n2 q2 (h x rx)
structure StP (B:Base) (tb:List Str) (vis:List (Nat × Bool)) (wv:List Nat) (env:Env) (F:Lay) (σ:Sto) (loc:Loc) (s s':Shared):Prop where
 inv:Inv B F σ s'
 lr:LR B tb vis env F loc s'.heap
 keep:Kept (OwnA tb wv env) s.heap s'.heap
theorem StP.refl (I:Inv B F σ s) (L:LR B tb vis env F loc s.heap):StP B tb vis wv env F σ loc s s:=⟨I,L,.refl _ _⟩
theorem own_ok (I:Inv B F σ s) (L:LR B tb vis env F loc s.heap) {b:Addr} (w:OwnA tb wv env b):B.h0.get? b=none∧b∉F.flatten∧(∀ o,s.heap.get? b=some o→¬ Imm o):=by
 rcases w with rfl | ⟨i,hi,e⟩
 ·refine x1_2 (L.localsLive) fun o e n=>?_
  exact ⟨L.fl.2,L.fl.1,fun o' e'=>by rw [e] at e'; apply s1 e'; exact n⟩
 ·refine x1_2 (L.cellLive e) fun o e' n=>?_
  exact ⟨(L.fc _ _ e).2.1,(L.fc _ _ e).1,fun o' e''=>by rw [e'] at e''; apply s1 e''; exact n⟩
theorem lt_set {l:Loc} {i j:Nat} {o o':Option V} (e:(l.set i o)[j]?=some o'):(i=j∧o'=o)∨(i≠j∧l[j]?=some o'):=by
 by_cases q:i=j
 ·subst q
  rw [List.getElem?_set] at e
  simp at e
  exact .inl ⟨rfl,e.2.symm⟩
 ·rw [List.getElem?_set_ne q] at e; exact .inr ⟨q,e⟩
theorem store_ok (R:ER B gt tb vis wv gl env) (I:Inv B F σ s) (L:LR B tb vis env F loc s.heap) (hi:i∈wv) (r:VR B.fa s.heap F v x) {E:Value→Shared→Prop} {Q:Unit→Shared→Prop}
  (h:∀ s',StP B tb vis wv env F σ (loc.set i (some v)) s s'→Q () s'):wpAny (model B.prog B.w) A (storeName env (nmOf tb i) x) Q E s:=by
 refine x1_2 (L.lcs) fun m n rm=>?_
 rcases R.wr i hi with q | ⟨q,kc⟩
 ·refine wpAny_storeName_local (R.lcl i q) n (fun h' n' hs=>h _ ?_) (by rw [R.fn]; rfl)
  have kp:Kept (·=env.locals) s.heap h':=.of_same hs
  have nn:∀ b o,b=env.locals→s.heap.get? b=some o→B.h0.get? b=none∧b∉F.flatten∧¬ Imm o:=fun b o w e=>by
   subst w
   refine x0_3 (own_ok (tb:=tb) (wv:=wv) I L (.inl rfl)) fun z1 z2 z3=>?_
   exact ⟨z1,z2,z3 o e⟩
  have im:Mv F F s.heap h':=.of_kept kp fun b o w e=>.of (nn b o w e).2.2
  have kcell:∀ nm c ov,env.cells.lookup nm=some c→s.heap.IsCell c ov→h'.IsCell c ov:=fun nm c ov e q=>q.sameBut hs (fun z=>by
   refine x1_2 (q) fun o e1 d1=>?_
   refine x3_3 (n) fun o' es ep e2 d2 ζ=>?_
   rw [z] at e1; rw [e1] at e2; cases e2; rw [d1] at d2; cases d2)
  refine ⟨I.keep kp nn,⟨⟨_,n',fun j u hj e=>?_⟩,fun j hj=>?_,L.fl,fun nm c e=>?_,L.ap⟩,kp.mono fun b w=>.inl w⟩
  ·rcases lt_set e with ⟨rfl,z⟩ | ⟨z,e'⟩
   ·cases z; exact ⟨x,by simp,r.step im⟩
   ·refine x1_2 (rm j u hj e') fun x' q' r'=>?_
    refine ⟨x',?_,r'.step im⟩
    have:¬ nmOf tb j=nmOf tb i:=fun z'=>z (R.inj i j _ _ q hj z'.symm).1
    simp [this,q']
  ·refine x2_3 (L.cel j hj) fun c ov e qc rc=>?_
   refine ⟨c,ov,e,kcell _ c ov e qc,fun u eu=>?_⟩
   rcases lt_set eu with ⟨rfl,z⟩ | ⟨z,e'⟩
   ·exact absurd (R.inj i i _ _ q hj rfl).2 (by decide)
   ·refine x1_2 (rc u e') fun x' q' r'=>?_
    exact ⟨x',q',r'.step im⟩
  ·obtain ⟨z1,z2,ov,z3⟩:=L.fc nm c e
   exact ⟨z1,z2,ov,kcell nm c ov e z3⟩
 ·refine x2_3 (L.cel i q) fun c ov ec qc rc=>?_
  refine wpAny_storeName_cell R.fn kc ec qc fun h' qc' hs=>h _ ?_
  have kp:Kept (·=c) s.heap h':=.of_same hs
  have nn:∀ b o,b=c→s.heap.get? b=some o→B.h0.get? b=none∧b∉F.flatten∧¬ Imm o:=fun b o w e=>by
   subst w
   refine x0_3 (own_ok (tb:=tb) (wv:=wv) I L (.inr ⟨i,hi,ec⟩)) fun z1 z2 z3=>?_
   exact ⟨z1,z2,z3 o e⟩
  have im:Mv F F s.heap h':=.of_kept kp fun b o w e=>.of (nn b o w e).2.2
  have hne:env.locals≠c:=fun z=>by
   refine x1_2 (qc) fun o e1 d1=>?_
   refine x3_3 (n) fun o' es ep e2 d2 ζ=>?_
   rw [z,e1] at e2; cases e2; rw [d1] at d2; cases d2
  refine ⟨I.keep (tk:=s.toks) kp nn,⟨⟨m,n.sameBut hs hne,fun j u hj e=>?_⟩,fun j hj=>?_,L.fl,fun nm c' e=>?_,L.ap⟩,kp.mono fun b w=>.inr ⟨i,hi,by rw [w]; exact ec⟩⟩
  ·rcases lt_set e with ⟨rfl,z⟩ | ⟨z,e'⟩
   ·exact absurd (R.inj i i _ _ q hj rfl).2 (by decide)
   ·refine x1_2 (rm j u hj e') fun x' q' r'=>?_
    exact ⟨x',q',r'.step im⟩
  ·refine x2_3 (L.cel j hj) fun c' ov' e qc2 rc2=>?_
   by_cases hij:i=j
   ·subst hij
    rw [ec] at e; cases e
    refine ⟨c,some x,ec,qc',fun u eu=>?_⟩
    rcases lt_set eu with ⟨_,z⟩ | ⟨z,e'⟩
    ·cases z; exact ⟨x,rfl,r.step im⟩
    ·exact absurd rfl z
   ·refine ⟨c',ov',e,qc2.sameBut hs fun z=>?_,fun u eu=>?_⟩
    ·subst z; exact hij (R.inj i j _ _ q hj (L.ap _ _ _ ec e)).1
    ·rcases lt_set eu with ⟨z,_⟩ | ⟨z,e'⟩
     ·exact absurd z hij
     ·refine x1_2 (rc2 u e') fun x' q' r'=>?_
      exact ⟨x',q',r'.step im⟩
  ·obtain ⟨z1,z2,ov',z3⟩:=L.fc nm c' e
   refine ⟨z1,z2,?_⟩
   by_cases hc:c'=c
   ·apply q1 hc; exact ⟨_,qc'⟩
   ·exact ⟨ov',z3.sameBut hs hc⟩
theorem StP.trans {loc₁ loc₂:Loc} {s₁ s₂:Shared} (x:StP B tb vis wv env F σ loc₁ s s₁) (y:StP B tb vis wv env F σ loc₂ s₁ s₂):StP B tb vis wv env F σ loc₂ s s₂:=⟨y.inv,y.lr,x.keep.trans y.keep⟩
theorem StP.imk (I:Inv B F σ s) (L:LR B tb vis env F loc s.heap) (x:StP B tb vis wv env F σ loc' s s'):Mv F F s.heap s'.heap:=.of_kept x.keep fun ζ o w e=>.of ((own_ok I L w).2.2 o e)
end
end Mine
namespace Mine
open PySem PySem.W
structure LexOK (B:Base) (K:Frag) (mk:Me→Nat):Prop where
 X:K.In B.h0
 cls:∀ a o,K.lookup a=some o→o.cls≠.none
 hga:findIn K (.ref B.lx.C) "__getattribute__"=some (some (.builtin "object.__getattribute__"))
 hk:findIn K (.ref B.lx.C) "__getattr__"=some none
 cd:(clsIn K B.lx.C).any (·.hasDict)=true
 o1:findIn K (.ref B.lx.C) At.lineno.nm=some none
 o2:findIn K (.ref B.lx.C) At.whitespace.nm=some none
 o3:findIn K (.ref B.lx.C) At.pushback.nm=some none
 o4:findIn K (.ref B.lx.C) (Str.ofString "instream")=some none
 m1:findIn K (.ref B.lx.C) Me.get_token.nm=some (some (.ref (B.fa (mk .get_token))))
 m2:findIn K (.ref B.lx.C) Me.push_token.nm=some (some (.ref (B.fa (mk .push_token))))
 m3:findIn K (.ref B.lx.C) Me.read_char.nm=some (some (.ref (B.fa (mk .read_char))))
 t1:typeIn K (.ref (B.fa (mk .get_token)))=some (.type "function")
 t2:typeIn K (.ref (B.fa (mk .push_token)))=some (.type "function")
 t3:typeIn K (.ref (B.fa (mk .read_char)))=some (.type "function")
 rd:mk .read_char=B.lx.rd
 hs:findIn K (.ref B.lx.C) "__setattr__"=some (some (.builtin "object.__setattr__"))
 po:plainOver K B.lx.C=true
section
variable {B:Base} {A:Around} {F:Lay} {σ:Sto} {s:Shared} {K:Frag} {mk:Me→Nat} {h:Heap} {m:Str→Option Value} {k:Nat} {a:Addr}
theorem LexOK.here (O:LexOK B K mk) (I:Inv B F σ s):K.In s.heap:=fun a o e=>I.old.get_of_cls (O.X a o e) (O.cls a o e)
set_option tactic.hygienic true in
theorem NsL.look {es:Array DictEntry} {n:Nat} {d:Option Addr} {sl:Array (Option Value)} (hk:StrKeys es) (hm:∀ name,nsFind es name=m name) (name:Str):lookIn name { cls:=.type "dict",dict:=d,data:=.dict es n,slots:=sl }=some (m name):=by
 unfold lookIn
 dsimp only
 have e:(es.toList.find? fun e=>e.key.isStr name).map (·.val)=m name:=by
  rw [← hm name]
  unfold nsFind findBy
  rw [← Array.find?_toList]
 split
 ·rename_i en q
  rw [q] at e; rw [← e]; rfl
 ·rename_i q
  rw [q] at e
  have r:es.toList.any (·.refKey)=false:=by
   rw [List.any_eq_false]
   intro x hx
   refine x2_1 (hk x (Array.mem_def.mpr hx)) fun n t z=>?_
   simp [DictEntry.refKey,z]
  rw [if_neg (by rw [r]; decide),← e]; rfl
theorem wpAny_nsSetL {M:Model} {E:Value→Shared→Prop} {name:Str} {v:Value} {Q:Unit→Shared→Prop} (hn:NsL s.heap a m k)
  (hq:∀ h',NsL h' a (fun x=>if x=name then some v else m x) (if (m name).isSome then k else k+1)→Heap.SameBut a s.heap h'→Q () { s with heap:=h',toks:=s.toks+1 }):wpAny M A (nsSet a name v) Q E s:=by
 refine x4_4 (hn) fun d es ep sl ho hk hz hm=>?_
 unfold nsSet strHash
 refine wpAny_bind (wpAny_bind (wpAny_askSetting (wpAny_pure (wpAny_bind (wpAny_mkText (wpAny_bind (wpAny_loadPart ho ?_)))))))
 have hany:es.any (·.refKey)=false:=by
  rw [Array.any_eq_false']; intro e he; refine x2_1 (hk e he) fun n t h=>?_; simp [DictEntry.refKey,h]
 simp only [aRefKeyMayBeTheName_eq,aRefKeyMayBeTheNameByArray,hany,Bool.and_false,Bool.false_eq_true,if_false]
 refine wpAny_updatePart ho (hq _ ?_ (Heap.SameBut.update ..))
 have sz:(m name).isSome=(es.findIdx? (·.key.isStr name)).isSome:=by
  rw [← hm name]
  unfold nsFind
  rw [findBy_of_findIdx?]
  cases hi:es.findIdx? (fun e=>e.key.isStr name) with
  | none=>rfl
  | some i =>
   obtain ⟨l,_⟩:=Array.findIdx?_eq_some_iff_getElem.mp hi
   dsimp only
   rw [Array.getElem?_eq_getElem l]; rfl
 cases hi:es.findIdx? (·.key.isStr name) with
 | some i =>
  rw [sz,hi]
  refine ⟨d,es.modify i fun e=>{ e with val:=v },ep,sl,Heap.get?_update_self _ ho (by simp only [Obj.putName_eq,Obj.putNameByArray,hi]; rfl) |>.trans (by simp only [Obj.putName_eq,Obj.putNameByArray,hi]),hk.modify _ _,by simpa using hz,fun x=>?_⟩
  show _=if x=name then some v else m x
  rw [← hm]; exact findBy_modify (fun n v=>v.isStr n) Value.isStr_inj es name x v i hi
 | none =>
  rw [sz,hi]
  refine ⟨d,_,ep+1,sl,Heap.get?_update_self _ ho (by simp only [Obj.putName_eq,Obj.putNameByArray,hi]; rfl) |>.trans (by simp only [Obj.putName_eq,Obj.putNameByArray,hi]; rfl),hk.push _ _ _ _,by simp; omega,fun x=>?_⟩
  show _=if x=name then some v else m x
  rw [← hm]
  exact findBy_push (fun n v=>v.isStr n) es name x _ _ v (fun y=>by
   show (name==y)=decide (y=name)
   by_cases h:y=name
   ·apply q1 h; simp
   ·have:¬ name=y:=fun e=>h e.symm
    simp [h,this]) hi
theorem LexH.at' {text:List Nat} {as:List Addr} {la p x dx st sd gv cT cA:Addr} {line:Int} (L:LexH B h as text la line p x dx st sd gv cT cA):∃ od,h.get? dx=some od∧InstAt h x (instO B.lx.C dx) B.lx.C (some od)∧∃ m,LexN m line st p∧∀ n,lookIn n od=some (m n):=by
 refine x1_2 (L.names) fun m hw_200 r=>?_
 refine x4_4 (hw_200) fun d es ep sl e hk hz hm=>?_
 exact ⟨_,e,⟨L.inst,rfl,rfl,e⟩,m,r,fun n=>NsL.look hk hm n⟩
theorem own_find {od:Obj} {n:Str} {v:Value} (O:LexOK B K mk) (ho:findIn K (.ref B.lx.C) n=some none) (e:lookIn n od=some (some v)):findObj K B.lx.C (some od) n=some (.value v):=by
 refine x1_2 (any_some O.cd) ?_; (try clear cd); intro cd hc hd
 unfold findObj
 rw [hc,ho]
 simp only [Option.bind_some]
 unfold ownOf
 rw [if_pos hd]; dsimp only; rw [e]; rfl
theorem lexI_is {i:Nat} {L:List Nat × Nat × Int × Nat} (e:lexI σ i=some L):σ[i]?=some (.lex L.1 L.2.1 L.2.2.1 L.2.2.2):=by
 refine x1_2 (bind_is e) ?_
 (try clear e)
 intro o q e
 cases o <;> (first | exact noS e | cases e)
 exact q
theorem lexAt (I:Inv B F σ s) {i:Nat} {text:List Nat} {a j:Nat} {line:Int} (e:σ[i]?=some (.lex text a line j)) :
  ∃ as la p x dx st sd gv cT cA,text.length≤maxLen∧Fat F i as∧Fat F a [la]∧Fat F j [p]∧LexH B s.heap as text la line p x dx st sd gv cT cA:=by
 obtain ⟨as,ef,b,la,p,x,dx,st,sd,gv,cT,cA,e1,e2,L⟩:=I.at1 e rfl
 exact ⟨as,la,p,x,dx,st,sd,gv,cT,cA,b,ef,e1,e2,L⟩
theorem lexVal (I:Inv B F σ s) {i:Nat} {L:List Nat × Nat × Int × Nat} {x:Value} (r:VR B.fa s.heap F (.ref i) x) (e:lexI σ i=some L):∃ x' dx od m st p,x=.ref x'∧InstAt s.heap x' (instO B.lx.C dx) B.lx.C (some od)∧LexN m L.2.2.1 st p∧Fat F L.2.2.2 [p]∧∀ n,lookIn n od=some (m n):=by
 refine x10_5 (lexAt I (lexI_is e)) fun as la p x' dx st sd gv cT cA hb ef e1 e2 L=>?_
 obtain ⟨od,eo,In,m,N,lk⟩:=L.at'
 exact ⟨x',dx,od,m,st,p,r.refAt (L.as_▸ef),In,N,e2,lk⟩
theorem att_ok (O:LexOK B K mk) (I:Inv B F σ s) {v:V} {x:Value} {t:At} {u:V} (r:VR B.fa s.heap F v x) (e:attrV t σ v=some u) {ex:Bool} {Q:Value→Shared→Prop} {E:Value→Shared→Prop}
  (hq:∀ y tk,VR B.fa s.heap F u y→Q y { s with toks:=tk }):wpAny (model B.prog B.w) A (getAttr x t.nm ex) Q E s:=by
 refine x1_2 (bind_is e) ?_
 (try clear e)
 intro i hv e
 refine x1_2 (bind_is e) ?_
 (try clear e)
 intro L hL e
 refine x6_5 (lexVal I (r.asRef hv) hL) fun x' dx od m st p hq_201 In N e2 lk=>?_
 apply q1 hq_201
 cases t with
 | lineno =>
  cases e
  refine x1_1 (N.line) fun tk el=>?_
  exact get_value (O.here I) In O.hga (own_find O O.o1 (by rw [lk,el])) rfl (hq _ _ (.int _ _))
 | pushback =>
  cases e
  exact get_value (O.here I) In O.hga (own_find O O.o3 (by rw [lk,N.push])) rfl (hq _ _ (.ref e2))
 | whitespace =>
  cases e
  refine x1_1 (N.white) fun tk el=>?_
  exact get_value (O.here I) In O.hga (own_find O O.o2 (by rw [lk,el])) rfl (hq _ _ (.str _ rfl (by decide)))
 | read_char=>exact noS e
theorem recv_lex {v:V} (hr:recv σ v=some 2):∃ i L,v=.ref i∧lexI σ i=some L:=by
 cases v with
 | ref i =>
  have hr:(match σ[i]? with
   | some (.list _)=>some 1
   | some (.lex ..)=>some 2
   | _=>none)=some 2:=hr
  cases q:σ[i]? with
  | none=>rw [q] at hr; exact noS hr
  | some o =>
   rw [q] at hr
   cases o with
   | lex=>exact ⟨i,_,rfl,by rw [lexI,q]; rfl⟩
   | _=>(first | exact noS hr | cases hr)
 | _=>(first | exact noS hr | cases hr)
theorem get_ok (O:LexOK B K mk) (I:Inv B F σ s) {v:V} {x:Value} {me:Me} (r:VR B.fa s.heap F v x) (hr:recv σ v=some 2) (hm:me=.get_token∨me=.push_token∨me=.read_char) {pl:Sem Bool} {Q:Value × List Value→Shared→Prop} {E:Value→Shared→Prop}
  (hq:Q (.ref (B.fa (mk me)),[x]) s):wpAny (model B.prog B.w) A (getMethod x me.nm pl) Q E s:=by
 refine x2_2 (recv_lex hr) fun i L hq_202 hL=>?_
 subst hq_202
 refine x6_5 (lexVal I r hL) fun x' dx od m st p hq_203 In N e2 lk=>?_
 subst hq_203
 have sh:∀ n,m n=none→shadowIn (some od) n=some false:=fun n hn=>by unfold shadowIn; dsimp only; rw [lk,hn]; rfl
 rcases hm with rfl | rfl | rfl
 ·exact method_fn (O.here I) In O.hga O.hk O.m1 O.t1 (sh _ N.no1) hq
 ·exact method_fn (O.here I) In O.hga O.hk O.m2 O.t2 (sh _ N.no2) hq
 ·exact method_fn (O.here I) In O.hga O.hk O.m3 O.t3 (sh _ N.no3) hq
end
end Mine
namespace Mine
open PySem PySem.W
section
variable {B:Base} {A:Around} {F:Lay} {σ:Sto} {s:Shared} {K:Frag} {mk:Me→Nat} {h:Heap} {m:Str→Option Value} {k:Nat} {a:Addr}
theorem second_ne {α:Type} {x y:α} {r:List α} (nd:(x :: y :: r).Nodup):∀ b∈x :: r,b≠y:=by
 intro b hb z
 rw [List.nodup_cons,List.nodup_cons] at nd
 rcases List.mem_cons.mp hb with q | q
 ·exact nd.1 (by rw [← q,z]; exact .head _)
 ·exact nd.2.1 (by rw [← z]; exact q)
theorem lexSet (O:LexOK B K mk) {x dx:Addr} {od:Obj} (X:K.In s.heap) (I:InstAt s.heap x (instO B.lx.C dx) B.lx.C (some od)) (n:NsL s.heap dx m k) (hk:k≤900) {name:Str} {v:Value} (ho:findIn K (.ref B.lx.C) name=some none) {Q:Unit→Shared→Prop} {E:Value→Shared→Prop}
  (h:∀ h' tk,NsL h' dx (fun x=>if x=name then some v else m x) (if (m name).isSome then k else k+1)→Heap.SameBut dx s.heap h'→Q () { s with heap:=h',toks:=tk }) :
  wpAny (model B.prog B.w) A (setAttr (.ref x) name v) Q E s:=by
 refine set_plain X I O.hs ?_
 refine x1_2 (any_some O.cd) ?_; (try clear cd); intro cd hc hd'
 refine osa_open (s:={ s with toks:=s.toks+1 }) X I O.po (r:=none) (by unfold takerIn; rw [ho]; rfl) fun b=>?_
 obtain ⟨hx,hcl,hn,-⟩:=I
 refine wpAny_bind (wpAny_pure (wpAny_bind (wpAny_bind (wpAny_loadPart hx (wpAny_bind ((looks_clsIn X hc).at ?_))))))
 rw [hd']
 refine wpAny_pure (a:=some dx) (wpAny_bind (wpAny_pure (wpAny_bind ?_)))
 refine wpAny_nsSetL n fun h' n' hs=>?_
 refine x4_4 (id n') fun d es ep sl e' ζ hz ζ=>?_
 refine wpAny_bind (wpAny_lookBehind e' (pastItsLine_dict (by rw [sizeLine_eq]; split at hz <;> (first | lia | omega))) ?_)
 exact wpAny_pure (h _ _ n' hs)
theorem LexH.set {as:List Addr} {text:List Nat} {la p x dx st sd gv cT cA:Addr} {line line':Int} {h':Heap} {tk:Tok} (L:LexH B h as text la line p x dx st sd gv cT cA) (nd:as.Nodup) (hs:Heap.SameBut dx h h') (N:LexN m line st p)
  (n':NsL h' dx (fun x=>if x=At.lineno.nm then some (.int line' tk) else m x) 4) {F G:Lay} (im:Mv F G h h'):LexH B h' as text la line' p x dx st sd gv cT cA:=by
 rw [L.as_] at nd
 have ne:∀ b,b∈[x,st,sd,gv,cT,cA]→∀ o,h.get? b=some o→h'.get? b=some o:=fun b hb o eb=>(hs.2 b (second_ne nd b hb)).trans eb
 simp only [List.forall_mem_cons,List.not_mem_nil,false_implies,implies_true,and_true] at ne
 exact ⟨L.as_,ne.1 _ L.inst,⟨_,n',⟨⟨tk,if_pos rfl⟩,N.stream,N.white,N.push,N.no1,N.no2,N.no3⟩⟩,let ⟨fd,sl,e⟩:=L.stream; ⟨fd,sl,ne.2.1 _ e⟩,let ⟨m,n,r⟩:=L.read; ⟨m,n.at' ne.2.2.1,r⟩,
  let ⟨cd,ct,e,r⟩:=L.give; ⟨cd,ct,ne.2.2.2.1 _ e,r.imk im⟩,let ⟨X,t,⟨o,e,r⟩,q⟩:=L.text; ⟨X,t,⟨o,ne.2.2.2.2.1 _ e,r⟩,q⟩,let ⟨o,e,r⟩:=L.at_; ⟨o,ne.2.2.2.2.2 _ e,r⟩⟩
theorem inc_ok (O:LexOK B K mk) (I:Inv B F σ s) {i:Nat} {x y:Value} {σ':Sto} {line:Int} (r:VR B.fa s.heap F (.ref i) x) (e:incC i σ=some σ') (hl:attrV .lineno σ (.ref i)=some (.int line)) (ry:VR B.fa s.heap F (.int (line+1)) y) :
  EvT B A F s (setAttr x At.lineno.nm y) (PU B σ'):=by
 refine x1_2 (map_is e) fun L hL hq_204=>?_
 apply q2 hq_204
 have hl:(lexI σ i).bind (attL .lineno)=some (.int line):=hl
 rw [hL] at hl
 cases hl
 refine x10_5 (lexAt I (lexI_is hL)) fun as la p x' dx st sd gv cT cA hb ef e1 e2 L=>?_
 rw [r.refAt (L.as_▸ef)]
 refine x1_1 (ry.int_is) fun t hq_205=>?_
 apply q1 hq_205
 refine x1_2 (L.names) fun m n N=>?_
 refine x1_3 (L.at') fun od eo In ζ=>?_
 refine lexSet O (O.here I) In n (by decide) O.o1 fun h' tk n' hs=>?_
 refine x1_1 (N.line) fun tl el=>?_
 rw [el] at n'
 have kp:Kept (·∈as) s.heap h':=(Kept.of_same hs).mono fun b w=>by apply q1 w; rw [L.as_]; exact .tail _ (.head _)
 have nd:as.Nodup:=(List.pairwise_flatten.mp I.nodup).1 as (List.mem_of_getElem? ef.2)
 exact ⟨[],.of_updO ef kp,by rw [List.append_nil]; exact I.updO ef kp fun im=>⟨hb,la,p,x',dx,st,sd,gv,cT,cA,e1,e2,L.set nd hs N n' im⟩⟩
end
end Mine
namespace Mine
open PySem PySem.W
theorem entry_iter:entryFor table "iter"=some Builtin.«iter»:=entryFor_of_tree (by kernel_rfl)
theorem kind_iter:builtinKind "iter"=none:=by decide +kernel
theorem plain_iter:plainId "iter"=true:=by decide +kernel
theorem args_iter2 (a b:Value):argsOk "iter" ⟨[a,b],[]⟩:=by unfold argsOk; kernel_rfl
section
variable {B:Base} {A:Around} {F:Lay} {σ:Sto} {s:Shared} {K:Frag} {mk:Me→Nat} {h:Heap} {m:Str→Option Value} {k:Nat} {a:Addr}
theorem bound_ok (O:LexOK B K mk) (X:K.In s.heap) {x dx:Addr} {od:Obj} (In:InstAt s.heap x (instO B.lx.C dx) B.lx.C (some od)) (hn:lookIn Me.read_char.nm od=some none) {ex:Bool} {Q:Value→Shared→Prop} {E:Value→Shared→Prop}
  (h:Q (.ref s.heap.objs.size) { s with heap:=s.heap.push { cls:=.type "method",data:=.fields #[.ref (B.fa B.lx.rd),.ref x] },toks:=s.toks+1 }) :
  wpAny (model B.prog B.w) A (getAttr (.ref x) Me.read_char.nm ex) Q E s:=by
 have g1:specialIn K (.ref (B.fa (mk .read_char))) "__get__"=some (some (.builtin "function.__get__")):=by
  unfold specialIn; rw [O.t3]; kernel_rfl
 have g2:takesIn K (.ref (B.fa (mk .read_char)))=some false:=by
  unfold takesIn specialIn; rw [O.t3]; kernel_rfl
 have hf:findObj K B.lx.C (some od) Me.read_char.nm=some (.bind (.builtin "function.__get__") (.ref (B.fa (mk .read_char)))):=by
  refine x1_2 (any_some O.cd) ?_; (try clear cd); intro cd hc hd
  unfold findObj
  rw [hc,O.m3]
  simp only [Option.bind_some]
  rw [g1,Option.bind_some]
  dsimp only
  rw [g2,Option.bind_some]
  dsimp only
  unfold ownOf
  rw [if_pos hd]; dsimp only; rw [hn,Option.bind_some]; rfl
 refine get_bind X In O.hga hf O.hk ?_
 refine wpAny_call (fn_get (s:={ s with toks:=s.toks+1 }) X O.t3 ?_)
 refine wpAny_of_eq (handedOut_of rfl) ?_
 rw [← O.rd] at h; exact h
theorem iter_body {A':Around} {bm:Addr} {o:Obj} {tk:Tok} {x:Str} (hb:s.heap.get? bm=some o) (hc:o.cls=.type "method") {Q:Fin→Shared→Prop} {E:Value→Shared→Prop}
  (h:Q (.done (.ret (.ref s.heap.objs.size))) { s with heap:=s.heap.push { cls:=.type "callable_iterator",data:=.fields #[.ref bm,.str x tk,.bool false] } }) :
  wpAny (model B.prog B.w) A' (Builtin.«iter» ⟨[.ref bm,.str x tk],[]⟩) Q E s:=by
 obtain ⟨hh,g,d,t,os⟩:=s
 have L0:Looks (model B.prog B.w) hh (typeOf (.ref bm)) (.type "method"):=by
  have:=(Looks.ld (M:=model B.prog B.w) (part:=none) hb).andThen (f:=fun o=>pure o.cls) .now
  rw [hc] at this; exact this
 have L1:Looks (model B.prog B.w) hh (specialOf (.ref bm) "__call__") (some (.builtin "method.__call__")):=by
  refine L0.andThen (Looks.of_pure ?_)
  rw [typeLookup_type,builtinLookup_eq_fast]; kernel_rfl
 unfold Builtin.«iter»
 refine wpAny_bind (wpAny_pure (wpAny_bind (L1.at ?_)))
 refine wpAny_bind (wpAny_rule (wpAny_bind ?_))
 exact wpAny_bind (wpAny_alloc (wpAny_pure (wpAny_pure h)))
end
end Mine
namespace Mine
open PySem PySem.W
theorem slot_fn_ga:Slot "function" "__getattribute__" "object.__getattribute__" :=
 .of (owner:="object") (n:="__getattribute__") (by rw [typeLookup_type,builtinLookup_eq_fast]; kernel_rfl) (by decide +kernel) (by decide +kernel) (by decide +kernel)
  (.inl (by decide +kernel)) (by rw [isSubtype_type]; kernel_rfl)
theorem entry_oga:entryFor table "object.__getattribute__"=some Builtin.«object.__getattribute__»:=entryFor_of_tree (by kernel_rfl)
theorem args_oga (a b:Value):argsOk "object.__getattribute__" ⟨[a,b],[]⟩:=by unfold argsOk; kernel_rfl
theorem lk_fn_ga:typeLookup (.type "function") "__getattribute__"=pure (some (.builtin "object.__getattribute__")):=by rw [typeLookup_type,builtinLookup_eq_fast]; kernel_rfl
theorem lk_fn_gh:typeLookup (.type "function") "__getattr__"=pure none:=by rw [typeLookup_type,builtinLookup_eq_fast]; kernel_rfl
theorem lk_fn_read:typeLookup (.type "function") "read"=pure none:=by rw [typeLookup_type,builtinLookup_eq_fast]; kernel_rfl
theorem canon_oga:(Manifest.canonical "object.__getattribute__" != "object.__getattribute__")=false:=by decide +kernel
section
variable {M:Model} {B:Base} {A:Around} {s:Shared} {m:Str→Option Value} {k:Nat}
theorem looks_cls {h:Heap} {a:Addr} {o:Obj} {c:Value} (e:h.get? a=some o) (hc:o.cls=c):Looks M h (typeOf (.ref a)) c:=by
 subst hc
 exact (Looks.ld (part:=none) e).andThen .now
theorem fn_object {h:Heap} {a:Addr} {o:Obj} (e:h.get? a=some o) (hc:o.cls=.type "function"):Looks M h (isInstance (.ref a) (.type "object")) true :=
 (looks_cls e hc).andThen (Looks.of_pure (by rw [isSubtype_type]; kernel_rfl))
theorem fnGet {st sd:Addr} {fd:FuncData} {sl:Array (Option Value)} {v:Value} (hst:s.heap.get? st=some { cls:=.type "function",dict:=some sd,data:=.func fd,slots:=sl }) (n:NsL s.heap sd m k) (hv:m (Str.ofString "read")=some v) (hh:handedIn v=true)
  {pl:Sem Bool} {Q:Value × List Value→Shared→Prop} {E:Value→Shared→Prop} (h:Q (v,[]) { s with toks:=s.toks+1 }) :
  wpAny (model B.prog B.w) A (getMethod (.ref st) (Str.ofString "read") pl) Q E s:=by
 have ty:Looks (model B.prog B.w) s.heap (typeOf (.ref st)) (.type "function"):=looks_cls hst rfl
 have u:wpAny (model B.prog B.w) A (do return (← getAttr (.ref st) (Str.ofString "read")  ,([]:List Value))) Q E s:=by
  refine wpAny_bind (wpAny_bind (wpAny_mkText (wpAny_holding (wpAny_bind (ty.at (wpAny_bind ?_))))))
  rw [lk_fn_ga]
  refine wpAny_pure ?_
  dsimp only
  rw [if_neg (by decide)]
  refine wpAny_bind (wpAny_pure (wpAny_bind (wpAny_attempt (wpAny_holding ?_))))
  unfold callGetattribute
  rw [show (false&&onTheHeap (Value.builtin "object.__getattribute__"))=false from rfl,if_neg (by decide)]
  unfold boundAndCalled
  rw [slot_fn_ga.bind]
  refine wpAny_bind (wpAny_pure ?_)
  show wpAny _ _ (call (.builtin "object.__getattribute__") [.ref st,.str (Str.ofString "read") s.toks]) _ _ _
  refine wpAny_call ?_
  refine codeAny_call_builtin slot_fn_ga.plain entry_oga ?_
  refine @check_slot (model B.prog B.w) _ _ { s with toks:=s.toks+1 } "object.__getattribute__" "object" "__getattribute__" (.ref st) [.str (Str.ofString "read") s.toks] [] _ (by decide +kernel) (by decide +kernel) (fn_object hst rfl) (args_oga (.ref st) (.str (Str.ofString "read") s.toks)) ?_
  unfold Builtin.«object.__getattribute__»
  refine wpAny_bind (wpAny_pure (wpAny_bind (wpAny_pure (wpAny_bind (ty.at (wpAny_bind ?_))))))
  unfold Builtin.ObjectAttr.find
  rw [lk_fn_read]
  refine x4_4 (n) fun d es ep sl' hsd hk hz hm=>?_
  refine wpAny_bind (wpAny_pure (wpAny_bind (wpAny_pure (wpAny_bind (wpAny_pure ?_)))))
  refine wpAny_bind ?_
  refine wpAny_bind (wpAny_bind (wpAny_loadPart hst (wpAny_bind (wpAny_loadPart hst (wpAny_pure ?_)))))
  refine wpAny_bind (wpAny_loadPart hsd ?_)
  rw [nsLook_of (NsL.look hk hm _),hv]
  refine wpAny_pure ?_
  refine wpAny_bind (wpAny_rule (wpAny_pure (wpAny_pure ?_)))
  refine wpAny_of_eq (handedOut_of hh) (wpAny_pure ?_)
  exact h
 unfold getMethod specialOf
 refine wpAny_bind (wpAny_bind (ty.here ?_))
 rw [lk_fn_ga]
 refine wpAny_pure ?_
 dsimp only
 rw [canon_oga,if_neg (by decide)]
 refine wpAny_bind (wpAny_bind (ty.here ?_))
 rw [lk_fn_gh]
 refine wpAny_pure ?_
 refine wpAny_bind (wpAny_bind (ty.here ?_))
 rw [lk_fn_read]
 refine wpAny_pure ?_
 exact u
end
end Mine
namespace Mine
open PySem
section
variable {B:Base} {A:Around} {F G:Lay} {σ σ':Sto} {s s':Shared} {d:Nat} {a b v:V} {x y:Value} {gt tb:List Str} {vis:List (Nat × Bool)} {wv gl:List Nat} {env:Env} {loc loc':Loc} {i:Nat} {I:Addr} {it:It}
theorem nx_mv {k:Nat} (r:ItR B s.heap F I k it) (nx:NxP B F σ s I s'):Mv F F s.heap s'.heap:=.of_kept nx.keep fun b o' q e'=>by
 refine x1_2 (r.live_) fun o eo no=>?_
 subst q; rw [eo] at e'; cases e'; exact .of no
theorem draw_ok (hh:A.handled=none) (hf:B.h0.get? I=none) (hI:I∉F.flatten) {vs:List V} (hv:∀ j,nextAt it j σ=some vs[j]?) (hle:∀ us,it=.items us→us.length=vs.length) {E:Value→Shared→Prop} :
  ∀ (n k:Nat) (s:Shared) (Q:List Value→Shared→Prop),Inv B F σ s→ItR B s.heap F I k it→k+n≤vs.length →
   (∀ xs s',NxP B F σ s I s'→ItR B s'.heap F I (k+n) it→VRs B.fa s'.heap F ((vs.drop k).take n) xs→Q xs s')→wpAny (model B.prog B.w) A (draw (.ref I) n) Q E s
 | 0,k,s,Q,Iv,r,_,h=>wpAny_pure (h [] s ⟨Iv,.refl _ _⟩ r (by rw [List.take_zero]; exact .nil))
 | n+1,k,s,Q,Iv,r,hk,h=>by
  show wpAny _ _ (pyNext (.ref I) >>= _) Q E s
  have hlt:k < vs.length:=Nat.lt_of_lt_of_le (Nat.lt_add_of_pos_right (Nat.succ_pos n)) hk
  refine wpAny_bind (next_ok hh Iv r hf hI ((hv k).trans (congrArg some (List.getElem?_eq_getElem hlt))) (fun e=>by cases e) (fun v x s₁ e nx r₁ rx=>?_) fun us e=>by rw [hle us e]; exact Nat.le_of_lt hlt)
  cases e
  refine wpAny_bind (wpAny_holding (draw_ok hh hf hI hv hle n (k+1) s₁ _ nx.inv r₁ (Nat.le_trans (Nat.le_of_eq (Nat.add_right_comm k 1 n)) hk) fun xs s₂ nx₂ r₂ rs=>wpAny_pure ?_))
  refine h (x :: xs) s₂ ⟨nx₂.inv,nx.keep.trans nx₂.keep⟩ ((Nat.add_right_comm k 1 n)▸r₂) ?_
  rw [List.drop_eq_getElem_cons hlt,List.take_succ_cons]
  exact .cons (rx.step (nx_mv r₁ nx₂)) rs
theorem items_iter (Iv:Inv B F σ s) (r:VR B.fa s.heap F a x) {vs:List V} (e:itemsOf σ a=some vs):∃ it,iterOf σ a=some (it,vs.length)∧(∀ j,nextAt it j σ=some vs[j]?)∧(∀ us,it=.items us→us.length=vs.length)∧∃ T id,s.TypeIs x T∧Slot T "__iter__" id:=by
 have hl:∀ {xs},lsV σ a=some xs→∃ T id,s.TypeIs x T∧Slot T "__iter__" id:=fun q=>by
  refine x2_3 (r.asList Iv q) fun a1 its1 hq_206 l1 ζ=>?_
  apply q1 hq_206
  exact ⟨_,_,l1.isList.typeIs,slot_list_iter⟩
 rcases or_is e with e | e
 ·cases a with
  | ref i =>
   have e':vlist σ i=some vs:=e
   exact ⟨.live i,by show (vlist σ i).map _=_; rw [e']; rfl,fun j=>by show (vlist σ i).map _=_; rw [e']; rfl,(fun us q=>by cases q),hl e⟩
  | lst us=>apply s1 e; exact ⟨_,rfl,fun j=>rfl,fun us q=>by cases q; rfl,hl rfl⟩
  | _=>exact noS e
 ·refine x3_3 (r.ofTup e) fun t items n hq_207 ht ζ=>?_
  apply q1 hq_207
  cases tupV_is e
  exact ⟨_,rfl,fun j=>rfl,fun us q=>by cases q; rfl,_,_,⟨_,ht,rfl⟩,PySem.F.slot_tuple_iter⟩
theorem unpack_ok (hh:A.handled=none) (Iv:Inv B F σ s) (r:VR B.fa s.heap F a x) {vs:List V} (e:itemsOf σ a=some vs) {E:Value→Shared→Prop} {Q:List Value→Shared→Prop}
  (h:∀ xs s',Inv B F σ s'→(∀ b o,s.heap.get? b=some o→s'.heap.get? b=some o)→VRs B.fa s'.heap F vs xs→Q xs s'):wpAny (model B.prog B.w) A (unpackItems x vs.length none) Q E s:=by
 obtain ⟨it,ei,hv,hle,T,id,hT,sl⟩:=items_iter Iv r e
 unfold unpackItems
 refine wpAny_bind ?_
 unfold notIterableAtAll
 refine wpAny_bind (wpAny_specialOf hT sl.lookup ?_)
 refine wpAny_pure ?_
 simp only [Bool.false_eq_true,if_false]
 refine wpAny_bind (wpAny_holding (iter_ok Iv r ei fun I s₁ p=>?_))
 have dd:=Iv.dead p.dead
 refine wpAny_bind (wpAny_holding (draw_ok hh dd.1 dd.2 hv hle vs.length 0 s₁ _ p.inv p.itr (Nat.le_of_eq (Nat.zero_add _)) fun xs s₂ nx r₂ rs=>?_))
 rw [List.drop_zero,List.take_length] at rs
 rw [if_neg (Nat.not_lt_of_le (Nat.le_of_eq rs.length))]
 rw [Nat.zero_add] at r₂
 refine wpAny_bind (wpAny_holding (next_ok hh nx.inv r₂ dd.1 dd.2 (hv vs.length) (fun ζ s₃ nx₃=>?_) (fun v x s₁ e=>by rw [List.getElem?_eq_none (Nat.le_refl _)] at e; cases e) fun us e=>by rw [hle us e]; exact Nat.le_refl _))
 simp only [Option.isSome_none,Bool.false_eq_true,if_false]
 refine wpAny_pure (h xs s₃ nx₃.inv (fun b o e=>?_) (rs.step (nx_mv r₂ nx₃)))
 have hb:b≠I:=fun q=>by subst q; rw [p.dead] at e; exact noS e
 exact nx₃.keep b o (nx.keep b o (p.keep b o e) hb) hb
noncomputable def setAll (loc:Loc) (ps:List (Nat × V)):Loc:=ps.foldl (fun l p=>l.set p.1 (some p.2)) loc
theorem stores_ok {ι:Type} {key:ι→Nat} (R:ER B gt tb vis wv gl env) (f:ι→Value→Sem Unit) (hf:∀ i x s Q E,wpAny (model B.prog B.w) A (storeName env (nmOf tb (key i)) x) Q E s→wpAny (model B.prog B.w) A (f i x) Q E s) {E:Value→Shared→Prop} :
  ∀ (ks:List ι) (vs:List V) (xs:List Value) (loc:Loc) (s:Shared) (Q:Unit→Shared→Prop),(∀ i∈ks.map key,i∈wv)→ks.length=vs.length→Inv B F σ s→LR B tb vis env F loc s.heap→VRs B.fa s.heap F vs xs →
   (∀ s',StP B tb vis wv env F σ (setAll loc ((ks.map key).zip vs)) s s'→Q () s')→wpAny (model B.prog B.w) A (assignInOrder (ks.map f) xs) Q E s
 | [],vs,xs,loc,s,Q,_,hl,Iv,L,rr,h=>by
  cases vs with
  | cons=>cases hl
  | nil=>rw [rr.nil_is]; exact wpAny_pure (h s (.refl Iv L))
 | k :: ks,vs,xs,loc,s,Q,hw,hl,Iv,L,rr,h=>by
  cases vs with
  | nil=>cases hl
  | cons v vs =>
  refine x2_3 (rr.cons_is) fun x xs hq_208 r rs=>?_
  apply q1 hq_208
  show wpAny _ _ (do holding xs (f k x); assignInOrder (ks.map f) xs) Q E s
  refine wpAny_bind (wpAny_holding (hf k x s _ _ (store_ok R Iv L (hw _ (.head _)) r fun s₁ p=>?_)))
  exact stores_ok R f hf ks vs xs _ s₁ Q (fun i hi=>hw i (.tail _ hi)) (Nat.succ.inj hl) p.inv p.lr (rs.step (p.imk Iv L)) fun s₂ p₂=>h s₂ (p.trans p₂)
theorem set_comm' (l:Loc) {i j:Nat} (h:i≠j) (a b:Option V):(l.set i a).set j b=(l.set j b).set i a:=List.set_comm a b h
theorem setAll_set (i:Nat) (v:V):∀ (ps:List (Nat × V)) (loc:Loc),(∀ p∈ps,p.1≠i)→setAll (loc.set i (some v)) ps=(setAll loc ps).set i (some v)
 | [],_,_=>rfl
 | p :: ps,loc,h=>by
  show setAll ((loc.set i (some v)).set p.1 (some p.2)) ps=(setAll (loc.set p.1 (some p.2)) ps).set i (some v)
  rw [set_comm' loc (fun q=>h p (.head _) q.symm),setAll_set i v ps _ fun q hq=>h q (.tail _ hq)]
theorem setAll_append (loc:Loc) (ps qs:List (Nat × V)):setAll loc (ps++qs)=setAll (setAll loc ps) qs:=List.foldl_append
theorem setAll_reverse:∀ (ps:List (Nat × V)) (loc:Loc),(ps.map (·.1)).Nodup→setAll loc ps.reverse=setAll loc ps
 | [],_,_=>rfl
 | p :: ps,loc,h=>by
  rw [List.map_cons,List.nodup_cons] at h
  rw [List.reverse_cons,setAll_append,setAll_reverse ps loc h.2]
  show (setAll loc ps).set p.1 (some p.2)=setAll (loc.set p.1 (some p.2)) ps
  rw [setAll_set p.1 p.2 ps loc fun q hq e=>h.1 (by rw [← e]; exact List.mem_map_of_mem hq)]
theorem fold_setAll:∀ (is:List (Nat × Pos)) (vs:List V) (loc:Loc),(is.zip vs).foldl (fun l x=>l.set x.1.1 (some x.2)) loc=setAll loc ((is.map (·.1)).zip vs)
 | [],_,_=>rfl
 | _ :: _,[],_=>rfl
 | p :: is,v :: vs,loc=>by
  rw [List.zip_cons_cons,List.foldl_cons,fold_setAll is vs,List.map_cons,List.zip_cons_cons]; rfl
noncomputable def tgSlots:Tg→List Nat
 | .name i _=>[i]
 | .tup is _=>is.map (·.1)
theorem each_names (tb:List Str) (env:Env):∀ is:List (Nat × Pos),assignEach (is.map fun x=>Expr.Name (nmOf tb x.1) x.2) env=is.map fun x=>(false,assign (.Name (nmOf tb x.1) x.2) env)
 | []=>rfl
 | p :: is=>by rw [List.map_cons,List.map_cons,← each_names tb env is]; rfl
theorem bind_ok (hh:A.handled=none) (R:ER B gt tb vis wv gl env) (Iv:Inv B F σ s) (L:LR B tb vis env F loc s.heap) {t:Tg} (ht:∀ i∈tgSlots t,i∈wv) (r:VR B.fa s.heap F v x) (e:bindT t v loc σ=some loc') {E:Value→Shared→Prop} {Q:Unit→Shared→Prop}
  (h:∀ s',StP B tb vis wv env F σ loc' s s'→Q () s'):wpAny (model B.prog B.w) A (assign (toTg tb t) env x) Q E s:=by
 cases t with
 | name i p =>
  refine x0_2 (ite_is e) fun ζ hq_209=>?_
  subst hq_209
  exact wpAny_assign_Name (store_ok R Iv L (ht i (.head _)) r h)
 | tup is p =>
  refine x1_2 (bind_is e) ?_
  (try clear e)
  intro vs q e
  refine x0_2 (ite_is e) fun hl hq_210=>?_
  subst hq_210
  rw [fold_setAll] at h
  rw [show toTg tb (.tup is p)=Expr.Tuple (is.map fun x=>.Name (nmOf tb x.1) x.2) 0 p from rfl,arm_assign_Tuple,each_names]
  refine wpAny_bind (wpAny_standAt ?_)
  unfold unpack
  rw [List.length_map,← hl,List.findIdx?_eq_none_iff.mpr (by intro z hz; refine x1_2 (List.mem_map.mp hz) fun ζ ζ hq_211=>?_; apply q2 hq_211; rfl),List.map_map]
  refine wpAny_bind (wpAny_holding (unpack_ok hh Iv r q fun xs s₁ Iv₁ k rs=>?_))
  have hs:∀ (i:Nat × Pos) (x:Value) (s:Shared) (Q:Unit→Shared→Prop) (E:Value→Shared→Prop),wpAny (model B.prog B.w) A (storeName env (nmOf tb i.1) x) Q E s→wpAny (model B.prog B.w) A (assign (.Name (nmOf tb i.1) i.2) env x) Q E s:=fun ζ ζ ζ ζ ζ h=>wpAny_assign_Name h
  show wpAny _ _ (assignInOrder (is.map fun x=>assign (.Name (nmOf tb x.1) x.2) env) xs) Q E s₁
  exact stores_ok (key:=Prod.fst) R (fun x=>assign (.Name (nmOf tb x.1) x.2) env) hs is vs xs loc s₁ Q ht hl.symm Iv₁ (L.keep (k _) (fun ζ ζ o ζ e=>k _ o e) (.of k) L.fl.1 fun n c e=>(L.fc n c e).1) rs fun s₂ p=>h s₂ ⟨p.inv,p.lr,fun b o e w=>p.keep b o (k b o e) w⟩
end
end Mine
namespace Mine
open PySem
theorem bA1 {a b:Bool} (h:(a&&b)=true):a=true∧b=true:=Bool.and_eq_true_iff.mp h
theorem bA2 {a b c:Bool} (h:(a&&b&&c)=true):(a=true∧b=true)∧c=true:=⟨bA1 (bA1 h).1,(bA1 h).2⟩
theorem bA3 {a b c d:Bool} (h:(a&&b&&c&&d)=true):((a=true∧b=true)∧c=true)∧d=true:=⟨bA2 (bA1 h).1,(bA1 h).2⟩
theorem bA4 {a b c d e:Bool} (h:(a&&b&&c&&d&&e)=true):(((a=true∧b=true)∧c=true)∧d=true)∧e=true:=⟨bA3 (bA1 h).1,(bA1 h).2⟩
theorem bB2 {a b c:Bool} {P:Prop} (h:(a&&b&&c)=true) (k:a=true→b=true→c=true→P):P:=k (bA2 h).1.1 (bA2 h).1.2 (bA2 h).2
theorem bB3 {a b c d:Bool} {P:Prop} (h:(a&&b&&c&&d)=true) (k:a=true→b=true→c=true→d=true→P):P:=k (bA3 h).1.1.1 (bA3 h).1.1.2 (bA3 h).1.2 (bA3 h).2
theorem bB4 {a b c d e:Bool} {P:Prop} (h:(a&&b&&c&&d&&e)=true) (k:a=true→b=true→c=true→d=true→e=true→P):P:=bB3 (bA1 h).1 fun p q r s=>k p q r s (bA1 h).2
theorem bB5 {a b c d e f:Bool} {P:Prop} (h:(a&&b&&c&&d&&e&&f)=true) (k:a=true→b=true→c=true→d=true→e=true→f=true→P):P:=bB4 (bA1 h).1 fun p q r s t=>k p q r s t (bA1 h).2
theorem bB6 {a b c d e f g:Bool} {P:Prop} (h:(a&&b&&c&&d&&e&&f&&g)=true) (k:a=true→b=true→c=true→d=true→e=true→f=true→g=true→P):P:=bB5 (bA1 h).1 fun p q r s t u=>k p q r s t u (bA1 h).2
structure StepW (W:Addr→Prop) (B:Base) (F:Lay) (s:Shared) (G:Lay) (s':Shared):Prop where
 kept:Kept (fun b=>Wr B F b∨W b) s.heap s'.heap
 fresh:∀ a∈G.flatten,s.heap.get? a=none
section
variable {α β:Type} {B:Base} {A:Around} {F G G':Lay} {σ σ':Sto} {s s' s'':Shared} {W W':Addr→Prop}
theorem Step.w (T:Step B F s G s'):StepW W B F s G s':=⟨T.kept.mono fun ζ=>.inl,T.fresh⟩
theorem StepW.refl (W:Addr→Prop) (B:Base) (F:Lay) (s:Shared):StepW W B F s [] s:=⟨.refl _ _,fun ζ h=>by simp at h⟩
theorem StepW.of_kept (k:Kept W s.heap s'.heap):StepW W B F s [] s':=⟨k.mono fun ζ=>.inr,fun ζ h=>by simp at h⟩
theorem StepW.mono (T:StepW W B F s G s') (i:∀ b,W b→W' b):StepW W' B F s G s':=⟨T.kept.mono fun b q=>q.imp id (i b),T.fresh⟩
theorem StepW.trans (x:StepW W B F s G s') (y:StepW W B (F++G) s' G' s'') (I:Inv B (F++G++G') σ s'') (hW:∀ a,W a→a∉G'.flatten):StepW W B F s (G++G') s'':=by
 refine ⟨fun b o e n=>y.kept b o (x.kept b o e n) ?_,fun a ha=>?_⟩
 ·rintro ((q | q) | q)
  ·rcases q.app with q | q
   ·exact n (.inl (.inl q))
   ·rw [x.fresh b q] at e; exact noS e
  ·exact n (.inl (.inr q))
  ·exact n (.inr q)
 ·rw [List.flatten_append,List.mem_append] at ha
  rcases ha with ha | ha
  ·exact x.fresh a ha
  ·cases e:s.heap.get? a with
   | none=>rfl
   | some o =>
    exfalso
    have d:=y.fresh a ha
    have nw:¬ (Wr B F a∨W a):=by
     rintro ((q | rfl) | q)
     ·have nd:=I.nodup
      rw [List.flatten_append,List.flatten_append,List.nodup_append] at nd
      exact nd.2.2 a (List.mem_append.mpr (.inl q.mem)) a ha rfl
     ·refine x1_1 (I.tabo) fun ps t=>?_
      have:=I.fresh B.tab (by rw [List.flatten_append]; exact List.mem_append.mpr (.inr ha))
      rw [t] at this; cases this
     ·exact hW a q ha
    rw [x.kept a o e nw] at d; cases d
theorem StepW.after (k:Kept W s.heap s'.heap) (y:StepW W B F s' G s'') (I:Inv B (F++G) σ s'') (hW:∀ a,W a→a∉G.flatten):StepW W B F s G s'':=by
 have:=(StepW.of_kept (B:=B) (F:=F) k).trans (G':=G) (s'':=s'') (σ:=σ) (by rw [List.append_nil]; exact y) (by rw [List.append_nil]; exact I) hW
 rw [List.nil_append] at this; exact this
theorem StepW.imk (I:Inv B F σ s) (T:StepW W B F s G s') (hW:∀ b o,W b→s.heap.get? b=some o→Mut F b o):Mv F (F++G) s.heap s'.heap:=(Mv.of_kept T.kept fun b o w e=>w.elim (fun w=>I.wr b o w e) fun w=>hW b o w e).add T.fresh
noncomputable def Cn (B:Base) (F:Lay) (s:Shared) (P:α→Lay→Shared→Prop):α→Shared→Prop:=fun a s'=>∃ G,Step B F s G s'∧P a (F++G) s'
noncomputable def HasInv (B:Base) (P:α→Lay→Shared→Prop):Prop:=∀ a F s,P a F s→∃ σ,Inv B F σ s
theorem hasE (B:Base) (σ:Sto) (v:V):HasInv B (PE B σ v):=fun ζ ζ ζ p=>⟨_,p.1⟩
theorem hasB (B:Base) (σ:Sto) (v:Bool):HasInv B (PB B σ v):=fun ζ ζ ζ p=>⟨_,p.1⟩
noncomputable def PEs (B:Base) (σ:Sto) (vs:List V) (xs:List Value) (F:Lay) (s:Shared):Prop:=Inv B F σ s∧VRs B.fa s.heap F vs xs
theorem hasEs (B:Base) (σ:Sto) (vs:List V):HasInv B (PEs B σ vs):=fun ζ ζ ζ p=>⟨_,p.1⟩
theorem Cn.back {P:α→Lay→Shared→Prop} (hi:HasInv B P) (T:Step B F s G s') {a:α} (h:Cn B (F++G) s' P a s''):Cn B F s P a s'':=by
 refine x1_2 (h) fun G' T' p=>?_
 refine x1_1 (hi _ _ _ p) fun σ' I=>?_
 exact ⟨G++G',T.trans T' I,by rw [← List.append_assoc]; exact p⟩
theorem seqK {P:α→Lay→Shared→Prop} {P':β→Lay→Shared→Prop} {t:Sem α} {u:α→Sem β} (hi:HasInv B P') (h:EvT B A F s t P) (k:∀ a G s',Step B F s G s'→P a (F++G) s'→wpAny (model B.prog B.w) A (u a) (Cn B (F++G) s' P') Bot s') :
  wpAny (model B.prog B.w) A t (fun a s'=>wpAny (model B.prog B.w) A (u a) (Cn B F s P') Bot s') Bot s :=
 wpAny_mono h (fun a s' ⟨G,T,p⟩=>wpAny_mono (k a G s' T p) (fun b s'' q=>q.back hi T) fun ζ ζ x=>x) fun ζ ζ x=>x
theorem evRet {v:V} {x:Value} (I:Inv B F σ s) (r:VR B.fa s.heap F v x):Cn B F s (PE B σ v) x s:=evTok s.toks I r
end
noncomputable def kwNm:Str:=Str.ofString "newline"
noncomputable def retR (Q:Value→Shared→Prop) (r:Result) (s':Shared):Prop:=match r with
 | .ok (.ret v)=>Q v s'
 | .ok _=>False
 | .error _=>False
theorem call_retR {B:Base} {A:Around} {f:Value} {xs:List Value} {kw:List (Str × Value)} {Q:Value→Shared→Prop} {s:Shared} (h:codeAny (model B.prog B.w) A (.call f ⟨xs,kw⟩) (retR Q) s):wpAny (model B.prog B.w) A (call f xs kw) Q Bot s :=
 wpAny_call (codeAny_mono h fun r s' z=>by rcases r with e | (v | _ | _ | _) <;> first | exact z | exact z.elim)
structure Kit (B:Base) (A:Around) (d:Nat) (Φ:Calls) (Λ:Lexer) (Gv:Nat→Option V) (gt:List Str) (mk:Me→Nat) (kws:Nat→Str→Bool):Prop where
 room:Room A d
 lex:∃ K,LexOK B K mk
 bok:BOk B
 gr:GR B gt Gv
 fn:∀ k as σ r,Φ k as σ=some r→∃ o fd,B.h0.get? (B.fa k)=some o∧o.cls≠.none∧o.data=.func fd
 phi:∀ A',Near A A'→∀ F σ s k as xs v σ',kws k kwNm=false→Inv B F σ s→VRs B.fa s.heap F as xs→Φ k as σ=some (v,σ')→codeAny (model B.prog B.w) A' (.call (.ref (B.fa k)) ⟨xs,[]⟩) (retR (Cn B F s (PE B σ' v))) s
 kw:∀ F σ s k as xs w y nm v σ',kws k nm=true→Inv B F σ s→VRs B.fa s.heap F as xs→VR B.fa s.heap F w y→Φ k (as++[w]) σ=some (v,σ')→EvT B A F s (call (.ref (B.fa k)) xs [(nm,y)]) (PE B σ' v)
 lam:∀ m as σ r,m.lex=true→Λ m as σ=some r→Φ (mk m) as σ=some r
 mkw:∀ m,kws (mk m) kwNm=false
 rdc:∀ a σ r,Λ .count [a] σ=some r→∃ i,a=.ref i∧readC i σ=some r
 give:∀ F σ s i v σ' as text la line p x dx st sd gv cT cA t,Inv B F σ s→Λ .count [.ref i] σ=some (v,σ')→Fat F i as→LexH B s.heap as text la line p x dx st sd gv cT cA→EvT B A F s (call (.ref gv) [.int 1 t]) (PE B σ' v)
noncomputable def EL.len:EL→Nat
 | .nil=>0
 | .cons _ r=>r.len+1
noncomputable def nodupB (l:List Str):Bool:=match l with
 | []=>true
 | x :: r=>!r.contains x&&nodupB r
noncomputable def plainNm (x:Str):Bool:=!(x==("__debug__":Str))&&!(x==("__classdict__":Str))
noncomputable def notSuper (gt:List Str):E→Bool
 | .call g _ _ _=>!(nmOf gt g==("super":Str))
 | .callkw ..=>false
 | .raw _=>false
 | _=>true
noncomputable def csOk (gt tb:List Str) (vis:List (Nat × Bool)) (cs:CS):Bool :=
 (cs.sc.kind==.function)&&cs.own.all (fun p=>cs.sc.names.lookup (nmOf tb p.1)==some (if p.2 then .cell else .local)) &&
 cs.fr.all (fun i=>cs.sc.names.lookup (nmOf tb i)==some .free&&vis.contains (i,true))&&cs.gl.all (fun g=>cs.sc.names.lookup (nmOf gt g)==some .globalImplicit&&plainNm (nmOf gt g)) &&
 nodupB ((cs.own.map (·.1)++cs.fr).map (nmOf tb))&&nodupB (cs.sc.names.map (·.1))&&cs.sc.names.all (fun x=>x.2 != .free||cs.fr.any fun i=>nmOf tb i==x.1) &&
 (cs.own.map (·.1)++cs.fr).all fun i=>plainNm (nmOf tb i)
noncomputable def CS.vis (cs:CS):List (Nat × Bool):=cs.own++cs.fr.map fun i=>(i,true)
noncomputable def CS.wv (cs:CS):List Nat:=cs.own.map (·.1)
noncomputable def disj (a b:List Nat):Bool:=a.all fun i=>!b.contains i
noncomputable def clSlots:CL→List Nat
 | .nil=>[]
 | .cons t _ _ r=>tgSlots t++clSlots r
section
variable (gt tb:List Str) (kws:Nat→Str→Bool) (Gv:Nat→Option V)
mutual
noncomputable def wfE (vis:List (Nat × Bool)) (gl:List Nat):E→Bool
 | .cnone _=>true
 | .cbool _ _=>true
 | .cint _ _=>true
 | .cstr s _=>decide (s.length≤maxLen)
 | .var i _=>vis.any (·.1==i)
 | .glob g _=>gl.contains g
 | .bin _ a b _=>wfE vis gl a&&wfE vis gl b
 | .neg a _=>wfE vis gl a
 | .cmp _ a b _=>wfE vis gl a&&wfE vis gl b
 | .cmp2 _ _ a b c _=>wfE vis gl a&&wfE vis gl b&&wfE vis gl c
 | .boolop _ es _=>wfEL vis gl es
 | .ife t a b _=>wfE vis gl t&&wfE vis gl a&&wfE vis gl b
 | .list _ es _=>wfEL vis gl es&&decide (es.len≤1000)
 | .tup es _=>wfEL vis gl es&&decide (es.len≤1000)
 | .sub a i _=>wfE vis gl a&&wfE vis gl i
 | .slice a lo hi st _ _=>wfE vis gl a&&wfO vis gl lo&&wfO vis gl hi&&wfO vis gl st
 | .call g _ es _=>gl.contains g&&wfEL vis gl es&&(match Gv g with
  | some (.fn f)=>!kws f kwNm
  | _=>true)
 | .callkw g _ es k e _ _=>gl.contains g&&wfEL vis gl es&&!es.isNil&&wfE vis gl e&&(match Gv g with
  | some (.fn f)=>kws f k
  | _=>false)
 | .meth o _ es q p=>wfE vis gl o&&wfEL vis gl es&&(q.endLine==p.line)&&decide (es.len < 29)&&notSuper gt o
 | .attr o _ _=>wfE vis gl o&&notSuper gt o
 | .fit g o _ _ _ _=>gl.contains g&&wfE vis gl o&&notSuper gt o
 | .readc o _ q2 _ p=>wfE vis gl o&&notSuper gt o&&(q2.endLine==p.line)
 | .comp _ e t it ifs r cs _=>wfE vis gl it&&csOk gt tb vis cs&&(tgSlots t).all (fun i=>cs.wv.contains i)&&disj (tgSlots t) (clSlots r)&&wfEL cs.vis cs.gl ifs&&wfCL cs.vis cs.gl cs.wv r&&wfE cs.vis cs.gl e
 | _=>false
noncomputable def wfEL (vis:List (Nat × Bool)) (gl:List Nat):EL→Bool
 | .nil=>true
 | .cons e es=>wfE vis gl e&&wfEL vis gl es
noncomputable def wfO (vis:List (Nat × Bool)) (gl:List Nat):OE→Bool
 | .none=>true
 | .some e=>wfE vis gl e
noncomputable def wfCL (vis:List (Nat × Bool)) (gl:List Nat) (wv:List Nat):CL→Bool
 | .nil=>true
 | .cons t it ifs r=>wfE vis gl it&&(tgSlots t).all (fun i=>wv.contains i)&&disj (tgSlots t) (clSlots r)&&wfEL vis gl ifs&&wfCL vis gl wv r
end
end
end Mine
namespace Mine
open PySem
section
variable {B:Base} {A:Around} {F G:Lay} {σ σ':Sto} {s s':Shared} {d:Nat} {a b v:V} {x y:Value} {gt tb:List Str} {vis:List (Nat × Bool)} {wv gl:List Nat} {env:Env} {loc loc':Loc}
theorem star_cons (e:E) (h:∀ x,e≠.raw x) (r:List Expr):starEach (toE gt tb e :: r) env=(false,eval (toE gt tb e) env) :: starEach r env:=by
 cases e <;> first | rfl | exact absurd rfl (h _)
theorem wf_raw {kws:Nat→Str→Bool} {Gv:Nat→Option V} {e:E} (h:wfE gt tb kws Gv vis gl e=true):∀ x,e≠.raw x:=fun x q=>by subst q; exact noT h
theorem back_cons (pos:Pos) (t:Sem Value) (r:List (Bool × Sem Value)):backTo pos ((false,t) :: r)=(false,t) :: backTo pos r:=rfl
theorem wp_super {M:Model} {A:Around} {id:Str} {p q:Pos} {name:Str} {t:Sem Value} (hn:(id != ("super":Str))=true) {Q:Value→Shared→Prop} {E:Value→Shared→Prop} (h:wpAny M A t Q E s):wpAny M A (attributeBase (.Call (.Name id p) [] [] q) name env t) Q E s:=by
 unfold attributeBase
 simp only [hn,Bool.true_or,if_true]
 exact h
theorem base_ok {M:Model} {e:E} (hn:notSuper gt e=true) {name:Str} {Q:Value→Shared→Prop} {E:Value→Shared→Prop} (h:wpAny M A (eval (toE gt tb e) env) Q E s):wpAny M A (attributeBase (toE gt tb e) name env (eval (toE gt tb e) env)) Q E s:=by
 cases e with
 | call g p'' es p' =>
  cases es with
  | cons=>exact h
  | nil=>exact wp_super hn h
 | callkw=>exact noT hn
 | raw=>exact noT hn
 | _=>exact h
theorem all_plain {kws:Nat→Str→Bool} {Gv:Nat→Option V}:∀ {es:EL} {pos:Pos},wfEL gt tb kws Gv vis gl es=true→(backTo pos (starEach (toEL gt tb es) env)).all (fun x=>!x.1)=true∧(backTo pos (starEach (toEL gt tb es) env)).any (·.1)=false
 | .nil,_,_=>⟨rfl,rfl⟩
 | .cons e es,pos,h=>by
  have h:=bA1 h
  refine x0_2 (all_plain (pos:=pos) h.2) fun h1 h2=>?_
  show (backTo pos (starEach (toE gt tb e :: toEL gt tb es) env)).all _=true∧(backTo pos (starEach (toE gt tb e :: toEL gt tb es) env)).any _=false
  rw [star_cons e (wf_raw h.1),back_cons]
  exact ⟨by rw [List.all_cons,h1]; rfl,by rw [List.any_cons,h2]; rfl⟩
theorem toEL_len:∀ es:EL,(toEL gt tb es).length=es.len
 | .nil=>rfl
 | .cons e es=>by show (toE gt tb e :: toEL gt tb es).length=_; rw [List.length_cons,toEL_len es]; rfl
theorem meth_rule {kws:Nat→Str→Bool} {Gv:Nat→Option V} {e:E} {es:EL} {name:Str} {q p:Pos} (hn:notSuper gt e=true) (hw:wfEL gt tb kws Gv vis gl es=true) (hl:(q.endLine==p.line)=true) (h29:es.len < 29) {Q:Value→Shared→Prop} {E:Value→Shared→Prop}
  (h:wpAny (model B.prog B.w) A (eval (toE gt tb e) env) (fun ov s₁=>∀ pl,wpAny (model B.prog B.w) A (getMethod ov name pl) (fun fm s₂=>wpAny (model B.prog B.w) A (callWith p fm.1 fm.2 (backTo p (starEach (toEL gt tb es) env)) []) Q E s₂) E s₁) E s) :
  wpAny (model B.prog B.w) A (eval (.Call (.Attribute (toE gt tb e) name q) (toEL gt tb es) [] p) env) Q E s:=by
 rw [arm_eval_Call]
 refine wpAny_bind (base_ok hn (wpAny_mono h (fun ov s₁ h₁=>?_) fun ζ ζ e=>e))
 refine wpAny_bind (wpAny_standAt ?_)
 have hform:methodCallForm ((toEL gt tb es).length+([]:List Keyword).length) (backTo p (starEach (toEL gt tb es) env)) (backToKw p (keywordEach [] env))=true:=by
  unfold methodCallForm
  rw [(all_plain hw).1,toEL_len]
  show (true&&true&&decide (es.len+0+0 < 30))=true
  rw [decide_eq_true (by (first | lia | omega))]; rfl
 have hpos:methodCallPos true (toE gt tb e) env q p=pure p:=by unfold methodCallPos; simp [hl]
 unfold methodCall
 rw [hform]
 refine wpAny_bind (wpAny_holding ?_)
 unfold calleeOf
 rw [if_pos rfl]
 refine wpAny_mono (h₁ _) (fun fm s₂ h₂=>?_) fun ζ ζ z=>z
 exact wpAny_bind (wpAny_of_eq hpos h₂)
theorem evalArgs_any {kws:Nat→Str→Bool} {Gv:Nat→Option V} {f:Value} {es:EL} {pos:Pos} (hw:wfEL gt tb kws Gv vis gl es=true) {Q:Args→Shared→Prop} {E:Value→Shared→Prop} {M:Model}
  (h:wpAny M A (spliced (backTo pos (starEach (toEL gt tb es) env))) (fun vs s₁=>Q ⟨vs,[]⟩ s₁) E s):wpAny M A (evalArgs f true (backTo pos (starEach (toEL gt tb es) env)) []) Q E s:=by
 cases es with
 | nil =>
  unfold evalArgs
  show wpAny M A (spliced [] >>= _) Q E s
  refine wpAny_bind (wpAny_mono h (fun vs s' h'=>?_) fun ζ ζ x=>x)
  refine wpAny_holding ?_
  exact wpAny_bind (wpAny_pure (wpAny_bind (wpAny_pure (wpAny_pure h'))))
 | cons e es =>
  have hw:=bA1 hw
  have he:starEach (toEL gt tb (.cons e es)) env=(false,eval (toE gt tb e) env) :: starEach (toEL gt tb es) env:=star_cons e (wf_raw hw.1) _
  rw [he,back_cons] at h ⊢
  exact Calls.evalArgs_plain h
end
end Mine
namespace Mine
open PySem
theorem closure_loop (env:Env) (f:Str × NameKind→List (Str × Addr)→Sem (ForInStep (List (Str × Addr))))
  (hf:∀ name kind cs,f (name,kind) cs=if kind==.free then (do let a ← cellOf env name; pure (.yield ((name,a) :: cs))) else pure (.yield cs)) :
  ∀ (names:List (Str × NameKind)) (acc:List (Str × Addr)),(∀ x∈names,x.2=.free→∃ c,env.cells.lookup x.1=some c)→(∀ n c,acc.lookup n=some c→env.cells.lookup n=some c) →
   ∃ cl,forIn names acc f=pure cl∧(∀ n c,cl.lookup n=some c→env.cells.lookup n=some c)∧(∀ n,(acc.lookup n).isSome→cl.lookup n=env.cells.lookup n)∧(∀ x∈names,x.2=.free→cl.lookup x.1=env.cells.lookup x.1)∧∀ n c,cl.lookup n=some c→(acc.lookup n).isSome∨(n,NameKind.free)∈names
 | [],acc,_,ha=>⟨acc,by simp,ha,(fun n h=>by
   refine x1_1 (Option.isSome_iff_exists.mp h) fun c e=>?_
   rw [e,ha n c e]),(fun x hx=>by cases hx),fun n c e=>.inl (by rw [e]; rfl)⟩
 | (name,kind) :: r,acc,hn,ha=>by
  rw [List.forIn_cons,hf]
  by_cases hk:kind=.free
  ·subst hk
   refine x1_1 (hn (name,.free) (.head _) rfl) fun c e=>?_
   have ha':∀ n c',((name,c) :: acc).lookup n=some c'→env.cells.lookup n=some c':=fun n c' q=>by
    rw [List.lookup_cons] at q
    cases hb:n==name with
    | true=>rw [hb] at q; cases q; rw [eq_of_beq hb]; exact e
    | false=>rw [hb] at q; exact ha n c' q
   refine x1_5 (closure_loop env f hf r ((name,c) :: acc) (fun x hx=>hn x (.tail _ hx)) ha') fun cl h1 h2 h3 h4 h5=>?_
   have hs:(((name,c) :: acc).lookup name).isSome:=by rw [List.lookup_cons,beq_self_eq_true]; rfl
   refine ⟨cl,?_,h2,fun n hs'=>?_,fun x hx hf'=>?_,fun n c' e'=>?_⟩
   ·have ec:cellOf env name=pure c:=by unfold cellOf; rw [e]
    rw [ec]; exact h1
   ·refine h3 n ?_
    rw [List.lookup_cons]
    cases n==name with
    | true=>rfl
    | false=>exact hs'
   ·rcases List.mem_cons.mp hx with rfl | hx
    ·exact h3 name hs
    ·exact h4 x hx hf'
   ·rcases h5 n c' e' with q | q
    ·rw [List.lookup_cons] at q
     cases hb:n==name with
     | true=>exact .inr (by rw [eq_of_beq hb]; exact .head _)
     | false=>rw [hb] at q; exact .inl q
    ·exact .inr (.tail _ q)
  ·have hb:(kind==NameKind.free)=false:=by simpa using hk
   refine x1_5 (closure_loop env f hf r acc (fun x hx=>hn x (.tail _ hx)) ha) fun cl h1 h2 h3 h4 h5=>?_
   refine ⟨cl,?_,h2,h3,fun x hx hf'=>?_,fun n c e=>(h5 n c e).imp id (.tail _)⟩
   ·rw [hb]; exact h1
   ·rcases List.mem_cons.mp hx with rfl | hx
    ·exact absurd hf' hk
    ·exact h4 x hx hf'
theorem closure_ok {scope:Scope} {env:Env} (hn:∀ x∈scope.names,x.2=.free→∃ c,env.cells.lookup x.1=some c) :
  ∃ cl,closureFor scope env=pure cl∧(∀ n c,cl.lookup n=some c→env.cells.lookup n=some c)∧(∀ x∈scope.names,x.2=.free→cl.lookup x.1=env.cells.lookup x.1)∧∀ n c,cl.lookup n=some c→(n,NameKind.free)∈scope.names:=by
 refine x1_5 (closure_loop env (fun (x:Str × NameKind) r=>if x.2==.free then (do let a ← cellOf env x.1; pure (.yield ((x.1,a) :: r))) else pure (.yield r)) (fun ζ ζ ζ=>rfl) scope.names [] hn (fun n c e=>by cases e)) fun cl h1 h2 ζ h4 h5=>?_
 refine ⟨cl,?_,h2,h4,fun n c e=>(h5 n c e).elim (fun q=>by cases q) id⟩
 have e:closureFor scope env=(forIn scope.names ([]:List (Str × Addr)) (fun (x:Str × NameKind) r=>if x.2==.free then (do let a ← cellOf env x.1; pure (.yield ((x.1,a) :: r))) else pure (.yield r)) >>= fun cs=>pure cs):=rfl
 rw [e,h1]; rfl
theorem cells_ok:∀ (names:List (Str × NameKind)) (h:Heap) (acc:List (Str × Addr)),(names.map (·.1)).Nodup→(∀ n c,acc.lookup n=some c→c < h.objs.size)→(∀ n n' c,acc.lookup n=some c→acc.lookup n'=some c→n=n') →
  (∀ n,(n,NameKind.cell)∉names→(cellsFrom h.objs.size names acc).lookup n=acc.lookup n) ∧
  (∀ n,(n,NameKind.cell)∈names→∃ c,(cellsFrom h.objs.size names acc).lookup n=some c∧h.objs.size≤c∧(pushCells h names).IsCell c none) ∧
  (∀ n n' c,(cellsFrom h.objs.size names acc).lookup n=some c→(cellsFrom h.objs.size names acc).lookup n'=some c→n=n')
 | [],h,acc,_,_,inj=>⟨fun ζ ζ=>rfl,(fun ζ q=>by cases q),inj⟩
 | (name,kind) :: r,h,acc,nd,lt,inj=>by
  rw [List.map_cons,List.nodup_cons] at nd
  unfold cellsFrom pushCells
  by_cases hk:kind=.cell
  ·apply q1 hk
   simp only [beq_self_eq_true,if_true]
   have hsz:(h.push { cls:=.type "cell",data:=.cell none }).objs.size=h.objs.size+1:=Heap.size_push ..
   have ih:=cells_ok r (h.push { cls:=.type "cell",data:=.cell none }) ((name,h.objs.size) :: acc) nd.2 (fun n c q=>by
    rw [hsz]
    rw [List.lookup_cons] at q
    cases hb:n==name with
    | true=>rw [hb] at q; cases q; exact Nat.lt_succ_self _
    | false=>rw [hb] at q; exact Nat.lt_succ_of_lt (lt n c q)) (fun n n' c q q'=>by
    rw [List.lookup_cons] at q q'
    cases hb:n==name with
    | true =>
     rw [hb] at q; cases q
     cases hb':n'==name with
     | true=>rw [eq_of_beq hb,eq_of_beq hb']
     | false=>rw [hb'] at q'; exact absurd (lt n' _ q') (Nat.lt_irrefl _)
    | false =>
     rw [hb] at q
     cases hb':n'==name with
     | true=>rw [hb'] at q'; cases q'; exact absurd (lt n _ q) (Nat.lt_irrefl _)
     | false=>rw [hb'] at q'; exact inj n n' c q q')
   rw [hsz] at ih
   refine x0_3 (ih) fun h1 h2 h3=>?_
   refine ⟨fun n hn=>?_,fun n hn=>?_,h3⟩
   ·rw [h1 n (fun q=>hn (.tail _ q)),List.lookup_cons]
    have:(n==name)=false:=by
     rw [beq_eq_false_iff_ne]; rintro rfl; exact hn (.head _)
    rw [this]
   ·by_cases hr:(n,NameKind.cell)∈r
    ·refine x1_3 (h2 n hr) fun c e l q=>?_
     exact ⟨c,e,Nat.le_of_succ_le l,q⟩
    ·have:n=name:=by
      rcases List.mem_cons.mp hn with q | q
      ·cases q; rfl
      ·exact absurd q hr
     subst this
     refine ⟨h.objs.size,?_,Nat.le_refl _,?_⟩
     ·rw [h1 n hr,List.lookup_cons,beq_self_eq_true]
     ·exact ⟨_,pushCells_keeps r _ _ _ (Heap.get?_push_size _ rfl),rfl⟩
  ·have hb:(kind==NameKind.cell)=false:=by simpa using hk
   simp only [hb,Bool.false_eq_true,if_false]
   refine x0_3 (cells_ok r h acc nd.2 lt inj) fun h1 h2 h3=>?_
   refine ⟨fun n hn=>h1 n fun q=>hn (.tail _ q),fun n hn=>h2 n ?_,h3⟩
   rcases List.mem_cons.mp hn with q | q
   ·cases q; exact absurd rfl hk
   ·exact q
section
variable {M:Model} {A:Around} {E:Value→Shared→Prop} {s:Shared} {env:Env}
theorem compEnv_ok {scope:Scope} {cl:List (Str × Addr)} {Q:Env→Shared→Prop}
  (h:∀ cenv:Env,cenv.locals=s.heap.objs.size→cenv.globals=env.globals→cenv.builtins=env.builtins→cenv.cells=cellsFrom (s.heap.objs.size+1) scope.names cl →
   Q cenv { s with heap:=pushCells (s.heap.push { cls:=.type "dict",data:=.dict #[] }) scope.names }) :
  wpAny M A (newFunctionEnv scope env.globals cl [] env.qual none .none (some env)) Q E s:=by
 simp only [newFunctionEnv,Option.isSome_some,if_true]
 refine wpAny_bind (wpAny_alloc ?_)
 refine wpAny_bind (wpAny_layCells _ (fun name kind cells=>by cases hkc:kind==NameKind.cell <;> simp [hkc]) _ _ _ _ ?_)
 rw [show ({ s with heap:=s.heap.push { cls:=.type "dict",data:=.dict #[] } }:Shared).heap.objs.size=s.heap.objs.size+1 from Heap.size_push ..]
 simp only [List.forIn_nil]
 exact wpAny_bind (wpAny_pure (wpAny_pure (h _ rfl rfl rfl rfl)))
end
end Mine
namespace Mine
open PySem
noncomputable def ifsBody (env:Env) (c:Expr) (ok:Bool):Sem (ForInStep Bool):=if ok=true then do
  let ok ← PySem.isTrue c env (eval c env)
  pure (ForInStep.yield ok)
 else pure (ForInStep.yield ok)
section
variable {M:Model} {A:Around} {s:Shared} {env:Env}
noncomputable def Inner (M:Model) (A:Around) (elt:Expr) (gens:List Comprehension) (sc:Scope) (pos:Pos) (dp:Nat) (acc:Value) (env:Env) (K:Shared→Prop) (s:Shared):Prop:=match gens[dp+1]? with
 | none=>wpAny M A (eval elt env) (fun x s₄=>wpAny M A (call (.builtin "list.append") [acc,x]) (fun ζ s₅=>K s₅) Bot s₄) Bot s
 | some g'=>wpAny M A (eval g'.iter env) (fun x s₄=>wpAny M A (foldedSetIterable g'.iter env x) (fun x' s₅=>wpAny M A (pyIter x') (fun it' s₆ =>
   codeAny M A (.compStart (.ListComp elt gens sc pos) (dp+1) it' acc env) (fun r s₇=>match r with | .ok _=>K s₇ | .error _=>False) s₆) Bot s₅) Bot s₄) Bot s
theorem comp_turn {elt:Expr} {gens:List Comprehension} {sc:Scope} {pos:Pos} {it acc:Value} {dp:Nat} {target iter:Expr} {ifs:List Expr} (hg:gens[dp]?=some ⟨target,iter,ifs,0⟩) (hg':∀ g',gens[dp+1]?=some g'→g'.is_async=0)
  {D K:Shared→Prop} {R:PySem.Fin→Shared→Prop} (hD:∀ s',D s'→R (.done .next) s') (hK:∀ s',K s'→R (.again (.compLoop (.ListComp elt gens sc pos) dp it acc env)) s')
  (h:wpAny M A (pyNext it) (fun r s₁=>match r with
   | none=>D s₁
   | some v=>wpAny M A (letOwnedTupleGo target it v) (fun ζ s₂=>wpAny M A (assign target env v) (fun ζ s₃=>wpAny M A (forIn ifs true (ifsBody env)) (fun ok s₄=>if ok=true then Inner M A elt gens sc pos dp acc env K s₄ else K s₄) Bot s₃) Bot s₂) Bot s₁) Bot s) :
  wpAny M A (compTurn (.ListComp elt gens sc pos) dp it acc env) R Bot s:=by
 unfold compTurn
 dsimp only
 rw [hg]
 dsimp only
 refine wpAny_bind (wpAny_standAt ?_)
 rw [if_neg (by decide)]
 refine wpAny_bind (wpAny_mono h (fun r s₁ h₁=>?_) fun ζ ζ x=>x)
 cases r with
 | none=>exact wpAny_pure (hD _ h₁)
 | some v =>
  refine wpAny_bind (wpAny_mono h₁ (fun ζ s₂ h₂=>?_) fun ζ ζ x=>x)
  refine wpAny_bind (wpAny_mono h₂ (fun ζ s₃ h₃=>?_) fun ζ ζ x=>x)
  refine wpAny_bind (wpAny_mono h₃ (fun ok s₄ h₄=>?_) fun ζ ζ x=>x)
  cases ok with
  | false=>exact wpAny_pure (hK _ h₄)
  | true =>
   rw [if_pos rfl] at h₄ ⊢
   unfold Inner at h₄
   revert h₄
   cases hq:gens[dp+1]? with
   | none =>
    intro h₄
    refine wpAny_bind (wpAny_bind (wpAny_mono h₄ (fun x s₅ h₅=>wpAny_bind (wpAny_mono h₅ (fun ζ s₆ h₆=>wpAny_pure (wpAny_pure (hK _ h₆))) fun ζ ζ x=>x)) fun ζ ζ x=>x))
   | some g' =>
    intro h₄
    have ha:=hg' g' hq
    refine wpAny_bind (wpAny_mono h₄ (fun x s₅ h₅=>wpAny_bind (wpAny_standAt ?_)) fun ζ ζ x=>x)
    rw [if_neg (by rw [ha]; decide)]
    refine wpAny_bind (wpAny_mono h₅ (fun x' s₆ h₆=>?_) fun ζ ζ x=>x)
    rw [if_neg (by rw [ha]; decide)]
    refine wpAny_bind (wpAny_holding (wpAny_mono h₆ (fun it' s₇ h₇=>?_) fun ζ ζ x=>x))
    refine wpAny_bind (wpAny_runOwn (codeAny_mono h₇ fun r s' hr=>?_))
    cases r with
    | ok f=>exact wpAny_pure (hK _ hr)
    | error x=>exact hr.elim
end
section
variable {B:Base} {A:Around} {F G:Lay} {σ σ':Sto} {s s':Shared} {d:Nat} {a b v:V} {x y:Value} {gt tb:List Str} {vis:List (Nat × Bool)} {wv gl:List Nat} {env:Env} {loc loc':Loc} {I D:Addr} {k:Nat} {it:It} {acc:List V}
set_option tactic.hygienic true in
theorem go_ok {t:Tg} (r:ItR B s.heap F I k it) {E:Value→Shared→Prop} {Q:Unit→Shared→Prop} (h:Q () s):wpAny (model B.prog B.w) A (letOwnedTupleGo (toTg tb t) (.ref I) x) Q E s:=by
 cases t with
 | name i p=>exact wpAny_pure h
 | tup is p =>
  refine x1_3 (r.live') fun o e _ pl=>?_
  show wpAny _ _ (letOwnedTupleGo (.Tuple (is.map fun x=>.Name (nmOf tb x.1) x.2) 0 p) (.ref I) x) Q E s
  cases x with
  | ref a =>
   show wpAny _ _ (load I >>= _) Q E s
   refine wpAny_bind (wpAny_load e ?_)
   split
   ·rename_i n vs ec ed
    rw [pl n vs ec ed]
    exact wpAny_pure h
   ·exact wpAny_pure h
  | _=>exact wpAny_pure h
theorem folded_ok (e:E) (h:∀ x,e≠.raw x) (x:Value):foldedSetIterable (toE gt tb e) env x=pure x:=by
 cases e <;> first | rfl | exact absurd rfl (h _)
noncomputable def gh (D:Addr) (F:Lay):Lay:=match F with
 | []=>[]
 | as :: r=>(D :: as) :: r
theorem Inv.ne (I:Inv B F σ s):∃ as r,F=as :: r:=by
 cases F with
 | nil=>have:=I.len; have h:=I.size; rw [← this] at h; exact absurd h (Nat.lt_irrefl _)
 | cons as r=>exact ⟨as,r,rfl⟩
theorem gh_flat (h:∃ as r,F=as :: r):(gh D F).flatten=D :: F.flatten:=by refine x2_1 (h) fun as r hq_212=>?_; apply q1 hq_212; rfl
theorem gh_app (h:∃ as r,F=as :: r):gh D F++G=gh D (F++G):=by refine x2_1 (h) fun as r hq_213=>?_; apply q1 hq_213; rfl
theorem gh_fat {i:Nat} {as:List Addr}:Fat (gh D F) i as↔Fat F i as:=by
 unfold Fat
 refine and_congr_right fun h=>?_
 cases F with
 | nil=>rfl
 | cons x r=>cases i with
  | zero=>exact absurd h (Nat.lt_irrefl _)
  | succ i=>rfl
theorem Mv.drop (h:∃ as r,F=as :: r) (hp:Heap):Mv (gh D F) F hp hp:=⟨fun ζ ζ e ζ ζ=>e,fun ζ ζ e=>gh_fat.mp e,fun b ζ ζ ζ ζ n q=>n (by rw [gh_flat h]; exact .tail _ q)⟩
theorem Mv.ghost (ne:∃ as r,F=as :: r) {h h':Heap} (k:∀ b o,h.get? b=some o→h'.get? b=some o) (d:h.get? D=none):Mv F (gh D F) h h':=⟨fun b o e ζ ζ=>k b o e,fun ζ ζ e=>gh_fat.mpr e,fun b o e ζ ζ n q=>by
 rw [gh_flat ne] at q
 rcases List.mem_cons.mp q with rfl | q
 ·rw [d] at e; exact noS e
 ·exact n q⟩
theorem Inv.addG (I:Inv B F σ s) (I₁:Inv B F σ s') (k:∀ b o,s.heap.get? b=some o→s'.heap.get? b=some o) (d:s.heap.get? D=none) {items:Array Value} (hl:s'.heap.PlainList D items):Inv B (gh D F) σ s':=by
 have ne:=I.ne
 have m:=Mv.ghost (h':=s'.heap) ne k d
 refine ⟨I₁.old,I₁.lim,I₁.gens,I₁.os,?_,fun i o as eo e=>?_,?_,fun a h=>?_,I₁.tabs,I.tabo,I.tabc,I.low,I.zero⟩
 ·refine x2_1 (ne) fun as r hq_214=>?_; subst hq_214; exact I.len
 ·cases i with
  | zero =>
   refine x2_1 (I.zero) fun k' xs z=>?_
   rw [z] at eo; apply s1 eo
   refine x2_1 (ne) fun as' r hq_215=>?_
   subst hq_215
   cases e
   have q:=I₁.obj 0 _ _ z rfl
   refine ⟨fun a ha=>?_,q.2⟩
   rcases List.mem_cons.mp ha with rfl | ha
   ·refine x1_1 (hl) fun n el=>?_; exact ⟨_,el,fun ζ=>rfl⟩
   ·exact q.1 a ha
  | succ i =>
   have e':=(gh_fat.mp (show Fat (gh D F) (i+1) as from ⟨Nat.succ_pos i,e⟩)).2
   exact (I.obj _ o as eo e').mono (fun a ζ ob=>k a ob) m
 ·rw [gh_flat ne,List.nodup_cons]; exact ⟨(I.dead d).2,I.nodup⟩
 ·rw [gh_flat ne] at h
  rcases List.mem_cons.mp h with rfl | h
  ·exact (I.dead d).1
  ·exact I.fresh a h
theorem Inv.dropG (ne:∃ as r,F=as :: r) (I:Inv B (gh D F) σ s):Inv B F σ s:=by
 have fl:=gh_flat (D:=D) ne
 have nd:=I.nodup
 rw [fl,List.nodup_cons] at nd
 refine ⟨I.old,I.lim,I.gens,I.os,?_,fun i o as eo e=>?_,nd.2,fun a h=>I.fresh a (by rw [fl]; exact .tail _ h),I.tabs,I.tabo,I.tabc,I.low,I.zero⟩
 ·refine x2_1 (ne) fun as r hq_216=>?_; subst hq_216; exact I.len
 ·cases i with
  | zero =>
   refine x2_1 (I.zero) fun k' xs z=>?_
   rw [z] at eo; apply s1 eo
   refine x2_1 (ne) fun as' r hq_217=>?_
   subst hq_217
   cases e
   have q:=I.obj 0 _ (D :: as) z rfl
   exact ⟨fun a ha=>q.1 a (.tail _ ha),q.2⟩
  | succ i=>exact (I.obj _ o as eo (gh_fat.mpr ⟨Nat.succ_pos i,e⟩).2).mono (fun ζ ζ ζ e=>e) (.drop ne _)
theorem Inv.updG {h':Heap} {tk:Nat} {as:List Addr} {items:Array Value} (I:Inv B F σ s) (ef:F[0]?=some as) (hd:D∈as) (k:Kept (·=D) s.heap h') (hl:h'.PlainList D items):Inv B F σ { s with heap:=h',toks:=tk }:=by
 have hD:D∈F.flatten:=flat_mem ef hd
 have m:Mv F F s.heap h':=.of_kept k fun b o w e=>w▸I.mut hD _ (w▸e)
 refine x0_3 (I.rest k (fun b w=>by rw [w]; exact I.fresh D hD) m) fun q1 q2 q3=>?_
 refine ⟨q1,q2,I.gens,I.os,I.len,fun i o as' eo e=>?_,I.nodup,I.fresh,q3,I.tabo,I.tabc,I.low,I.zero⟩
 cases i with
 | zero =>
  refine x2_1 (I.zero) fun k' xs z=>?_
  rw [z] at eo; apply s1 eo
  have q:=I.obj 0 _ _ z e
  refine ⟨fun a ha=>?_,q.2⟩
  by_cases h:a=D
  ·refine x1_1 (hl) fun n el=>?_; rw [h]; exact ⟨_,el,fun ζ=>rfl⟩
  ·refine x1_2 (q.1 a ha) fun ob eo i=>?_; exact ⟨ob,k a ob eo h,i⟩
 | succ i=>exact (I.obj _ o as' eo e).mono (fun a ha ob eo=>k a ob eo fun w=>by subst w; cases flat_one I.nodup ef e hd ha) m
structure CInv (B:Base) (tb:List Str) (vis:List (Nat × Bool)) (env:Env) (D:Addr) (F:Lay) (σ:Sto) (loc:Loc) (acc:List V) (s:Shared):Prop where
 inv:Inv B F σ s
 lr:LR B tb vis env F loc s.heap
 al:∃ items,s.heap.PlainList D items∧VRs B.fa s.heap F acc items.toList
 dF:∃ as,F[0]?=some as∧D∈as
 len:acc.length≤maxLen
noncomputable def CW (tb:List Str) (wv:List Nat) (env:Env) (D:Addr) (b:Addr):Prop:=OwnA tb wv env b∨b=D
noncomputable def CPost (B:Base) (tb:List Str) (vis:List (Nat × Bool)) (wv:List Nat) (env:Env) (D:Addr) (F:Lay) (s:Shared) (W:Addr→Prop) (loc:Loc) (σ:Sto) (acc:List V) (s':Shared):Prop :=
 ∃ G,StepW (fun b=>CW tb wv env D b∨W b) B F s G s'∧CInv B tb vis env D (F++G) σ loc acc s'
noncomputable def Fr (env:Env) (b:Addr):Prop:=b=env.locals∨∃ n,env.cells.lookup n=some b
theorem OwnA.fr {b:Addr} (w:OwnA tb wv env b):Fr env b:=w.imp id fun ⟨i,_,e⟩=>⟨_,e⟩
theorem LR.fr {h:Heap} (L:LR B tb vis env F loc h) {b:Addr} (w:Fr env b):b∉F.flatten∧B.h0.get? b=none∧∃ o,h.get? b=some o∧¬ Imm o:=by
 rcases w with rfl | ⟨n,e⟩
 ·exact ⟨L.fl.1,L.fl.2,L.localsLive⟩
 ·exact ⟨(L.fc n b e).1,(L.fc n b e).2.1,L.cellLive e⟩
theorem LR.mv {h h':Heap} (L:LR B tb vis env F loc h) (k:∀ b o,Fr env b→h.get? b=some o→h'.get? b=some o) (m:Mv F G h h') (off:∀ b,Fr env b→b∉G.flatten):LR B tb vis env G loc h' :=
 L.keep (fun o e=>k _ o (.inl rfl) e) (fun n c o e eo=>k _ o (.inr ⟨n,e⟩) eo) m (off _ (.inl rfl)) fun n c e=>off c (.inr ⟨n,e⟩)
theorem LR.weak {h:Heap} (L:LR B tb vis env F loc h) (w:∀ (i:Nat) (v:V),loc'[i]?=some (some v)→loc[i]?=some (some v)):LR B tb vis env F loc' h :=
 ⟨let ⟨m,n,r⟩:=L.lcs; ⟨m,n,fun i v hi e=>r i v hi (w i v e)⟩,fun i hi=>let ⟨c',ov,e,q,r⟩:=L.cel i hi; ⟨c',ov,e,q,fun v e=>r v (w i v e)⟩,L.fl,L.fc,L.ap⟩
theorem CInv.weak (c:CInv B tb vis env D F σ loc acc s) (h:∀ (i:Nat) (v:V),loc'[i]?=some (some v)→loc[i]?=some (some v)):CInv B tb vis env D F σ loc' acc s:=⟨c.inv,c.lr.weak h,c.al,c.dF,c.len⟩
theorem own_mut (I:Inv B F σ s) (L:LR B tb vis env F loc s.heap):∀ b o,OwnA tb wv env b→s.heap.get? b=some o→Mut F b o:=fun ζ o w e=>.of ((own_ok I L w).2.2 o e)
theorem CInv.live (c:CInv B tb vis env D F σ loc acc s):∃ o,s.heap.get? D=some o:=let ⟨_,⟨_,q⟩,_⟩:=c.al; ⟨_,q⟩
theorem CInv.mem (c:CInv B tb vis env D F σ loc acc s):D∈F.flatten:=let ⟨_,e,h⟩:=c.dF; flat_mem e h
theorem CInv.off (c:CInv B tb vis env D F σ loc acc s):¬ Wr B F D:=by
 refine x1_2 (c.dF) fun as e h=>?_
 rintro (⟨i,bs,q,hb⟩ | q)
 ·exact absurd (flat_one c.inv.nodup e q.2 h hb) (Nat.ne_of_lt q.1)
 ·exact LR.notTab c.inv (c.inv.fresh D (flat_mem e h)) q
theorem CInv.own (c:CInv B tb vis env D F σ loc acc s):∀ b,Fr env b→b≠D:=fun b w z=>(c.lr.fr w).1 (z▸c.mem)
theorem CInv.cwMut (c:CInv B tb vis env D F σ loc acc s):∀ b o,CW tb wv env D b→s.heap.get? b=some o→Mut F b o:=fun b o w e=>w.elim (fun w=>own_mut c.inv c.lr b o w e) fun w=>c.inv.mut (w▸c.mem) o e
theorem CInv.step (c:CInv B tb vis env D F σ loc acc s) (T:Step B F s G s') (I':Inv B (F++G) σ' s'):CInv B tb vis env D (F++G) σ' loc acc s' :=
 let ⟨items,⟨n,q⟩,r⟩:=c.al
 let ⟨as,e,h⟩:=c.dF
 ⟨I',c.lr.step c.inv T,⟨items,⟨n,T.kept D _ q c.off⟩,r.step (T.imk c.inv)⟩,⟨as,by rw [List.getElem?_append_left (List.getElem?_eq_some_iff.mp e).1]; exact e,h⟩,c.len⟩
theorem CInv.store (c:CInv B tb vis env D F σ loc acc s) (p:StP B tb vis wv env F σ loc' s s'):CInv B tb vis env D F σ loc' acc s' :=
 let ⟨items,⟨n,q⟩,r⟩:=c.al
 ⟨p.inv,p.lr,⟨items,⟨n,p.keep D _ q fun w=>c.own D w.fr rfl⟩,r.step (p.imk c.inv c.lr)⟩,c.dF,c.len⟩
structure IOn (B:Base) (env:Env) (F:Lay) (h:Heap) (I:Addr) (k:Nat) (it:It):Prop where
 itr:ItR B h F I k it
 off:I∉F.flatten
 h0:B.h0.get? I=none
 own:∀ b,Fr env b→b≠I
 le:∀ vs,it=.items vs→k≤vs.length
theorem IOn.live (r:IOn B env F s.heap I k it):∃ o,s.heap.get? I=some o:=let ⟨o,e,_⟩:=r.itr.live_; ⟨o,e⟩
theorem IOn.move {h h':Heap} (r:IOn B env F h I k it) (kI:∀ o,h.get? I=some o→h'.get? I=some o) (m:Mv F G h h') (off:I∉G.flatten):IOn B env G h' I k it:=⟨r.itr.step kI m,off,r.h0,r.own,r.le⟩
theorem IOn.stepW {W:Addr→Prop} (r:IOn B env F s.heap I k it) (Iv:Inv B F σ s) (T:StepW W B F s G s') (hW:∀ b o,W b→s.heap.get? b=some o→Mut F b o) (nI:¬ W I):IOn B env (F++G) s'.heap I k it :=
 let ⟨o,e⟩:=r.live
 r.move (fun o e=>T.kept I o e fun w=>w.elim (fun w=>w.elim (fun w=>r.off w.mem) (LR.notTab Iv r.h0)) nI) (T.imk Iv hW) (not_new T.fresh e r.off)
theorem IOn.step (r:IOn B env F s.heap I k it) (Iv:Inv B F σ s) (T:Step B F s G s'):IOn B env (F++G) s'.heap I k it:=r.stepW (W:=fun ζ=>False) Iv T.w (fun ζ ζ w=>w.elim) id
theorem IOn.store (r:IOn B env F s.heap I k it) (Iv:Inv B F σ s) (L:LR B tb vis env F loc s.heap) (p:StP B tb vis wv env F σ loc' s s'):IOn B env F s'.heap I k it:=r.move (fun o e=>p.keep I o e fun w=>r.own I w.fr rfl) (p.imk Iv L) r.off
theorem LR.next (L:LR B tb vis env F loc s.heap) (r:IOn B env F s.heap I k it) (p:NxP B F σ s I s'):LR B tb vis env F loc s'.heap:=L.mv (fun b o w e=>p.keep b o e (r.own b w)) (nx_mv r.itr p) fun b w=>(L.fr w).1
theorem CInv.next (c:CInv B tb vis env D F σ loc acc s) (r:IOn B env F s.heap I k it) (p:NxP B F σ s I s'):CInv B tb vis env D F σ loc acc s' :=
 let ⟨items,⟨n,q⟩,rs⟩:=c.al
 ⟨p.inv,c.lr.next r p,⟨items,⟨n,p.keep D _ q fun z=>r.off (let ⟨as,e,h⟩:=c.dF; z▸flat_mem e h)⟩,rs.step (nx_mv r.itr p)⟩,c.dF,c.len⟩
theorem next_on (hh:A.handled=none) (Iv:Inv B F σ s) (r:IOn B env F s.heap I k it) {ov:Option V} (e:nextAt it k σ=some ov) {E:Value→Shared→Prop} {Q:Option Value→Shared→Prop}
  (h0:ov=none→∀ s',NxP B F σ s I s'→Q none s') (h1:∀ v x s',ov=some v→NxP B F σ s I s'→IOn B env F s'.heap I (k+1) it→VR B.fa s'.heap F v x→Q (some x) s'):wpAny (model B.prog B.w) A (pyNext (.ref I)) Q E s :=
 next_ok hh Iv r.itr r.h0 r.off e h0 (fun v x s' z p q rx=>h1 v x s' z p ⟨q,r.off,r.h0,r.own,fun vs w=>by
  subst w; subst z
  exact (List.getElem?_eq_some_iff.mp (Option.some.inj e)).1⟩ rx) r.le
noncomputable def NoneAt (loc:Loc) (is:List Nat):Prop:=∀ i∈is,∀ v,loc[i]?≠some (some v)
theorem setAll_get {i:Nat}:∀ (ps:List (Nat × V)) (loc:Loc),(∀ p∈ps,p.1≠i)→(setAll loc ps)[i]?=loc[i]?
 | [],_,_=>rfl
 | p :: ps,loc,h=>by
  show (setAll (loc.set p.1 (some p.2)) ps)[i]?=_
  rw [setAll_get ps _ fun z hz=>h z (.tail _ hz),List.getElem?_set_ne (h p (.head _))]
theorem bind_get {t:Tg} {v:V} (e:bindT t v loc σ=some loc') {i:Nat} (hi:i∉tgSlots t):loc'[i]?=loc[i]?:=by
 cases t with
 | name j p =>
  refine x0_2 (ite_is e) fun ζ hq_218=>?_
  apply q2 hq_218
  exact List.getElem?_set_ne fun z=>hi (by rw [← z]; exact .head _)
 | tup is p =>
  refine x1_2 (bind_is e) ?_
  (try clear e)
  intro vs q e
  refine x0_2 (ite_is e) fun hl hq_219=>?_
  apply q2 hq_219
  rw [fold_setAll]
  exact setAll_get _ _ fun z hz w=>hi (by rw [← w]; exact (List.of_mem_zip hz).1)
theorem bind_sub {t:Tg} {v:V} (e:bindT t v loc σ=some loc') (n:NoneAt loc (tgSlots t)):∀ (i:Nat) (u:V),loc[i]?=some (some u)→loc'[i]?=some (some u):=fun i u q=>(bind_get e fun h=>n i h u q).trans q
theorem bind_none {t:Tg} {v:V} {js:List Nat} (e:bindT t v loc σ=some loc') (hd:∀ i∈tgSlots t,i∉js) (n:NoneAt loc js):NoneAt loc' js:=fun i hi u q=>n i hi u ((bind_get e fun h=>hd i h hi).symm.trans q)
noncomputable def loopR (P:Shared→Prop):Result→Shared→Prop:=fun r s'=>match r with
 | .ok f=>f=.next∧P s'
 | .error _=>False
theorem CInv.cwOff {W:Addr→Prop} {s₁:Shared} (c:CInv B tb vis env D (F++G) σ loc acc s') (T:StepW (fun b=>CW tb wv env D b∨W b) B F s₁ G s') (c₀:∃ o,s₁.heap.get? D=some o) (hW:∀ a,W a→∃ o,s₁.heap.get? a=some o):∀ a,CW tb wv env D a∨W a→a∉G.flatten:=fun a w q=>by
 rcases w with (w | rfl) | w
 ·exact (c.lr.fr w.fr).1 (by rw [List.flatten_append]; exact List.mem_append.mpr (.inr q))
 ·refine x1_1 (c₀) fun o e=>?_; rw [T.fresh a q] at e; exact noS e
 ·refine x1_1 (hW a w) fun o e=>?_; rw [T.fresh a q] at e; exact noS e
theorem CPost.trans {W:Addr→Prop} {acc':List V} {loc₀:Loc} {σ₂:Sto} {s₁ s₂:Shared} (T:StepW (fun b=>CW tb wv env D b∨W b) B F s G s₁) (p:CPost B tb vis wv env D (F++G) s₁ W loc₀ σ₂ acc' s₂) (hD:∃ o,s₁.heap.get? D=some o) (hW:∀ a,W a→∃ o,s₁.heap.get? a=some o):CPost B tb vis wv env D F s W loc₀ σ₂ acc' s₂ :=
 let ⟨G',T',c⟩:=p
 ⟨G++G',T.trans T' c.inv (c.cwOff T' hD hW),by rw [← List.append_assoc]; exact c⟩
noncomputable def RestOk (B:Base) (A:Around) (tb:List Str) (vis:List (Nat × Bool)) (wv:List Nat) (env:Env) (D:Addr) (elt:Expr) (gens:List Comprehension) (sc:Scope) (pos:Pos) (dp:Nat) (js:List Nat) (k:Loc→Sto→List V→Option (List V × Sto)):Prop :=
 ∀ F σ s loc acc acc' σ',CInv B tb vis env D F σ loc acc s→NoneAt loc js→k loc σ acc=some (acc',σ') →
  Inner (model B.prog B.w) A elt gens sc pos dp (.ref D) env (CPost B tb vis wv env D F s (fun ζ=>False) loc σ' acc') s
noncomputable def IfsOk (B:Base) (A:Around) (tb:List Str) (vis:List (Nat × Bool)) (env:Env) (ifs:List Expr) (k:Loc→Sto→Option (Bool × Sto)):Prop :=
 ∀ F σ s loc b σ',Inv B F σ s→LR B tb vis env F loc s.heap→k loc σ=some (b,σ')→EvT B A F s (forIn ifs true (ifsBody env)) (PB B σ' b)
theorem inner_mono {M:Model} {elt:Expr} {gens:List Comprehension} {sc:Scope} {pos:Pos} {dp:Nat} {acc:Value} {K K':Shared→Prop} (hk:∀ s,K s→K' s) (h:Inner M A elt gens sc pos dp acc env K s):Inner M A elt gens sc pos dp acc env K' s:=by
 unfold Inner at h ⊢
 split at h
 ·exact wpAny_mono h (fun x s₁ h₁=>wpAny_mono h₁ (fun ζ s₂ h₂=>hk _ h₂) fun ζ ζ x=>x) fun ζ ζ x=>x
 ·exact wpAny_mono h (fun x s₁ h₁=>wpAny_mono h₁ (fun ζ s₂ h₂=>wpAny_mono h₂ (fun ζ s₃ h₃=>codeAny_mono h₃ fun r s₄ h₄=>by
   cases r with
   | ok f=>exact hk _ h₄
   | error e=>exact h₄) fun ζ ζ x=>x) fun ζ ζ x=>x) fun ζ ζ x=>x
noncomputable def compStep (t:Tg) (loc:Loc) (kI:Loc→Sto→Option (Bool × Sto)) (kR:Loc→Sto→List V→Option (List V × Sto)) (v:V) (acc:List V) (σ:Sto):Option (Bool × List V × Sto) :=
 (bindT t v loc σ).bind fun loc=>(kI loc σ).bind fun c=>if c.1 then (kR loc c.2 acc).map fun y=>(true,y) else some (true,acc,c.2)
theorem iterate_inv {α:Type} {step:V→α→Sto→Option (Bool × α × Sto)} {n:Nat} {a:α} {r:Bool × α × Sto} (e:iterate step it n k a σ=some r) :
  (nextAt it k σ=some none∧r=(true,a,σ))∨∃ m v y,n=m+1∧nextAt it k σ=some (some v)∧step v a σ=some y∧if y.1 then iterate step it m (k+1) y.2.1 y.2.2=some r else r=y:=by
 cases n with
 | zero =>
  refine x1_2 (bind_is e) ?_
  (try clear e)
  intro o q e
  refine x0_2 (ite_is e) fun h hq_220=>?_
  apply q2 hq_220
  cases o with
  | none=>exact .inl ⟨q,rfl⟩
  | some=>exact noT h
 | succ m =>
  refine x1_2 (bind_is e) ?_
  (try clear e)
  intro o q e
  cases o with
  | none=>apply s1 e; exact .inl ⟨q,rfl⟩
  | some v =>
   refine x1_2 (bind_is e) ?_
   (try clear e)
   intro y h e
   refine .inr ⟨m,v,y,rfl,q,h,?_⟩
   by_cases hy:y.1=true
   ·rw [if_pos hy] at e ⊢; exact e
   ·rw [if_neg hy] at e ⊢; exact (Option.some.inj e).symm
noncomputable def Turned (B:Base) (tb:List Str) (vis:List (Nat × Bool)) (wv:List Nat) (env:Env) (D I:Addr) (k:Nat) (it:It) (F:Lay) (s:Shared) (loc:Loc) (σ:Sto) (acc:List V) (s':Shared):Prop :=
 ∃ G,StepW (fun b=>CW tb wv env D b∨b=I) B F s G s'∧CInv B tb vis env D (F++G) σ loc acc s'∧IOn B env (F++G) s'.heap I k it
theorem Turned.inner {acc₁ acc₂:List V} {σ₂:Sto} {s₃ s₄:Shared} {loc₁ loc₀:Loc} (T:StepW (fun b=>CW tb wv env D b∨b=I) B F s G s₃) (c:CInv B tb vis env D (F++G) σ loc₁ acc₁ s₃) (r:IOn B env (F++G) s₃.heap I k it) (p:CPost B tb vis wv env D (F++G) s₃ (fun ζ=>False) loc₀ σ₂ acc₂ s₄) :
  Turned B tb vis wv env D I k it F s loc₀ σ₂ acc₂ s₄:=by
 refine x1_2 (p) fun G₂ T₂ c₂=>?_
 have nI:¬ (CW tb wv env D I∨False):=by
  rintro ((z | z) | z)
  ·exact r.own I z.fr rfl
  ·exact r.off (z▸c.mem)
  ·exact z
 have r₂:=r.stepW c.inv T₂ (fun b o w e=>w.elim (fun w=>c.cwMut b o w e) False.elim) nI
 have T₃:=T₂.mono (W':=fun b=>CW tb wv env D b∨b=I) fun b w=>w.imp id False.elim
 exact ⟨G++G₂,T.trans T₃ c₂.inv (CInv.cwOff c₂ T₃ c.live fun a w=>w▸r.live),by rw [← List.append_assoc]; exact c₂,by rw [← List.append_assoc]; exact r₂⟩
theorem comp_step (hh:A.handled=none) (R:ER B gt tb vis wv gl env) {elt:Expr} {gens:List Comprehension} {sc:Scope} {pos:Pos} {dp:Nat} {t:Tg} {iter:Expr} {ifs:List Expr} {js:List Nat} {kI:Loc→Sto→Option (Bool × Sto)} {kR:Loc→Sto→List V→Option (List V × Sto)}
  (hg:gens[dp]?=some ⟨toTg tb t,iter,ifs,0⟩) (hg':∀ g',gens[dp+1]?=some g'→g'.is_async=0) (ht:∀ i∈tgSlots t,i∈wv) (hj:∀ i∈tgSlots t,i∉js)
  (hI:IfsOk B A tb vis env ifs kI) (hR:RestOk B A tb vis wv env D elt gens sc pos dp js kR) (nt:NoneAt loc (tgSlots t)) (nj:NoneAt loc js)
  (c:CInv B tb vis env D F σ loc acc s) (r:IOn B env F s.heap I k it) {v:V} {y:Bool × List V × Sto} (q:nextAt it k σ=some (some v)) (e:compStep t loc kI kR v acc σ=some y) {R':PySem.Fin→Shared→Prop}
  (hK:∀ s',Turned B tb vis wv env D I (k+1) it F s loc y.2.2 y.2.1 s'→R' (.again (.compLoop (.ListComp elt gens sc pos) dp (.ref I) (.ref D) env)) s') :
  wpAny (model B.prog B.w) A (compTurn (.ListComp elt gens sc pos) dp (.ref I) (.ref D) env) R' Bot s:=by
 refine x2_3 (bin2_is e) ?_
 (try clear e)
 intro loc₁ b eb ei e
 refine comp_turn hg hg' (D:=fun ζ=>False) (fun s' h=>h.elim) hK ?_
 refine next_on hh c.inv r q (fun z=>by cases z) fun v' x s₁ z p₁ r₁ rx=>?_
 cases z
 have c₁:=c.next r p₁
 refine go_ok r₁.itr (bind_ok hh R c₁.inv c₁.lr ht rx eb fun s₂ p₂=>?_)
 have c₂:=c₁.store p₂
 have r₂:=r₁.store c₁.inv c₁.lr p₂
 refine (hI F σ s₂ loc₁ b.1 b.2 c₂.inv c₂.lr ei).seq fun ok G₁ s₃ T₃ p₃=>?_
 refine x0_2 (p₃) fun I₃ hq_221=>?_
 apply q1 hq_221
 have c₃:=c₂.step T₃ I₃
 have r₃:=r₂.step c₂.inv T₃
 have T:StepW (fun b=>CW tb wv env D b∨b=I) B F s G₁ s₃:=.after (s':=s₂) (fun a o eo nw=>p₂.keep a o (p₁.keep a o eo fun z=>nw (.inr z)) fun z=>nw (.inl (.inl z))) T₃.w I₃ (CInv.cwOff c₃ T₃.w c₂.live fun a w=>w▸r₂.live)
 by_cases hb:b.1=true
 ·rw [if_pos hb] at e ⊢
  refine x1_2 (map_is e) fun z er hq_222=>?_
  apply q2 hq_222
  exact inner_mono (fun s₄ h=>let ⟨G,x,y,z⟩:=Turned.inner T c₃ r₃ h; ⟨G,x,y.weak (bind_sub eb nt),z⟩) (hR (F++G₁) b.2 s₃ loc₁ acc z.1 z.2 c₃ (bind_none eb hj nj) er)
 ·rw [if_neg hb] at e ⊢
  apply s1 e
  exact ⟨G₁,T,c₃.weak (bind_sub eb nt),r₃⟩
theorem comp_loop (hh:A.handled=none) (R:ER B gt tb vis wv gl env) {elt:Expr} {gens:List Comprehension} {sc:Scope} {pos:Pos} {dp:Nat} {t:Tg} {iter:Expr} {ifs:List Expr} {js:List Nat} {kI:Loc→Sto→Option (Bool × Sto)} {kR:Loc→Sto→List V→Option (List V × Sto)}
  (hg:gens[dp]?=some ⟨toTg tb t,iter,ifs,0⟩) (hg':∀ g',gens[dp+1]?=some g'→g'.is_async=0) (ht:∀ i∈tgSlots t,i∈wv) (hj:∀ i∈tgSlots t,i∉js)
  (hI:IfsOk B A tb vis env ifs kI) (hR:RestOk B A tb vis wv env D elt gens sc pos dp js kR) (nt:NoneAt loc (tgSlots t)) (nj:NoneAt loc js) :
  ∀ (n k:Nat) (F:Lay) (σ:Sto) (s:Shared) (acc:List V) (y:Bool × List V × Sto),CInv B tb vis env D F σ loc acc s→IOn B env F s.heap I k it→iterate (compStep t loc kI kR) it n k acc σ=some y →
   codeAny (model B.prog B.w) A (.compLoop (.ListComp elt gens sc pos) dp (.ref I) (.ref D) env) (loopR (CPost B tb vis wv env D F s (·=I) loc y.2.2 y.2.1)) s:=by
 intro n
 induction n using Nat.strongRecOn with
 | _ n ih =>
 intro k F σ s acc y c r e
 refine codeAny_of_tree ?_
 show wpAny _ _ ((compTurn (.ListComp elt gens sc pos) dp (.ref I) (.ref D) env).onRaise (fun x=>do noteFrame x env; theTreesLotGoes x)) _ _ s
 refine wpAny_noted (wpAny_mono (E:=Bot) (Q:=fun fin s'=>match fin with | .done f=>loopR (CPost B tb vis wv env D F s (·=I) loc y.2.2 y.2.1) (.ok f) s' | .again c'=>c'.quiet=true∧codeAny (model B.prog B.w) A c' (loopR (CPost B tb vis wv env D F s (·=I) loc y.2.2 y.2.1)) s') ?_ (fun fin s' h=>by cases fin with | done f=>exact h | again c'=>exact h) fun ζ ζ x=>x.elim)
 rcases iterate_inv e with ⟨q,rfl⟩ | ⟨m,v,z,rfl,q,h,e⟩
 ·refine comp_turn hg hg' (D:=CPost B tb vis wv env D F s (·=I) loc σ acc) (K:=fun ζ=>False) (fun s' h=>⟨rfl,h⟩) (fun s' h=>h.elim) ?_
  exact next_on hh c.inv r q (fun ζ s' p=>⟨[],.of_kept (p.keep.mono fun b w=>.inr w),by rw [List.append_nil]; exact c.next r p⟩) (fun v x s' z=>by exact noS z)
 ·have hz:z.1=true:=by
   refine x2_3 (bin2_is h) ?_
   (try clear h)
   intro _ b _ _ h
   by_cases hb:b.1=true
   ·rw [if_pos hb] at h; refine x1_2 (map_is h) fun ζ ζ hq_223=>?_; apply q2 hq_223; rfl
   ·rw [if_neg hb] at h; cases h; rfl
  rw [if_pos hz] at e
  refine comp_step hh R hg hg' ht hj hI hR nt nj c r q h fun s' p=>⟨rfl,?_⟩
  refine x1_3 (p) fun G T c' r'=>?_
  refine codeAny_mono (ih m (Nat.lt_succ_self m) (k+1) (F++G) _ s' _ y c' r' e) fun rr s₅ h=>?_
  cases rr with
  | ok f=>exact ⟨h.1,h.2.trans T c'.live fun a w=>w▸r'.live⟩
  | error z=>exact h
end
end Mine
namespace Mine
open PySem
theorem nodup_of {l:List Str} (h:nodupB l=true):l.Nodup:=by
 induction l with
 | nil=>exact List.nodup_nil
 | cons x r ih =>
  unfold nodupB at h
  rw [Bool.and_eq_true,Bool.not_eq_true'] at h
  rw [List.nodup_cons]
  exact ⟨fun q=>by rw [List.contains_iff_mem.mpr q] at h; exact absurd h.1 (by decide),ih h.2⟩
theorem nodup_inj {α β:Type} {f:α→β}:∀ {l:List α},(l.map f).Nodup→∀ {x y:α},x∈l→y∈l→f x=f y→x=y
 | a :: l,h,x,y,hx,hy,e=>by
  rw [List.map_cons,List.nodup_cons] at h
  rcases List.mem_cons.mp hx with hx | hx <;> rcases List.mem_cons.mp hy with hy | hy
  ·rw [hx,hy]
  ·exact absurd (by rw [← hx,e]; exact List.mem_map_of_mem hy) h.1
  ·exact absurd (by rw [← hy,← e]; exact List.mem_map_of_mem hx) h.1
  ·exact nodup_inj h.2 hx hy e
theorem lookup_relabel {env:Env}:∀ {names:List (Str × NameKind)} {x:Str} {k:NameKind},names.lookup x=some k →
  (names.map fun (n,k)=>if (k==NameKind.free&&env.scope.kind==.function&&env.kindOf n==some .cell) then (n,NameKind.cell) else (n,k)).lookup x=some (if (k==NameKind.free&&env.scope.kind==.function&&env.kindOf x==some .cell) then .cell else k)
 | (n,k') :: r,x,k,h=>by
  show List.lookup x ((if (k'==NameKind.free&&env.scope.kind==.function&&env.kindOf n==some .cell)=true then (n,NameKind.cell) else (n,k')) :: _)=_
  cases hx:x==n with
  | true =>
   simp only [List.lookup_cons,hx] at h
   cases h
   rw [eq_of_beq hx]
   split
   ·simp [List.lookup_cons]
   ·simp [List.lookup_cons]
  | false =>
   simp only [List.lookup_cons,hx] at h
   have ih:=@lookup_relabel env r x k h
   split
   ·simp only [List.lookup_cons,hx]; exact ih
   ·simp only [List.lookup_cons,hx]; exact ih
theorem lookup_mem {α:Type} {l:List (Str × α)} {n:Str} {c:α} (h:l.lookup n=some c):(n,c)∈l:=mem_of_lookup h
theorem mem_lookup {α:Type}:∀ {l:List (Str × α)} {n:Str} {c:α},(l.map (·.1)).Nodup→(n,c)∈l→l.lookup n=some c
 | (k,v) :: r,n,c,nd,h=>by
  rw [List.map_cons,List.nodup_cons] at nd
  rw [List.lookup_cons]
  rcases List.mem_cons.mp h with q | q
  ·cases q; rw [beq_self_eq_true]
  ·have:(n==k)=false:=by
    rw [beq_eq_false_iff_ne]; rintro rfl; exact nd.1 (List.mem_map_of_mem (f:=(·.1)) q)
   rw [this]; exact mem_lookup nd.2 q
theorem clear_get (is:List Nat):∀ (loc:Loc) (i:Nat) (v:V),(clear is loc)[i]?=some (some v)→loc[i]?=some (some v)∧i∉is:=by
 induction is with
 | nil=>intro loc i v h; exact ⟨h,by simp⟩
 | cons j is ih =>
  intro loc i v h
  refine x0_2 (ih (loc.set j none) i v h) fun h1 h2=>?_
  rcases lt_set h1 with ⟨_,z⟩ | ⟨z,e⟩
  ·cases z
  ·exact ⟨e,by rw [List.mem_cons]; rintro (q | q); exact z q.symm; exact h2 q⟩
section
variable {B:Base} {A:Around} {F G:Lay} {σ σ':Sto} {s s':Shared} {d:Nat} {a b v:V} {x y:Value} {gt tb:List Str} {vis:List (Nat × Bool)} {wv gl:List Nat} {env:Env} {loc loc':Loc} {I D:Addr} {k:Nat} {it:It} {acc:List V}
theorem CInv.push {x:Value} {h':Heap} {tk:Nat} {items:Array Value} (c:CInv B tb vis env D F σ loc acc s) (hs:Heap.SameBut D s.heap h') (pl:s.heap.PlainList D items) (rs:VRs B.fa s.heap F acc items.toList) (hl:h'.PlainList D (items.push x)) (r:VR B.fa s.heap F v x) (hz:acc.length < maxLen) :
  CInv B tb vis env D F σ loc (acc++[v]) { s with heap:=h',toks:=tk }:=by
 have kp:Kept (·=D) s.heap h':=.of_same hs
 have m:Mv F F s.heap h':=.of_kept kp fun b o w e=>c.inv.mut (w▸c.mem) o e
 refine x1_2 (c.dF) fun as e h=>?_
 exact ⟨c.inv.updG e h kp hl,c.lr.mv (fun b o w e=>kp b o e (c.own b w)) m fun b w=>(c.lr.fr w).1,⟨_,hl,by rw [Array.toList_push]; exact (rs.step m).append (.one (r.step m))⟩,c.dF,by rw [List.length_append]; exact hz⟩
theorem rest_nil {elt:Expr} {gens:List Comprehension} {sc:Scope} {pos:Pos} {dp:Nat} {js:List Nat} {kE:Loc→Sto→Option (V × Sto)} (hg:gens[dp+1]?=none)
  (hE:∀ F σ s loc v σ',Inv B F σ s→LR B tb vis env F loc s.heap→kE loc σ=some (v,σ')→EvT B A F s (eval elt env) (PE B σ' v)) :
  RestOk B A tb vis wv env D elt gens sc pos dp js (fun loc σ acc=>(kE loc σ).bind fun v=>if acc.length < maxLen then some (acc++[v.1],v.2) else none):=by
 intro F σ s loc acc acc' σ' c _ e
 unfold Inner
 rw [hg]
 dsimp only
 refine x1_2 (bind_is e) ?_
 (try clear e)
 intro v ek e
 refine x0_2 (ite_is e) ?_
 (try clear e)
 intro hl e
 apply p2 e
 refine (hE F σ s loc v.1 v.2 c.inv c.lr ek).seq fun x G₁ s₁ T₁ p₁=>?_
 have c₁:=c.step T₁ p₁.1
 refine x1_2 (c₁.al) fun items pl rs=>?_
 have z1:acc.length=items.size:=rs.length.trans Array.length_toList
 exact wpAny_list_append_plain pl (fun h' hl' hs=>⟨G₁,⟨fun b o e nw=>(Kept.of_same hs) b o (T₁.kept b o e fun z=>nw (.inl z)) fun z=>nw (.inr (.inl (.inr z))),T₁.fresh⟩,c₁.push (tk:=s₁.toks) hs pl rs hl' p₁.2 hl⟩) (by rw [sizeLine_eq,← z1]; unfold maxLen at hl; (first | lia | omega))
theorem comp_start {elt:Expr} {gens:List Comprehension} {sc:Scope} {pos:Pos} {dp:Nat} {g:Comprehension} (hg:gens[dp]?=some g) (ha:g.is_async=0) {R:Result→Shared→Prop} {acc:Value} (hh:A.handled=none) (r:ItR B s.heap F I k it)
  (h:codeAny (model B.prog B.w) A (.compLoop (.ListComp elt gens sc pos) dp (.ref I) acc env) R s):codeAny (model B.prog B.w) A (.compStart (.ListComp elt gens sc pos) dp (.ref I) acc env) R s:=by
 refine codeAny_of_tree ?_
 show wpAny _ _ ((compStart (.ListComp elt gens sc pos) dp (.ref I) acc env).onRaise (fun x=>do noteFrame x env; standAt theWindowsPlace)) _ _ s
 refine wpAny_notedAt ?_
 unfold compStart
 have hc:clausesOf (.ListComp elt gens sc pos)=gens:=rfl
 rw [hc,hg]
 have h0:(Option.elim (some g) false fun x=>x.is_async != 0)=false:=by
  show (g.is_async != 0)=false; rw [ha]; rfl
 rw [h0]
 simp only [Bool.false_eq_true,if_false]
 refine wpAny_bind (wpAny_askSetting (wpAny_ite ?_))
 split
 ·exact wpAny_pure ⟨rfl,h⟩
 ·exact wpAny_bind (wpAny_rule (wpAny_bind (wpAny_standAt (wpAny_bind (self_ok r hh (wpAny_pure ⟨rfl,h⟩))))))
theorem CInv.all (c:CInv B tb vis env D F σ loc acc s) (Iv:Inv B F σ s') (k:∀ b o,s.heap.get? b=some o→s'.heap.get? b=some o):CInv B tb vis env D F σ loc acc s' :=
 let ⟨items,⟨n,pl⟩,rs⟩:=c.al
 ⟨Iv,c.lr.mv (fun b o ζ e=>k b o e) (.of k) fun b w=>(c.lr.fr w).1,⟨items,⟨n,k _ _ pl⟩,rs.step (.of k)⟩,c.dF,c.len⟩
theorem IOn.new (Iv:Inv B F σ s) (L:LR B tb vis env F loc s.heap) (p:ItP B F σ it s I s'):IOn B env F s'.heap I 0 it :=
 ⟨p.itr,(Iv.dead p.dead).2,(Iv.dead p.dead).1,fun b w z=>(by obtain ⟨_,_,o,e,_⟩:=L.fr w; rw [z,p.dead] at e; cases e),fun vs ζ=>Nat.zero_le _⟩
theorem rest_cons (hh:A.handled=none) (R:ER B gt tb vis wv gl env) {elt:Expr} {gens:List Comprehension} {sc:Scope} {pos:Pos} {dp:Nat} {t:Tg} {ie:E} {ifs:List Expr} {js:List Nat} {kE:Loc→Sto→Option (V × Sto)} {kI:Loc→Sto→Option (Bool × Sto)} {kR:Loc→Sto→List V→Option (List V × Sto)}
  (hg:gens[dp+1]?=some ⟨toTg tb t,toE gt tb ie,ifs,0⟩) (hg':∀ g',gens[dp+1+1]?=some g'→g'.is_async=0) (ht:∀ i∈tgSlots t,i∈wv) (hj:∀ i∈tgSlots t,i∉js) (hie:∀ x,ie≠.raw x)
  (hE:∀ F σ s loc v σ',Inv B F σ s→LR B tb vis env F loc s.heap→kE loc σ=some (v,σ')→EvT B A F s (eval (toE gt tb ie) env) (PE B σ' v))
  (hI:IfsOk B A tb vis env ifs kI) (hR:RestOk B A tb vis wv env D elt gens sc pos (dp+1) js kR) :
  RestOk B A tb vis wv env D elt gens sc pos dp (tgSlots t++js) (fun loc σ acc=>(kE loc σ).bind fun x=>(iterOf x.2 x.1).bind fun i=>(iterate (compStep t loc kI kR) i.1 i.2 0 acc x.2).map fun y=>y.2):=by
 intro F σ s loc acc acc' σ' c nj e
 unfold Inner
 rw [hg]
 dsimp only
 refine x2_3 (bin2_is e) ?_
 (try clear e)
 intro v i ek ei e
 refine x1_2 (map_is e) ?_
 (try clear e)
 intro y el e
 obtain ⟨ok,y⟩:=y
 apply p2 e
 refine (hE F σ s loc v.1 v.2 c.inv c.lr ek).seq fun x G₁ s₁ T₁ p₁=>?_
 have c₁:=c.step T₁ p₁.1
 refine wpAny_of_eq (folded_ok ie hie x) (iter_ok p₁.1 p₁.2 ei fun I s₂ p₂=>?_)
 refine comp_start hg rfl hh p₂.itr ?_
 refine codeAny_mono (comp_loop hh R hg hg' ht hj hI hR (fun i hi=>nj i (List.mem_append.mpr (.inl hi))) (fun i hi=>nj i (List.mem_append.mpr (.inr hi))) i.2 0 (F++G₁) v.2 s₂ acc _ (c₁.all p₂.inv p₂.keep) (.new p₁.1 c₁.lr p₂) el) fun rr s₃ h=>?_
 cases rr with
 | error z=>exact h
 | ok f =>
  obtain ⟨_,G₂,T₃,c₃⟩:=h
  have T₁₃:StepW (fun b=>CW tb wv env D b∨False) B (F++G₁) s₁ G₂ s₃:=by
   refine ⟨fun b o e nw=>T₃.kept b o (p₂.keep b o e) ?_,fun a ha=>?_⟩
   ·rintro (z | z | z)
    ·exact nw (.inl z)
    ·exact nw (.inr (.inl z))
    ·rw [z,p₂.dead] at e; exact noS e
   ·cases q:s₁.heap.get? a with
    | none=>rfl
    | some o=>have:=p₂.keep a o q; rw [T₃.fresh a ha] at this; exact noS this
  exact CPost.trans T₁.w ⟨G₂,T₁₃,c₃⟩ c₁.live fun ζ=>False.elim
end
end Mine
namespace Mine
open PySem
section
variable {B:Base} {A:Around} {F G:Lay} {σ σ':Sto} {s s':Shared} {d:Nat} {a b v:V} {x y:Value} {gt tb:List Str} {vis:List (Nat × Bool)} {wv gl:List Nat} {env:Env} {loc loc':Loc} {I D:Addr} {k:Nat} {it:It} {acc:List V}
structure CsP (gt tb:List Str) (vis:List (Nat × Bool)) (cs:CS):Prop where
 kind:cs.sc.kind=.function
 own:∀ p∈cs.own,cs.sc.names.lookup (nmOf tb p.1)=some (if p.2 then .cell else .local)
 fr:∀ i∈cs.fr,cs.sc.names.lookup (nmOf tb i)=some .free∧(i,true)∈vis
 gl:∀ g∈cs.gl,cs.sc.names.lookup (nmOf gt g)=some .globalImplicit∧plainNm (nmOf gt g)=true
 nd:((cs.own.map (·.1)++cs.fr).map (nmOf tb)).Nodup
 nds:(cs.sc.names.map (·.1)).Nodup
 free:∀ x∈cs.sc.names,x.2=.free→∃ i∈cs.fr,nmOf tb i=x.1
 plain:∀ i∈cs.own.map (·.1)++cs.fr,plainNm (nmOf tb i)=true
theorem csP_of {cs:CS} (h:csOk gt tb vis cs=true):CsP gt tb vis cs:=by
 unfold csOk at h
 simp only [Bool.and_eq_true] at h
 refine x0_2 (h) fun hw_224 h8=>?_
 refine x0_2 (hw_224) fun hw_225 h7=>?_
 refine x0_2 (hw_225) fun hw_226 h6=>?_
 refine x0_2 (hw_226) fun hw_227 h5=>?_
 refine x0_2 (hw_227) fun hw_228 h4=>?_
 obtain ⟨⟨h1,h2⟩,h3⟩:=hw_228
 refine ⟨eq_of_beq h1,fun p hp=>eq_of_beq (List.all_eq_true.mp h2 p hp),fun i hi=>?_,fun g hg=>?_,nodup_of h5,nodup_of h6,fun x hx e=>?_,fun i hi=>List.all_eq_true.mp h8 i hi⟩
 ·have:=List.all_eq_true.mp h3 i hi
  rw [Bool.and_eq_true] at this
  exact ⟨eq_of_beq this.1,List.contains_iff_mem.mp this.2⟩
 ·have:=List.all_eq_true.mp h4 g hg
  rw [Bool.and_eq_true] at this
  exact ⟨eq_of_beq this.1,this.2⟩
 ·have:=List.all_eq_true.mp h7 x hx
  rw [e] at this
  simp at this
  exact this
theorem cs_vis_nd {cs:CS} (c:CsP gt tb vis cs):(cs.vis.map fun x=>nmOf tb x.1).Nodup:=by
 have:=c.nd
 have e:(cs.vis.map fun x=>nmOf tb x.1)=(cs.own.map (·.1)++cs.fr).map (nmOf tb):=by
  unfold CS.vis
  simp [List.map_append,List.map_map,Function.comp_def]
 rw [e]; exact this
theorem comp_er {cs:CS} (c:CsP gt tb vis cs) (R:ER B gt tb vis wv gl env) {cenv:Env} (hg:cenv.globals=env.globals) (hb:cenv.builtins=env.builtins):ER B gt tb cs.vis cs.wv cs.gl { cenv with scope:=relabel cs.sc env }:=by
 have lk:∀ {n:Str} {k:NameKind},cs.sc.names.lookup n=some k→Env.kindOf { cenv with scope:=relabel cs.sc env } n=some (if (k==NameKind.free&&env.scope.kind==.function&&env.kindOf n==some .cell) then .cell else k):=fun h=>lookup_relabel h
 have mem:∀ i b,(i,b)∈cs.vis→(i,b)∈cs.own∨(i∈cs.fr∧b=true):=fun i b h=>by
  unfold CS.vis at h
  rcases List.mem_append.mp h with q | q
  ·exact .inl q
  ·refine x1_2 (List.mem_map.mp q) fun j hj e=>?_; apply p2 e; exact .inr ⟨hj,rfl⟩
 refine ⟨c.kind,by rw [← R.gA]; exact hg,by rw [← R.bA]; exact hb,fun i hi=>?_,fun i hi=>?_,fun i hi=>?_,fun g hg=>?_,fun i j b c' hi hj e=>?_,fun i b hi=>?_,fun g hg=>?_⟩
 ·rcases mem i _ hi with q | ⟨_,q⟩
  ·have:=lk (c.own _ q); simpa using this
  ·exact noT q
 ·rcases mem i _ hi with q | ⟨q,_⟩
  ·have:=lk (c.own _ q); exact .inl (by simpa using this)
  ·have:=lk (c.fr i q).1
   rw [this]
   split
   ·exact .inl rfl
   ·exact .inr rfl
 ·unfold CS.wv at hi
  refine xP1_2 (List.mem_map.mp hi) fun j b hj hq_229=>?_
  apply q2 hq_229
  have hv:(j,b)∈cs.vis:=List.mem_append.mpr (.inl hj)
  cases b with
  | false=>exact .inl hv
  | true=>exact .inr ⟨hv,by have:=lk (c.own _ hj); simpa using this⟩
 ·have:=lk (c.gl g hg).1; simpa using this
 ·have:=nodup_inj (cs_vis_nd c) hi hj e
  cases this; exact ⟨rfl,rfl⟩
 ·have hm:i∈cs.own.map (·.1)++cs.fr:=by
   rcases mem i _ hi with q | ⟨q,_⟩
   ·exact List.mem_append.mpr (.inl (List.mem_map_of_mem (f:=(·.1)) q))
   ·exact List.mem_append.mpr (.inr q)
  have:=c.plain i hm
  unfold plainNm at this
  rw [Bool.and_eq_true,Bool.not_eq_true',Bool.not_eq_true'] at this
  exact this
 ·have:=(c.gl g hg).2
  unfold plainNm at this
  rw [Bool.and_eq_true,Bool.not_eq_true',Bool.not_eq_true'] at this
  exact this.1
theorem comp_lr {cs:CS} (c:CsP gt tb vis cs) (Iv:Inv B F σ s) (L:LR B tb vis env F loc s.heap) {cl:List (Str × Addr)} (h1:∀ n c,cl.lookup n=some c→env.cells.lookup n=some c) (h2:∀ x∈cs.sc.names,x.2=.free→cl.lookup x.1=env.cells.lookup x.1) (h3:∀ n c,cl.lookup n=some c→(n,NameKind.free)∈cs.sc.names)
  {cenv:Env} (hl:cenv.locals=s.heap.objs.size) (hc:cenv.cells=cellsFrom (s.heap.objs.size+1) cs.sc.names cl) {sc:Scope} :
  LR B tb cs.vis { cenv with scope:=sc } F (clear cs.wv loc) (pushCells (s.heap.push { cls:=.type "dict",data:=.dict #[] }) cs.sc.names) ∧
  (∀ b,OwnA tb cs.wv { cenv with scope:=sc } b→s.heap.get? b=none)∧(∀ n c',cenv.cells.lookup n=some c'→s.heap.get? c'=none∨env.cells.lookup n=some c'):=by
 have kp:∀ b o,s.heap.get? b=some o→(pushCells (s.heap.push { cls:=.type "dict",data:=.dict #[] }) cs.sc.names).get? b=some o:=fun b o e=>pushCells_keeps _ _ b o (Heap.get?_push_of_some _ e)
 have im:Mv F F s.heap (pushCells (s.heap.push { cls:=.type "dict",data:=.dict #[] }) cs.sc.names):=.of kp
 have hsz:(s.heap.push { cls:=.type "dict",data:=.dict #[] }).objs.size=s.heap.objs.size+1:=Heap.size_push ..
 have ck:=cells_ok cs.sc.names (s.heap.push { cls:=.type "dict",data:=.dict #[] }) cl c.nds (fun n c' e=>by
  rw [hsz]
  refine x1_2 (L.cellLive (h1 n c' e)) fun o eo ζ=>?_
  exact Nat.lt_succ_of_lt (Heap.lt_size eo)) fun n n' c' e e'=>L.ap n n' c' (h1 n c' e) (h1 n' c' e')
 rw [hsz,← hc] at ck
 refine x0_3 (ck) fun k1 k2 k3=>?_
 have big:∀ c',s.heap.objs.size≤c'→s.heap.get? c'=none:=fun c' h=>by
  cases q:s.heap.get? c' with
  | none=>rfl
  | some o=>exact absurd (Heap.lt_size q) (Nat.not_lt_of_le h)
 have mem:∀ i b,(i,b)∈cs.vis→(i,b)∈cs.own∨(i∈cs.fr∧b=true):=fun i b h=>by
  unfold CS.vis at h
  rcases List.mem_append.mp h with q | q
  ·exact .inl q
  ·refine x1_2 (List.mem_map.mp q) fun j hj e=>?_; cases e; exact .inr ⟨hj,rfl⟩
 have nown:∀ i b v,(i,b)∈cs.own→(clear cs.wv loc)[i]?≠some (some v):=fun i b v h e=>(clear_get _ _ _ _ e).2 (List.mem_map_of_mem (f:=(·.1)) h)
 have hdl:s.heap.get? cenv.locals=none:=by rw [hl]; exact dead_size _
 have ddl:=Iv.dead hdl
 have hcell:∀ n c',cenv.cells.lookup n=some c'→(s.heap.get? c'=none∧(pushCells (s.heap.push { cls:=.type "dict",data:=.dict #[] }) cs.sc.names).IsCell c' none)∨env.cells.lookup n=some c':=fun n c' e=>by
  by_cases hm:(n,NameKind.cell)∈cs.sc.names
  ·refine x1_3 (k2 n hm) fun c'' e' l q=>?_
   rw [e] at e'; cases e'
   exact .inl ⟨big c' (Nat.le_of_succ_le l),q⟩
  ·rw [k1 n hm] at e; exact .inr (h1 n c' e)
 refine ⟨⟨⟨fun ζ=>none,?_,fun i v hi e=>?_⟩,fun i hi=>?_,⟨ddl.2,ddl.1⟩,fun n c' e=>?_,k3⟩,fun b w=>?_,fun n c' e=>(hcell n c' e).imp (·.1) id⟩
 ·show Heap.Ns _ cenv.locals _
  rw [hl]
  exact (Heap.Ns.new s.heap (.type "dict")).keeps (pushCells_keeps _ _)
 ·rcases mem i _ hi with q | ⟨_,q⟩
  ·exact absurd e (nown i _ v q)
  ·exact noT q
 ·rcases mem i _ hi with q | ⟨q,_⟩
  ·refine x1_3 (k2 (nmOf tb i) (lookup_mem (by have:=c.own _ q; simpa using this))) fun c' e ζ z=>?_
   exact ⟨c',none,e,z,fun v ev=>absurd ev (nown i _ v q)⟩
  ·refine x0_2 (c.fr i q) fun f1 f2=>?_
   refine x2_3 (L.cel i f2) fun c' ov e z r=>?_
   have hm:(nmOf tb i,NameKind.cell)∉cs.sc.names:=fun w=>by
    have:=mem_lookup c.nds w
    rw [f1] at this; cases this
   refine ⟨c',ov,?_,z.keeps kp,fun v ev=>?_⟩
   ·show cenv.cells.lookup _=_
    rw [k1 _ hm,h2 _ (lookup_mem f1) rfl]; exact e
   ·refine x1_2 (r v (clear_get _ _ _ _ ev).1) fun x q' r'=>?_
    exact ⟨x,q',r'.step im⟩
 ·rcases hcell n c' e with ⟨q1,q2⟩ | q
  ·have dd:=Iv.dead q1
   exact ⟨dd.2,dd.1,none,q2⟩
  ·obtain ⟨z1,z2,ov,z3⟩:=L.fc n c' q
   exact ⟨z1,z2,ov,z3.keeps kp⟩
 ·rcases w with rfl | ⟨i,hi,e⟩
  ·exact hdl
  ·unfold CS.wv at hi
   refine xP1_2 (List.mem_map.mp hi) fun j b' hj hq_230=>?_
   subst hq_230
   cases b' with
   | true =>
    refine x1_3 (k2 (nmOf tb j) (lookup_mem (by have:=c.own _ hj; simpa using this))) fun c' e' l ζ=>?_
    have e2:cenv.cells.lookup (nmOf tb j)=some b:=e
    rw [e2] at e'; cases e'
    exact big _ (Nat.le_of_succ_le l)
   | false =>
    exfalso
    have ho:cs.sc.names.lookup (nmOf tb j)=some .local:=by have:=c.own _ hj; simpa using this
    have hm:(nmOf tb j,NameKind.cell)∉cs.sc.names:=fun w=>by
     have:=mem_lookup c.nds w
     rw [ho] at this; cases this
    have e2:cenv.cells.lookup (nmOf tb j)=some b:=e
    rw [k1 _ hm] at e2
    have:=mem_lookup c.nds (h3 _ _ e2)
    rw [ho] at this; cases this
end
end Mine
namespace Mine
open PySem
structure CDone (B:Base) (F:Lay) (σ:Sto) (v:V) (s:Shared) (D C:Addr) (G:Lay) (s':Shared):Prop where
 step:Step B F s G s'
 pe:PE B σ v (.ref D) (F++G) s'
 ns:∃ m,s'.heap.Ns C m
 dead:s.heap.get? C=none
 off:C∉(F++G).flatten
 h0:B.h0.get? C=none
section
variable {B:Base} {A:Around} {F G:Lay} {σ σ':Sto} {s s':Shared} {d:Nat} {a b v:V} {x y:Value} {gt tb:List Str} {vis:List (Nat × Bool)} {wv gl:List Nat} {env:Env} {loc loc':Loc} {I D:Addr} {k:Nat} {it:It} {acc:List V}
theorem Inv.cellG (ne:∃ as r,F=as :: r) (I:Inv B (gh D F) σ s) {vs:List V} {items:Array Value} (hl:s.heap.PlainList D items) (hv:VRs B.fa s.heap (gh D F) vs items.toList) (hz:vs.length≤maxLen):Inv B (F++[[D]]) (σ++[.list vs]) s:=by
 have fl:=gh_flat (D:=D) ne
 have nd:=I.nodup
 rw [fl,List.nodup_cons] at nd
 have m:Mv (gh D F) (F++[[D]]) s.heap s.heap:=⟨fun ζ ζ e ζ ζ=>e,fun ζ ζ e=>app_get _ _ _ _ (gh_fat.mp e),fun b ζ ζ ζ ζ n q=>n (by
  rw [fl]
  rw [List.flatten_append,List.mem_append] at q
  exact q.elim (.tail _) fun q=>by simp at q; rw [q]; exact .head _)⟩
 have I₁:=I.dropG ne
 refine I₁.grow (fun i o as eo e=>?_) ⟨D,items,rfl,hl,hv.step m,hz⟩ (by simp) (fun a h=>by cases List.mem_singleton.mp h; exact nd.1) fun a h=>by cases List.mem_singleton.mp h; exact I.fresh D (by rw [fl]; exact .head _)
 cases i with
 | zero =>
  refine x2_1 (I.zero) fun k' xs z=>?_
  rw [z] at eo; apply s1 eo
  exact I₁.obj 0 _ as z e
 | succ i=>exact (I.obj _ o as eo (gh_fat.mpr ⟨Nat.succ_pos i,e⟩).2).mono (fun ζ ζ ζ e=>e) m
theorem gh_wr {b:Addr} (w:Wr B (gh D F) b):Wr B F b:=w.imp (fun ⟨i,as,e,h⟩=>⟨i,as,gh_fat.mp e,h⟩) id
theorem cdone_of (cell:Bool) {vs:List V} {C:Addr} {m:Str→Option Value} (Iv:Inv B F σ' s) (dD:s.heap.get? D=none) (c:CInv B tb vis env D (gh D F++G) σ loc vs s') (T:Step B F s G s') (hC:C=env.locals) (n:s'.heap.Ns C m) (dC:s.heap.get? C=none):∃ G',CDone B F (newL cell vs σ).2 (newL cell vs σ).1 s D C G' s':=by
 have ne:=Iv.ne
 refine x1_2 (c.al) fun items pl rs=>?_
 have e:=gh_app (D:=D) (G:=G) ne
 have ne':∃ as r,F++G=as :: r:=let ⟨as,r,q⟩:=ne; ⟨as,r++G,by rw [q]; rfl⟩
 have I₁:=c.inv
 rw [e] at I₁ rs
 have fl:=gh_flat (D:=D) ne'
 have nd:=I₁.nodup
 rw [fl,List.nodup_cons] at nd
 have oC:C∉(gh D (F++G)).flatten:=by rw [hC,← e]; exact c.lr.fl.1
 rw [fl] at oC
 cases cell with
 | false =>
  refine x1_1 (pl) ?_; (try clear pl); intro n' pl
  exact ⟨G,T,⟨I₁.dropG ne',.lst pl nd.1 (rs.step (.drop ne' _)) c.len⟩,⟨m,n⟩,dC,fun q=>oC (.tail _ q),hC▸c.lr.fl.2⟩
 | true =>
  have I₂:=I₁.cellG ne' pl rs c.len
  refine ⟨G++[[D]],⟨T.kept,fun a h=>?_⟩,⟨by rw [← List.append_assoc]; exact I₂,.ref (as:=[]) ⟨I₁.size,?_⟩⟩,⟨m,n⟩,dC,?_,hC▸c.lr.fl.2⟩
  ·rw [List.flatten_append,List.mem_append] at h
   exact h.elim (T.fresh a) fun h=>by simp at h; rw [h]; exact dD
  ·rw [← List.append_assoc,← (I₁.dropG ne').len,List.getElem?_concat_length]
  ·rw [← List.append_assoc,List.flatten_append,List.mem_append]
   exact fun q=>q.elim (fun q=>oC (.tail _ q)) fun q=>oC (by simp at q; rw [q]; exact .head _)
theorem comp_world {cs:CS} (c:CsP gt tb vis cs) (Iv:Inv B F σ s) (L:LR B tb vis env F loc s.heap) {s₂:Shared} (p:ItP B F σ it s I s₂) {cl:List (Str × Addr)} (h1:∀ n c,cl.lookup n=some c→env.cells.lookup n=some c) (h2:∀ x∈cs.sc.names,x.2=.free→cl.lookup x.1=env.cells.lookup x.1) (h3:∀ n c,cl.lookup n=some c→(n,NameKind.free)∈cs.sc.names)
  {cenv:Env} {sc:Scope} (hl:cenv.locals=(s₂.heap.push { cls:=.type "list",data:=.seq #[] }).objs.size) (hc:cenv.cells=cellsFrom ((s₂.heap.push { cls:=.type "list",data:=.seq #[] }).objs.size+1) cs.sc.names cl) {h₄:Heap} (e₄:h₄=pushCells ((s₂.heap.push { cls:=.type "list",data:=.seq #[] }).push { cls:=.type "dict",data:=.dict #[] }) cs.sc.names) :
  s.heap.get? s₂.heap.objs.size=none∧(∀ b o,s.heap.get? b=some o→h₄.get? b=some o)∧(∀ b,OwnA tb cs.wv { cenv with scope:=sc } b→s.heap.get? b=none)∧CInv B tb cs.vis { cenv with scope:=sc } s₂.heap.objs.size (gh s₂.heap.objs.size F) σ (clear cs.wv loc) [] { s₂ with heap:=h₄ }∧IOn B { cenv with scope:=sc } (gh s₂.heap.objs.size F) h₄ I 0 it:=by
 have ne:=Iv.ne
 have dD₂:s₂.heap.get? s₂.heap.objs.size=none:=dead_size _
 have k₃:∀ b o,s.heap.get? b=some o→(s₂.heap.push { cls:=.type "list",data:=.seq #[] }).get? b=some o:=fun b o e=>Heap.get?_push_of_some _ (p.keep b o e)
 have dD:s.heap.get? s₂.heap.objs.size=none:=by
  cases q:s.heap.get? s₂.heap.objs.size with
  | none=>rfl
  | some o=>have:=p.keep _ o q; rw [dD₂] at this; exact noS this
 have hD:(s₂.heap.push { cls:=.type "list",data:=.seq #[] }).get? s₂.heap.objs.size=some { cls:=.type "list",data:=.seq #[] }:=Heap.get?_push_size _ rfl
 have I₃:Inv B (gh s₂.heap.objs.size F) σ { s₂ with heap:=s₂.heap.push { cls:=.type "list",data:=.seq #[] } }:=Iv.addG (p.inv.push _ s₂.toks) k₃ dD ⟨0,hD⟩
 have L₃:LR B tb vis env (gh s₂.heap.objs.size F) loc (s₂.heap.push { cls:=.type "list",data:=.seq #[] }):=L.mv (fun b o ζ e=>k₃ b o e) (.ghost ne k₃ dD) fun b w q=>by
  obtain ⟨z,_,o,e,_⟩:=L.fr w
  rw [gh_flat ne] at q
  rcases List.mem_cons.mp q with rfl | q
  ·rw [dD] at e; exact noS e
  ·exact z q
 refine x0_3 (comp_lr c I₃ L₃ h1 h2 h3 (cenv:=cenv) hl hc (sc:=sc)) fun L₄ own₄ cel₄=>?_
 have k₄:∀ b o,(s₂.heap.push { cls:=.type "list",data:=.seq #[] }).get? b=some o→h₄.get? b=some o:=fun b o e=>e₄▸pushCells_keeps _ _ b o (Heap.get?_push_of_some _ e)
 refine x1_2 (p.itr.live_) fun oI eI ζ=>?_
 have eI₃:(s₂.heap.push { cls:=.type "list",data:=.seq #[] }).get? I=some oI:=Heap.get?_push_of_some _ eI
 refine ⟨dD,fun b o e=>k₄ b o (k₃ b o e),fun b w=>?_,⟨I₃.all k₄ s₂.toks,e₄▸L₄,⟨#[],⟨0,k₄ _ _ hD⟩,.nil⟩,?_,Nat.zero_le _⟩,p.itr.step (fun o e=>k₄ _ o (Heap.get?_push_of_some _ e)) (.ghost ne (fun b o e=>k₄ b o (Heap.get?_push_of_some _ e)) dD₂),fun q=>?_,(Iv.dead p.dead).1,fun b w z=>?_,fun vs ζ=>Nat.zero_le _⟩
 ·cases q:s.heap.get? b with
  | none=>rfl
  | some o =>
   have q':(s₂.heap.push { cls:=.type "list",data:=.seq #[] }).get? b=none:=own₄ b w
   rw [k₃ b o q] at q'; cases q'
 ·refine x2_1 (ne) fun as r hq_231=>?_; subst hq_231; exact ⟨_,rfl,.head _⟩
 ·rw [gh_flat ne] at q
  rcases List.mem_cons.mp q with q | q
  ·rw [q,dD₂] at eI; exact noS eI
  ·exact (Iv.dead p.dead).2 q
 ·subst z
  rcases w with w | ⟨n,w⟩
  ·have q':(s₂.heap.push { cls:=.type "list",data:=.seq #[] }).get? b=none:=own₄ b (.inl w)
   rw [q'] at eI₃; exact noS eI₃
  ·rcases cel₄ n b w with q | q
   ·have q':(s₂.heap.push { cls:=.type "list",data:=.seq #[] }).get? b=none:=q
    rw [q'] at eI₃; exact noS eI₃
   ·refine x1_2 (L.cellLive q) fun o eo ζ=>?_
    rw [p.dead] at eo; exact noS eo
theorem comp_core (cell:Bool) (hh:A.handled=none) (R:ER B gt tb vis wv gl env) {cs:CS} (c:CsP gt tb vis cs) (Iv:Inv B F σ s) (L:LR B tb vis env F loc s.heap) {elt:Expr} {pos p:Pos} {t:Tg} {ie:E} {ifs:List Expr} {gs:List Comprehension} {js:List Nat} {kI:Loc→Sto→Option (Bool × Sto)} {kR:Loc→Sto→List V→Option (List V × Sto)}
  {σ₁:Sto} {n:Nat} {z:Bool × List V × Sto} {use:Option (Value→Sem Unit)} {Q:Value→Shared→Prop} (hg':∀ g',gs[0]?=some g'→g'.is_async=0)
  (hie:∀ x,ie≠.raw x) (hE:EvT B A F s (eval (toE gt tb ie) env) (PE B σ₁ v)) (ei:iterOf σ₁ v=some (it,n)) (ht:∀ i∈tgSlots t,i∈cs.wv) (hj:∀ i∈tgSlots t,i∉js) (hjs:∀ i∈js,i∈cs.wv)
  (hI:∀ cenv:Env,ER B gt tb cs.vis cs.wv cs.gl cenv→IfsOk B A tb cs.vis cenv ifs kI)
  (hR:∀ (cenv:Env) D,ER B gt tb cs.vis cs.wv cs.gl cenv→RestOk B A tb cs.vis cs.wv cenv D elt (⟨toTg tb t,toE gt tb ie,ifs,0⟩ :: gs) cs.sc pos 0 js kR)
  (el:iterate (compStep t (clear cs.wv loc) kI kR) it n 0 [] σ₁=some z)
  (fin:∀ D C G s',CDone B F (newL cell z.2.1 z.2.2).2 (newL cell z.2.1 z.2.2).1 s D C G s'→compPost (model B.prog B.w) A Bot use Q (.ref D) C (.ok .next) s') :
  wpAny (model B.prog B.w) A (comprehension (.ListComp elt (⟨toTg tb t,toE gt tb ie,ifs,0⟩ :: gs) cs.sc pos) cs.sc env p (PySem.newList []) false (eval (toE gt tb ie) env) use) Q Bot s:=by
 obtain ⟨cl,hcl,h1,h2,h3⟩:=closure_ok (scope:=cs.sc) (env:=env) fun x hx e=>by
  refine x1_2 (c.free x hx e) fun i hi q=>?_
  refine x2_2 (L.cel i (c.fr i hi).2) fun c' ζ e' ζ=>?_
  exact ⟨c',by rw [← q]; exact e'⟩
 refine wpAny_comprehension_free rfl (fun x=>folded_ok ie hie x) hcl c.kind (fun x hx e=>mem_lookup c.nds (by rw [← e]; exact hx)) ?_
 refine hE.seq fun x G₁ s₁ T₁ p₁=>?_
 have L₁:=L.step Iv T₁
 refine iter_ok p₁.1 p₁.2 ei fun I s₂ p₂=>?_
 refine wpAny_newList (items:=[]) ?_ (Nat.zero_le _)
 refine compEnv_ok (s:={ s₂ with heap:=s₂.heap.push { cls:=.type "list",data:=.seq #[] } }) fun cenv hl hg hb hc=>?_
 have R₄:=comp_er c R (cenv:=cenv) hg hb
 refine x0_5 (comp_world c p₁.1 L₁ p₂ h1 h2 h3 (sc:=relabel cs.sc env) hl hc rfl) fun dD k₄ own₄ c₄ r₄=>?_
 refine comp_start (dp:=0) (g:=⟨toTg tb t,toE gt tb ie,ifs,0⟩) rfl rfl hh r₄.itr ?_
 refine codeAny_mono (comp_loop hh R₄ (dp:=0) rfl (fun g' e=>hg' g' e) ht hj (hI _ R₄) (hR _ s₂.heap.objs.size R₄) (fun i hi v e=>(clear_get _ _ _ _ e).2 (ht i hi)) (fun i hi v e=>(clear_get _ _ _ _ e).2 (hjs i hi)) n 0 _ σ₁ _ [] z c₄ r₄ el) fun rr s₅ h=>?_
 cases rr with
 | error z=>exact h.elim
 | ok f =>
  obtain ⟨hq_232,G₂,T₅,c₅⟩:=h
  apply q1 hq_232
  have T₁₅:Step B (F++G₁) s₁ G₂ s₅:=by
   refine ⟨fun b o e nw=>T₅.kept b o (k₄ b o e) ?_,fun a ha=>?_⟩
   ·rintro (z | ((z | z) | z))
    ·exact nw (gh_wr z)
    ·rw [own₄ b z] at e; exact noS e
    ·rw [z,dD] at e; exact noS e
    ·rw [z,p₂.dead] at e; exact noS e
   ·cases q:s₁.heap.get? a with
    | none=>rfl
    | some o=>have:=k₄ a o q; rw [T₅.fresh a ha] at this; exact noS this
  refine x1_2 (c₅.lr.lcs) fun m nm ζ=>?_
  refine x1_1 (cdone_of cell (C:=cenv.locals) p₁.1 dD c₅ T₁₅ rfl nm (own₄ _ (.inl rfl))) fun G' cd=>?_
  refine fin s₂.heap.objs.size cenv.locals (G₁++G') s₅ ⟨T₁.trans cd.step cd.pe.1,by rw [← List.append_assoc]; exact cd.pe,cd.ns,?_,by rw [← List.append_assoc]; exact cd.off,cd.h0⟩
  cases q:s.heap.get? cenv.locals with
  | none=>rfl
  | some o =>
   have h1:=cd.dead
   have nw:¬ Wr B F cenv.locals:=by
    rintro (z | z)
    ·have:=cd.off
     rw [List.append_assoc,List.flatten_append,List.mem_append] at this
     exact this (.inl z.mem)
    ·exact LR.notTab Iv cd.h0 z
   rw [T₁.kept _ o q nw] at h1; cases h1
end
end Mine
namespace Mine
open PySem
section
variable {Φ:Calls} {Λ:Lexer} {G:Nat→Option V} {loc loc':Loc} {σ σ':Sto} {p q q1 q2 q3:Pos}
noncomputable def getL (loc:Loc) (i:Nat) (σ:Sto):Option (V × Sto):=(loc[i]?).bind fun o=>o.map fun v=>(v,σ)
theorem getL_zero {v:V} {r:Loc}:getL (some v :: r) 0 σ=some (v,σ):=rfl
theorem getL_succ {o:Option V} {r:Loc} {i:Nat}:getL (o :: r) (i+1) σ=getL r i σ:=rfl
theorem ev_cnone:evM Φ Λ G (.cnone p) false loc σ=some (.none,σ):=rfl
theorem ev_cbool {b:Bool}:evM Φ Λ G (.cbool b p) false loc σ=some (.bool b,σ):=rfl
theorem ev_cint {i:Int}:evM Φ Λ G (.cint i p) false loc σ=some (.int i,σ):=rfl
theorem ev_cstr {l:List Nat}:evM Φ Λ G (.cstr l p) false loc σ=some (.str l,σ):=rfl
theorem ev_var {i:Nat}:evM Φ Λ G (.var i p) false loc σ=getL loc i σ:=rfl
theorem ev_glob {g:Nat}:evM Φ Λ G (.glob g p) false loc σ=(G g).map fun v=>(v,σ):=rfl
theorem ev_bin {op:Operator} {a b:E}:evM Φ Λ G (.bin op a b p) false loc σ=(evM Φ Λ G a false loc σ).bind fun x=>(evM Φ Λ G b false loc x.2).bind fun y=>binop op x.1 y.1 y.2:=rfl
theorem ev_neg {a:E}:evM Φ Λ G (.neg a p) false loc σ=(evM Φ Λ G a false loc σ).bind fun x=>(intV x.1).map fun i=>(.int (-i),x.2):=rfl
theorem ev_cmp {op:CmpOp} {a b:E}:evM Φ Λ G (.cmp op a b p) false loc σ=(evM Φ Λ G a false loc σ).bind fun x=>(evM Φ Λ G b false loc x.2).bind fun y=>(cmpop op x.1 y.1 y.2).map fun c=>(V.bool c,y.2):=rfl
theorem ev_list {c:Bool} {es:EL}:evM Φ Λ G (.list c es p) false loc σ=(evEL Φ Λ G es loc σ).bind fun r=>if r.1.length≤maxLen then some (newL c r.1 r.2) else none:=rfl
theorem ev_tup {es:EL}:evM Φ Λ G (.tup es p) false loc σ=(evEL Φ Λ G es loc σ).map fun r=>(.tup r.1,r.2):=rfl
theorem ev_sub {a i:E}:evM Φ Λ G (.sub a i p) false loc σ=(evM Φ Λ G a false loc σ).bind fun x=>(evM Φ Λ G i false loc x.2).bind fun y=>(subV x.1 y.1 y.2).map fun v=>(v,y.2):=rfl
theorem ev_slice {a:E} {lo hi st:OE}:evM Φ Λ G (.slice a lo hi st q p) false loc σ=(evM Φ Λ G a false loc σ).bind fun x=>(evO Φ Λ G lo loc x.2).bind fun l=>(evO Φ Λ G hi loc l.2).bind fun h=>(evO Φ Λ G st loc h.2).bind fun t=>sliceV x.1 l.1 h.1 t.1 t.2:=rfl
theorem evO_none:evO Φ Λ G .none loc σ=some (.none,σ):=rfl
theorem evO_some {e:E}:evO Φ Λ G (.some e) loc σ=evM Φ Λ G e false loc σ:=rfl
theorem ev_call {g:Nat} {es:EL}:evM Φ Λ G (.call g q es p) false loc σ=(G g).bind fun f=>(evEL Φ Λ G es loc σ).bind fun r=>callV Φ f r.1 r.2:=rfl
theorem ev_callkw {g:Nat} {es:EL} {k:Str} {e:E}:evM Φ Λ G (.callkw g q1 es k e q p) false loc σ=(G g).bind fun f=>(evEL Φ Λ G es loc σ).bind fun r=>(evM Φ Λ G e false loc r.2).bind fun w=>(fnV f).bind fun k=>Φ k (r.1++[w.1]) w.2:=rfl
noncomputable def methR (Λ:Lexer) (m:Me) (x:V) (k:Nat) (vs:List V) (σ:Sto):Option (V × Sto):=if k=2 then (if m.lex then Λ m (x :: vs) σ else none) else methV x m vs σ
theorem ev_meth {o:E} {m:Me} {es:EL}:evM Φ Λ G (.meth o m es q p) false loc σ=(evM Φ Λ G o false loc σ).bind fun x=>(recv x.2 x.1).bind fun k=>(evEL Φ Λ G es loc x.2).bind fun r=>methR Λ m x.1 k r.1 r.2:=rfl
theorem ev_attr {o:E} {t:At}:evM Φ Λ G (.attr o t p) false loc σ=(evM Φ Λ G o false loc σ).bind fun x=>(attrV t x.2 x.1).map fun v=>(v,x.2):=rfl
theorem ev_readc {o:E}:evM Φ Λ G (.readc o q1 q2 q3 p) false loc σ=(evM Φ Λ G o false loc σ).bind fun x=>Λ .count [x.1] x.2:=rfl
theorem ev_fit {o:E} {g:Nat}:evM Φ Λ G (.fit g o q1 q2 q3 p) false loc σ=(G g).bind fun f=>if isIter f then (evM Φ Λ G o false loc σ).bind fun x=>(refV x.1).bind fun i=>fitC i x.2 else none:=rfl
theorem evEL_nil:evEL Φ Λ G .nil loc σ=some ([],σ):=rfl
theorem evEL_cons {e:E} {es:EL}:evEL Φ Λ G (.cons e es) loc σ=(evM Φ Λ G e false loc σ).bind fun x=>(evEL Φ Λ G es loc x.2).map fun r=>(x.1 :: r.1,r.2):=rfl
theorem ev_comp {c:Bool} {e:E} {t:Tg} {it:E} {ifs:EL} {r:CL} {cs:CS}:evM Φ Λ G (.comp c e t it ifs r cs p) false loc σ=(evM Φ Λ G it false (clear (cs.own.map (·.1)) loc) σ).bind fun x=>(iterOf x.2 x.1).bind fun i=>(iterate (compStep t (clear (cs.own.map (·.1)) loc) (fun loc σ=>evIfs Φ Λ G ifs loc σ) (evC Φ Λ G r fun loc σ acc=>(evM Φ Λ G e false loc σ).bind fun v=>if acc.length < maxLen then some (acc++[v.1],v.2) else none)) i.1 i.2 0 [] x.2).map fun y=>newL c y.2.1 y.2.2:=rfl
theorem ev_ife {t a b:E}:evM Φ Λ G (.ife t a b p) false loc σ=(evT Φ Λ G t loc σ).bind fun r=>if r.1 then evM Φ Λ G a false loc r.2 else evM Φ Λ G b false loc r.2:=rfl
theorem evT_ife {t a b:E}:evT Φ Λ G (.ife t a b p) loc σ=asB ((evT Φ Λ G t loc σ).bind fun r=>if r.1 then evM Φ Λ G a true loc r.2 else evM Φ Λ G b true loc r.2):=rfl
theorem evT_cmp2 {op op':CmpOp} {a b c:E}:evM Φ Λ G (.cmp2 op op' a b c p) true loc σ=(evM Φ Λ G a false loc σ).bind fun x=>(evM Φ Λ G b false loc x.2).bind fun y=>(cmpop op x.1 y.1 y.2).bind fun r =>
   if r then (evM Φ Λ G c false loc y.2).bind fun z=>(cmpop op' y.1 z.1 z.2).map fun c=>(.bool c,z.2) else some (.bool false,y.2):=rfl
theorem evT_boolop {op:BoolOp} {es:EL}:evM Φ Λ G (.boolop op es p) true loc σ=(evB Φ Λ G op es loc σ).map fun r=>(V.bool r.1,r.2):=rfl
theorem evB_nil {op:BoolOp}:evB Φ Λ G op .nil loc σ=some (op==.And,σ):=rfl
theorem evB_cons {op:BoolOp} {e:E} {es:EL}:evB Φ Λ G op (.cons e es) loc σ=(evT Φ Λ G e loc σ).bind fun c=>if (op==.And)=c.1 then evB Φ Λ G op es loc c.2 else some c:=rfl
theorem evBV_cons {op:BoolOp} {e:E} {es:EL}:evBV Φ Λ G op (.cons e es) loc σ=(evM Φ Λ G e false loc σ).bind fun v=>if es.isNil then some v else (boolV v.1).bind fun b=>if (op==.And)=b then evBV Φ Λ G op es loc v.2 else some v:=rfl
theorem evIfs_cons {e:E} {es:EL}:evIfs Φ Λ G (.cons e es) loc σ=(evT Φ Λ G e loc σ).bind fun c=>if c.1 then evIfs Φ Λ G es loc c.2 else some c:=rfl
theorem callV_fn {k:Nat} {as:List V}:callV Φ (.fn k) as σ=Φ k as σ:=rfl
theorem callV_bi {b:Bi} {as:List V}:callV Φ (.bi b) as σ=callB b as σ:=rfl
theorem callV_ty {t:Ty} {as:List V}:callV Φ (.ty t) as σ=callT t as σ:=rfl
theorem es_nil:evSL Φ Λ G .nil loc σ=some (.next,loc,σ):=rfl
theorem es_cons {s:S} {r:SL}:evSL Φ Λ G (.cons s r) loc σ=(evS Φ Λ G s loc σ).bind (seqF fun loc σ=>evSL Φ Λ G r loc σ):=rfl
theorem es_assign {t:Tg} {e:E}:evS Φ Λ G (.assign t e p) loc σ=(evM Φ Λ G e false loc σ).bind fun x=>(bindT t x.1 loc x.2).map fun l=>(.next,l,x.2):=rfl
theorem es_assignSub {a i e:E}:evS Φ Λ G (.assignSub a i q e p) loc σ=(evM Φ Λ G e false loc σ).bind fun v=>(evM Φ Λ G a false loc v.2).bind fun x=>(evM Φ Λ G i false loc x.2).bind fun k=>(setV x.1 k.1 v.1 k.2).map fun s=>(.next,loc,s):=rfl
theorem es_aug {i:Nat} {op:Operator} {e:E}:evS Φ Λ G (.aug i q op e p) loc σ=(loc[i]?).bind fun o=>o.bind fun x=>(evM Φ Λ G e false loc σ).bind fun y=>(augop op x y.1 y.2).map fun v=>(.next,loc.set i (some v.1),v.2):=rfl
theorem es_augSub {a i e:E} {op:Operator}:evS Φ Λ G (.augSub a i q op e p) loc σ=(evM Φ Λ G a false loc σ).bind fun x=>(evM Φ Λ G i false loc x.2).bind fun k=>(subV x.1 k.1 k.2).bind fun old=>(evM Φ Λ G e false loc k.2).bind fun y=>(augop op old y.1 y.2).bind fun v=>(setV x.1 k.1 v.1 v.2).map fun s=>(.next,loc,s):=rfl
theorem es_expr {e:E}:evS Φ Λ G (.expr e p) loc σ=(evM Φ Λ G e false loc σ).map fun x=>(.next,loc,x.2):=rfl
theorem es_ret {e:E}:evS Φ Λ G (.ret e p) loc σ=(evM Φ Λ G e false loc σ).map fun x=>(.ret x.1,loc,x.2):=rfl
theorem es_cond {t:E} {a b:SL}:evS Φ Λ G (.cond t a b p) loc σ=(evT Φ Λ G t loc σ).bind fun r=>if r.1 then evSL Φ Λ G a loc r.2 else evSL Φ Λ G b loc r.2:=rfl
theorem es_loop {clr:List Nat} {t:Tg} {it:E} {a b:SL}:evS Φ Λ G (.loop clr t it a b p) loc σ=(evM Φ Λ G it false loc σ).bind fun x=>(iterOf x.2 x.1).bind fun i=>(iterate (loopStep Φ Λ G clr t a) i.1 i.2 0 (Fl.next,loc) x.2).bind (endF fun loc σ=>evSL Φ Λ G b loc σ):=rfl
theorem es_enum {clr:List Nat} {is:List (Nat × Pos)} {g:Nat} {it:E} {a b:SL}:evS Φ Λ G (.enum clr is q1 g q2 it a b q p) loc σ=(G g).bind fun f=>if isEnumT f then (evM Φ Λ G it false loc σ).bind fun x=>(tupV x.1).bind fun xs=>(iterate (loopStep Φ Λ G clr (.tup is q1) a) (.items (enumItems xs)) xs.length 0 (Fl.next,loc) x.2).bind (endF fun loc σ=>evSL Φ Λ G b loc σ) else none:=rfl
theorem es_fitr {fuel i:Nat} {it:E} {a b:SL}:evS Φ Λ G (.fitr fuel i q it a b p) loc σ=(evM Φ Λ G it false loc σ).bind fun x=>(refV x.1).bind fun j=>(fitN (fun v σ=>Λ .read_char [v] σ) (loopStep Φ Λ G [] (.name i q) a) j fuel (Fl.next,loc) x.2).bind (endF fun loc σ=>evSL Φ Λ G b loc σ):=rfl
theorem es_whil {fuel:Nat} {clr:List Nat} {t:E} {a:SL}:evS Φ Λ G (.whil fuel clr t a p) loc σ=whileN (fun loc σ=>evT Φ Λ G t loc σ) (fun loc σ=>(evSL Φ Λ G a loc σ).map (turn clr)) fuel loc σ:=rfl
theorem es_inc {o:E}:evS Φ Λ G (.inc o q1 q2 p) loc σ=(evM Φ Λ G o false loc σ).bind fun x=>(refV x.1).bind fun i=>(incC i x.2).map fun s=>(.next,loc,s):=rfl
theorem es_brk:evS Φ Λ G (.brk p) loc σ=some (.brk,loc,σ):=rfl
theorem es_cont:evS Φ Λ G (.cont p) loc σ=some (.cont,loc,σ):=rfl
theorem bind_name {i:Nat} {v:V}:bindT (.name i p) v loc σ=if i < loc.length then some (loc.set i (some v)) else none:=rfl
end
end Mine
namespace Mine
open PySem
section
variable {α:Type} {B:Base} {A:Around} {F G:Lay} {σ σ':Sto} {s s' s'':Shared} {d:Nat} {v:V} {x:Value} {gt tb:List Str} {env:Env}
theorem Cn.push {P:α→Lay→Shared→Prop} {o:Obj} {a:α} (h:Cn B F { s with heap:=s.heap.push o } P a s''):Cn B F s P a s'':=by
 refine x1_2 (h) fun G T p=>?_
 refine ⟨G,⟨fun b o' e n=>T.kept b o' (Heap.get?_push_of_some o e) n,fun b hb=>?_⟩,p⟩
 cases q:s.heap.get? b with
 | none=>rfl
 | some o' =>
  have:=Heap.get?_push_of_some o q
  rw [T.fresh b hb] at this; exact noS this
theorem up {α:Type} {P:α→Lay→Shared→Prop} {t:Sem α} {s₀:Shared} (hi:HasInv B P) (T:Step B F s G s') (h:wpAny (model B.prog B.w) A t (Cn B (F++G) s' P) Bot s₀):wpAny (model B.prog B.w) A t (Cn B F s P) Bot s₀:=wpAny_mono h (fun ζ ζ q=>q.back hi T) fun ζ ζ z=>z
theorem test_is {r:Option (V × Sto)} {b:Bool} (h:asB (fin true r)=some (b,σ')):∃ v,r=some (v,σ')∧truth σ' v=some b:=by
 refine x1_2 (bind_is h) ?_
 (try clear h)
 intro p h e
 refine x1_2 (bind_is (show (r.bind fun p=>(truth p.2 p.1).map fun b=>(V.bool b,p.2))=some p from h)) ?_
 (try clear h)
 intro q hq_233 h
 apply q1 hq_233
 refine x1_2 (map_is h) fun c et hq_234=>?_
 subst hq_234
 cases e
 exact ⟨q.1,rfl,et⟩
theorem test_def {e:Expr} {r:Option (V × Sto)} {b:Bool} (he:PySem.isTrue e env (eval e env)=(do let v ← eval e env; standAt e.pos; holding [v] (truthy v))) (h:∀ v σ',r=some (v,σ')→EvT B A F s (eval e env) (PE B σ' v))
  (hb:asB (fin true r)=some (b,σ')):EvT B A F s (PySem.isTrue e env (eval e env)) (PB B σ' b):=by
 refine x1_2 (test_is hb) fun v er et=>?_
 exact wpAny_isTrue_value (seqK (hasB _ _ _) (h v _ er) fun x G s₁ T p=>truth_ok p.1 p.2 et) he
end
section
variable {B:Base} {A:Around} {d:Nat} {Φ:Calls} {Λ:Lexer} {Gv:Nat→Option V} {gt:List Str} {mk:Me→Nat} {kws:Nat→Str→Bool} (K:Kit B A d Φ Λ Gv gt mk kws) (tb:List Str)
noncomputable def JE (B:Base) (A:Around) (Φ:Calls) (Λ:Lexer) (Gv:Nat→Option V) (gt tb:List Str) (kws:Nat→Str→Bool) (e:E):Prop :=
 ∀ vis wv gl env loc F σ s,wfE gt tb kws Gv vis gl e=true→ER B gt tb vis wv gl env→Inv B F σ s→LR B tb vis env F loc s.heap →
  (∀ v σ',evM Φ Λ Gv e false loc σ=some (v,σ')→EvT B A F s (eval (toE gt tb e) env) (PE B σ' v)) ∧
  (∀ b σ',asB (evM Φ Λ Gv e true loc σ)=some (b,σ')→EvT B A F s (PySem.isTrue (toE gt tb e) env (eval (toE gt tb e) env)) (PB B σ' b))
theorem JE.by {e:E} (hf:∀ loc σ m,evM Φ Λ Gv e m loc σ=fin m (evM Φ Λ Gv e false loc σ))
  (he:∀ env,PySem.isTrue (toE gt tb e) env (eval (toE gt tb e) env)=(do let v ← eval (toE gt tb e) env; standAt (toE gt tb e).pos; holding [v] (truthy v)))
  (h:∀ vis wv gl env loc F σ s,wfE gt tb kws Gv vis gl e=true→ER B gt tb vis wv gl env→Inv B F σ s→LR B tb vis env F loc s.heap→∀ v σ',evM Φ Λ Gv e false loc σ=some (v,σ')→EvT B A F s (eval (toE gt tb e) env) (PE B σ' v)) :
  JE B A Φ Λ Gv gt tb kws e:=fun vis wv gl env loc F σ s hw R I L =>
 ⟨h vis wv gl env loc F σ s hw R I L,fun b σ' q=>test_def (he env) (h vis wv gl env loc F σ s hw R I L) ((congrArg asB (hf loc σ true)).symm.trans q)⟩
noncomputable def JEL (B:Base) (A:Around) (Φ:Calls) (Λ:Lexer) (Gv:Nat→Option V) (gt tb:List Str) (kws:Nat→Str→Bool) (es:EL):Prop :=
 ∀ vis wv gl env loc F σ s,wfEL gt tb kws Gv vis gl es=true→ER B gt tb vis wv gl env→Inv B F σ s→LR B tb vis env F loc s.heap →
  (∀ pos vs σ',evEL Φ Λ Gv es loc σ=some (vs,σ')→EvT B A F s (spliced (backTo pos (starEach (toEL gt tb es) env))) (PEs B σ' vs)) ∧
  (∀ op b σ',evB Φ Λ Gv op es loc σ=some (b,σ')→EvT B A F s (allTrue op (toEL gt tb es) env) (PB B σ' b)) ∧
  (∀ pos op v σ',evBV Φ Λ Gv op es loc σ=some (v,σ')→EvT B A F s (boolOp pos op (evalEach (toEL gt tb es) env)) (PE B σ' v)) ∧
  (∀ b σ',evIfs Φ Λ Gv es loc σ=some (b,σ')→EvT B A F s (forIn (toEL gt tb es) true (ifsBody env)) (PB B σ' b))
noncomputable def JO (B:Base) (A:Around) (Φ:Calls) (Λ:Lexer) (Gv:Nat→Option V) (gt tb:List Str) (kws:Nat→Str→Bool) (o:OE):Prop :=
 ∀ vis wv gl env loc F σ s,wfO gt tb kws Gv vis gl o=true→ER B gt tb vis wv gl env→Inv B F σ s→LR B tb vis env F loc s.heap →
  ∀ v σ',evO Φ Λ Gv o loc σ=some (v,σ')→EvT B A F s (evalPart (toOE gt tb o) env) (PE B σ' v)
theorem vis_mem {vis:List (Nat × Bool)} {i:Nat} (h:vis.any (·.1==i)=true):∃ c,(i,c)∈vis:=by
 refine xP1_2 (List.any_eq_true.mp h) fun j c hm e=>?_
 have:j=i:=eq_of_beq e
 subst this; exact ⟨c,hm⟩
include K in
theorem je_var (i:Nat) (p:Pos):JE B A Φ Λ Gv gt tb kws (.var i p):=by
 refine .by tb (fun ζ ζ ζ=>rfl) (fun ζ=>rfl) ?_
 intro vis wv gl env loc F σ s hw R I L v σ' e
 refine x1_2 (bind_is (ev_var.symm.trans e)) ?_
 (try clear e)
 intro o q e
 refine x1_2 (map_is e) ?_
 (try clear e)
 intro u hq_235 e
 subst hq_235
 cases e
 refine x1_1 (vis_mem hw) fun c hc=>?_
 exact wpAny_Name (var_ok R L hc q fun x r=>evRet I r) (R.dbg i c hc).1
include K in
theorem je_glob (g:Nat) (p:Pos):JE B A Φ Λ Gv gt tb kws (.glob g p):=by
 refine .by tb (fun ζ ζ ζ=>rfl) (fun ζ=>rfl) ?_
 intro vis wv gl env loc F σ s hw R I L v σ' e
 have e:=ev_glob.symm.trans e
 refine x1_2 (map_is e) ?_
 (try clear e)
 intro u q e
 apply p2 e
 exact glob_ok K.bok K.gr I R (List.contains_iff_mem.mp hw) q fun x r=>evRet I r
include K in
theorem je_bin {a b:E} (ha:JE B A Φ Λ Gv gt tb kws a) (hb:JE B A Φ Λ Gv gt tb kws b) (op:Operator) (p:Pos):JE B A Φ Λ Gv gt tb kws (.bin op a b p):=by
 refine .by tb (fun ζ ζ ζ=>rfl) (fun ζ=>rfl) ?_
 intro vis wv gl env loc F σ s hw R I L v σ' e
 have e:=ev_bin.symm.trans e
 have hw:=bA1 hw
 refine xP1_2 (bind_is e) ?_; (try clear e); intro va σ₁ ea e
 refine xP1_2 (bind_is e) ?_; (try clear e); intro vb σ₂ eb e
 refine wpAny_BinOp (((ha vis wv gl env loc F σ s hw.1 R I L).1 va σ₁ ea).seq fun x G₁ s₁ T₁ p₁=>?_)
 refine ((hb vis wv gl env loc _ σ₁ s₁ hw.2 R p₁.1 (L.step I T₁)).1 vb σ₂ eb).seq fun y G₂ s₂ T₂ p₂=>?_
 exact up (hasE _ _ _) T₁ (up (hasE _ _ _) T₂ (bin_ok K.room p₂.1 (p₁.2.step (T₂.imk p₁.1)) p₂.2 e))
include K in
theorem je_neg {a:E} (ha:JE B A Φ Λ Gv gt tb kws a) (p:Pos):JE B A Φ Λ Gv gt tb kws (.neg a p):=by
 refine .by tb (fun ζ ζ ζ=>rfl) (fun ζ=>rfl) ?_
 intro vis wv gl env loc F σ s hw R I L v σ' e
 refine xP1_2 (bind_is (ev_neg.symm.trans e)) ?_; (try clear e); intro va σ₁ ea e
 refine x1_2 (map_is e) ?_
 (try clear e)
 intro i hi e
 apply p2 e
 refine wpAny_UnaryOp (seqK (hasE _ _ _) ((ha vis wv gl env loc F σ s hw R I L).1 _ _ ea) fun x G₁ s₁ T₁ p₁=>?_)
 refine x1_1 (p₁.2.ofInt hi) fun t hq_236=>?_
 apply q1 hq_236
 exact PySem.P.neg_int (evTok _ p₁.1 (.int _ _))
theorem cmp_test {B:Base} {A:Around} {F:Lay} {σ:Sto} {s:Shared} {c:Bool} {x:Value} (p:PE B σ (.bool c) x F s):EvT B A F s (truthy x) (PB B σ c):=truth_ok p.1 p.2 rfl
theorem no_marks {e:E} (h:∀ x,e≠.raw x) (op:CmpOp):behindInMarks op (toE gt tb e)=false:=by
 cases e <;> first | rfl | exact absurd rfl (h _)
include K in
theorem cmp_main {a b:E} (ha:JE B A Φ Λ Gv gt tb kws a) (hb:JE B A Φ Λ Gv gt tb kws b) {op:CmpOp} {p:Pos} {vis wv gl env loc F σ s} (hw:wfE gt tb kws Gv vis gl (.cmp op a b p)=true) (R:ER B gt tb vis wv gl env) (I:Inv B F σ s) (L:LR B tb vis env F loc s.heap) {v:V} {σ':Sto} (e:evM Φ Λ Gv (.cmp op a b p) false loc σ=some (v,σ')):(∃ c,v=.bool c) ∧
   wpAny (model B.prog B.w) A (eval (toE gt tb a) env) (fun x s₁=>wpAny (model B.prog B.w) A (eval (toE gt tb b) env) (fun y s₂=>wpAny (model B.prog B.w) A (compareOp op x y) (Cn B F s (PE B σ' v)) Bot s₂) Bot s₁) Bot s:=by
 have hw:=bA1 hw
 refine xP1_2 (bind_is (ev_cmp.symm.trans e)) ?_; (try clear e); intro va σ₁ ea e
 refine xP1_2 (bind_is e) ?_; (try clear e); intro vb σ₂ eb e
 refine x1_2 (map_is e) ?_
 (try clear e)
 intro c' ec e
 apply p2 e
 refine ⟨⟨_,rfl⟩,((ha vis wv gl env loc F σ s hw.1 R I L).1 va σ₁ ea).seq fun x G₁ s₁ T₁ p₁=>?_⟩
 refine ((hb vis wv gl env loc _ σ₁ s₁ hw.2 R p₁.1 (L.step I T₁)).1 vb _ eb).seq fun y G₂ s₂ T₂ p₂=>?_
 exact up (hasE _ _ _) T₁ (up (hasE _ _ _) T₂ (cmp_ok K.room p₂.1 (p₁.2.step (T₂.imk p₁.1)) p₂.2 ec))
include K in
theorem je_cmp {a b:E} (ha:JE B A Φ Λ Gv gt tb kws a) (hb:JE B A Φ Λ Gv gt tb kws b) (op:CmpOp) (p:Pos):JE B A Φ Λ Gv gt tb kws (.cmp op a b p):=by
 intro vis wv gl env loc F σ s hw R I L
 have hm:=no_marks (gt:=gt) tb (wf_raw (bA1 hw).2) op
 refine ⟨fun v σ' e=>?_,fun bb σ' e=>?_⟩
 ·exact wpAny_Compare1 (cmp_main K tb ha hb hw R I L e).2 hm
 ·refine x1_2 (test_is (r:=evM Φ Λ Gv (.cmp op a b p) false loc σ) e) fun v er et=>?_
  obtain ⟨⟨c,rfl⟩,h⟩:=cmp_main K tb ha hb hw R I L er
  apply s1 et
  refine wpAny_isTrue_Compare1 (wpAny_mono h (fun x s₁ h₁=>wpAny_mono h₁ (fun y s₂ h₂=>wpAny_mono h₂ (fun z s₃ ⟨G,T,q⟩=>?_) fun ζ ζ z=>z) fun ζ ζ z=>z) fun ζ ζ z=>z) hm
  exact up (hasB _ _ _) T (cmp_test q)
end
end Mine
namespace Mine
open PySem
section
variable {B:Base} {A:Around} {d:Nat} {Φ:Calls} {Λ:Lexer} {Gv:Nat→Option V} {gt:List Str} {mk:Me→Nat} {kws:Nat→Str→Bool} (K:Kit B A d Φ Λ Gv gt mk kws) (tb:List Str)
theorem bind_some {α β:Type} {o:Option α} {f:α→Option β} {x:α} {y:β} (h:o=some x) (e:f x=some y):o.bind f=some y:=by rw [h]; exact e
theorem Cn.here {α:Type} {F:Lay} {s:Shared} {P:α→Lay→Shared→Prop} {a:α} (p:P a F s):Cn B F s P a s:=⟨[],.refl _ _ _,by rw [List.append_nil]; exact p⟩
theorem je_cnone (p:Pos):JE B A Φ Λ Gv gt tb kws (.cnone p) :=
 .by tb (fun ζ ζ ζ=>rfl) (fun ζ=>rfl) fun vis wv gl env loc F σ s hw R I L v σ' e=>by
  apply s2 e; exact wpAny_Constant_none (evRet I .none)
theorem je_cbool (b:Bool) (p:Pos):JE B A Φ Λ Gv gt tb kws (.cbool b p) :=
 .by tb (fun ζ ζ ζ=>rfl) (fun ζ=>rfl) fun vis wv gl env loc F σ s hw R I L v σ' e=>by
  apply s2 e; exact wpAny_Constant_bool (evRet I (.bool b))
theorem je_cint (i:Int) (p:Pos):JE B A Φ Λ Gv gt tb kws (.cint i p) :=
 .by tb (fun ζ ζ ζ=>rfl) (fun ζ=>rfl) fun vis wv gl env loc F σ s hw R I L v σ' e=>by
  apply s2 e; exact wpAny_Constant_int (evTok _ I (.int i _))
theorem je_cstr (l:List Nat) (p:Pos):JE B A Φ Λ Gv gt tb kws (.cstr l p) :=
 .by tb (fun ζ ζ ζ=>rfl) (fun ζ=>rfl) fun vis wv gl env loc F σ s hw R I L v σ' e=>by
  apply s2 e; exact wpAny_Constant_str (evTok _ I (.str _ rfl (of_decide_eq_true hw)))
theorem JE.no {e:E} {x:Expr} (h:e=.raw x):JE B A Φ Λ Gv gt tb kws e:=by
 intro vis wv gl env loc F σ s hw
 exact absurd h (wf_raw hw x)
include K in
theorem je_cmp2 {a b c:E} (ha:JE B A Φ Λ Gv gt tb kws a) (hb:JE B A Φ Λ Gv gt tb kws b) (hc:JE B A Φ Λ Gv gt tb kws c) (op op':CmpOp) (p:Pos):JE B A Φ Λ Gv gt tb kws (.cmp2 op op' a b c p):=by
 intro vis wv gl env loc F σ s hw R I L
 refine ⟨fun v σ' e=>(by cases e),fun bb σ' e=>?_⟩
 have hw:=bA2 hw
 refine x1_2 (bind_is e) ?_
 (try clear e)
 intro w e ew
 refine xP1_2 (bind_is (evT_cmp2.symm.trans e)) ?_; (try clear e); intro va σ₁ ea e
 refine xP1_2 (bind_is e) ?_; (try clear e); intro vb σ₂ eb e
 refine x1_2 (bind_is e) ?_
 (try clear e)
 intro cc ec e
 refine PyProof.Rows.isTrue_chain (((ha vis wv gl env loc F σ s hw.1.1 R I L).1 va σ₁ ea).seq fun x G₁ s₁ T₁ p₁=>?_) (no_marks tb (wf_raw hw.2) op')
 have L₁:=L.step I T₁
 refine PyProof.Rows.test_link (((hb vis wv gl env loc _ σ₁ s₁ hw.1.2 R p₁.1 L₁).1 vb σ₂ eb).seq fun y G₂ s₂ T₂ p₂=>?_)
 refine (cmp_ok K.room p₂.1 (p₁.2.step (T₂.imk p₁.1)) p₂.2 ec).seq fun z G₃ s₃ T₃ p₃=>(cmp_test p₃).seq fun tt G₄ s₄ T₄ p₄=>?_
 have T₃₄:=T₃.trans T₄ p₄.1
 rw [p₄.2]
 have I₄:=p₄.1
 rw [List.append_assoc] at I₄
 cases cc with
 | false =>
  rw [if_neg (by decide)] at e ⊢
  cases e; cases ew
  exact (((Cn.here (P:=PB B _ false) ⟨I₄,rfl⟩).back (hasB _ _ _) T₃₄).back (hasB _ _ _) T₂).back (hasB _ _ _) T₁
 | true =>
  rw [if_pos rfl] at e ⊢
  refine xP1_2 (bind_is e) ?_; (try clear e); intro vz σ₃ ez e
  refine x1_2 (map_is e) fun u eu hq_237=>?_
  subst hq_237
  cases ew
  refine PyProof.Rows.test_last (((hc vis wv gl env loc _ σ₂ s₄ hw.2 R I₄ ((L₁.step p₁.1 T₂).step p₂.1 T₃₄)).1 vz _ ez).seq fun q G₅ s₅ T₅ p₅=>?_)
  refine (cmp_ok K.room p₅.1 ((p₂.2.step (T₃₄.imk p₂.1)).step (T₅.imk I₄)) p₅.2 eu).seq fun q G₆ s₆ T₆ p₆=>?_
  exact up (hasB _ _ _) T₁ (up (hasB _ _ _) T₂ (up (hasB _ _ _) T₃₄ (up (hasB _ _ _) T₅ (up (hasB _ _ _) T₆ (cmp_test p₆)))))
theorem je_boolop {es:EL} (hs:JEL B A Φ Λ Gv gt tb kws es) (op:BoolOp) (p:Pos):JE B A Φ Λ Gv gt tb kws (.boolop op es p):=by
 intro vis wv gl env loc F σ s hw R I L
 refine x0_4 (hs vis wv gl env loc F σ s hw R I L) fun ζ h2 h3 ζ=>?_
 refine ⟨fun v σ' e=>?_,fun bb σ' e=>?_⟩
 ·show EvT B A F s (eval (.BoolOp op (toEL gt tb es) p) env) _
  rw [arm_eval_BoolOp]
  exact h3 p op v σ' e
 ·refine x1_2 (bind_is e) ?_
  (try clear e)
  intro w e ew
  refine x1_2 (map_is (evT_boolop.symm.trans e)) fun c q hq_238=>?_
  subst hq_238
  cases ew
  exact wpAny_isTrue_BoolOp (h2 op _ _ q)
theorem je_ife {t a b:E} (ht:JE B A Φ Λ Gv gt tb kws t) (ha:JE B A Φ Λ Gv gt tb kws a) (hb:JE B A Φ Λ Gv gt tb kws b) (p:Pos):JE B A Φ Λ Gv gt tb kws (.ife t a b p):=by
 intro vis wv gl env loc F σ s hw R I L
 have hw:=bA2 hw
 refine ⟨fun v σ' e=>?_,fun bb σ' e=>?_⟩
 ·refine xP1_2 (bind_is (ev_ife.symm.trans e)) ?_; (try clear e); intro c σ₁ et e
  refine wpAny_IfExp (((ht vis wv gl env loc F σ s hw.1.1 R I L).2 c σ₁ et).seq fun c' G₁ s₁ T₁ p₁=>?_)
  refine x0_2 (p₁) fun I₁ hq_239=>?_
  subst hq_239
  cases c' with
  | true=>exact up (hasE _ _ _) T₁ ((ha vis wv gl env loc _ σ₁ s₁ hw.1.2 R I₁ (L.step I T₁)).1 v σ' e)
  | false=>exact up (hasE _ _ _) T₁ ((hb vis wv gl env loc _ σ₁ s₁ hw.2 R I₁ (L.step I T₁)).1 v σ' e)
 ·refine x1_2 (bind_is (evT_ife.symm.trans e)) ?_
  (try clear e)
  intro w e ew
  refine xP1_2 (bind_is e) ?_; (try clear e); intro c σ₁ et e
  show wpAny _ _ (PySem.isTrue (.IfExp (toE gt tb t) (toE gt tb a) (toE gt tb b) p) env _) _ _ _
  rw [arm_isTrue_IfExp]
  refine wpAny_bind (((ht vis wv gl env loc F σ s hw.1.1 R I L).2 c σ₁ et).seq fun c' G₁ s₁ T₁ p₁=>?_)
  refine x0_2 (p₁) fun I₁ hq_240=>?_
  subst hq_240
  cases c' with
  | true=>exact up (hasB _ _ _) T₁ ((ha vis wv gl env loc _ σ₁ s₁ hw.1.2 R I₁ (L.step I T₁)).2 bb σ' (bind_some e ew))
  | false=>exact up (hasB _ _ _) T₁ ((hb vis wv gl env loc _ σ₁ s₁ hw.2 R I₁ (L.step I T₁)).2 bb σ' (bind_some e ew))
theorem jel_nil:JEL B A Φ Λ Gv gt tb kws .nil:=by
 intro vis wv gl env loc F σ s hw R I L
 refine ⟨fun pos vs σ' e=>?_,fun op b σ' e=>?_,fun pos op v σ' e=>(by cases e),fun b σ' e=>?_⟩
 ·apply s2 e; exact Calls.spliced_nil (Cn.here (P:=PEs B _ []) ⟨I,.nil⟩)
 ·apply s2 e; exact wpAny_pure (Cn.here (P:=PB B _ _) ⟨I,rfl⟩)
 ·apply s2 e
  show wpAny _ _ (forIn [] true (ifsBody env)) _ _ s
  rw [List.forIn_nil]
  exact wpAny_pure (Cn.here (P:=PB B _ _) ⟨I,rfl⟩)
theorem ifs_false {M:Model} {s:Shared} {env:Env} {E:Value→Shared→Prop} {Q:Bool→Shared→Prop} (h:Q false s):∀ l:List Expr,wpAny M A (forIn l false (ifsBody env)) Q E s
 | []=>by rw [List.forIn_nil]; exact wpAny_pure h
 | c :: l=>by
  rw [List.forIn_cons]
  unfold ifsBody
  rw [if_neg (by decide)]
  exact wpAny_bind (wpAny_pure (ifs_false h l))
theorem all_cons {M:Model} {s:Shared} {env:Env} {E:Value→Shared→Prop} {op:BoolOp} {x:Expr} {r:List Expr} {Q:Bool→Shared→Prop} (h:wpAny M A (PySem.isTrue x env (eval x env)) (fun c s₁=>if (op==.And)=c then wpAny M A (allTrue op r env) Q E s₁ else Q c s₁) E s):wpAny M A (allTrue op (x :: r) env) Q E s:=by
 cases op with
 | And=>exact wpAny_allTrue_And_cons (wpAny_mono h (fun c s₁ h=>by cases c <;> exact h) fun ζ ζ z=>z)
 | Or=>exact wpAny_allTrue_Or_cons (wpAny_mono h (fun c s₁ h=>by cases c <;> exact h) fun ζ ζ z=>z)
theorem bool_cons {M:Model} {s:Shared} {E:Value→Shared→Prop} {op:BoolOp} {pos:Pos} {t t':Sem Value} {r:List (Sem Value)} {Q:Value→Shared→Prop} (h:wpAny M A t (fun x s₁=>wpAny M A (truthy x) (fun c s₂=>if (op==.And)=c then wpAny M A (boolOp pos op (t' :: r)) Q E s₂ else Q x s₂) E s₁) E s):wpAny M A (boolOp pos op (t :: t' :: r)) Q E s:=by
 show wpAny M A (do
  let v ← t
  standAt pos
  let t ← holding [v] (truthy v)
  match op,t with
  | .And,false | .Or,true=>pure v
  | _,_=>boolOp pos op (t' :: r)) Q E s
 refine wpAny_bind (wpAny_mono h (fun x s₁ h₁=>wpAny_bind (wpAny_standAt (wpAny_bind (wpAny_holding (wpAny_mono h₁ (fun c s₂ h₂=>?_) fun ζ ζ z=>z))))) fun ζ ζ z=>z)
 cases op <;> cases c <;> first | exact h₂ | exact wpAny_pure h₂
theorem jel_cons {a:E} {es:EL} (ha:JE B A Φ Λ Gv gt tb kws a) (hs:JEL B A Φ Λ Gv gt tb kws es):JEL B A Φ Λ Gv gt tb kws (.cons a es):=by
 intro vis wv gl env loc F σ s hw R I L
 have hw:=bA1 hw
 have hA:=ha vis wv gl env loc F σ s hw.1 R I L
 have hS:=fun {G σ₁ s₁} (T:Step B F s G s₁) (I₁:Inv B (F++G) σ₁ s₁)=>hs vis wv gl env loc (F++G) σ₁ s₁ hw.2 R I₁ (L.step I T)
 refine ⟨fun pos vs σ' e=>?_,fun op b σ' e=>?_,fun pos op v σ' e=>?_,fun b σ' e=>?_⟩
 ·refine xP1_2 (bind_is (evEL_cons.symm.trans e)) ?_; (try clear e); intro va σ₁ ea e
  refine xP1_2 (map_is e) ?_; (try clear e); intro vs' σ₂ es' e
  apply p2 e
  show EvT B A F s (spliced (backTo pos (starEach (toE gt tb a :: toEL gt tb es) env))) _
  rw [star_cons a (wf_raw hw.1),back_cons]
  refine Calls.spliced_cons ((hA.1 va σ₁ ea).seq fun x G₁ s₁ T₁ p₁=>((hS T₁ p₁.1).1 pos vs' _ es').seq fun xs G₂ s₂ T₂ p₂=>?_)
  exact ((Cn.here (P:=PEs B _ (va :: vs')) ⟨p₂.1,.cons (p₁.2.step (T₂.imk p₁.1)) p₂.2⟩).back (hasEs _ _ _) T₂).back (hasEs _ _ _) T₁
 ·refine xP1_2 (bind_is (evB_cons.symm.trans e)) ?_; (try clear e); intro c σ₁ ea e
  refine all_cons ((hA.2 c σ₁ ea).seq fun c' G₁ s₁ T₁ p₁=>?_)
  rw [p₁.2]
  by_cases hc:(op==.And)=c
  ·rw [if_pos hc] at e ⊢
   exact up (hasB _ _ _) T₁ ((hS T₁ p₁.1).2.1 op b σ' e)
  ·rw [if_neg hc] at e ⊢
   apply s2 e; exact ⟨G₁,T₁,p₁.1,rfl⟩
 ·refine xP1_2 (bind_is (evBV_cons.symm.trans e)) ?_; (try clear e); intro va σ₁ ea e
  cases es with
  | nil=>apply s2 e; exact hA.1 _ _ ea
  | cons a2 es2 =>
   refine x1_2 (bind_is (show ((boolV va).bind fun b=>if (op==.And)=b then evBV Φ Λ Gv op (.cons a2 es2) loc σ₁ else some (va,σ₁))=some (v,σ') from e)) ?_
   (try clear e)
   intro c hc e
   have hv:=boolV_is hc
   subst hv
   refine bool_cons ((hA.1 _ σ₁ ea).seq fun x G₁ s₁ T₁ p₁=>(cmp_test p₁).seq fun tt G₂ s₂ T₂ p₂=>?_)
   have T:=T₁.trans T₂ p₂.1
   have I₂:=p₂.1
   rw [List.append_assoc] at I₂
   rw [p₂.2]
   by_cases hc:(op==.And)=c
   ·rw [if_pos hc] at e ⊢
    exact up (hasE _ _ _) T ((hS T I₂).2.2.1 pos op v σ' e)
   ·rw [if_neg hc] at e ⊢
    apply s2 e
    exact ((Cn.here (P:=PE B _ (.bool c)) ⟨p₂.1,p₁.2.step (T₂.imk p₁.1)⟩).back (hasE _ _ _) T₂).back (hasE _ _ _) T₁
 ·refine xP1_2 (bind_is (evIfs_cons.symm.trans e)) ?_; (try clear e); intro c σ₁ ea e
  show wpAny _ _ (forIn (toE gt tb a :: toEL gt tb es) true (ifsBody env)) _ _ s
  rw [List.forIn_cons]
  unfold ifsBody
  rw [if_pos rfl]
  refine wpAny_bind (wpAny_bind ((hA.2 c σ₁ ea).seq fun c' G₁ s₁ T₁ p₁=>wpAny_pure ?_))
  rw [p₁.2]
  cases c with
  | true=>exact up (hasB _ _ _) T₁ ((hS T₁ p₁.1).2.2.2 b σ' e)
  | false=>apply s2 e; exact ifs_false ⟨G₁,T₁,p₁.1,rfl⟩ _
end
end Mine
namespace Mine
open PySem
theorem evEL_len {Φ:Calls} {Λ:Lexer} {Gv:Nat→Option V}:∀ {es:EL} {loc:Loc} {σ σ':Sto} {vs:List V},evEL Φ Λ Gv es loc σ=some (vs,σ')→vs.length=es.len
 | .nil,_,_,_,_,e=>by cases e; rfl
 | .cons a es,loc,σ,σ',vs,e=>by
  refine x1_2 (bind_is (evEL_cons.symm.trans e)) ?_
  (try clear e)
  intro p _ e
  refine x1_2 (map_is e) ?_
  (try clear e)
  intro q h e
  apply p2 e
  exact congrArg Nat.succ (evEL_len h)
section
variable {B:Base} {A:Around} {d:Nat} {Φ:Calls} {Λ:Lexer} {Gv:Nat→Option V} {gt:List Str} {mk:Me→Nat} {kws:Nat→Str→Bool} (K:Kit B A d Φ Λ Gv gt mk kws) (tb:List Str)
theorem VR.along {F G:Lay} {σ:Sto} {s s':Shared} {v:V} {x:Value} (r:VR B.fa s.heap F v x) (I:Inv B F σ s) (T:Step B F s G s'):VR B.fa s'.heap (F++G) v x:=r.step (T.imk I)
theorem VRs.along {F G:Lay} {σ:Sto} {s s':Shared} {v:List V} {x:List Value} (r:VRs B.fa s.heap F v x) (I:Inv B F σ s) (T:Step B F s G s'):VRs B.fa s'.heap (F++G) v x:=r.step (T.imk I)
theorem je_list (cell:Bool) {es:EL} (hs:JEL B A Φ Λ Gv gt tb kws es) (p:Pos):JE B A Φ Λ Gv gt tb kws (.list cell es p):=by
 refine .by tb (fun ζ ζ ζ=>rfl) (fun ζ=>rfl) ?_
 intro vis wv gl env loc F σ s hw R I L v σ' e
 refine xP1_2 (bind_is (ev_list.symm.trans e)) ?_; (try clear e); intro vs σ₁ es' e
 refine x0_2 (ite_is e) ?_
 (try clear e)
 intro hz e
 have hv:v=(newL cell vs σ₁).1:=congrArg Prod.fst e.symm
 have hs':σ'=(newL cell vs σ₁).2:=congrArg Prod.snd e.symm
 rw [hv,hs']
 exact wpAny_List_spliced (((hs vis wv gl env loc F σ s (bA1 hw).1 R I L).1 p vs _ es').seq fun xs G₁ s₁ T₁ p₁=>⟨by rw [← p₁.2.length]; exact len_line hz,Cn.back (hasE _ _ _) T₁ (evNew cell (items:=xs.toArray) (tk:=s₁.toks) p₁.1 p₁.2 hz)⟩)
theorem je_tup {es:EL} (hs:JEL B A Φ Λ Gv gt tb kws es) (p:Pos):JE B A Φ Λ Gv gt tb kws (.tup es p):=by
 refine .by tb (fun ζ ζ ζ=>rfl) (fun ζ=>rfl) ?_
 intro vis wv gl env loc F σ s hw R I L v σ' e
 have e:=ev_tup.symm.trans e
 have hw:_∧_:=⟨(bA1 hw).1,of_decide_eq_true (bA1 hw).2⟩
 refine xP1_2 (map_is e) ?_; (try clear e); intro vs σ₁ es' e
 apply p2 e
 have hl:=evEL_len es'
 refine wpAny_Tuple_spliced (((hs vis wv gl env loc F σ s hw.1 R I L).1 p vs _ es').seq fun xs G₁ s₁ T₁ p₁=>⟨?_,?_⟩)
 ·rw [← p₁.2.length,hl]; exact Nat.le_trans hw.2 (by decide)
 ·refine Cn.back (hasE _ _ _) T₁ ?_
  exact evPush (tk:=s₁.toks) p₁.1 (.tup (items:=xs.toArray) (n:=0) (Heap.get?_push_size _ rfl) (p₁.2.step (.push _ _ _)) (by rw [hl]; exact Nat.le_trans hw.2 (by decide)))
theorem VR.ofIter {fa:Nat→Addr} {h:Heap} {F:Lay} {v:V} {x:Value} (r:VR fa h F v x) (e:isIter v=true):x=.builtin "iter":=by
 cases v with
 | bi b=>cases b <;> first | exact r.bi_is | exact noT e
 | _=>exact noT e
theorem no_slice {b:E} (h:∀ x,b≠.raw x) (x y:Value):subscripted (toE gt tb b) false x y=operate [x,y] (getItem x y):=by
 cases b <;> first | rfl | exact absurd rfl (h _)
theorem je_sub {a b:E} (ha:JE B A Φ Λ Gv gt tb kws a) (hb:JE B A Φ Λ Gv gt tb kws b) (p:Pos):JE B A Φ Λ Gv gt tb kws (.sub a b p):=by
 refine .by tb (fun ζ ζ ζ=>rfl) (fun ζ=>rfl) ?_
 intro vis wv gl env loc F σ s hw R I L v σ' e
 have e:=ev_sub.symm.trans e
 have hw:=bA1 hw
 refine xP1_2 (bind_is e) ?_; (try clear e); intro va σ₁ ea e
 refine xP1_2 (bind_is e) ?_; (try clear e); intro vb σ₂ eb e
 refine x1_2 (map_is e) ?_
 (try clear e)
 intro u ec e
 apply p2 e
 refine PyProof.Rows.Subscript_ (((ha vis wv gl env loc F σ s hw.1 R I L).1 va σ₁ ea).seq fun x G₁ s₁ T₁ p₁=>?_)
 refine ((hb vis wv gl env loc _ σ₁ s₁ hw.2 R p₁.1 (L.step I T₁)).1 vb _ eb).seq fun y G₂ s₂ T₂ p₂=>?_
 obtain ⟨h1,T,id,hT,hl⟩:=sub_ok (A:=A) p₂.1 (p₁.2.step (T₂.imk p₁.1)) p₂.2 ec
 refine PyProof.Rows.tail_any (ops:=[x,y]) hT hl (up (hasE _ _ _) T₁ (up (hasE _ _ _) T₂ h1)) (no_slice tb (wf_raw hw.2) x y)
theorem jo_none:JO B A Φ Λ Gv gt tb kws .none:=by
 intro vis wv gl env loc F σ s hw R I L v σ' e
 apply s2 e
 exact wpAny_evalPart_none (evRet I .none)
theorem jo_some {a:E} (ha:JE B A Φ Λ Gv gt tb kws a):JO B A Φ Λ Gv gt tb kws (.some a):=by
 intro vis wv gl env loc F σ s hw R I L v σ' e
 exact wpAny_evalPart_some ((ha vis wv gl env loc F σ s hw R I L).1 v σ' e)
theorem je_slice {a:E} {lo hi st:OE} (ha:JE B A Φ Λ Gv gt tb kws a) (hl:JO B A Φ Λ Gv gt tb kws lo) (hh:JO B A Φ Λ Gv gt tb kws hi) (ht:JO B A Φ Λ Gv gt tb kws st) (q p:Pos):JE B A Φ Λ Gv gt tb kws (.slice a lo hi st q p):=by
 refine .by tb (fun ζ ζ ζ=>rfl) (fun ζ=>rfl) ?_
 intro vis wv gl env loc F σ s hw R I L v σ' e
 have e:=ev_slice.symm.trans e
 have hw:=bA3 hw
 refine xP1_2 (bind_is e) ?_; (try clear e); intro va σ₁ ea e
 refine xP1_2 (bind_is e) ?_; (try clear e); intro vl σ₂ el e
 refine xP1_2 (bind_is e) ?_; (try clear e); intro vh σ₃ eh e
 refine xP1_2 (bind_is e) ?_; (try clear e); intro vt σ₄ et e
 refine PyProof.Rows.Subscript_ (((ha vis wv gl env loc F σ s hw.1.1.1 R I L).1 va σ₁ ea).seq fun x G₁ s₁ T₁ p₁=>?_)
 have L₁:=L.step I T₁
 refine wpAny_Slice ((hl vis wv gl env loc _ σ₁ s₁ hw.1.1.2 R p₁.1 L₁ vl σ₂ el).seq fun xl G₂ s₂ T₂ p₂=>?_)
 have L₂:=L₁.step p₁.1 T₂
 refine (hh vis wv gl env loc _ σ₂ s₂ hw.1.2 R p₂.1 L₂ vh σ₃ eh).seq fun xh G₃ s₃ T₃ p₃=>?_
 have L₃:=L₂.step p₂.1 T₃
 refine (ht vis wv gl env loc _ σ₃ s₃ hw.2 R p₃.1 L₃ vt σ₄ et).seq fun xt G₄ s₄ T₄ p₄=>?_
 have ps:=fun (o:Obj)=>Mv.push (F++G₁++G₂++G₃++G₄) s₄.heap o
 have ra:=((p₁.2.along p₁.1 T₂).along p₂.1 T₃).along p₃.1 T₄
 have rl:=(p₂.2.along p₂.1 T₃).along p₃.1 T₄
 have rh:=p₃.2.along p₃.1 T₄
 obtain ⟨h1,T,id,hT,hlk⟩:=slice_ok (A:=A) (p₄.1.push { cls:=.type "slice",data:=.fields #[xl,xh,xt] } s₄.toks) (ra.step (ps _)) (rl.step (ps _)) (rh.step (ps _)) (p₄.2.step (ps _)) e (Heap.get?_push_size _ rfl)
 have fin:=up (hasE _ _ _) T₁ (up (hasE _ _ _) T₂ (up (hasE _ _ _) T₃ (up (hasE _ _ _) T₄ (wpAny_mono h1 (fun ζ ζ z=>Cn.push (o:={ cls:=.type "slice",data:=.fields #[xl,xh,xt] }) z) fun ζ ζ z=>z))))
 cases st with
 | none=>exact PyProof.Rows.tail_any (ops:=[.ref s₄.heap.objs.size,x]) hT hlk fin rfl
 | some st=>exact PyProof.Rows.tail_any (ops:=[x,.ref s₄.heap.objs.size]) hT hlk fin rfl
theorem no_kw {g k:Nat} (eg:Gv g=some (.fn k)) (h:(match Gv g with
  | some (.fn f)=>!kws f kwNm
  | _=>true)=true):kws k kwNm=false:=by
 rw [eg] at h
 exact (Bool.not_eq_true' _).mp h
theorem is_kw {g:Nat} {f:V} {nm:Str} (eg:Gv g=some f) (h:(match Gv g with
  | some (.fn f)=>kws f nm
  | _=>false)=true):∃ k,f=.fn k∧kws k nm=true:=by
 rw [eg] at h
 cases f with
 | fn k=>exact ⟨k,rfl,h⟩
 | _=>exact noT h
include K in
theorem je_call {g:Nat} {es:EL} {q:Pos} (hs:JEL B A Φ Λ Gv gt tb kws es) (p:Pos):JE B A Φ Λ Gv gt tb kws (.call g q es p):=by
 refine .by tb (fun ζ ζ ζ=>rfl) (fun ζ=>rfl) ?_
 intro vis wv gl env loc F σ s hw R I L v σ' e
 refine bB2 hw fun hg hes hkw=>?_
 refine x1_2 (bind_is (ev_call.symm.trans e)) ?_
 clear e
 intro f eg e
 refine xP1_2 (bind_is e) ?_
 clear e
 intro vs σ₁ es' e
 have hargs:=fun pos=>(hs vis wv gl env loc F σ s hes R I L).1 pos vs σ₁ es'
 refine PyProof.Rows.Call_Name rfl (glob_ok K.bok K.gr I R (List.contains_iff_mem.mp hg) eg fun x r=>?_)
 cases f with
 | fn k =>
  rw [r.fn_is]
  refine x2_3 (K.fn k vs σ₁ _ e) fun o fd h1 h2 h3=>?_
  refine Calls.callWith_function (o:=o) (fd:=fd) (evalArgs_any hes ((hargs p).seq fun xs G₁ s₁ T₁ p₁=>⟨⟨p₁.1.old.get_of_cls h1 h2,h3⟩,?_⟩))
  exact up (hasE _ _ _) T₁ (call_retR (K.phi _ (.refl _) _ _ _ _ _ _ _ _ (no_kw eg hkw) p₁.1 p₁.2 e))
 | bi b =>
  rw [r.bi_is]
  exact Calls.callWith_builtin (all_plain hes).2 (evalArgs_any hes ((hargs p).seq fun xs G₁ s₁ T₁ p₁=>up (hasE _ _ _) T₁ (callB_ok K.room p₁.1 p₁.2 e)))
 | ty t =>
  rw [r.ty_is]
  exact PyProof.Rows.callWith_type (all_plain hes).2 (evalArgs_any hes ((hargs p).seq fun xs G₁ s₁ T₁ p₁=>up (hasE _ _ _) T₁ (callT_ok K.room p₁.1 p₁.2 e)))
 | _=>exact noS e
include K in
theorem je_callkw {g:Nat} {es:EL} {a:E} {q:Pos} (hs:JEL B A Φ Λ Gv gt tb kws es) (ha:JE B A Φ Λ Gv gt tb kws a) (nm:Str) (q' p:Pos):JE B A Φ Λ Gv gt tb kws (.callkw g q es nm a q' p):=by
 refine .by tb (fun ζ ζ ζ=>rfl) (fun ζ=>rfl) ?_
 intro vis wv gl env loc F σ s hw R I L v σ' e
 refine bB4 hw fun hg hes hn hwa hk=>?_
 refine x1_2 (bind_is (ev_callkw.symm.trans e)) ?_
 clear e
 intro f eg e
 refine x1_2 (is_kw eg hk) ?_
 clear hk
 intro k hq hk
 subst hq
 refine xP1_2 (bind_is e) ?_
 clear e
 intro vs σ₁ es' e1
 refine xP1_2 (bind_is e1) ?_
 clear e1
 intro w σ₂ ea e2
 cases es with
 | nil=>exact noT hn
 | cons a1 es1 =>
  refine x2_3 (K.fn k (vs++[w]) σ₂ _ e2) fun o fd h1 h2 h3=>?_
  refine wpAny_Call_Name_kw (glob_ok K.bok K.gr I R (List.contains_iff_mem.mp hg) eg fun x r=>?_)
  rw [r.fn_is]
  refine PySem.callWith_function_kw (o:=o) (fd:=fd) ?_
  refine PyProof.Rows.evalArgs_kw2 (e:=toE gt tb a1) (rest:=toEL gt tb es1) rfl (((hs vis wv gl env loc F σ s hes R I L).1 p vs σ₁ es').seq fun xs G₁ s₁ T₁ p₁=>?_) (star_cons a1 (wf_raw (bA1 hes).1) _)
  refine PyProof.Rows.kwAll_cons (((ha vis wv gl env loc _ σ₁ s₁ hwa R p₁.1 (L.step I T₁)).1 w σ₂ ea).seq fun y G₂ s₂ T₂ p₂=>PyProof.Rows.kwAll_nil ⟨⟨p₂.1.old.get_of_cls h1 h2,h3⟩,?_⟩)
  exact up (hasE _ _ _) T₁ (up (hasE _ _ _) T₂ (K.kw _ _ _ _ _ _ _ _ _ _ _ hk p₂.1 (p₁.2.along p₁.1 T₂) p₂.2 e2))
theorem lex_cases {m:Me} (h:m.lex=true):m=.get_token∨m=.push_token∨m=.read_char:=by
 cases m <;> first | exact .inl rfl | exact .inr (.inl rfl) | exact .inr (.inr rfl) | exact noT h
include K in
theorem je_meth {a:E} {es:EL} (ha:JE B A Φ Λ Gv gt tb kws a) (hs:JEL B A Φ Λ Gv gt tb kws es) (m:Me) (q p:Pos):JE B A Φ Λ Gv gt tb kws (.meth a m es q p):=by
 refine .by tb (fun ζ ζ ζ=>rfl) (fun ζ=>rfl) ?_
 intro vis wv gl env loc F σ s hw R I L v σ' e
 have e:=ev_meth.symm.trans e
 refine x0_2 (bA4 hw) fun hw_244 hn=>?_
 refine x0_2 (hw_244) fun hw_245 h29=>?_
 obtain ⟨⟨hwa,hes⟩,hl⟩:=hw_245
 have h29:=of_decide_eq_true h29
 refine xP1_2 (bind_is e) ?_; (try clear e); intro va σ₁ ea e
 refine x1_2 (bind_is e) ?_
 (try clear e)
 intro k er e
 refine xP1_2 (bind_is e) ?_; (try clear e); intro vs σ₂ es' e
 refine meth_rule hn hes hl h29 (((ha vis wv gl env loc F σ s hwa R I L).1 va σ₁ ea).seq fun x G₁ s₁ T₁ p₁=>fun pl=>?_)
 have hargs:=fun pos=>(hs vis wv gl env loc _ σ₁ s₁ hes R p₁.1 (L.step I T₁)).1 pos vs σ₂ es'
 by_cases h2:k=2
 ·subst h2
  have e:(if m.lex then Λ m (va :: vs) σ₂ else none)=some (v,σ'):=e
  refine x0_2 (ite_of e) ?_
  (try clear e)
  intro hml e
  refine x1_1 (K.lex) fun KL OL=>?_
  refine get_ok OL p₁.1 p₁.2 er (lex_cases hml) ?_
  have eΦ:=K.lam _ _ _ _ hml e
  refine x2_3 (K.fn _ _ _ _ eΦ) fun o fd h1 h2 h3=>?_
  refine Calls.callWith_function (o:=o) (fd:=fd) (evalArgs_any hes ((hargs p).seq fun xs G₂ s₂ T₂ p₂=>⟨⟨p₂.1.old.get_of_cls h1 h2,h3⟩,?_⟩))
  exact up (hasE _ _ _) T₁ (up (hasE _ _ _) T₂ (call_retR (K.phi _ (.refl _) _ _ _ _ _ _ _ _ (K.mkw _) p₂.1 (.cons (p₁.2.along p₁.1 T₂) p₂.2) eΦ)))
 ·have e:methV va m vs σ₂=some (v,σ'):=(if_neg h2).symm.trans e
  refine x0_3 (recv_ok p₁.1 p₁.2 er h2) fun pa hT hd=>?_
  refine x0_3 (recv_now er h2 e) fun hr sl ty=>?_
  refine getMethod_builtin hT pa sl ty hd ?_
  refine Calls.callWith_builtin (all_plain hes).2 (evalArgs_any hes ((hargs p).seq fun xs G₂ s₂ T₂ p₂=>?_))
  exact up (hasE _ _ _) T₁ (up (hasE _ _ _) T₂ (meth_ok K.room p₂.1 (p₁.2.along p₁.1 T₂) p₂.2 hr e))
include K in
theorem je_attr {a:E} (ha:JE B A Φ Λ Gv gt tb kws a) (t:At) (p:Pos):JE B A Φ Λ Gv gt tb kws (.attr a t p):=by
 refine .by tb (fun ζ ζ ζ=>rfl) (fun ζ=>rfl) ?_
 intro vis wv gl env loc F σ s hw R I L v σ' e
 have e:=ev_attr.symm.trans e
 have hw:=bA1 hw
 refine xP1_2 (bind_is e) ?_; (try clear e); intro va σ₁ ea e
 refine x1_2 (map_is e) ?_
 (try clear e)
 intro u et e
 apply p2 e
 show wpAny _ _ (eval (.Attribute (toE gt tb a) t.nm p) env) _ _ _
 rw [arm_eval_Attribute]
 refine wpAny_bind (base_ok hw.2 (((ha vis wv gl env loc F σ s hw.1 R I L).1 va _ ea).seq fun x G₁ s₁ T₁ p₁=>?_))
 refine wpAny_bind (wpAny_standAt (wpAny_bind (wpAny_holding ?_)))
 refine x1_1 (K.lex) fun KL OL=>?_
 refine att_ok OL p₁.1 p₁.2 et fun y tk r=>?_
 exact wpAny_bind (wpAny_letTemporaryGo (wpAny_pure ⟨G₁,T₁.toks tk,p₁.1.toks tk,r⟩))
theorem fit_new {F:Lay} {σ:Sto} {s s':Shared} {i:Nat} {x:Addr} {xs:List Addr} {it bm:Addr} {tk:Tok} (I:Inv B F σ s) (I':Inv B F σ s') (k:∀ b o,s.heap.get? b=some o→s'.heap.get? b=some o) (ef:Fat F i (x :: xs)) (d1:s.heap.get? it=none) (d2:s.heap.get? bm=none) (ne:it≠bm)
  (h1:s'.heap.get? it=some { cls:=.type "callable_iterator",data:=.fields (citF false bm tk) }) (h2:s'.heap.get? bm=some { cls:=.type "method",data:=.fields #[.ref (B.fa B.lx.rd),.ref x] }):Cn B F s (PE B (σ++[.cit i false]) (.ref σ.length)) (.ref it) s':=by
 have d:∀ a∈[it,bm],s.heap.get? a=none:=by
  simp only [List.forall_mem_cons,List.not_mem_nil,false_implies,implies_true,and_true]; exact ⟨d1,d2⟩
 refine ⟨[[it,bm]],⟨.all k,fun a h=>d a (by simpa using h)⟩,I.newO I' (.of k) (fun a ζ ob e=>k a ob e) d (by simpa using ne) fun m=>⟨it,bm,x,xs,tk,rfl,m.kf _ _ ef,h1,h2⟩,.ref (as:=[bm]) ⟨I.size,?_⟩⟩
 rw [← I.len,List.getElem?_concat_length]
include K in
theorem je_fit {g:Nat} {a:E} (ha:JE B A Φ Λ Gv gt tb kws a) (q1 q2 q3 p:Pos):JE B A Φ Λ Gv gt tb kws (.fit g a q1 q2 q3 p):=by
 refine .by tb (fun ζ ζ ζ=>rfl) (fun ζ=>rfl) ?_
 intro vis wv gl env loc F σ s hw R I L v σ' e
 obtain ⟨⟨hg,hwa⟩,hn⟩:=bA2 hw
 refine x1_2 (bind_is (ev_fit.symm.trans e)) ?_
 (try clear e)
 intro f eg e
 refine x0_2 (ite_of e) ?_
 (try clear e)
 intro hf e
 refine xP1_2 (bind_is e) ?_; (try clear e); intro va σ₁ ea e
 refine x1_2 (bind_is e) ?_
 (try clear e)
 intro i hi e
 refine x1_2 (map_is e) ?_
 (try clear e)
 intro LL hL e
 apply p2 e
 refine PyProof.Rows.Call_Name rfl (glob_ok K.bok K.gr I R (List.contains_iff_mem.mp hg) eg fun x r=>?_)
 rw [r.ofIter hf]
 refine Calls.callWith_builtin rfl (Calls.evalArgs_plain (Calls.spliced_cons ?_))
 rw [arm_eval_Attribute]
 refine wpAny_bind (base_ok hn (((ha vis wv gl env loc F σ s hwa R I L).1 _ _ ea).seq fun x G₁ s₁ T₁ p₁=>wpAny_bind (wpAny_standAt (wpAny_bind (wpAny_holding ?_)))))
 refine x1_1 (K.lex) fun KL OL=>?_
 refine x10_5 (lexAt p₁.1 (lexI_is hL)) fun as la p' x' dx st sd gv cT cA hb ef e1 e2 LH=>?_
 rw [LH.as_] at ef
 rw [(p₁.2.asRef hi).refAt ef]
 obtain ⟨od,eo,In,m,N,lk⟩:=LH.at'
 refine bound_ok OL (OL.here p₁.1) In (by rw [lk,N.no3]) (wpAny_bind (wpAny_letTemporaryGo (wpAny_pure (Calls.spliced_cons (wpAny_Constant_str (k:=0) (pos:=q3) (Calls.spliced_nil ?_))))))
 refine Calls.call_function_entry kind_iter plain_iter entry_iter (args_iter2 _ _) (iter_body (Heap.get?_push_size _ rfl) rfl ⟨_,rfl,Cn.back (hasE _ _ _) T₁ ?_⟩)
 have k:∀ b o,s₁.heap.get? b=some o→((s₁.heap.push { cls:=.type "method",data:=.fields #[.ref (B.fa B.lx.rd),.ref x'] }).push { cls:=.type "callable_iterator",data:=.fields (citF false s₁.heap.objs.size (s₁.toks+1)) }).get? b=some o:=fun b o e=>Heap.get?_push_of_some _ (Heap.get?_push_of_some _ e)
 have sz:(s₁.heap.push { cls:=.type "method",data:=.fields #[.ref (B.fa B.lx.rd),.ref x'] }).objs.size=s₁.heap.objs.size+1:=Heap.size_push ..
 refine fit_new (tk:=s₁.toks+1) p₁.1 (p₁.1.all k _) k ef ?_ (dead_size _) (by rw [sz]; exact Nat.succ_ne_self _) (Heap.get?_push_size _ rfl) (Heap.get?_push_of_some _ (Heap.get?_push_size _ rfl))
 cases q:s₁.heap.get? (s₁.heap.push { cls:=.type "method",data:=.fields #[.ref (B.fa B.lx.rd),.ref x'] }).objs.size with
 | none=>rfl
 | some o=>exact absurd (Heap.lt_size q) (by rw [sz]; exact Nat.not_lt_of_le (Nat.le_succ _))
theorem meth_rule2 {oe:Expr} {name:Str} {q p q3:Pos} {env:Env} (hbase:∀ t:Sem Value,attributeBase oe name env t=t) (hl:(q.endLine==p.line)=true) {Q:Value→Shared→Prop} {E:Value→Shared→Prop} {s:Shared}
  (h:wpAny (model B.prog B.w) A (eval oe env) (fun ov s₁=>∀ pl,wpAny (model B.prog B.w) A (getMethod ov name pl) (fun fm s₂=>wpAny (model B.prog B.w) A (callWith p fm.1 fm.2 (backTo p (starEach [.Constant (.int 1) 0 q3] env)) []) Q E s₂) E s₁) E s) :
  wpAny (model B.prog B.w) A (eval (.Call (.Attribute oe name q) [.Constant (.int 1) 0 q3] [] p) env) Q E s:=by
 rw [arm_eval_Call,hbase]
 refine wpAny_bind (wpAny_mono h (fun ov s₁ h₁=>?_) fun ζ ζ e=>e)
 refine wpAny_bind (wpAny_standAt ?_)
 have hform:methodCallForm (([.Constant (.int 1) 0 q3]:List Expr).length+([]:List Keyword).length) (backTo p (starEach [.Constant (.int 1) 0 q3] env)) (backToKw p (keywordEach [] env))=true:=rfl
 have hpos:methodCallPos true oe env q p=pure p:=by unfold methodCallPos; simp [hl]
 unfold methodCall
 rw [hform]
 refine wpAny_bind (wpAny_holding ?_)
 unfold calleeOf
 rw [if_pos rfl]
 refine wpAny_mono (h₁ _) (fun fm s₂ h₂=>?_) fun ζ ζ z=>z
 exact wpAny_bind (wpAny_of_eq hpos h₂)
include K in
theorem je_readc {a:E} (ha:JE B A Φ Λ Gv gt tb kws a) (q1 q2 q3 p:Pos):JE B A Φ Λ Gv gt tb kws (.readc a q1 q2 q3 p):=by
 refine .by tb (fun ζ ζ ζ=>rfl) (fun ζ=>rfl) ?_
 intro vis wv gl env loc F σ s hw R I L v σ' e
 obtain ⟨⟨hwa,hn⟩,hl⟩:=bA2 hw
 refine xP1_2 (bind_is (ev_readc.symm.trans e)) ?_; (try clear e); intro va σ₁ ea e
 refine meth_rule2 (fun ζ=>rfl) hl ?_
 rw [arm_eval_Attribute]
 refine wpAny_bind (base_ok hn (((ha vis wv gl env loc F σ s hwa R I L).1 _ _ ea).seq fun x G₁ s₁ T₁ p₁=>wpAny_bind (wpAny_standAt (wpAny_bind (wpAny_holding ?_)))))
 refine x1_2 (K.rdc _ _ _ e) fun i hq_246 hr=>?_
 subst hq_246
 refine x1_1 (K.lex) fun KL OL=>?_
 refine x1_2 (bind_is hr) fun LL hL ζ=>?_
 refine x10_5 (lexAt p₁.1 (lexI_is hL)) fun as la p' x' dx st sd gv cT cA hb ef e1 e2 LH=>?_
 rw [p₁.2.refAt (LH.as_▸ef)]
 obtain ⟨od,eo,In,m,N,lk⟩:=LH.at'
 refine W.get_value (OL.here p₁.1) In OL.hga (own_find OL OL.o4 (by rw [lk,N.stream])) rfl (wpAny_bind (wpAny_letTemporaryGo (wpAny_pure fun pl=>?_)))
 refine x2_1 (LH.stream) fun fd sl hst=>?_
 refine x1_2 (LH.read) fun ms ns hrd=>?_
 refine fnGet (s:={ s₁ with toks:=s₁.toks+1 }) hst ns hrd rfl ?_
 refine x2_2 (id LH.give) fun cd ct hgv ζ=>?_
 refine W.callWith_F ⟨_,_,_,_,hgv⟩ ?_
 show wpAny _ _ (spliced [(false,eval (.Constant (.int 1) 0 q3) env)]) _ _ _
 refine Calls.spliced_cons (wpAny_Constant_int (k:=0) (pos:=q3) (Calls.spliced_nil ⟨⟨_,_,_,_,hgv⟩,?_⟩))
 exact up (hasE _ _ _) (T₁.toks _) (K.give _ _ _ _ _ _ _ _ _ _ _ _ _ _ _ _ _ _ _ (p₁.1.toks _) e ef LH)
end
end Mine
namespace Mine
open PySem
section
variable {B:Base} {A:Around} {d:Nat} {Φ:Calls} {Λ:Lexer} {Gv:Nat→Option V} {gt:List Str} {mk:Me→Nat} {kws:Nat→Str→Bool} (K:Kit B A d Φ Λ Gv gt mk kws) (tb:List Str)
noncomputable def emit (Φ:Calls) (Λ:Lexer) (Gv:Nat→Option V) (e:E) (loc:Loc) (σ:Sto) (acc:List V):Option (List V × Sto):=(evM Φ Λ Gv e false loc σ).bind fun v=>if acc.length < maxLen then some (acc++[v.1],v.2) else none
noncomputable def JC (B:Base) (A:Around) (Φ:Calls) (Λ:Lexer) (Gv:Nat→Option V) (gt tb:List Str) (kws:Nat→Str→Bool) (r:CL):Prop :=
 ∀ vis wv gl env e gens sc pos dp D,wfCL gt tb kws Gv vis gl wv r=true→wfE gt tb kws Gv vis gl e=true→JE B A Φ Λ Gv gt tb kws e→ER B gt tb vis wv gl env→List.drop (dp+1) gens=toCL gt tb r →
  RestOk B A tb vis wv env D (toE gt tb e) gens sc pos dp (clSlots r) (evC Φ Λ Gv r (emit Φ Λ Gv e))
theorem drop_get {α:Type} {l:List α} {n:Nat}:(List.drop n l)[0]?=l[n]?:=by simp
theorem drop_get1 {α:Type} {l:List α} {n:Nat} {a:α} {r:List α} (h:List.drop n l=a :: r):l[n]?=some a∧List.drop (n+1) l=r:=by
 constructor
 ·rw [← drop_get,h]; rfl
 ·rw [← List.drop_drop,h]; rfl
theorem cl_async:∀ {r:CL} {g':Comprehension},(toCL gt tb r)[0]?=some g'→g'.is_async=0
 | .nil,_,h=>by exact noS h
 | .cons t it ifs r,g',h=>by cases h; rfl
theorem jc_nil:JC B A Φ Λ Gv gt tb kws .nil:=by
 intro vis wv gl env e gens sc pos dp D hw he hE R hd
 refine rest_nil (kE:=fun loc σ=>evM Φ Λ Gv e false loc σ) ?_ fun F σ s loc v σ' I L q=>(hE vis wv gl env loc F σ s he R I L).1 v σ' q
 rw [← drop_get,hd]; rfl
include K in
theorem jc_cons {t:Tg} {it:E} {ifs:EL} {r:CL} (hit:JE B A Φ Λ Gv gt tb kws it) (hifs:JEL B A Φ Λ Gv gt tb kws ifs) (hr:JC B A Φ Λ Gv gt tb kws r):JC B A Φ Λ Gv gt tb kws (.cons t it ifs r):=by
 intro vis wv gl env e gens sc pos dp D hw he hE R hd
 refine x0_2 (bA4 hw) fun hw_247 h5=>?_
 refine x0_2 (hw_247) fun hw_248 h4=>?_
 obtain ⟨⟨h1,h2⟩,h3⟩:=hw_248
 refine x0_2 (drop_get1 (hd:List.drop (dp+1) gens=⟨toTg tb t,toE gt tb it,toEL gt tb ifs,0⟩ :: toCL gt tb r)) fun hg hd'=>?_
 refine rest_cons (kE:=fun loc σ=>evM Φ Λ Gv it false loc σ) (kI:=fun loc σ=>evIfs Φ Λ Gv ifs loc σ) (kR:=evC Φ Λ Gv r (emit Φ Λ Gv e)) K.room.handled R hg ?_ (fun i hi=>List.contains_iff_mem.mp (List.all_eq_true.mp h2 i hi)) (fun i hi q=>?_) (wf_raw h1)
  (fun F σ s loc v σ' I L q=>(hit vis wv gl env loc F σ s h1 R I L).1 v σ' q) (fun F σ s loc b σ' I L q=>(hifs vis wv gl env loc F σ s h4 R I L).2.2.2 b σ' q) (hr vis wv gl env e gens sc pos (dp+1) D h5 he hE R hd')
 ·intro g' q
  rw [← drop_get,hd'] at q
  exact cl_async tb q
 ·have:=List.all_eq_true.mp h3 i hi
  rw [Bool.not_eq_true'] at this
  rw [List.contains_iff_mem.mpr q] at this; cases this
theorem cl_wv {vis:List (Nat × Bool)} {wv gl:List Nat}:∀ {r:CL},wfCL gt tb kws Gv vis gl wv r=true→∀ i∈clSlots r,i∈wv
 | .nil,_,i,hi=>by cases hi
 | .cons t it ifs r,h,i,hi=>by
  have h:=bA4 h
  rcases List.mem_append.mp hi with q | q
  ·exact List.contains_iff_mem.mp (List.all_eq_true.mp h.1.1.1.2 i q)
  ·exact cl_wv h.2 i q
include K in
theorem comp_use {cell:Bool} {e it:E} {t:Tg} {ifs:EL} {r:CL} {cs:CS} {pos p:Pos} (hit:JE B A Φ Λ Gv gt tb kws it) (hifs:JEL B A Φ Λ Gv gt tb kws ifs) (hr:JC B A Φ Λ Gv gt tb kws r) (he:JE B A Φ Λ Gv gt tb kws e)
  {vis:List (Nat × Bool)} {wv gl:List Nat} {env:Env} {loc:Loc} {F:Lay} {σ:Sto} {s:Shared} (hw:wfE gt tb kws Gv vis gl (.comp cell e t it ifs r cs pos)=true) (R:ER B gt tb vis wv gl env) (I:Inv B F σ s) (L:LR B tb vis env F loc s.heap)
  {v:V} {σ':Sto} (ev:evM Φ Λ Gv (.comp cell e t it ifs r cs pos) false loc σ=some (v,σ')) {use:Option (Value→Sem Unit)} {Q:Value→Shared→Prop}
  (fin:∀ D C G s',CDone B F σ' v s D C G s'→compPost (model B.prog B.w) A Bot use Q (.ref D) C (.ok .next) s') :
  wpAny (model B.prog B.w) A (comprehension (.ListComp (toE gt tb e) (toCL gt tb (.cons t it ifs r)) cs.sc pos) cs.sc env p (PySem.newList []) false (eval (toE gt tb it) env) use) Q Bot s:=by
 refine bB6 hw fun h1 h2 h3 h4 h5 h6 h7=>?_
 refine xP1_2 (bind_is (ev_comp.symm.trans ev)) ?_
 clear ev
 intro vi σ₁ ei ec
 refine xP1_2 (bind_is ec) ?_
 clear ec
 intro i n en ec
 refine x1_2 (map_is ec) fun y el e'=>?_
 have hv:v=(newL cell y.2.1 y.2.2).1:=congrArg Prod.fst e'.symm
 have hs':σ'=(newL cell y.2.1 y.2.2).2:=congrArg Prod.snd e'.symm
 refine comp_core cell K.room.handled R (csP_of h2) I L (js:=clSlots r) (kI:=fun loc σ=>evIfs Φ Λ Gv ifs loc σ) (kR:=evC Φ Λ Gv r (emit Φ Λ Gv e)) (fun g' q=>cl_async tb q) (wf_raw h1) ((hit vis wv gl env _ F σ s h1 R I (L.weak fun i v e=>(clear_get _ _ _ _ e).1)).1 vi σ₁ ei) en (fun i hi=>List.contains_iff_mem.mp (List.all_eq_true.mp h3 i hi)) (fun i hi q=>?_) (cl_wv tb h6)
  (fun cenv R' F σ s loc b σ' I L q=>(hifs cs.vis cs.wv cs.gl cenv loc F σ s h5 R' I L).2.2.2 b σ' q) (fun cenv D R'=>hr cs.vis cs.wv cs.gl cenv e _ cs.sc pos 0 D h6 h7 he R' rfl) el fun D C G s' cd=>fin D C G s' (by rw [hv,hs']; exact cd)
 have:=List.all_eq_true.mp h4 i hi
 rw [Bool.not_eq_true'] at this
 rw [List.contains_iff_mem.mpr q] at this; cases this
theorem cdone_end {F:Lay} {σ:Sto} {v:V} {s s':Shared} {D C:Addr} {G:Lay} (c:CDone B F σ v s D C G s') {h':Heap} (hs:Heap.SameBut C s'.heap h'):Cn B F s (PE B σ v) (.ref D) { s' with heap:=h' }:=by
 refine x1_1 (c.ns) fun m nm=>?_
 have kp:Kept (·=C) s'.heap h':=.of_same hs
 have nn:∀ b o,b=C→s'.heap.get? b=some o→B.h0.get? b=none∧b∉(F++G).flatten∧¬ Imm o:=fun b o w e=>by subst w; exact ⟨c.h0,c.off,ns_not_imm nm e⟩
 refine ⟨G,⟨fun b o e nw=>kp b o (c.step.kept b o e nw) fun z=>?_,c.step.fresh⟩,c.pe.1.keep (tk:=s'.toks) kp nn,c.pe.2.step (.of_kept kp fun b o w e=>.of (nn b o w e).2.2)⟩
 rw [z,c.dead] at e; exact noS e
include K in
theorem je_comp (cell:Bool) {e it:E} {t:Tg} {ifs:EL} {r:CL} {cs:CS} {pos:Pos} (hit:JE B A Φ Λ Gv gt tb kws it) (hifs:JEL B A Φ Λ Gv gt tb kws ifs) (hr:JC B A Φ Λ Gv gt tb kws r) (he:JE B A Φ Λ Gv gt tb kws e):JE B A Φ Λ Gv gt tb kws (.comp cell e t it ifs r cs pos):=by
 refine .by tb (fun ζ ζ ζ=>rfl) (fun ζ=>rfl) ?_
 intro vis wv gl env loc F σ s hw R I L v σ' ev
 show wpAny _ _ (eval (.ListComp (toE gt tb e) (toCL gt tb (.cons t it ifs r)) cs.sc pos) env) _ _ s
 rw [eval_ListComp]
 exact comp_use K tb hit hifs hr he hw R I L ev fun D C G s' c=>let ⟨m,nm⟩:=c.ns; ⟨m,nm,fun h' hs=>cdone_end c hs⟩
include K in
mutual
theorem okE:∀ e:E,JE B A Φ Λ Gv gt tb kws e
 | .cnone p=>je_cnone tb p
 | .cbool b p=>je_cbool tb b p
 | .cint i p=>je_cint tb i p
 | .cstr s p=>je_cstr tb s p
 | .var i p=>je_var K tb i p
 | .glob g p=>je_glob K tb g p
 | .bin op a b p=>je_bin K tb (okE a) (okE b) op p
 | .neg a p=>je_neg K tb (okE a) p
 | .cmp op a b p=>je_cmp K tb (okE a) (okE b) op p
 | .cmp2 op op' a b c p=>je_cmp2 K tb (okE a) (okE b) (okE c) op op' p
 | .boolop op es p=>je_boolop tb (okEL es) op p
 | .ife t a b p=>je_ife tb (okE t) (okE a) (okE b) p
 | .list c es p=>je_list tb c (okEL es) p
 | .tup es p=>je_tup tb (okEL es) p
 | .sub a i p=>je_sub tb (okE a) (okE i) p
 | .slice a lo hi st q p=>je_slice tb (okE a) (okO lo) (okO hi) (okO st) q p
 | .call g q es p=>je_call K tb (okEL es) p
 | .callkw g q0 es k e q p=>je_callkw K tb (okEL es) (okE e) k q p
 | .meth o m es q p=>je_meth K tb (okE o) (okEL es) m q p
 | .attr o a p=>je_attr K tb (okE o) a p
 | .comp c e t it ifs r cs p=>je_comp K tb c (okE it) (okEL ifs) (okC r) (okE e)
 | .fit g a q1 q2 q3 p=>je_fit K tb (okE a) q1 q2 q3 p
 | .readc a q1 q2 q3 p=>je_readc K tb (okE a) q1 q2 q3 p
 | .raw x=>.no tb rfl
theorem okEL:∀ es:EL,JEL B A Φ Λ Gv gt tb kws es
 | .nil=>jel_nil tb
 | .cons e es=>jel_cons tb (okE e) (okEL es)
theorem okO:∀ o:OE,JO B A Φ Λ Gv gt tb kws o
 | .none=>jo_none tb
 | .some e=>jo_some tb (okE e)
theorem okC:∀ r:CL,JC B A Φ Λ Gv gt tb kws r
 | .nil=>jc_nil tb
 | .cons t it ifs r=>jc_cons K tb (okE it) (okEL ifs) (okC r)
end
end
end Mine
namespace Mine
open PySem
structure Lw (n:Nat) (F H:Lay):Prop where
 kf:∀ i x,i < n→Fat F i x→Fat H i x
 sub:∀ a∈H.flatten,a∈F.flatten
section
variable {fa:Nat→Addr} {h:Heap} {F G H:Lay} {n:Nat}
theorem flat_left {F G:Lay} {a:Addr} (h:a∈F.flatten):a∈(F++G).flatten:=by rw [List.flatten_append]; exact List.mem_append.mpr (.inl h)
theorem VR.low (w:Lw n F H) {v:V} {x:Value} (r:VR fa h F v x):v.low n=true→VR fa h H v x :=
 VR.rec (motive_1:=fun v x ζ=>v.low n=true→VR fa h H v x) (motive_2:=fun vs xs ζ=>lowL n vs=true→VRs fa h H vs xs) (fun ζ=>.none) (fun b ζ=>.bool b) (fun i t ζ=>.int i t) (fun t e b ζ=>.str t e b) (fun t e b ζ=>.bytes t e b) (fun e l=>.ref (w.kf _ _ (of_decide_eq_true l) e)) (fun e ζ b r l=>.tup e (r l) b) (fun e q ζ b r l=>.lst e (fun z=>q (w.sub _ z)) (r l) b) (fun e ζ=>.rng e) (fun f ζ=>.fn f) (fun b ζ=>.bi b) (fun t ζ=>.ty t) (fun ζ=>.nil) (fun ζ ζ a r l=>.cons (a (Bool.and_eq_true_iff.mp l).1) (r (Bool.and_eq_true_iff.mp l).2)) r
theorem VRs.low (w:Lw n F H) {vs:List V} {xs:List Value} (r:VRs fa h F vs xs):lowL n vs=true→VRs fa h H vs xs :=
 VRs.rec (motive_1:=fun v x ζ=>v.low n=true→VR fa h H v x) (motive_2:=fun vs xs ζ=>lowL n vs=true→VRs fa h H vs xs) (fun ζ=>.none) (fun b ζ=>.bool b) (fun i t ζ=>.int i t) (fun t e b ζ=>.str t e b) (fun t e b ζ=>.bytes t e b) (fun e l=>.ref (w.kf _ _ (of_decide_eq_true l) e)) (fun e ζ b r l=>.tup e (r l) b) (fun e q ζ b r l=>.lst e (fun z=>q (w.sub _ z)) (r l) b) (fun e ζ=>.rng e) (fun f ζ=>.fn f) (fun b ζ=>.bi b) (fun t ζ=>.ty t) (fun ζ=>.nil) (fun ζ ζ a r l=>.cons (a (Bool.and_eq_true_iff.mp l).1) (r (Bool.and_eq_true_iff.mp l).2)) r
theorem Lw.left:Lw F.length (F++G) F:=⟨fun ζ ζ l e=>⟨e.1,(List.getElem?_append_left l).symm.trans e.2⟩,fun ζ=>flat_left⟩
theorem Lw.one {as:List Addr} (h:∀ a∈as,a∈G.flatten):Lw F.length (F++G) (F++[as]) :=
 ⟨fun ζ ζ l e=>⟨e.1,(List.getElem?_append_left l).trans ((List.getElem?_append_left l).symm.trans e.2)⟩,fun a q=>by
  rw [List.flatten_append,List.mem_append] at q ⊢
  exact q.imp id fun q=>h a (by simpa using q)⟩
end
section
variable {B:Base} {A:Around} {F G H:Lay} {σ σ':Sto} {s s':Shared} {v:V} {x:Value} {gt tb:List Str} {vis:List (Nat × Bool)} {wv gl:List Nat} {env:Env} {loc loc':Loc} {W:Addr→Prop} {n:Nat}
theorem OR.low (w:Lw n F H) {o:O} {as:List Addr} (r:OR B s.heap F o as) (l:o.low n=true):OR B s.heap H o as:=by
 cases o with
 | list xs =>
  refine x2_4 (r) fun a items e p q z=>?_
  exact ⟨a,items,e,p,q.low w l,z⟩
 | lex text i line j =>
  obtain ⟨b,la,p,x,dx,st,sd,gv,cT,cA,e1,e2,L⟩:=r
  have l:=Bool.and_eq_true_iff.mp l
  exact ⟨b,la,p,x,dx,st,sd,gv,cT,cA,w.kf _ _ (of_decide_eq_true l.1) e1,w.kf _ _ (of_decide_eq_true l.2) e2,L⟩
 | cit l' fin =>
  refine x5_3 (r) fun it bm x xs tk q e e1=>?_
  exact ⟨it,bm,x,xs,tk,q,w.kf _ _ (of_decide_eq_true l) e,e1⟩
 | scr k xs=>exact r
theorem take_obj (I:Inv B (F++G) σ s) (w:Lw F.length (F++G) H) (l:stoLow F.length (σ.take F.length)=true):∀ (i:Nat) (o:O) (as:List Addr),(σ.take F.length)[i]?=some o→F[i]?=some as→OR B s.heap H o as:=fun i o as eo ef=>by
 have hi:i < F.length:=(List.getElem?_eq_some_iff.mp ef).1
 have eo':σ[i]?=some o:=by rw [List.getElem?_take_of_lt hi] at eo; exact eo
 exact (I.obj i o as eo' ((List.getElem?_append_left hi).trans ef)).low w (List.all_eq_true.mp l o (List.mem_of_getElem? eo))
theorem Inv.take (I:Inv B (F++G) σ s) (h0:0 < F.length) (l:stoLow F.length (σ.take F.length)=true):Inv B F (σ.take F.length) s:=by
 have hl:F.length≤σ.length:=by rw [← I.len,List.length_append]; exact Nat.le_add_right _ _
 have nd:=I.nodup
 rw [List.flatten_append,List.nodup_append] at nd
 exact ⟨I.old,I.lim,I.gens,I.os,by rw [List.length_take,Nat.min_eq_left hl],take_obj I .left l,nd.1,fun a ha=>I.fresh a (flat_left ha),I.tabs,I.tabo,I.tabc,I.low,by rw [List.getElem?_take_of_lt h0]; exact I.zero⟩
noncomputable def FlR (B:Base) (h:Heap) (F:Lay):Fl→Flow→Prop
 | .next,.next=>True
 | .brk,.brk=>True
 | .cont,.cont=>True
 | .ret v,.ret x=>VR B.fa h F v x
 | _,_=>False
noncomputable def SPost (B:Base) (tb:List Str) (vis:List (Nat × Bool)) (W:Addr→Prop) (env:Env) (F:Lay) (s:Shared) (fl:Fl) (loc:Loc) (σ:Sto) (f:Flow) (s':Shared):Prop :=
 ∃ G,StepW W B F s G s'∧Inv B (F++G) σ s'∧LR B tb vis env (F++G) loc s'.heap∧FlR B s'.heap (F++G) fl f
theorem SPost.back {f:Flow} {s₁ s₂:Shared} {fl:Fl} (T:StepW W B F s G s₁) (p:SPost B tb vis W env (F++G) s₁ fl loc σ f s₂) (hW:∀ a,W a→∃ o,s₁.heap.get? a=some o):SPost B tb vis W env F s fl loc σ f s₂:=by
 refine x1_4 (p) fun G' T' I L q=>?_
 refine ⟨G++G',T.trans T' I fun a w z=>?_,by rw [← List.append_assoc]; exact ⟨I,L,q⟩⟩
 refine x1_1 (hW a w) fun o e=>?_
 rw [T'.fresh a z] at e; exact noS e
theorem own_live {h:Heap} (L:LR B tb vis env F loc h):∀ a,OwnA tb wv env a→∃ o,h.get? a=some o:=fun ζ w=>let ⟨_,_,o,e,_⟩:=L.fr w.fr; ⟨o,e⟩
end
end Mine
namespace Mine
open PySem
noncomputable def E.isComp:E→Bool
 | .comp ..=>true
 | _=>false
noncomputable def E.isTup:E→Option EL
 | .tup es _=>some es
 | _=>none
section
variable (gt tb:List Str) (kws:Nat→Str→Bool) (Gv:Nat→Option V) (vis:List (Nat × Bool)) (wv gl:List Nat)
noncomputable def wfTg (t:Tg):Bool:=(tgSlots t).all (fun i=>wv.contains i)&&decide (tgSlots t).Nodup
mutual
noncomputable def wfS:S→Bool
 | .assign t e _=>wfE gt tb kws Gv vis gl e&&wfTg wv t&&(match e.isTup with
  | some es=>!((toEL gt tb es).all (constantsAlone 8))
  | none=>true)
 | .assignSub a i _ e _=>wfE gt tb kws Gv vis gl a&&wfE gt tb kws Gv vis gl i&&wfE gt tb kws Gv vis gl e
 | .aug i _ _ e _=>wv.contains i&&wfE gt tb kws Gv vis gl e
 | .augSub a i _ _ e _=>wfE gt tb kws Gv vis gl a&&wfE gt tb kws Gv vis gl i&&wfE gt tb kws Gv vis gl e
 | .expr e _=>wfE gt tb kws Gv vis gl e&&!e.isComp
 | .ret e _=>wfE gt tb kws Gv vis gl e
 | .cond t a b _=>wfE gt tb kws Gv vis gl t&&wfSL a&&wfSL b
 | .whil _ _ t a _=>wfE gt tb kws Gv vis gl t&&wfSL a
 | .loop _ t it a b _=>wfE gt tb kws Gv vis gl it&&wfTg wv t&&wfSL a&&wfSL b
 | .enum _ is tp g _ it a b _ _=>gl.contains g&&wfE gt tb kws Gv vis gl it&&wfTg wv (.tup is tp)&&wfSL a&&wfSL b
 | .inc o _ _ _=>wfE gt tb kws Gv vis gl o
 | .fitr _ i tp it a b _=>wfE gt tb kws Gv vis gl it&&wfTg wv (.name i tp)&&wfSL a&&wfSL b
 | .brk _=>true
 | .cont _=>true
 | .raw _=>true
noncomputable def wfSL:SL→Bool
 | .nil=>true
 | .cons s r=>wfS s&&wfSL r
end
end
section
variable {B:Base} {A:Around} {d:Nat} {Φ:Calls} {Λ:Lexer} {Gv:Nat→Option V} {gt:List Str} {mk:Me→Nat} {kws:Nat→Str→Bool} (K:Kit B A d Φ Λ Gv gt mk kws) (tb:List Str)
noncomputable def JS (B:Base) (A:Around) (Φ:Calls) (Λ:Lexer) (Gv:Nat→Option V) (gt tb:List Str) (kws:Nat→Str→Bool) (st:S):Prop :=
 ∀ vis wv gl env loc F σ s fl loc' σ',wfS gt tb kws Gv vis wv gl st=true→ER B gt tb vis wv gl env→Inv B F σ s→LR B tb vis env F loc s.heap→evS Φ Λ Gv st loc σ=some (fl,loc',σ') →
  wpAny (model B.prog B.w) A (exec (toS gt tb st) env) (SPost B tb vis (OwnA tb wv env) env F s fl loc' σ') Bot s
noncomputable def JSL (B:Base) (A:Around) (Φ:Calls) (Λ:Lexer) (Gv:Nat→Option V) (gt tb:List Str) (kws:Nat→Str→Bool) (st:SL):Prop :=
 ∀ vis wv gl env loc F σ s fl loc' σ',wfSL gt tb kws Gv vis wv gl st=true→ER B gt tb vis wv gl env→Inv B F σ s→LR B tb vis env F loc s.heap→evSL Φ Λ Gv st loc σ=some (fl,loc',σ') →
  wpAny (model B.prog B.w) A (execs (toSL gt tb st) env) (SPost B tb vis (OwnA tb wv env) env F s fl loc' σ') Bot s
variable {F G:Lay} {σ:Sto} {s s₁ s₂:Shared} {vis:List (Nat × Bool)} {wv gl:List Nat} {env:Env} {loc loc':Loc}
theorem sp_here (I:Inv B F σ s) (L:LR B tb vis env F loc s.heap) {fl:Fl} {f:Flow} {W:Addr→Prop} (h:FlR B s.heap F fl f):SPost B tb vis W env F s fl loc σ f s:=⟨[],.refl _ _ _ _,by rw [List.append_nil]; exact I,by rw [List.append_nil]; exact L,by rw [List.append_nil]; exact h⟩
theorem sp_step {σ₀:Sto} (I₀:Inv B F σ₀ s) (L₀:LR B tb vis env F loc s.heap) (T:Step B F s G s₁) (I:Inv B (F++G) σ s₁) {fl:Fl} {f:Flow} {W:Addr→Prop} (h:FlR B s₁.heap (F++G) fl f):SPost B tb vis W env F s fl loc σ f s₁:=⟨G,T.w,I,L₀.step I₀ T,h⟩
theorem sp_store {σ₀:Sto} (I₀:Inv B F σ₀ s) (L₀:LR B tb vis env F loc s.heap) (T:Step B F s G s₁) (p:StP B tb vis wv env (F++G) σ loc' s₁ s₂) {fl:Fl} {f:Flow} (h:FlR B s₂.heap (F++G) fl f):SPost B tb vis (OwnA tb wv env) env F s fl loc' σ f s₂:=by
 refine ⟨G,⟨fun b o e n=>p.keep b o (T.kept b o e fun z=>n (.inl z)) fun z=>n (.inr z),T.fresh⟩,p.inv,p.lr,h⟩
theorem js_brk (p:Pos):JS B A Φ Λ Gv gt tb kws (.brk p):=by
 intro vis wv gl env loc F σ s fl loc' σ' hw R I L e
 apply s3 e
 exact wpAny_Break (sp_here tb I L trivial)
theorem js_cont (p:Pos):JS B A Φ Λ Gv gt tb kws (.cont p):=by
 intro vis wv gl env loc F σ s fl loc' σ' hw R I L e
 apply s3 e
 exact wpAny_Continue (sp_here tb I L trivial)
include K in
theorem js_ret (a:E) (p:Pos):JS B A Φ Λ Gv gt tb kws (.ret a p):=by
 intro vis wv gl env loc F σ s fl loc' σ' hw R I L e
 refine x1_2 (map_is (es_ret.symm.trans e)) ?_
 (try clear e)
 intro ra ea e
 apply p3 e
 exact wpAny_Return_some (((okE K tb a vis wv gl env loc F σ s hw R I L).1 _ _ ea).seq fun x G s₁ T q=>sp_step tb I L T q.1 q.2)
theorem not_swap {a:E} (hr:∀ x,a≠.raw x) (hc:a.isComp=false) (t:Option Expr) (l:Nat):swapsWith (toE gt tb a) t l env=pure false:=by
 cases a <;> first | rfl | exact absurd rfl (hr _) | cases hc
include K in
theorem js_expr (a:E) (p:Pos):JS B A Φ Λ Gv gt tb kws (.expr a p):=by
 intro vis wv gl env loc F σ s fl loc' σ' hw R I L e
 refine x0_2 (bA1 hw) ?_
 (try clear hw)
 intro hw hc
 refine x1_2 (map_is (es_expr.symm.trans e)) ?_
 (try clear e)
 intro ra ea e
 apply p3 e
 exact wpAny_Expr_any (((okE K tb a vis wv gl env loc F σ s hw R I L).1 _ _ ea).seq fun x G s₁ T q=>sp_step tb I L T q.1 trivial) (by unfold interactive; rw [R.fn]; rfl) (not_swap tb (wf_raw hw) ((Bool.not_eq_true' _).mp hc) _ _)
theorem js_cond (K:Kit B A d Φ Λ Gv gt mk kws) {t:E} {a b:SL} (ha:JSL B A Φ Λ Gv gt tb kws a) (hb:JSL B A Φ Λ Gv gt tb kws b) (p:Pos):JS B A Φ Λ Gv gt tb kws (.cond t a b p):=by
 intro vis wv gl env loc F σ s fl loc' σ' hw R I L e
 have hw:=bA2 hw
 refine xP1_2 (bind_is (es_cond.symm.trans e)) ?_; (try clear e); intro c σ₁ et e
 refine wpAny_If (((okE K tb t vis wv gl env loc F σ s hw.1.1 R I L).2 _ _ et).seq fun x G s₁ T q=>?_)
 have L₁:=L.step I T
 rw [q.2]
 cases c with
 | true=>exact wpAny_mono (ha vis wv gl env loc _ σ₁ s₁ fl loc' σ' hw.1.2 R q.1 L₁ e) (fun f s₂ p=>p.back T.w (own_live L₁)) fun ζ ζ z=>z
 | false=>exact wpAny_mono (hb vis wv gl env loc _ σ₁ s₁ fl loc' σ' hw.2 R q.1 L₁ e) (fun f s₂ p=>p.back T.w (own_live L₁)) fun ζ ζ z=>z
theorem jsl_nil:JSL B A Φ Λ Gv gt tb kws .nil:=by
 intro vis wv gl env loc F σ s fl loc' σ' hw R I L e
 apply s3 e
 exact wpAny_execs_nil (sp_here tb I L trivial)
theorem sole_sub {e:E} (h:∀ x,e≠.raw x) {a i:Expr} {q:Pos} {l:Nat}:swapsWith (toE gt tb e) (some (.Subscript a i q)) l env=pure false:=by
 cases e <;> first | rfl | exact absurd rfl (h _)
theorem jsl_cons {a:S} {r:SL} (ha:JS B A Φ Λ Gv gt tb kws a) (hr:JSL B A Φ Λ Gv gt tb kws r):JSL B A Φ Λ Gv gt tb kws (.cons a r):=by
 intro vis wv gl env loc F σ s fl loc' σ' hw R I L e
 have hw:=bA1 hw
 refine x1_2 (bind_is (es_cons.symm.trans e)) ?_
 (try clear e)
 intro hw_254 ea e
 obtain ⟨fa,loc₁,σ₁⟩:=hw_254
 refine wpAny_execs_cons (wpAny_mono (ha vis wv gl env loc F σ s fa loc₁ σ₁ hw.1 R I L ea) (fun f s₁ p=>?_) fun ζ ζ z=>z)
 refine x1_4 (id p) fun G T I₁ L₁ q=>?_
 cases fa with
 | next =>
  cases f <;> first | exact q.elim | skip
  exact wpAny_mono (hr vis wv gl env loc₁ _ σ₁ s₁ fl loc' σ' hw.2 R I₁ L₁ e) (fun f s₂ p=>p.back T (own_live L₁)) fun ζ ζ z=>z
 | _=>apply s3 e; cases f <;> first | exact p | exact q.elim
include K in
theorem js_assignSub (a i:E) (q:Pos) (e:E) (p:Pos):JS B A Φ Λ Gv gt tb kws (.assignSub a i q e p):=by
 intro vis wv gl env loc F σ s fl loc' σ' hw R I L ev
 have hw:=bA2 hw
 refine xP1_2 (bind_is (es_assignSub.symm.trans ev)) fun ve σ₁ ee e1=>?_
 refine xP1_2 (bind_is e1) fun va σ₂ ea e2=>?_
 refine xP1_2 (bind_is e2) fun vi σ₃ ei e3=>?_
 refine x1_2 (map_is e3) fun σ₄ es e4=>?_
 apply p3 e4
 refine wpAny_Assign_Subscript (((okE K tb e vis wv gl env loc F σ s hw.2 R I L).1 _ _ ee).seq fun xe G₁ s₁ T₁ p₁=>?_) (sole_sub tb (wf_raw hw.2))
 have L₁:=L.step I T₁
 refine ((okE K tb a vis wv gl env loc _ σ₁ s₁ hw.1.1 R p₁.1 L₁).1 _ _ ea).seq fun xa G₂ s₂ T₂ p₂=>?_
 have L₂:=L₁.step p₁.1 T₂
 refine ((okE K tb i vis wv gl env loc _ σ₂ s₂ hw.1.2 R p₂.1 L₂).1 _ _ ei).seq fun xi G₃ s₃ T₃ p₃=>?_
 have L₃:=L₂.step p₂.1 T₃
 refine (set_ok (A:=A) p₃.1 (p₂.2.along p₂.1 T₃) p₃.2 ((p₁.2.along p₁.1 T₂).along p₂.1 T₃) es).seq fun ζ G₄ s₄ T₄ p₄=>?_
 exact (((sp_step tb p₃.1 L₃ T₄ p₄ (f:=.next) (fl:=.next) trivial).back T₃.w (own_live L₃)).back T₂.w (own_live L₂)).back T₁.w (own_live L₁)
end
end Mine
namespace Mine
open PySem
section
variable {B:Base} {A:Around} {d:Nat} {Φ:Calls} {Λ:Lexer} {Gv:Nat→Option V} {gt:List Str} {mk:Me→Nat} {kws:Nat→Str→Bool} (K:Kit B A d Φ Λ Gv gt mk kws) (tb:List Str)
variable {F G:Lay} {σ:Sto} {s s₁ s₂:Shared} {vis:List (Nat × Bool)} {wv gl:List Nat} {env:Env} {loc loc':Loc}
theorem wv_vis (R:ER B gt tb vis wv gl env) {i:Nat} (hi:i∈wv):∃ c,(i,c)∈vis:=by
 rcases R.wr i hi with q | ⟨q,_⟩
 ·exact ⟨_,q⟩
 ·exact ⟨_,q⟩
include K in
theorem js_aug (i:Nat) (q:Pos) (op:Operator) (e:E) (p:Pos):JS B A Φ Λ Gv gt tb kws (.aug i q op e p):=by
 intro vis wv gl env loc F σ s fl loc' σ' hw R I L ev
 have hw:=bA1 hw
 have hi:=List.contains_iff_mem.mp hw.1
 refine x1_2 (bind_is (es_aug.symm.trans ev)) fun o hu e1=>?_
 refine x1_2 (bind_is e1) fun u hq_255 e2=>?_
 subst hq_255
 refine xP1_2 (bind_is e2) fun ve σ₁ ee e3=>?_
 refine xP1_2 (map_is e3) fun vo σ₂ eo e4=>?_
 cases e4
 refine x1_1 (wv_vis tb R hi) fun c hc=>?_
 refine wpAny_AugAssign_Name (var_ok R L hc hu fun x rx=>?_)
 refine ((okE K tb e vis wv gl env loc F σ s hw.2 R I L).1 _ _ ee).seq fun y G₁ s₁ T₁ p₁=>?_
 have L₁:=L.step I T₁
 refine (aug_ok K.room p₁.1 (rx.along I T₁) p₁.2 eo).seq fun z G₂ s₂ T₂ p₂=>?_
 refine store_ok R p₂.1 (L₁.step p₁.1 T₂) hi p₂.2 fun s₃ p₃=>?_
 exact (sp_store tb p₁.1 L₁ T₂ p₃ (fl:=.next) (f:=.next) trivial).back T₁.w (own_live L₁)
include K in
theorem js_augSub (a i:E) (q:Pos) (op:Operator) (e:E) (p:Pos):JS B A Φ Λ Gv gt tb kws (.augSub a i q op e p):=by
 intro vis wv gl env loc F σ s fl loc' σ' hw R I L ev
 have hw:=bA2 hw
 refine xP1_2 (bind_is (es_augSub.symm.trans ev)) fun va σ₁ ea e1=>?_
 refine xP1_2 (bind_is e1) fun vi σ₂ ei e2=>?_
 refine x1_2 (bind_is e2) fun old eo e3=>?_
 refine xP1_2 (bind_is e3) fun ve σ₃ ee e4=>?_
 refine xP1_2 (bind_is e4) fun vn σ₄ en e5=>?_
 refine x1_2 (map_is e5) fun σ₅ es e6=>?_
 apply p3 e6
 refine wpAny_AugAssign_SubscriptAny (((okE K tb a vis wv gl env loc F σ s hw.1.1 R I L).1 _ _ ea).seq fun xa G₁ s₁ T₁ p₁=>?_) (by
  have:=wf_raw hw.1.2
  cases i <;> first | (intros; rfl) | exact absurd rfl (this _))
 have L₁:=L.step I T₁
 refine ((okE K tb i vis wv gl env loc _ σ₁ s₁ hw.1.2 R p₁.1 L₁).1 _ _ ei).seq fun xi G₂ s₂ T₂ p₂=>?_
 have L₂:=L₁.step p₁.1 T₂
 have ra:=p₁.2.along p₁.1 T₂
 refine (sub_ok (A:=A) p₂.1 ra p₂.2 eo).1.seq fun xo G₃ s₃ T₃ p₃=>?_
 have L₃:=L₂.step p₂.1 T₃
 refine ((okE K tb e vis wv gl env loc _ σ₂ s₃ hw.2 R p₃.1 L₃).1 _ _ ee).seq fun xe G₄ s₄ T₄ p₄=>?_
 have L₄:=L₃.step p₃.1 T₄
 refine (aug_ok K.room p₄.1 (p₃.2.along p₃.1 T₄) p₄.2 en).seq fun xn G₅ s₅ T₅ p₅=>?_
 have L₅:=L₄.step p₄.1 T₅
 refine (set_ok (A:=A) p₅.1 (((ra.along p₂.1 T₃).along p₃.1 T₄).along p₄.1 T₅) (((p₂.2.along p₂.1 T₃).along p₃.1 T₄).along p₄.1 T₅) p₅.2 es).seq fun ζ G₆ s₆ T₆ p₆=>?_
 exact (((((sp_step tb p₅.1 L₅ T₆ p₆ (f:=.next) (fl:=.next) trivial).back T₅.w (own_live L₅)).back T₄.w (own_live L₄)).back T₃.w (own_live L₃)).back T₂.w (own_live L₂)).back T₁.w (own_live L₁)
theorem E.isComp_is {e:E} (h:e.isComp=true):∃ c e₀ t it ifs r cs pos,e=.comp c e₀ t it ifs r cs pos:=by
 cases e <;> first | exact ⟨_,_,_,_,_,_,_,_,rfl⟩ | exact noT h
theorem sp_drop {v:V} {D C:Addr} {s':Shared} {h':Heap} (c:CDone B F σ v s D C G s') (L:LR B tb vis env F loc s.heap) (p:StP B tb vis wv env (F++G) σ loc' s' s₂) (hs:Heap.SameBut C s₂.heap h'):SPost B tb vis (OwnA tb wv env) env F s .next loc' σ .next { s₂ with heap:=h' }:=by
 refine x1_1 (c.ns) fun m nm=>?_
 have nF:∀ b,Fr env b→b≠C:=fun b w z=>by
  obtain ⟨_,_,o,e,_⟩:=L.fr w
  rw [z,c.dead] at e; exact noS e
 have kp:Kept (·=C) s₂.heap h':=.of_same hs
 have nm₂:s₂.heap.Ns C m:=nm.at' fun o eo=>p.keep C o eo fun w=>nF C w.fr rfl
 have nn:∀ b o,b=C→s₂.heap.get? b=some o→B.h0.get? b=none∧b∉(F++G).flatten∧¬ Imm o:=fun b o w eo=>by
  subst w; exact ⟨c.h0,c.off,ns_not_imm nm₂ eo⟩
 refine ⟨G,⟨fun b o eo n=>kp b o (p.keep b o (c.step.kept b o eo fun z=>n (.inl z)) fun z=>n (.inr z)) fun z=>?_,c.step.fresh⟩,p.inv.keep (tk:=s₂.toks) kp nn,p.lr.mv (fun b o w eo=>kp b o eo (nF b w)) (.of_kept kp fun b o w e=>.of (nn b o w e).2.2) fun b w=>(p.lr.fr w).1,trivial⟩
 rw [z,c.dead] at eo; exact noS eo
include K in
theorem js_assignName (i:Nat) (q:Pos) (e:E) (p:Pos):JS B A Φ Λ Gv gt tb kws (.assign (.name i q) e p):=by
 intro vis wv gl env loc F σ s fl loc' σ' hw R I L ev
 obtain ⟨⟨hwe,hwt⟩,_⟩:=bA2 hw
 have hi:i∈wv:=List.contains_iff_mem.mp (List.all_eq_true.mp (bA1 hwt).1 i (.head _))
 refine xP1_2 (bind_is (es_assign.symm.trans ev)) fun ve σ₁ ee e1=>?_
 refine x1_2 (map_is e1) fun loc₁ eb e2=>?_
 cases e2
 refine x0_2 (ite_is eb) fun ζ hq_256=>?_
 subst hq_256
 have plain:swapsWith (toE gt tb e) (some (.Name (nmOf tb i) q)) p.line env=pure false→wpAny (model B.prog B.w) A (exec (.Assign [.Name (nmOf tb i) q] (toE gt tb e) p) env) (SPost B tb vis (OwnA tb wv env) env F s .next (loc.set i (some ve)) σ₁) Bot s:=fun hs =>
  wpAny_Assign_Name (((okE K tb e vis wv gl env loc F σ s hwe R I L).1 _ _ ee).seq fun x G₁ s₁ T₁ p₁=>store_ok R p₁.1 (L.step I T₁) hi p₁.2 fun s₂ p₂=>sp_store tb I L T₁ p₂ trivial) hs
 cases hc:e.isComp with
 | false=>exact plain (not_swap tb (wf_raw hwe) hc _ _)
 | true =>
  refine x8_1 (E.isComp_is hc) fun cell e₀ t it ifs r cs pos hq=>?_
  subst hq
  show wpAny _ _ (exec (.Assign [.Name (nmOf tb i) q] (.ListComp (toE gt tb e₀) (toCL gt tb (.cons t it ifs r)) cs.sc pos) p) env) _ _ _
  obtain ⟨b,hb⟩:∃ b:Bool,swapsWith (.ListComp (toE gt tb e₀) (toCL gt tb (.cons t it ifs r)) cs.sc pos) (some (.Name (nmOf tb i) q)) p.line env=pure b:=⟨_,rfl⟩
  cases b with
  | false=>exact plain hb
  | true =>
   rw [exec_Assign_Name_used _ _ _ _ hb]
   refine wpAny_bind (wpAny_standAt (wpAny_bind ?_))
   show wpAny _ _ (comprehension _ _ _ _ _ _ _ _ >>= _) _ _ _
   refine wpAny_bind (comp_use K tb (okE K tb it) (okEL K tb ifs) (okC K tb r) (okE K tb e₀) hwe R I L ee fun D C G s' c=>?_)
   show wpAny _ _ (assign (.Name (nmOf tb i) q) env (.ref D)) _ _ s'
   refine wpAny_assign_Name (store_ok R c.pe.1 (L.step I c.step) hi c.pe.2 fun s₂ p₂=>?_)
   refine x1_1 (c.ns) fun m nm=>?_
   exact ⟨m,nm.at' fun o eo=>p₂.keep C o eo fun w=>(by refine x1_1 (own_live (wv:=wv) L C w) fun o eo=>?_; rw [c.dead] at eo; cases eo),fun h' hs=>wpAny_pure (wpAny_pure (sp_drop tb c L p₂ hs))⟩
end
end Mine
namespace Mine
open PySem
theorem fm_full {α β:Type} {f:α→Option β} {g:α→β} (hg:∀ a b,f a=some b→b=g a):∀ {l:List α},(l.filterMap f).length=l.length→l.filterMap f=l.map g
 | [],_=>rfl
 | a :: l,h=>by
  rw [List.filterMap_cons] at h ⊢
  cases q:f a with
  | none =>
   rw [q] at h
   have:=List.length_filterMap_le f l
   simp only [List.length_cons] at h
   (first | lia | omega)
  | some b =>
   rw [q] at h
   simp only [List.length_cons,Nat.add_right_cancel_iff] at h
   simp only [List.map_cons]
   rw [fm_full hg h,hg a b q]
theorem zip_rev {α β:Type}:∀ {l:List α} {m:List β},l.length=m.length→l.reverse.zip m.reverse=(l.zip m).reverse
 | [],[],_=>rfl
 | a :: l,b :: m,h=>by
  simp only [List.length_cons,Nat.add_right_cancel_iff] at h
  rw [List.reverse_cons,List.reverse_cons,List.zip_cons_cons,List.reverse_cons,List.zip_append (by simp [h]),zip_rev h]
  rfl
theorem VRs.reverse {fa:Nat→Addr} {h:Heap} {F:Lay} {vs:List V}:∀ {xs:List Value},VRs fa h F vs xs→VRs fa h F vs.reverse xs.reverse:=by
 induction vs with
 | nil=>intro xs r; rw [r.nil_is]; exact .nil
 | cons v vs ih =>
  intro xs r
  refine x2_3 (r.cons_is) ?_; (try clear r); intro x ys hq_258 a r
  apply q1 hq_258
  rw [List.reverse_cons,List.reverse_cons]
  exact (ih r).append (.one a)
section
variable {B:Base} {A:Around} {d:Nat} {Φ:Calls} {Λ:Lexer} {Gv:Nat→Option V} {gt:List Str} {mk:Me→Nat} {kws:Nat→Str→Bool} (K:Kit B A d Φ Λ Gv gt mk kws) (tb:List Str)
variable {F G:Lay} {σ:Sto} {s s₁ s₂:Shared} {vis:List (Nat × Bool)} {wv gl:List Nat} {env:Env} {loc loc':Loc}
set_option tactic.hygienic true in
theorem swap_cases (is:List (Nat × Pos)) (vs:List Expr) (p q:Pos) (hc:vs.all (constantsAlone 8)=false) :
  swappedStores [.Tuple (is.map fun x=>.Name (nmOf tb x.1) x.2) 0 p] (.Tuple vs 0 q) env=pure none∨swappedStores [.Tuple (is.map fun x=>.Name (nmOf tb x.1) x.2) 0 p] (.Tuple vs 0 q) env=pure (some (is.map fun x=>nmOf tb x.1)):=by
 unfold swappedStores
 dsimp only
 split
 ·exact .inl rfl
 ·split
  ·exact .inl rfl
  ·split
   ·exact .inl rfl
   ·rename_i h
    split
    ·exact .inl rfl
    ·rw [hc]
     refine .inr ?_
     simp only [Bool.false_eq_true,if_false]
     rw [Bool.or_eq_true,not_or] at h
     have h1:=Decidable.not_not.mp fun z=>h.1 (bne_iff_ne.mpr z)
     rw [fm_full (g:=fun e=>match e with | .Name id _=>id | _=>Str.empty) (fun a b q=>?_) h1,List.map_map]
     ·rfl
     ·split at q
      ·split at q
       ·cases q; rfl
       ·exact noS q
      ·exact noS q
theorem E.isTup_is {e:E} {es:EL} (h:e.isTup=some es):∃ p,e=.tup es p:=by
 cases e <;> first | (cases h; exact ⟨_,rfl⟩) | exact noS h
theorem sole_not (is:List (Nat × Pos)) (q:Pos) {e:E} (h:∀ x,e≠.raw x) (n:Nat):swapsWithSole [toTg tb (.tup is q)] (toE gt tb e) n env=pure false:=by
 cases e <;> first | rfl | exact absurd rfl (h _)
theorem stores_not (is:List (Nat × Pos)) (q:Pos) {e:E} (h:∀ x,e≠.raw x) (hc:e.isTup=none):swappedStores [.Tuple (is.map fun x=>.Name (nmOf tb x.1) x.2) 0 q] (toE gt tb e) env=pure none:=by
 cases e <;> first | rfl | exact absurd rfl (h _) | cases hc
include K in
theorem js_assignTup (is:List (Nat × Pos)) (q:Pos) (e:E) (p:Pos):JS B A Φ Λ Gv gt tb kws (.assign (.tup is q) e p):=by
 intro vis wv gl env loc F σ s fl loc' σ' hw R I L ev
 rw [show toS gt tb (.assign (.tup is q) e p)=Stmt.Assign [Expr.Tuple (is.map fun x=>.Name (nmOf tb x.1) x.2) 0 q] (toE gt tb e) p from rfl]
 obtain ⟨⟨hwe,hwt⟩,hwc⟩:=bA2 hw
 have hwt:=bA1 hwt
 have ht:∀ i∈tgSlots (.tup is q),i∈wv:=fun i hi=>List.contains_iff_mem.mp (List.all_eq_true.mp hwt.1 i hi)
 refine xP1_2 (bind_is (es_assign.symm.trans ev)) fun ve σ₁ ee e1=>?_
 refine x1_2 (map_is e1) fun loc₁ eb e2=>?_
 cases e2
 have hs:swapsWithSole [Expr.Tuple (is.map fun x=>.Name (nmOf tb x.1) x.2) 0 q] (toE gt tb e) p.line env=pure false:=sole_not tb is q (wf_raw hwe) _
 have main:wpAny (model B.prog B.w) A (eval (toE gt tb e) env) (fun v s₁=>wpAny (model B.prog B.w) A (assign (Expr.Tuple (is.map fun x=>.Name (nmOf tb x.1) x.2) 0 q) env v) (fun ζ=>SPost B tb vis (OwnA tb wv env) env F s .next loc' σ₁ .next) Bot s₁) Bot s :=
  ((okE K tb e vis wv gl env loc F σ s hwe R I L).1 _ _ ee).seq fun x G₁ s₁ T₁ p₁=>bind_ok K.room.handled R p₁.1 (L.step I T₁) (t:=.tup is q) ht p₁.2 eb fun s₂ p₂=>sp_store tb I L T₁ p₂ trivial
 cases hc:e.isTup with
 | none=>exact PyProof.Rows.Assign_Tuple main hs (stores_not tb is q (wf_raw hwe) hc)
 | some es =>
  refine x1_1 (E.isTup_is hc) fun p' hq_259=>?_
  subst hq_259
  rw [show (E.tup es p').isTup=some es from rfl] at hwc
  dsimp only at hwc
  rw [Bool.not_eq_true'] at hwc
  rcases swap_cases tb (env:=env) is (toEL gt tb es) q p' hwc with hsw | hsw
  ·exact PyProof.Rows.Assign_Tuple main hs hsw
  ·refine x1_2 (bind_is eb) ?_
   (try clear eb)
   intro vs hv eb
   refine x0_2 (ite_is eb) fun hl hq_260=>?_
   apply q2 hq_260
   refine PyProof.Rows.Assign_Tuple_swapped (((okE K tb (.tup es p') vis wv gl env loc F σ s hwe R I L).1 _ _ ee).seq fun x G₁ s₁ T₁ p₁=>?_) hs hsw
   have L₁:=L.step I T₁
   have hl':(is.map (·.1)).length=vs.length:=by rw [List.length_map,hl]
   rw [show (is.map fun x=>nmOf tb x.1).length=vs.length by rw [List.length_map,hl]]
   refine unpack_ok K.room.handled p₁.1 p₁.2 hv fun xs s₂ I₂ k₂ rs=>?_
   have em:((is.map fun x=>nmOf tb x.1).reverse.map fun n=>bindName env n)=((is.map (·.1)).reverse.map fun i=>bindName env (nmOf tb i)):=by
    rw [← List.map_reverse,← List.map_reverse,List.map_map,List.map_map]; rfl
   rw [em]
   refine stores_ok (key:=id) R (fun i=>bindName env (nmOf tb i)) (fun i x s Q E h=>wpAny_bindName h) _ vs.reverse xs.reverse loc s₂ _ (fun i hi=>ht i (List.mem_reverse.mp (by rw [List.map_id] at hi; exact hi))) (by rw [List.length_reverse,List.length_reverse]; exact hl') I₂ (L₁.mv (fun b o ζ e=>k₂ b o e) (.of k₂) fun b w=>(L₁.fr w).1) rs.reverse fun s₃ p₃=>?_
   rw [List.map_id,zip_rev hl',setAll_reverse _ _ (by rw [List.map_fst_zip (Nat.le_of_eq hl')]; exact of_decide_eq_true hwt.2),← fold_setAll] at p₃
   exact sp_store tb I L T₁ ⟨p₃.inv,p₃.lr,fun b o e w=>p₃.keep b o (k₂ b o e) w⟩ trivial
end
end Mine
namespace Mine
open PySem
section
variable {B:Base} {A:Around} {d:Nat} {Φ:Calls} {Λ:Lexer} {Gv:Nat→Option V} {gt:List Str} {mk:Me→Nat} {kws:Nat→Str→Bool} (K:Kit B A d Φ Λ Gv gt mk kws) (tb:List Str)
noncomputable def stR (P:Flow→Shared→Prop):Result→Shared→Prop:=fun r s'=>match r with
 | .ok f=>P f s'
 | .error _=>False
noncomputable def BodyQ (P:Flow→Shared→Prop) (n:Nat) (J:Nat→Shared→Prop) (f:Flow) (s₃:Shared):Prop:=match f with
 | .next | .cont=>∃ m,m < n∧J m s₃
 | .brk=>stR P (.ok .next) s₃
 | .ret v=>stR P (.ok (.ret v)) s₃
noncomputable def Rest (V:Loc→Sto→Option (Fl × Loc × Sto)) (r:Fl × Loc × Sto) (y:Bool × (Fl × Loc) × Sto):Prop:=if y.1 then V y.2.1.2 y.2.2=some r else (y.2.1.1,y.2.1.2,y.2.2)=r
theorem whileN_is {t:Loc→Sto→Option (Bool × Sto)} {b:Loc→Sto→Option (Bool × (Fl × Loc) × Sto)} {n:Nat} {loc:Loc} {σ:Sto} {r:Fl × Loc × Sto} (e:whileN t b n loc σ=some r):∃ m c,n=m+1∧t loc σ=some c∧if c.1 then ∃ y,b loc c.2=some y∧Rest (whileN t b m) r y else (Fl.next,loc,c.2)=r:=by
 cases n with
 | zero=>exact noS e
 | succ m =>
  refine x1_2 (bind_is e) ?_
  (try clear e)
  intro c et e
  refine ⟨m,c,rfl,et,?_⟩
  by_cases hc:c.1=true
  ·rw [if_pos hc] at e ⊢
   refine x1_2 (bind_is e) ?_
   (try clear e)
   intro y eb e
   refine ⟨y,eb,?_⟩
   unfold Rest
   by_cases hy:y.1=true
   ·rw [if_pos hy] at e ⊢; exact e
   ·rw [if_neg hy] at e ⊢; exact Option.some.inj e
  ·rw [if_neg hc] at e ⊢; exact Option.some.inj e
section
variable {vis:List (Nat × Bool)} {wv gl:List Nat} {W:Addr→Prop} {env:Env} {F:Lay} {σ:Sto} {loc:Loc} {s s₃:Shared} {r:Fl × Loc × Sto} {clr:List Nat}
noncomputable def LoopX (B:Base) (tb:List Str) (vis:List (Nat × Bool)) (W:Addr→Prop) (env:Env) (F:Lay) (s:Shared) (S:Nat→Lay→Sto→Heap→Prop) (P:Nat→Loc→Sto→Prop) (s₁:Shared):Prop :=
 ∃ G k loc σ,StepW W B F s G s₁∧Inv B (F++G) σ s₁∧LR B tb vis env (F++G) loc s₁.heap∧S k (F++G) σ s₁.heap∧P k loc σ
theorem body_end {V:Loc→Sto→Option (Fl × Loc × Sto)} {x:Fl × Loc × Sto} {f:Flow} {m n:Nat} {J:Nat→Shared→Prop} {P:Flow→Shared→Prop} (p:SPost B tb vis W env F s x.1 x.2.1 x.2.2 f s₃) (e:Rest V r (turn clr x)) (hm:m < n) (hP:∀ f,SPost B tb vis W env F s r.1 r.2.1 r.2.2 f s₃→P f s₃)
  (hJ:∀ G loc,StepW W B F s G s₃→Inv B (F++G) x.2.2 s₃→LR B tb vis env (F++G) loc s₃.heap→V loc x.2.2=some r→J m s₃):BodyQ P n J f s₃:=by
 refine x1_4 (p) fun G T I L q=>?_
 obtain ⟨fb,l2,σ₃⟩:=x
 have L':=L.weak (loc':=clear clr l2) fun i v e=>(clear_get _ _ _ _ e).1
 cases fb with
 | next=>cases f <;> first | exact q.elim | exact ⟨m,hm,hJ G _ T I L' e⟩
 | cont=>cases f <;> first | exact q.elim | exact ⟨m,hm,hJ G _ T I L' e⟩
 | brk=>cases e; cases f <;> first | exact q.elim | exact hP _ ⟨G,T,I,L,trivial⟩
 | ret v=>cases e; cases f <;> first | exact q.elim | exact hP _ ⟨G,T,I,L,q⟩
theorem SPost.backP {G:Lay} {s₁:Shared} (I:Inv B (F++G) σ s₁) (L:LR B tb vis env (F++G) loc s₁.heap) (T:StepW (OwnA tb wv env) B F s G s₁):∀ f,SPost B tb vis (OwnA tb wv env) env (F++G) s₁ r.1 r.2.1 r.2.2 f s₃→SPost B tb vis (OwnA tb wv env) env F s r.1 r.2.1 r.2.2 f s₃:=fun ζ p=>p.back T (own_live L)
theorem StepW.own {G G':Lay} {s₁:Shared} (T:StepW (OwnA tb wv env) B F s G s₁) (L:LR B tb vis env (F++G) loc s₁.heap) (T':StepW (OwnA tb wv env) B (F++G) s₁ G' s₃) (I:Inv B (F++G++G') σ s₃):StepW (OwnA tb wv env) B F s (G++G') s₃:=T.trans T' I fun a w z=>by
 refine x1_1 (own_live L a w) fun o eo=>?_
 rw [T'.fresh a z] at eo; exact noS eo
theorem LoopX.on {S:Nat→Lay→Sto→Heap→Prop} {P:Nat→Loc→Sto→Prop} {G G':Lay} {s₁:Shared} {loc':Loc} {σ':Sto} {k:Nat} (T:StepW (OwnA tb wv env) B F s G s₁) (L:LR B tb vis env (F++G) loc s₁.heap) (T':StepW (OwnA tb wv env) B (F++G) s₁ G' s₃) (I:Inv B (F++G++G') σ' s₃) (L':LR B tb vis env (F++G++G') loc' s₃.heap) (hS:S k (F++G++G') σ' s₃.heap) (hP:P k loc' σ'):LoopX B tb vis (OwnA tb wv env) env F s S P s₃ :=
 ⟨G++G',k,loc',σ',StepW.own tb T L T' I,by rw [← List.append_assoc]; exact ⟨I,L',hS,hP⟩⟩
theorem LoopX.start {S:Nat→Lay→Sto→Heap→Prop} {P:Nat→Loc→Sto→Prop} {k:Nat} {s':Shared} (I:Inv B F σ s') (L:LR B tb vis env F loc s'.heap) (kp:∀ b o,s.heap.get? b=some o→s'.heap.get? b=some o) (hS:S k F σ s'.heap) (hP:P k loc σ):LoopX B tb vis W env F s S P s' :=
 ⟨[],k,loc,σ,⟨fun b o e ζ=>kp b o e,fun ζ h=>by cases h⟩,by rw [List.append_nil]; exact ⟨I,L,hS,hP⟩⟩
end
theorem whil_turn (K:Kit B A d Φ Λ Gv gt mk kws) {clr:List Nat} {t:E} {a:SL} (ha:JSL B A Φ Λ Gv gt tb kws a) {vis:List (Nat × Bool)} {wv gl:List Nat} {env:Env} {F:Lay} {s:Shared} (hwt:wfE gt tb kws Gv vis gl t=true) (hwa:wfSL gt tb kws Gv vis wv gl a=true) (R:ER B gt tb vis wv gl env) {r:Fl × Loc × Sto} {n:Nat} {s₁:Shared} {J:Nat→Shared→Prop}
  (hJ:∀ m s',LoopX B tb vis (OwnA tb wv env) env F s (fun ζ ζ ζ ζ=>True) (fun ζ l σ=>whileN (fun loc σ=>evT Φ Λ Gv t loc σ) (fun loc σ=>(evSL Φ Λ Gv a loc σ).map (turn clr)) m l σ=some r) s'→J m s')
  (h:LoopX B tb vis (OwnA tb wv env) env F s (fun ζ ζ ζ ζ=>True) (fun ζ l σ=>whileN (fun loc σ=>evT Φ Λ Gv t loc σ) (fun loc σ=>(evSL Φ Λ Gv a loc σ).map (turn clr)) n l σ=some r) s₁) {E:Value→Shared→Prop} :
  wpAny (model B.prog B.w) A (PySem.isTrue (toE gt tb t) env (eval (toE gt tb t) env)) (fun b s₂=>if b then wpAny (model B.prog B.w) A (execs (toSL gt tb a) env) (BodyQ (SPost B tb vis (OwnA tb wv env) env F s r.1 r.2.1 r.2.2) n J) E s₂ else wpAny (model B.prog B.w) A (execs [] env) (fun f s₃=>stR (SPost B tb vis (OwnA tb wv env) env F s r.1 r.2.1 r.2.2) (.ok f) s₃) E s₂) E s₁:=by
 refine x4_5 (h) fun G ζ loc₁ σ₁ T I₁ L₁ ζ e=>?_
 refine x2_3 (whileN_is e) ?_
 (try clear e)
 intro m c hq_261 et e
 apply q1 hq_261
 refine wpAny_mono ((okE K tb t vis wv gl env loc₁ _ σ₁ s₁ hwt R I₁ L₁).2 c.1 c.2 et) (fun b s₂ ⟨G₂,T₂,I₂,hb⟩=>?_) fun ζ ζ z=>z.elim
 have L₂:=L₁.step I₁ T₂
 have T₃:=StepW.own tb T L₁ T₂.w I₂
 rw [List.append_assoc] at L₂ I₂
 rw [hb]
 by_cases hc:c.1=true
 ·rw [if_pos hc] at e ⊢
  refine x1_2 (e) ?_; (try clear e); intro y eb e
  refine x1_2 (map_is eb) fun x ex hq_262=>?_
  subst hq_262
  exact wpAny_mono (ha vis wv gl env loc₁ _ c.2 s₂ x.1 x.2.1 x.2.2 hwa R I₂ L₂ ex) (fun f s₃ p₃=>body_end tb p₃ e (Nat.lt_succ_self m) (SPost.backP tb I₂ L₂ T₃) fun G' loc' T' I' L' e'=>hJ m s₃ (.on (k:=0) tb T₃ L₂ T' I' L' trivial e')) fun ζ ζ z=>z.elim
 ·rw [if_neg hc] at e ⊢
  apply q2 e
  exact wpAny_execs_nil ⟨G++G₂,T₃,I₂,L₂,trivial⟩
theorem js_whil (K:Kit B A d Φ Λ Gv gt mk kws) {fuel:Nat} {clr:List Nat} {t:E} {a:SL} (ha:JSL B A Φ Λ Gv gt tb kws a) (p:Pos):JS B A Φ Λ Gv gt tb kws (.whil fuel clr t a p):=by
 intro vis wv gl env loc F σ s fl loc' σ' hw R I L ev
 have hw:=bA1 hw
 refine wpAny_While (codeAny_mono (codeAny_whileLoop (R:=stR (SPost B tb vis (OwnA tb wv env) env F s fl loc' σ')) (fun n=>LoopX B tb vis (OwnA tb wv env) env F s (fun ζ ζ ζ ζ=>True) (fun ζ l σ=>whileN (fun loc σ=>evT Φ Λ Gv t loc σ) (fun loc σ=>(evSL Φ Λ Gv a loc σ).map (turn clr)) n l σ=some (fl,loc',σ')))
  (fun n s₁ h=>whil_turn (r:=(fl,loc',σ')) tb K ha hw.1 hw.2 R (fun ζ ζ h=>h) h) fuel (.start tb (k:=0) I L (fun ζ ζ e=>e) trivial (es_whil.symm.trans ev))) fun r s' h=>?_)
 cases r with
 | ok f=>exact h
 | error z=>exact h.elim
end
end Mine
namespace Mine
open PySem
section
variable {B:Base} {A:Around} {d:Nat} {Φ:Calls} {Λ:Lexer} {Gv:Nat→Option V} {gt:List Str} {mk:Me→Nat} {kws:Nat→Str→Bool} (K:Kit B A d Φ Λ Gv gt mk kws) (tb:List Str)
theorem turn_on {clr:List Nat} {x:Fl × Loc × Sto} (h:(turn clr x).1=true):(turn clr x).2.1=(.next,(turn clr x).2.1.2):=by
 obtain ⟨fb,l,σ⟩:=x
 cases fb <;> first | rfl | exact noT h
theorem rest_of {clr:List Nat} {x:Fl × Loc × Sto} {r:Fl × Loc × Sto} {go:Fl × Loc→Sto→Option (Bool × (Fl × Loc) × Sto)} {K:Loc→Sto→Option (Fl × Loc × Sto)} {z:Bool × (Fl × Loc) × Sto} (e:if (turn clr x).1 then go (turn clr x).2.1 (turn clr x).2.2=some z else z=turn clr x) (hz:endF K z=some r):Rest (fun l s=>(go (.next,l) s).bind (endF K)) r (turn clr x):=by
 unfold Rest
 by_cases h:(turn clr x).1=true
 ·rw [if_pos h] at e ⊢
  rw [turn_on h] at e
  exact Option.bind_eq_some_iff.mpr ⟨z,e,hz⟩
 ·rw [if_neg h] at e ⊢
  subst e
  unfold endF at hz
  rw [if_neg h] at hz
  exact Option.some.inj hz
theorem loop_is {clr:List Nat} {t:Tg} {a:SL} {n k:Nat} {it:It} {loc:Loc} {σ:Sto} {r:Fl × Loc × Sto} {K:Loc→Sto→Option (Fl × Loc × Sto)} (e:(iterate (loopStep Φ Λ Gv clr t a) it n k (Fl.next,loc) σ).bind (endF K)=some r) :
  (nextAt it k σ=some none∧K loc σ=some r)∨∃ m v loc₁ x,n=m+1∧nextAt it k σ=some (some v)∧bindT t v loc σ=some loc₁∧evSL Φ Λ Gv a loc₁ σ=some x∧Rest (fun l s=>(iterate (loopStep Φ Λ Gv clr t a) it m (k+1) (Fl.next,l) s).bind (endF K)) r (turn clr x):=by
 refine x1_2 (bind_is e) fun z h hz=>?_
 (try clear e)
 rcases iterate_inv h with ⟨q,rfl⟩ | ⟨m,v,y,rfl,q,hs,h'⟩
 ·exact .inl ⟨q,hz⟩
 ·refine x2_3 (map2_is hs) fun loc₁ x eb ea hq_263=>?_
  subst hq_263
  exact .inr ⟨m,v,loc₁,x,rfl,q,eb,ea,rest_of (go:=iterate (loopStep Φ Λ Gv clr t a) it m (k+1)) h' hz⟩
noncomputable def NextQ (B:Base) (A:Around) (gt tb:List Str) (t:Tg) (a b:SL) (env:Env) (I:Addr) (P:Flow→Shared→Prop) (n:Nat) (J:Nat→Shared→Prop) (E:Value→Shared→Prop) (r:Option Value) (s₄:Shared):Prop:=match r with
 | none=>wpAny (model B.prog B.w) A (execs (toSL gt tb b) env) (fun f s₃=>stR P (.ok f) s₃) E s₄
 | some v=>wpAny (model B.prog B.w) A (letOwnedTupleGo (toTg tb t) (.ref I) v) (fun ζ s₁'=>wpAny (model B.prog B.w) A (assign (toTg tb t) env v) (fun ζ s₂=>wpAny (model B.prog B.w) A (execs (toSL gt tb a) env) (BodyQ P n J) E s₂) E s₁') E s₄
section
variable {vis:List (Nat × Bool)} {wv gl:List Nat} {env:Env} {F G:Lay} {s s₄ s₅ s₆:Shared} {r:Fl × Loc × Sto} {clr:List Nat} {σ:Sto} {loc:Loc}
theorem turn_ok (K:Kit B A d Φ Λ Gv gt mk kws) {t:Tg} {a:SL} (ha:JSL B A Φ Λ Gv gt tb kws a) (hwa:wfSL gt tb kws Gv vis wv gl a=true) (ht:∀ i∈tgSlots t,i∈wv) (R:ER B gt tb vis wv gl env) {loc₅:Loc} {v:V} {x:Value} {y:Fl × Loc × Sto} {V':Loc→Sto→Option (Fl × Loc × Sto)} {m n:Nat} {J:Nat→Shared→Prop} {P:Flow→Shared→Prop}
  (I₄:Inv B F σ s₄) (L₄:LR B tb vis env F loc s₄.heap) (rx:VR B.fa s₄.heap F v x) (eb:bindT t v loc σ=some loc₅) (ea:evSL Φ Λ Gv a loc₅ σ=some y) (e:Rest V' r (turn clr y)) (hm:m < n)
  (hP:∀ f s₆,SPost B tb vis (OwnA tb wv env) env F s₄ r.1 r.2.1 r.2.2 f s₆→P f s₆)
  (hJ:∀ G loc s₆,StepW (OwnA tb wv env) B F s₄ G s₆→Inv B (F++G) y.2.2 s₆→LR B tb vis env (F++G) loc s₆.heap→V' loc y.2.2=some r→J m s₆) {E E':Value→Shared→Prop} :
  wpAny (model B.prog B.w) A (assign (toTg tb t) env x) (fun ζ s₂=>wpAny (model B.prog B.w) A (execs (toSL gt tb a) env) (BodyQ P n J) E s₂) E' s₄:=by
 refine bind_ok K.room.handled R I₄ L₄ ht rx eb fun s₅ p₅=>?_
 have T₅:StepW (OwnA tb wv env) B F s₄ [] s₅:=.of_kept p₅.keep
 have I₅:Inv B (F++[]) σ s₅:=by rw [List.append_nil]; exact p₅.inv
 have L₅:LR B tb vis env (F++[]) loc₅ s₅.heap:=by rw [List.append_nil]; exact p₅.lr
 refine wpAny_mono (ha vis wv gl env loc₅ _ σ s₅ y.1 y.2.1 y.2.2 hwa R I₅ L₅ ea) (fun f s₆ p₆=>?_) fun ζ ζ z=>z.elim
 exact body_end tb (p₆.back T₅ (own_live L₅)) e hm (fun f p=>hP f s₆ p) fun G loc T I L e=>hJ G loc s₆ T I L e
theorem else_ok {b:SL} {P:Flow→Shared→Prop} (hb:JSL B A Φ Λ Gv gt tb kws b) (hwb:wfSL gt tb kws Gv vis wv gl b=true) (R:ER B gt tb vis wv gl env) (hP:∀ f s',SPost B tb vis (OwnA tb wv env) env F s r.1 r.2.1 r.2.2 f s'→P f s') (T:StepW (OwnA tb wv env) B F s G s₄) (I:Inv B (F++G) σ s₄) (L:LR B tb vis env (F++G) loc s₄.heap) (e:evSL Φ Λ Gv b loc σ=some r) {E:Value→Shared→Prop}:wpAny (model B.prog B.w) A (execs (toSL gt tb b) env) (fun f s₃=>stR P (.ok f) s₃) E s₄ :=
 wpAny_mono (hb vis wv gl env loc _ σ s₄ r.1 r.2.1 r.2.2 hwb R I L e) (fun f s₅ p=>hP _ _ (p.back T (own_live L))) fun ζ ζ z=>z.elim
theorem StepW.draw {W:Addr→Prop} (T:StepW (OwnA tb wv env) B F s G s₄) (kp:Kept W s₄.heap s₅.heap) (d:∀ b,W b→s.heap.get? b=none):StepW (OwnA tb wv env) B F s G s₅:=⟨fun b o e n=>kp b o (T.kept b o e n) fun z=>(by rw [d b z] at e; cases e),T.fresh⟩
end
theorem loop_turn (K:Kit B A d Φ Λ Gv gt mk kws) {clr:List Nat} {t:Tg} {a b:SL} (ha:JSL B A Φ Λ Gv gt tb kws a) (hb:JSL B A Φ Λ Gv gt tb kws b) {vis:List (Nat × Bool)} {wv gl:List Nat} {env:Env} {F:Lay} {s:Shared} (hwa:wfSL gt tb kws Gv vis wv gl a=true) (hwb:wfSL gt tb kws Gv vis wv gl b=true) (ht:∀ i∈tgSlots t,i∈wv) (R:ER B gt tb vis wv gl env) {I:Addr} (hF:s.heap.get? I=none) {it:It} {r:Fl × Loc × Sto} {n:Nat} {s₃:Shared} {P:Flow→Shared→Prop} {J:Nat→Shared→Prop} (hP:∀ f s',SPost B tb vis (OwnA tb wv env) env F s r.1 r.2.1 r.2.2 f s'→P f s')
  (hJ:∀ n s',LoopX B tb vis (OwnA tb wv env) env F s (fun k F ζ h=>IOn B env F h I k it) (fun k l σ=>(iterate (loopStep Φ Λ Gv clr t a) it n k (Fl.next,l) σ).bind (endF fun loc σ=>evSL Φ Λ Gv b loc σ)=some r) s'→J n s')
  (h:LoopX B tb vis (OwnA tb wv env) env F s (fun k F ζ h=>IOn B env F h I k it) (fun k l σ=>(iterate (loopStep Φ Λ Gv clr t a) it n k (Fl.next,l) σ).bind (endF fun loc σ=>evSL Φ Λ Gv b loc σ)=some r) s₃) {E:Value→Shared→Prop} :
  wpAny (model B.prog B.w) A (pyNext (.ref I)) (NextQ B A gt tb t a b env I P n J E) E s₃:=by
 refine x4_5 (h) fun G k loc₃ σ₃ T I₃ L₃ r₃ e=>?_
 rcases loop_is e with ⟨q,e⟩ | ⟨m,v,loc₁,x,rfl,q,eb,ea,e⟩
 ·exact next_on K.room.handled I₃ r₃ q (fun ζ s₄ nx=>else_ok tb hb hwb R hP (T.draw tb nx.keep fun b z=>z▸hF) nx.inv (L₃.next r₃ nx) e) fun v x s₄ z=>nomatch z
 ·refine next_on K.room.handled I₃ r₃ q (fun z=>nomatch z) fun v' y s₄ z nx r₄ rx=>?_
  cases z
  have T₄:=T.draw tb nx.keep fun b z=>z▸hF
  have L₄:=L₃.next r₃ nx
  refine go_ok r₄.itr (turn_ok tb K ha hwa ht R nx.inv L₄ rx eb ea e (Nat.lt_succ_self m) (fun f s₆ p=>hP _ _ (SPost.backP tb nx.inv L₄ T₄ f p)) fun G' loc' s₆ T' I' L' e'=>?_)
  exact hJ _ _ (.on (k:=k+1) tb T₄ L₄ T' I' L' (r₄.stepW nx.inv T' (own_mut nx.inv L₄) fun w=>r₄.own I w.fr rfl) e')
theorem js_loop (K:Kit B A d Φ Λ Gv gt mk kws) {clr:List Nat} {t:Tg} {ie:E} {a b:SL} (ha:JSL B A Φ Λ Gv gt tb kws a) (hb:JSL B A Φ Λ Gv gt tb kws b) (p:Pos):JS B A Φ Λ Gv gt tb kws (.loop clr t ie a b p):=by
 intro vis wv gl env loc F σ s fl loc' σ' hw R Iv L ev
 refine x0_2 (bA3 hw) fun hw_264 hwb=>?_
 obtain ⟨⟨hwi,hwt⟩,hwa⟩:=hw_264
 have ht:∀ i∈tgSlots t,i∈wv:=fun i hi=>List.contains_iff_mem.mp (List.all_eq_true.mp (bA1 hwt).1 i hi)
 refine xP1_2 (bind_is (es_loop.symm.trans ev)) fun vi σ₁ ei e1=>?_
 refine xP1_2 (bind_is e1) fun it n en e2=>?_
 refine wpAny_For (((okE K tb ie vis wv gl env loc F σ s hwi R Iv L).1 _ _ ei).seq fun x G₁ s₁ T₁ p₁=>?_) (folded_ok ie (wf_raw hwi))
 have L₁:=L.step Iv T₁
 refine iter_ok p₁.1 p₁.2 en fun I s₂ p₂=>?_
 refine codeAny_mono (codeAny_forLoop_any (R:=stR (SPost B tb vis (OwnA tb wv env) env (F++G₁) s₁ fl loc' σ'))
  (fun n=>LoopX B tb vis (OwnA tb wv env) env (F++G₁) s₁ (fun k F ζ h=>IOn B env F h I k it) (fun k l σ=>(iterate (loopStep Φ Λ Gv clr t a) it n k (Fl.next,l) σ).bind (endF fun loc σ=>evSL Φ Λ Gv b loc σ)=some (fl,loc',σ')))
  (fun n s₃ h=>loop_turn (r:=(fl,loc',σ')) tb K ha hb hwa hwb ht R p₂.dead (fun ζ ζ h=>h) (fun ζ ζ h=>h) h) n (.start tb (k:=0) p₂.inv (L₁.mv (fun b o ζ e=>p₂.keep b o e) (.of p₂.keep) fun b w=>(L₁.fr w).1) p₂.keep (.new p₁.1 L₁ p₂) e2)) fun r s' h=>?_
 cases r with
 | error z=>exact h.elim
 | ok f=>exact h.back T₁.w (own_live L₁)
end
end Mine
namespace Mine
open PySem
open AutoSeq1 (wpAny_loadPart')
theorem meets_enum_tuple (l:Addr) (items:Array Value) (n:Nat) :
  Meets (Builtin.«enumerate.__new__» ⟨[.type "enumerate",.ref l],[]⟩) (fun ζ R s=>s.heap.get? l=some { cls:=.type "tuple",dict:=none,data:=.seq items n,slots:=#[] } ∧
   R (.ok (.ret (.ref (s.heap.push { cls:=.type "tuple_iterator",data:=.fields #[.ref l,.int 0 0] }).objs.size)))
    { s with heap:=(s.heap.push { cls:=.type "tuple_iterator",data:=.fields #[.ref l,.int 0 0] }).push { cls:=.type "enumerate",data:=.fields #[.none,.bool false,.ref s.heap.objs.size,rawInt 0,.none,.none] } }) :=
 .of_wp fun prog w A R s h=>by
  obtain ⟨hp,g,d,tk,os⟩:=s; (refine x0_2 (h) ?_; (try clear h); intro hl h)
  have hsub:=sub_enumerate
  have hL:Heap.IsTuple (Shared.heap ⟨hp,g,d,tk,os⟩) l items:=⟨_,hl,rfl,n,rfl⟩
  wp_walk using wpAny_loadPart' hl
  refine wpAny_stack_any fun st=>wpAny_pure ?_
  generalize PySem.Builtin.SmallTypes.calledThroughType.match_1 _ _ _ _=b
  cases b
  ·wp_walk using wpAny_loadPart' hl,wpAny_pyIter_tuple hL
   exact ⟨_,rfl,h⟩
  ·wp_walk using wpAny_loadPart' hl,wpAny_pyIter_tuple hL
   exact ⟨_,rfl,h⟩
section
variable {prog:Program} {w:World} {A:Around} {E:Value→Shared→Prop} {s:Shared}
theorem nextOf_tuple_item {it l:Addr} {i:Nat} {items} {x:Value} {Q:Value→Shared→Prop} (hit:s.heap.IsTupleIter it l i)
  (hl:s.heap.IsTuple l items) (hx:items[i]?=some x)
  (hQ:∀ h',h'.IsTupleIter it l (i+1)→Heap.SameBut it s.heap h'→Q x { s with heap:=h' }) :
  wpAny (model prog w) A (Builtin.SmallTypes.nextOf (.ref it)) Q E s:=by
 refine x1_3 (id hit) fun o ho hc hd=>?_
 obtain ⟨ol,hol,_,nl,hdl⟩:=hl
 unfold Builtin.SmallTypes.nextOf
 refine wpAny_bind (wpAny_callSpecial?_slot (name:=Str.ofString "__next__") hit.typeIs PySem.F.slot_tuple_iterator_next
  (wpAny_call_entry PySem.F.slot_tuple_iterator_next hit.typeIs PySem.F.entry_tuple_iterator_next ?_ (PySem.F.args_tuple_iterator_next_1 _)))
 show wpAny _ _ (field (.ref it) 0 >>= _) _ _ s
 refine wpAny_bind (wpAny_field ho hd (x:=.ref l) rfl ?_)
 show wpAny _ _ (if (Value.ref l==Value.none)=true then _ else _) _ _ s
 rw [if_neg (show ¬ ((Value.ref l==Value.none)=true) from Bool.false_ne_true)]
 show wpAny _ _ (field (.ref it) 1 >>= _) _ _ s
 refine wpAny_bind (wpAny_field ho hd (x:=.int i 0) rfl ?_)
 show wpAny _ _ (seqItems? (.ref l) >>= _) _ _ s
 refine wpAny_bind (wpAny_seqItems hol hdl ?_)
 simp only [Int.toNat_natCast,hx]
 refine wpAny_bind (wpAny_setField ho hd (by simp) (wpAny_pure ⟨x,rfl,wpAny_pure (hQ _ ?_ (Heap.SameBut.update ..))⟩))
 exact ⟨_,Heap.get?_update_self _ ho (Obj.isFreed_of_fields (Obj.data_mapFields hd _)),(Obj.cls_mapFields ..).trans hc,by
  rw [Obj.data_mapFields hd]; simp [rawInt]⟩
theorem nextOf_tuple_end {it l:Addr} {i:Nat} {items} {Q:Value→Shared→Prop} (hh:A.handled=none)
  (hit:s.heap.IsTupleIter it l i) (hl:s.heap.IsTuple l items) (hx:items[i]?=none)
  (hE:∀ h' e,Heap.ExtBut it s.heap h'→(∃ o,h'.get? e=some o∧o.cls=.type "StopIteration")→E (.ref e) { s with heap:=h' }) :
  wpAny (model prog w) A (Builtin.SmallTypes.nextOf (.ref it)) Q E s:=by
 refine x1_3 (id hit) fun o ho hc hd=>?_
 obtain ⟨ol,hol,_,nl,hdl⟩:=hl
 unfold Builtin.SmallTypes.nextOf
 refine wpAny_bind (wpAny_callSpecial?_slot (name:=Str.ofString "__next__") hit.typeIs PySem.F.slot_tuple_iterator_next
  (wpAny_call_entry PySem.F.slot_tuple_iterator_next hit.typeIs PySem.F.entry_tuple_iterator_next ?_ (PySem.F.args_tuple_iterator_next_1 _)))
 show wpAny _ _ (field (.ref it) 0 >>= _) _ _ s
 refine wpAny_bind (wpAny_field ho hd (x:=.ref l) rfl ?_)
 show wpAny _ _ (if (Value.ref l==Value.none)=true then _ else _) _ _ s
 rw [if_neg (show ¬ ((Value.ref l==Value.none)=true) from Bool.false_ne_true)]
 show wpAny _ _ (field (.ref it) 1 >>= _) _ _ s
 refine wpAny_bind (wpAny_field ho hd (x:=.int i 0) rfl ?_)
 show wpAny _ _ (seqItems? (.ref l) >>= _) _ _ s
 refine wpAny_bind (wpAny_seqItems hol hdl ?_)
 simp only [Int.toNat_natCast,hx]
 refine wpAny_bind (wpAny_rule (wpAny_bind (wpAny_setField ho hd (by simp) ?_)))
 show wpAny _ _ (newExc (.type "StopIteration") [] >>= _) _ _ _
 refine wpAny_bind ?_
 simp only [newExc,newTuple]
 refine wpAny_bind (wpAny_newObj_type ?_ (by size_fits))
 refine wpAny_bind (m:=firstArgMember _ _) (wpAny_of_eq (a:=Value.none) (by first | rfl | (simp only [firstArgMember]; rfl)) ?_)
 refine wpAny_newObj_type ?_ (by size_fits)
 simp only [raiseNew]
 refine wpAny_bind (wpAny_handled ?_)
 first | rw [show A.in1.handled=none from hh] | rw [hh]
 refine wpAny_bind (wpAny_pure (wpAny_throw ?_))
 exact hE _ _ (((Heap.SameBut.update ..).extBut.push _).push _) ⟨_,Heap.get?_push_size _ rfl,rfl⟩
theorem enumT_next_item {e it l:Addr} {i:Nat} {items:Array Value} {x old:Value} {Q:Value→Shared→Prop}
  (he:IsEnum s.heap e it i old) (hit:s.heap.IsTupleIter it l i) (hl:s.heap.IsTuple l items) (hx:items[i]?=some x) (hne:e≠it)
  (hQ:∀ h',IsEnumOut h' e it ((i:Int)+1) x s.heap.objs.size→h'.IsTupleIter it l (i+1) →
   h'.get? s.heap.objs.size=some { cls:=.type "tuple",data:=.seq #[.int i s.toks,x] }→h'.objs.size=s.heap.objs.size+1 →
   (∀ b o,b≠e→b≠it→s.heap.get? b=some o→h'.get? b=some o)→Q (.ref s.heap.objs.size) { s with heap:=h',toks:=s.toks+1 }) :
  wpAny (model prog w) A (Builtin.«enumerate.__next__» ⟨[.ref e],[]⟩) (fun fin s'=>∃ v,fin=.done (.ret v)∧Q v s') E s:=by
 obtain ⟨hp,g,d,tk,os⟩:=s
 show wpAny _ _ (field (.ref e) 2 >>= _) _ _ _
 refine wpAny_bind (wpAny_field he rfl (x:=.ref it) rfl ?_)
 refine wpAny_bind (nextOf_tuple_item hit hl hx fun h₁ hit₁ hs₁=>?_)
 replace hs₁:Heap.SameBut it hp h₁:=hs₁
 have he₁:IsEnum h₁ e it i old:=(hs₁.2 e hne).trans he
 show wpAny _ _ (field (.ref e) 3 >>= _) _ _ ⟨h₁,g,d,tk,os⟩
 refine wpAny_bind (wpAny_field he₁ rfl (x:=rawInt i) rfl ?_)
 show wpAny _ _ (field (.ref e) 4 >>= _) _ _ ⟨h₁,g,d,tk,os⟩
 refine wpAny_bind (wpAny_field he₁ rfl (x:=.none) rfl ?_)
 show wpAny _ _ (mkInt i >>= _) _ _ ⟨h₁,g,d,tk,os⟩
 refine wpAny_bind (wpAny_mkInt ?_)
 show wpAny _ _ (setField (.ref e) 3 (rawInt ((i:Int)+1)) >>= _) _ _ ⟨h₁,g,d,tk+1,os⟩
 refine wpAny_bind (wpAny_setField_rec he₁ (by simp) fun h₂ he₂ hs₂=>?_)
 replace hs₂:Heap.SameBut e h₁ h₂:=hs₂
 replace he₂:IsEnum h₂ e it ((i:Int)+1) old:=he₂
 show wpAny _ _ (setField (.ref e) 4 .none >>= _) _ _ ⟨h₂,g,d,tk+1,os⟩
 refine wpAny_bind (wpAny_setField_rec he₂ (by simp) fun h₃ he₃ hs₃=>?_)
 replace hs₃:Heap.SameBut e h₂ h₃:=hs₃
 replace he₃:IsEnum h₃ e it ((i:Int)+1) old:=he₃
 show wpAny _ _ (newTuple [.int i tk,x] >>= _) _ _ ⟨h₃,g,d,tk+1,os⟩
 refine wpAny_bind (wpAny_newTuple ?_)
 have he₄:IsEnum (h₃.push { cls:=.type "tuple",data:=.seq #[.int i tk,x] }) e it ((i:Int)+1) old:=Heap.get?_push_of_some _ he₃
 generalize hh₄:h₃.push { cls:=.type "tuple",data:=.seq #[.int i tk,x] }=h₄ at he₄
 have hsz:h₃.objs.size=hp.objs.size:=by rw [hs₃.1,hs₂.1,hs₁.1]
 have hel:e < hp.objs.size:=Heap.lt_size he
 have ht₄:h₄.get? hp.objs.size=some { cls:=.type "tuple",data:=.seq #[.int i tk,x] }:=by rw [← hh₄,← hsz]; exact Heap.get?_push_size _ rfl
 have hz₄:h₄.objs.size=hp.objs.size+1:=by rw [← hh₄,Heap.size_push,hsz]
 have hk₄:∀ b o,b≠e→b≠it→hp.get? b=some o→h₄.get? b=some o:=fun b o hbe hbi hb=>by
  rw [← hh₄]; exact Heap.get?_push_of_some _ (hs₃.extBut b o hbe (hs₂.extBut b o hbe (hs₁.extBut b o hbi hb)))
 have hit₄:h₄.IsTupleIter it l (i+1):=by
  rw [← hh₄]; refine x1_2 ((hit₁.extBut hs₂.extBut (Ne.symm hne)).extBut hs₃.extBut (Ne.symm hne)) fun o ho r=>?_; exact ⟨o,Heap.get?_push_of_some _ ho,r⟩
 show wpAny _ _ (Builtin.SmallTypes.ownedTupleIsFree (.ref e) >>= _) _ _ ⟨h₄,g,d,tk+1,os⟩
 rw [hsz]
 clear hh₄ he₃ hs₃ he₂ hs₂ he₁ hs₁ hit₁ hsz h₃ h₂ h₁
 refine wpAny_bind ?_
 ·unfold Builtin.SmallTypes.ownedTupleIsFree
  refine wpAny_bind (wpAny_field he₄ rfl (x:=.none) rfl (wpAny_pure ?_))
  simp only [if_true]
  refine wpAny_bind (wpAny_rule ?_)
  refine wpAny_bind (wpAny_field he₄ rfl (x:=old) rfl ?_)
  refine wpAny_bind (wpAny_setField_rec he₄ (by simp) fun h₅ he₅ hs₅=>?_)
  replace hs₅:Heap.SameBut e h₄ h₅:=hs₅
  replace he₅:IsEnum h₅ e it ((i:Int)+1) x:=he₅
  show wpAny _ _ (Builtin.SmallTypes.ownedTupleHandOut (.ref e) (.ref hp.objs.size) >>= _) _ _ ⟨h₅,g,d,tk+1,os⟩
  refine wpAny_bind ?_
  ·unfold Builtin.SmallTypes.ownedTupleHandOut
   refine wpAny_bind (wpAny_setField_rec he₅ (by simp) fun h₆ he₆ hs₆=>?_)
   replace hs₆:Heap.SameBut e h₅ h₆:=hs₆
   replace he₆:IsEnumOut h₆ e it ((i:Int)+1) x hp.objs.size:=he₆
   refine wpAny_setField_rec he₆ (by simp) fun h₇ he₇ hs₇=>?_
   replace hs₇:Heap.SameBut e h₆ h₇:=hs₇
   replace he₇:IsEnumOut h₇ e it ((i:Int)+1) x hp.objs.size:=he₇
   refine wpAny_bind (wpAny_letGo (wpAny_pure ⟨_,rfl,hQ h₇ he₇ ?_ ?_ ?_ ?_⟩))
   ·exact ((hit₄.extBut hs₅.extBut (Ne.symm hne)).extBut hs₆.extBut (Ne.symm hne)).extBut hs₇.extBut (Ne.symm hne)
   ·exact hs₇.extBut _ _ (Nat.ne_of_gt hel) (hs₆.extBut _ _ (Nat.ne_of_gt hel) (hs₅.extBut _ _ (Nat.ne_of_gt hel) ht₄))
   ·rw [hs₇.1,hs₆.1,hs₅.1,hz₄]
   ·exact fun b o hbe hbi hb=>hs₇.extBut b o hbe (hs₆.extBut b o hbe (hs₅.extBut b o hbe (hk₄ b o hbe hbi hb)))
theorem pyNext_enumT_item {e it l:Addr} {i:Nat} {items:Array Value} {x old:Value} {Q:Option Value→Shared→Prop}
  (he:IsEnum s.heap e it i old) (hit:s.heap.IsTupleIter it l i) (hl:s.heap.IsTuple l items) (hx:items[i]?=some x) (hne:e≠it)
  (hQ:∀ h',IsEnumOut h' e it ((i:Int)+1) x s.heap.objs.size→h'.IsTupleIter it l (i+1) →
   h'.get? s.heap.objs.size=some { cls:=.type "tuple",data:=.seq #[.int i s.toks,x] }→h'.objs.size=s.heap.objs.size+1 →
   (∀ b o,b≠e→b≠it→s.heap.get? b=some o→h'.get? b=some o)→Q (some (.ref s.heap.objs.size)) { s with heap:=h',toks:=s.toks+1 }) :
  wpAny (model prog w) A (pyNext (.ref e)) Q E s:=by
 have hT:s.TypeIs (.ref e) "enumerate":=⟨_,he,rfl⟩
 unfold pyNext
 exact wpAny_bind (wpAny_attempt (wpAny_callSpecial?_slot (name:=Str.ofString "__next__") hT PySem.F.slot_enumerate_next
  (wpAny_call_entry PySem.F.slot_enumerate_next hT PySem.F.entry_enumerate_next
   (enumT_next_item he hit hl hx hne fun h' a b c d k=>wpAny_pure (hQ h' a b c d k)) (PySem.F.args_enumerate_next_1 _))))
theorem pyNext_enumT_end {e it l:Addr} {i:Nat} {items:Array Value} {old:Value} {Q:Option Value→Shared→Prop} (hh:A.handled=none)
  (he:IsEnum s.heap e it i old) (hit:s.heap.IsTupleIter it l i) (hl:s.heap.IsTuple l items) (hx:items[i]?=none)
  (hQ:∀ h',Heap.ExtBut it s.heap h'→Q none { s with heap:=h' }):wpAny (model prog w) A (pyNext (.ref e)) Q E s:=by
 have hT:s.TypeIs (.ref e) "enumerate":=⟨_,he,rfl⟩
 unfold pyNext
 refine wpAny_bind (wpAny_attempt (wpAny_callSpecial?_slot (name:=Str.ofString "__next__") hT PySem.F.slot_enumerate_next
  (wpAny_call_entry PySem.F.slot_enumerate_next hT PySem.F.entry_enumerate_next ?_ (PySem.F.args_enumerate_next_1 _))))
 show wpAny _ _ (field (.ref e) 2 >>= _) _ _ _
 refine wpAny_bind (wpAny_field he rfl (x:=.ref it) rfl ?_)
 refine wpAny_bind (nextOf_tuple_end hh hit hl hx fun h' x he' hx'=>?_)
 refine x1_2 (hx') fun o ho hc=>?_
 refine wpAny_bind (wpAny_isInstance (T:="StopIteration") (b:=true) ⟨o,ho,hc⟩ isSubtype_stop ?_)
 exact wpAny_pure (hQ _ he')
theorem call_enumT {l:Addr} {items:Array Value} {n:Nat} {Q:Value→Shared→Prop}
  (hl:s.heap.get? l=some { cls:=.type "tuple",dict:=none,data:=.seq items n,slots:=#[] })
  (h:∀ h',IsEnum h' (s.heap.objs.size+1) s.heap.objs.size 0 .none→h'.IsTupleIter s.heap.objs.size l 0→h'.objs.size=s.heap.objs.size+2 →
   (∀ b o,s.heap.get? b=some o→h'.get? b=some o)→Q (.ref (s.heap.objs.size+1)) { s with heap:=h' }) :
  wpAny (model prog w) A (call (.type "enumerate") [.ref l]) Q E s:=by
 refine callType_new PySem.F.called_enumerate (by decide) (PySem.F.typeCall_enumerate_1 _) (PySem.F.newCall_enumerate_1 _) (fun obj=>PySem.F.args_object_init_2 obj _) PySem.F.entry_enumerate_new
  (meets_enum_tuple l items n) ⟨hl,?_⟩
 have hz:(s.heap.push { cls:=.type "tuple_iterator",data:=.fields #[.ref l,.int 0 0] }).objs.size=s.heap.objs.size+1:=Heap.size_push ..
 show _∧_
 rw [hz]
 have he:IsEnum ((s.heap.push { cls:=.type "tuple_iterator",data:=.fields #[.ref l,.int 0 0] }).push
   { cls:=.type "enumerate",data:=.fields #[.none,.bool false,.ref s.heap.objs.size,rawInt 0,.none,.none] }) (s.heap.objs.size+1) s.heap.objs.size 0 .none:=by
  have:=Heap.get?_push_size (s.heap.push { cls:=.type "tuple_iterator",data:=.fields #[.ref l,.int 0 0] })
   (o:={ cls:=.type "enumerate",data:=.fields #[.none,.bool false,.ref s.heap.objs.size,rawInt 0,.none,.none] }) rfl
  rw [hz] at this; exact this
 refine ⟨⟨_,he,rfl⟩,h _ he ⟨_,Heap.get?_push_of_some _ (Heap.get?_push_size _ rfl),rfl,rfl⟩ (by rw [Heap.size_push,hz]) fun b o x=>Heap.get?_push_of_some _ (Heap.get?_push_of_some _ x)⟩
end
end Mine
namespace Mine
open PySem
section
variable {B:Base} {A:Around} {d:Nat} {Φ:Calls} {Λ:Lexer} {Gv:Nat→Option V} {gt:List Str} {mk:Me→Nat} {kws:Nat→Str→Bool} (K:Kit B A d Φ Λ Gv gt mk kws) (tb:List Str)
theorem VR.ofEnum {fa:Nat→Addr} {h:Heap} {F:Lay} {v:V} {x:Value} (r:VR fa h F v x) (e:isEnumT v=true):x=.type "enumerate":=by
 cases v with
 | ty t=>cases t <;> first | exact r.ty_is | exact noT e
 | _=>exact noT e
theorem enum_get (xs:List V) (k:Nat):(enumItems xs)[k]?=xs[k]?.map fun x=>.tup [.int (k:Nat),x]:=by
 unfold enumItems
 rw [List.getElem?_map,List.getElem?_zipIdx]
 cases xs[k]? <;> simp
structure Off (B:Base) (env:Env) (F:Lay) (b:Addr):Prop where
 off:b∉F.flatten
 h0:B.h0.get? b=none
 own:∀ x,Fr env x→x≠b
section
variable {vis:List (Nat × Bool)} {wv gl:List Nat} {env:Env} {F G:Lay} {s s':Shared} {σ:Sto} {loc:Loc} {b:Addr} {o:Obj} {W:Addr→Prop} {h':Heap} {tk:Nat}
theorem Off.new (I:Inv B F σ s) (L:LR B tb vis env F loc s.heap) (d:s.heap.get? b=none):Off B env F b:=⟨(I.dead d).2,(I.dead d).1,fun x w z=>by obtain ⟨_,_,o,e,_⟩:=L.fr w; rw [z,d] at e; cases e⟩
theorem Off.stepW (f:Off B env F b) (I:Inv B F σ s) (T:StepW (OwnA tb wv env) B F s G s') (e:s.heap.get? b=some o):s'.heap.get? b=some o∧Off B env (F++G) b :=
 ⟨T.kept b o e fun w=>w.elim (fun w=>w.elim (fun w=>f.off w.mem) (LR.notTab I f.h0)) fun w=>f.own b w.fr rfl,not_new T.fresh e f.off,f.h0,f.own⟩
theorem off_keep (I:Inv B F σ s) (L:LR B tb vis env F loc s.heap) (kp:Kept W s.heap h') (hW:∀ b,W b→Off B env F b∧∀ o,s.heap.get? b=some o→¬ Imm o):Inv B F σ { s with heap:=h',toks:=tk }∧LR B tb vis env F loc h'∧Mv F F s.heap h':=by
 have m:Mv F F s.heap h':=.of_kept kp fun b o w e=>.of ((hW b w).2 o e)
 exact ⟨I.keep kp fun b o w e=>⟨(hW b w).1.h0,(hW b w).1.off,(hW b w).2 o e⟩,L.mv (fun x o w e=>kp x o e fun z=>(hW x z).1.own x w rfl) m fun x w=>(L.fr w).1,m⟩
end
noncomputable def EnS (B:Base) (env:Env) (eA iA tl:Addr) (m:Nat) (k:Nat) (F:Lay) (_:Sto) (h:Heap):Prop:=(∃ old,IsEnum h eA iA (k:Nat) old)∧h.IsTupleIter iA tl k∧k≤m∧∀ b,b=eA∨b=iA→Off B env F b
theorem enum_not {h:Heap} {eA iA tl:Addr} {k:Nat} {i:Int} {old:Value} (h1:IsEnum h eA iA i old) (h2:h.IsTupleIter iA tl k):∀ b,b=eA∨b=iA→∀ o,h.get? b=some o→¬ Imm o:=by
 intro b w o eo
 rcases w with rfl | rfl
 ·rw [h1] at eo; apply s1 eo; exact no_cls rfl rfl
 ·refine x1_3 (h2) ?_; (try clear h2); intro o2 h2 c2 _
  rw [h2] at eo; apply s1 eo; exact no_cls c2 rfl
theorem enum_turn (K:Kit B A d Φ Λ Gv gt mk kws) {clr:List Nat} {is:List (Nat × Pos)} {p':Pos} {a b:SL} (ha:JSL B A Φ Λ Gv gt tb kws a) (hb:JSL B A Φ Λ Gv gt tb kws b) {vis:List (Nat × Bool)} {wv gl:List Nat} {env:Env} {F:Lay} {s:Shared} {σ:Sto} {loc:Loc} (hwa:wfSL gt tb kws Gv vis wv gl a=true) (hwb:wfSL gt tb kws Gv vis wv gl b=true) (ht:∀ i∈tgSlots (.tup is p'),i∈wv) (R:ER B gt tb vis wv gl env) (Iv:Inv B F σ s) (L:LR B tb vis env F loc s.heap) {eA iA tl:Addr} {items:Array Value} {nn:Nat} {xs:List V}
  (htl:s.heap.get? tl=some { cls:=.type "tuple",data:=.seq items nn }) (rs:VRs B.fa s.heap F xs items.toList) (dE:∀ b,b=eA∨b=iA→s.heap.get? b=none) (hne:eA≠iA) {r:Fl × Loc × Sto} {n:Nat} {s₃:Shared} {P:Flow→Shared→Prop} {J:Nat→Shared→Prop} (hP:∀ f s',SPost B tb vis (OwnA tb wv env) env F s r.1 r.2.1 r.2.2 f s'→P f s')
  (hJ:∀ n s',LoopX B tb vis (OwnA tb wv env) env F s (EnS B env eA iA tl xs.length) (fun k l σ=>(iterate (loopStep Φ Λ Gv clr (.tup is p') a) (.items (enumItems xs)) n k (Fl.next,l) σ).bind (endF fun loc σ=>evSL Φ Λ Gv b loc σ)=some r) s'→J n s')
  (h:LoopX B tb vis (OwnA tb wv env) env F s (EnS B env eA iA tl xs.length) (fun k l σ=>(iterate (loopStep Φ Λ Gv clr (.tup is p') a) (.items (enumItems xs)) n k (Fl.next,l) σ).bind (endF fun loc σ=>evSL Φ Λ Gv b loc σ)=some r) s₃) {E:Value→Shared→Prop} :
  wpAny (model B.prog B.w) A (pyNext (.ref eA)) (NextQ B A gt tb (.tup is p') a b env eA P n J E) E s₃:=by
 refine x4_5 (h) fun G k loc₃ σ₃ T I₃ L₃ hw_265 e=>?_
 obtain ⟨⟨old,he₃⟩,hit₃,hle,of₃⟩:=hw_265
 have m₃:=T.imk Iv (own_mut Iv L)
 have hTup:s₃.heap.IsTuple tl items:=⟨_,m₃.im _ _ htl imTup fun l=>(lsNo rfl (by decide) l).elim,rfl,_,rfl⟩
 have hW:∀ b,b=eA∨b=iA→Off B env (F++G) b∧∀ o,s₃.heap.get? b=some o→¬ Imm o:=fun b w=>⟨of₃ b w,enum_not he₃ hit₃ b w⟩
 rcases loop_is e with ⟨q,e⟩ | ⟨m,v,loc₁,x,rfl,q,eb,ea,e⟩
 ·have q:(enumItems xs)[k]?=none:=Option.some.inj q
  rw [enum_get,Option.map_eq_none_iff] at q
  refine pyNext_enumT_end K.room.handled he₃ hit₃ hTup (Array.getElem?_eq_none_iff.mpr (by rw [← Array.length_toList,← rs.length]; exact List.getElem?_eq_none_iff.mp q)) fun h₄ hx₄=>?_
  have kp:Kept (fun b=>b=eA∨b=iA) s₃.heap h₄:=fun b o eo n=>hx₄ b o (fun z=>n (.inr z)) eo
  refine x0_3 (off_keep tb (tk:=s₃.toks) I₃ L₃ kp hW) fun I₄ L₄ ζ=>?_
  exact else_ok tb hb hwb R hP (T.draw tb (s₅:={ s₃ with heap:=h₄ }) kp dE) I₄ L₄ e
 ·have q:(enumItems xs)[k]?=some v:=Option.some.inj q
  rw [enum_get] at q
  refine x1_2 (map_is q) fun u hx hq_266=>?_
  subst hq_266
  refine x1_2 (rs.get hx) fun xu exu rxu=>?_
  refine pyNext_enumT_item he₃ hit₃ hTup (by rw [← Array.getElem?_toList]; exact exu) hne fun h₄ ho₄ hit₄ hT₄ hz₄ k₄=>?_
  refine wpAny_letOwnedTupleGo_enum ho₄ fun h₅ he₅ hs₅=>?_
  have kp:Kept (fun b=>b=eA∨b=iA) s₃.heap h₅:=fun b o eo n=>hs₅.extBut b o (fun z=>n (.inl z)) (k₄ b o (fun z=>n (.inl z)) (fun z=>n (.inr z)) eo)
  refine x0_3 (off_keep tb (tk:=s₃.toks+1) I₃ L₃ kp hW) fun I₅ L₅ m₅=>?_
  have neS:s₃.heap.objs.size≠eA:=fun z=>absurd (z▸Heap.lt_size he₃) (Nat.lt_irrefl _)
  have rv:VR B.fa h₅ (F++G) (.tup [.int (k:Nat),u]) (.ref s₃.heap.objs.size):=.tup (hs₅.extBut _ _ neS hT₄) (.cons (.int _ _) (.cons (rxu.step (m₃.trans m₅)) .nil)) (by show 2≤1048576; decide)
  refine x1_2 (hit₄) fun oi ei ri=>?_
  have ei₅:=hs₅.extBut _ _ hne.symm ei
  have T₅:=T.draw tb (s₅:={ s₃ with heap:=h₅,toks:=s₃.toks+1 }) kp dE
  refine turn_ok tb K ha hwa ht R I₅ L₅ rv eb ea e (Nat.lt_succ_self m) (fun f s₆ p=>hP _ _ (SPost.backP tb I₅ L₅ T₅ f p)) fun G' loc' s₆ T' I' L' e'=>?_
  have aE:=(of₃ eA (.inl rfl)).stepW tb I₅ T' he₅
  have aI:=(of₃ iA (.inr rfl)).stepW tb I₅ T' ei₅
  exact hJ _ _ (.on (k:=k+1) tb T₅ L₅ T' I' L' ⟨⟨xu,aE.1⟩,⟨oi,aI.1,ri⟩,(List.getElem?_eq_some_iff.mp hx).1,fun b w=>by rcases w with rfl | rfl; exact aE.2; exact aI.2⟩ e')
theorem enum_for (K:Kit B A d Φ Λ Gv gt mk kws) {clr:List Nat} {is:List (Nat × Pos)} {p':Pos} {a b:SL} (ha:JSL B A Φ Λ Gv gt tb kws a) (hb:JSL B A Φ Λ Gv gt tb kws b) {vis:List (Nat × Bool)} {wv gl:List Nat} {env:Env} {F:Lay} {s:Shared} {σ:Sto} {loc:Loc} (hwa:wfSL gt tb kws Gv vis wv gl a=true) (hwb:wfSL gt tb kws Gv vis wv gl b=true) (ht:∀ i∈tgSlots (.tup is p'),i∈wv) (R:ER B gt tb vis wv gl env) (I:Inv B F σ s) (L:LR B tb vis env F loc s.heap) {tl:Addr} {items:Array Value} {nn:Nat} {xs:List V}
  (ht':s.heap.get? tl=some { cls:=.type "tuple",data:=.seq items nn }) (rs:VRs B.fa s.heap F xs items.toList) {r:Fl × Loc × Sto} (e:(iterate (loopStep Φ Λ Gv clr (.tup is p') a) (.items (enumItems xs)) xs.length 0 (Fl.next,loc) σ).bind (endF fun loc σ=>evSL Φ Λ Gv b loc σ)=some r) {R':Result→Shared→Prop} (hP:∀ f s',SPost B tb vis (OwnA tb wv env) env F s r.1 r.2.1 r.2.2 f s'→R' (.ok f) s') :
  wpAny (model B.prog B.w) A (call (.type "enumerate") [.ref tl]) (fun v s₁=>wpAny (model B.prog B.w) A (pyIter v) (fun it s₂=>codeAny (model B.prog B.w) A (.forLoop (toTg tb (.tup is p')) it (toSL gt tb a) (toSL gt tb b) env) R' s₂) Bot s₁) Bot s:=by
 refine call_enumT ht' fun h₂ he₂ hit₂ ζ k₂=>wpAny_pyIter_enum he₂ ?_
 have dE:∀ b,b=s.heap.objs.size+1∨b=s.heap.objs.size→s.heap.get? b=none:=fun b w=>by
  rcases w with rfl | rfl
  ·cases z:s.heap.get? (s.heap.objs.size+1) with
   | none=>rfl
   | some o=>exact absurd (Heap.lt_size z) (Nat.not_lt_of_le (Nat.le_succ _))
  ·exact dead_size _
 refine codeAny_mono (codeAny_forLoop_any (R:=stR (SPost B tb vis (OwnA tb wv env) env F s r.1 r.2.1 r.2.2))
  (fun n=>LoopX B tb vis (OwnA tb wv env) env F s (EnS B env (s.heap.objs.size+1) s.heap.objs.size tl xs.length) (fun k l σ=>(iterate (loopStep Φ Λ Gv clr (.tup is p') a) (.items (enumItems xs)) n k (Fl.next,l) σ).bind (endF fun loc σ=>evSL Φ Λ Gv b loc σ)=some r))
  (fun n s₃ h=>enum_turn (r:=r) tb K ha hb hwa hwb ht R I L ht' rs dE (Nat.succ_ne_self _) (fun ζ ζ h=>h) (fun ζ ζ h=>h) h) xs.length (.start tb (k:=0) (s':={ s with heap:=h₂ }) (I.all k₂ s.toks) (L.mv (fun b o ζ e=>k₂ b o e) (.of k₂) fun b w=>(L.fr w).1) k₂ ⟨⟨_,he₂⟩,hit₂,Nat.zero_le _,fun b w=>.new tb I L (dE b w)⟩ e)) fun r s' h=>?_
 cases r with
 | error z=>exact h.elim
 | ok f=>exact hP f s' h
theorem js_enum (K:Kit B A d Φ Λ Gv gt mk kws) {clr:List Nat} {is:List (Nat × Pos)} {p':Pos} {g:Nat} {q':Pos} {ie:E} {a b:SL} (ha:JSL B A Φ Λ Gv gt tb kws a) (hb:JSL B A Φ Λ Gv gt tb kws b) (q p:Pos):JS B A Φ Λ Gv gt tb kws (.enum clr is p' g q' ie a b q p):=by
 intro vis wv gl env loc F σ s fl loc' σ' hw R Iv L ev
 refine bB4 hw fun hwf hwi hwt hwa hwb=>?_
 have ht:∀ i∈tgSlots (.tup is p'),i∈wv:=fun i hi=>List.contains_iff_mem.mp (List.all_eq_true.mp (bA1 hwt).1 i hi)
 refine x1_2 (bind_is (es_enum.symm.trans ev)) ?_
 clear ev
 intro fv eg e1
 refine x0_2 (ite_of e1) ?_
 clear e1
 intro hfe e2
 refine xP1_2 (bind_is e2) ?_
 clear e2
 intro vi σ₁ ei e3
 refine x1_2 (bind_is e3) ?_
 clear e3
 intro xs hvi e4
 have hwl:wfEL gt tb kws Gv vis gl (.cons ie .nil)=true:=Bool.and_eq_true_iff.mpr ⟨hwi,rfl⟩
 have hargs:=(okEL K tb (.cons ie .nil) vis wv gl env loc F σ s hwl R Iv L).1 q [vi] σ₁ (by rw [evEL_cons]; exact bind_some ei rfl)
 refine wpAny_For (iter:=.Call (.Name (nmOf gt g) q') (toEL gt tb (.cons ie .nil)) [] q) (PyProof.Rows.Call_Name rfl (glob_ok K.bok K.gr Iv R (List.contains_iff_mem.mp hwf) eg fun x r=>?_)) (fun ζ=>rfl)
 rw [r.ofEnum hfe]
 refine PyProof.Rows.callWith_type (all_plain hwl).2 (evalArgs_any hwl (hargs.seq fun xv G₁ s₁ T₁ p₁=>?_))
 refine x1_2 (p₁.2.inv1) fun xt hq r1=>?_
 apply q1 hq
 refine x3_4 (r1.ofTup hvi) fun tl items nn hq ht' rs ζ=>?_
 apply q1 hq
 exact enum_for tb K ha hb hwa hwb ht R p₁.1 (L.step Iv T₁) ht' rs e4 fun f s' h=>h.back T₁.w (own_live (L.step Iv T₁))
end
end Mine
namespace Mine
open PySem PySem.W
theorem bor_eq (f:Value) (pos:List Value):callBorrowed f pos=(call f pos).keep [borrowed]:=by
 unfold callBorrowed call runValue
 show Sem.call _ _ _ _ _=Sem.call _ _ _ ([borrowed]++[]) _
 refine congrArg (Sem.call _ _ _ _) ?_
 funext r
 rcases r with e | (v | _ | _ | _) <;> rfl
theorem slot_ci_next:Slot "callable_iterator" "__next__" "callable_iterator.__next__" :=
 .of (owner:="callable_iterator") (n:="__next__") (by rw [typeLookup_type,builtinLookup_eq_fast]; kernel_rfl) (by decide +kernel) (by decide +kernel) (by decide +kernel)
  (by first | exact .inl (by decide +kernel) | exact .inr (by decide +kernel)) (by rw [isSubtype_type]; kernel_rfl)
theorem slot_ci_iter:Slot "callable_iterator" "__iter__" "callable_iterator.__iter__" :=
 .of (owner:="callable_iterator") (n:="__iter__") (by rw [typeLookup_type,builtinLookup_eq_fast]; kernel_rfl) (by decide +kernel) (by decide +kernel) (by decide +kernel)
  (by first | exact .inl (by decide +kernel) | exact .inr (by decide +kernel)) (by rw [isSubtype_type]; kernel_rfl)
theorem entry_ci_next:entryFor table "callable_iterator.__next__"=some Builtin.«callable_iterator.__next__»:=entryFor_of_tree (by kernel_rfl)
theorem entry_ci_iter:entryFor table "callable_iterator.__iter__"=some Builtin.«dict_keyiterator.__iter__» :=
 entryFor_alias (id':="dict_keyiterator.__iter__") (by kernel_rfl) (by first | rfl | decide +kernel) (by decide +kernel) (by kernel_rfl)
theorem args_ci_next (a:Value):argsOk "callable_iterator.__next__" ⟨[a],[]⟩:=by unfold argsOk; kernel_rfl
theorem args_ci_iter (a:Value):argsOk "callable_iterator.__iter__" ⟨[a],[]⟩:=by unfold argsOk; kernel_rfl
section
variable {M:Model} {B:Base} {A:Around} {s:Shared} {it bm f x:Addr} {fs:Array Value} {tk:Tok}
noncomputable abbrev citOb (fs:Array Value):Obj:={ cls:=.type "callable_iterator",data:=.fields fs }
theorem cit_iter (hit:s.heap.get? it=some (citOb fs)) {E:Value→Shared→Prop} {Q:Value→Shared→Prop} (h:Q (.ref it) s):wpAny (model B.prog B.w) A (pyIter (.ref it)) Q E s:=by
 have hT:s.TypeIs (.ref it) "callable_iterator":=⟨_,hit,rfl⟩
 refine wpAny_pyIter_slot hT slot_ci_iter (wpAny_call_entry slot_ci_iter hT entry_ci_iter ?_ (args_ci_iter _))
 show wpAny _ _ (ret (.ref it)) _ _ s
 exact wpAny_pure ⟨_,rfl,"callable_iterator",_,hT,slot_ci_next.lookup,h⟩
theorem stop_ok {A:Around} {s:Shared} (hh:A.handled=none) {α:Type} {Q:α→Shared→Prop} {E:Value→Shared→Prop} (h:∀ h' e,(∀ b o,s.heap.get? b=some o→h'.get? b=some o)→(∃ o,h'.get? e=some o∧o.cls=.type "StopIteration")→E (.ref e) { s with heap:=h' }) :
  wpAny M A (Builtin.SmallTypes.stopIteration:Sem α) Q E s:=by
 show wpAny _ _ (newExc (.type "StopIteration") [] >>= _) _ _ _
 refine wpAny_bind ?_
 simp only [newExc,newTuple]
 refine wpAny_bind (wpAny_newObj_type ?_ (by size_fits))
 refine wpAny_bind (m:=firstArgMember _ _) (wpAny_of_eq (a:=Value.none) (by first | rfl | (simp only [firstArgMember]; rfl)) ?_)
 refine wpAny_newObj_type ?_ (by size_fits)
 simp only [raiseNew]
 refine wpAny_bind (wpAny_handled ?_)
 rw [hh]
 refine wpAny_bind (wpAny_pure (wpAny_throw ?_))
 exact h _ _ (fun b o e=>Heap.get?_push_of_some _ (Heap.get?_push_of_some _ e)) ⟨_,Heap.get?_push_size _ rfl,rfl⟩
theorem cit_over (hh:A.handled=none) (hit:s.heap.get? it=some (citOb #[.none,.none,.bool true])) {E:Value→Shared→Prop} {Q:Option Value→Shared→Prop} (h:∀ h',(∀ b o,s.heap.get? b=some o→h'.get? b=some o)→Q none { s with heap:=h' }) :
  wpAny (model B.prog B.w) A (pyNext (.ref it)) Q E s:=by
 have hT:s.TypeIs (.ref it) "callable_iterator":=⟨_,hit,rfl⟩
 unfold pyNext
 refine wpAny_bind (wpAny_attempt (wpAny_callSpecial?_slot (name:=Str.ofString "__next__") hT slot_ci_next
  (wpAny_call_entry slot_ci_next hT entry_ci_next ?_ (args_ci_next _))))
 show wpAny _ _ (field (.ref it) 2 >>= _) _ _ s
 refine wpAny_bind (wpAny_field hit rfl (x:=.bool true) rfl ?_)
 rw [if_pos (by decide)]
 refine wpAny_bind (wpAny_rule ?_)
 refine wpAny_bind (stop_ok (A:=A.in1) hh fun h' e k he=>?_)
 refine x1_2 (he) fun o ho hc=>?_
 refine wpAny_bind (wpAny_isInstance (T:="StopIteration") (b:=true) ⟨o,ho,hc⟩ isSubtype_stop ?_)
 exact wpAny_pure (h _ k)
theorem bor_of {h:Heap} {o:Obj} {fd:FuncData} (hbm:h.get? bm=some { cls:=.type "method",data:=.fields #[.ref f,.ref x] }) (hf:h.get? f=some o) (hd:o.data=.func fd):Looks M h (borrowsExactly (.ref bm)) true:=by
 unfold borrowsExactly
 refine (Looks.ld (part:=none) hbm).andThen ?_
 dsimp only
 rw [if_pos (by decide)]
 refine (Looks.ld (part:=none) hf).andThen ?_
 rw [hd]; exact .now
theorem cit_step {o:Obj} {fd:FuncData} (hh:A.handled=none) (hit:s.heap.get? it=some (citOb #[.ref bm,.str ⟨#[]⟩ tk,.bool false])) (hbm:s.heap.get? bm=some { cls:=.type "method",data:=.fields #[.ref f,.ref x] })
  (hf:s.heap.get? f=some o) (hd:o.data=.func fd) {E:Value→Shared→Prop} {Q:Option Value→Shared→Prop}
  (h:codeAny (model B.prog B.w) A.in1 (.call (.ref f) ⟨[.ref x],[]⟩) (retR fun v s'=>∃ X t tk',v=.str X t∧s'.heap.get? it=some (citOb #[.ref bm,.str ⟨#[]⟩ tk',.bool false])∧s'.heap.get? bm=some { cls:=.type "method",data:=.fields #[.ref f,.ref x] }∧(∃ o fd,s'.heap.get? f=some o∧o.data=.func fd) ∧
   (X≠⟨#[]⟩→Q (some (.str X t)) s')∧(X=⟨#[]⟩→∀ h',h'.get? it=some (citOb #[.none,.none,.bool true])→(∀ b o,b≠it→s'.heap.get? b=some o→h'.get? b=some o)→Q none { s' with heap:=h' })) s) :
  wpAny (model B.prog B.w) A (pyNext (.ref it)) Q E s:=by
 have hT:s.TypeIs (.ref it) "callable_iterator":=⟨_,hit,rfl⟩
 unfold pyNext
 refine wpAny_bind (wpAny_attempt (wpAny_callSpecial?_slot (name:=Str.ofString "__next__") hT slot_ci_next
  (wpAny_call_entry slot_ci_next hT entry_ci_next ?_ (args_ci_next _))))
 show wpAny _ _ (field (.ref it) 2 >>= _) _ _ s
 refine wpAny_bind (wpAny_field hit rfl (x:=.bool false) rfl ?_)
 rw [if_neg (by decide)]
 refine wpAny_bind (wpAny_field hit rfl (x:=.ref bm) rfl ?_)
 refine wpAny_bind (wpAny_attempt ?_)
 unfold callOutOfASlot
 refine wpAny_bind ((bor_of hbm hf hd).here ?_)
 rw [if_pos rfl,bor_eq]
 refine Calls.wpAny_keep (wpAny_call (method_call hbm (codeAny_mono h fun r s' z=>?_)))
 rcases r with e | (v | _ | _ | _) <;> first | exact z.elim | skip
 refine x3_6 (z) fun X t tk' hq_275 hit' hbm' hw_276 q1 q2=>?_
 subst hq_275
 refine x2_2 (hw_276) fun o' fd' hf' hd'=>?_
 refine wpAny_bind (wpAny_field hit' rfl (x:=.bool false) rfl ?_)
 rw [if_neg (by decide)]
 refine wpAny_bind (wpAny_field hit' rfl (x:=.str ⟨#[]⟩ tk') rfl ?_)
 refine wpAny_bind (wpAny_holding (wpAny_eqBool_str ?_))
 by_cases hX:X=⟨#[]⟩
 ·subst hX
  rw [decide_eq_true rfl,if_neg (by decide)]
  refine wpAny_bind (wpAny_rule (wpAny_bind ?_))
  refine wpAny_bind (wpAny_field hit' rfl (x:=.ref bm) rfl ?_)
  refine wpAny_bind (wpAny_bind ((bor_of hbm' hf' hd').here ?_))
  refine wpAny_pure ?_
  refine wpAny_bind (wpAny_setField_rec hit' (by simp) fun h1 e1 k1=>?_)
  refine wpAny_bind (wpAny_setField_rec e1 (by simp) fun h2 e2 k2=>?_)
  refine wpAny_setField_rec e2 (by simp) fun h3 e3 k3=>?_
  refine stop_ok (A:=A.in1) hh fun h' e k he=>?_
  refine x1_2 (he) fun o ho hc=>?_
  refine wpAny_bind (wpAny_isInstance (T:="StopIteration") (b:=true) ⟨o,ho,hc⟩ isSubtype_stop ?_)
  exact wpAny_pure (q2 rfl h' (k _ _ e3) fun b ob ne eb=>k b ob ((k3.2 b ne).trans ((k2.2 b ne).trans ((k1.2 b ne).trans eb))))
 ·rw [decide_eq_false (fun z=>hX z.symm),if_pos (by decide)]
  exact wpAny_pure ⟨_,rfl,wpAny_pure (q1 hX)⟩
end
end Mine
namespace Mine
open PySem
section
variable {B:Base} {A:Around} {d:Nat} {Φ:Calls} {Λ:Lexer} {Gv:Nat→Option V} {gt:List Str} {mk:Me→Nat} {kws:Nat→Str→Bool} (K:Kit B A d Φ Λ Gv gt mk kws) (tb:List Str)
include K in
theorem js_inc (a:E) (q1 q2 p:Pos):JS B A Φ Λ Gv gt tb kws (.inc a q1 q2 p):=by
 intro vis wv gl env loc F σ s fl loc' σ' hw R I L e
 refine xP1_2 (bind_is (es_inc.symm.trans e)) fun va σ₁ ea e1=>?_
 refine x1_2 (bind_is e1) fun i hi e2=>?_
 refine x1_2 (map_is e2) fun σ₂ ei e3=>?_
 apply p3 e3
 refine x1_1 (K.lex) fun KL OL=>?_
 refine wpAny_AugAssign_AttributeAny (((okE K tb a vis wv gl env loc F σ s hw R I L).1 _ _ ea).seq fun x G₁ s₁ T₁ p₁=>?_)
 refine x1_2 (map_is ei) fun LL hL ζ=>?_
 have el:attrV .lineno σ₁ (.ref i)=some (.int LL.2.2.1):=bind_some (o:=refV (.ref i)) rfl (bind_some hL rfl)
 have rx:=p₁.2.asRef hi
 refine att_ok OL p₁.1 rx el fun y tk ry=>wpAny_Constant_int (k:=0) (pos:=q2) ?_
 refine (aug_ok K.room (p₁.1.toks (tk+1)) ry (.int 1 _) (op:=.Add) (v:=.int (LL.2.2.1+1)) (σ':=σ₁) rfl).seq fun z G₄ s₄ T₄ p₄=>?_
 refine (inc_ok OL p₄.1 (rx.step (T₄.imk (p₁.1.toks (tk+1)))) ei el p₄.2).seq fun ζ G₅ s₅ T₅ p₅=>?_
 have L₁:=L.step I (T₁.toks (tk+1))
 have L₄:=L₁.step (p₁.1.toks (tk+1)) T₄
 exact ((sp_step tb p₄.1 L₄ T₅ p₅ (fl:=.next) (f:=.next) trivial).back T₄.w (own_live L₄)).back (T₁.toks (tk+1)).w (own_live L₁)
theorem citI_is {σ:Sto} {j:Nat} {c:Nat × Bool} (e:citI σ j=some c):σ[j]?=some (.cit c.1 c.2):=by
 refine x1_2 (bind_is e) ?_
 (try clear e)
 intro o q e
 cases o <;> (first | exact noS e | cases e)
 exact q
theorem citAt {B:Base} {F:Lay} {σ:Sto} {s:Shared} (I:Inv B F σ s) {j l:Nat} {fin:Bool} (e:σ[j]?=some (.cit l fin)) :
  ∃ it bm x xs tk,Fat F j [it,bm]∧Fat F l (x :: xs)∧s.heap.get? it=some { cls:=.type "callable_iterator",data:=.fields (citF fin bm tk) }∧s.heap.get? bm=some { cls:=.type "method",data:=.fields #[.ref (B.fa B.lx.rd),.ref x] }:=by
 obtain ⟨as,ef,it,bm,x,xs,tk,hq_277,e1,e2,e3⟩:=I.at1 e rfl
 subst hq_277
 exact ⟨it,bm,x,xs,tk,ef,e1,e2,e3⟩
theorem fitNext_is {rd:V→Sto→Option (V × Sto)} {j:Nat} {σ:Sto} {o:Option (List Nat) × Sto} (e:fitNext rd j σ=some o):∃ l,(σ[j]?=some (.cit l true)∧o=(none,σ)) ∨
  (σ[j]?=some (.cit l false)∧∃ c σ₄,rd (.ref l) σ=some (.str c,σ₄)∧σ₄[j]?=some (.cit l false)∧((c=[]∧o=(none,σ₄.set j (.cit l true)))∨(c≠[]∧o=(some c,σ₄)))):=by
 refine xP1_2 (bind_is e) ?_; (try clear e); intro l fin q e
 refine ⟨l,?_⟩
 cases fin with
 | true=>apply s1 e; exact .inl ⟨citI_is q,rfl⟩
 | false =>
  dsimp only at e
  rw [if_neg (by decide)] at e
  refine xP1_2 (bind_is e) fun v σ₄ er e1=>?_
  refine x1_2 (bind_is e1) fun c hc e2=>?_
  refine x1_2 (bind_is e2) fun c' q' e3=>?_
  refine x0_2 (ite_of e3) fun hcc e4=>?_
  (try clear e e1 e2 e3)
  subst hcc
  have hv:=strV_is hc
  subst hv
  refine .inr ⟨citI_is q,c,σ₄,er,citI_is q',?_⟩
  cases c with
  | nil=>apply s1 e4; exact .inl ⟨rfl,rfl⟩
  | cons=>apply s1 e4; exact .inr ⟨nofun,rfl⟩
theorem fitN_is {t:Tg} {a:SL} {j n:Nat} {loc:Loc} {σ:Sto} {r:Fl × Loc × Sto} {rd:V→Sto→Option (V × Sto)} {K:Loc→Sto→Option (Fl × Loc × Sto)} (e:(fitN rd (loopStep Φ Λ Gv [] t a) j n (Fl.next,loc) σ).bind (endF K)=some r):∃ m o,n=m+1∧fitNext rd j σ=some o∧((o.1=none∧K loc o.2=some r) ∨
  ∃ c loc₁ x,o.1=some c∧bindT t (.str c) loc o.2=some loc₁∧evSL Φ Λ Gv a loc₁ o.2=some x∧Rest (fun l s=>(fitN rd (loopStep Φ Λ Gv [] t a) j m (Fl.next,l) s).bind (endF K)) r (turn [] x)):=by
 refine x1_2 (bind_is e) fun z h hz=>?_
 (try clear e)
 cases n with
 | zero=>exact noS h
 | succ m =>
  refine xP1_2 (bind_is h) ?_; (try clear h); intro oc σ₄ q h
  refine ⟨m,_,rfl,q,?_⟩
  cases oc with
  | none=>cases h; exact .inl ⟨rfl,hz⟩
  | some c =>
   refine x1_2 (bind_is h) ?_
   (try clear h)
   intro y hs h
   refine x2_3 (map2_is hs) fun loc₁ x eb ea hq_278=>?_
   subst hq_278
   refine .inr ⟨c,loc₁,x,rfl,eb,ea,rest_of (go:=fitN rd (loopStep Φ Λ Gv [] t a) j m) (z:=z) ?_ hz⟩
   by_cases hy:(turn [] x).1=true
   ·rw [if_pos hy] at h ⊢; exact h
   ·rw [if_neg hy] at h ⊢; exact (Option.some.inj h).symm
theorem str_nil {X:Str} {c:List Nat} (e:X.cps.toList=c):X=⟨#[]⟩↔c=[]:=by
 constructor
 ·rintro rfl; exact e.symm
 ·rintro rfl
  obtain ⟨hw_279⟩:=X
  obtain ⟨l⟩:=hw_279
  have:l=[]:=e
  rw [this]
theorem fit_turn (K:Kit B A d Φ Λ Gv gt mk kws) {t:Tg} {i:Nat} {p':Pos} (hti:t=.name i p') {a b:SL} (ha:JSL B A Φ Λ Gv gt tb kws a) (hb:JSL B A Φ Λ Gv gt tb kws b) {vis:List (Nat × Bool)} {wv gl:List Nat} {env:Env} {F:Lay} {s:Shared} (hwa:wfSL gt tb kws Gv vis wv gl a=true) (hwb:wfSL gt tb kws Gv vis wv gl b=true) (ht:∀ x∈tgSlots t,x∈wv) (R:ER B gt tb vis wv gl env) {it bm:Addr} {j n:Nat} {r:Fl × Loc × Sto} {s₃:Shared} {P:Flow→Shared→Prop} {J:Nat→Shared→Prop} (hP:∀ f s',SPost B tb vis (OwnA tb wv env) env F s r.1 r.2.1 r.2.2 f s'→P f s')
  (hJ:∀ n s',LoopX B tb vis (OwnA tb wv env) env F s (fun ζ F ζ ζ=>Fat F j [it,bm]) (fun ζ l σ=>(fitN (fun v σ=>Λ .read_char [v] σ) (loopStep Φ Λ Gv [] t a) j n (Fl.next,l) σ).bind (endF fun loc σ=>evSL Φ Λ Gv b loc σ)=some r) s'→J n s')
  (h:LoopX B tb vis (OwnA tb wv env) env F s (fun ζ F ζ ζ=>Fat F j [it,bm]) (fun ζ l σ=>(fitN (fun v σ=>Λ .read_char [v] σ) (loopStep Φ Λ Gv [] t a) j n (Fl.next,l) σ).bind (endF fun loc σ=>evSL Φ Λ Gv b loc σ)=some r) s₃) {E:Value→Shared→Prop} :
  wpAny (model B.prog B.w) A (pyNext (.ref it)) (NextQ B A gt tb t a b env it P n J E) E s₃:=by
 refine x4_5 (h) fun G k loc₃ σ₃ T I₃ L₃ ef e=>?_
 refine x2_3 (fitN_is e) ?_
 (try clear e)
 intro m o hq_280 hn e
 apply q1 hq_280
 obtain ⟨l,⟨q,rfl⟩ | ⟨q,c,σ₄,er,q',ho⟩⟩:=fitNext_is hn
 ·refine x5_4 (citAt I₃ q) fun it' bm' x' xs' tk' ef' ζ hit ζ=>?_
  cases ef.2.symm.trans ef'.2
  rcases e with ⟨_,e⟩ | ⟨_,_,_,z,_⟩
  ·exact cit_over K.room.handled hit fun h' k=>else_ok tb hb hwb R hP (T.draw tb (W:=fun ζ=>False) (s₅:={ s₃ with heap:=h' }) (.all k) fun ζ=>False.elim) (I₃.all k _) (L₃.mv (fun b o ζ e=>k b o e) (.of k) fun b w=>(L₃.fr w).1) e
  ·exact noS z
 ·refine x1_1 (K.lex) fun KL OL=>?_
  refine x5_4 (citAt I₃ q) fun it' bm' x' xs' tk' ef' el' hit hbm=>?_
  cases ef.2.symm.trans ef'.2
  have eΦ:=K.lam _ _ _ _ rfl er
  refine x2_3 (K.fn _ _ _ _ eΦ) fun o' fd h1 h2 h3=>?_
  rw [OL.rd] at h1
  have c₀:=K.phi A.in1 ⟨fun h=>h,Nat.le_refl _,Nat.add_le_add_left (by decide) _⟩ _ _ s₃ _ _ [.ref x'] _ _ (K.mkw _) I₃ (.cons (.ref el') .nil) eΦ
  rw [OL.rd] at c₀
  refine cit_step K.room.handled hit hbm (I₃.old.get_of_cls h1 h2) h3 (codeAny_mono c₀ fun r' s₄ z=>?_)
  rcases r' with z' | (v | _ | _ | _) <;> first | exact z | skip
  refine x1_3 (z) fun G₄ T₄ I₄ r₄=>?_
  refine x2_3 (r₄.str_is) fun X tX hq_281 eX bX=>?_
  apply q1 hq_281
  refine x5_4 (citAt I₄ q') fun it' bm' x'' xs'' tk'' ef' el'' hit' hbm'=>?_
  have ef₄:=app_get _ G₄ _ _ ef
  cases ef₄.2.symm.trans ef'.2
  cases (app_get _ G₄ _ _ el').2.symm.trans el''.2
  have L₄:=L₃.step I₃ T₄
  have T₃₄:=StepW.own tb T L₃ T₄.w I₄
  rw [List.append_assoc] at I₄ L₄ ef₄ el''
  refine ⟨X,tX,tk'',rfl,hit',hbm',⟨o',fd,I₄.old.get_of_cls h1 h2,h3⟩,fun hX=>?_,fun hX h' e1 k=>?_⟩
  ·rcases ho with ⟨hc,_⟩ | ⟨_,rfl⟩
   ·exact absurd ((str_nil eX).mpr hc) hX
   rcases e with ⟨z,_⟩ | ⟨c',loc₁,x,hc',eb,ea,e⟩
   ·cases z
   cases hc'
   subst hti
   exact wpAny_pure (turn_ok tb K ha hwa ht R I₄ L₄ (.str tX eX bX) eb ea e (Nat.lt_succ_self m) (fun f s₆ p=>hP _ _ (SPost.backP tb I₄ L₄ T₃₄ f p)) fun G' loc' s₆ T' I' L' e'=>hJ _ _ (.on (k:=k) tb T₃₄ L₄ T' I' L' (app_get _ G' _ _ ef₄) e'))
  ·rcases ho with ⟨rfl,rfl⟩ | ⟨hc,_⟩
   rotate_left
   ·exact absurd ((str_nil eX).mp hX) hc
   rcases e with ⟨_,e⟩ | ⟨_,_,_,z,_⟩
   rotate_left
   ·exact noS z
   have hne:bm≠it:=fun z=>by
    rw [z,hit'] at hbm'
    have:=congrArg Obj.cls (Option.some.inj hbm')
    simp at this
   have kp:Kept (·∈[it,bm]) s₄.heap h':=fun b o eb n=>k b o (fun z=>n (by rw [z]; exact .head _)) eb
   have I₅:=I₄.updO (o':=.cit l true) (tk:=s₄.toks) ef₄ kp fun im=>⟨it,bm,x',xs',tk'',rfl,el'',e1,k _ _ hne hbm'⟩
   have T₅:Step B (F++(G++G₄)) s₄ [] { s₄ with heap:=h' }:=.of_updO ef₄ kp
   have L₅:=L₄.step I₄ T₅
   rw [List.append_nil] at L₅
   have T₃₅:=StepW.own tb T₃₄ L₄ T₅.w (by rw [List.append_nil]; exact I₅)
   rw [List.append_nil] at T₃₅
   exact else_ok tb hb hwb R hP T₃₅ I₅ L₅ e
theorem js_fitr (K:Kit B A d Φ Λ Gv gt mk kws) {fuel i:Nat} {p':Pos} {ie:E} {a b:SL} (ha:JSL B A Φ Λ Gv gt tb kws a) (hb:JSL B A Φ Λ Gv gt tb kws b) (p:Pos):JS B A Φ Λ Gv gt tb kws (.fitr fuel i p' ie a b p):=by
 intro vis wv gl env loc F σ s fl loc' σ' hw R Iv L ev
 refine bB3 hw fun hwi hwt hwa hwb=>?_
 have ht:∀ x∈tgSlots (.name i p'),x∈wv:=fun x hx=>List.contains_iff_mem.mp (List.all_eq_true.mp (bA1 hwt).1 x hx)
 refine xP1_2 (bind_is (es_fitr.symm.trans ev)) ?_
 clear ev
 intro vi σ₁ ei e1
 refine x1_2 (bind_is e1) fun j hj e2=>?_
 refine wpAny_For (((okE K tb ie vis wv gl env loc F σ s hwi R Iv L).1 _ _ ei).seq fun x G₁ s₁ T₁ p₁=>?_) (folded_ok ie (wf_raw hwi))
 obtain ⟨l₀,fin₀,q₀⟩:∃ l fin,σ₁[j]?=some (.cit l fin):=by
  refine x2_3 (fitN_is e2) fun ζ o ζ hn ζ=>?_
  obtain ⟨l,⟨q,_⟩ | ⟨q,_⟩⟩:=fitNext_is hn
  ·exact ⟨_,_,q⟩
  ·exact ⟨_,_,q⟩
 refine x5_4 (citAt p₁.1 q₀) fun it bm x₀ xs₀ tk₀ ef ζ hit₀ ζ=>?_
 rw [(p₁.2.asRef hj).refAt ef]
 refine cit_iter hit₀ ?_
 have L₁:=L.step Iv T₁
 refine codeAny_mono (codeAny_forLoop_any (R:=stR (SPost B tb vis (OwnA tb wv env) env (F++G₁) s₁ fl loc' σ'))
  (fun n=>LoopX B tb vis (OwnA tb wv env) env (F++G₁) s₁ (fun ζ F ζ ζ=>Fat F j [it,bm]) (fun ζ l σ=>(fitN (fun v σ=>Λ .read_char [v] σ) (loopStep Φ Λ Gv [] (.name i p') a) j n (Fl.next,l) σ).bind (endF fun loc σ=>evSL Φ Λ Gv b loc σ)=some (fl,loc',σ')))
  (fun n s₃ h=>fit_turn (r:=(fl,loc',σ')) tb K rfl ha hb hwa hwb ht R (fun ζ ζ h=>h) (fun ζ ζ h=>h) h) fuel (.start tb (k:=0) p₁.1 L₁ (fun ζ ζ e=>e) ef e2)) fun r s' h=>?_
 cases r with
 | error z=>exact h.elim
 | ok f=>exact h.back T₁.w (own_live L₁)
end
end Mine
namespace Mine
open PySem
section
variable {B:Base} {A:Around} {d:Nat} {Φ:Calls} {Λ:Lexer} {Gv:Nat→Option V} {gt:List Str} {mk:Me→Nat} {kws:Nat→Str→Bool} (K:Kit B A d Φ Λ Gv gt mk kws) (tb:List Str)
include K in
mutual
theorem okS:∀ st:S,JS B A Φ Λ Gv gt tb kws st
 | .assign (.name i q) e p=>js_assignName K tb i q e p
 | .assign (.tup is q) e p=>js_assignTup K tb is q e p
 | .assignSub a i q e p=>js_assignSub K tb a i q e p
 | .aug i q op e p=>js_aug K tb i q op e p
 | .augSub a i q op e p=>js_augSub K tb a i q op e p
 | .expr e p=>js_expr K tb e p
 | .ret e p=>js_ret K tb e p
 | .cond t a b p=>js_cond tb K (okSL a) (okSL b) p
 | .whil n clr t a p=>js_whil tb K (okSL a) p
 | .loop clr t it a b p=>js_loop tb K (okSL a) (okSL b) p
 | .enum clr is tp g gp it a b q p=>js_enum tb K (okSL a) (okSL b) q p
 | .inc o q1 q2 p=>js_inc K tb o q1 q2 p
 | .fitr n i tp it a b p=>js_fitr tb K (okSL a) (okSL b) p
 | .brk p=>js_brk tb p
 | .cont p=>js_cont tb p
 | .raw x=>by intro vis wv gl env loc F σ s fl loc' σ' hw R I L e; exact noS e
theorem okSL:∀ st:SL,JSL B A Φ Λ Gv gt tb kws st
 | .nil=>jsl_nil tb
 | .cons s r=>jsl_cons tb (okS s) (okSL r)
end
end
end Mine
namespace Mine
open PySem
section
variable {B:Base} {A:Around} {F G:Lay} {σ σ':Sto} {s s':Shared} {v v':V} {x:Value}
theorem nodup_apart {F G:Lay} {i:Nat} {as:List Addr} (nd:(F++G).flatten.Nodup) (hi:F.length≤i) (e:(F++G)[i]?=some as):as.Nodup∧(∀ a∈as,a∉F.flatten)∧∀ a∈as,a∈G.flatten:=by
 rw [List.getElem?_append_right hi] at e
 rw [List.flatten_append,List.nodup_append] at nd
 have hm:∀ a∈as,a∈G.flatten:=fun a ha=>flat_mem e ha
 refine ⟨?_,fun a ha q=>nd.2.2 a q a (hm a ha) rfl,hm⟩
 have:=nd.2.1
 exact (List.pairwise_flatten.mp this).1 as (List.mem_of_getElem? e)
theorem leave_at {i:Nat} {o:O} {fz:Bool} (T:Step B F s G s') (I:Inv B (F++G) σ s') (h0:0 < F.length) (l:stoLow F.length (σ.take F.length)=true) (hi:F.length≤i) (r:VR B.fa s'.heap (F++G) (.ref i) x) (ho:σ[i]?=some o) (ol:o.low F.length=true):Cn B F s (PE B (hand fz F.length σ o).2 (hand fz F.length σ o).1) x s':=by
 have It:=I.take h0 l
 refine x2_2 (r.ref_is) fun a as hq_272 er=>?_
 apply q1 hq_272
 have na:=nodup_apart I.nodup hi er.2
 have hor:=I.obj i o _ ho er.2
 have cell:Cn B F s (PE B (σ.take F.length++[o]) (.ref F.length)) (.ref a) s':=by
  refine ⟨[a :: as],⟨T.kept,fun b hb=>T.fresh b (na.2.2 b (by simpa using hb))⟩,It.grow (take_obj I (.one na.2.2) l) (hor.low (.one na.2.2) ol) na.1 na.2.1 fun b hb=>I.fresh b (flat_mem er.2 hb),.ref (as:=as) ⟨h0,by rw [List.getElem?_concat_length]⟩⟩
 cases o with
 | list xs =>
  cases fz with
  | false=>exact cell
  | true =>
   refine x2_4 (hor.low .left ol) fun a' items e hw_273 q z=>?_
   refine x1_1 (hw_273) fun n p=>?_
   cases e
   exact ⟨[],⟨T.kept,fun ζ h=>by cases h⟩,by rw [List.append_nil]; exact ⟨It,.lst p (na.2.1 a (.head _)) q z⟩⟩
 | _=>exact cell
theorem leave_ok (fz:Bool) (T:Step B F s G s') (I:Inv B (F++G) σ s') (h0:0 < F.length) (r:VR B.fa s'.heap (F++G) v x):Cn B F s (PE B (leave fz F.length v σ).2 (leave fz F.length v σ).1) x s':=by
 have all:Cn B F s (PE B σ v) x s':=⟨G,T,I,r⟩
 unfold leave
 by_cases q:(stoLow F.length (σ.take F.length)&&decide (F.length≤σ.length))=true
 ·rw [if_pos q]
  have q:=Bool.and_eq_true_iff.mp q
  by_cases hl:v.low F.length=true
  ·rw [if_pos hl]
   exact ⟨[],⟨T.kept,fun ζ h=>by cases h⟩,by rw [List.append_nil]; exact ⟨I.take h0 q.1,r.low .left hl⟩⟩
  ·rw [if_neg hl]
   cases e:(refV v).bind fun i=>(σ[i]?).bind fun o=>if o.low F.length then some (hand fz F.length σ o) else none with
   | none=>exact all
   | some y =>
    refine x2_3 (bin2_is e) ?_
    (try clear e)
    intro i o hv ho e
    refine x0_2 (ite_is e) fun ol hq_274=>?_
    apply q2 hq_274
    have hv:=refV_is hv
    subst hv
    exact leave_at T I h0 q.1 (Nat.not_lt.mp fun z=>hl (decide_eq_true z)) r ho ol
 ·rw [if_neg q]; exact all
end
end Mine
namespace Mine
open PySem
structure Fn where
 tb:List Str
 vis:List (Nat × Bool)
 wv:List Nat
 gl:List Nat
 n:Nat
 np:Nat
 fz:Bool
 body:SL
noncomputable def Fn.okB (gt:List Str) (kws:Nat→Str→Bool) (Gv:Nat→Option V) (f:Fn) (sc:Scope):Bool :=
 (sc.kind==.function)&&!sc.isCoroutine&&!sc.isGenerator &&
 f.vis.all (fun p=>sc.names.lookup (nmOf f.tb p.1)==some (if p.2 then .cell else .local)) &&
 f.gl.all (fun g=>sc.names.lookup (nmOf gt g)==some .globalImplicit&&plainNm (nmOf gt g)) &&
 nodupB (f.vis.map fun p=>nmOf f.tb p.1) &&
 nodupB (sc.names.map (·.1)) &&
 f.vis.all (fun p=>plainNm (nmOf f.tb p.1)) &&
 f.wv.all (fun i=>f.vis.any (·.1==i)) &&
 (List.range f.np).all (fun i=>f.vis.any (·.1==i)) &&
 nodupB ((List.range f.np).map (nmOf f.tb)) &&
 wfSL gt f.tb kws Gv f.vis f.wv f.gl f.body
structure FnP (gt:List Str) (kws:Nat→Str→Bool) (Gv:Nat→Option V) (f:Fn) (sc:Scope):Prop where
 kind:sc.kind=.function
 co:sc.isCoroutine=false
 gen:sc.isGenerator=false
 nm:∀ p∈f.vis,sc.names.lookup (nmOf f.tb p.1)=some (if p.2 then .cell else .local)
 gl:∀ g∈f.gl,sc.names.lookup (nmOf gt g)=some .globalImplicit∧plainNm (nmOf gt g)=true
 nd:(f.vis.map fun p=>nmOf f.tb p.1).Nodup
 nds:(sc.names.map (·.1)).Nodup
 plain:∀ p∈f.vis,plainNm (nmOf f.tb p.1)=true
 wv:∀ i∈f.wv,∃ b,(i,b)∈f.vis
 par:∀ i,i < f.np→∃ b,(i,b)∈f.vis
 ndp:((List.range f.np).map (nmOf f.tb)).Nodup
 wf:wfSL gt f.tb kws Gv f.vis f.wv f.gl f.body=true
theorem any_of {vis:List (Nat × Bool)} {i:Nat} (h:vis.any (·.1==i)=true):∃ b,(i,b)∈vis:=by
 refine xP1_2 (List.any_eq_true.mp h) fun j b m e=>?_
 have e:(j==i)=true:=e
 cases eq_of_beq e
 exact ⟨b,m⟩
theorem fnP_of {gt:List Str} {kws:Nat→Str→Bool} {Gv:Nat→Option V} {f:Fn} {sc:Scope} (h:f.okB gt kws Gv sc=true):FnP gt kws Gv f sc:=by
 unfold Fn.okB at h
 simp only [Bool.and_eq_true] at h
 refine x0_2 (h) fun hw_284 h12=>?_
 refine x0_2 (hw_284) fun hw_285 h11=>?_
 refine x0_2 (hw_285) fun hw_286 h10=>?_
 refine x0_2 (hw_286) fun hw_287 h9=>?_
 refine x0_2 (hw_287) fun hw_288 h8=>?_
 refine x0_2 (hw_288) fun hw_289 h7=>?_
 refine x0_2 (hw_289) fun hw_290 h6=>?_
 refine x0_2 (hw_290) fun hw_291 h5=>?_
 refine x0_2 (hw_291) fun hw_292 h4=>?_
 obtain ⟨⟨h1,h2⟩,h3⟩:=hw_292
 refine ⟨eq_of_beq h1,by simpa using h2,by simpa using h3,fun p hp=>eq_of_beq (List.all_eq_true.mp h4 p hp),fun g hg=>?_,nodup_of h6,nodup_of h7,fun p hp=>List.all_eq_true.mp h8 p hp,fun i hi=>any_of (List.all_eq_true.mp h9 i hi),fun i hi=>any_of (List.all_eq_true.mp h10 i (List.mem_range.mpr hi)),nodup_of h11,h12⟩
 have:=List.all_eq_true.mp h5 g hg
 rw [Bool.and_eq_true] at this
 exact ⟨eq_of_beq this.1,this.2⟩
theorem bindL_off {kindOf:Str→Option NameKind} {n:Str}:∀ {names:List Str} {xs:List Value} {m:Str→Option Value},n∉names→bindL kindOf (names.zip xs) m n=m n
 | [],xs,m,_=>by cases xs <;> rfl
 | a :: names,[],m,_=>rfl
 | a :: names,x :: xs,m,h=>by
  rw [List.mem_cons,not_or] at h
  show bindL kindOf (names.zip xs) _ n=_
  rw [bindL_off h.2]
  split
  ·show (if n=a then some x else m n)=m n
   rw [if_neg h.1]
  ·rfl
theorem bindL_at {kindOf:Str→Option NameKind} {n:Str}:∀ {names:List Str} {xs:List Value} {m:Str→Option Value} {i:Nat} {x:Value},names.Nodup→names[i]?=some n→xs[i]?=some x→kindOf n=some .local→bindL kindOf (names.zip xs) m n=some x
 | [],xs,m,i,x,_,e,_,_=>by exact noS e
 | a :: names,[],m,i,x,_,_,e,_=>by exact noS e
 | a :: names,y :: xs,m,0,x,nd,e,e',k=>by
  cases e; cases e'
  show bindL kindOf (names.zip xs) _ _=_
  rw [bindL_off (List.nodup_cons.mp nd).1,if_pos k]
  exact if_pos rfl
 | a :: names,y :: xs,m,i+1,x,nd,e,e',k=>by
  show bindL kindOf (names.zip xs) _ n=_
  exact bindL_at (List.nodup_cons.mp nd).2 e e' k
theorem bindC_off {kindOf:Str→Option NameKind} {n:Str}:∀ {names:List Str} {xs:List Value} {m:Str→Option Value},n∉names→bindC kindOf (names.zip xs) m n=m n
 | [],xs,m,_=>by cases xs <;> rfl
 | a :: names,[],m,_=>rfl
 | a :: names,x :: xs,m,h=>by
  rw [List.mem_cons,not_or] at h
  show bindC kindOf (names.zip xs) _ n=_
  rw [bindC_off h.2]
  split
  ·rfl
  ·show (if n=a then some x else m n)=m n
   rw [if_neg h.1]
theorem bindC_at {kindOf:Str→Option NameKind} {n:Str}:∀ {names:List Str} {xs:List Value} {m:Str→Option Value} {i:Nat} {x:Value},names.Nodup→names[i]?=some n→xs[i]?=some x→kindOf n=some .cell→bindC kindOf (names.zip xs) m n=some x
 | [],xs,m,i,x,_,e,_,_=>by exact noS e
 | a :: names,[],m,i,x,_,_,e,_=>by exact noS e
 | a :: names,y :: xs,m,0,x,nd,e,e',k=>by
  cases e; cases e'
  show bindC kindOf (names.zip xs) _ _=_
  rw [bindC_off (List.nodup_cons.mp nd).1,if_neg (by rw [k]; decide)]
  exact if_pos rfl
 | a :: names,y :: xs,m,i+1,x,nd,e,e',k=>by
  show bindC kindOf (names.zip xs) _ n=_
  exact bindC_at (List.nodup_cons.mp nd).2 e e' k
theorem plain_of {x:Str} (h:plainNm x=true):(x==("__debug__":Str))=false∧(x==("__classdict__":Str))=false:=by
 unfold plainNm at h
 rw [Bool.and_eq_true,Bool.not_eq_true',Bool.not_eq_true'] at h
 exact h
section
variable {B:Base} {A:Around} {F:Lay} {σ σ':Sto} {s:Shared} {d:Nat} {v:V} {gt:List Str} {Φ:Calls} {Λ:Lexer} {Gv:Nat→Option V} {mk:Me→Nat} {kws:Nat→Str→Bool}
theorem call_ok {f:Fn} {fd:FuncData} {a:Addr} {o:Obj} {as:List V} {xs xs':List Value} {kw:List (Str × Value)} {A₀:Around} (K:∀ A',Room A' d→Kit B A' d Φ Λ Gv gt mk kws) (R:Room A₀ (d+1)) (Nr:Near A₀ A)
  (I:Inv B F σ s) (r:VRs B.fa s.heap F as xs) (hnp:as.length=f.np)
  (ho:B.h0.get? a=some o) (hc:o.cls≠.none) (hd:o.data=.func fd) (hb:fd.body=.stmts (toSL gt f.tb f.body)) (hcl:fd.closure=[]) (hg:fd.globals=B.gA) (hbu:fd.builtins=B.bA)
  (hcd:s.heap.CodeRec fd.code fd.qualname) (ok:FnP gt kws Gv f fd.scope)
  (bind:BindsTo s fd ⟨xs',kw⟩ (((List.range f.np).map (nmOf f.tb)).zip xs)) (e:runF Φ Λ Gv f.fz f.n f.body as σ=some (v,σ')) :
  codeAny (model B.prog B.w) A (.call (.ref a) ⟨xs',kw⟩) (retR (Cn B F s (PE B σ' v))) s:=by
 have ho':s.heap.get? a=some o:=I.old.get_of_cls ho hc
 refine codeAny_call_function (by have:=R.depth; have:=Nr.depth; show A.depth < 1000; (first | lia | omega)) ho' hd ok.co ok.gen hb hcd (bind _ _ _ _ ?_)
 rw [hcl]
 have hkind:∀ x∈((List.range f.np).map (nmOf f.tb)).zip xs,fd.scope.names.lookup x.1=some .local∨(fd.scope.names.lookup x.1=some .cell∧((cellsFrom (s.heap.objs.size+1) fd.scope.names []).lookup x.1).isSome=true):=by
  rintro ⟨n,y⟩ hx
  have hn:=(List.of_mem_zip hx).1
  refine x1_2 (List.mem_map.mp hn) fun i hi hq_293=>?_
  apply q2 hq_293
  refine x1_1 (ok.par i (List.mem_range.mp hi)) fun b hb=>?_
  have:=ok.nm _ hb
  cases b with
  | false=>exact .inl this
  | true =>
   refine .inr ⟨this,?_⟩
   have q:=cells_ok fd.scope.names (s.heap.push { cls:=.type "frame",data:=.dict #[] }) [] ok.nds (fun n c e=>by cases e) (fun n n' c e=>by exact noS e)
   rw [show (s.heap.push { cls:=.type "frame",data:=.dict #[] }).objs.size=s.heap.objs.size+1 from Heap.size_push ..] at q
   refine x1_2 (q.2.1 _ (mem_of_lookup this)) fun c ec ζ=>?_
   show ((cellsFrom (s.heap.objs.size+1) fd.scope.names []).lookup (nmOf f.tb i)).isSome=true
   rw [ec]; rfl
 refine wpAny_newFunctionEnv_cells ok.kind hkind fun env he s₁ x'=>?_
 have hL:env.locals=s.heap.objs.size:=by rw [he]; rfl
 have hsc:env.scope=fd.scope:=by rw [he]; rfl
 have hcs:env.cells=cellsFrom (s.heap.objs.size+1) fd.scope.names []:=by rw [he]; rfl
 have kn:∀ n,env.kindOf n=fd.scope.names.lookup n:=fun n=>by unfold Env.kindOf; rw [hsc]
 have hk₁:=x'.toInCall.keep
 refine x2_2 (x'.done) fun h₁ tk e₁ ζ=>?_
 have im₁:Mv F F s.heap s₁.heap:=.of hk₁
 have I₁:Inv B F σ s₁:=by rw [e₁]; exact I.all (by rw [e₁] at hk₁; exact hk₁) tk
 have r₁:VRs B.fa s₁.heap F as xs:=r.step im₁
 refine ⟨I₁.lim,codeAny_func ?_⟩
 have fresh:∀ b,s.heap.objs.size≤b→s.heap.get? b=none:=fun b hb=>by
  cases e:s.heap.get? b with
  | none=>rfl
  | some o=>exact absurd (Heap.lt_size e) (Nat.not_lt.mpr hb)
 have er:ER B gt f.tb f.vis f.wv f.gl env:=by
  refine ⟨by rw [hsc]; exact ok.kind,by rw [he]; exact hg,by rw [he]; exact hbu,fun i hi=>by rw [kn]; exact ok.nm _ hi,fun i hi=>.inl (by rw [kn]; exact ok.nm _ hi),fun i hi=>?_,fun g h=>by rw [kn]; exact (ok.gl g h).1,fun i j b c hi hj e=>?_,fun i b hi=>plain_of (ok.plain _ hi),fun g h=>(plain_of (ok.gl g h).2).1⟩
  ·refine x1_1 (ok.wv i hi) fun b hb=>?_
   cases b with
   | false=>exact .inl hb
   | true=>exact .inr ⟨hb,by rw [kn]; exact ok.nm _ hb⟩
  ·have:=nodup_inj ok.nd hi hj e
   exact ⟨congrArg (·.1) this,congrArg (·.2) this⟩
 have len:=r.length
 have lr:LR B f.tb f.vis env F (as.map some++List.replicate (f.n - as.length) none) s₁.heap:=by
  have at_:∀ (i:Nat) (v:V),(as.map some++List.replicate (f.n - as.length) none)[i]?=some (some v)→as[i]?=some v∧i < f.np:=fun i v e=>by
   by_cases hi:i < as.length
   ·rw [List.getElem?_append_left (by rw [List.length_map]; exact hi),List.getElem?_map] at e
    cases q:as[i]? with
    | none=>rw [q] at e; exact noS e
    | some u=>rw [q] at e; cases e; exact ⟨rfl,hnp▸hi⟩
   ·rw [List.getElem?_append_right (by rw [List.length_map]; (first | lia | omega)),List.getElem?_replicate] at e
    split at e <;> (first | exact noS e | cases e)
  have nm_:∀ i,i < f.np→((List.range f.np).map (nmOf f.tb))[i]?=some (nmOf f.tb i):=fun i hi=>by
   rw [List.getElem?_map,List.getElem?_range hi]; rfl
  refine ⟨⟨_,x'.toInCall.ns,fun i v hi e=>?_⟩,fun i hi=>?_,⟨?_,?_⟩,fun n c e=>⟨?_,?_,_,x'.cell n c e⟩,fun n n' c e e'=>?_⟩
  ·refine x0_2 (at_ i v e) ?_
   (try clear e)
   intro e hi'
   refine x1_2 (r₁.get e) fun y ey ry=>?_
   exact ⟨y,bindL_at ok.ndp (nm_ i hi') ey (by rw [kn]; exact ok.nm _ hi),ry⟩
  ·have q:=cells_ok fd.scope.names (s.heap.push { cls:=.type "frame",data:=.dict #[] }) [] ok.nds (fun n c e=>by cases e) (fun n n' c e=>by exact noS e)
   rw [show (s.heap.push { cls:=.type "frame",data:=.dict #[] }).objs.size=s.heap.objs.size+1 from Heap.size_push ..] at q
   refine x1_2 (q.2.1 _ (mem_of_lookup (ok.nm _ hi))) fun c ec ζ=>?_
   rw [← hcs] at ec
   refine ⟨c,_,ec,x'.cell _ c ec,fun v e=>?_⟩
   refine x0_2 (at_ i v e) ?_
   (try clear e)
   intro e hi'
   refine x1_2 (r₁.get e) fun y ey ry=>?_
   exact ⟨y,bindC_at ok.ndp (nm_ i hi') ey (by rw [kn]; exact ok.nm _ hi),ry⟩
  ·rw [hL]; exact (I.dead (fresh _ (Nat.le_refl _))).2
  ·rw [hL]; exact (I.dead (fresh _ (Nat.le_refl _))).1
  ·have:=x'.above n c (mem_of_lookup e)
   rw [hL] at this
   exact (I.dead (fresh _ (Nat.le_of_lt this))).2
  ·have:=x'.above n c (mem_of_lookup e)
   rw [hL] at this
   exact (I.dead (fresh _ (Nat.le_of_lt this))).1
  ·exact name_of_addr x'.apart (mem_of_lookup e) (mem_of_lookup e')
 have room:Room (A.deeper env) d:=⟨Nr.handled R.handled,by have:=R.depth; have:=Nr.depth; show A.depth+1+d≤800; (first | lia | omega),by have:=R.units; have:=Nr.units; rw [Around.deeper_units]; (first | lia | omega)⟩
 refine x1_2 (bind_is e) ?_
 (try clear e)
 intro x ex e
 refine x1_2 (map_is e) ?_
 (try clear e)
 intro u eu e
 refine wpAny_mono (okSL (K _ room) f.tb f.body f.vis f.wv f.gl env _ F σ s₁ _ _ _ ok.wf er I₁ lr ex) (fun fw s' p=>?_) fun ζ ζ z=>z.elim
 refine x1_4 (p) fun G T I' ζ q=>?_
 have T':Step B F s G s':=by
  refine ⟨fun b o e n=>T.kept b o (hk₁ b o e) ?_,fun b hb=>?_⟩
  ·rintro (q | q)
   ·exact n q
   ·have:s.heap.objs.size≤b:=by
     rcases q with rfl | ⟨i,_,q⟩
     ·rw [hL]; exact Nat.le_refl _
     ·have:=x'.above _ _ (mem_of_lookup q); rw [hL] at this; exact Nat.le_of_lt this
    rw [fresh b this] at e; exact noS e
  ·cases e:s.heap.get? b with
   | none=>rfl
   | some o=>have:=T.fresh b hb; rw [hk₁ b o e] at this; cases this
 have done:∀ {y:Value},VR B.fa s'.heap (F++G) u y→Cn B F s (PE B σ' v) y s':=fun {y} hv=>by
  have:=leave_ok f.fz T' I' (by rw [I.len]; exact I.size) hv
  rw [I.len,e] at this; exact this
 obtain ⟨fl,loc',σ₂⟩:=x
 cases fl with
 | ret w=>cases eu; cases fw <;> first | exact q.elim | exact done q
 | next=>cases eu; cases fw <;> first | exact q.elim | exact done .none
 | _=>exact noS eu
end
end Mine
namespace Mine
open PySem
noncomputable def giveVis:List (Nat × Bool):=[(0,false),(1,true),(2,true),(3,false)]
noncomputable def giveB (gt:List Str) (kws:Nat→Str→Bool) (Gv:Nat→Option V) (f:Fn) (sc:Scope):Bool :=
 (sc.kind==.function)&&!sc.isCoroutine&&!sc.isGenerator &&
 sc.names.all (fun x=>x.2 != .cell) &&
 (sc.names.lookup (nmOf f.tb 0)==some .local)&&(sc.names.lookup (nmOf f.tb 3)==some .local)&&(sc.names.lookup (nmOf f.tb 1)==some .free)&&(sc.names.lookup (nmOf f.tb 2)==some .free) &&
 (nmOf f.tb 1==Str.ofString "text")&&(nmOf f.tb 2==Str.ofString "at") &&
 f.gl.all (fun g=>sc.names.lookup (nmOf gt g)==some .globalImplicit&&plainNm (nmOf gt g)) &&
 nodupB (giveVis.map fun p=>nmOf f.tb p.1)&&giveVis.all (fun p=>plainNm (nmOf f.tb p.1)) &&
 wfSL gt f.tb kws Gv giveVis [3] f.gl f.body
structure GiveP (B:Base) (gt:List Str) (kws:Nat→Str→Bool) (Gv:Nat→Option V) (f:Fn) (sc:Scope):Prop where
 bd:∀ cl cd ct,(B.lx.gv cl cd ct).body=.stmts (toSL gt f.tb f.body)
 cl:∀ cl cd ct,(B.lx.gv cl cd ct).closure=cl
 gl:∀ cl cd ct,(B.lx.gv cl cd ct).globals=B.gA
 bu:∀ cl cd ct,(B.lx.gv cl cd ct).builtins=B.bA
 code:∀ cl cd ct,(B.lx.gv cl cd ct).code=cd
 qn:∀ cl cd ct,(B.lx.gv cl cd ct).qualname=B.lx.q2
 scp:∀ cl cd ct,(B.lx.gv cl cd ct).scope=sc
 bind:∀ cl cd ct v,bindArgs (B.lx.gv cl cd ct) ⟨[v],[]⟩=pure [(nmOf f.tb 0,v)]
 ok:giveB gt kws Gv f sc=true
 ev:∀ Φ Λ text (k:Int) σ a,0≤k→vlist σ a=some [.int k]→∃ loc',evSL Φ Λ Gv f.body [some (.int 1),some (.str text),some (.ref a),none] σ=some (.ret (.str (pieceAt text k)),loc',σ.set a (.list [.int (k+(pieceAt text k).length)]))
section
variable {B:Base} {A:Around} {F:Lay} {σ σ':Sto} {s:Shared} {d:Nat} {v:V} {gt:List Str} {Φ:Calls} {Λ:Lexer} {Gv:Nat→Option V} {mk:Me→Nat} {kws:Nat→Str→Bool}
theorem look2 {n1 n2 n:Str} {c1 c2 c:Addr} (e:([(n1,c1),(n2,c2)]:List (Str × Addr)).lookup n=some c):(n=n1∧c=c1)∨(n=n2∧c=c2):=by
 have:=mem_of_lookup e
 rw [List.mem_cons,List.mem_singleton] at this
 rcases this with z | z
 ·cases z; exact .inl ⟨rfl,rfl⟩
 ·cases z; exact .inr ⟨rfl,rfl⟩
theorem vis0 {i:Nat} (h:(i,false)∈giveVis):i=0∨i=3:=by simpa [giveVis] using h
theorem vis1 {i:Nat} (h:(i,true)∈giveVis):i=1∨i=2:=by simpa [giveVis] using h
theorem lookup_one (n:Str) (v:Value):([(n,v)]:List (Str × Value)).reverse.lookup n=some v:=by
 show List.lookup n [(n,v)]=_
 rw [List.lookup_cons,beq_self_eq_true]
theorem give_lr {f:Fn} {env:Env} {h:Heap} {m:Str→Option Value} {a:Nat} {text:List Nat} {la cT cA:Addr} {t:Tok} (h9:nmOf f.tb 1=Str.ofString "text") (h10:nmOf f.tb 2=Str.ofString "at") (eC:env.cells=[(Str.ofString "text",cT),(Str.ofString "at",cA)]) (hns:h.Ns env.locals m) (hm:m (nmOf f.tb 0)=some (.int 1 t)) (ea:Fat F a [la])
  (hT:∃ X t,h.IsCell cT (some (.str X t))∧X.cps.toList=text) (hA:h.IsCell cA (some (.ref la))) (hb:text.length≤maxLen) (hL:env.locals∉F.flatten∧B.h0.get? env.locals=none) (oT:cT∉F.flatten∧B.h0.get? cT=none) (oA:cA∉F.flatten∧B.h0.get? cA=none) (hne:cT≠cA):LR B f.tb giveVis env F [some (.int 1),some (.str text),some (.ref a),none] h:=by
 refine x2_2 (hT) fun X tX cellT hX=>?_
 refine ⟨⟨m,hns,fun i v hi e=>?_⟩,fun i hi=>?_,hL,fun n c e=>?_,fun n n' c e e'=>?_⟩
 ·rcases vis0 hi with rfl | rfl
  ·cases e; exact ⟨_,hm,.int _ _⟩
  ·cases e
 ·rcases vis1 hi with rfl | rfl
  ·exact ⟨cT,_,by rw [eC,h9]; rfl,cellT,fun v e=>by cases e; exact ⟨_,rfl,.str tX hX hb⟩⟩
  ·exact ⟨cA,_,by rw [eC,h10]; rfl,hA,fun v e=>by cases e; exact ⟨_,rfl,.ref ea⟩⟩
 ·rw [eC] at e
  rcases look2 e with ⟨rfl,rfl⟩ | ⟨rfl,rfl⟩
  ·exact ⟨oT.1,oT.2,_,cellT⟩
  ·exact ⟨oA.1,oA.2,_,hA⟩
 ·rw [eC] at e e'
  rcases look2 e with ⟨rfl,rfl⟩ | ⟨rfl,rfl⟩ <;> rcases look2 e' with ⟨rfl,z⟩ | ⟨rfl,z⟩
  ·rfl
  ·exact (hne z).elim
  ·exact (hne z.symm).elim
  ·rfl
structure GiveK (gt:List Str) (kws:Nat→Str→Bool) (Gv:Nat→Option V) (f:Fn) (sc:Scope):Prop where
 kind:sc.kind=.function
 co:sc.isCoroutine=false
 gen:sc.isGenerator=false
 cell:∀ x∈sc.names,x.2≠.cell
 l0:sc.names.lookup (nmOf f.tb 0)=some .local
 l3:sc.names.lookup (nmOf f.tb 3)=some .local
 f1:sc.names.lookup (nmOf f.tb 1)=some .free
 f2:sc.names.lookup (nmOf f.tb 2)=some .free
 n1:nmOf f.tb 1=Str.ofString "text"
 n2:nmOf f.tb 2=Str.ofString "at"
 gl:∀ g∈f.gl,sc.names.lookup (nmOf gt g)=some .globalImplicit∧plainNm (nmOf gt g)=true
 nd:(giveVis.map fun p=>nmOf f.tb p.1).Nodup
 plain:∀ p∈giveVis,plainNm (nmOf f.tb p.1)=true
 wf:wfSL gt f.tb kws Gv giveVis [3] f.gl f.body=true
theorem giveK {f:Fn} {sc:Scope} (ok:giveB gt kws Gv f sc=true):GiveK gt kws Gv f sc:=by
 unfold giveB at ok
 simp only [Bool.and_eq_true] at ok
 refine x0_2 (ok) fun hw_294 h14=>?_
 refine x0_2 (hw_294) fun hw_295 h13=>?_
 refine x0_2 (hw_295) fun hw_296 h12=>?_
 refine x0_2 (hw_296) fun hw_297 h11=>?_
 refine x0_2 (hw_297) fun hw_298 h10=>?_
 refine x0_2 (hw_298) fun hw_299 h9=>?_
 refine x0_2 (hw_299) fun hw_300 h8=>?_
 refine x0_2 (hw_300) fun hw_301 h7=>?_
 refine x0_2 (hw_301) fun hw_302 h6=>?_
 refine x0_2 (hw_302) fun hw_303 h5=>?_
 refine x0_2 (hw_303) fun hw_304 h4=>?_
 obtain ⟨⟨h1,h2⟩,h3⟩:=hw_304
 exact ⟨eq_of_beq h1,(Bool.not_eq_true' _).mp h2,(Bool.not_eq_true' _).mp h3,fun y hy=>bne_iff_ne.mp (List.all_eq_true.mp h4 y hy),eq_of_beq h5,eq_of_beq h6,eq_of_beq h7,eq_of_beq h8,eq_of_beq h9,eq_of_beq h10,fun g hg=>let z:=bA1 (List.all_eq_true.mp h11 g hg); ⟨eq_of_beq z.1,z.2⟩,nodup_of h12,fun p hp=>List.all_eq_true.mp h13 p hp,h14⟩
theorem give_er {f:Fn} {sc:Scope} {env:Env} (k:GiveK gt kws Gv f sc) (eS:env.scope=sc) (eG:env.globals=B.gA) (eB:env.builtins=B.bA):ER B gt f.tb giveVis [3] f.gl env:=by
 have kn:∀ n,env.kindOf n=sc.names.lookup n:=fun n=>by unfold Env.kindOf; rw [eS]
 refine ⟨by rw [eS]; exact k.kind,eG,eB,fun i hi=>?_,fun i hi=>.inr ?_,fun i hi=>.inl ?_,fun g hg=>by rw [kn]; exact (k.gl g hg).1,fun i j b c hi hj e=>?_,fun i b hi=>plain_of (k.plain _ hi),fun g hg=>(plain_of (k.gl g hg).2).1⟩
 ·rw [kn]
  rcases vis0 hi with rfl | rfl
  ·exact k.l0
  ·exact k.l3
 ·rw [kn]
  rcases vis1 hi with rfl | rfl
  ·exact k.f1
  ·exact k.f2
 ·cases List.mem_singleton.mp hi; simp [giveVis]
 ·have:=nodup_inj k.nd hi hj e
  exact ⟨congrArg (·.1) this,congrArg (·.2) this⟩
theorem LexH.two {h:Heap} {as:List Addr} {text:List Nat} {la p x dx st sd gv cT cA:Addr} {line:Int} (L:LexH B h as text la line p x dx st sd gv cT cA) (nd:as.Nodup):cT∈as∧cA∈as∧cT≠cA:=by
 have e:=L.as_
 subst e
 refine ⟨by simp,by simp,fun z=>?_⟩
 subst z
 simp at nd
theorem Inv.small (I:Inv B F σ s) {a:Nat} {k:Int} {la:Addr} (hk:vlist σ a=some [.int k]) (ef:Fat F a [la]):∃ o,Inv B [[],[la]] [o,.list [.int k]] s:=by
 refine x2_1 (I.zero) fun k0 xs0 z=>?_
 refine x1_2 (I.at z) fun ζ e0 r0=>?_
 refine x2_4 (I.listAt hk) fun la' items ea' hl hv hz=>?_
 cases ef.2.symm.trans ea'.2
 refine ⟨.scr k0 xs0,I.old,I.lim,I.gens,I.os,rfl,fun i o as eo e'=>?_,by simp,fun b hb=>?_,I.tabs,I.tabo,I.tabc,I.low,_,_,rfl⟩
 ·cases i with
  | zero=>apply s1 eo; apply s1 e'; exact ⟨nofun,r0.2⟩
  | succ i=>cases i with
   | zero =>
    apply s1 eo; apply s1 e'
    refine x2_3 (hv.cons_is) fun x ys e rx ry=>?_
    refine x1_1 (rx.int_is) fun t hq_305=>?_
    subst hq_305
    exact ⟨la,items,rfl,hl,by rw [e,ry.nil_is]; exact .cons (.int _ _) .nil,hz⟩
   | succ i=>exact noS eo
 ·exact I.fresh b (flat_mem ef.2 (by simpa using hb))
theorem Inv.large {σ₂:Sto} {F₂:Lay} {s':Shared} {a:Nat} {k:Int} {la:Addr} (I:Inv B F σ s) (I₂:Inv B F₂ σ₂ s') (ef:Fat F a [la]) (e₂:F₂[1]?=some [la]) (eσ:σ₂[1]?=some (.list [.int k])) (kp:∀ b o,s.heap.get? b=some o→b≠la→b≠B.tab→s'.heap.get? b=some o):Inv B F (σ.set a (.list [.int k])) s':=by
 have m:Mv F F s.heap s'.heap:=.of_kept (W:=fun b=>b=la∨b=B.tab) (fun b o e n=>kp b o e (fun z=>n (.inl z)) fun z=>n (.inr z)) fun b o w e=>I.wr b o (w.imp (fun (z:b=la)=>⟨a,[la],ef,by rw [z]; exact .head _⟩) id) e
 refine ⟨I₂.old,I₂.lim,I₂.gens,I₂.os,by rw [List.length_set]; exact I.len,fun j o as eo e=>?_,I.nodup,I.fresh,I₂.tabs,I.tabo,I.tabc,I.low,by rw [List.getElem?_set_ne (Nat.ne_of_gt ef.1)]; exact I.zero⟩
 rcases set_get eo with ⟨rfl,rfl⟩ | ⟨n,q⟩
 ·cases ef.2.symm.trans e
  refine x2_4 (I₂.obj 1 _ _ eσ e₂) fun b its' z pl vr hz'=>?_
  cases z
  refine x2_3 (vr.cons_is) fun x ys e rx ry=>?_
  refine x1_1 (rx.int_is) fun t hq_306=>?_
  subst hq_306
  exact ⟨la,its',rfl,pl,by rw [e,ry.nil_is]; exact .cons (.int _ _) .nil,hz'⟩
 ·exact (I.obj j o as q e).mono (fun b hb ob eb=>kp b ob eb (fun z=>n (flat_one I.nodup ef.2 e (b:=la) (.head _) (z▸hb))) fun z=>LR.notTab I (I.fresh b (flat_mem e hb)) z) m
theorem give_ok {f:Fn} {sc:Scope} {A₀:Around} (G:GiveP B gt kws Gv f sc) (K:∀ A',Room A' 0→Kit B A' 0 (fun ζ ζ ζ=>none) (fun ζ ζ ζ=>none) Gv gt mk kws) (R:Room A₀ (d+1)) (Nr:Near A₀ A)
  (I:Inv B F σ s) {i a j:Nat} {text:List Nat} {line:Int} {as:List Addr} {la p x dx st sd gv cT cA:Addr} {t:Tok} (q:σ[i]?=some (.lex text a line j)) (ef:Fat F i as) (ea:Fat F a [la]) (hb:text.length≤maxLen)
  (L:LexH B s.heap as text la line p x dx st sd gv cT cA) {k:Int} (hk:vlist σ a=some [.int k]) (h0:0≤k) :
  EvT B A F s (call (.ref gv) [.int 1 t]) (PE B (σ.set a (.list [.int (k+(pieceAt text k).length)])) (.str (pieceAt text k))):=by
 have ok:=giveK G.ok
 refine x2_2 (L.give) fun cd ct hgv hcd=>?_
 refine x0_3 (L.two ((List.pairwise_flatten.mp I.nodup).1 as (List.mem_of_getElem? ef.2))) fun mT mA hTA=>?_
 have hia:i≠a:=fun z=>by rw [z,vlist_is hk] at q; cases q
 have off:∀ b∈as,b∉([[],[la]]:Lay).flatten∧B.h0.get? b=none:=fun b hb=>⟨fun z=>hia (flat_one I.nodup ef.2 ea.2 (b:=b) hb (by simpa using z)),I.fresh b (flat_mem ef.2 hb)⟩
 refine wpAny_call (codeAny_call_function (fd:=B.lx.gv [(Str.ofString "text",cT),(Str.ofString "at",cA)] (.ref cd) ct) (by have:=R.depth; have:=Nr.depth; show A.depth < 1000; (first | lia | omega)) hgv rfl (by rw [G.scp]; exact ok.co) (by rw [G.scp]; exact ok.gen) (G.bd ..) (by rw [G.code,G.qn]; exact hcd.rec) ?_)
 rw [G.bind]
 refine wpAny_pure ?_
 rw [G.cl]
 refine wpAny_newFunctionEnv (by rw [G.scp]; exact fun y hy=>ok.cell y hy) (by intro y hy; cases List.mem_singleton.mp hy; rw [G.scp]; exact ok.l0) (fun h' hns hsb=>?_) (by rw [G.scp]; exact ok.kind)
 have hk₁:∀ b o,s.heap.get? b=some o→h'.get? b=some o:=fun b o e=>hsb.extBut b o (Nat.ne_of_lt (Heap.lt_size e)) (Heap.get?_push_of_some _ e)
 have I₁:Inv B F σ { s with heap:=h',toks:=s.toks+1 }:=I.all hk₁ _
 refine ⟨I₁.lim,codeAny_func ?_⟩
 generalize henv:newEnv _ _ _ _ _ _ _ _ _=env
 have eL:env.locals=s.heap.objs.size:=by rw [← henv]; rfl
 have eC:env.cells=[(Str.ofString "text",cT),(Str.ofString "at",cA)]:=by rw [← henv]; rfl
 have er:ER B gt f.tb giveVis [3] f.gl env:=give_er ok (by rw [← henv]; exact G.scp ..) (by rw [← henv]; exact G.gl ..) (by rw [← henv]; exact G.bu ..)
 have dL:=dead_size s.heap
 rw [← eL] at dL hns
 refine x2_2 (L.text) fun X tX hw_307 hX=>?_
 refine x1_2 (hw_307) fun oT eT dT=>?_
 refine x1_2 (L.at_) fun oA eA dA=>?_
 refine x1_1 (I₁.small hk ea) fun o0 Is=>?_
 have lr:LR B f.tb giveVis env [[],[la]] [some (.int 1),some (.str text),some (.ref 1),none] h' :=
  give_lr ok.n1 ok.n2 eC hns (lookup_one _ _) ⟨Nat.one_pos,rfl⟩ ⟨X,tX,⟨oT,hk₁ _ _ eT,dT⟩,hX⟩ ⟨oA,hk₁ _ _ eA,dA⟩ hb ⟨fun z=>(I.dead dL).2 (flat_mem ea.2 (by simpa using z)),(I.dead dL).1⟩ (off _ mT) (off _ mA) hTA
 have room:Room (A.deeper env) 0:=⟨Nr.handled R.handled,by have:=R.depth; have:=Nr.depth; show A.depth+1+0≤800; (first | lia | omega),by have:=R.units; have:=Nr.units; rw [Around.deeper_units]; (first | lia | omega)⟩
 refine x1_1 (G.ev (fun ζ ζ ζ=>none) (fun ζ ζ ζ=>none) text k [o0,.list [.int k]] 1 h0 rfl) ?_
 (try clear ev)
 intro loc' ev
 refine wpAny_mono (okSL (K _ room) f.tb f.body giveVis [3] f.gl env _ _ _ _ _ _ _ ok.wf er Is lr ev) (fun fw s' P=>?_) fun ζ ζ z=>z.elim
 refine x1_4 (P) fun G' T Is' ζ fr=>?_
 have own:∀ b,OwnA f.tb [3] env b→b=env.locals:=fun b w=>by
  rcases w with w | ⟨i,hi,e⟩
  ·exact w
  ·cases List.mem_singleton.mp hi
   exfalso
   have l3:=ok.l3
   rw [eC] at e
   rcases look2 e with ⟨z,_⟩ | ⟨z,_⟩
   ·rw [z,← ok.n1,ok.f1] at l3; cases l3
   ·rw [z,← ok.n2,ok.f2] at l3; cases l3
 have kp:∀ b o,s.heap.get? b=some o→b≠la→b≠B.tab→s'.heap.get? b=some o:=fun b o e n1 n2=>T.kept b o (hk₁ b o e) (by
  rintro ((z | z) | z)
  ·exact n1 (by simpa using z.mem)
  ·exact n2 z
  ·rw [own b z,dL] at e; exact noS e)
 have I':Inv B F (σ.set a (.list [.int (k+(pieceAt text k).length)])) s':=I.large Is' ea rfl rfl kp
 have T':Step B F s [] s':=⟨fun b o e n=>kp b o e (fun z=>n (.inl ⟨a,_,ea,z▸.head _⟩)) fun z=>n (.inr z),fun ζ h=>by cases h⟩
 cases fw <;> first | exact fr.elim | skip
 refine x2_3 (VR.str_is fr) fun S tS hq_308 eS bS=>?_
 apply q1 hq_308
 exact ⟨[],T',by rw [List.append_nil]; exact ⟨I',.str tS eS bS⟩⟩
end
end Mine
namespace Mine
open PySem PySem.W
noncomputable def fdX (name qual:Str) (params:Arguments) (fb:FuncBody) (scope:Scope) (clos:List (Str × Addr)) (pm cv ctv:Value):FuncData :=
 { name,qualname:=qual,params,body:=fb,scope,globals:=mainGlobals,closure:=clos,defaults:=.none,kwdefaults:=.none,doc:=.none,pyModule:=pm,annotations:=none,code:=cv,closureTuple:=ctv,builtins:=builtinsNs }
noncomputable def noDoc:FuncBody→Bool
 | .stmts b=>(docOf b).isNone
 | .expr _=>true
section
variable {M:Model} {A:Around} {E:Value→Shared→Prop} {s:Shared} {name qual:Str} {params:Arguments} {fb:FuncBody} {scope:Scope} {env:Env} {c P:Addr} {ps:Array Value} {pos:Pos} {firstLine:Nat} {mg:Str→Option Value}
 {clos:List (Str × Addr)} {Q:Value→Shared→Prop}
theorem codeX (hcode:env.code=.ref c) (C:CodeHd s.heap c P) (hP:s.heap.get? P=some (tabObj ps)) (ht:TriplesOk ps.toList) (hc:codeAmong pos ps.toList=none∨∃ c',codeAmong pos ps.toList=some (.ref c')∧CodeI s.heap c' qual)
  (h:∀ c' h' tk ps',Heap.ExtBut P s.heap h'→s.heap.objs.size≤h'.objs.size→CodeI h' c' qual→h'.get? P=some (tabObj ps')→((ps'=ps∧codeAmong pos ps.toList=some (.ref c'))∨(codeAmong pos ps.toList=none∧ps'=ps++#[rawInt pos.line,rawInt pos.col,.ref c']))→Q (.ref c') { s with heap:=h',toks:=tk }) :
  wpAny M A (functionCode env pos firstLine name qual params scope fb) Q E s:=by
 rcases hc with hnf | ⟨c',hf,hi⟩
 ·refine wpAny_functionCodeX hcode (C.code hP ht) (C.tab hP) hnf fun c' h' tk hx hge hlt ζ hrec htb ht'=>?_
  refine x1_4 (ht') fun P' ζ ζ hw_309 ζ=>?_
  refine x2_4 (hw_309) fun o vs e1 e2 e3 ζ=>?_
  refine x4_4 (hrec) fun c₂ o₂ vs₂ t z e4 e5 e6=>?_
  cases z
  rw [e1] at e4; cases e4
  rw [e3] at e5; cases e5
  exact h c' h' tk _ hx (Nat.le_of_lt (Nat.lt_of_le_of_lt hge hlt)) ⟨o,vs,t,e1,e2,e3,e6⟩ htb.2 (.inr ⟨hnf,rfl⟩)
 ·exact wpAny_functionCode_hit hcode (C.code hP ht) hf (h c' s.heap s.toks ps (fun b o ζ e=>e) (Nat.le_refl _) hi hP (.inl ⟨rfl,hf⟩))
theorem mkFn (hcl:closureFor scope env=pure clos) (hge0:env.globals=mainGlobals) (hg:s.heap.Ns mainGlobals mg) (hcode:env.code=.ref c) (C:CodeHd s.heap c P) (hP:s.heap.get? P=some (tabObj ps)) (ht:TriplesOk ps.toList)
  (hgP:mainGlobals≠P) (hb:s.heap.BuiltinsAt mg P) (hd:noDoc fb=true) (hc:codeAmong pos ps.toList=none∨∃ c',codeAmong pos ps.toList=some (.ref c')∧CodeI s.heap c' qual)
  (h:∀ c' ctv h' tk ps',Heap.ExtBut P s.heap h'→s.heap.objs.size≤h'.objs.size→CodeI h' c' qual→h'.get? P=some (tabObj ps')→((ps'=ps∧codeAmong pos ps.toList=some (.ref c'))∨(codeAmong pos ps.toList=none∧ps'=ps++#[rawInt pos.line,rawInt pos.col,.ref c'])) →
   Q (.ref h'.objs.size) { s with heap:=h'.push { cls:=.type "function",data:=.func (fdX name qual params fb scope clos ((mg "__name__").getD .none) (.ref c') ctv) },toks:=tk }) :
  wpAny M A (makeFunction name qual params fb scope env [] [] [] pos firstLine) Q E s:=by
 rw [makeFunction_eq]
 simp only [List.zip_nil_right,List.filterMap_nil,List.isEmpty_nil,if_true,pure_bind]
 refine x2_8 (hb) fun bm ob hbm hne0 ζ hneP hbo hcls hdict hdata=>?_
 unfold makeTail
 rw [hcl,hge0]
 refine wpAny_bind (wpAny_pure ?_)
 have hdn:∀ b,fb=.stmts b→docOf b=none:=fun b z=>by
  subst z
  unfold noDoc at hd
  dsimp only at hd
  cases q:docOf b with
  | none=>rfl
  | some t=>rw [q] at hd; exact noT hd
 cases clos with
 | nil =>
  simp only [List.isEmpty_nil,if_true]
  refine wpAny_bind (wpAny_pure ?_)
  refine wpAny_bind (codeX hcode C hP ht hc fun c' h' tk ps' hx hsz hi htb hw=>?_)
  have hg':=hg.extBut hx hgP
  refine wpAny_bind (wpAny_builtinsFor hg' hbm hne0 (hx _ _ hneP hbo) hcls hdict hdata ?_)
  refine wpAny_bind (wpAny_nsGet hg' ?_)
  cases fb with
  | expr e=>exact wpAny_bind (wpAny_pure (wpAny_newObj_type (h c' .none h' tk ps' hx hsz hi htb hw) (by size_fits)))
  | stmts b =>
   dsimp only
   rw [hdn b rfl]
   exact wpAny_bind (wpAny_pure (wpAny_newObj_type (h c' .none h' tk ps' hx hsz hi htb hw) (by size_fits)))
 | cons q r =>
  simp only [List.isEmpty_cons,Bool.false_eq_true,if_false]
  refine wpAny_bind (wpAny_newTextTuple ?_)
  refine wpAny_bind (codeX hcode (C.keeps fun b o e=>Heap.get?_push_of_some _ e) (Heap.get?_push_of_some _ hP) ht (hc.imp id fun ⟨c',z,i⟩=>⟨c',z,i.imk (.push [] _ _)⟩) fun c' h' tk ps' hx hsz hi htb hw=>?_)
  have hg':=(hg.push _).extBut hx hgP
  have hx':Heap.ExtBut P s.heap h':=fun b o hb' e=>hx b o hb' (Heap.get?_push_of_some _ e)
  have hsz':s.heap.objs.size≤h'.objs.size:=Nat.le_trans (by rw [Heap.size_push]; (first | lia | omega)) hsz
  refine wpAny_bind (wpAny_builtinsFor hg' hbm hne0 (hx' _ _ hneP hbo) hcls hdict hdata ?_)
  refine wpAny_bind (wpAny_nsGet hg' ?_)
  cases fb with
  | expr e=>exact wpAny_bind (wpAny_pure (wpAny_newObj_type (h c' (.ref s.heap.objs.size) h' tk ps' hx' hsz' hi htb hw) (by size_fits)))
  | stmts b =>
   dsimp only
   rw [hdn b rfl]
   exact wpAny_bind (wpAny_pure (wpAny_newObj_type (h c' (.ref s.heap.objs.size) h' tk ps' hx' hsz' hi htb hw) (by size_fits)))
end
end Mine
namespace Mine
open PySem PySem.W
theorem slot_fn_sa:Slot "function" "__setattr__" "object.__setattr__" :=
 .of (owner:="object") (n:="__setattr__") (by rw [typeLookup_type,builtinLookup_eq_fast]; kernel_rfl) (by decide +kernel) (by decide +kernel) (by decide +kernel)
  (by first | exact .inl (by decide +kernel) | exact .inr (by decide +kernel)) (by rw [isSubtype_type]; kernel_rfl)
theorem lk_fn_sa:typeLookup (.type "function") "__setattr__"=pure (some (.builtin "object.__setattr__")):=by rw [typeLookup_type,builtinLookup_eq_fast]; kernel_rfl
theorem fn_refuse (self:Value) (M:Model) (h:Heap) (hT:Looks M h (typeOf self) (.type "function")):Looks M h (Builtin.ObjectAttr.refuseIfOverridden self "__setattr__") ():=by
 rw [refuse_eq]
 refine hT.andThen (Looks.of_pure ?_)
 kernel_rfl
theorem fn_dictMade (a d:Addr):dictMade (.type "function") a d=pure (some d):=by
 unfold dictMade
 dsimp only
 rw [show finalisedInACycleAlone "function"=false from by decide +kernel]
 rfl
section
variable {B:Base} {A:Around} {s:Shared} {st:Addr} {fd:FuncData} {v:Value}
theorem fnSet (hst:s.heap.get? st=some { cls:=.type "function",data:=.func fd }) {Q:Unit→Shared→Prop} {E:Value→Shared→Prop}
  (h:∀ h' tk,(∀ b o,b≠st→s.heap.get? b=some o→h'.get? b=some o)→h'.get? st=some { cls:=.type "function",dict:=some s.heap.objs.size,data:=.func fd }→NsL h' s.heap.objs.size (fun x=>if x=Str.ofString "read" then some v else none) 1→Q () { s with heap:=h',toks:=tk }) :
  wpAny (model B.prog B.w) A (setAttr (.ref st) (Str.ofString "read") v) Q E s:=by
 have ty:Looks (model B.prog B.w) s.heap (typeOf (.ref st)) (.type "function"):=looks_cls hst rfl
 have SF:=PySem.F.store_object
 refine wpAny_bind (wpAny_mkText (wpAny_bind (wpAny_bind (wpAny_bind (ty.at ?_)))))
 rw [lk_fn_sa]
 refine wpAny_pure (wpAny_holding ?_)
 rw [slot_fn_sa.bind]
 refine wpAny_bind (wpAny_pure (wpAny_bind (wpAny_call ?_)))
 refine codeAny_call_builtin SF.slot.plain SF.entry (@check_slot (model B.prog B.w) _ _ { s with toks:=s.toks+1 } "object.__setattr__" "object" "__setattr__" (.ref st) [.str (Str.ofString "read") s.toks,v] [] _ SF.kind SF.split (fn_object hst rfl) (SF.args (.ref st) (.str (Str.ofString "read") s.toks) v) ?_)
 show wpAny _ _ (Builtin.«object.__setattr__» ⟨[.ref st,.str (Str.ofString "read") s.toks,v],[]⟩) _ _ _
 rw [osa_eq]
 refine wpAny_bind ((fn_refuse (.ref st) _ _ ty).at ?_)
 refine wpAny_bind (ty.at ?_)
 rw [lk_fn_read]
 refine wpAny_bind (wpAny_pure (wpAny_bind (wpAny_pure ?_)))
 show wpAny _ _ (Builtin.ObjectAttr.storeInOwnDict _ _ _ _ _ _) _ _ _
 refine wpAny_bind (wpAny_pure ?_)
 refine wpAny_bind (wpAny_bind (wpAny_loadPart hst ?_))
 dsimp only
 rw [if_neg (by decide +kernel)]
 refine wpAny_bind (wpAny_alloc ?_)
 have hst₁:=Heap.get?_push_of_some { cls:=.type "dict",data:=.dict #[] } hst
 refine wpAny_bind (wpAny_update hst₁ ?_)
 have hne:st≠s.heap.objs.size:=Nat.ne_of_lt (Heap.lt_size hst)
 generalize hh2:(s.heap.push { cls:=.type "dict",data:=.dict #[] }).update st _=h2
 have hs2:Heap.SameBut st (s.heap.push { cls:=.type "dict",data:=.dict #[] }) h2:=by rw [← hh2]; exact Heap.SameBut.update ..
 have e2:h2.get? st=some { cls:=.type "function",dict:=some s.heap.objs.size,data:=.func fd }:=by rw [← hh2]; exact Heap.get?_update_self _ hst₁ rfl
 have d2:NsL h2 s.heap.objs.size (fun ζ=>none) 0:=⟨none,#[],0,#[],(hs2.2 _ hne.symm).trans (Heap.get?_push_size _ rfl),fun e he=>by simp at he,Nat.le_refl _,fun ζ=>rfl⟩
 refine wpAny_of_eq (fn_dictMade _ _) ?_
 show wpAny _ _ (Builtin.ObjectAttr.storeInDict s.heap.objs.size _ _ _) _ _ _
 refine wpAny_bind (wpAny_pure (wpAny_bind (wpAny_nsSetL d2 fun h3 n3 hs3=>?_)))
 refine x4_4 (id n3) fun d es ep sl e3 ζ hz ζ=>?_
 refine wpAny_bind (wpAny_lookBehind e3 (pastItsLine_dict (by rw [sizeLine_eq]; simp at hz; (first | lia | omega))) ?_)
 refine wpAny_pure (wpAny_pure (wpAny_pure (h h3 _ (fun b o nb eb=>?_) ?_ n3)))
 ·have hb:b≠s.heap.objs.size:=Nat.ne_of_lt (Heap.lt_size eb)
  exact (hs3.2 b hb).trans ((hs2.2 b nb).trans (Heap.get?_push_of_some _ eb))
 ·exact (hs3.2 _ hne).trans e2
end
end Mine
namespace Mine
open PySem PySem.W
noncomputable def noArgs (as:List Arg):Arguments:={ posonlyargs:=[],args:=as,vararg:=none,kwonlyargs:=[],kw_defaults:=[],kwarg:=none,defaults:=[] }
noncomputable def fnScope (ns:List (Str × NameKind)):Scope:={ kind:=.function,names:=ns,isGenerator:=false,isCoroutine:=false,more:=[] }
noncomputable def nS (x:String):Str:=Str.ofString x
noncomputable def lamScope:Scope:=fnScope []
noncomputable def giveScope:Scope:=fnScope [(nS "size",.local),(nS "piece",.local),(nS "at",.free),(nS "text",.free),(nS "len",.globalImplicit)]
noncomputable def giveArgs (n:Nat):Arguments:=noArgs [{ arg:=nS "size",annotation:=none,pos:=⟨n+3,18,n+3,22⟩ }]
noncomputable def giveTb:List Str:=[nS "size",nS "text",nS "at",nS "piece"]
noncomputable def giveIR (n:Nat):SL :=
 .cons (.assign (.name 3 ⟨n+4,8,n+4,13⟩) (.slice (.var 1 ⟨n+4,16,n+4,20⟩) (.some (.sub (.var 2 ⟨n+4,21,n+4,23⟩) (.cint 0 ⟨n+4,24,n+4,25⟩) ⟨n+4,21,n+4,26⟩))
  (.some (.bin .Add (.sub (.var 2 ⟨n+4,27,n+4,29⟩) (.cint 0 ⟨n+4,30,n+4,31⟩) ⟨n+4,27,n+4,32⟩) (.var 0 ⟨n+4,35,n+4,39⟩) ⟨n+4,27,n+4,39⟩)) .none ⟨n+4,21,n+4,39⟩ ⟨n+4,16,n+4,40⟩) ⟨n+4,8,n+4,40⟩)
 (.cons (.augSub (.var 2 ⟨n+5,8,n+5,10⟩) (.cint 0 ⟨n+5,11,n+5,12⟩) ⟨n+5,8,n+5,13⟩ .Add (.call 0 ⟨n+5,17,n+5,20⟩ (.cons (.var 3 ⟨n+5,21,n+5,26⟩) .nil) ⟨n+5,17,n+5,27⟩) ⟨n+5,8,n+5,27⟩)
 (.cons (.ret (.var 3 ⟨n+6,15,n+6,20⟩) ⟨n+6,8,n+6,20⟩) .nil))
noncomputable def giveFn (n:Nat):Fn:={ tb:=giveTb,vis:=giveVis,wv:=[3],gl:=[0],n:=4,np:=1,fz:=true,body:=giveIR n }
noncomputable def lexScope:Scope:=fnScope [(nS "text",.cell),(nS "at",.cell),(nS "stream",.local),(nS "_law_give",.local),(nS "_netrclex",.globalImplicit)]
noncomputable def lamP (n:Nat):Pos:=⟨n+1,13,n+1,25⟩
noncomputable def defP (n:Nat):Pos:=⟨n+3,4,n+6,20⟩
noncomputable def lexBody (gt:List Str) (n:Nat):List Stmt:=[
 .Assign [.Name (nS "stream") ⟨n+1,4,n+1,10⟩] (.Lambda (noArgs []) (.Constant .none 0 ⟨n+1,21,n+1,25⟩) lamScope (lamP n)) ⟨n+1,4,n+1,25⟩,
 .FunctionDef (nS "_law_give") (giveArgs n) (toSL gt giveTb (giveIR n)) [] none [] giveScope none (nS "_law_give") (defP n),
 .Assign [.Attribute (.Name (nS "stream") ⟨n+7,4,n+7,10⟩) (nS "read") ⟨n+7,4,n+7,15⟩] (.Name (nS "_law_give") ⟨n+7,18,n+7,27⟩) ⟨n+7,4,n+7,27⟩,
 .Return (some (.Call (.Name (nS "_netrclex") ⟨n+8,11,n+8,20⟩) [.Name (nS "stream") ⟨n+8,21,n+8,27⟩] [] ⟨n+8,11,n+8,28⟩)) ⟨n+8,4,n+8,28⟩]
noncomputable def initScope:Scope:=fnScope [(nS "self",.local),(nS "fp",.local)]
noncomputable def initBody (n:Nat):List Stmt:=[
 .Assign [.Attribute (.Name (nS "self") ⟨n+1,8,n+1,12⟩) (nS "lineno") ⟨n+1,8,n+1,19⟩] (.Constant (.int 1) 0 ⟨n+1,22,n+1,23⟩) ⟨n+1,8,n+1,23⟩,
 .Assign [.Attribute (.Name (nS "self") ⟨n+2,8,n+2,12⟩) (nS "instream") ⟨n+2,8,n+2,21⟩] (.Name (nS "fp") ⟨n+2,24,n+2,26⟩) ⟨n+2,8,n+2,26⟩,
 .Assign [.Attribute (.Name (nS "self") ⟨n+3,8,n+3,12⟩) (nS "whitespace") ⟨n+3,8,n+3,23⟩] (.Constant (.str wsS) 0 ⟨n+3,26,n+3,35⟩) ⟨n+3,8,n+3,35⟩,
 .Assign [.Attribute (.Name (nS "self") ⟨n+4,8,n+4,12⟩) (nS "pushback") ⟨n+4,8,n+4,21⟩] (.List [] ⟨n+4,24,n+4,26⟩) ⟨n+4,8,n+4,26⟩]
noncomputable def lexQ:Str:=nS "_law_lexer"
structure MakeP (B:Base) (K:Frag) (mk:Me→Nat) (gt:List Str) (n m:Nat) (lA iA c bm:Addr):Prop where
 gA:B.gA=mainGlobals
 bA:B.bA=builtinsNs
 q1:B.lx.q1=lexQ++".<locals>."++"<lambda>"
 q2:B.lx.q2=lexQ++".<locals>."++nS "_law_give"
 p1:B.lx.p1=lamP n
 p2:B.lx.p2=defP n
 gv:∀ cl cd ct,B.lx.gv cl cd ct=fdX (nS "_law_give") B.lx.q2 (giveArgs n) (.stmts (toSL gt giveTb (giveIR n))) giveScope cl ((B.mg "__name__").getD .none) cd ct
 lex:∃ o fd,B.h0.get? lA=some o∧o.cls≠.none∧o.data=.func fd∧fd.body=.stmts (lexBody gt n)∧fd.scope=lexScope∧fd.closure=[]∧fd.globals=mainGlobals∧fd.builtins=builtinsNs∧fd.qualname=lexQ∧fd.code=.ref c ∧
  (∀ x y,bindArgs fd ⟨[x,y],[]⟩=pure [(nS "text",x),(nS "at",y)])
 code:CodeHd B.h0 c B.tab
 crec:CodeI B.h0 c lexQ
 init:∃ o fd,B.h0.get? iA=some o∧o.cls≠.none∧o.data=.func fd∧fd.body=.stmts (initBody m)∧fd.scope=initScope∧fd.closure=[]∧fd.globals=mainGlobals∧fd.builtins=builtinsNs ∧
  (∀ x y,bindArgs fd ⟨[x,y],[]⟩=pure [(nS "self",x),(nS "fp",y)])∧∃ c',fd.code=.ref c'∧CodeI B.h0 c' fd.qualname
 makes:makesIn K B.lx.C=true
 kp:keepIn K (.ref B.lx.C)=true
 fi:findIn K (.ref B.lx.C) "__init__"=some (some (.ref iA))
 ti:typeIn K (.ref iA)=some (.type "function")
 net:B.mg (nS "_netrclex")=some (.ref B.lx.C)
 bm_:B.mg "__builtins__"=some (.ref bm)∧bm≠builtinsNs∧bm≠mainGlobals∧bm≠B.tab
 bmo:∃ o,B.h0.get? bm=some o∧o.cls=.type "module"∧o.dict=some builtinsNs∧o.data=.plain
 tab:B.h0.get? B.tab=some (tabObj #[])∧isCodeTable B.h0 B.tab
 gP:mainGlobals≠B.tab
theorem NsL.up {h:Heap} {a:Addr} {m:Str→Option Value} {k:Nat} {p:Prop} [Decidable p] (n:NsL h a m (if p then k else k+1)):NsL h a m (k+1):=by
 refine x4_4 (n) fun d es ep sl e hk hz hm=>?_
 exact ⟨d,es,ep,sl,e,hk,by split at hz <;> omega,hm⟩
section
variable {B:Base} {A:Around} {s:Shared} {K:Frag} {mk:Me→Nat}
theorem init_ok {gt:List Str} {n m':Nat} {lA iA c bm:Addr} (O:LexOK B K mk) (P:MakeP B K mk gt n m' lA iA c bm) (hh:A.depth < 900) (X:K.In s.heap) (hlim:s.heap.NoLimit) (hkeep:∀ b o,B.h0.get? b=some o→o.cls≠.none→s.heap.get? b=some o)
  {x dx:Addr} {v:Value} (hdx:B.h0.get? dx=none) (hx:s.heap.get? x=some (instO B.lx.C dx)) (hd:NsL s.heap dx (fun ζ=>none) 0) {R:Result→Shared→Prop}
  (h:∀ h' tk p t1 t2,(∀ b o,b≠dx→s.heap.get? b=some o→h'.get? b=some o)→s.heap.objs.size≤p→h'.PlainList p #[] →
   NsL h' dx (fun y=>if y=nS "pushback" then some (.ref p) else if y=nS "whitespace" then some (.str wsS t2) else if y=nS "instream" then some v else if y=nS "lineno" then some (.int 1 t1) else none) 4→R (.ok (.ret .none)) { s with heap:=h',toks:=tk }) :
  codeAny (model B.prog B.w) A (.call (.ref iA) ⟨[.ref x,v],[]⟩) R s:=by
 obtain ⟨o,fd,e1,e2,e3,e4,e5,e6,e7,e8,e9,c',e10,e11⟩:=P.init
 have him:CodeI s.heap c' fd.qualname:=by
  refine x3_4 (e11) fun o' vs t q1 q2 q3 q4=>?_
  exact ⟨o',vs,t,hkeep _ _ q1 (by rw [q2]; simp),q2,q3,q4⟩
 refine codeAny_call_plain (Nat.lt_trans hh (by decide)) (hkeep _ _ e1 e2) e3 hlim (by rw [e10]; exact him.rec) e4 (e9 _ _) (by rw [e5]; decide) (fun y hy=>by rw [e5]; simp only [List.mem_cons,List.not_mem_nil,or_false] at hy; rcases hy with rfl | rfl <;> rfl) (fun h₀ hns hk₀=>?_) (by rw [e5]; rfl) (by rw [e5]; rfl) (by rw [e5]; rfl)
 have hkL:(callEnv fd s.heap.objs.size iA).scope.kind=.function:=by show fd.scope.kind=_; rw [e5]; rfl
 have hk:fd.scope.kind=.function:=by rw [e5]; rfl
 have lk:∀ y k,initScope.names.lookup y=some k→(callEnv fd s.heap.objs.size iA).kindOf y=some k:=fun y k e=>by
  show fd.scope.names.lookup y=some k
  rw [e5]; exact e
 refine x4_2 (id hd) fun d0 es0 ep0 sl0 ed0 ζ=>?_
 have hLd:s.heap.objs.size≠dx:=Nat.ne_of_gt (Heap.lt_size ed0)
 have hxd:x≠dx:=fun z=>by
  rw [z,ed0] at hx
  have:=congrArg Obj.cls (Option.some.inj hx)
  simp [instO] at this
 have IA:∀ (h1:Heap) (m1:Str→Option Value) (k1:Nat),h1.get? x=some (instO B.lx.C dx)→NsL h1 dx m1 k1→∃ od,InstAt h1 x (instO B.lx.C dx) B.lx.C (some od):=fun h1 m1 k1 hx1 n1=>by
  refine x4_2 (n1) fun d1 es1 ep1 sl1 ed1 ζ=>?_
  exact ⟨_,hx1,rfl,rfl,ed1⟩
 have ld:∀ {A':Around} {E':Value→Shared→Prop} (s1:Shared) (y:Str) (u:Value) (pos:Pos) (Q':Value→Shared→Prop),s1.heap.Ns s.heap.objs.size (fun x'=>([(nS "self",Value.ref x),(nS "fp",v)].reverse.lookup x'))→initScope.names.lookup y=some .local→([(nS "self",Value.ref x),(nS "fp",v)].reverse.lookup y)=some u→(y==("__debug__":Str))=false→Q' u s1 →
   wpAny (model B.prog B.w) A' (eval (.Name y pos) (callEnv fd s.heap.objs.size iA)) Q' E' s1:=fun s1 y u pos Q' hn hl hv hd q=>ldc hk (lk y _ hl) hn hv q hd
 have hx0:=hk₀ _ _ hx
 have hd0:NsL h₀ dx (fun ζ=>none) 0:=hd.at' fun o e=>hk₀ _ o e
 refine wpAny_execs_cons (plainObj_wpAny_Assign_Attribute (wpAny_Constant_int (ld _ _ (.ref x) _ _ hns rfl rfl (by decide) ?_)))
 refine x1_1 (IA _ _ _ hx0 hd0) fun od1 I1=>?_
 refine lexSet O (X.keeps hk₀) I1 hd0 (by decide) O.o1 fun h1 tk1 n1 k1=>?_
 replace n1:=n1.up
 obtain ⟨t1,n1⟩:∃ t,NsL h1 dx (fun y=>if y=nS "lineno" then some (.int 1 t) else none) 1:=⟨_,n1⟩
 have kk1:∀ b o,b≠dx→s.heap.get? b=some o→h1.get? b=some o:=fun b o nb e=>(k1.2 b nb).trans (hk₀ b o e)
 have XK:∀ (h':Heap),(∀ b o,b≠dx→s.heap.get? b=some o→h'.get? b=some o)→K.In h':=fun h' k b o e=>k b o (fun z=>by
  have:=X b o e
  rw [z,ed0] at this
  have q:=O.X b o e
  rw [z,hdx] at q; cases q) (X b o e)
 have nsk:∀ (h1 h2:Heap) m,h1.Ns s.heap.objs.size m→Heap.SameBut dx h1 h2→h2.Ns s.heap.objs.size m:=fun h1 h2 m n k=>n.sameBut k hLd
 have ns1:=nsk _ _ _ hns k1
 have hx1:h1.get? x=some (instO B.lx.C dx):=kk1 x _ hxd hx
 refine wpAny_execs_cons (plainObj_wpAny_Assign_Attribute (ld { s with heap:=h1,toks:=tk1 } _ v _ _ ns1 rfl rfl (by decide) (ld { s with heap:=h1,toks:=tk1 } _ (.ref x) _ _ ns1 rfl rfl (by decide) ?_)))
 refine x1_1 (IA _ _ _ hx1 n1) fun od2 I2=>?_
 refine lexSet O (XK _ kk1) I2 n1 (by decide) O.o4 fun h2 tk2 n2 k2=>?_
 replace n2:=n2.up
 have kk2:∀ b o,b≠dx→s.heap.get? b=some o→h2.get? b=some o:=fun b o nb e=>(k2.2 b nb).trans (kk1 b o nb e)
 have ns2:=nsk _ _ _ ns1 k2
 have hx2:h2.get? x=some (instO B.lx.C dx):=kk2 x _ hxd hx
 refine wpAny_execs_cons (plainObj_wpAny_Assign_Attribute (wpAny_Constant_str (ld { s with heap:=h2,toks:=tk2+1 } _ (.ref x) _ _ ns2 rfl rfl (by decide) ?_)))
 refine x1_1 (IA _ _ _ hx2 n2) fun od3 I3=>?_
 refine lexSet (s:={ s with heap:=h2,toks:=tk2+1 }) O (XK _ kk2) I3 n2 (by decide) O.o2 fun h3 tk3 n3 k3=>?_
 replace n3:=n3.up
 obtain ⟨t2,n3⟩:∃ t,NsL h3 dx (fun y=>if y=nS "whitespace" then some (.str wsS t) else if y=nS "instream" then some v else if y=nS "lineno" then some (.int 1 t1) else none) 3:=⟨_,n3⟩
 have kk3:∀ b o,b≠dx→s.heap.get? b=some o→h3.get? b=some o:=fun b o nb e=>(k3.2 b nb).trans (kk2 b o nb e)
 have ns3:=nsk _ _ _ ns2 k3
 have hx3:h3.get? x=some (instO B.lx.C dx):=kk3 x _ hxd hx
 refine wpAny_execs_cons (plainObj_wpAny_Assign_Attribute (wpAny_List_spliced (Calls.spliced_nil ⟨by decide,?_⟩)))
 have hsz:s.heap.objs.size≤h3.objs.size:=by
  have:=hns.lt
  rw [k3.1,k2.1,k1.1]; exact Nat.le_of_lt this
 refine ld _ _ (.ref x) _ _ (ns3.push _) rfl rfl (by decide) ?_
 refine x1_1 (IA _ _ _ (Heap.get?_push_of_some { cls:=.type "list",data:=.seq #[] } hx3) (n3.at' fun o e=>Heap.get?_push_of_some _ e)) fun od4 I4=>?_
 refine lexSet O (XK _ fun b o nb e=>Heap.get?_push_of_some _ (kk3 b o nb e)) I4 (n3.at' fun o e=>Heap.get?_push_of_some _ e) (by decide) O.o3 fun h4 tk4 n4 k4=>?_
 replace n4:=n4.up
 refine wpAny_execs_nil ?_
 have hpd:h3.objs.size≠dx:=fun z=>by
  refine x4_2 (n3) fun ζ ζ ζ ζ e ζ=>?_
  rw [← z] at e
  exact Nat.lt_irrefl _ (Heap.lt_size e)
 refine h h4 tk4 h3.objs.size t1 t2 (fun b o nb e=>(k4.2 b nb).trans (Heap.get?_push_of_some _ (kk3 b o nb e))) hsz ⟨_,(k4.2 _ hpd).trans (Heap.get?_push_size _ rfl)⟩ ?_
 exact n4
end
end Mine
namespace Mine
open PySem PySem.W
section
variable {B:Base} {A:Around} {F:Lay} {σ:Sto} {s:Shared} {K:Frag} {mk:Me→Nat} {gt:List Str} {n m:Nat} {lA iA c bm:Addr}
theorem Inv.tabKeep (I:Inv B F σ s) {h':Heap} {tk:Nat} (k:∀ b o,s.heap.get? b=some o→b≠B.tab→h'.get? b=some o) (t:TabOK B h') (t0:B.h0.get? B.tab=some (tabObj #[])) (tc:isCodeTable B.h0 B.tab):Inv B F σ { s with heap:=h',toks:=tk }:=by
 have im:Mv F F s.heap h':=.of_kept (W:=(·=B.tab)) (fun b o e n=>k b o e n) fun b o w e=>I.wr b o (.inr w) e
 have tabv:∃ ps,h'.get? B.tab=some (tabObj ps):=by
  rcases t with t | ⟨c1,c2,t,_⟩
  ·exact ⟨_,t⟩
  ·exact ⟨_,t⟩
 have nt:∀ b,b∈F.flatten→b≠B.tab:=fun b hb z=>by
  have:=I.fresh b hb
  rw [z,t0] at this; cases this
 have ks:∀ o,s.heap.get? cStatics=some o→h'.get? cStatics=some o:=fun o e=>k _ o e I.tabc.symm
 refine ⟨⟨fun b o e=>?_,fun b o e=>?_⟩,?_,I.gens,I.os,I.len,fun i o as eo e=>(I.obj i o as eo e).mono (fun a ha ob ea=>k a ob ea (nt a (flat_mem e ha))) im,I.nodup,I.fresh,t,I.tabo,I.tabc,I.low,I.zero⟩
 ·by_cases hb:b=B.tab
  ·subst hb
   rw [t0] at e; cases e
   refine x1_1 (tabv) fun ps hp=>?_
   exact .inr (.inl ⟨tc,rfl,#[],ps,rfl,by rw [Array.empty_append]; exact hp⟩)
  ·rcases I.old.old b o e with x | ⟨t',c',vs,more,d,x⟩ | ⟨rfl,c',⟨o',es,n,x,r⟩,z⟩
   ·exact .inl (k b _ x hb)
   ·exact .inr (.inl ⟨t',c',vs,more,d,k b _ x hb⟩)
   ·refine .inr (.inr ⟨rfl,c',⟨o',es,n,ks _ x,r⟩,fun key=>?_⟩)
    rw [OldK.staticOf_congr ((ks _ x).trans x.symm) key]
    exact z key
 ·by_cases hb:b=B.tab
  ·refine x1_1 (tabv) fun ps hp=>?_
   exact ⟨_,by rw [hb]; exact hp⟩
  ·refine x1_1 (I.old.there b o e) fun o' e'=>?_
   exact ⟨o',k b o' e' hb⟩
 ·refine x1_2 (I.lim) fun mc hw_310 q=>?_
  refine x3_2 (hw_310) fun o es ep eo r=>?_
  exact ⟨mc,⟨o,es,ep,ks o eo,r⟩,q⟩
noncomputable def two (p1 p2:Pos) (c1 c2:Addr):Array Value:=#[rawInt p1.line,rawInt p1.col,.ref c1,rawInt p2.line,rawInt p2.col,.ref c2]
theorem am_hit {p:Pos} {c:Value} {r:List Value}:codeAmong p (rawInt p.line :: rawInt p.col :: c :: r)=some c:=by
 show (if ((p.line:Int)==p.line&&(p.col:Int)==p.col)=true then some c else codeAmong p r)=some c
 rw [if_pos (by simp)]
theorem am_miss {p q:Pos} (h:q.line≠p.line) {c:Value} {r:List Value}:codeAmong p (rawInt q.line :: rawInt q.col :: c :: r)=codeAmong p r:=by
 show (if ((q.line:Int)==p.line&&(q.col:Int)==p.col)=true then some c else codeAmong p r)=_
 rw [if_neg]
 intro z
 rw [Bool.and_eq_true,beq_iff_eq] at z
 exact h (by (first | lia | omega))
theorem lines (n:Nat):(lamP n).line≠(defP n).line:=by show n+1≠n+3; omega
end
end Mine
namespace Mine
open PySem PySem.W
section
variable {B:Base} {A:Around} {F:Lay} {σ:Sto} {s:Shared} {K:Frag} {mk:Me→Nat} {gt:List Str} {n m:Nat} {lA iA c bm:Addr}
structure LxE (B:Base) (env:Env) (L cT cA c:Addr):Prop where
 loc:env.locals=L
 sc:env.scope=lexScope
 gl:env.globals=mainGlobals
 bu:env.builtins=builtinsNs
 cells:env.cells=[(nS "at",cA),(nS "text",cT)]
 qual:env.qual=lexQ++".<locals>."
 code:env.code=.ref c
theorem LxE.lam {env:Env}:closureFor lamScope env=pure []:=rfl
theorem LxE.give {env:Env} {L cT cA c:Addr} (X:LxE B env L cT cA c):closureFor giveScope env=pure [(nS "text",cT),(nS "at",cA)]:=by
 have h1:cellOf env (nS "at")=pure cA:=by unfold cellOf; rw [X.cells]; rfl
 have h2:cellOf env (nS "text")=pure cT:=by unfold cellOf; rw [X.cells]; rfl
 unfold closureFor giveScope fnScope
 simp only [List.forIn_cons,List.forIn_nil,h1,h2]
 rfl
theorem weight_made (C:Addr) (xs:List Value):Code.weight (.builtin "type.__call__" ⟨.ref C :: xs,[]⟩)≤2:=by
 have h:Code.isGuard (.builtin "type.__call__" ⟨.ref C :: xs,[]⟩)=false:=by show guardIds.contains "type.__call__"=false; decide +kernel
 unfold Code.weight
 rw [h]
 show 0+1+0+0≤2
 decide
theorem seven (a b c d e f g:Nat) (h1:a < b) (h2:b < c) (h3:c < d) (h4:d < e) (h5:e < f) (h6:f < g):([g,f,c,e,d,a,b]:List Nat).Nodup:=by
 simp
 omega
theorem Mv.but {h h':Heap} {a:Addr} (k:∀ b o,b≠a→h.get? b=some o→h'.get? b=some o) (n:∀ o,h.get? a=some o→¬ Imm o):Mv [] [] h h':=.of_kept (W:=(·=a)) (fun b o e z=>k b o z e) fun b o w e=>.of (n o (w▸e))
theorem tab_no {ps:Array Value}:¬ Imm (tabObj ps):=fun i=>by rcases i.1 with q | q | q | q <;> cases q
theorem made_end {s':Shared} {text:List Nat} {i:Nat} {la p x dx st sd gv cT cA:Addr} (I:Inv B F σ s) (k:∀ b o,s.heap.get? b=some o→b≠B.tab→s'.heap.get? b=some o) (I':Inv B F σ s') (ef:Fat F i [la]) (hp:(F++[[p]])[σ.length]?=some [p]) (bX:text.length≤maxLen) (pl:s'.heap.PlainList p #[])
  (LX:LexH B s'.heap [x,dx,st,sd,gv,cT,cA] text la 1 p x dx st sd gv cT cA) (nd:([x,dx,st,sd,gv,cT,cA]:List Addr).Nodup) (d:∀ b∈[x,dx,st,sd,gv,cT,cA],s.heap.get? b=none) (np:∀ b∈[x,dx,st,sd,gv,cT,cA],b≠p) (dp:s.heap.get? p=none) :
  Cn B F s (PE B (σ++[.list [],.lex text i 1 σ.length]) (.ref (σ.length+1))) (.ref x) s':=by
 have m₀:Mv F F s.heap s'.heap:=.of_kept (W:=(·=B.tab)) (fun b o e n=>k b o e n) fun b o w e=>I.wr b o (.inr w) e
 have nt:∀ b,b∈F.flatten→b≠B.tab:=fun b hb=>LR.notTab I (I.fresh b hb)
 have one:∀ {G:Lay},(∀ a∈G.flatten,s.heap.get? a=none)→∀ (j:Nat) (o:O) (as:List Addr),σ[j]?=some o→F[j]?=some as→OR B s'.heap (F++G) o as:=fun d j o as eo e=>(I.obj j o as eo e).mono (fun a ha ob ea=>k a ob ea (nt a (flat_mem e ha))) (m₀.add d)
 have nil:∀ G,OR B s'.heap G (.list []) [p]:=fun G=>⟨p,#[],rfl,pl,.nil,Nat.zero_le _⟩
 have d2:∀ b∈([[p],[x,dx,st,sd,gv,cT,cA]]:Lay).flatten,s.heap.get? b=none:=fun b hb=>by
  have:b=p∨b∈[x,dx,st,sd,gv,cT,cA]:=by simpa using hb
  rcases this with rfl | h
  ·exact dp
  ·exact d b h
 have d1:∀ a∈([[p]]:Lay).flatten,s.heap.get? a=none:=fun a ha=>by cases List.mem_singleton.mp ha; exact dp
 have I₈:Inv B (F++[[p]]) (σ++[.list []]) s':=I'.grow (one d1) (nil _) (by simp) (fun a h=>by cases List.mem_singleton.mp h; exact (I.dead dp).2) fun a h=>by cases List.mem_singleton.mp h; exact (I.dead dp).1
 have hp0:Fat (F++[[p]]) σ.length [p]:=⟨I.size,hp⟩
 have I₉:Inv B (F++[[p]]++[[x,dx,st,sd,gv,cT,cA]]) (σ++[.list []]++[.lex text i 1 σ.length]) s':=by
  refine I₈.grow (fun j o as eo e=>?_) ⟨bX,la,p,x,dx,st,sd,gv,cT,cA,app_get _ _ _ _ (app_get _ _ _ _ ef),app_get _ _ _ _ hp0,LX⟩ nd (fun b hb z=>?_) fun b hb=>(I.dead (d b hb)).1
  ·rcases cat_get eo with eo | ⟨rfl,rfl⟩
   ·rcases cat_get e with e | ⟨rfl,_⟩
    ·rw [List.append_assoc]; exact one d2 j o as eo e
    ·rw [I.len] at eo; exact absurd (List.getElem?_eq_some_iff.mp eo).1 (Nat.lt_irrefl _)
   ·cases hp.symm.trans e; exact nil _
  ·rw [List.flatten_append,List.mem_append] at z
   exact z.elim (I.dead (d b hb)).2 fun z=>np b hb (by simpa using z)
 rw [List.append_assoc,List.append_assoc] at I₉
 refine ⟨[[p],[x,dx,st,sd,gv,cT,cA]],⟨fun b o e nw=>k b o e fun z=>nw (.inr z),d2⟩,I₉,.ref (as:=[dx,st,sd,gv,cT,cA]) ⟨Nat.succ_pos _,?_⟩⟩
 rw [← I.len,List.getElem?_append_right (Nat.le_succ _),Nat.succ_sub (Nat.le_refl _),Nat.sub_self]; rfl
theorem made_at (O:LexOK B K mk) (P:MakeP B K mk gt n m lA iA c bm) {A₀:Around} {d:Nat} (R:Room A₀ (d+1)) (Nr:Near A₀ A) (BO:BOk B) (I:Inv B F σ s) {text:List Nat} {i:Nat} {x y:Value} (rx:VR B.fa s.heap F (.str text) x) {la:Addr} (ef:Fat F i [la]) (ry:VR B.fa s.heap F (.ref i) y) :
  codeAny (model B.prog B.w) A (.call (.ref lA) ⟨[x,y],[]⟩) (retR (Cn B F s (PE B (σ++[.list [],.lex text i 1 σ.length]) (.ref (σ.length+1))))) s:=by
 refine x2_11 (P.lex) fun o fd e1 e2 e3 e4 e5 e6 e7 e8 e9 e10 e11=>?_
 cases ry.refAt ef
 refine x2_3 (rx.str_is) fun X tX hq_311 eX bX=>?_
 apply q1 hq_311
 have keepc:∀ (h:Heap),(∀ b o,s.heap.get? b=some o→b≠B.tab→h.get? b=some o)→∀ b o,B.h0.get? b=some o→o.cls≠.none→h.get? b=some o:=fun h k b o e hc=>k b o (I.old.get_of_cls e hc) fun z=>by
  rw [z,P.tab.1] at e; cases e; exact hc rfl
 have codeHd:∀ (h:Heap),(∀ b o,s.heap.get? b=some o→b≠B.tab→h.get? b=some o)→CodeHd h c B.tab:=fun h k=>by
  refine x9_3 (P.code) fun o vs file tf flags tg inF text tt q1 q2 r=>?_
  exact ⟨o,vs,file,tf,flags,tg,inF,text,tt,keepc h k _ _ q1 (by rw [q2]; simp),q2,r⟩
 have crec:CodeI s.heap c lexQ:=by
  refine x3_4 (P.crec) fun o' vs t q1 q2 q3 q4=>?_
  exact ⟨o',vs,t,I.old.get_of_cls q1 (by rw [q2]; simp),q2,q3,q4⟩
 have hdepth:A.depth < 850:=by have:=R.depth; have:=Nr.depth; (first | lia | omega)
 refine codeAny_call_cells (Nat.lt_trans hdepth (by decide)) (I.old.get_of_cls e1 e2) e3 I.lim (by rw [e10,e9]; exact crec.rec) e4 (e11 _ _) e6 (fun z hz=>by
   rw [e5]
   simp only [List.mem_cons,List.not_mem_nil,or_false] at hz
   rcases hz with rfl | rfl
   ·exact .inr ⟨rfl,rfl⟩
   ·exact .inr ⟨rfl,rfl⟩) (fun s₁ x₁=>?_) (by rw [e5]; rfl) (by rw [e5]; rfl) (by rw [e5]; rfl)
 generalize henv:callEnvC fd s.heap.objs.size lA=env at x₁ ⊢
 have XE:LxE B env s.heap.objs.size (s.heap.objs.size+1) (s.heap.objs.size+1+1) c:=by
  refine ⟨by rw [← henv]; rfl,by rw [← henv]; exact e5,by rw [← henv]; exact e7,by rw [← henv]; exact e8,?_,by rw [← henv]; show fd.qualname++_=_; rw [e9],by rw [← henv]; exact e10⟩
  rw [← henv]
  show cellsFrom (s.heap.objs.size+1) fd.scope.names []=_
  rw [e5]; rfl
 have k1:=x₁.toInCall.keep
 have kn:∀ y,env.kindOf y=lexScope.names.lookup y:=fun y=>by unfold Env.kindOf; rw [XE.sc]
 have ns1:=x₁.toInCall.ns
 have cT1:s₁.heap.IsCell (s.heap.objs.size+1) (some (.str X tX)):=by
  have:=x₁.cell (nS "text") (s.heap.objs.size+1) (by rw [XE.cells]; rfl)
  rwa [show bindC env.kindOf [(nS "text",Value.str X tX),(nS "at",Value.ref la)] (fun ζ=>none) (nS "text")=some (.str X tX) from bindC_at (names:=[nS "text",nS "at"]) (xs:=[.str X tX,.ref la]) (i:=0) (by decide) rfl rfl (by rw [kn]; rfl)] at this
 have cA1:s₁.heap.IsCell (s.heap.objs.size+1+1) (some (.ref la)):=by
  have:=x₁.cell (nS "at") (s.heap.objs.size+1+1) (by rw [XE.cells]; rfl)
  rwa [show bindC env.kindOf [(nS "text",Value.str X tX),(nS "at",Value.ref la)] (fun ζ=>none) (nS "at")=some (.ref la) from bindC_at (names:=[nS "text",nS "at"]) (xs:=[.str X tX,.ref la]) (i:=1) (by decide) rfl rfl (by rw [kn]; rfl)] at this
 refine x2_2 (x₁.done) fun h₁ tk₁ hq_312 ζ=>?_
 subst hq_312
 rw [XE.loc] at ns1
 generalize bindL env.kindOf _ _=ml at ns1
 clear x₁
 dsimp only at k1 ns1 cT1 cA1
 generalize hL:s.heap.objs.size=L at ns1 cT1 cA1 XE
 have deadL:∀ b,L≤b→s.heap.get? b=none:=fun b hb=>by
  cases e:s.heap.get? b with
  | none=>rfl
  | some o=>exact absurd (Heap.lt_size e) (Nat.not_lt.mpr (by rw [hL]; exact hb))
 have tabL:B.tab < L:=by
  refine x1_2 (I.tabLive) fun o e ζ=>?_
  rw [← hL]; exact Heap.lt_size e
 have oldL:∀ b o,s.heap.get? b=some o→b < L:=fun b o e=>by rw [← hL]; exact Heap.lt_size e
 have hgl:∀ h:Heap,(∀ b o,s.heap.get? b=some o→b≠B.tab→h.get? b=some o)→h.Ns mainGlobals B.mg:=fun h k=>by
  have:=BO.ns
  rw [P.gA] at this
  exact this.at' fun o e=>k _ o (ns_kept I.old this (by rw [← P.gA]; exact BO.gc) o e) P.gP
 have hbi:∀ h:Heap,(∀ b o,s.heap.get? b=some o→b≠B.tab→h.get? b=some o)→h.BuiltinsAt B.mg B.tab:=fun h k=>by
  refine x1_4 (P.bmo) fun o' q1 q2 q3 q4=>?_
  refine x0_4 (P.bm_) fun p1 p2 p3 p4=>?_
  exact ⟨bm,o',p1,p2,p3,p4,keepc h k _ _ q1 (by rw [q2]; simp),q2,q3,q4⟩
 obtain ⟨ps,hP,hT,hW⟩:∃ ps,h₁.get? B.tab=some (tabObj ps)∧TriplesOk ps.toList∧(ps=#[]∨∃ c1 c2,ps=two (lamP n) (defP n) c1 c2∧CodeI h₁ c1 B.lx.q1∧CodeI h₁ c2 B.lx.q2):=by
  have im:Mv [] [] s.heap h₁:=.of k1
  rcases I.tabs with t | ⟨c1,c2,t,q1,q2⟩
  ·exact ⟨#[],k1 _ _ t,trivial,.inl rfl⟩
  ·rw [P.p1,P.p2] at t
   exact ⟨_,k1 _ _ t,trivial,.inr ⟨c1,c2,rfl,q1.imk im,q2.imk im⟩⟩
 have kk1:∀ b o,s.heap.get? b=some o→b≠B.tab→h₁.get? b=some o:=fun b o e ζ=>k1 b o e
 refine wpAny_execs_cons (wpAny_Assign_Name (kla_eval rfl (mkFn (s:={ s with heap:=h₁,toks:=tk₁ }) LxE.lam XE.gl (hgl _ kk1) XE.code (codeHd _ kk1) hP hT P.gP (hbi _ kk1) rfl ?_ fun c1 ctv h₂ tk₂ ps₂ hx₂ hz₂ hi₂ ht₂ hw₂=>?_)))
 ·rcases hW with rfl | ⟨c1,c2,rfl,q1,_⟩
  ·exact .inl rfl
  ·exact .inr ⟨c1,am_hit,by rw [XE.qual,← P.q1]; exact q1⟩
 have kk2:∀ b o,s.heap.get? b=some o→b≠B.tab→h₂.get? b=some o:=fun b o e nb=>hx₂ b o nb (k1 b o e)
 have im2:Mv [] [] h₁ h₂:=.but hx₂ fun o e=>by rw [hP] at e; apply s1 e; exact tab_no
 have hz1:L < h₁.objs.size:=ns1.lt
 have hw₂':TriplesOk ps₂.toList∧((∃ c1,ps₂=#[rawInt (lamP n).line,rawInt (lamP n).col,.ref c1]∧CodeI h₂ c1 B.lx.q1)∨∃ c1 c2,ps₂=two (lamP n) (defP n) c1 c2∧CodeI h₂ c1 B.lx.q1∧CodeI h₂ c2 B.lx.q2):=by
  have hi₂':CodeI h₂ c1 B.lx.q1:=by rw [XE.qual,← P.q1] at hi₂; exact hi₂
  rcases hw₂ with ⟨rfl,ham⟩ | ⟨ham,rfl⟩
  ·rcases hW with rfl | ⟨d1,d2,rfl,q1,q2⟩
   ·exact noS ham
   ·exact ⟨hT,.inr ⟨d1,d2,rfl,q1.imk im2,q2.imk im2⟩⟩
  ·rcases hW with rfl | ⟨d1,d2,rfl,q1,q2⟩
   ·exact ⟨trivial,.inl ⟨c1,rfl,hi₂'⟩⟩
   ·rw [show codeAmong (lamP n) (two (lamP n) (defP n) d1 d2).toList=some (.ref d1) from am_hit] at ham; cases ham
 clear hW hw₂ hi₂
 refine x0_2 (hw₂') fun hT₂ hW₂=>?_
 generalize hst:h₂.objs.size=st
 have stL:L < st:=by rw [← hst]; exact Nat.lt_of_lt_of_le hz1 hz₂
 have live2:∀ b o,h₂.get? b=some o→b≠st:=fun b o e z=>by rw [z,← hst] at e; exact Nat.lt_irrefl _ (Heap.lt_size e)
 have ns2:=(ns1.extBut hx₂ (Nat.ne_of_gt tabL)).push { cls:=.type "function",data:=.func (fdX (Str.ofString "<lambda>") (env.qual++Str.ofString "<lambda>") (noArgs []) (.expr (.Constant .none 0 ⟨n+1,21,n+1,25⟩)) lamScope [] ((B.mg (Str.ofString "__name__")).getD .none) (.ref c1) ctv) }
 generalize hfo:({ cls:=.type "function",data:=.func (fdX (Str.ofString "<lambda>") (env.qual++Str.ofString "<lambda>") (noArgs []) (.expr (.Constant .none 0 ⟨n+1,21,n+1,25⟩)) lamScope [] ((B.mg (Str.ofString "__name__")).getD .none) (.ref c1) ctv) }:Obj)=fo at ns2 ⊢
 refine wpAny_storeName_local (by rw [kn]; rfl) (by rw [XE.loc]; exact ns2) (fun h₃ ns3 hs₃=>?_) (by rw [XE.sc]; rfl)
 rw [XE.loc] at ns3 hs₃
 have keep3:∀ b o,b≠L→h₂.get? b=some o→h₃.get? b=some o:=fun b o nb e=>(hs₃.2 b nb).trans (Heap.get?_push_of_some _ e)
 have kk3:∀ b o,s.heap.get? b=some o→b≠B.tab→h₃.get? b=some o:=fun b o e nb=>keep3 b o (Nat.ne_of_lt (oldL b o e)) (kk2 b o e nb)
 have ns2':=ns1.extBut hx₂ (Nat.ne_of_gt tabL)
 have im3:Mv [] [] h₂ h₃:=.but keep3 fun o e=>ns_not_imm ns2' e
 have st3:h₃.get? st=some fo:=(hs₃.2 st (Nat.ne_of_gt stL)).trans (by rw [← hst]; exact Heap.get?_push_size _ (by rw [← hfo]; rfl))
 have tab3:h₃.get? B.tab=some (tabObj ps₂):=keep3 _ _ (Nat.ne_of_lt tabL) ht₂
 have cell3:∀ c' v,L < c'→h₁.IsCell c' v→h₃.IsCell c' v:=fun c' v hc ⟨o,e,d⟩=>⟨o,keep3 _ _ (Nat.ne_of_gt hc) (hx₂ _ _ (Nat.ne_of_gt (Nat.lt_trans tabL hc)) e),d⟩
 have cT3:=cell3 _ _ (Nat.lt_succ_self L) cT1
 have cA3:=cell3 _ _ (Nat.lt_succ_of_lt (Nat.lt_succ_self L)) cA1
 have ltst:L+1+1 < st:=by
  refine x1_2 (cA1) fun o e ζ=>?_
  rw [← hst]; exact Nat.lt_of_lt_of_le (Heap.lt_size e) hz₂
 clear cT1 cA1
 replace hW₂:(∃ c1,ps₂=#[rawInt (lamP n).line,rawInt (lamP n).col,.ref c1]∧CodeI h₃ c1 B.lx.q1)∨∃ c1 c2,ps₂=two (lamP n) (defP n) c1 c2∧CodeI h₃ c1 B.lx.q1∧CodeI h₃ c2 B.lx.q2:=by
  rcases hW₂ with ⟨c1,z,q⟩ | ⟨c1,c2,z,q,r⟩
  ·exact .inl ⟨c1,z,q.imk im3⟩
  ·exact .inr ⟨c1,c2,z,q.imk im3,r.imk im3⟩
 have hqual:qualnameIn env (nS "_law_give") (nS "_law_give")=B.lx.q2:=by
  unfold qualnameIn
  rw [kn,if_neg (by decide),XE.qual,← P.q2]
 refine wpAny_execs_cons (nestDef_K rfl rfl rfl ?_)
 rw [hqual]
 refine mkFn (s:={ s with heap:=h₃,toks:=tk₂+1 }) XE.give XE.gl (hgl _ kk3) XE.code (codeHd _ kk3) tab3 hT₂ P.gP (hbi _ kk3) rfl ?_ fun c2 ctv₂ h₄ tk₄ ps₄ hx₄ hz₄ hi₄ ht₄ hw₄=>?_
 ·rcases hW₂ with ⟨c1,rfl,_⟩ | ⟨c1,c2,rfl,_,q2⟩
  ·refine .inl ?_
   rw [show (#[rawInt (lamP n).line,rawInt (lamP n).col,Value.ref c1]:Array Value).toList=[rawInt (lamP n).line,rawInt (lamP n).col,.ref c1] from rfl,am_miss (lines n)]; rfl
  ·refine .inr ⟨c2,?_,q2⟩
   rw [show (two (lamP n) (defP n) c1 c2).toList=[rawInt (lamP n).line,rawInt (lamP n).col,.ref c1,rawInt (defP n).line,rawInt (defP n).col,.ref c2] from rfl,am_miss (lines n),am_hit]
 have im4:Mv [] [] h₃ h₄:=.but hx₄ fun o e=>by rw [tab3] at e; apply s1 e; exact tab_no
 have hw₄':∃ c1 c2,ps₄=two (lamP n) (defP n) c1 c2∧CodeI h₄ c1 B.lx.q1∧CodeI h₄ c2 B.lx.q2:=by
  rcases hw₄ with ⟨rfl,ham⟩ | ⟨ham,rfl⟩
  ·rcases hW₂ with ⟨d1,rfl,q⟩ | ⟨d1,d2,rfl,q1,q2⟩
   ·rw [show (#[rawInt (lamP n).line,rawInt (lamP n).col,Value.ref d1]:Array Value).toList=[rawInt (lamP n).line,rawInt (lamP n).col,.ref d1] from rfl,am_miss (lines n)] at ham; exact noS ham
   ·exact ⟨d1,d2,rfl,q1.imk im4,q2.imk im4⟩
  ·rcases hW₂ with ⟨d1,rfl,q⟩ | ⟨d1,d2,rfl,q1,q2⟩
   ·exact ⟨d1,c2,rfl,q.imk im4,hi₄⟩
   ·rw [show (two (lamP n) (defP n) d1 d2).toList=[rawInt (lamP n).line,rawInt (lamP n).col,.ref d1,rawInt (defP n).line,rawInt (defP n).col,.ref d2] from rfl,am_miss (lines n),am_hit] at ham; cases ham
 clear hW₂ hw₄
 refine x2_3 (hw₄') fun w1 w2 hq_313 wq1 wq2=>?_
 subst hq_313
 generalize hgv:h₄.objs.size=gv
 have ns4:=ns3.extBut hx₄ (Nat.ne_of_gt tabL)
 have gvL:L < gv:=by rw [← hgv]; exact ns4.lt
 have stgv:st≠gv:=fun z=>by
  have:=hx₄ _ _ (Nat.ne_of_gt (Nat.lt_trans tabL stL)) st3
  rw [z,← hgv] at this; exact Nat.lt_irrefl _ (Heap.lt_size this)
 rw [← P.gv]
 generalize hgo:({ cls:=.type "function",data:=.func (B.lx.gv [(nS "text",L+1),(nS "at",L+1+1)] (.ref c2) ctv₂) }:Obj)=go
 refine wpAny_storeName_local (by rw [kn]; rfl) (by rw [XE.loc]; exact ns4.push go) (fun h₅ ns5 hs₅=>?_) (by rw [XE.sc]; rfl)
 rw [XE.loc] at ns5 hs₅
 have keep5:∀ b o,b≠L→h₄.get? b=some o→h₅.get? b=some o:=fun b o nb e=>(hs₅.2 b nb).trans (Heap.get?_push_of_some _ e)
 have kk5:∀ b o,s.heap.get? b=some o→b≠B.tab→h₅.get? b=some o:=fun b o e nb=>keep5 b o (Nat.ne_of_lt (oldL b o e)) (hx₄ b o nb (kk3 b o e nb))
 have im5:Mv [] [] h₄ h₅:=.but keep5 fun o e=>ns_not_imm ns4 e
 have up5:∀ b o,L < b→h₃.get? b=some o→h₅.get? b=some o:=fun b o hb e=>keep5 b o (Nat.ne_of_gt hb) (hx₄ b o (Nat.ne_of_gt (Nat.lt_trans tabL hb)) e)
 have st5:=up5 _ _ stL st3
 have gv5:h₅.get? gv=some go:=(hs₅.2 gv (Nat.ne_of_gt gvL)).trans (by rw [← hgv]; exact Heap.get?_push_size _ (by rw [← hgo]; rfl))
 have tab5:h₅.get? B.tab=some (tabObj (two (lamP n) (defP n) w1 w2)):=keep5 _ _ (Nat.ne_of_lt tabL) ht₄
 have cell5:∀ c' v,L < c'→h₃.IsCell c' v→h₅.IsCell c' v:=fun c' v hc ⟨o,e,d⟩=>⟨o,up5 _ _ hc e,d⟩
 have cT5:=cell5 _ _ (Nat.lt_succ_self L) cT3
 have cA5:=cell5 _ _ (Nat.lt_succ_of_lt (Nat.lt_succ_self L)) cA3
 have hkf:env.scope.kind=.function:=by rw [XE.sc]; rfl
 have hloc:∀ y k,lexScope.names.lookup y=some k→env.kindOf y=some k:=fun y k e=>by rw [kn]; exact e
 refine wpAny_execs_cons (plainObj_wpAny_Assign_Attribute (wpAny_Name (wpAny_loadName_local hkf (hloc _ _ rfl) (by rw [XE.loc]; exact ns5) (if_pos rfl) ?_) (by decide)))
 refine wpAny_Name (wpAny_loadName_local hkf (hloc _ _ rfl) (by rw [XE.loc]; exact ns5) (v:=.ref st) (by rw [if_neg (by decide),if_pos rfl]) ?_) (by decide)
 rw [← hfo] at st5
 refine fnSet st5 fun h₆ tk₆ k₆ st₆ n₆=>?_
 dsimp only at k₆ st₆ n₆ ⊢
 generalize hsd:h₅.objs.size=sd at st₆ n₆
 have gvsd:gv < sd:=by rw [← hsd]; exact Heap.lt_size gv5
 have kk6:∀ b o,s.heap.get? b=some o→b≠B.tab→h₆.get? b=some o:=fun b o e nb=>k₆ b o (Nat.ne_of_lt (Nat.lt_trans (oldL b o e) stL)) (kk5 b o e nb)
 have ns6:h₆.Ns L _:=ns5.at' fun o e=>k₆ L o (Nat.ne_of_lt stL) e
 have Xk:K.In h₆:=fun b o e=>keepc _ kk6 b o (O.X b o e) (O.cls b o e)
 have tab6:=k₆ _ _ (Nat.ne_of_lt (Nat.lt_trans tabL stL)) tab5
 have im6:Mv [] [] h₅ h₆:=.but k₆ fun o e=>by rw [st5] at e; apply s1 e; exact no_cls rfl rfl
 have gv6:=k₆ _ _ stgv.symm gv5
 have cT6:h₆.IsCell (L+1) _:=Heap_IsCell_at cT5 fun o e=>k₆ _ o (Nat.ne_of_lt (Nat.lt_trans (Nat.lt_succ_self _) ltst)) e
 have cA6:h₆.IsCell (L+1+1) _:=Heap_IsCell_at cA5 fun o e=>k₆ _ o (Nat.ne_of_lt ltst) e
 refine wpAny_execs_cons (wpAny_Return_some (PyProof.Rows.Call_Name rfl ?_))
 refine Calls.Name_function_global hkf (hloc _ _ rfl) ?_ (by decide)
 refine Calls.loadGlobal_global (by rw [XE.gl]; exact hgl _ kk6) P.net ?_
 refine callWith_K (K:=K) (h₀:=B.h0) O.X P.kp ?_
 show wpAny _ _ (spliced [(false,eval (.Name (nS "stream") ⟨n+8,21,n+8,27⟩) env)]) _ _ _
 refine Calls.spliced_cons (wpAny_Name (wpAny_loadName_local hkf (hloc _ _ rfl) (by rw [XE.loc]; exact ns6) (v:=.ref st) (by rw [if_neg (by decide),if_pos rfl]) ?_) (by decide))
 refine Calls.spliced_nil ⟨Xk,wpAny_call ?_⟩
 show codeAny _ _ (.call (.ref B.lx.C) ⟨[.ref st],[]⟩) _ (⟨h₆,s.gens,s.drawn,tk₆,s.os⟩:Shared)
 refine make_core (makes_of Xk P.makes) (looks_findIn Xk P.fi) (fun self=>bind_fn Xk self P.ti) (.inl rfl) ?_
 generalize hdx:h₆.objs.size=dx
 have sddx:sd < dx:=by
  refine x4_2 (n₆) fun ζ ζ ζ ζ e ζ=>?_
  rw [← hdx]; exact Heap.lt_size e
 have dead6:∀ b,dx≤b→B.h0.get? b=none∧b∉F.flatten:=fun b hb=>I.dead (deadL b (Nat.le_trans (Nat.le_of_lt (Nat.lt_trans stL (Nat.lt_trans (by
   have:st < gv:=by
    rw [← hgv]; exact Heap.lt_size (hx₄ _ _ (Nat.ne_of_gt (Nat.lt_trans tabL stL)) st3)
   exact this) (Nat.lt_trans gvsd sddx)))) hb))
 have push6:∀ b o,h₆.get? b=some o→((h₆.push emptyDict).push (instObj B.lx.C dx)).get? b=some o:=fun b o e=>Heap.get?_push_of_some _ (Heap.get?_push_of_some _ e)
 have kk6':∀ b o,s.heap.get? b=some o→b≠B.tab→((h₆.push emptyDict).push (instObj B.lx.C dx)).get? b=some o:=fun b o e nb=>push6 b o (kk6 b o e nb)
 have hxx:((h₆.push emptyDict).push (instObj B.lx.C dx)).get? (dx+1)=some (instO B.lx.C dx):=by
  have:dx+1=(h₆.push emptyDict).objs.size:=by rw [Heap.size_push,hdx]
  rw [this]; exact Heap.get?_push_size _ rfl
 have hdd:NsL ((h₆.push emptyDict).push (instObj B.lx.C dx)) dx (fun ζ=>none) 0:=⟨none,#[],0,#[],by
  rw [← hdx]; exact Heap.get?_push_of_some _ (Heap.get?_push_size _ rfl),fun e he=>by simp at he,Nat.le_refl _,fun ζ=>rfl⟩
 have lim6:((h₆.push emptyDict).push (instObj B.lx.C dx)).NoLimit:=by
  refine x1_2 (I.lim) fun mc hw_314 q=>?_
  refine x3_2 (hw_314) fun o es ep eo r=>?_
  exact ⟨mc,⟨o,es,ep,kk6' _ _ eo I.tabc.symm,r⟩,q⟩
 refine init_ok (gt:=gt) (s:=⟨(h₆.push emptyDict).push (instObj B.lx.C dx),s.gens,s.drawn,tk₆,s.os⟩) O P ?_ (Xk.keeps push6) lim6 (keepc _ kk6') (dead6 dx (Nat.le_refl _)).1 hxx hdd fun h₇ tk₇ p t1 t2 k₇ hp pl n₇=>?_
 ·show A.depth+1+Code.weight _ < 900
  have:Code.weight (.builtin "type.__call__" ⟨[.ref B.lx.C,.ref st],[]⟩)≤2:=weight_made _ _
  (first | lia | omega)
 refine ⟨rfl,?_⟩
 have keep7:∀ b o,b≠dx→h₆.get? b=some o→h₇.get? b=some o:=fun b o nb e=>k₇ b o nb (push6 b o e)
 have stgv':st < gv:=by rw [← hgv]; exact Heap.lt_size (hx₄ _ _ (Nat.ne_of_gt (Nat.lt_trans tabL stL)) st3)
 have stdx:st < dx:=Nat.lt_trans stgv' (Nat.lt_trans gvsd sddx)
 have kk7:∀ b o,s.heap.get? b=some o→b≠B.tab→h₇.get? b=some o:=fun b o e nb=>keep7 b o (Nat.ne_of_lt (Nat.lt_trans (oldL b o e) (Nat.lt_trans stL stdx))) (kk6 b o e nb)
 have im47:Mv [] [] h₄ h₇:=(im5.trans im6).trans (.but keep7 fun o e=>by rw [← hdx] at e; exact absurd (Heap.lt_size e) (Nat.lt_irrefl _))
 have tab7:TabOK B h₇:=by
  refine .inr ⟨w1,w2,?_,wq1.imk im47,wq2.imk im47⟩
  rw [P.p1,P.p2]
  exact keep7 _ _ (Nat.ne_of_lt (Nat.lt_trans tabL (Nat.lt_trans stL stdx))) tab6
 have xp:dx+1 < p:=by
  have:dx+1+1≤p:=by
   have:=hp
   rw [Heap.size_push,Heap.size_push,hdx] at this
   exact this
  exact this
 have I₇:Inv B F σ { s with heap:=h₇,toks:=tk₇ }:=I.tabKeep kk7 tab7 P.tab.1 P.tab.2
 have deadAll:∀ b,L≤b→B.h0.get? b=none∧b∉F.flatten:=fun b hb=>I.dead (deadL b hb)
 have dLst:=Nat.le_of_lt stL
 have dLgv:=Nat.le_of_lt gvL
 have dLsd:=Nat.le_of_lt (Nat.lt_trans gvL gvsd)
 have dLdx:=Nat.le_of_lt (Nat.lt_trans gvL (Nat.lt_trans gvsd sddx))
 have allL:∀ b,b∈[dx+1,dx,st,sd,gv,L+1,L+1+1]→L≤b∧b≠p:=fun b hb=>by
  simp only [List.mem_cons,List.not_mem_nil,or_false] at hb
  have hxp:dx < p:=Nat.lt_trans (Nat.lt_succ_self dx) xp
  rcases hb with rfl | rfl | rfl | rfl | rfl | rfl | rfl
  ·exact ⟨Nat.le_succ_of_le dLdx,Nat.ne_of_lt xp⟩
  ·exact ⟨dLdx,Nat.ne_of_lt hxp⟩
  ·exact ⟨dLst,Nat.ne_of_lt (Nat.lt_trans stdx hxp)⟩
  ·exact ⟨dLsd,Nat.ne_of_lt (Nat.lt_trans sddx hxp)⟩
  ·exact ⟨dLgv,Nat.ne_of_lt (Nat.lt_trans gvsd (Nat.lt_trans sddx hxp))⟩
  ·exact ⟨Nat.le_succ L,Nat.ne_of_lt (Nat.lt_trans (Nat.lt_succ_self _) (Nat.lt_trans ltst (Nat.lt_trans stdx hxp)))⟩
  ·exact ⟨Nat.le_succ_of_le (Nat.le_succ L),Nat.ne_of_lt (Nat.lt_trans ltst (Nat.lt_trans stdx hxp))⟩
 have hp8:(F++[[p]])[σ.length]?=some [p]:=by rw [← I.len,List.getElem?_concat_length]
 have LX:LexH B h₇ [dx+1,dx,st,sd,gv,L+1,L+1+1] text la 1 p (dx+1) dx st sd gv (L+1) (L+1+1):=by
  refine ⟨rfl,k₇ _ _ (Nat.succ_ne_self dx) hxx,⟨_,n₇,?_⟩,⟨_,_,keep7 _ _ (Nat.ne_of_lt stdx) st₆⟩,⟨_,n₆.at' fun o e=>keep7 _ o (Nat.ne_of_lt sddx) e,if_pos rfl⟩,⟨c2,ctv₂,?_,hi₄.imk im47⟩,⟨X,tX,Heap_IsCell_at cT6 fun o e=>keep7 _ o (Nat.ne_of_lt (Nat.lt_trans (Nat.lt_succ_self _) (Nat.lt_trans ltst stdx))) e,eX⟩,Heap_IsCell_at cA6 fun o e=>keep7 _ o (Nat.ne_of_lt (Nat.lt_trans ltst stdx)) e⟩
  ·refine ⟨⟨t1,?_⟩,?_,⟨t2,?_⟩,?_,?_,?_,?_⟩
   ·show (if nS "lineno"=nS "pushback" then _ else if nS "lineno"=nS "whitespace" then _ else if nS "lineno"=nS "instream" then _ else if nS "lineno"=nS "lineno" then _ else _)=_
    rw [if_neg (by decide),if_neg (by decide),if_neg (by decide),if_pos rfl]
   ·show (if nS "instream"=nS "pushback" then _ else if nS "instream"=nS "whitespace" then _ else if nS "instream"=nS "instream" then _ else _)=_
    rw [if_neg (by decide),if_neg (by decide),if_pos rfl]
   ·show (if nS "whitespace"=nS "pushback" then _ else if nS "whitespace"=nS "whitespace" then _ else _)=_
    rw [if_neg (by decide),if_pos rfl]
   ·exact if_pos rfl
   ·show (if nS "get_token"=nS "pushback" then _ else if nS "get_token"=nS "whitespace" then _ else if nS "get_token"=nS "instream" then _ else if nS "get_token"=nS "lineno" then _ else _)=_
    rw [if_neg (by decide),if_neg (by decide),if_neg (by decide),if_neg (by decide)]
   ·show (if nS "push_token"=nS "pushback" then _ else if nS "push_token"=nS "whitespace" then _ else if nS "push_token"=nS "instream" then _ else if nS "push_token"=nS "lineno" then _ else _)=_
    rw [if_neg (by decide),if_neg (by decide),if_neg (by decide),if_neg (by decide)]
   ·show (if nS "_read_char"=nS "pushback" then _ else if nS "_read_char"=nS "whitespace" then _ else if nS "_read_char"=nS "instream" then _ else if nS "_read_char"=nS "lineno" then _ else _)=_
    rw [if_neg (by decide),if_neg (by decide),if_neg (by decide),if_neg (by decide)]
  ·have:=keep7 _ _ (Nat.ne_of_lt (Nat.lt_trans gvsd sddx)) gv6
   rw [← hgo] at this
   exact this
 have nd7:([dx+1,dx,st,sd,gv,L+1,L+1+1]:List Addr).Nodup:=seven (L+1) (L+1+1) st gv sd dx (dx+1) (Nat.lt_succ_self _) ltst stgv' gvsd sddx (Nat.lt_succ_self _)
 exact made_end I kk7 I₇ ef hp8 bX pl LX nd7 (fun b hb=>deadL b (allL b hb).1) (fun b hb=>(allL b hb).2) (deadL p (Nat.le_trans dLdx (Nat.le_of_lt (Nat.lt_trans (Nat.lt_succ_self dx) xp))))
end
end Mine
namespace Mine
open PySem PySem.W
structure Tab where
 gt:List Str
 fns:Nat→Option Fn
 pad:Nat→List V
 lx:Nat
 me:Me→Nat
 kws:Nat→Str→Bool
 G:Nat→Option V
noncomputable def newLex (as:List V) (σ:Sto):Option (V × Sto):=arg2 as fun v w=>(strV v).bind fun text=>(refV w).bind fun i=>(vlist σ i).map fun ζ=>(.ref (σ.length+1),σ++[.list [],.lex text i 1 σ.length])
noncomputable def lamOf (mk:Me→Nat) (Φ:Calls):Lexer:=fun m as σ=>match m with
 | .count=>arg1 as fun v=>(refV v).bind fun i=>readC i σ
 | m=>if m.lex then Φ (mk m) as σ else none
noncomputable def padded (T:Tab) (k np:Nat) (as:List V):Option (List V):=if as.length=np then some as else if as.length+(T.pad k).length=np then some (as++T.pad k) else none
noncomputable def lamL (me:Me→Nat) (n:Nat) (Φ:Calls):Lexer:=match n with
 | 0=>fun ζ ζ ζ=>none
 | _+1=>lamOf me Φ
noncomputable def phi (T:Tab):Nat→Calls
 | 0=>fun ζ ζ ζ=>none
 | n+1=>fun k as σ=>if k=T.lx then newLex as σ else (T.fns k).bind fun f=>(padded T k f.np as).bind fun as'=>runF (phi T n) (lamL T.me n (phi T n)) T.G f.fz f.n f.body as' σ
noncomputable abbrev lamN (T:Tab) (n:Nat):Lexer:=lamL T.me n (phi T n)
noncomputable def Sees (B:Base) (h:Heap):Prop:=∀ a o,B.h0.get? a=some o→o.cls≠.none→h.get? a=some o
noncomputable def Fn.names (f:Fn):List Str:=(List.range f.np).map (nmOf f.tb)
structure FnK (B:Base) (T:Tab) (k:Nat) (f:Fn) (fd:FuncData):Prop where
 at_:∃ o,B.h0.get? (B.fa k)=some o∧o.cls≠.none∧o.data=.func fd
 body:fd.body=.stmts (toSL T.gt f.tb f.body)
 clo:fd.closure=[]
 gl:fd.globals=B.gA
 bu:fd.builtins=B.bA
 code:∃ c,fd.code=.ref c∧CodeI B.h0 c fd.qualname
 ok:f.okB T.gt T.kws T.G fd.scope=true
 b1:T.kws k kwNm=false→∀ s:Shared,Sees B s.heap→∀ xs:List Value,xs.length=f.np→BindsTo s fd ⟨xs,[]⟩ (f.names.zip xs)
 b2:T.kws k kwNm=false→∃ pv,(∀ h F,VRs B.fa h F (T.pad k) pv)∧∀ s:Shared,Sees B s.heap→∀ xs:List Value,xs.length≠f.np→xs.length+pv.length=f.np→BindsTo s fd ⟨xs,[]⟩ (f.names.zip (xs++pv))
 b3:∀ nm,T.kws k nm=true→∀ s:Shared,Sees B s.heap→∀ (xs:List Value) y,xs.length+1=f.np→BindsTo s fd ⟨xs,[(nm,y)]⟩ (f.names.zip (xs++[y]))
structure TabOk (B:Base) (T:Tab):Prop where
 bok:BOk B
 gr:GR B T.gt T.G
 fns:∀ k f,T.fns k=some f→k≠T.lx→∃ fd,FnK B T k f fd
 lex:∃ K n m iA c bm,LexOK B K T.me∧MakeP B K T.me T.gt n m (B.fa T.lx) iA c bm∧∃ f sc,GiveP B T.gt T.kws T.G f sc
 kwl:∀ nm,T.kws T.lx nm=false
 kwm:∀ m,T.kws (T.me m) kwNm=false
 kwp:∀ k nm,T.kws k nm=true→T.pad k=[]
section
variable {B:Base} {T:Tab}
theorem kit_zero (O:TabOk B T):∀ A,Room A 0→Kit B A 0 (fun ζ ζ ζ=>none) (fun ζ ζ ζ=>none) T.G T.gt T.me T.kws:=fun A R=>by
 refine x6_2 (O.lex) fun K n m iA c bm OL ζ=>?_
 exact ⟨R,⟨K,OL⟩,O.bok,O.gr,fun k as σ r e=>(by cases e),fun A' ζ F σ s k as xs v σ' ζ ζ ζ e=>(by cases e),fun F σ s k as xs w y nm v σ' ζ ζ ζ ζ e=>(by cases e),fun m as σ r ζ e=>(by cases e),O.kwm,fun a σ r e=>(by cases e),fun F σ s i v σ' as text la line p x dx st sd gv cT cA t ζ e=>(by cases e)⟩
theorem sees {F:Lay} {σ:Sto} {s:Shared} (I:Inv B F σ s):Sees B s.heap:=fun ζ ζ e h=>I.old.get_of_cls e h
theorem code_sees {h:Heap} (S:Sees B h) {c:Addr} {q:Str} (x:CodeI B.h0 c q):CodeI h c q:=by
 refine x3_4 (x) fun o vs t e hc hd hv=>?_
 exact ⟨o,vs,t,S _ _ e (by rw [hc]; simp),hc,hd,hv⟩
theorem phi_is {n k:Nat} {as:List V} {σ:Sto} {r:V × Sto} (e:phi T (n+1) k as σ=some r):(k=T.lx∧newLex as σ=some r)∨(k≠T.lx∧∃ f as',T.fns k=some f∧padded T k f.np as=some as'∧runF (phi T n) (lamN T n) T.G f.fz f.n f.body as' σ=some r):=by
 have e:(if k=T.lx then newLex as σ else (T.fns k).bind fun f=>(padded T k f.np as).bind fun as'=>runF (phi T n) (lamN T n) T.G f.fz f.n f.body as' σ)=some r:=e
 by_cases h:k=T.lx
 ·rw [if_pos h] at e; exact .inl ⟨h,e⟩
 ·rw [if_neg h] at e
  refine x2_3 (bin2_is e) ?_
  (try clear e)
  intro f as' ef ea e
  exact .inr ⟨h,f,as',ef,ea,e⟩
theorem padded_is {k np:Nat} {as as':List V} (e:padded T k np as=some as'):(as.length=np∧as'=as)∨(as.length≠np∧as.length+(T.pad k).length=np∧as'=as++T.pad k):=by
 unfold padded at e
 by_cases h:as.length=np
 ·rw [if_pos h] at e; apply s1 e; exact .inl ⟨h,rfl⟩
 ·rw [if_neg h] at e
  refine x0_2 (ite_is e) fun q hq_315=>?_
  apply q2 hq_315
  exact .inr ⟨h,q,rfl⟩
section
variable {n:Nat} {A A':Around} {F:Lay} {σ σ':Sto} {s:Shared} {k:Nat} {as:List V} {xs:List Value} {v:V}
theorem kit_new {K:Frag} {ln lm:Nat} {lA iA c bm:Addr} (OL:LexOK B K T.me) (MP:MakeP B K T.me T.gt ln lm lA iA c bm) (BO:BOk B) (R:Room A (n+1)) (Nr:Near A A') (I:Inv B F σ s) (r:VRs B.fa s.heap F as xs) (e:newLex as σ=some (v,σ')):codeAny (model B.prog B.w) A' (.call (.ref lA) ⟨xs,[]⟩) (retR (Cn B F s (PE B σ' v))) s:=by
 refine x2_2 (two_is e) ?_
 (try clear e)
 intro u w hq_316 e
 subst hq_316
 refine x2_3 (bin2_is e) ?_
 (try clear e)
 intro text i ht hi e
 refine x1_2 (map_is e) ?_
 (try clear e)
 intro ls q e
 cases e
 have ht:=strV_is ht
 have hi:=refV_is hi
 subst ht hi
 refine x2_2 (I.listAt q) fun a1 its1 f1 ζ=>?_
 refine x2_3 (r.inv2) fun x1 x2 hq_317 r1 r2=>?_
 apply q1 hq_317
 exact made_at OL MP R Nr BO I r1 f1 r2
theorem kit_fn (ih:∀ A,Room A n→Kit B A n (phi T n) (lamN T n) T.G T.gt T.me T.kws) {f:Fn} {fd:FuncData} {xs':List Value} {kw:List (Str × Value)} (FK:FnK B T k f fd) (R:Room A (n+1)) (Nr:Near A A') (I:Inv B F σ s) (r:VRs B.fa s.heap F as xs) (hl:as.length=f.np) (hb:BindsTo s fd ⟨xs',kw⟩ (f.names.zip xs)) (er:runF (phi T n) (lamN T n) T.G f.fz f.n f.body as σ=some (v,σ')):codeAny (model B.prog B.w) A' (.call (.ref (B.fa k)) ⟨xs',kw⟩) (retR (Cn B F s (PE B σ' v))) s:=by
 refine x1_3 (FK.at_) fun o h1 h2 h3=>?_
 refine x1_2 (FK.code) fun cc hc hci=>?_
 exact call_ok ih R Nr I r hl h1 h2 h3 FK.body FK.clo FK.gl FK.bu (by rw [hc]; exact (code_sees (sees I) hci).rec) (fnP_of FK.ok) hb er
theorem kit_phi (ih:∀ A,Room A n→Kit B A n (phi T n) (lamN T n) T.G T.gt T.me T.kws) {f:Fn} {fd:FuncData} {as':List V} (FK:FnK B T k f fd) (hkw:T.kws k kwNm=false) (R:Room A (n+1)) (Nr:Near A A') (I:Inv B F σ s) (r:VRs B.fa s.heap F as xs) (ep:padded T k f.np as=some as') (er:runF (phi T n) (lamN T n) T.G f.fz f.n f.body as' σ=some (v,σ')):codeAny (model B.prog B.w) A' (.call (.ref (B.fa k)) ⟨xs,[]⟩) (retR (Cn B F s (PE B σ' v))) s:=by
 have S:=sees I
 rcases padded_is ep with ⟨hl,rfl⟩ | ⟨hl,hl',rfl⟩
 ·exact kit_fn ih FK R Nr I r hl (FK.b1 hkw s S xs (by rw [← r.length]; exact hl)) er
 ·refine x1_2 (FK.b2 hkw) fun pv hpv hb=>?_
  exact kit_fn ih FK R Nr I (r.append (hpv _ _)) (by rw [List.length_append]; exact hl') (hb s S xs (by rw [← r.length]; exact hl) (by rw [← r.length,← (hpv s.heap F).length]; exact hl')) er
theorem kit_give {f:Fn} {sc:Scope} (GP:GiveP B T.gt T.kws T.G f sc) (O:TabOk B T) (R:Room A (n+1)) (I:Inv B F σ s) {i:Nat} {ys:List Addr} {text:List Nat} {la p x dx st sd gv cT cA:Addr} {line:Int} {t:Tok} (e:readC i σ=some (v,σ')) (ef:Fat F i ys) (L:LexH B s.heap ys text la line p x dx st sd gv cT cA):EvT B A F s (call (.ref gv) [.int 1 t]) (PE B σ' v):=by
 refine x1_2 (bind_is e) ?_
 (try clear e)
 intro LL hL e
 refine x1_2 (bind_is e) ?_
 (try clear e)
 intro us hus e
 refine x1_2 (one_is e) ?_
 (try clear e)
 intro u hq_318 e
 subst hq_318
 refine x1_2 (bind_is e) ?_
 (try clear e)
 intro k hk e
 refine x0_2 (ite_is e) ?_
 (try clear e)
 intro h0 e
 cases e
 have hk:=intV_is hk
 subst hk
 have q:=lexI_is hL
 refine x10_5 (lexAt I q) fun as₂ la₂ p₂ x₂ dx₂ st₂ sd₂ gv₂ cT₂ cA₂ hb ef₂ ea₂ ej₂ L₂=>?_
 cases ef.2.symm.trans ef₂.2
 have hq:=L.as_
 rw [L₂.as_] at hq
 cases hq
 exact give_ok GP (kit_zero O) R (.refl _) I q ef ea₂ hb L₂ hus h0
end
theorem kit_of (O:TabOk B T):∀ n A,Room A n→Kit B A n (phi T n) (lamN T n) T.G T.gt T.me T.kws:=by
 intro n
 induction n with
 | zero=>exact kit_zero O
 | succ n ih =>
  intro A R
  obtain ⟨K,ln,lm,iA,c,bm,OL,MP,gf,gsc,GP⟩:=O.lex
  refine ⟨R,⟨K,OL⟩,O.bok,O.gr,fun k as σ r e=>?_,fun A' Nr F σ s k as xs v σ' hkw I r e=>?_,fun F σ s k as xs w y nm v σ' hk I r rw_ e=>?_,fun m as σ r hm e=>?_,O.kwm,fun a σ r e=>?_,fun F σ s i v σ' as text la line p x dx st sd gv cT cA t I e ef L=>?_⟩
  ·rcases phi_is e with ⟨rfl,_⟩ | ⟨hk,f,as',ef,_⟩
   ·refine x2_4 (MP.lex) fun o fd h1 h2 h3 ζ=>?_
    exact ⟨o,fd,h1,h2,h3⟩
   ·refine x1_1 (O.fns k f ef hk) fun fd FK=>?_
    refine x1_3 (FK.at_) fun o h1 h2 h3=>?_
    exact ⟨o,fd,h1,h2,h3⟩
  ·rcases phi_is e with ⟨rfl,en⟩ | ⟨hk,f,as',ef,ep,er⟩
   ·exact kit_new OL MP O.bok R Nr I r en
   ·refine x1_1 (O.fns k f ef hk) fun fd FK=>?_
    exact kit_phi ih FK hkw R Nr I r ep er
  ·rcases phi_is e with ⟨rfl,en⟩ | ⟨hk',f,as',ef,ep,er⟩
   ·rw [O.kwl] at hk; exact noT hk
   ·refine x1_1 (O.fns k f ef hk') fun fd FK=>?_
    have hl:(as++[w]).length=f.np∧as'=as++[w]:=by
     rcases padded_is ep with q | ⟨q,q',_⟩
     ·exact q
     ·rw [O.kwp k nm hk] at q'; exact absurd q' q
    rw [hl.2] at er
    have hl':xs.length+1=f.np:=by rw [← hl.1,List.length_append,r.length]; rfl
    exact call_retR (kit_fn ih FK R (.refl _) I (r.append (.one rw_)) hl.1 (FK.b3 nm hk s (sees I) xs y hl') er)
  ·have e':lamOf T.me (phi T (n+1)) m as σ=some r:=e
   unfold lamOf at e'
   cases m <;> first | exact e' | exact noT hm
  ·refine x1_2 (one_is (show (arg1 [a] fun v=>(refV v).bind fun i=>readC i σ)=some r from e)) fun u hu e'=>?_
   cases hu
   refine x1_2 (bind_is e') ?_
   (try clear e')
   intro i hi e'
   exact ⟨i,refV_is hi,e'⟩
  ·refine x1_2 (one_is (show (arg1 [V.ref i] fun v=>(refV v).bind fun i=>readC i σ)=some (v,σ') from e)) fun u hu e'=>?_
   cases hu
   exact kit_give GP O R I (show readC i σ=some (v,σ') from e') ef L
end
end Mine
namespace Mine
open PySem PySem.W
noncomputable def frag (h:Heap) (p:Obj→Bool) (as:List Addr):Frag:=as.filterMap fun a=>((h.get? a).filter p).map fun o=>(a,o)
theorem frag_get {h:Heap} {p:Obj→Bool} {a:Addr} {o:Obj}:∀ {as:List Addr},(frag h p as).lookup a=some o→h.get? a=some o∧p o=true
 | [],e=>nomatch e
 | b :: r,e=>by
  unfold frag at e
  rw [List.filterMap_cons] at e
  cases q:(h.get? b).filter p with
  | none=>rw [q] at e; exact frag_get e
  | some x =>
   rw [q] at e
   have e:((b,x) :: frag h p r).lookup a=some o:=e
   rw [List.lookup_cons] at e
   cases z:a==b with
   | false=>rw [z] at e; exact frag_get e
   | true=>rw [z] at e; rw [eq_of_beq z,← Option.some.inj e]; exact Option.filter_eq_some_iff.mp q
noncomputable def fdOf (K:Frag) (a:Addr):FuncData:=match K.lookup a with
 | some ⟨_,_,.func fd,_⟩=>fd
 | _=>{ name:=Str.empty,qualname:=Str.empty,params:=noArgs [],body:=.stmts [],scope:=fnScope [],globals:=0,closure:=[],defaults:=.none,kwdefaults:=.none }
noncomputable def isFnB (K:Frag) (a:Addr):Bool:=match K.lookup a with
 | some ⟨c,_,.func _,_⟩=>c==.type "function"
 | _=>false
noncomputable def codeB (K:Frag) (c:Addr) (q:Str):Bool:=match K.lookup c with
 | some ⟨cl,_,.fields vs,_⟩=>cl==.type "code"&&(match (vs[1]?:Option Value) with
  | some (.str x _)=>x==q
  | _=>false)
 | _=>false
noncomputable def codeQ (K:Frag) (v:Value) (q:Str):Bool:=match v with
 | .ref c=>codeB K c q
 | _=>false
noncomputable def envB (fd:FuncData):Bool:=fd.closure.isEmpty&&fd.globals==mainGlobals&&fd.builtins==builtinsNs
theorem env_is {fd:FuncData} (e:envB fd=true):fd.closure=[]∧fd.globals=mainGlobals∧fd.builtins=builtinsNs:=by
 unfold envB at e
 rw [Bool.and_eq_true,Bool.and_eq_true] at e
 exact ⟨List.isEmpty_iff.mp e.1.1,eq_of_beq e.1.2,eq_of_beq e.2⟩
set_option tactic.hygienic true in
theorem fnB_at {K:Frag} {h:Heap} (X:K.In h) {a:Addr} (e:isFnB K a=true):∃ o,h.get? a=some o∧o.cls≠.none∧o.data=.func (fdOf K a):=by
 unfold isFnB at e
 split at e
 ·rename_i c d fd sl q
  refine ⟨_,X _ _ q,?_,?_⟩
  ·have:=eq_of_beq e
   rw [this]; simp
  ·unfold fdOf
   rw [q]
 ·exact noT e
set_option tactic.hygienic true in
theorem code_at {K:Frag} {h:Heap} (X:K.In h) {c:Addr} {q:Str} (e:codeB K c q=true):CodeI h c q:=by
 unfold codeB at e
 split at e
 ·rename_i cl d vs sl hq
  rw [Bool.and_eq_true] at e
  refine x0_2 e fun e1 e2=>?_
  split at e2
  ·rename_i x t hv
   refine ⟨_,vs,t,X _ _ hq,eq_of_beq e1,rfl,?_⟩
   rw [hv,eq_of_beq e2]
  ·exact noT e2
 ·exact noT e
theorem code_of {K:Frag} {h:Heap} (X:K.In h) {v:Value} {q:Str} (e:codeQ K v q=true):∃ c,v=.ref c∧CodeI h c q:=by
 unfold codeQ at e
 split at e
 ·exact ⟨_,rfl,code_at X e⟩
 ·exact noT e
noncomputable def fnB (K:Frag) (T:Tab) (a:Addr) (f:Fn):Bool:=isFnB K a&&envB (fdOf K a)&&codeQ K (fdOf K a).code (fdOf K a).qualname&&f.okB T.gt T.kws T.G (fdOf K a).scope
noncomputable def upTo (n:Nat) (a b c d:Value):List Value:=[a,b,c,d].take n
theorem upTo_is:∀ {n:Nat} {xs:List Value},xs.length=n→n≤4→∃ a b c d,xs=upTo n a b c d
 | _,[],rfl,_=>⟨.none,.none,.none,.none,rfl⟩
 | _,[a],rfl,_=>⟨a,.none,.none,.none,rfl⟩
 | _,[a,b],rfl,_=>⟨a,b,.none,.none,rfl⟩
 | _,[a,b,c],rfl,_=>⟨a,b,c,.none,rfl⟩
 | _,[a,b,c,d],rfl,_=>⟨a,b,c,d,rfl⟩
 | _,_ :: _ :: _ :: _ :: _ :: _,e,h=>by subst e; exact absurd h (by simp)
section
variable {B:Base} {T:Tab} {K:Frag} {k:Nat} {f:Fn}
theorem fnK (X:K.In B.h0) (gA:B.gA=mainGlobals) (bA:B.bA=builtinsNs) (e:fnB K T (B.fa k) f=true) (eb:(fdOf K (B.fa k)).body=.stmts (toSL T.gt f.tb f.body))
  (b1:T.kws k kwNm=false→∀ s:Shared,Sees B s.heap→∀ xs:List Value,xs.length=f.np→BindsTo s (fdOf K (B.fa k)) ⟨xs,[]⟩ (f.names.zip xs))
  (b2:T.kws k kwNm=false→∃ pv,(∀ h F,VRs B.fa h F (T.pad k) pv)∧∀ s:Shared,Sees B s.heap→∀ xs:List Value,xs.length≠f.np→xs.length+pv.length=f.np→BindsTo s (fdOf K (B.fa k)) ⟨xs,[]⟩ (f.names.zip (xs++pv)))
  (b3:∀ nm,T.kws k nm=true→∀ s:Shared,Sees B s.heap→∀ (xs:List Value) y,xs.length+1=f.np→BindsTo s (fdOf K (B.fa k)) ⟨xs,[(nm,y)]⟩ (f.names.zip (xs++[y]))):∃ fd,FnK B T k f fd:=by
 unfold fnB at e
 rw [Bool.and_eq_true,Bool.and_eq_true,Bool.and_eq_true] at e
 refine x0_3 (env_is e.1.1.2) fun e1 e2 e3=>?_
 exact ⟨_,fnB_at X e.1.1.1,eb,e1,by rw [gA]; exact e2,by rw [bA]; exact e3,code_of X e.1.2,e.2,b1,b2,b3⟩
theorem fnK_plain (X:K.In B.h0) (gA:B.gA=mainGlobals) (bA:B.bA=builtinsNs) (e:fnB K T (B.fa k) f=true) (eb:(fdOf K (B.fa k)).body=.stmts (toSL T.gt f.tb f.body)) (hp:T.pad k=[]) (hkw:∀ nm,T.kws k nm=false)
  (hn:f.np≤4) (hb:(fun a b c d=>bindArgs (fdOf K (B.fa k)) ⟨upTo f.np a b c d,[]⟩)=fun a b c d=>pure (f.names.zip (upTo f.np a b c d))):∃ fd,FnK B T k f fd:=by
 refine fnK X gA bA e eb (fun ζ s ζ xs hl=>?_) (fun ζ=>⟨[],fun h F=>by rw [hp]; exact .nil,fun s ζ xs h1 h2=>(h1 h2).elim⟩) fun nm h=>by rw [hkw] at h; exact noT h
 refine x4_1 (upTo_is hl hn) fun a b c d q=>?_
 rw [q]
 exact .of_eq (congrFun (congrFun (congrFun (congrFun hb a) b) c) d)
noncomputable def P64 (p q:Pos) (d:List Expr):Arguments:=⟨[],[⟨nS "s",none,p⟩,⟨nS "altchars",none,q⟩],none,[],[],none,d⟩
noncomputable def n64:List Str:=[nS "s",nS "altchars"]
theorem bind64 {p q:Pos} {d:List Expr} {fd:FuncData} (h:fd.params=P64 p q d) :
  (∃ k':Value→Value→Option (Array Value)→Sem (List (Str × Value)),∀ a b,bindArgs fd ⟨[a,b],[]⟩=seqItems? fd.defaults >>= k' a b∧k' a b (some #[.none])=pure (n64.zip [a,b])) ∧
  ∃ k':Value→Option (Array Value)→Sem (List (Str × Value)),∀ a,bindArgs fd ⟨[a],[]⟩=seqItems? fd.defaults >>= k' a∧k' a (some #[.none])=pure (n64.zip [a,.none]):=by
 cases fd
 cases h
 exact ⟨⟨_,fun a b=>⟨rfl,rfl⟩⟩,⟨_,fun a=>⟨rfl,rfl⟩⟩⟩
noncomputable def tup1:Obj:={ cls:=.type "tuple",data:=.seq #[.none] }
theorem fnK_none1 (X:K.In B.h0) (gA:B.gA=mainGlobals) (bA:B.bA=builtinsNs) (e:fnB K T (B.fa k) f=true) (eb:(fdOf K (B.fa k)).body=.stmts (toSL T.gt f.tb f.body)) (hp:T.pad k=[.none]) (hkw:∀ nm,T.kws k nm=false)
  (hn:f.names=n64) (hm:f.np=2) {Tp:Addr} (hd:(fdOf K (B.fa k)).defaults=.ref Tp) (hT:K.lookup Tp=some tup1) {p q:Pos} {d:List Expr} (h:(fdOf K (B.fa k)).params=P64 p q d):∃ fd,FnK B T k f fd:=by
 have ht:∀ h,Sees B h→h.get? Tp=some tup1:=fun h S=>S _ _ (X _ _ hT) (by simp [tup1])
 refine x0_2 (bind64 h) fun q1 q2=>?_
 refine fnK X gA bA e eb (fun ζ s S xs hl=>?_) (fun ζ=>⟨[.none],fun h F=>by rw [hp]; exact .cons .none .nil,fun s S xs h1 h2=>?_⟩) fun nm h=>by rw [hkw] at h; exact noT h
 ·rw [hm] at hl
  rw [hn]
  refine x1_1 q1 fun k' q=>?_
  exact (len2 hl).elim fun a e=>e.elim fun b e=>e▸.of_defaults hd (ht _ S) rfl (q a b).1 (q a b).2
 ·rw [hm] at h2
  rw [hn]
  refine x1_1 q2 fun k' q=>?_
  exact (len1 (Nat.succ.inj h2)).elim fun a e=>e▸.of_defaults hd (ht _ S) rfl (q a).1 (q a).2
theorem fnK_key1 (X:K.In B.h0) (gA:B.gA=mainGlobals) (bA:B.bA=builtinsNs) (e:fnB K T (B.fa k) f=true) (eb:(fdOf K (B.fa k)).body=.stmts (toSL T.gt f.tb f.body)) (hp:∀ nm,T.kws k nm=(nm==kwNm)) (hm:f.np=2)
  (hb:(fun a b=>bindArgs (fdOf K (B.fa k)) ⟨[a],[(kwNm,b)]⟩)=fun a b=>pure (f.names.zip [a,b])):∃ fd,FnK B T k f fd:=by
 have no:T.kws k kwNm=false→False:=fun h=>by rw [hp,beq_self_eq_true] at h; cases h
 refine fnK X gA bA e eb (fun h=>(no h).elim) (fun h=>(no h).elim) fun nm h s ζ xs y hl=>?_
 rw [hp] at h
 rw [eq_of_beq h]
 rw [hm] at hl
 exact (len1 (Nat.succ.inj hl)).elim fun a e=>e▸.of_eq (congrFun (congrFun hb a) y)
end
end Mine
namespace Mine
open PySem PySem.W
theorem give_ev {Gv:Nat→Option V} (h:Gv 0=some (.bi .len)) (n:Nat) (Φ:Calls) (Λ:Lexer) (text:List Nat) (k:Int) (σ:Sto) (a:Nat) (hk:0≤k) (ha:vlist σ a=some [.int k]) :
  ∃ loc',evSL Φ Λ Gv (giveIR n) [some (.int 1),some (.str text),some (.ref a),none] σ=some (.ret (.str (pieceAt text k)),loc',σ.set a (.list [.int (k+(pieceAt text k).length)])):=by
 have e1:clip text.length 0 (.int k)=some (min k.toNat text.length):=congrArg some (if_pos hk)
 have e2:clip text.length text.length (.int (k+1))=some (min (k.toNat+1) text.length):=by
  refine (congrArg some (if_pos (Int.le_trans hk (Int.le_of_lt (Int.lt_succ k))))).trans ?_
  rw [Int.toNat_add hk (by decide)]; rfl
 have hs:sliceV (.str text) (.int k) (.int (k+1)) .none σ=some (.str (pieceAt text k),σ):=by
  show orO ((clip text.length 0 (.int k)).bind fun l=>(clip text.length text.length (.int (k+1))).map fun h=>(V.str (cut text l h),σ)) _=_
  rw [e1,e2]; rfl
 have sb:subV (.ref a) (.int 0) σ=some (.int k):=by
  show orO ((vlist σ a).bind fun xs=>pick xs 0) _=_
  rw [ha]; rfl
 have st:setV (.ref a) (.int 0) (.int (k+(pieceAt text k).length)) σ=some (σ.set a (.list [.int (k+(pieceAt text k).length)])):=by
  show (vlist σ a).bind _=_
  rw [ha]; rfl
 refine ⟨[some (.int 1),some (.str text),some (.ref a),some (.str (pieceAt text k))],?_⟩
 unfold giveIR
 rw [es_cons,es_assign,ev_slice]
 simp only [ev_var,getL,evO_some,evO_none,ev_sub,ev_bin,ev_cint,List.getElem?_cons_zero,List.getElem?_cons_succ,Option.bind_some,Option.map_some,sb]
 rw [show binop .Add (.int k) (.int 1) σ=some (.int (k+1),σ) from rfl]
 simp only [Option.bind_some,hs]
 show (evSL Φ Λ Gv (.cons _ _) [some (.int 1),some (.str text),some (.ref a),some (.str (pieceAt text k))] σ)=_
 rw [es_cons,es_augSub]
 simp only [ev_var,getL,ev_cint,ev_call,ev_glob,evEL_cons,evEL_nil,List.getElem?_cons_zero,List.getElem?_cons_succ,Option.bind_some,Option.map_some,sb,h]
 rw [show callV Φ (.bi .len) [.str (pieceAt text k)] σ=some (.int ((pieceAt text k).length:Nat),σ) from rfl]
 simp only [Option.bind_some]
 rw [show augop .Add (.int k) (.int ((pieceAt text k).length:Nat)) σ=some (.int (k+(pieceAt text k).length),σ) from rfl]
 simp only [Option.bind_some,st,Option.map_some]
 rfl
mutual
noncomputable def vB (fa:Nat→Addr) (K:Frag):V→Value→Bool
 | .int i,x=>(match x with
  | .int j _=>i==j
  | _=>false)
 | .str s,x=>(match x with
  | .str x _=>x.cps.toList==s&&decide (s.length≤maxLen)
  | _=>false)
 | .bytes l,x=>(match x with
  | .bytes b _=>b.toList.map UInt8.toNat==l&&decide (l.length≤maxLen)
  | _=>false)
 | .tup vs,x=>(match x with
  | .ref a=>(match K.lookup a with
   | some o=>(match o.data with
    | .seq items n=>o.cls==.type "tuple"&&o.dict.isNone&&o.slots.isEmpty&&decide (vs.length≤maxLen)&&vsB fa K vs items.toList
    | _=>false)
   | none=>false)
  | _=>false)
 | .fn k,x=>(match x with
  | .ref a=>fa k==a
  | _=>false)
 | .bi b,x=>(match x with
  | .builtin i=>b.id==i
  | _=>false)
 | .ty t,x=>(match x with
  | .type n=>t.nm==n
  | _=>false)
 | _,_=>false
noncomputable def vsB (fa:Nat→Addr) (K:Frag):List V→List Value→Bool
 | [],xs=>xs.isEmpty
 | v :: vs,xs=>(match xs with
  | []=>false
  | x :: xs=>vB fa K v x&&vsB fa K vs xs)
end
theorem tup_obj {fa:Nat→Addr} {K:Frag} {h:Heap} (X:K.In h) {vs:List V} {a:Addr} {o:Obj} (q:K.lookup a=some o) (go:∀ xs,vsB fa K vs xs=true→VRs fa h [] vs xs) (e:(match o.data with
    | .seq items n=>o.cls==.type "tuple"&&o.dict.isNone&&o.slots.isEmpty&&decide (vs.length≤maxLen)&&vsB fa K vs items.toList
    | _=>false)=true):VR fa h [] (.tup vs) (.ref a):=by
 obtain ⟨cl,di,da,sl⟩:=o
 cases da with
 | seq items n =>
  have e:(cl==.type "tuple"&&di.isNone&&sl.isEmpty&&decide (vs.length≤maxLen)&&vsB fa K vs items.toList)=true:=e
  rw [Bool.and_eq_true,Bool.and_eq_true,Bool.and_eq_true,Bool.and_eq_true,decide_eq_true_eq] at e
  refine x0_2 (e) fun hw_319 e4=>?_
  refine x0_2 (hw_319) fun hw_320 e3=>?_
  obtain ⟨⟨e1,e0⟩,e2⟩:=hw_320
  have h1:=X _ _ q
  rw [eq_of_beq e1,Option.isNone_iff_eq_none.mp e0,Array.isEmpty_iff.mp e2] at h1
  exact .tup h1 (go _ e4) e3
 | _=>exact noT e
mutual
theorem vB_ok {fa:Nat→Addr} {K:Frag} {h:Heap} (X:K.In h):∀ (v:V) (x:Value),vB fa K v x=true→VR fa h [] v x
 | .none,x,e=>by exact noT e
 | .bool b,x,e=>by exact noT e
 | .ref i,x,e=>by exact noT e
 | .rng ..,x,e=>by exact noT e
 | .int i,x,e=>by
  cases x with
  | int j t=>rw [eq_of_beq (show (i==j)=true from e)]; exact .int _ _
  | _=>exact noT e
 | .str s,x,e=>by
  cases x with
  | str p t =>
   refine x0_2 (Bool.and_eq_true_iff.mp (show (p.cps.toList==s&&decide (s.length≤maxLen))=true from e)) fun e1 e2=>?_
   exact .str _ (eq_of_beq e1) (of_decide_eq_true e2)
  | _=>exact noT e
 | .bytes s,x,e=>by
  cases x with
  | bytes p t =>
   refine x0_2 (Bool.and_eq_true_iff.mp (show (p.toList.map UInt8.toNat==s&&decide (s.length≤maxLen))=true from e)) fun e1 e2=>?_
   exact .bytes _ (eq_of_beq e1) (of_decide_eq_true e2)
  | _=>exact noT e
 | .tup vs,x,e=>by
  cases x with
  | ref a =>
   cases q:K.lookup a with
   | none =>
    have e:(match K.lookup a with
     | some o=>(match o.data with
      | .seq items n=>o.cls==.type "tuple"&&o.dict.isNone&&o.slots.isEmpty&&decide (vs.length≤maxLen)&&vsB fa K vs items.toList
      | _=>false)
     | none=>false)=true:=e
    rw [q] at e; exact noT e
   | some o =>
    have e:(match K.lookup a with
     | some o=>(match o.data with
      | .seq items n=>o.cls==.type "tuple"&&o.dict.isNone&&o.slots.isEmpty&&decide (vs.length≤maxLen)&&vsB fa K vs items.toList
      | _=>false)
     | none=>false)=true:=e
    rw [q] at e
    exact tup_obj X q (fun xs=>vsB_ok X vs xs) e
  | _=>exact noT e
 | .fn k,x,e=>by
  cases x with
  | ref a=>rw [← eq_of_beq (show (fa k==a)=true from e)]; exact .fn _
  | _=>exact noT e
 | .bi b,x,e=>by
  cases x with
  | builtin a=>rw [← eq_of_beq (show (b.id==a)=true from e)]; exact .bi _
  | _=>exact noT e
 | .ty t,x,e=>by
  cases x with
  | type a=>rw [← eq_of_beq (show (t.nm==a)=true from e)]; exact .ty _
  | _=>exact noT e
theorem vsB_ok {fa:Nat→Addr} {K:Frag} {h:Heap} (X:K.In h):∀ (vs:List V) (xs:List Value),vsB fa K vs xs=true→VRs fa h [] vs xs
 | [],xs,e=>by rw [List.isEmpty_iff.mp e]; exact .nil
 | v :: vs,xs,e=>by
  cases xs with
  | nil=>exact noT e
  | cons x xs =>
   refine x0_2 (Bool.and_eq_true_iff.mp (show (vB fa K v x&&vsB fa K vs xs)=true from e)) fun e1 e2=>?_
   exact .cons (vB_ok X v x e1) (vsB_ok X vs xs e2)
end
end Mine
namespace Mine
open PySem PySem.W
noncomputable def mgOf (K:Frag):Str→Option Value:=match K.lookup mainGlobals with
 | some ⟨_,_,.dict es _,_⟩=>fun x=>nsFind es x
 | _=>fun ζ=>none
noncomputable def lexBase (K:Frag) (C:Addr) (rd ln:Nat) (gt:List Str):LexB :=
 { C,rd,p1:=lamP ln,p2:=defP ln,q1:=lexQ++".<locals>."++"<lambda>",q2:=lexQ++".<locals>."++nS "_law_give",gv:=fun cl cd ct=>fdX (nS "_law_give") (lexQ++".<locals>."++nS "_law_give") (giveArgs ln) (.stmts (toSL gt giveTb (giveIR ln))) giveScope cl ((mgOf K "__name__").getD .none) cd ct }
noncomputable def baseOf (prog:Program) (w:World) (s₁:Shared) (K:Frag) (mb:Str→Option Value) (fa:Nat→Addr) (C tab:Addr) (rd ln:Nat) (gt:List Str):Base :=
 { lx:=lexBase K C rd ln gt,prog,w,h0:=s₁.heap,os:=s₁.os,fa,tab,gA:=mainGlobals,bA:=builtinsNs,mg:=mgOf K,mb }
noncomputable def grB (fa:Nat→Addr) (K:Frag) (gt:List Str) (G:Nat→Option V):Bool:=(List.range gt.length).all fun g=>match G g with
 | none=>true
 | some v=>match mgOf K (nmOf gt g) with
  | some x=>vB fa K v x
  | none=>!(nmOf gt g==("__name__":Str))&&(match bootBuiltins (nmOf gt g) with
   | some x=>vB fa K v x
   | none=>false)
noncomputable def headB (K:Frag) (c P:Addr):Bool:=match K.lookup c with
 | some ⟨cl,_,.fields vs,_⟩=>cl==.type "code"&&(vs[11]?==some (.ref P))&&(vs.getD 11 .none==.ref P)&&(match vs.getD 18 .none with | .str _ _=>true | _=>false) &&
  (match vs.getD 7 .none with | .int _ _=>true | _=>false)&&(match vs.getD 9 .none with | .bool _=>true | _=>false)&&(match vs.getD 10 .none with | .int _ _=>true | _=>false)&&!(c==P)
 | _=>false
set_option tactic.hygienic true in
theorem head_ok {K:Frag} {h:Heap} (X:K.In h) {c P:Addr} (e:headB K c P=true):CodeHd h c P:=by
 unfold headB at e
 split at e
 ·rename_i cl d vs sl q
  simp only [Bool.and_eq_true] at e
  refine x0_2 (e) fun hw_321 e8=>?_
  refine x0_2 (hw_321) fun hw_322 e7=>?_
  refine x0_2 (hw_322) fun hw_323 e6=>?_
  refine x0_2 (hw_323) fun hw_324 e5=>?_
  refine x0_2 (hw_324) fun hw_325 e4=>?_
  obtain ⟨⟨e1,e2⟩,e3⟩:=hw_325
  split at e4
  ·rename_i file tf h4
   split at e5
   ·rename_i fl tg h5
    split at e6
    ·rename_i b h6
     split at e7
     ·rename_i tx tt h7
      exact ⟨_,vs,file,tf,fl,tg,b,tx,tt,X _ _ q,eq_of_beq e1,rfl,eq_of_beq e2,eq_of_beq e3,h4,h5,h6,h7,by simpa using e8⟩
     ·exact noT e7
    ·exact noT e6
   ·exact noT e5
  ·exact noT e4
 ·exact noT e
noncomputable def lexNm:List Str:=["__getattribute__","__getattr__",At.lineno.nm,At.whitespace.nm,At.pushback.nm,Str.ofString "instream",Me.get_token.nm,Me.push_token.nm,Me.read_char.nm,"__setattr__","__init__"]
noncomputable abbrev Bd:Type:=Value→Value→Value→Value→Sem (List (Str × Value))
section
variable (T:Tab) (fa:Nat→Addr) (C tab lA iA c bm Tp aw:Addr) (ln lm n ba b2 N:Nat) (pp qq:Pos) (dd:List Expr)
noncomputable def lexFd:List (Option (Option Value)):=[some (some (.builtin "object.__getattribute__")),some none,some none,some none,some none,some none,some (some (.ref (fa (T.me .get_token)))),some (some (.ref (fa (T.me .push_token)))),some (some (.ref (fa (T.me .read_char)))),
 some (some (.builtin "object.__setattr__")),some (some (.ref iA))]
noncomputable def lexAs:List Value:=[.ref (fa (T.me .get_token)),.ref (fa (T.me .push_token)),.ref (fa (T.me .read_char)),.ref iA]
noncomputable def fnT:Option Value:=some (.type "function")
noncomputable def obsB (K KC:Frag):Bool:=grB fa K T.gt T.G&&((clsIn KC C).any (·.hasDict)&&(plainOver KC C&&(isFnB K lA&&(envB (fdOf K lA)&&((fdOf K lA).qualname==lexQ&&(headB K c tab&&(codeB K c lexQ&&(isFnB K iA&&(envB (fdOf K iA)&&(codeQ K (fdOf K iA).code (fdOf K iA).qualname &&
 (makesIn KC C&&(keepIn KC (.ref C)&&(List.range n).all fun k=>(T.fns k).all fun f=>fnB K T (fa k) f))))))))))))
noncomputable def argK (k:Nat) (f:Fn) (a b c d:Value):Args:=if T.kws k kwNm then ⟨[a],[(kwNm,b)]⟩ else ⟨upTo f.np a b c d,[]⟩
noncomputable def valK (k:Nat) (f:Fn) (a b c d:Value):List Value:=if T.kws k kwNm then [a,b] else upTo f.np a b c d
noncomputable def obsA (K:Frag) (k:Nat):Option Bd:=(T.fns k).bind fun f=>if (T.pad k).isEmpty then some fun a b c d=>bindArgs (fdOf K (fa k)) (argK T k f a b c d) else none
noncomputable def expA (k:Nat):Option Bd:=(T.fns k).bind fun f=>if (T.pad k).isEmpty then some fun a b c d=>pure (f.names.zip (valK T k f a b c d)) else none
noncomputable def obsL (K:Frag) (a:Addr):FuncBody × Scope × (Value→Value→Sem (List (Str × Value))):=((fdOf K a).body,(fdOf K a).scope,fun x y=>bindArgs (fdOf K a) ⟨[x,y],[]⟩)
noncomputable abbrev Ob:Type:=Bool × List (Option (Option Value)) × List (Option Value) × List (Option Value) × List (Option Obj) × List (Option FuncBody) × List (Option Bd) × List (FuncBody × Scope × (Value→Value→Sem (List (Str × Value)))) × Arguments
noncomputable def obsK (K KC:Frag):Ob :=
 (obsB T fa C tab lA iA c n K KC,lexNm.map (findIn KC (.ref C)),(lexAs T fa iA).map (typeIn KC),[mgOf K "_netrclex",mgOf K "__builtins__",some (fdOf K lA).code,some (fdOf K (fa ba)).defaults,mgOf K "law"],[K.lookup bm,K.lookup tab,K.lookup Tp],
  (List.range n).map (fun k=>(T.fns k).map fun ζ=>(fdOf K (fa k)).body),(List.range n).map (obsA T fa K),[obsL K lA,obsL K iA],(fdOf K (fa ba)).params)
noncomputable def expK:Ob :=
 (true,lexFd T fa iA,[fnT,fnT,fnT,fnT],[some (.ref C),some (.ref bm),some (.ref c),some (.ref Tp),some (.ref aw)],[some { cls:=.type "module",dict:=some builtinsNs,data:=.plain },some { cls:=.none,data:=.fields #[] },some tup1],
  (List.range n).map (fun k=>(T.fns k).map fun f=>.stmts (toSL T.gt f.tb f.body)),(List.range n).map (expA T),
  [(.stmts (lexBody T.gt ln),lexScope,fun x y=>pure [(nS "text",x),(nS "at",y)]),(.stmts (initBody lm),initScope,fun x y=>pure [(nS "self",x),(nS "fp",y)])],P64 pp qq dd)
structure Stat:Prop where
 gr:∀ g,T.gt.length≤g→T.G g=none
 g0:T.G 0=some (.bi .len)
 lx:fa T.lx=lA
 bmn:bm≠builtinsNs∧bm≠mainGlobals∧bm≠tab∧tab≠mainGlobals∧tab≠cStatics
 give:giveB T.gt T.kws T.G (giveFn ln) giveScope=true
 kw:∀ k nm,T.kws k nm=(k==b2&&nm==kwNm)
 kwm:∀ m,T.me m≠b2
 kwl:T.lx≠b2
 pad:∀ k,T.pad k=if k=ba then [.none] else []
 ab:ba≠b2
 fns:∀ k f,T.fns k=some f→k < n∧f.np≤4∧(k=ba→f.names=n64∧f.np=2)∧(k=b2→f.np=2)
end
section
variable {prog:Program} {w:World} {s₁:Shared} {K KC:Frag} {mg mb:Str→Option Value} {fa:Nat→Addr} {T:Tab} {C tab lA iA c bm Tp aw:Addr} {ln lm n ba b2:Nat} {pp qq:Pos} {dd:List Expr}
set_option tactic.hygienic true in
theorem mg_is {h:Heap} (X:K.In h) (hg:h.Ns mainGlobals mg) (e:(mgOf K "__builtins__").isSome=true):h.Ns mainGlobals (mgOf K):=by
 unfold mgOf at e ⊢
 split at e
 ·rename_i c d es n sl q
  refine x3_4 hg fun o es' ep e1 e2 e3 e4=>?_
  have:=X _ _ q
  rw [e1] at this
  cases this
  cases e2
  exact ⟨_,es,n,e1,rfl,e3,fun _=>rfl⟩
 ·exact noT e
theorem ns_one {h:Heap} {a:Addr} {m m':Str→Option Value} (h1:h.Ns a m) (h2:h.Ns a m') (x:Str):m x=m' x:=by
 refine x3_4 h1 fun o es n e1 e2 ζ e4=>?_
 refine x3_4 h2 fun o' es' n' f1 f2 ζ f4=>?_
 rw [e1] at f1
 cases f1
 rw [e2] at f2
 cases f2
 rw [← e4,← f4]
theorem map_at {α:Type} {f g:Nat→α} {n:Nat} (e:(List.range n).map f=(List.range n).map g) {k:Nat} (h:k < n):f k=g k:=List.map_inj_left.mp e k (List.mem_range.mpr h)
theorem fns_of (X:K.In s₁.heap) (S:Stat T fa tab lA bm ln n ba b2) (e1:((List.range n).all fun k=>(T.fns k).all fun f=>fnB K T (fa k) f)=true)
  (e2:(List.range n).map (fun k=>(T.fns k).map fun ζ=>(fdOf K (fa k)).body)=(List.range n).map (fun k=>(T.fns k).map fun f=>.stmts (toSL T.gt f.tb f.body))) (e3:(List.range n).map (obsA T fa K)=(List.range n).map (expA T))
  (e4:(fdOf K (fa ba)).defaults=.ref Tp) (e5:K.lookup Tp=some tup1) (e6:(fdOf K (fa ba)).params=P64 pp qq dd) (k:Nat) (f:Fn) (ef:T.fns k=some f):∃ fd,FnK (baseOf prog w s₁ K mb fa C tab (T.me .read_char) ln T.gt) T k f fd:=by
 refine x0_4 (S.fns k f ef) fun hn np h1 h2=>?_
 have b:=map_at e2 hn
 rw [ef] at b
 have fb:=List.all_eq_true.mp e1 k (List.mem_range.mpr hn)
 rw [ef] at fb
 have a:=map_at e3 hn
 unfold obsA expA at a
 rw [ef] at a
 have a:=a
 by_cases hk:k=b2
 ·have hp:(T.pad k).isEmpty=true:=by rw [S.pad,if_neg (fun z=>S.ab (z.symm.trans hk))]; rfl
  have kt:T.kws k kwNm=true:=by rw [S.kw,hk]; simp
  have a:(if (T.pad k).isEmpty then some fun a b c d=>bindArgs (fdOf K (fa k)) (argK T k f a b c d) else none)=(if (T.pad k).isEmpty then some fun a b c d=>pure (f.names.zip (valK T k f a b c d)) else none):=a
  rw [if_pos hp,if_pos hp] at a
  refine fnK_key1 X rfl rfl fb (Option.some.inj b) (fun nm=>by rw [S.kw,hk]; simp) (h2 hk) (funext fun x=>funext fun y=>?_)
  have:=congrFun (congrFun (congrFun (congrFun (Option.some.inj a) x) y) x) x
  unfold argK valK at this
  rw [if_pos kt,if_pos kt] at this
  exact this
 ·have kf:∀ nm,T.kws k nm=false:=fun nm=>by rw [S.kw,beq_false_of_ne hk]; rfl
  by_cases hb:k=ba
  ·refine fnK_none1 X rfl rfl fb (Option.some.inj b) (by rw [S.pad,if_pos hb]) kf (h1 hb).1 (h1 hb).2 (Tp:=Tp) ?_ e5 (p:=pp) (q:=qq) (d:=dd) ?_
   ·rw [hb]; exact e4
   ·rw [hb]; exact e6
  ·have hp:T.pad k=[]:=by rw [S.pad,if_neg hb]
   have a:(if (T.pad k).isEmpty then some fun a b c d=>bindArgs (fdOf K (fa k)) (argK T k f a b c d) else none)=(if (T.pad k).isEmpty then some fun a b c d=>pure (f.names.zip (valK T k f a b c d)) else none):=a
   rw [hp] at a
   refine fnK_plain X rfl rfl fb (Option.some.inj b) hp kf np (funext fun x=>funext fun y=>funext fun z=>funext fun u=>?_)
   have:=congrFun (congrFun (congrFun (congrFun (Option.some.inj a) x) y) z) u
   unfold argK valK at this
   rw [if_neg (by rw [kf]; decide),if_neg (by rw [kf]; decide)] at this
   exact this
set_option tactic.hygienic true in
theorem tabOk_of (X:K.In s₁.heap) (XC:∀ a o,KC.lookup a=some o→s₁.heap.get? a=some o∧o.cls≠.none) (hg:s₁.heap.Ns mainGlobals mg) (hb:s₁.heap.Ns builtinsNs mb) (hbi:∀ x:Str,x≠"__name__"→mb x=bootBuiltins x) (S:Stat T fa tab lA bm ln n ba b2)
  (y:obsK T fa C tab lA iA c bm Tp n ba K KC=expK T fa C iA c bm Tp aw ln lm n pp qq dd):TabOk (baseOf prog w s₁ K mb fa C tab (T.me .read_char) ln T.gt) T∧K.lookup tab=some { cls:=.none,data:=.fields #[] }∧mg "law"=some (.ref aw):=by
 unfold obsK expK at y
 refine Prod.mk.inj y |>.elim fun yB y=>?_
 refine Prod.mk.inj y |>.elim fun yF y=>?_
 refine Prod.mk.inj y |>.elim fun yT y=>?_
 refine Prod.mk.inj y |>.elim fun yM y=>?_
 refine Prod.mk.inj y |>.elim fun yO y=>?_
 refine Prod.mk.inj y |>.elim fun yD y=>?_
 refine Prod.mk.inj y |>.elim fun yA y=>?_
 refine Prod.mk.inj y |>.elim fun yL yP=>?_
 unfold obsB at yB
 simp only [Bool.and_eq_true] at yB
 have F:∀ i,(lexNm.map (findIn KC (.ref C))).getD i none=(lexFd T fa iA).getD i none:=fun i=>by rw [yF]
 have Ty:∀ i,((lexAs T fa iA).map (typeIn KC)).getD i none=[fnT,fnT,fnT,fnT].getD i none:=fun i=>by rw [yT]
 clear yF yT
 refine List.cons.inj yM |>.elim fun m1 yM=>?_
 refine List.cons.inj yM |>.elim fun m2 yM=>?_
 refine List.cons.inj yM |>.elim fun m3 yM=>?_
 refine List.cons.inj yM |>.elim fun m4 yM=>?_
 refine List.cons.inj yM |>.elim fun m5 yM=>?_
 clear yM
 refine List.cons.inj yO |>.elim fun o1 yO=>?_
 refine List.cons.inj yO |>.elim fun o2 yO=>?_
 refine List.cons.inj yO |>.elim fun o3 yO=>?_
 clear yO
 refine List.cons.inj yL |>.elim fun lL yL=>?_
 refine List.cons.inj yL |>.elim fun iL yL=>?_
 clear yL
 have mi:=mg_is X hg (by rw [m2]; rfl)
 refine ⟨?_,o2,(ns_one hg mi _).trans m5⟩
 have XC':KC.In s₁.heap:=fun a o e=>(XC a o e).1
 have OL:LexOK (baseOf prog w s₁ K mb fa C tab (T.me .read_char) ln T.gt) KC T.me :=
  ⟨XC',fun a o e=>(XC a o e).2,F 0,F 1,yB.2.1,F 2,F 3,F 4,F 5,F 6,F 7,F 8,Ty 0,Ty 1,Ty 2,rfl,F 9,yB.2.2.1⟩
 refine x1_3 (fnB_at X yB.2.2.2.1) fun lo l1 l2 l3=>?_
 refine x1_3 (fnB_at X yB.2.2.2.2.2.2.2.2.1) fun io i1 i2 i3=>?_
 refine x0_3 (env_is yB.2.2.2.2.1) fun l5 l6 l7=>?_
 refine x0_3 (env_is yB.2.2.2.2.2.2.2.2.2.1) fun i5 i6 i7=>?_
 refine x0_5 (S.bmn) fun n1 n2 n3 n4 n5=>?_
 have hd:=head_ok X yB.2.2.2.2.2.2.1
 have MP:MakeP (baseOf prog w s₁ K mb fa C tab (T.me .read_char) ln T.gt) KC T.me T.gt ln lm ((baseOf prog w s₁ K mb fa C tab (T.me .read_char) ln T.gt).fa T.lx) iA c bm:=by
  refine ⟨rfl,rfl,rfl,rfl,rfl,rfl,fun _ _ _=>rfl,⟨lo,fdOf K lA,?_,l2,l3,congrArg (·.1) lL,congrArg (·.2.1) lL,l5,l6,l7,eq_of_beq yB.2.2.2.2.2.1,Option.some.inj m3,fun x y=>congrFun (congrFun (congrArg (·.2.2) lL) x) y⟩,hd,code_at X yB.2.2.2.2.2.2.2.1,
   ⟨io,fdOf K iA,i1,i2,i3,congrArg (·.1) iL,congrArg (·.2.1) iL,i5,i6,i7,fun x y=>congrFun (congrFun (congrArg (·.2.2) iL) x) y,code_of X yB.2.2.2.2.2.2.2.2.2.2.1⟩,
   yB.2.2.2.2.2.2.2.2.2.2.2.1,yB.2.2.2.2.2.2.2.2.2.2.2.2.1,F 10,Ty 3,m1,⟨m2,n1,n2,n3⟩,⟨_,X _ _ o1,rfl,rfl,rfl⟩,⟨X _ _ o2,?_⟩,fun z=>n4 z.symm⟩
  ·show s₁.heap.get? (fa T.lx)=_
   rw [S.lx]; exact l1
  ·refine x9_5 hd fun o vs _ _ _ _ _ _ _ q1 q2 q3 q4 _=>?_
   exact ⟨c,o,vs,q1,q2,q3,q4⟩
 refine ⟨⟨mi,hb,(by show mainGlobals≠cStatics; decide),(by show builtinsNs≠cStatics; decide)⟩,fun g v hgv=>?_,fun k f e _=>fns_of X S yB.2.2.2.2.2.2.2.2.2.2.2.2.2 yD yA (Option.some.inj m4) o3 yP k f e,
  ⟨KC,ln,lm,iA,c,bm,OL,MP,giveFn ln,giveScope,⟨fun _ _ _=>rfl,fun _ _ _=>rfl,fun _ _ _=>rfl,fun _ _ _=>rfl,fun _ _ _=>rfl,fun _ _ _=>rfl,fun _ _ _=>rfl,fun _ _ _ _=>rfl,S.give,give_ev S.g0 ln⟩⟩,
  fun nm=>by rw [S.kw,beq_false_of_ne S.kwl]; rfl,fun m=>by rw [S.kw,beq_false_of_ne (S.kwm m)]; rfl,fun k nm e=>?_⟩
 ·by_cases hlt:g < T.gt.length
  ·have:=List.all_eq_true.mp yB.1 g (List.mem_range.mpr hlt)
   rw [hgv] at this
   dsimp only at this
   split at this
   ·rename_i x q
    exact ⟨x,.inl q,vB_ok X _ _ this⟩
   ·rename_i q
    rw [Bool.and_eq_true,Bool.not_eq_true'] at this
    refine x0_2 this fun t1 t2=>?_
    split at t2
    ·rename_i x q2
     refine ⟨x,.inr ⟨q,?_⟩,vB_ok X _ _ t2⟩
     show mb _=_
     rw [hbi _ (fun z=>by rw [z] at t1; simp at t1),q2]
    ·exact noT t2
  ·rw [S.gr g (Nat.le_of_not_lt hlt)] at hgv; exact noS hgv
 ·rw [S.kw,Bool.and_eq_true] at e
  rw [S.pad,if_neg (fun z=>S.ab (z.symm.trans (eq_of_beq e.1)))]
end
end Mine
namespace Mine
open PySem PySem.W PyProof.Rows
noncomputable def SCI:Nat:=100
theorem vrs_ints {fa:Nat→Addr} {h:Heap} {F:Lay}:∀ {vs:List Value} {ns:List Int},IntsAre vs ns→VRs fa h F (ns.map .int) vs
 | _,_,.nil=>.nil
 | _,_,.cons n t r=>.cons (.int n t) (vrs_ints r)
section
variable {prog:Program} {w:World} {s₁:Shared} {K:Frag} {mb:Str→Option Value} {fa:Nat→Addr} {T:Tab} {C tab:Addr} {rd ln:Nat}
theorem law_call (O:TabOk (baseOf prog w s₁ K mb fa C tab rd ln T.gt) T) (hlim:s₁.heap.NoLimit) (hg:s₁.gens=#[]) (htab:s₁.heap.get? tab=some (tabObj #[])) (htc:tab≠cStatics)
  {sa:Addr} {vs:List Value} {ns:List Int} {m:Nat} (hsc:s₁.heap.get? sa=some { cls:=.type "list",data:=.seq vs.toArray m }) (hi:IntsAre vs ns) (hl:ns.length≤63) (hfa:fa SCI=sa)
  {n law:Nat} {lawA:Addr} (hfl:fa law=lawA) (hkw:T.kws law kwNm=false) (hn:n≤20) (ev:∃ σ',phi T n law [.fn SCI] [.scr SCI ns]=some (.bool true,σ'))
  {Q:Value→Shared→Prop} {E:Value→Shared→Prop} (hq:∀ s',OldK s₁.heap s'.heap→s'.os=s₁.os→s'.gens=#[]→Q (.bool true) s') :
  wpAny (model prog w) callerA (call (.ref lawA) [.ref sa]) Q E s₁:=by
 refine x1_1 (ev) ?_
 (try clear ev)
 intro σ' ev
 have R:Room callerA n:=by
  refine ⟨rfl,?_,?_⟩
  ·show (1+claimMargin)+n≤800
   have:claimMargin≤700:=by decide
   (first | lia | omega)
  ·show 4+10*n+100≤9900
   (first | lia | omega)
 have K':=kit_of O n callerA R
 have I:Inv (baseOf prog w s₁ K mb fa C tab rd ln T.gt) [[]] [.scr SCI ns] s₁:=by
  refine ⟨OldK.refl _,hlim,hg,rfl,rfl,fun i o as eo e=>?_,by simp,fun a ha=>by simp at ha,.inl htab,⟨_,htab⟩,htc,?_,_,_,rfl⟩
  ·cases i with
   | succ i=>exact noS eo
   | zero =>
    apply s1 eo; apply s1 e
    refine ⟨nofun,Nat.le_trans hl (by decide),vs.toArray,⟨m,?_⟩,by simpa using vrs_ints hi⟩
    show s₁.heap.get? (fa SCI)=_
    rw [hfa]; exact hsc
  ·refine x1_2 (hlim) fun mc hw_326 q=>?_
   refine x3_2 (hw_326) fun o es ep eo r=>?_
   exact ⟨o,eo⟩
 have r1:VRs (baseOf prog w s₁ K mb fa C tab rd ln T.gt).fa s₁.heap [[]] [.fn SCI] [.ref sa]:=by
  rw [← hfa]; exact .one (.fn SCI)
 have c:=K'.phi callerA (.refl _) [[]] _ s₁ law [.fn SCI] [.ref sa] _ _ hkw I r1 ev
 have hfl':(baseOf prog w s₁ K mb fa C tab rd ln T.gt).fa law=lawA:=hfl
 rw [hfl'] at c
 refine wpAny_mono (call_retR (B:=baseOf prog w s₁ K mb fa C tab rd ln T.gt) c) (fun v s' z=>?_) fun ζ ζ z=>z.elim
 refine x1_3 (z) fun G T' I' r'=>?_
 generalize hb:V.bool true=bv at r'
 cases hb
 cases r'
 exact hq s' I'.old I'.os I'.gens
end
noncomputable def hasCls (o:Obj):Bool:=!(o.cls==.none)
section
variable {prog:Program} {w:World} {s₀ s₁:Shared} {mg mb:Str→Option Value} {fa:Nat→Addr} {T:Tab} {C tab lA iA c bm Tp lawA:Addr} {ln lm n ba b2 N:Nat} {pp qq:Pos} {dd:List Expr}
theorem law_of (hg:s₁.heap.Ns mainGlobals mg) (hb:s₁.heap.Ns builtinsNs mb) (hbi:∀ x:Str,x≠"__name__"→mb x=bootBuiltins x) (hlim:s₁.heap.NoLimit) (hgens:s₁.gens=#[]) (kp:∀ b o,s₀.heap.get? b=some o→s₁.heap.get? b=some o) (S:Stat T fa tab lA bm ln n ba b2)
  (y:obsK T fa C tab lA iA c bm Tp n ba (frag s₀.heap (fun ζ=>true) (List.range N)) (frag s₀.heap hasCls (List.range N))=expK T fa C iA c bm Tp lawA ln lm n pp qq dd)
  {sa:Addr} {vs:List Value} {ns:List Int} {m:Nat} (hsc:s₁.heap.get? sa=some { cls:=.type "list",data:=.seq vs.toArray m }) (hi:IntsAre vs ns) (hl:ns.length≤63) (hfa:fa SCI=sa)
  {k law:Nat} {lawB:Addr} (hm:mg "law"=some (.ref lawB)) (hfl:fa law=lawA) (hlw:law≠b2) (hn:k≤20) (ev:∃ σ',phi T k law [.fn SCI] [.scr SCI ns]=some (.bool true,σ'))
  {Q:Value→Shared→Prop} {E:Value→Shared→Prop} (hq:∀ s',OldK s₁.heap s'.heap→s'.os=s₁.os→s'.gens=#[]→Q (.bool true) s') :
  wpAny (model prog w) callerA (call (.ref lawB) [.ref sa]) Q E s₁:=by
 have X:(frag s₀.heap (fun ζ=>true) (List.range N)).In s₁.heap:=fun a o e=>kp a o (frag_get e).1
 have O:=tabOk_of (prog:=prog) (w:=w) X (fun a o e=>⟨kp a o (frag_get e).1,fun z=>by have:=(frag_get e).2; unfold hasCls at this; rw [z] at this; simp at this⟩) hg hb hbi S y
 rw [O.2.2] at hm
 cases hm
 exact law_call O.1 hlim hgens (X _ _ O.2.1) S.bmn.2.2.2.2 hsc hi hl hfa hfl (by rw [S.kw,beq_false_of_ne hlw]; rfl) hn ev hq
end
end Mine
namespace Mine
open PySem
section
variable {Φ:Calls} {Λ:Lexer} {G:Nat→Option V} {loc loc':Loc} {σ σ1 σ2 σ3 σ4:Sto} {p q q1 q2 q3:Pos} {a b d e:E} {es:EL} {v x y z w:V} {vs:List V} {r:V × Sto} {c c':Bool}
theorem bnd {α β:Type} {o:Option α} {x:α} {f:α→Option β} {r:Option β} (h:o=some x) (h':f x=r):o.bind f=r:=by rw [h]; exact h'
theorem mpd {α β:Type} {o:Option α} {x:α} {f:α→β} (h:o=some x):o.map f=some (f x):=by rw [h]; rfl
theorem r_bin {op:Operator} (ha:evM Φ Λ G a false loc σ=some (x,σ1)) (hb:evM Φ Λ G b false loc σ1=some (y,σ2)) (ho:binop op x y σ2=some r):evM Φ Λ G (.bin op a b p) false loc σ=some r:=bnd ha (bnd hb ho)
theorem r_cmp {op:CmpOp} (ha:evM Φ Λ G a false loc σ=some (x,σ1)) (hb:evM Φ Λ G b false loc σ1=some (y,σ2)) (ho:cmpop op x y σ2=some c):evM Φ Λ G (.cmp op a b p) false loc σ=some (.bool c,σ2):=bnd ha (bnd hb (mpd ho))
theorem r_nil:evEL Φ Λ G .nil loc σ=some ([],σ):=rfl
theorem r_cons (he:evM Φ Λ G e false loc σ=some (x,σ1)) (hs:evEL Φ Λ G es loc σ1=some (vs,σ2)):evEL Φ Λ G (.cons e es) loc σ=some (x :: vs,σ2):=bnd he (mpd hs)
theorem r_one (he:evM Φ Λ G e false loc σ=some (x,σ1)):evEL Φ Λ G (.cons e .nil) loc σ=some ([x],σ1):=r_cons he r_nil
theorem r_two (ha:evM Φ Λ G a false loc σ=some (x,σ1)) (hb:evM Φ Λ G b false loc σ1=some (y,σ2)):evEL Φ Λ G (.cons a (.cons b .nil)) loc σ=some ([x,y],σ2):=r_cons ha (r_one hb)
theorem r_list {k:Bool} (hs:evEL Φ Λ G es loc σ=some (vs,σ1)) (hl:vs.length≤maxLen):evM Φ Λ G (.list k es p) false loc σ=some (newL k vs σ1):=bnd hs (if_pos hl)
theorem r_tup (hs:evEL Φ Λ G es loc σ=some (vs,σ1)):evM Φ Λ G (.tup es p) false loc σ=some (.tup vs,σ1):=mpd hs
theorem r_sub (ha:evM Φ Λ G a false loc σ=some (x,σ1)) (hb:evM Φ Λ G b false loc σ1=some (y,σ2)) (ho:subV x y σ2=some v):evM Φ Λ G (.sub a b p) false loc σ=some (v,σ2):=bnd ha (bnd hb (mpd ho))
theorem r_slice {lo hi st:OE} (ha:evM Φ Λ G a false loc σ=some (x,σ1)) (hl:evO Φ Λ G lo loc σ1=some (y,σ2)) (hh:evO Φ Λ G hi loc σ2=some (z,σ3)) (ht:evO Φ Λ G st loc σ3=some (w,σ4)) (ho:sliceV x y z w σ4=some r):evM Φ Λ G (.slice a lo hi st q p) false loc σ=some r:=bnd ha (bnd hl (bnd hh (bnd ht ho)))
theorem r_fn {g k:Nat} (hg:G g=some (.fn k)) (hs:evEL Φ Λ G es loc σ=some (vs,σ1)) (h:Φ k vs σ1=some r):evM Φ Λ G (.call g q es p) false loc σ=some r:=bnd hg (bnd hs h)
theorem r_bi {g:Nat} {k:Bi} (hg:G g=some (.bi k)) (hs:evEL Φ Λ G es loc σ=some (vs,σ1)) (h:callB k vs σ1=some r):evM Φ Λ G (.call g q es p) false loc σ=some r:=bnd hg (bnd hs h)
theorem r_ty {g:Nat} {k:Ty} (hg:G g=some (.ty k)) (hs:evEL Φ Λ G es loc σ=some (vs,σ1)) (h:callT k vs σ1=some r):evM Φ Λ G (.call g q es p) false loc σ=some r:=bnd hg (bnd hs h)
theorem r_kw {g k:Nat} {nm:Str} (hg:G g=some (.fn k)) (hs:evEL Φ Λ G es loc σ=some (vs,σ1)) (he:evM Φ Λ G e false loc σ1=some (w,σ2)) (h:Φ k (vs++[w]) σ2=some r):evM Φ Λ G (.callkw g q1 es nm e q p) false loc σ=some r:=bnd hg (bnd hs (bnd he h))
theorem r_meth {m:Me} {k:Nat} (ho:evM Φ Λ G a false loc σ=some (x,σ1)) (hk:recv σ1 x=some k) (hs:evEL Φ Λ G es loc σ1=some (vs,σ2)) (h:methR Λ m x k vs σ2=some r):evM Φ Λ G (.meth a m es q p) false loc σ=some r:=bnd ho (bnd hk (bnd hs h))
theorem r_attr {t:At} (ho:evM Φ Λ G a false loc σ=some (x,σ1)) (h:attrV t σ1 x=some v):evM Φ Λ G (.attr a t p) false loc σ=some (v,σ1):=bnd ho (mpd h)
theorem r_ife (ht:evT Φ Λ G a loc σ=some (c,σ1)) (h:(if c then evM Φ Λ G b false loc σ1 else evM Φ Λ G d false loc σ1)=some r):evM Φ Λ G (.ife a b d p) false loc σ=some r:=bnd ht h
theorem t_of (hf:evM Φ Λ G e true loc σ=fin true (evM Φ Λ G e false loc σ)) (h:evM Φ Λ G e false loc σ=some (v,σ1)) (ht:truth σ1 v=some c):evT Φ Λ G e loc σ=some (c,σ1):=by
 show asB (evM Φ Λ G e true loc σ)=_
 rw [hf,h]
 show asB ((truth σ1 v).map _)=_
 rw [ht]; rfl
theorem t_cmp {op:CmpOp} (ha:evM Φ Λ G a false loc σ=some (x,σ1)) (hb:evM Φ Λ G b false loc σ1=some (y,σ2)) (ho:cmpop op x y σ2=some c):evT Φ Λ G (.cmp op a b p) loc σ=some (c,σ2):=t_of rfl (r_cmp ha hb ho) rfl
theorem b_next {op:BoolOp} (h:evT Φ Λ G e loc σ=some (c,σ1)) (hc:((op==.And)=c)=True) {R:Option (Bool × Sto)} (h':evB Φ Λ G op es loc σ1=R):evB Φ Λ G op (.cons e es) loc σ=R:=bnd h ((if_pos (of_eq_true hc)).trans h')
theorem b_stop {op:BoolOp} (h:evT Φ Λ G e loc σ=some (c,σ1)) (hc:((op==.And)=c)=False):evB Φ Λ G op (.cons e es) loc σ=some (c,σ1):=bnd h (if_neg (of_eq_false hc))
theorem t_bool {op:BoolOp} (h:evB Φ Λ G op es loc σ=some (c,σ1)):evT Φ Λ G (.boolop op es p) loc σ=some (c,σ1):=by
 show asB ((evB Φ Λ G op es loc σ).map fun r=>(V.bool r.1,r.2))=_
 rw [h]; rfl
variable {t:Tg} {s:S} {rs A B:SL} {R:Option (Fl × Loc × Sto)} {fl:Fl}
theorem s_assign (he:evM Φ Λ G e false loc σ=some (v,σ1)) (hb:bindT t v loc σ1=some loc'):evS Φ Λ G (.assign t e p) loc σ=some (.next,loc',σ1):=bnd he (mpd hb)
theorem s_put (he:evM Φ Λ G e false loc σ=some (v,σ1)) (ha:evM Φ Λ G a false loc σ1=some (x,σ2)) (hb:evM Φ Λ G b false loc σ2=some (y,σ3)) (h:setV x y v σ3=some σ4):evS Φ Λ G (.assignSub a b q e p) loc σ=some (.next,loc,σ4):=bnd he (bnd ha (bnd hb (mpd h)))
theorem s_aug {op:Operator} {i:Nat} (hv:loc[i]?=some (some x)) (he:evM Φ Λ G e false loc σ=some (v,σ1)) (h:augop op x v σ1=some r):evS Φ Λ G (.aug i q op e p) loc σ=some (.next,loc.set i (some r.1),r.2):=bnd hv (bnd rfl (bnd he (mpd h)))
theorem s_augSub {op:Operator} {old:V} (ha:evM Φ Λ G a false loc σ=some (x,σ1)) (hb:evM Φ Λ G b false loc σ1=some (y,σ2)) (ho:subV x y σ2=some old) (he:evM Φ Λ G e false loc σ2=some (v,σ3)) (hv:augop op old v σ3=some r) (h:setV x y r.1 r.2=some σ4):evS Φ Λ G (.augSub a b q op e p) loc σ=some (.next,loc,σ4) :=
 bnd ha (bnd hb (bnd ho (bnd he (bnd hv (mpd h)))))
theorem s_expr (he:evM Φ Λ G e false loc σ=some (v,σ1)):evS Φ Λ G (.expr e p) loc σ=some (.next,loc,σ1):=mpd he
theorem s_ret (he:evM Φ Λ G e false loc σ=some (v,σ1)):evS Φ Λ G (.ret e p) loc σ=some (.ret v,loc,σ1):=mpd he
theorem s_cond (ht:evT Φ Λ G e loc σ=some (c,σ1)) (h:(if c then evSL Φ Λ G A loc σ1 else evSL Φ Λ G B loc σ1)=R):evS Φ Λ G (.cond e A B p) loc σ=R:=bnd ht h
theorem s_yes (ht:evT Φ Λ G e loc σ=some (true,σ1)) (h:evSL Φ Λ G A loc σ1=R):evS Φ Λ G (.cond e A B p) loc σ=R:=s_cond ht h
theorem s_no (ht:evT Φ Λ G e loc σ=some (false,σ1)) (h:evSL Φ Λ G B loc σ1=R):evS Φ Λ G (.cond e A B p) loc σ=R:=s_cond ht h
theorem l_cons (h:evS Φ Λ G s loc σ=some (.next,loc',σ1)) (h':evSL Φ Λ G rs loc' σ1=R):evSL Φ Λ G (.cons s rs) loc σ=R:=bnd h h'
theorem l_one (h:evS Φ Λ G s loc σ=some (fl,loc',σ1)):evSL Φ Λ G (.cons s .nil) loc σ=some (fl,loc',σ1):=bnd h (by cases fl <;> rfl)
theorem l_stop (h:evS Φ Λ G s loc σ=some (fl,loc',σ1)) (hf:seqF (fun loc σ=>evSL Φ Λ G rs loc σ) (fl,loc',σ1)=some (fl,loc',σ1)):evSL Φ Λ G (.cons s rs) loc σ=some (fl,loc',σ1):=bnd h hf
noncomputable def over {α:Type} (step:V→α→Sto→Option (Bool × α × Sto)):List V→α→Sto→Option (Bool × α × Sto)
 | [],a,σ=>some (true,a,σ)
 | v :: vs,a,σ=>(step v a σ).bind fun y=>if y.1 then over step vs y.2.1 y.2.2 else some y
variable {α:Type} {step:V→α→Sto→Option (Bool × α × Sto)}
theorem over_cons {u u':α} {Q:Option (Bool × α × Sto)} (h:step v u σ=some (true,u',σ1)) (h':over step vs u' σ1=Q):over step (v :: vs) u σ=Q:=bnd h h'
theorem over_stop {u u':α} (h:step v u σ=some (false,u',σ1)):over step (v :: vs) u σ=some (false,u',σ1):=bnd h rfl
theorem iter_over:∀ (n k:Nat) (vs:List V) (u:α) (σ:Sto),vs.length=k+n→iterate step (.items vs) n k u σ=over step (vs.drop k) u σ
 | 0,k,vs,u,σ,h=>by
  have h:vs.length≤k:=Nat.le_of_eq h
  rw [List.drop_eq_nil_of_le h]
  refine bnd (x:=none) ?_ rfl
  show some vs[k]?=_
  rw [List.getElem?_eq_none h]
 | n+1,k,vs,u,σ,h=>by
  have hk:k < vs.length:=by rw [h]; (first | lia | omega)
  rw [List.drop_eq_getElem_cons hk]
  refine bnd (x:=some vs[k]) ?_ ?_
  ·show some vs[k]?=_
   rw [List.getElem?_eq_getElem hk]
  ·show ((step vs[k] u σ).bind fun y=>if y.1 then iterate step (.items vs) n (k+1) y.2.1 y.2.2 else some y)=(step vs[k] u σ).bind fun y=>if y.1 then over step (vs.drop (k+1)) y.2.1 y.2.2 else some y
   congr 1
   funext y
   rw [iter_over n (k+1) vs y.2.1 y.2.2 (by rw [h]; (first | lia | omega))]
theorem iter_all {u:α}:iterate step (.items vs) vs.length 0 u σ=over step vs u σ:=(iter_over vs.length 0 vs u σ (Nat.zero_add _).symm).trans (by rw [List.drop_zero])
variable {clr:List Nat} {it:E}
theorem s_loop {y:Bool × (Fl × Loc) × Sto} (hi:evM Φ Λ G it false loc σ=some (x,σ1)) (hit:iterOf σ1 x=some (.items vs,vs.length)) (ho:over (loopStep Φ Λ G clr t A) vs (.next,loc) σ1=some y) (h:endF (fun loc σ=>evSL Φ Λ G B loc σ) y=R):evS Φ Λ G (.loop clr t it A B p) loc σ=R :=
 es_loop.trans (bnd hi (bnd hit (bnd (iter_all.trans ho) h)))
theorem u_turn {l1:Loc} (hb:bindT t v loc σ=some l1) (hs:evSL Φ Λ G A l1 σ=some (fl,loc',σ1)):loopStep Φ Λ G clr t A v (.next,loc) σ=some (turn clr (fl,loc',σ1)):=bnd hb (mpd hs)
theorem u_next {l1 l2:Loc} (hb:bindT t v loc σ=some l1) (hs:evSL Φ Λ G A l1 σ=some (.next,loc',σ1)) (hc:clear clr loc'=l2):loopStep Φ Λ G clr t A v (.next,loc) σ=some (true,(.next,l2),σ1):=(u_turn hb hs).trans (by rw [← hc]; rfl)
theorem u_cont {l1 l2:Loc} (hb:bindT t v loc σ=some l1) (hs:evSL Φ Λ G A l1 σ=some (.cont,loc',σ1)) (hc:clear clr loc'=l2):loopStep Φ Λ G clr t A v (.next,loc) σ=some (true,(.next,l2),σ1):=(u_turn hb hs).trans (by rw [← hc]; rfl)
theorem u_brk {l1:Loc} (hb:bindT t v loc σ=some l1) (hs:evSL Φ Λ G A l1 σ=some (.brk,loc',σ1)):loopStep Φ Λ G clr t A v (.next,loc) σ=some (false,(.next,loc'),σ1):=u_turn hb hs
theorem u_ret {l1:Loc} (hb:bindT t v loc σ=some l1) (hs:evSL Φ Λ G A l1 σ=some (.ret w,loc',σ1)):loopStep Φ Λ G clr t A v (.next,loc) σ=some (false,(.ret w,loc'),σ1):=u_turn hb hs
variable {lc:Loc} {ifs:EL} {cs:CS} {k:Bool} {cl:CL}
theorem r_comp {y:Bool × List V × Sto} (hi:evM Φ Λ G it false (clear (cs.own.map (·.1)) loc) σ=some (x,σ1)) (hit:iterOf σ1 x=some (.items vs,vs.length))
  (ho:over (compStep t (clear (cs.own.map (·.1)) loc) (fun loc σ=>evIfs Φ Λ G ifs loc σ) (evC Φ Λ G cl fun loc σ acc=>(evM Φ Λ G e false loc σ).bind fun v=>if acc.length < maxLen then some (acc++[v.1],v.2) else none)) vs [] σ1=some y):evM Φ Λ G (.comp k e t it ifs cl cs p) false loc σ=some (newL k y.2.1 y.2.2) :=
 ev_comp.trans ((bnd hi (bnd hit (mpd (iter_all.trans ho)))))
theorem u_add {acc:List V} {l1:Loc} (hb:bindT t v lc σ=some l1) (he:evM Φ Λ G e false l1 σ=some (w,σ1)) (hl:acc.length < maxLen) :
  compStep t lc (fun loc σ=>evIfs Φ Λ G .nil loc σ) (evC Φ Λ G .nil fun loc σ acc=>(evM Φ Λ G e false loc σ).bind fun v=>if acc.length < maxLen then some (acc++[v.1],v.2) else none) v acc σ=some (true,acc++[w],σ1):=by
 refine bnd hb (bnd (x:=(true,σ)) rfl ?_)
 show ((evM Φ Λ G e false l1 σ).bind _).map _=_
 rw [he]
 exact mpd (if_pos hl)
theorem u_if {acc:List V} {l1:Loc} (hb:bindT t v lc σ=some l1) (ht:evT Φ Λ G a l1 σ=some (c,σ)) (he:c=true→evM Φ Λ G e false l1 σ=some (w,σ)) (hl:acc.length < maxLen) :
  compStep t lc (fun loc σ=>evIfs Φ Λ G (.cons a .nil) loc σ) (evC Φ Λ G .nil fun loc σ acc=>(evM Φ Λ G e false loc σ).bind fun v=>if acc.length < maxLen then some (acc++[v.1],v.2) else none) v acc σ=some (true,if c then acc++[w] else acc,σ):=by
 refine bnd hb ?_
 cases c with
 | false=>exact bnd (x:=(false,σ)) (bnd ht rfl) rfl
 | true =>
  refine bnd (x:=(true,σ)) (bnd ht rfl) ?_
  show ((evM Φ Λ G e false l1 σ).bind _).map _=_
  rw [he rfl]
  exact mpd (if_pos hl)
theorem over_add {β:Type} {cstep:V→List V→Sto→Option (Bool × List V × Sto)} {f:β→V} {g:β→List V} (hg:∀ x,(g x).length≤1):∀ {xs:List β} {acc:List V},acc.length+xs.length≤maxLen→(∀ x∈xs,∀ acc:List V,acc.length < maxLen→cstep (f x) acc σ=some (true,acc++g x,σ)) →
  over cstep (xs.map f) acc σ=some (true,acc++(xs.map g).flatten,σ)
 | [],acc,_,_=>by rw [List.map_nil,List.map_nil,List.flatten_nil,List.append_nil]; rfl
 | x :: xs,acc,hl,h=>by
  rw [List.length_cons] at hl
  have:=hg x
  refine over_cons (h x (.head _) acc (by (first | lia | omega))) ?_
  rw [over_add hg (by rw [List.length_append]; (first | lia | omega)) fun y hy=>h y (.tail _ hy),List.append_assoc]
  rfl
theorem map_one {β:Type} {g:β→V}:∀ xs:List β,(xs.map fun x=>[g x]).flatten=xs.map g
 | []=>rfl
 | x :: xs=>congrArg (g x :: ·) (map_one xs)
theorem r_map {β:Type} {f:β→V} {g:β→V} {xs:List β} (hi:evM Φ Λ G it false (clear (cs.own.map (·.1)) loc) σ=some (x,σ)) (hit:iterOf σ x=some (.items (xs.map f),(xs.map f).length)) (hl:xs.length≤maxLen)
  (h:∀ x∈xs,∃ l,bindT t (f x) (clear (cs.own.map (·.1)) loc) σ=some l∧evM Φ Λ G e false l σ=some (g x,σ)):evM Φ Λ G (.comp k e t it .nil .nil cs p) false loc σ=some (newL k (xs.map g) σ) :=
 (r_comp hi hit (over_add (g:=fun x=>[g x]) (fun ζ=>Nat.le_refl _) (acc:=[]) (by rw [List.length_nil,Nat.zero_add]; exact hl) fun x hx acc ha=>(h x hx).elim fun ζ hh=>u_add hh.1 hh.2 ha)).trans (by rw [map_one]; rfl)
theorem map_if {β:Type} {g:β→V} {c:β→Bool}:∀ xs:List β,(xs.map fun x=>if c x then [g x] else []).flatten=(xs.filter c).map g
 | []=>rfl
 | x :: xs=>by
  rw [List.filter_cons,List.map_cons,List.flatten_cons,map_if xs]
  cases c x <;> rfl
theorem r_filter {β:Type} {f:β→V} {g:β→V} {c:β→Bool} {xs:List β} (hi:evM Φ Λ G it false (clear (cs.own.map (·.1)) loc) σ=some (x,σ)) (hit:iterOf σ x=some (.items (xs.map f),(xs.map f).length)) (hl:xs.length≤maxLen)
  (h:∀ x∈xs,∃ l,bindT t (f x) (clear (cs.own.map (·.1)) loc) σ=some l∧evT Φ Λ G a l σ=some (c x,σ)∧(c x=true→evM Φ Λ G e false l σ=some (g x,σ))):evM Φ Λ G (.comp k e t it (.cons a .nil) .nil cs p) false loc σ=some (newL k ((xs.filter c).map g) σ):=by
 refine (r_comp hi hit (over_add (g:=fun x=>if c x then [g x] else []) (fun x=>by cases c x <;> exact Nat.le_of_ble_eq_true rfl) (acc:=[]) (by rw [List.length_nil,Nat.zero_add]; exact hl) fun x hx acc ha=>(h x hx).elim fun ζ hh=>(u_if hh.1 hh.2.1 hh.2.2 ha).trans ?_)).trans (by rw [map_if]; rfl)
 cases c x with
 | false=>rw [if_neg (by decide),if_neg (by decide),List.append_nil]
 | true=>rfl
theorem take_self {n:Nat} (h:σ.length=n):σ.take n=σ:=List.take_of_length_le (Nat.le_of_eq h)
theorem leave_same {fz:Bool} {n:Nat} (h:σ.length=n) (hv:v.low n=true):leave fz n v σ=(v,σ):=by
 unfold leave
 rw [if_pos hv,take_self h]
 split <;> rfl
noncomputable abbrev Low (σ:Sto):Prop:=stoLow σ.length σ=true
theorem leave_on {fz:Bool} {n:Nat} {τ:Sto} (hn:σ.length=n) (h:Low σ):leave fz n v (σ++τ)=if v.low n then (v,σ) else ((refV v).bind fun i=>((σ++τ)[i]?).bind fun o=>if o.low n then some (hand fz n (σ++τ) o) else none).getD (v,σ++τ):=by
 subst hn
 unfold leave
 rw [List.take_left,if_pos]
 unfold Low at h
 rw [h,List.length_append,decide_eq_true (Nat.le_add_right ..)]; rfl
theorem leave_cut {fz:Bool} {n:Nat} {τ:Sto} (hn:σ.length=n) (h:Low σ) (hv:v.low n=true):leave fz n v (σ++τ)=(v,σ):=(leave_on hn h).trans (if_pos hv)
theorem get_at {k:Nat} {τ:Sto}:(σ++τ)[σ.length+k]?=τ[k]?:=by
 rw [List.getElem?_append_right (Nat.le_add_right ..),Nat.add_sub_cancel_left]
theorem leave_list {n k:Nat} {τ:Sto} {xs:List V} (hn:σ.length=n) (h:Low σ) (hk:τ[k]?=some (.list xs)) (hx:lowL n xs=true):leave true n (.ref (n+k)) (σ++τ)=(.lst xs,σ):=by
 have e:V.low n (.ref (n+k))=false:=decide_eq_false (Nat.not_lt.mpr (Nat.le_add_right ..))
 rw [leave_on hn h,e,if_neg (by decide)]
 subst hn
 show (((σ++τ)[σ.length+k]?).bind _).getD _=_
 rw [get_at,hk]
 show (if lowL σ.length xs=true then some (V.lst xs,(σ++τ).take σ.length) else none).getD _=_
 rw [if_pos hx,List.take_left]; rfl
theorem f_call {T:Tab} {k n:Nat} {f:Fn} {as:List V} (hk:(k==T.lx)=false) (hf:T.fns k=some f) (ha:as.length=f.np) (hb:evSL (phi T n) (lamN T n) T.G f.body (as.map some++List.replicate (f.n - as.length) none) σ=some (fl,loc',σ1)) {v:V} (hv:retV fl=some v)
  {r:V × Sto} (h:leave f.fz σ.length v σ1=r):phi T (n+1) k as σ=some r:=by
 show (if k=T.lx then _ else _)=_
 rw [if_neg (ne_of_beq_false hk)]
 exact bnd hf (bnd (x:=as) (if_pos ha) (bnd hb ((mpd hv).trans (congrArg some h))))
end
end Mine
namespace Mine
open PySem
noncomputable def SL.get:SL→Nat→S
 | .cons s _,0=>s
 | .cons _ r,k+1=>r.get k
 | .nil,_=>.raw default
noncomputable def S.a:S→SL
 | .cond _ a _ _=>a
 | .whil _ _ _ a _=>a
 | .loop _ _ _ a _ _=>a
 | .enum _ _ _ _ _ _ a _ _ _=>a
 | .fitr _ _ _ _ a _ _=>a
 | _=>.nil
noncomputable def S.b:S→SL
 | .cond _ _ b _=>b
 | _=>.nil
noncomputable def S.t:S→Tg
 | .loop _ t _ _ _ _=>t
 | .enum _ is tp _ _ _ _ _ _ _=>.tup is tp
 | .fitr _ i tp _ _ _ _=>.name i tp
 | _=>.tup [] default
section
variable {Φ:Calls} {Λ:Lexer} {G:Nat→Option V} {loc loc':Loc} {σ σ1:Sto} {p q q1 q2 q3:Pos} {e it:E} {v x:V} {vs xs:List V} {n i:Nat} {clr:List Nat} {is:List (Nat × Pos)} {A B:SL} {R:Option (Fl × Loc × Sto)}
theorem enum_len:(enumItems xs).length=xs.length:=by unfold enumItems; rw [List.length_map,List.length_zipIdx]
theorem s_enum {g:Nat} {y:Bool × (Fl × Loc) × Sto} (hg:G g=some (.ty .enumerate)) (hi:evM Φ Λ G it false loc σ=some (.tup xs,σ1)) (ho:over (loopStep Φ Λ G clr (.tup is q1) A) (enumItems xs) (.next,loc) σ1=some y) (h:endF (fun loc σ=>evSL Φ Λ G B loc σ) y=R):evS Φ Λ G (.enum clr is q1 g q2 it A B q p) loc σ=R :=
 es_enum.trans (bnd hg (bnd hi (bnd rfl (bnd ((iter_over xs.length 0 _ _ _ (enum_len.trans (Nat.zero_add _).symm)).trans ho) h))))
theorem over_find {α β:Type} {step:V→α→Sto→Option (Bool × α × Sto)} {f:β→V} {p:β→Bool} {a:α} {g:β→α × Sto} (h1:∀ x,p x=true→step (f x) a σ=some (false,g x)) (h0:∀ x,p x=false→step (f x) a σ=some (true,a,σ)):∀ xs:List β,over step (xs.map f) a σ=some (match xs.find? p with
  | some x=>(false,g x)
  | none=>(true,a,σ))
 | []=>rfl
 | x :: xs=>by
  rw [List.find?_cons]
  cases h:p x with
  | true=>exact over_stop (h1 x h)
  | false=>exact over_cons (h0 x h) (over_find h1 h0 xs)
theorem vlist_at (hn:σ.length=n):vlist (σ++[.list xs]) n=some xs:=by
 subst hn
 show (match (σ++[O.list xs])[σ.length]? with
  | some (.list xs)=>some xs
  | _=>none)=_
 rw [List.getElem?_append_right (Nat.le_refl _),Nat.sub_self]; rfl
theorem set_at (hn:σ.length=n) {o o':O}:(σ++[o]).set n o'=σ++[o']:=by
 subst hn
 rw [List.set_append_right _ _ (Nat.le_refl _),Nat.sub_self]; rfl
set_option tactic.hygienic true in
theorem recv_c (h:vlist σ n=some xs):recv σ (.ref n)=some 1:=by
 unfold vlist at h
 show (match σ[n]? with
  | some (.list _)=>some 1
  | some (.lex ..)=>some 2
  | _=>none)=_
 split at h
 ·rename_i q; rw [q]
 ·cases h
theorem s_append (hv:loc[i]?=some (some (.ref n))) (he:evM Φ Λ G e false loc σ=some (v,σ)) (h:vlist σ n=some xs) (hl:xs.length < maxLen):evS Φ Λ G (.expr (.meth (.var i q1) .append (.cons e .nil) q2 q3) p) loc σ=some (.next,loc,σ.set n (.list (xs++[v]))) :=
 s_expr (r_meth (x:=.ref n) (bnd hv rfl) (recv_c h) (r_one he) (bnd h (if_pos hl)))
theorem s_push (hv:loc[i]?=some (some (.ref n))) (hn:σ.length=n) (he:evM Φ Λ G e false loc (σ++[.list xs])=some (v,σ++[.list xs])) (hl:xs.length < maxLen):evS Φ Λ G (.expr (.meth (.var i q1) .append (.cons e .nil) q2 q3) p) loc (σ++[.list xs])=some (.next,loc,σ++[.list (xs++[v])]) :=
 (s_append hv he (vlist_at hn) hl).trans (by rw [set_at hn])
theorem q_int {x y:Int} {b:Bool} (h:(x==y)=b):cmpop .Eq (.int x) (.int y) σ=some b:=congrArg some h
theorem q_str {x y:List Nat} {b:Bool} (h:(x==y)=b):cmpop .Eq (.str x) (.str y) σ=some b:=congrArg some h
noncomputable def nts (l:List Nat):List V:=l.map fun c=>.int (c:Nat)
noncomputable def zts (l:List Int):List V:=l.map .int
noncomputable def chrs (l:List Nat):List V:=l.map fun c=>.str [c]
theorem lowL_map {β:Type} {f:β→V} (h:∀ x,(f x).low n=true):∀ {l:List β},lowL n (l.map f)=true
 | []=>rfl
 | x :: _=>Bool.and_eq_true_iff.mpr ⟨h x,lowL_map h⟩
theorem strsOf_map {β:Type} {f:β→List Nat}:∀ {l:List β},strsOf (l.map fun x=>V.str (f x))=some (l.map f)
 | []=>rfl
 | x :: l=>(congrArg (Option.map (f x :: ·)) (strsOf_map (f:=f) (l:=l))).trans rfl
theorem joinL_nil:∀ {l:List (List Nat)},joinL [] l=l.flatten
 | []=>rfl
 | [x]=>(List.append_nil x).symm
 | x :: y :: r=>by
  show x++[]++joinL [] (y :: r)=x++(y :: r).flatten
  rw [joinL_nil,List.append_nil]
theorem flatten_one:∀ {l:List Nat},(l.map fun c=>[c]).flatten=l
 | []=>rfl
 | c :: _=>congrArg (c :: ·) flatten_one
theorem j_chrs {l:List Nat} (h:lsV σ v=some (chrs l)) (hl:l.length≤maxLen):methR Λ .join (.str []) 0 [v] σ=some (.str l,σ):=by
 refine bnd h (bnd strsOf_map ?_)
 rw [joinL_nil,flatten_one]
 exact if_pos hl
theorem j_cell {l:List Nat} (h:vlist σ i=some (chrs l)) (hl:l.length≤maxLen):methR Λ .join (.str []) 0 [.ref i] σ=some (.str l,σ):=j_chrs (v:=.ref i) h hl
end
end Mine
namespace Mine
open PySem
theorem bAnd (a b:Nat):Builtin.bitAnd (a:Int) (b:Int)=((a &&& b:Nat):Int):=by
 unfold Builtin.bitAnd
 rw [decide_eq_true (Int.natCast_nonneg a),decide_eq_true (Int.natCast_nonneg b)]
 rfl
theorem bOr (a b:Nat):Builtin.bitOr (a:Int) (b:Int)=((a ||| b:Nat):Int):=by
 unfold Builtin.bitOr
 have h:Builtin.bitAnd (Builtin.bitNot a) (Builtin.bitNot b)=Builtin.bitNot ((a ||| b:Nat):Int):=by
  have h (x:Nat):decide ((0:Int)≤Builtin.bitNot x)=false∧(Builtin.bitNot (Builtin.bitNot x)).toNat=x:=by
   rw [decide_eq_false_iff_not]; unfold Builtin.bitNot; (first | lia | omega)
  unfold Builtin.bitAnd
  rw [(h a).1,(h b).1]
  show Builtin.bitNot _=_
  rw [(h a).2,(h b).2]
 rw [h]
 unfold Builtin.bitNot
 (first | lia | omega)
theorem fdivN (a b:Nat):(a:Int).fdiv b=((a / b:Nat):Int):=Int.fdiv_eq_ediv_of_nonneg _ (Int.natCast_nonneg b)
theorem fmodN (a b:Nat):(a:Int).fmod b=((a % b:Nat):Int):=Int.fmod_eq_emod_of_nonneg _ (Int.natCast_nonneg b)
theorem cpow (a:Nat):∀ k:Nat,((a ^ k:Nat):Int)=(a:Int) ^ k
 | 0=>rfl
 | k+1=>by rw [Nat.pow_succ,Int.pow_succ,Int.natCast_mul,cpow a k]
section
variable {σ:Sto} {x y z:Int} {a b:Nat}
theorem iv {i:Int} (h:x=i):some (V.int x,σ)=some (V.int i,σ):=h▸rfl
theorem o_and:binop .BitAnd (.int (a:Nat)) (.int (b:Nat)) σ=some (.int ((a &&& b:Nat):Int),σ):=iv (bAnd a b)
theorem o_or:binop .BitOr (.int (a:Nat)) (.int (b:Nat)) σ=some (.int ((a ||| b:Nat):Int),σ):=iv (bOr a b)
theorem o_if {c:Bool} {r:Option (V × Sto)} {i:Int} (hc:c=true) (h:x=i):orO (if c then some (V.int x,σ) else none) r=some (.int i,σ):=by rw [hc,h]; rfl
theorem o_mul (hy:small y=true) (h:x*y=z):binop .Mult (.int x) (.int y) σ=some (.int z,σ):=o_if hy h
theorem smallN (h:a < 18446744073709551616):small (a:Int)=true:=decide_eq_true h
theorem o_mulN {c:Nat} (hb:b < 18446744073709551616) (h:a*b=c):binop .Mult (.int (a:Nat)) (.int (b:Nat)) σ=some (.int (c:Nat),σ):=o_mul (smallN hb) (by rw [← h,Int.natCast_mul])
theorem o_div (hy:(y=0||!small y)=false) (h:x.fdiv y=z):binop .FloorDiv (.int x) (.int y) σ=some (.int z,σ):=by
 show orO (if (y=0||!small y)=true then none else some (V.int (x.fdiv y),σ)) _=_
 rw [hy,h]; rfl
theorem o_divN {c:Nat} (hy:((b:Int)=0||!small b)=false) (h:a / b=c):binop .FloorDiv (.int (a:Nat)) (.int (b:Nat)) σ=some (.int (c:Nat),σ):=o_div hy (by rw [fdivN,h])
theorem o_mod (hy:y≠0) (h:x.fmod y=z):binop .Mod (.int x) (.int y) σ=some (.int z,σ):=by
 show orO (if y=0 then none else some (V.int (x.fmod y),σ)) _=_
 rw [if_neg hy,h]; rfl
theorem o_modN {c:Nat} (hy:b≠0) (h:a % b=c):binop .Mod (.int (a:Nat)) (.int (b:Nat)) σ=some (.int (c:Nat),σ):=o_mod (by (first | lia | omega)) (by rw [fmodN,h])
theorem o_pow (hx:small x=true) (hb:b≤1000) (h:x ^ b=z):binop .Pow (.int x) (.int (b:Nat)) σ=some (.int z,σ):=o_if (by rw [hx,decide_eq_true (Int.natCast_nonneg b),decide_eq_true (by (first | lia | omega))]; rfl) h
theorem o_shl {c:Nat} (ha:a < 18446744073709551616) (hb:b≤1000) (h:a*2 ^ b=c):binop .LShift (.int (a:Nat)) (.int (b:Nat)) σ=some (.int (c:Nat),σ) :=
 o_if (by rw [smallN ha,decide_eq_true (Int.natCast_nonneg b),decide_eq_true (by (first | lia | omega))]; rfl) (by rw [← h,Int.natCast_mul,cpow]; rfl)
theorem o_shr {c:Nat} (h:a / 2 ^ b=c):binop .RShift (.int (a:Nat)) (.int (b:Nat)) σ=some (.int (c:Nat),σ):=by
 show orO (if (0:Int)≤b then some (V.int ((a:Int).fdiv (2 ^ (b:Int).toNat)),σ) else none) _=_
 rw [if_pos (Int.natCast_nonneg b),← h,← fdivN,cpow]; rfl
theorem o_str {s t:List Nat} (h:(s++t).length≤maxLen):binop .Add (.str s) (.str t) σ=some (.str (s++t),σ):=by
 show orO (mkStr (s++t) σ) _=_
 rw [show mkStr (s++t) σ=some (.str (s++t),σ) from if_pos h]; rfl
theorem o_is {s t:Ty} {c:Bool} (h:(s.nm==t.nm)=c):cmpop .Is (.ty s) (.ty t) σ=some c:=congrArg some h
section
variable {Φ:Calls} {Λ:Lexer} {G:Nat→Option V} {loc:Loc} {σ1:Sto} {p:Pos} {es:EL} {vs:List V}
theorem r_lst (hs:evEL Φ Λ G es loc σ=some (vs,σ1)) (hl:vs.length≤maxLen):evM Φ Λ G (.list false es p) false loc σ=some (.lst vs,σ1):=r_list hs hl
theorem r_cell (hs:evEL Φ Λ G es loc σ=some (vs,σ1)) (hl:vs.length≤maxLen):evM Φ Λ G (.list true es p) false loc σ=some (.ref σ1.length,σ1++[.list vs]):=r_list hs hl
theorem r_mapl {t:Tg} {it e:E} {x:V} {cs:CS} {β:Type} {f g:β→V} {xs:List β} (hi:evM Φ Λ G it false (clear (cs.own.map (·.1)) loc) σ=some (x,σ)) (hit:iterOf σ x=some (.items (xs.map f),(xs.map f).length)) (hl:xs.length≤maxLen)
  (h:∀ x∈xs,∃ l,bindT t (f x) (clear (cs.own.map (·.1)) loc) σ=some l∧evM Φ Λ G e false l σ=some (g x,σ)):evM Φ Λ G (.comp false e t it .nil .nil cs p) false loc σ=some (.lst (xs.map g),σ):=r_map hi hit hl h
theorem r_filterl {t:Tg} {it e a:E} {x:V} {cs:CS} {β:Type} {f g:β→V} {c:β→Bool} {xs:List β} (hi:evM Φ Λ G it false (clear (cs.own.map (·.1)) loc) σ=some (x,σ)) (hit:iterOf σ x=some (.items (xs.map f),(xs.map f).length)) (hl:xs.length≤maxLen)
  (h:∀ x∈xs,∃ l,bindT t (f x) (clear (cs.own.map (·.1)) loc) σ=some l∧evT Φ Λ G a l σ=some (c x,σ)∧(c x=true→evM Φ Λ G e false l σ=some (g x,σ))):evM Φ Λ G (.comp false e t it (.cons a .nil) .nil cs p) false loc σ=some (.lst ((xs.filter c).map g),σ):=r_filter hi hit hl h
theorem r_compl {t:Tg} {it e:E} {x:V} {cs:CS} {ifs:EL} {cl:CL} {σ2:Sto} {vs ys:List V} {b:Bool} (hi:evM Φ Λ G it false (clear (cs.own.map (·.1)) loc) σ=some (x,σ1)) (hit:iterOf σ1 x=some (.items vs,vs.length))
  (ho:over (compStep t (clear (cs.own.map (·.1)) loc) (fun loc σ=>evIfs Φ Λ G ifs loc σ) (evC Φ Λ G cl fun loc σ acc=>(evM Φ Λ G e false loc σ).bind fun v=>if acc.length < maxLen then some (acc++[v.1],v.2) else none)) vs [] σ1=some (b,ys,σ2)):evM Φ Λ G (.comp false e t it ifs cl cs p) false loc σ=some (.lst ys,σ2):=r_comp hi hit ho
theorem q_in {x y:List Nat} {c:Bool} (h:(subAt x y 0).isSome=c):cmpop .In (.str x) (.str y) σ=some c:=congrArg some h
theorem r_var {i:Nat} {v:V} (h:loc[i]?=some (some v)):evM Φ Λ G (.var i p) false loc σ=some (v,σ):=bnd h rfl
theorem r_int {i:Int}:evM Φ Λ G (.cint i p) false loc σ=some (.int i,σ):=rfl
theorem r_str {s:List Nat}:evM Φ Λ G (.cstr s p) false loc σ=some (.str s,σ):=rfl
theorem r_at {i:Nat} {k:Int} {v w:V} {q1 q2:Pos} (h:loc[i]?=some (some v)) (hs:subV v (.int k) σ=some w):evM Φ Λ G (.sub (.var i q1) (.cint k q2) p) false loc σ=some (w,σ):=r_sub (r_var h) r_int hs
theorem c_sumf {β:Type} {g:β→Nat} {xs:List β}:callB .sum [.lst (xs.map fun k=>.int (g k:Nat))] σ=some (.int ((xs.map g).sum:Nat),σ):=by
 have h:∀ (xs:List β) (a:Nat),sumL (xs.map fun k=>.int (g k:Nat)) (a:Int)=some ((a+(xs.map g).sum:Nat):Int):=by
  intro xs
  induction xs with
  | nil=>exact fun a=>rfl
  | cons x xs ih =>
   intro a
   show sumL _ ((a+g x:Nat):Int)=_
   rw [ih,List.map_cons,List.sum_cons,Nat.add_assoc]
 show (sumL _ ((0:Nat):Int)).map _=_
 rw [h,Nat.zero_add]; rfl
theorem e_some {e:E} {r:V × Sto} (h:evM Φ Λ G e false loc σ=some r):evO Φ Λ G (.some e) loc σ=some r:=h
theorem o_addN {v w:V} (hv:v=.int (a:Nat)) (hw:w=.int (b:Nat)):binop .Add v w σ=some (.int ((a+b:Nat):Int),σ):=hv▸hw▸rfl
end
theorem idx_nat {m k:Nat} (h:k < m):idx m (k:Int)=some k:=by
 unfold idx
 rw [if_pos (Int.natCast_nonneg _),if_pos (by (first | lia | omega))]; rfl
theorem pick_at {l:List V} {k:Nat} {v:V} (h:l[k]?=some v):pick l (k:Int)=some v:=by
 have hk:k < l.length:=by
  rcases Nat.lt_or_ge k l.length with h' | h'
  ·exact h'
  ·rw [List.getElem?_eq_none h'] at h; cases h
 unfold pick
 rw [idx_nat hk]; exact h
theorem f_run {T:Tab} {k n:Nat} {f:Fn} {as:List V} {l0 loc':Loc} {fl:Fl} {σ1:Sto} (hk:(k==T.lx)=false) (hf:T.fns k=some f) (ha:as.length=f.np) (h0:as.map some++List.replicate (f.n - as.length) none=l0) (hb:evSL (phi T n) (lamN T n) T.G f.body l0 σ=some (fl,loc',σ1)) {v:V} (hv:retV fl=some v)
  {r:V × Sto} (h:leave f.fz σ.length v σ1=r):phi T (n+1) k as σ=some r:=f_call hk hf ha (h0▸hb) hv h
theorem sub_lst {l:List V} {k:Nat} {v:V} (h:l[k]?=some v):subV (.lst l) (.int (k:Nat)) σ=some v:=(congrArg (orO · _) (pick_at h)).trans rfl
theorem get_map {β γ:Type} {g:β→γ} {d:β} {l:List β} {k:Nat} (h:k < l.length):(l.map g)[k]?=some (g (l.getD k d)):=by
 rw [List.getElem?_map,List.getD_eq_getElem?_getD,List.getElem?_eq_getElem h]; rfl
theorem j_strs {Λ:Lexer} {β:Type} {f:β→List Nat} {xs:List β} (h:(xs.map f).flatten.length≤maxLen):methR Λ .join (.str []) 0 [.lst (xs.map fun x=>.str (f x))] σ=some (.str (xs.map f).flatten,σ):=by
 show (strsOf (xs.map fun x=>V.str (f x))).bind (fun ss=>if (joinL [] ss).length≤maxLen then some (V.str (joinL [] ss),σ) else none)=_
 rw [strsOf_map]
 show (if (joinL [] (xs.map f)).length≤maxLen then some (V.str (joinL [] (xs.map f)),σ) else none)=_
 rw [joinL_nil,if_pos h]
theorem eqL_strs:∀ {l:List (List Nat)},eqL (l.map .str) (l.map .str)=some true
 | []=>rfl
 | x :: l=>by
  show (some (x==x)).bind (fun a=>(eqL (l.map .str) (l.map .str)).map fun b=>a&&b)=_
  rw [eqL_strs,beq_self_eq_true]; rfl
theorem f_pad {T:Tab} {k n:Nat} {f:Fn} {as as':List V} {loc':Loc} {fl:Fl} {σ1:Sto} (hk:(k==T.lx)=false) (hf:T.fns k=some f) (ha:padded T k f.np as=some as') (hb:evSL (phi T n) (lamN T n) T.G f.body (as'.map some++List.replicate (f.n - as'.length) none) σ=some (fl,loc',σ1)) {v:V} (hv:retV fl=some v)
  {r:V × Sto} (h:leave f.fz σ.length v σ1=r):phi T (n+1) k as σ=some r:=by
 show (if k=T.lx then _ else _)=_
 rw [if_neg (ne_of_beq_false hk)]
 exact bnd hf (bnd ha (bnd hb ((mpd hv).trans (congrArg some h))))
mutual
theorem vlow_up {n m:Nat} (h:n≤m):∀ {v:V},v.low n=true→v.low m=true
 | .ref _,e=>decide_eq_true (Nat.lt_of_lt_of_le (of_decide_eq_true e) h)
 | .tup _,e=>lowL_up h e
 | .lst _,e=>lowL_up h e
 | .none,_ | .bool _,_ | .int _,_ | .str _,_ | .bytes _,_ | .rng ..,_ | .fn _,_ | .bi _,_ | .ty _,_=>rfl
theorem lowL_up {n m:Nat} (h:n≤m):∀ {vs:List V},lowL n vs=true→lowL m vs=true
 | [],_=>rfl
 | _ :: _,e=>Bool.and_eq_true_iff.mpr ⟨vlow_up h (Bool.and_eq_true_iff.mp e).1,lowL_up h (Bool.and_eq_true_iff.mp e).2⟩
end
theorem olow_up {n m:Nat} (h:n≤m):∀ {o:O},o.low n=true→o.low m=true
 | .list _,e=>lowL_up h e
 | .lex ..,e=>Bool.and_eq_true_iff.mpr ⟨decide_eq_true (Nat.lt_of_lt_of_le (of_decide_eq_true (Bool.and_eq_true_iff.mp e).1) h),decide_eq_true (Nat.lt_of_lt_of_le (of_decide_eq_true (Bool.and_eq_true_iff.mp e).2) h)⟩
 | .cit ..,e=>decide_eq_true (Nat.lt_of_lt_of_le (of_decide_eq_true e) h)
 | .scr ..,_=>rfl
variable {Φ:Calls} {Λ:Lexer} {G:Nat→Option V} {loc l2:Loc} {p:Pos} {σ1 σ2:Sto} {n:Nat} {R:Option (Fl × Loc × Sto)} {t:E} {A:SL} {clr:List Nat} {fl:Fl}
noncomputable abbrev whl (Φ:Calls) (Λ:Lexer) (G:Nat→Option V) (t:E) (clr:List Nat) (A:SL) (n:Nat) (loc:Loc) (σ:Sto):Option (Fl × Loc × Sto):=whileN (fun loc σ=>evT Φ Λ G t loc σ) (fun loc σ=>(evSL Φ Λ G A loc σ).map (turn clr)) n loc σ
theorem w_stop (ht:evT Φ Λ G t loc σ=some (false,σ1)):whl Φ Λ G t clr A (n+1) loc σ=some (.next,loc,σ1):=bnd ht rfl
theorem w_turn {l3:Loc} (ht:evT Φ Λ G t loc σ=some (true,σ1)) (hb:evSL Φ Λ G A loc σ1=some (.next,l3,σ2)) (hc:clear clr l3=l2) (h:whl Φ Λ G t clr A n l2 σ2=R):whl Φ Λ G t clr A (n+1) loc σ=R:=by
 subst hc
 exact bnd ht (bnd (mpd hb) h)
theorem range_is:rangeL 0 (b:Int) 1=(List.range b).map fun i:Nat=>(i:Int):=by
 unfold rangeL
 have h:(Builtin.Range.rangeSize 0 (b:Int) 1).toNat=b:=by
  unfold Builtin.Range.rangeSize
  rw [if_pos (by decide)]
  split <;> (first | lia | omega)
 rw [h]
 refine List.map_congr_left fun i ζ=>?_
 rw [Int.mul_one,Int.zero_add]
theorem small_r (h:b≤1048576):smallR (b:Int)=true:=decide_eq_true h
theorem i_range (h:b≤1048576):iterOf σ (.rng 0 (b:Int) 1)=some (.items (nts (List.range b)),(nts (List.range b)).length):=by
 show (if (smallR 0&&smallR (b:Int)&&smallR 1&&(1:Int) != 0)=true then some (It.items ((rangeL 0 (b:Int) 1).map .int),(rangeL 0 (b:Int) 1).length) else none)=_
 rw [small_r h,if_pos (by decide),range_is,List.map_map,nts,List.length_map,List.length_map]; rfl
theorem c_range (h:b≤1048576):callT .range [.int (b:Int)] σ=some (.rng 0 b 1,σ):=by
 show (if smallR (b:Int)=true then some (V.rng 0 b 1) else none).map _=_
 rw [small_r h]; rfl
end
end Mine
namespace Mine
open PySem
section
variable {σ τ:Sto} {text:List Nat} {x pa pb k k':Nat} {l l':Int} {c:Nat} {r:List Nat}
noncomputable def put (text:List Nat) (x pa pb:Nat) (σ:Sto) (k:Nat) (line:Int):Sto:=(σ.set pa (.list [.int (k:Nat)])).set x (.lex text pa line pb)
structure Lx (x pa pb:Nat) (σ:Sto):Prop where
 low:Low σ
 hx:x < σ.length
 ha:pa < σ.length
 hb:pb < σ.length
 ne:pa≠x
 nb:pa≠pb
 nx:x≠pb
theorem put_len:(put text x pa pb σ k l).length=σ.length:=by unfold put; rw [List.length_set,List.length_set]
theorem set_app {i:Nat} {o:O} (h:i < σ.length):(σ++τ).set i o=σ.set i o++τ:=List.set_append_left _ _ h
theorem get_app {i:Nat} (h:i < σ.length):(σ++τ)[i]?=σ[i]?:=List.getElem?_append_left h
theorem get_x (L:Lx x pa pb σ):(put text x pa pb σ k l++τ)[x]?=some (.lex text pa l pb):=by
 rw [get_app (by rw [put_len]; exact L.hx),put,List.getElem?_set_self (by rw [List.length_set]; exact L.hx)]
theorem put_x (L:Lx x pa pb σ):lexI (put text x pa pb σ k l++τ) x=some (text,pa,l,pb):=by unfold lexI; rw [get_x L]; rfl
theorem put_a (L:Lx x pa pb σ):vlist (put text x pa pb σ k l++τ) pa=some [.int (k:Nat)]:=by
 unfold vlist
 rw [get_app (by rw [put_len]; exact L.ha),put,List.getElem?_set_ne L.ne.symm,List.getElem?_set_self L.ha]
theorem put_b (L:Lx x pa pb σ):vlist (put text x pa pb σ k l++τ) pb=vlist σ pb:=by
 unfold vlist
 rw [get_app (by rw [put_len]; exact L.hb),put,List.getElem?_set_ne L.nx,List.getElem?_set_ne L.nb]
theorem put_x0 (L:Lx x pa pb σ):lexI (put text x pa pb σ k l) x=some (text,pa,l,pb):=(congrArg (lexI · x) (List.append_nil _)).symm.trans (put_x L)
theorem put_b0 (L:Lx x pa pb σ):vlist (put text x pa pb σ k l) pb=vlist σ pb:=(congrArg (vlist · pb) (List.append_nil _)).symm.trans (put_b L)
theorem stoLow_set {m i:Nat} {o:O} (h:stoLow m σ=true) (ho:o.low m=true):stoLow m (σ.set i o)=true:=by
 unfold stoLow at *
 rw [List.all_eq_true] at *
 exact fun y hy=>(List.mem_or_eq_of_mem_set hy).elim (h y) fun e=>e▸ho
theorem put_low (L:Lx x pa pb σ):Low (put text x pa pb σ k l):=by
 unfold Low
 rw [put_len]
 exact stoLow_set (stoLow_set L.low rfl) (Bool.and_eq_true_iff.mpr ⟨decide_eq_true L.ha,decide_eq_true L.hb⟩)
theorem put_next (L:Lx x pa pb σ) {v:V} (hv:v=.int (k':Nat)):(put text x pa pb σ k l++τ).set pa (.list [v])=put text x pa pb σ k' l++τ:=by
 rw [set_app (by rw [put_len]; exact L.ha),hv]
 unfold put
 rw [List.set_comm _ _ L.ne.symm,List.set_set]
theorem put_line (L:Lx x pa pb σ):(put text x pa pb σ k l++τ).set x (.lex text pa l' pb)=put text x pa pb σ k l'++τ:=by
 rw [set_app (by rw [put_len]; exact L.hx)]
 unfold put
 rw [List.set_set]
theorem put_wait (L:Lx x pa pb σ) {o:O}:(put text x pa pb σ k l).set pb o=put text x pa pb (σ.set pb o) k l:=by
 unfold put
 rw [List.set_comm _ _ L.nb.symm,List.set_comm _ _ L.nx.symm]
theorem m_append {Λ:Lexer} {i:Nat} {v:V} {xs:List V} (h:vlist σ i=some xs) (hl:xs.length < maxLen):methR Λ .append (.ref i) 1 [v] σ=some (.none,σ.set i (.list (xs++[v]))):=bnd h (if_pos hl)
theorem m_pop {Λ:Lexer} {i:Nat} {v:V} {xs:List V} (h:vlist σ i=some (v :: xs)):methR Λ .pop (.ref i) 1 [.int 0] σ=some (v,σ.set i (.list xs)):=bnd h rfl
noncomputable def cnt (r:List Nat):Int:=((r.count 10:Nat):Int)
theorem cnt_10:cnt (10 :: r)=cnt r+1:=by unfold cnt; rw [List.count_cons_self]; rfl
theorem cnt_ne (h:c≠10):cnt (c :: r)=cnt r:=by unfold cnt; rw [List.count_cons_of_ne h]
noncomputable abbrev atR (text:List Nat) (x pa pb:Nat) (σ:Sto) (r:List Nat):Sto:=put text x pa pb σ (text.length - r.length) (1+cnt text - cnt r)
theorem suf_tail (h:c :: r <:+ text):r <:+ text:=List.IsSuffix.trans (List.suffix_cons c r) h
theorem suf_app:∀ {u:List Nat},u++r <:+ text→r <:+ text
 | [],h=>h
 | _ :: _,h=>suf_app (suf_tail h)
theorem read_cons (L:Lx x pa pb σ) (h:c :: r <:+ text):readC x (put text x pa pb σ (text.length - (c :: r).length) l++τ)=some (.str [c],put text x pa pb σ (text.length - r.length) l++τ):=by
 have hl:=h.length_le
 rw [List.length_cons] at hl
 have hd:text.drop (text.length - (c :: r).length)=c :: r:=(List.suffix_iff_eq_drop.mp h).symm
 have hk:text.length - (c :: r).length+1=text.length - r.length:=by rw [List.length_cons]; (first | lia | omega)
 have hp:pieceAt text ((text.length - (c :: r).length:Nat):Int)=[c]:=by
  unfold pieceAt cut
  rw [Int.toNat_natCast,Nat.min_eq_left (Nat.sub_le ..),hk,Nat.min_eq_left (Nat.sub_le ..),List.drop_take,hd,List.length_cons,show text.length - r.length - (text.length - (r.length+1))=1 by (first | lia | omega)]; rfl
 refine bnd (put_x L) (bnd (put_a L) ((if_pos (e:=none) (Int.natCast_nonneg (text.length - (c :: r).length))).trans ?_))
 show some (V.str (pieceAt text ((text.length - (c :: r).length:Nat):Int)),_)=_
 rw [hp,put_next L (congrArg V.int (show _=((text.length - r.length:Nat):Int) by rw [← hk]; rfl))]
theorem read_nil (L:Lx x pa pb σ):readC x (put text x pa pb σ text.length l++τ)=some (.str [],put text x pa pb σ text.length l++τ):=by
 have hp:pieceAt text (text.length:Int)=[]:=by
  unfold pieceAt cut
  rw [Int.toNat_natCast,Nat.min_self,Nat.min_eq_right (Nat.le_succ _),List.take_length,List.drop_length]
 refine bnd (put_x L) (bnd (put_a L) ((if_pos (e:=none) (Int.natCast_nonneg text.length)).trans ?_))
 show some (V.str (pieceAt text (text.length:Int)),_)=_
 rw [hp]
 exact congrArg (fun s=>some (V.str [],s)) (put_next L (congrArg V.int (Int.add_zero _)))
end
end Mine
namespace Mine
open PySem PySem.W
noncomputable abbrev PW:Program:=PySem.Challenge.pw_oy0095_05
noncomputable def bodyOf (p:Program) (n:String):List Stmt:=match p.main.body.find? (fun s=>match s with
  | .FunctionDef m ..=>m==nS n
  | _=>false) with
 | some (.FunctionDef _ _ b _ _ _ _ _ _ _)=>b
 | _=>[]
noncomputable def rawGo:List Nat→Stmt→Stmt
 | 0 :: i :: r,.If _ a _ _=>rawGo r (a.getD i (.Pass ⟨0,0,0,0⟩))
 | 1 :: i :: r,.If _ _ b _=>rawGo r (b.getD i (.Pass ⟨0,0,0,0⟩))
 | _,s=>s
noncomputable def rawAt (p:Program) (n:String):List Nat→Stmt
 | i :: r=>rawGo r ((bodyOf p n).getD i (.Pass ⟨0,0,0,0⟩))
 | []=>.Pass ⟨0,0,0,0⟩
noncomputable def gt:List Str:=[nS "len",nS "iter",nS "enumerate",nS "_filemode_table",nS "S_IFMT",nS "type",nS "bytes",nS "bytearray",nS "_wall",nS "bool",nS "int",nS "float",nS "complex",nS "str",nS "list",nS "tuple",nS "dict",nS "set",nS "frozenset",nS "range",nS "_buffer",nS "_truth",nS "_B64",nS "b2a_base64",nS "_law_signs",nS "_law_led_on",nS "filemode",nS "sum",nS "_law_shown",nS "_law_numbers",nS "S_IMODE",nS "b64encode",nS "chr",nS "_law_written",nS "_law_lexer",nS "_law_lacking",nS "_law_pieces",nS "_law_counted"]
noncomputable def b_S_IMODE:SL :=
 (.cons (.ret (.bin .BitAnd (.var 0 ⟨6,11,6,15⟩) (.cint 4095 ⟨6,18,6,22⟩) ⟨6,11,6,22⟩) ⟨6,4,6,22⟩)
 .nil)
noncomputable def f_S_IMODE:Fn:={ tb:=[nS "mode"],vis:=[(0,false)],wv:=[0],gl:=[],n:=1,np:=1,fz:=true,body:=b_S_IMODE }
noncomputable def b_S_IFMT:SL :=
 (.cons (.ret (.bin .BitAnd (.var 0 ⟨8,11,8,15⟩) (.cint 61440 ⟨8,18,8,23⟩) ⟨8,11,8,23⟩) ⟨8,4,8,23⟩)
 .nil)
noncomputable def f_S_IFMT:Fn:={ tb:=[nS "mode"],vis:=[(0,false)],wv:=[0],gl:=[],n:=1,np:=1,fz:=true,body:=b_S_IFMT }
noncomputable def b_filemode:SL :=
 (.cons (.assign (.name 1 ⟨30,4,30,8⟩) (.list true .nil ⟨30,11,30,13⟩) ⟨30,4,30,13⟩)
 (.cons (.enum [2,3,4,5] [(2,⟨31,8,31,13⟩),(3,⟨31,15,31,20⟩)] ⟨31,8,31,20⟩ 2 ⟨31,24,31,33⟩ (.glob 3 ⟨31,34,31,49⟩)
 (.cons (.loop [4,5] (.tup [(4,⟨32,12,32,15⟩),(5,⟨32,17,32,21⟩)] ⟨32,12,32,21⟩) (.var 3 ⟨32,25,32,30⟩)
 (.cons (.cond (.cmp .Eq (.var 2 ⟨33,15,33,20⟩) (.cint 0 ⟨33,24,33,25⟩) ⟨33,15,33,25⟩)
 (.cons (.cond (.cmp .Eq (.call 4 ⟨34,19,34,25⟩ (.cons (.var 0 ⟨34,26,34,30⟩) .nil) ⟨34,19,34,31⟩) (.var 4 ⟨34,35,34,38⟩) ⟨34,19,34,38⟩)
 (.cons (.expr (.meth (.var 1 ⟨35,20,35,24⟩) .append (.cons (.var 5 ⟨35,32,35,36⟩) .nil) ⟨35,20,35,31⟩ ⟨35,20,35,37⟩) ⟨35,20,35,37⟩)
 (.cons (.brk ⟨36,20,36,25⟩)
 .nil))
 .nil ⟨34,16,36,25⟩)
 .nil)
 (.cons (.cond (.cmp .Eq (.bin .BitAnd (.var 0 ⟨37,17,37,21⟩) (.var 4 ⟨37,24,37,27⟩) ⟨37,17,37,27⟩) (.var 4 ⟨37,31,37,34⟩) ⟨37,17,37,34⟩)
 (.cons (.expr (.meth (.var 1 ⟨38,16,38,20⟩) .append (.cons (.var 5 ⟨38,28,38,32⟩) .nil) ⟨38,16,38,27⟩ ⟨38,16,38,33⟩) ⟨38,16,38,33⟩)
 (.cons (.brk ⟨39,16,39,21⟩)
 .nil))
 .nil ⟨37,12,39,21⟩)
 .nil) ⟨33,12,39,21⟩)
 .nil)
 (.cons (.cond (.cmp .Eq (.var 2 ⟨41,15,41,20⟩) (.cint 0 ⟨41,24,41,25⟩) ⟨41,15,41,25⟩)
 (.cons (.expr (.meth (.var 1 ⟨42,16,42,20⟩) .append (.cons (.cstr [63] ⟨42,28,42,31⟩) .nil) ⟨42,16,42,27⟩ ⟨42,16,42,32⟩) ⟨42,16,42,32⟩)
 .nil)
 (.cons (.expr (.meth (.var 1 ⟨44,16,44,20⟩) .append (.cons (.cstr [45] ⟨44,28,44,31⟩) .nil) ⟨44,16,44,27⟩ ⟨44,16,44,32⟩) ⟨44,16,44,32⟩)
 .nil) ⟨41,12,44,32⟩)
 .nil) ⟨32,8,44,32⟩)
 .nil)
 .nil ⟨31,24,31,50⟩ ⟨31,4,44,32⟩)
 (.cons (.ret (.meth (.cstr [] ⟨45,11,45,13⟩) .join (.cons (.var 1 ⟨45,19,45,23⟩) .nil) ⟨45,11,45,18⟩ ⟨45,11,45,24⟩) ⟨45,4,45,24⟩)
 .nil)))
noncomputable def f_filemode:Fn:={ tb:=[nS "mode",nS "perm",nS "index",nS "table",nS "bit",nS "char"],vis:=[(0,false),(1,false),(2,false),(3,false),(4,false),(5,false)],wv:=[0,1,2,3,4,5],gl:=[2,3,4],n:=6,np:=1,fz:=true,body:=b_filemode }
noncomputable def b__buffer:SL :=
 (.cons (.assign (.name 1 ⟨48,4,48,5⟩) (.call 5 ⟨48,8,48,12⟩ (.cons (.var 0 ⟨48,13,48,17⟩) .nil) ⟨48,8,48,18⟩) ⟨48,4,48,18⟩)
 (.cons (.cond (.cmp .Is (.var 1 ⟨49,7,49,8⟩) (.glob 6 ⟨49,12,49,17⟩) ⟨49,7,49,17⟩)
 (.cons (.ret (.var 0 ⟨50,15,50,19⟩) ⟨50,8,50,19⟩)
 .nil)
 .nil ⟨49,4,50,19⟩)
 (.cons (.cond (.cmp .Is (.var 1 ⟨51,7,51,8⟩) (.glob 7 ⟨51,12,51,21⟩) ⟨51,7,51,21⟩)
 (.cons (.ret (.call 6 ⟨52,15,52,20⟩ (.cons (.var 0 ⟨52,21,52,25⟩) .nil) ⟨52,15,52,26⟩) ⟨52,8,52,26⟩)
 .nil)
 .nil ⟨51,4,52,26⟩)
 (.cons (.expr (.call 8 ⟨53,4,53,9⟩ (.cons (.cint 0 ⟨53,10,53,11⟩) .nil) ⟨53,4,53,12⟩) ⟨53,4,53,12⟩)
 .nil))))
noncomputable def f__buffer:Fn:={ tb:=[nS "data",nS "t"],vis:=[(0,false),(1,false)],wv:=[0,1],gl:=[5,6,7,8],n:=2,np:=1,fz:=true,body:=b__buffer }
noncomputable def b__truth:SL :=
 (.cons (.assign (.name 1 ⟨55,4,55,5⟩) (.call 5 ⟨55,8,55,12⟩ (.cons (.var 0 ⟨55,13,55,14⟩) .nil) ⟨55,8,55,15⟩) ⟨55,4,55,15⟩)
 (.cons (.cond (.boolop .Or (.cons (.cmp .Is (.var 0 ⟨56,7,56,8⟩) (.cnone ⟨56,12,56,16⟩) ⟨56,7,56,16⟩) (.cons (.cmp .Is (.var 1 ⟨56,20,56,21⟩) (.glob 9 ⟨56,25,56,29⟩) ⟨56,20,56,29⟩) (.cons (.cmp .Is (.var 1 ⟨56,33,56,34⟩) (.glob 10 ⟨56,38,56,41⟩) ⟨56,33,56,41⟩) (.cons (.cmp .Is (.var 1 ⟨56,46,56,47⟩) (.glob 11 ⟨56,51,56,56⟩) ⟨56,46,56,56⟩) (.cons (.cmp .Is (.var 1 ⟨56,62,56,63⟩) (.glob 12 ⟨56,67,56,74⟩) ⟨56,62,56,74⟩) (.cons (.cmp .Is (.var 1 ⟨56,80,56,81⟩) (.glob 13 ⟨56,85,56,88⟩) ⟨56,80,56,88⟩) (.cons (.cmp .Is (.var 1 ⟨56,94,56,95⟩) (.glob 6 ⟨56,99,56,104⟩) ⟨56,94,56,104⟩) (.cons (.cmp .Is (.var 1 ⟨56,110,56,111⟩) (.glob 7 ⟨56,115,56,124⟩) ⟨56,110,56,124⟩) (.cons (.cmp .Is (.var 1 ⟨56,130,56,131⟩) (.glob 14 ⟨56,135,56,139⟩) ⟨56,130,56,139⟩) (.cons (.cmp .Is (.var 1 ⟨56,145,56,146⟩) (.glob 15 ⟨56,150,56,155⟩) ⟨56,145,56,155⟩) (.cons (.cmp .Is (.var 1 ⟨56,161,56,162⟩) (.glob 16 ⟨56,166,56,170⟩) ⟨56,161,56,170⟩) (.cons (.cmp .Is (.var 1 ⟨56,176,56,177⟩) (.glob 17 ⟨56,181,56,184⟩) ⟨56,176,56,184⟩) (.cons (.cmp .Is (.var 1 ⟨56,190,56,191⟩) (.glob 18 ⟨56,195,56,204⟩) ⟨56,190,56,204⟩) (.cons (.cmp .Is (.var 1 ⟨56,210,56,211⟩) (.glob 19 ⟨56,215,56,220⟩) ⟨56,210,56,220⟩) .nil)))))))))))))) ⟨56,7,56,221⟩)
 (.cons (.ret (.ife (.var 0 ⟨57,23,57,24⟩) (.cbool true ⟨57,15,57,19⟩) (.cbool false ⟨57,30,57,35⟩) ⟨57,15,57,35⟩) ⟨57,8,57,35⟩)
 .nil)
 .nil ⟨56,4,57,35⟩)
 (.cons (.expr (.call 8 ⟨58,4,58,9⟩ (.cons (.cint 1 ⟨58,10,58,11⟩) .nil) ⟨58,4,58,12⟩) ⟨58,4,58,12⟩)
 .nil)))
noncomputable def f__truth:Fn:={ tb:=[nS "x",nS "t"],vis:=[(0,false),(1,false)],wv:=[0,1],gl:=[5,9,10,11,12,13,6,7,14,15,16,17,18,19,8],n:=2,np:=1,fz:=true,body:=b__truth }
noncomputable def b_b2a_base64:SL :=
 (.cons (.assign (.name 2 ⟨61,4,61,12⟩) (.call 20 ⟨61,15,61,22⟩ (.cons (.var 0 ⟨61,23,61,27⟩) .nil) ⟨61,15,61,28⟩) ⟨61,4,61,28⟩)
 (.cons (.assign (.name 1 ⟨62,4,62,11⟩) (.call 21 ⟨62,14,62,20⟩ (.cons (.var 1 ⟨62,21,62,28⟩) .nil) ⟨62,14,62,29⟩) ⟨62,4,62,29⟩)
 (.cons (.assign (.name 3 ⟨63,4,63,7⟩) (.list true .nil ⟨63,10,63,12⟩) ⟨63,4,63,12⟩)
 (.cons (.assign (.name 4 ⟨64,4,64,12⟩) (.cint 0 ⟨64,15,64,16⟩) ⟨64,4,64,16⟩)
 (.cons (.assign (.name 5 ⟨65,4,65,12⟩) (.cint 0 ⟨65,15,65,16⟩) ⟨65,4,65,16⟩)
 (.cons (.loop [6] (.name 6 ⟨66,8,66,9⟩) (.var 2 ⟨66,13,66,21⟩)
 (.cons (.assign (.name 5 ⟨67,8,67,16⟩) (.bin .BitAnd (.bin .BitOr (.bin .LShift (.var 5 ⟨67,20,67,28⟩) (.cint 8 ⟨67,32,67,33⟩) ⟨67,20,67,33⟩) (.var 6 ⟨67,36,67,37⟩) ⟨67,20,67,37⟩) (.cint 65535 ⟨67,41,67,46⟩) ⟨67,19,67,46⟩) ⟨67,8,67,46⟩)
 (.cons (.assign (.name 4 ⟨68,8,68,16⟩) (.bin .Add (.var 4 ⟨68,19,68,27⟩) (.cint 8 ⟨68,30,68,31⟩) ⟨68,19,68,31⟩) ⟨68,8,68,31⟩)
 (.cons (.whil 1000000 [] (.cmp .GtE (.var 4 ⟨69,14,69,22⟩) (.cint 6 ⟨69,26,69,27⟩) ⟨69,14,69,27⟩)
 (.cons (.expr (.meth (.var 3 ⟨70,12,70,15⟩) .append (.cons (.sub (.glob 22 ⟨70,23,70,27⟩) (.bin .BitAnd (.bin .RShift (.var 5 ⟨70,28,70,36⟩) (.bin .Sub (.var 4 ⟨70,40,70,48⟩) (.cint 6 ⟨70,51,70,52⟩) ⟨70,40,70,52⟩) ⟨70,28,70,52⟩) (.cint 63 ⟨70,55,70,57⟩) ⟨70,28,70,57⟩) ⟨70,23,70,58⟩) .nil) ⟨70,12,70,22⟩ ⟨70,12,70,59⟩) ⟨70,12,70,59⟩)
 (.cons (.assign (.name 4 ⟨71,12,71,20⟩) (.bin .Sub (.var 4 ⟨71,23,71,31⟩) (.cint 6 ⟨71,34,71,35⟩) ⟨71,23,71,35⟩) ⟨71,12,71,35⟩)
 .nil)) ⟨69,8,71,35⟩)
 .nil)))
 .nil ⟨66,4,71,35⟩)
 (.cons (.cond (.cmp .Eq (.var 4 ⟨72,7,72,15⟩) (.cint 2 ⟨72,19,72,20⟩) ⟨72,7,72,20⟩)
 (.cons (.expr (.meth (.var 3 ⟨73,8,73,11⟩) .append (.cons (.sub (.glob 22 ⟨73,19,73,23⟩) (.bin .LShift (.bin .BitAnd (.var 5 ⟨73,25,73,33⟩) (.cint 3 ⟨73,36,73,37⟩) ⟨73,25,73,37⟩) (.cint 4 ⟨73,42,73,43⟩) ⟨73,24,73,43⟩) ⟨73,19,73,44⟩) .nil) ⟨73,8,73,18⟩ ⟨73,8,73,45⟩) ⟨73,8,73,45⟩)
 (.cons (.expr (.meth (.var 3 ⟨74,8,74,11⟩) .append (.cons (.cint 61 ⟨74,19,74,21⟩) .nil) ⟨74,8,74,18⟩ ⟨74,8,74,22⟩) ⟨74,8,74,22⟩)
 (.cons (.expr (.meth (.var 3 ⟨75,8,75,11⟩) .append (.cons (.cint 61 ⟨75,19,75,21⟩) .nil) ⟨75,8,75,18⟩ ⟨75,8,75,22⟩) ⟨75,8,75,22⟩)
 .nil)))
 (.cons (.cond (.cmp .Eq (.var 4 ⟨76,9,76,17⟩) (.cint 4 ⟨76,21,76,22⟩) ⟨76,9,76,22⟩)
 (.cons (.expr (.meth (.var 3 ⟨77,8,77,11⟩) .append (.cons (.sub (.glob 22 ⟨77,19,77,23⟩) (.bin .LShift (.bin .BitAnd (.var 5 ⟨77,25,77,33⟩) (.cint 15 ⟨77,36,77,38⟩) ⟨77,25,77,38⟩) (.cint 2 ⟨77,43,77,44⟩) ⟨77,24,77,44⟩) ⟨77,19,77,45⟩) .nil) ⟨77,8,77,18⟩ ⟨77,8,77,46⟩) ⟨77,8,77,46⟩)
 (.cons (.expr (.meth (.var 3 ⟨78,8,78,11⟩) .append (.cons (.cint 61 ⟨78,19,78,21⟩) .nil) ⟨78,8,78,18⟩ ⟨78,8,78,22⟩) ⟨78,8,78,22⟩)
 .nil))
 .nil ⟨76,4,78,22⟩)
 .nil) ⟨72,4,78,22⟩)
 (.cons (.cond (.var 1 ⟨79,7,79,14⟩)
 (.cons (.expr (.meth (.var 3 ⟨80,8,80,11⟩) .append (.cons (.cint 10 ⟨80,19,80,21⟩) .nil) ⟨80,8,80,18⟩ ⟨80,8,80,22⟩) ⟨80,8,80,22⟩)
 .nil)
 .nil ⟨79,4,80,22⟩)
 (.cons (.ret (.call 6 ⟨81,11,81,16⟩ (.cons (.var 3 ⟨81,17,81,20⟩) .nil) ⟨81,11,81,21⟩) ⟨81,4,81,21⟩)
 .nil)))))))))
noncomputable def f_b2a_base64:Fn:={ tb:=[nS "data",nS "newline",nS "bin_data",nS "out",nS "leftbits",nS "leftchar",nS "b"],vis:=[(0,false),(1,false),(2,false),(3,false),(4,false),(5,false),(6,false)],wv:=[0,1,2,3,4,5,6],gl:=[20,21,22,6],n:=7,np:=2,fz:=true,body:=b_b2a_base64 }
noncomputable def b_b64encode:SL :=
 (.cons (.assign (.name 2 ⟨84,4,84,11⟩) (.callkw 23 ⟨84,14,84,24⟩ (.cons (.var 0 ⟨84,25,84,26⟩) .nil) (nS "newline") (.cbool false ⟨84,36,84,41⟩) ⟨84,28,84,41⟩ ⟨84,14,84,42⟩) ⟨84,4,84,42⟩)
 (.cons (.cond (.cmp .IsNot (.var 1 ⟨85,7,85,15⟩) (.cnone ⟨85,23,85,27⟩) ⟨85,7,85,27⟩)
 (.cons (.raw (rawAt PW "b64encode" [1,0,0]))
 (.cons (.raw (rawAt PW "b64encode" [1,0,1]))
 .nil))
 .nil ⟨85,4,87,66⟩)
 (.cons (.ret (.var 2 ⟨88,11,88,18⟩) ⟨88,4,88,18⟩)
 .nil)))
noncomputable def f_b64encode:Fn:={ tb:=[nS "s",nS "altchars",nS "encoded"],vis:=[(0,false),(1,false),(2,false)],wv:=[0,1,2],gl:=[23],n:=3,np:=2,fz:=true,body:=b_b64encode }
noncomputable def b__read_char:SL :=
 (.cons (.assign (.name 1 ⟨99,8,99,10⟩) (.readc (.var 0 ⟨99,13,99,17⟩) ⟨99,13,99,26⟩ ⟨99,13,99,31⟩ ⟨99,32,99,33⟩ ⟨99,13,99,34⟩) ⟨99,8,99,34⟩)
 (.cons (.cond (.cmp .Eq (.var 1 ⟨100,11,100,13⟩) (.cstr [10] ⟨100,17,100,21⟩) ⟨100,11,100,21⟩)
 (.cons (.inc (.var 0 ⟨101,12,101,16⟩) ⟨101,12,101,23⟩ ⟨101,27,101,28⟩ ⟨101,12,101,28⟩)
 .nil)
 .nil ⟨100,8,101,28⟩)
 (.cons (.ret (.var 1 ⟨102,15,102,17⟩) ⟨102,8,102,17⟩)
 .nil)))
noncomputable def f__read_char:Fn:={ tb:=[nS "self",nS "ch"],vis:=[(0,false),(1,false)],wv:=[0,1],gl:=[],n:=2,np:=1,fz:=true,body:=b__read_char }
noncomputable def b_get_token:SL :=
 (.cons (.cond (.attr (.var 0 ⟨105,11,105,15⟩) .pushback ⟨105,11,105,24⟩)
 (.cons (.ret (.meth (.attr (.var 0 ⟨106,19,106,23⟩) .pushback ⟨106,19,106,32⟩) .pop (.cons (.cint 0 ⟨106,37,106,38⟩) .nil) ⟨106,19,106,36⟩ ⟨106,19,106,39⟩) ⟨106,12,106,39⟩)
 .nil)
 .nil ⟨105,8,106,39⟩)
 (.cons (.assign (.name 1 ⟨107,8,107,13⟩) (.cstr [] ⟨107,16,107,18⟩) ⟨107,8,107,18⟩)
 (.cons (.assign (.name 2 ⟨108,8,108,13⟩) (.fit 1 (.var 0 ⟨108,21,108,25⟩) ⟨108,16,108,20⟩ ⟨108,21,108,36⟩ ⟨108,38,108,40⟩ ⟨108,16,108,41⟩) ⟨108,8,108,41⟩)
 (.cons (.fitr 1000000 3 ⟨109,12,109,14⟩ (.var 2 ⟨109,18,109,23⟩)
 (.cons (.cond (.cmp .In (.var 3 ⟨110,15,110,17⟩) (.attr (.var 0 ⟨110,21,110,25⟩) .whitespace ⟨110,21,110,36⟩) ⟨110,15,110,36⟩)
 (.cons (.cont ⟨111,16,111,24⟩)
 .nil)
 .nil ⟨110,12,111,24⟩)
 (.cons (.cond (.cmp .Eq (.var 3 ⟨112,15,112,17⟩) (.cstr [34] ⟨112,21,112,24⟩) ⟨112,15,112,24⟩)
 (.cons (.fitr 1000000 3 ⟨113,20,113,22⟩ (.var 2 ⟨113,26,113,31⟩)
 (.cons (.cond (.cmp .Eq (.var 3 ⟨114,23,114,25⟩) (.cstr [34] ⟨114,29,114,32⟩) ⟨114,23,114,32⟩)
 (.cons (.ret (.var 1 ⟨115,31,115,36⟩) ⟨115,24,115,36⟩)
 .nil)
 (.cons (.cond (.cmp .Eq (.var 3 ⟨116,25,116,27⟩) (.cstr [92] ⟨116,31,116,35⟩) ⟨116,25,116,35⟩)
 (.cons (.assign (.name 3 ⟨117,24,117,26⟩) (.meth (.var 0 ⟨117,29,117,33⟩) .read_char .nil ⟨117,29,117,44⟩ ⟨117,29,117,46⟩) ⟨117,24,117,46⟩)
 .nil)
 .nil ⟨116,20,117,46⟩)
 .nil) ⟨114,20,117,46⟩)
 (.cons (.aug 1 ⟨118,20,118,25⟩ .Add (.var 3 ⟨118,29,118,31⟩) ⟨118,20,118,31⟩)
 .nil))
 .nil ⟨113,16,118,31⟩)
 .nil)
 (.cons (.cond (.cmp .Eq (.var 3 ⟨120,19,120,21⟩) (.cstr [92] ⟨120,25,120,29⟩) ⟨120,19,120,29⟩)
 (.cons (.assign (.name 3 ⟨121,20,121,22⟩) (.meth (.var 0 ⟨121,25,121,29⟩) .read_char .nil ⟨121,25,121,40⟩ ⟨121,25,121,42⟩) ⟨121,20,121,42⟩)
 .nil)
 .nil ⟨120,16,121,42⟩)
 (.cons (.aug 1 ⟨122,16,122,21⟩ .Add (.var 3 ⟨122,25,122,27⟩) ⟨122,16,122,27⟩)
 (.cons (.fitr 1000000 3 ⟨123,20,123,22⟩ (.var 2 ⟨123,26,123,31⟩)
 (.cons (.cond (.cmp .In (.var 3 ⟨124,23,124,25⟩) (.attr (.var 0 ⟨124,29,124,33⟩) .whitespace ⟨124,29,124,44⟩) ⟨124,23,124,44⟩)
 (.cons (.ret (.var 1 ⟨125,31,125,36⟩) ⟨125,24,125,36⟩)
 .nil)
 (.cons (.cond (.cmp .Eq (.var 3 ⟨126,25,126,27⟩) (.cstr [92] ⟨126,31,126,35⟩) ⟨126,25,126,35⟩)
 (.cons (.assign (.name 3 ⟨127,24,127,26⟩) (.meth (.var 0 ⟨127,29,127,33⟩) .read_char .nil ⟨127,29,127,44⟩ ⟨127,29,127,46⟩) ⟨127,24,127,46⟩)
 .nil)
 .nil ⟨126,20,127,46⟩)
 .nil) ⟨124,20,127,46⟩)
 (.cons (.aug 1 ⟨128,20,128,25⟩ .Add (.var 3 ⟨128,29,128,31⟩) ⟨128,20,128,31⟩)
 .nil))
 .nil ⟨123,16,128,31⟩)
 .nil))) ⟨112,12,128,31⟩)
 .nil))
 .nil ⟨109,8,128,31⟩)
 (.cons (.ret (.var 1 ⟨129,15,129,20⟩) ⟨129,8,129,20⟩)
 .nil)))))
noncomputable def f_get_token:Fn:={ tb:=[nS "self",nS "token",nS "fiter",nS "ch"],vis:=[(0,false),(1,false),(2,false),(3,false)],wv:=[0,1,2,3],gl:=[1],n:=4,np:=1,fz:=true,body:=b_get_token }
noncomputable def b_push_token:SL :=
 (.cons (.expr (.meth (.attr (.var 0 ⟨132,8,132,12⟩) .pushback ⟨132,8,132,21⟩) .append (.cons (.var 1 ⟨132,29,132,34⟩) .nil) ⟨132,8,132,28⟩ ⟨132,8,132,35⟩) ⟨132,8,132,35⟩)
 .nil)
noncomputable def f_push_token:Fn:={ tb:=[nS "self",nS "token"],vis:=[(0,false),(1,false)],wv:=[0,1],gl:=[],n:=2,np:=2,fz:=true,body:=b_push_token }
noncomputable def b__law_signs:SL :=
 (.cons (.ret (.cstr [65,66,67,68,69,70,71,72,73,74,75,76,77,78,79,80,81,82,83,84,85,86,87,88,89,90,97,98,99,100,101,102,103,104,105,106,107,108,109,110,111,112,113,114,115,116,117,118,119,120,121,122,48,49,50,51,52,53,54,55,56,57,43,47] ⟨135,11,135,77⟩) ⟨135,4,135,77⟩)
 .nil)
noncomputable def f__law_signs:Fn:={ tb:=[],vis:=[],wv:=[],gl:=[],n:=0,np:=0,fz:=true,body:=b__law_signs }
noncomputable def b__law_numbers:SL :=
 (.cons (.assign (.name 1 ⟨137,4,137,11⟩) (.list true (.cons (.cint 1214421 ⟨137,15,137,22⟩) (.cons (.cint 1460198 ⟨137,24,137,31⟩) .nil)) ⟨137,14,137,32⟩) ⟨137,4,137,32⟩)
 (.cons (.loop [2] (.name 2 ⟨138,8,138,9⟩) (.call 19 ⟨138,13,138,18⟩ (.cons (.call 0 ⟨138,19,138,22⟩ (.cons (.var 0 ⟨138,23,138,29⟩) .nil) ⟨138,19,138,30⟩) .nil) ⟨138,13,138,31⟩)
 (.cons (.augSub (.var 1 ⟨139,8,139,15⟩) (.bin .Mod (.var 2 ⟨139,16,139,17⟩) (.cint 2 ⟨139,20,139,21⟩) ⟨139,16,139,21⟩) ⟨139,8,139,22⟩ .Add (.sub (.var 0 ⟨139,26,139,32⟩) (.var 2 ⟨139,33,139,34⟩) ⟨139,26,139,35⟩) ⟨139,8,139,35⟩)
 .nil)
 .nil ⟨138,4,139,35⟩)
 (.cons (.ret (.var 1 ⟨140,11,140,18⟩) ⟨140,4,140,18⟩)
 .nil)))
noncomputable def f__law_numbers:Fn:={ tb:=[nS "script",nS "numbers",nS "k"],vis:=[(0,false),(1,false),(2,false)],wv:=[0,1,2],gl:=[19,0],n:=3,np:=1,fz:=true,body:=b__law_numbers }
noncomputable def b__law_written:SL :=
 (.cons (.assign (.name 2 ⟨142,4,142,9⟩) (.bin .FloorDiv (.var 1 ⟨142,12,142,18⟩) (.cint 4 ⟨142,22,142,23⟩) ⟨142,12,142,23⟩) ⟨142,4,142,23⟩)
 (.cons (.assign (.name 3 ⟨143,4,143,9⟩) (.bin .Add (.bin .Add (.slice (.var 0 ⟨143,12,143,16⟩) .none (.some (.var 2 ⟨143,18,143,23⟩)) .none ⟨143,17,143,23⟩ ⟨143,12,143,24⟩) (.cstr [92] ⟨143,27,143,31⟩) ⟨143,12,143,31⟩) (.slice (.var 0 ⟨143,34,143,38⟩) (.some (.var 2 ⟨143,39,143,44⟩)) .none .none ⟨143,39,143,45⟩ ⟨143,34,143,46⟩) ⟨143,12,143,46⟩) ⟨143,4,143,46⟩)
 (.cons (.cond (.cmp .Eq (.bin .Mod (.var 1 ⟨144,7,144,13⟩) (.cint 4 ⟨144,16,144,17⟩) ⟨144,7,144,17⟩) (.cint 3 ⟨144,21,144,22⟩) ⟨144,7,144,22⟩)
 (.cons (.ret (.bin .Add (.bin .Add (.cstr [34] ⟨145,15,145,18⟩) (.var 3 ⟨145,21,145,26⟩) ⟨145,15,145,26⟩) (.cstr [34] ⟨145,29,145,32⟩) ⟨145,15,145,32⟩) ⟨145,8,145,32⟩)
 .nil)
 .nil ⟨144,4,145,32⟩)
 (.cons (.ret (.bin .Add (.var 3 ⟨146,11,146,16⟩) (.sub (.cstr [10,9,32] ⟨146,19,146,26⟩) (.bin .Mod (.var 1 ⟨146,27,146,33⟩) (.cint 4 ⟨146,36,146,37⟩) ⟨146,27,146,37⟩) ⟨146,19,146,38⟩) ⟨146,11,146,38⟩) ⟨146,4,146,38⟩)
 .nil))))
noncomputable def f__law_written:Fn:={ tb:=[nS "word",nS "manner",nS "place",nS "piece"],vis:=[(0,false),(1,false),(2,false),(3,false)],wv:=[0,1,2,3],gl:=[],n:=4,np:=2,fz:=true,body:=b__law_written }
noncomputable def b__law_lacking:SL :=
 (.cons (.assign (.name 1 ⟨157,4,157,9⟩) (.list true .nil ⟨157,12,157,14⟩) ⟨157,4,157,14⟩)
 (.cons (.loop [2,3,4,5] (.name 2 ⟨158,8,158,11⟩) (.var 0 ⟨158,15,158,19⟩)
 (.cons (.loop [3,4,5] (.name 3 ⟨159,12,159,13⟩) (.call 19 ⟨159,17,159,22⟩ (.cons (.cint 12 ⟨159,23,159,25⟩) .nil) ⟨159,17,159,26⟩)
 (.cons (.assign (.name 4 ⟨160,12,160,17⟩) (.sub (.tup (.cons (.cint 3 ⟨160,21,160,22⟩) (.cons (.cint 6 ⟨160,24,160,25⟩) (.cons (.cint 9 ⟨160,27,160,28⟩) (.cons (.cint 1 ⟨160,30,160,31⟩) (.cons (.cint 2 ⟨160,33,160,34⟩) (.cons (.cint 3 ⟨160,36,160,37⟩) (.cons (.cint 4 ⟨160,39,160,40⟩) (.cons (.cint 5 ⟨160,42,160,43⟩) (.cons (.cint 6 ⟨160,45,160,46⟩) (.cons (.cint 7 ⟨160,48,160,49⟩) (.cons (.cint 8 ⟨160,51,160,52⟩) (.cons (.cint 9 ⟨160,54,160,55⟩) .nil)))))))))))) ⟨160,20,160,56⟩) (.var 3 ⟨160,57,160,58⟩) ⟨160,20,160,59⟩) ⟨160,12,160,59⟩)
 (.cons (.assign (.name 5 ⟨161,12,161,17⟩) (.meth (.sub (.tup (.cons (.ife (.cmp .Eq (.var 4 ⟨161,31,161,36⟩) (.cint 9 ⟨161,40,161,41⟩) ⟨161,31,161,41⟩) (.cstr [45,120,84,116] ⟨161,21,161,27⟩) (.cstr [45,120,83,115] ⟨161,47,161,53⟩) ⟨161,21,161,53⟩) (.cons (.cstr [45,114] ⟨161,55,161,59⟩) (.cons (.cstr [45,119] ⟨161,61,161,65⟩) .nil))) ⟨161,20,161,66⟩) (.bin .Mod (.var 4 ⟨161,67,161,72⟩) (.cint 3 ⟨161,75,161,76⟩) ⟨161,67,161,76⟩) ⟨161,20,161,77⟩) .index (.cons (.sub (.var 2 ⟨161,84,161,87⟩) (.var 4 ⟨161,88,161,93⟩) ⟨161,84,161,94⟩) .nil) ⟨161,20,161,83⟩ ⟨161,20,161,95⟩) ⟨161,12,161,95⟩)
 (.cons (.expr (.meth (.var 1 ⟨162,12,162,17⟩) .append (.cons (.bin .Sub (.cint 1 ⟨162,25,162,26⟩) (.ife (.cmp .Lt (.var 3 ⟨162,44,162,45⟩) (.cint 3 ⟨162,48,162,49⟩) ⟨162,44,162,49⟩) (.bin .FloorDiv (.var 5 ⟨162,30,162,35⟩) (.cint 2 ⟨162,39,162,40⟩) ⟨162,30,162,40⟩) (.bin .Mod (.var 5 ⟨162,55,162,60⟩) (.cint 2 ⟨162,63,162,64⟩) ⟨162,55,162,64⟩) ⟨162,30,162,64⟩) ⟨162,25,162,65⟩) .nil) ⟨162,12,162,24⟩ ⟨162,12,162,66⟩) ⟨162,12,162,66⟩)
 .nil)))
 .nil ⟨159,8,162,66⟩)
 .nil)
 .nil ⟨158,4,162,66⟩)
 (.cons (.ret (.var 1 ⟨163,11,163,16⟩) ⟨163,4,163,16⟩)
 .nil)))
noncomputable def f__law_lacking:Fn:={ tb:=[nS "rows",nS "flags",nS "row",nS "n",nS "place",nS "worth"],vis:=[(0,false),(1,false),(2,false),(3,false),(4,false),(5,false)],wv:=[0,1,2,3,4,5],gl:=[19],n:=6,np:=1,fz:=false,body:=b__law_lacking }
noncomputable def b__law_led_on:SL :=
 (.cons (.assign (.name 4 ⟨165,4,165,9⟩) (.call 24 ⟨165,12,165,22⟩ .nil ⟨165,12,165,24⟩) ⟨165,4,165,24⟩)
 (.cons (.loop [5] (.name 5 ⟨166,8,166,13⟩) (.var 1 ⟨166,17,166,23⟩)
 (.cons (.assignSub (.var 2 ⟨167,8,167,13⟩) (.var 5 ⟨167,14,167,19⟩) ⟨167,8,167,20⟩ (.cint 0 ⟨167,23,167,24⟩) ⟨167,8,167,24⟩)
 (.cons (.expr (.meth (.var 0 ⟨168,8,168,11⟩) .push_token (.cons (.sub (.var 4 ⟨168,23,168,28⟩) (.var 5 ⟨168,29,168,34⟩) ⟨168,23,168,35⟩) .nil) ⟨168,8,168,22⟩ ⟨168,8,168,36⟩) ⟨168,8,168,36⟩)
 .nil))
 .nil ⟨166,4,168,36⟩)
 (.cons (.assign (.name 6 ⟨169,4,169,8⟩) (.meth (.var 0 ⟨169,11,169,14⟩) .get_token .nil ⟨169,11,169,24⟩ ⟨169,11,169,26⟩) ⟨169,4,169,26⟩)
 (.cons (.whil 1000000 [7,8,9,10,5] (.cmp .NotIn (.var 6 ⟨170,10,170,14⟩) (.tup (.cons (.cstr [] ⟨170,23,170,25⟩) (.cons (.cstr [46] ⟨170,27,170,30⟩) .nil)) ⟨170,22,170,31⟩) ⟨170,10,170,31⟩)
 (.cons (.assign (.tup [(7,⟨171,8,171,9⟩),(8,⟨171,11,171,12⟩)] ⟨171,8,171,12⟩) (.tup (.cons (.bin .FloorDiv (.meth (.var 4 ⟨171,16,171,21⟩) .index (.cons (.var 6 ⟨171,28,171,32⟩) .nil) ⟨171,16,171,27⟩ ⟨171,16,171,33⟩) (.cint 6 ⟨171,37,171,38⟩) ⟨171,16,171,38⟩) (.cons (.bin .Mod (.meth (.var 4 ⟨171,40,171,45⟩) .index (.cons (.var 6 ⟨171,52,171,56⟩) .nil) ⟨171,40,171,51⟩ ⟨171,40,171,57⟩) (.cint 6 ⟨171,60,171,61⟩) ⟨171,40,171,61⟩) .nil)) ⟨171,15,171,62⟩) ⟨171,8,171,62⟩)
 (.cons (.loop [9,10,5] (.tup [(9,⟨172,12,172,13⟩),(10,⟨172,15,172,16⟩)] ⟨172,12,172,16⟩) (.var 3 ⟨172,20,172,24⟩)
 (.cons (.assign (.name 5 ⟨173,12,173,17⟩) (.bin .Add (.bin .Add (.bin .Mult (.cint 6 ⟨173,20,173,21⟩) (.bin .Add (.var 7 ⟨173,25,173,26⟩) (.var 9 ⟨173,29,173,30⟩) ⟨173,25,173,30⟩) ⟨173,20,173,31⟩) (.var 8 ⟨173,34,173,35⟩) ⟨173,20,173,35⟩) (.var 10 ⟨173,38,173,39⟩) ⟨173,20,173,39⟩) ⟨173,12,173,39⟩)
 (.cons (.cond (.boolop .And (.cons (.cmp2 .LtE .Lt (.cint 0 ⟨174,15,174,16⟩) (.bin .Add (.var 7 ⟨174,20,174,21⟩) (.var 9 ⟨174,24,174,25⟩) ⟨174,20,174,25⟩) (.cint 4 ⟨174,28,174,29⟩) ⟨174,15,174,29⟩) (.cons (.cmp2 .LtE .Lt (.cint 0 ⟨174,34,174,35⟩) (.bin .Add (.var 8 ⟨174,39,174,40⟩) (.var 10 ⟨174,43,174,44⟩) ⟨174,39,174,44⟩) (.cint 6 ⟨174,47,174,48⟩) ⟨174,34,174,48⟩) (.cons (.cmp .Eq (.sub (.var 2 ⟨174,54,174,59⟩) (.var 5 ⟨174,60,174,65⟩) ⟨174,54,174,66⟩) (.cint 1 ⟨174,70,174,71⟩) ⟨174,54,174,71⟩) .nil))) ⟨174,15,174,72⟩)
 (.cons (.assignSub (.var 2 ⟨175,16,175,21⟩) (.var 5 ⟨175,22,175,27⟩) ⟨175,16,175,28⟩ (.cint 0 ⟨175,31,175,32⟩) ⟨175,16,175,32⟩)
 (.cons (.expr (.meth (.var 0 ⟨176,16,176,19⟩) .push_token (.cons (.sub (.var 4 ⟨176,31,176,36⟩) (.var 5 ⟨176,37,176,42⟩) ⟨176,31,176,43⟩) .nil) ⟨176,16,176,30⟩ ⟨176,16,176,44⟩) ⟨176,16,176,44⟩)
 .nil))
 .nil ⟨174,12,176,44⟩)
 .nil))
 .nil ⟨172,8,176,44⟩)
 (.cons (.assign (.name 6 ⟨177,8,177,12⟩) (.meth (.var 0 ⟨177,15,177,18⟩) .get_token .nil ⟨177,15,177,28⟩ ⟨177,15,177,30⟩) ⟨177,8,177,30⟩)
 .nil))) ⟨170,4,177,30⟩)
 .nil))))
noncomputable def f__law_led_on:Fn:={ tb:=[nS "lex",nS "starts",nS "flags",nS "ways",nS "names",nS "place",nS "word",nS "i",nS "j",nS "p",nS "q"],vis:=[(0,false),(1,false),(2,false),(3,false),(4,false),(5,false),(6,false),(7,false),(8,false),(9,false),(10,false)],wv:=[0,1,2,3,4,5,6,7,8,9,10],gl:=[24],n:=11,np:=4,fz:=true,body:=b__law_led_on }
noncomputable def b__law_pieces:SL :=
 (.cons (.assign (.name 3 ⟨179,4,179,10⟩) (.cint 0 ⟨179,13,179,14⟩) ⟨179,4,179,14⟩)
 (.cons (.loop [4] (.name 4 ⟨180,8,180,13⟩) (.call 19 ⟨180,17,180,22⟩ (.cons (.cint 24 ⟨180,23,180,25⟩) .nil) ⟨180,17,180,26⟩)
 (.cons (.cond (.cmp .Eq (.sub (.var 1 ⟨181,11,181,16⟩) (.var 4 ⟨181,17,181,22⟩) ⟨181,11,181,23⟩) (.cint 1 ⟨181,27,181,28⟩) ⟨181,11,181,28⟩)
 (.cons (.aug 3 ⟨182,12,182,18⟩ .Add (.cint 1 ⟨182,22,182,23⟩) ⟨182,12,182,23⟩)
 (.cons (.expr (.call 25 ⟨183,12,183,23⟩ (.cons (.var 0 ⟨183,24,183,27⟩) (.cons (.list false (.cons (.var 4 ⟨183,30,183,35⟩) .nil) ⟨183,29,183,36⟩) (.cons (.var 1 ⟨183,38,183,43⟩) (.cons (.var 2 ⟨183,45,183,49⟩) .nil)))) ⟨183,12,183,50⟩) ⟨183,12,183,50⟩)
 .nil))
 .nil ⟨181,8,183,50⟩)
 .nil)
 .nil ⟨180,4,183,50⟩)
 (.cons (.ret (.var 3 ⟨184,11,184,17⟩) ⟨184,4,184,17⟩)
 .nil)))
noncomputable def f__law_pieces:Fn:={ tb:=[nS "lex",nS "flags",nS "ways",nS "pieces",nS "place"],vis:=[(0,false),(1,false),(2,false),(3,false),(4,false)],wv:=[0,1,2,3,4],gl:=[19,25],n:=5,np:=3,fz:=true,body:=b__law_pieces }
noncomputable def b__law_shown:SL :=
 (.cons (.assign (.name 1 ⟨186,4,186,9⟩) (.cint 0 ⟨186,12,186,13⟩) ⟨186,4,186,13⟩)
 (.cons (.loop [2,3] (.name 2 ⟨187,8,187,9⟩) (.call 19 ⟨187,13,187,18⟩ (.cons (.cint 0 ⟨187,19,187,20⟩) (.cons (.call 0 ⟨187,22,187,25⟩ (.cons (.var 0 ⟨187,26,187,33⟩) .nil) ⟨187,22,187,34⟩) (.cons (.cint 2 ⟨187,36,187,37⟩) .nil))) ⟨187,13,187,38⟩)
 (.cons (.assign (.name 3 ⟨188,8,188,11⟩) (.call 26 ⟨188,14,188,22⟩ (.cons (.bin .Add (.bin .Add (.cint 32768 ⟨188,23,188,28⟩) (.bin .Mult (.cint 64 ⟨188,31,188,33⟩) (.sub (.var 0 ⟨188,36,188,43⟩) (.var 2 ⟨188,44,188,45⟩) ⟨188,36,188,46⟩) ⟨188,31,188,46⟩) ⟨188,23,188,46⟩) (.call 27 ⟨188,49,188,52⟩ (.cons (.slice (.var 0 ⟨188,53,188,60⟩) (.some (.bin .Add (.var 2 ⟨188,61,188,62⟩) (.cint 1 ⟨188,65,188,66⟩) ⟨188,61,188,66⟩)) (.some (.bin .Add (.var 2 ⟨188,67,188,68⟩) (.cint 2 ⟨188,71,188,72⟩) ⟨188,67,188,72⟩)) .none ⟨188,61,188,72⟩ ⟨188,53,188,73⟩) .nil) ⟨188,49,188,74⟩) ⟨188,23,188,74⟩) .nil) ⟨188,14,188,75⟩) ⟨188,8,188,75⟩)
 (.cons (.aug 1 ⟨189,8,189,13⟩ .Add (.call 27 ⟨189,17,189,20⟩ (.cons (.comp false (.ife (.cmp .Eq (.var 4 ⟨189,27,189,31⟩) (.cstr [45] ⟨189,35,189,38⟩) ⟨189,27,189,38⟩) (.cint 0 ⟨189,22,189,23⟩) (.ife (.cmp .In (.var 4 ⟨189,49,189,53⟩) (.cstr [115,116] ⟨189,57,189,61⟩) ⟨189,49,189,61⟩) (.cint 2 ⟨189,44,189,45⟩) (.cint 1 ⟨189,67,189,68⟩) ⟨189,44,189,68⟩) ⟨189,22,189,68⟩) (.name 4 ⟨189,73,189,77⟩) (.slice (.var 3 ⟨189,81,189,84⟩) (.some (.cint 1 ⟨189,85,189,86⟩)) .none .none ⟨189,85,189,87⟩ ⟨189,81,189,88⟩) .nil .nil ⟨{ kind:=.function,names:=[(nS ".0",.local),(nS "sign",.local)],isGenerator:=false,isCoroutine:=false,more:=[] },[(4,false)],[],[]⟩ ⟨189,21,189,89⟩) .nil) ⟨189,17,189,90⟩) ⟨189,8,189,90⟩)
 .nil))
 .nil ⟨187,4,189,90⟩)
 (.cons (.ret (.var 1 ⟨190,11,190,16⟩) ⟨190,4,190,16⟩)
 .nil)))
noncomputable def f__law_shown:Fn:={ tb:=[nS "figures",nS "shown",nS "k",nS "row",nS "sign"],vis:=[(0,false),(1,false),(2,false),(3,false)],wv:=[0,1,2,3],gl:=[19,0,26,27],n:=5,np:=1,fz:=true,body:=b__law_shown }
noncomputable def b__law_counted:SL :=
 (.cons (.assign (.name 1 ⟨192,4,192,8⟩) (.comp false (.bin .BitAnd (.sub (.var 0 ⟨192,12,192,19⟩) (.var 4 ⟨192,20,192,21⟩) ⟨192,12,192,22⟩) (.sub (.var 0 ⟨192,25,192,32⟩) (.bin .Add (.var 4 ⟨192,33,192,34⟩) (.cint 1 ⟨192,37,192,38⟩) ⟨192,33,192,38⟩) ⟨192,25,192,39⟩) ⟨192,12,192,39⟩) (.name 4 ⟨192,44,192,45⟩) (.call 19 ⟨192,49,192,54⟩ (.cons (.cint 3 ⟨192,55,192,56⟩) .nil) ⟨192,49,192,57⟩) .nil .nil ⟨{ kind:=.function,names:=[(nS ".0",.local),(nS "i",.local),(nS "figures",.free)],isGenerator:=false,isCoroutine:=false,more:=[] },[(4,false)],[0],[]⟩ ⟨192,11,192,58⟩) ⟨192,4,192,58⟩)
 (.cons (.assign (.name 2 ⟨193,4,193,10⟩) (.comp false (.bin .BitAnd (.var 5 ⟨193,14,193,20⟩) (.bin .FloorDiv (.var 5 ⟨193,23,193,29⟩) (.cint 2 ⟨193,33,193,34⟩) ⟨193,23,193,34⟩) ⟨193,14,193,34⟩) (.name 5 ⟨193,39,193,45⟩) (.var 0 ⟨193,49,193,56⟩) .nil .nil ⟨{ kind:=.function,names:=[(nS ".0",.local),(nS "figure",.local)],isGenerator:=false,isCoroutine:=false,more:=[] },[(5,false)],[],[]⟩ ⟨193,13,193,57⟩) ⟨193,4,193,57⟩)
 (.cons (.assign (.name 3 ⟨194,4,194,11⟩) (.comp false (.bin .BitAnd (.var 6 ⟨194,15,194,21⟩) (.bin .FloorDiv (.var 6 ⟨194,24,194,30⟩) (.cint 2 ⟨194,34,194,35⟩) ⟨194,24,194,35⟩) ⟨194,15,194,35⟩) (.name 6 ⟨194,40,194,46⟩) (.var 1 ⟨194,50,194,54⟩) .nil .nil ⟨{ kind:=.function,names:=[(nS ".0",.local),(nS "figure",.local)],isGenerator:=false,isCoroutine:=false,more:=[] },[(6,false)],[],[]⟩ ⟨194,14,194,55⟩) ⟨194,4,194,55⟩)
 (.cons (.ret (.bin .Add (.bin .Sub (.bin .Sub (.call 28 ⟨195,11,195,21⟩ (.cons (.var 0 ⟨195,22,195,29⟩) .nil) ⟨195,11,195,30⟩) (.call 28 ⟨195,33,195,43⟩ (.cons (.var 2 ⟨195,44,195,50⟩) .nil) ⟨195,33,195,51⟩) ⟨195,11,195,51⟩) (.call 28 ⟨195,54,195,64⟩ (.cons (.var 1 ⟨195,65,195,69⟩) .nil) ⟨195,54,195,70⟩) ⟨195,11,195,70⟩) (.call 28 ⟨195,73,195,83⟩ (.cons (.var 3 ⟨195,84,195,91⟩) .nil) ⟨195,73,195,92⟩) ⟨195,11,195,92⟩) ⟨195,4,195,92⟩)
 .nil))))
noncomputable def f__law_counted:Fn:={ tb:=[nS "figures",nS "both",nS "beside",nS "squares",nS "i",nS "figure",nS "figure"],vis:=[(0,true),(1,false),(2,false),(3,false)],wv:=[0,1,2,3],gl:=[19,28],n:=7,np:=1,fz:=true,body:=b__law_counted }
noncomputable def b_law:SL :=
 (.cons (.assign (.name 1 ⟨197,4,197,11⟩) (.call 29 ⟨197,14,197,26⟩ (.cons (.var 0 ⟨197,27,197,33⟩) .nil) ⟨197,14,197,34⟩) ⟨197,4,197,34⟩)
 (.cons (.assign (.name 2 ⟨198,4,198,9⟩) (.comp false (.bin .Mod (.var 18 ⟨198,13,198,19⟩) (.cint 65536 ⟨198,22,198,27⟩) ⟨198,13,198,27⟩) (.name 18 ⟨198,32,198,38⟩) (.var 1 ⟨198,42,198,49⟩) .nil .nil ⟨{ kind:=.function,names:=[(nS ".0",.local),(nS "number",.local)],isGenerator:=false,isCoroutine:=false,more:=[] },[(18,false)],[],[]⟩ ⟨198,12,198,50⟩) ⟨198,4,198,50⟩)
 (.cons (.assign (.tup [(3,⟨199,4,199,9⟩),(4,⟨199,11,199,17⟩)] ⟨199,4,199,17⟩) (.tup (.cons (.call 30 ⟨199,21,199,28⟩ (.cons (.sub (.var 2 ⟨199,29,199,34⟩) (.cint 0 ⟨199,35,199,36⟩) ⟨199,29,199,37⟩) .nil) ⟨199,21,199,38⟩) (.cons (.call 30 ⟨199,40,199,47⟩ (.cons (.sub (.var 2 ⟨199,48,199,53⟩) (.cint 1 ⟨199,54,199,55⟩) ⟨199,48,199,56⟩) .nil) ⟨199,40,199,57⟩) .nil)) ⟨199,20,199,58⟩) ⟨199,4,199,58⟩)
 (.cons (.assign (.name 5 ⟨200,4,200,10⟩) (.call 6 ⟨200,13,200,18⟩ (.cons (.list false (.cons (.bin .FloorDiv (.var 3 ⟨200,20,200,25⟩) (.cint 16 ⟨200,29,200,31⟩) ⟨200,20,200,31⟩) (.cons (.bin .Add (.bin .Mult (.bin .Mod (.var 3 ⟨200,33,200,38⟩) (.cint 16 ⟨200,41,200,43⟩) ⟨200,33,200,43⟩) (.cint 16 ⟨200,46,200,48⟩) ⟨200,33,200,48⟩) (.bin .FloorDiv (.var 4 ⟨200,51,200,57⟩) (.cint 256 ⟨200,61,200,64⟩) ⟨200,51,200,64⟩) ⟨200,33,200,64⟩) (.cons (.bin .Mod (.var 4 ⟨200,66,200,72⟩) (.cint 256 ⟨200,75,200,78⟩) ⟨200,66,200,78⟩) .nil))) ⟨200,19,200,79⟩) .nil) ⟨200,13,200,80⟩) ⟨200,4,200,80⟩)
 (.cons (.assign (.name 6 ⟨201,4,201,9⟩) (.list false (.cons (.meth (.cstr [] ⟨201,13,201,15⟩) .join (.cons (.comp false (.call 32 ⟨201,22,201,25⟩ (.cons (.var 19 ⟨201,26,201,31⟩) .nil) ⟨201,22,201,32⟩) (.name 19 ⟨201,37,201,42⟩) (.call 31 ⟨201,46,201,55⟩ (.cons (.var 5 ⟨201,56,201,62⟩) .nil) ⟨201,46,201,63⟩) .nil .nil ⟨{ kind:=.function,names:=[(nS ".0",.local),(nS "octet",.local),(nS "chr",.globalImplicit)],isGenerator:=false,isCoroutine:=false,more:=[] },[(19,false)],[],[32]⟩ ⟨201,21,201,64⟩) .nil) ⟨201,13,201,20⟩ ⟨201,13,201,65⟩) (.cons (.call 26 ⟨201,67,201,75⟩ (.cons (.sub (.var 2 ⟨201,76,201,81⟩) (.cint 0 ⟨201,82,201,83⟩) ⟨201,76,201,84⟩) .nil) ⟨201,67,201,85⟩) (.cons (.call 26 ⟨201,87,201,95⟩ (.cons (.sub (.var 2 ⟨201,96,201,101⟩) (.cint 1 ⟨201,102,201,103⟩) ⟨201,96,201,104⟩) .nil) ⟨201,87,201,105⟩) .nil))) ⟨201,12,201,106⟩) ⟨201,4,201,106⟩)
 (.cons (.assign (.name 7 ⟨202,4,202,10⟩) (.comp false (.call 33 ⟨202,14,202,26⟩ (.cons (.sub (.var 6 ⟨202,27,202,32⟩) (.bin .Add (.var 20 ⟨202,33,202,34⟩) (.cint 1 ⟨202,37,202,38⟩) ⟨202,33,202,38⟩) ⟨202,27,202,39⟩) (.cons (.bin .Mod (.bin .FloorDiv (.sub (.var 1 ⟨202,41,202,48⟩) (.var 20 ⟨202,49,202,50⟩) ⟨202,41,202,51⟩) (.cint 65536 ⟨202,55,202,60⟩) ⟨202,41,202,60⟩) (.cint 40 ⟨202,63,202,65⟩) ⟨202,41,202,65⟩) .nil)) ⟨202,14,202,66⟩) (.name 20 ⟨202,71,202,72⟩) (.call 19 ⟨202,76,202,81⟩ (.cons (.cint 2 ⟨202,82,202,83⟩) .nil) ⟨202,76,202,84⟩) .nil .nil ⟨{ kind:=.function,names:=[(nS ".0",.local),(nS "k",.local),(nS "_law_written",.globalImplicit),(nS "numbers",.free),(nS "words",.free)],isGenerator:=false,isCoroutine:=false,more:=[] },[(20,false)],[1,6],[33]⟩ ⟨202,13,202,85⟩) ⟨202,4,202,85⟩)
 (.cons (.assign (.name 8 ⟨203,4,203,8⟩) (.bin .Add (.bin .Add (.call 33 ⟨203,11,203,23⟩ (.cons (.sub (.var 6 ⟨203,24,203,29⟩) (.cint 0 ⟨203,30,203,31⟩) ⟨203,24,203,32⟩) (.cons (.bin .Mod (.call 27 ⟨203,34,203,37⟩ (.cons (.var 0 ⟨203,38,203,44⟩) .nil) ⟨203,34,203,45⟩) (.cint 16 ⟨203,48,203,50⟩) ⟨203,34,203,50⟩) .nil)) ⟨203,11,203,51⟩) (.meth (.cstr [] ⟨203,54,203,56⟩) .join (.cons (.var 7 ⟨203,62,203,68⟩) .nil) ⟨203,54,203,61⟩ ⟨203,54,203,69⟩) ⟨203,11,203,69⟩) (.cstr [13,32,46] ⟨203,72,203,78⟩) ⟨203,11,203,78⟩) ⟨203,4,203,78⟩)
 (.cons (.assign (.name 9 ⟨204,4,204,6⟩) (.list true (.cons (.cint 0 ⟨204,10,204,11⟩) .nil) ⟨204,9,204,12⟩) ⟨204,4,204,12⟩)
 (.cons (.assign (.name 10 ⟨205,4,205,7⟩) (.call 34 ⟨205,10,205,20⟩ (.cons (.var 8 ⟨205,21,205,25⟩) (.cons (.var 9 ⟨205,27,205,29⟩) .nil)) ⟨205,10,205,30⟩) ⟨205,4,205,30⟩)
 (.cons (.assign (.name 11 ⟨206,4,206,8⟩) (.comp false (.meth (.var 10 ⟨206,12,206,15⟩) .get_token .nil ⟨206,12,206,25⟩ ⟨206,12,206,27⟩) (.name 21 ⟨206,32,206,36⟩) (.var 6 ⟨206,40,206,45⟩) .nil .nil ⟨{ kind:=.function,names:=[(nS ".0",.local),(nS "word",.local),(nS "lex",.free)],isGenerator:=false,isCoroutine:=false,more:=[] },[(21,false)],[10],[]⟩ ⟨206,11,206,46⟩) ⟨206,4,206,46⟩)
 (.cons (.cond (.cmp .NotEq (.var 11 ⟨207,7,207,11⟩) (.var 6 ⟨207,15,207,20⟩) ⟨207,7,207,20⟩)
 (.cons (.ret (.cbool false ⟨208,15,208,20⟩) ⟨208,8,208,20⟩)
 .nil)
 .nil ⟨207,4,208,20⟩)
 (.cons (.assign (.name 12 ⟨209,4,209,11⟩) (.comp false (.meth (.call 24 ⟨209,15,209,25⟩ .nil ⟨209,15,209,27⟩) .index (.cons (.var 22 ⟨209,34,209,38⟩) .nil) ⟨209,15,209,33⟩ ⟨209,15,209,39⟩) (.name 22 ⟨209,44,209,48⟩) (.sub (.var 11 ⟨209,52,209,56⟩) (.cint 0 ⟨209,57,209,58⟩) ⟨209,52,209,59⟩) .nil .nil ⟨{ kind:=.function,names:=[(nS ".0",.local),(nS "sign",.local),(nS "_law_signs",.globalImplicit)],isGenerator:=false,isCoroutine:=false,more:=[] },[(22,false)],[],[24]⟩ ⟨209,14,209,60⟩) ⟨209,4,209,60⟩)
 (.cons (.assign (.name 13 ⟨210,4,210,9⟩) (.comp true (.bin .Mod (.bin .FloorDiv (.sub (.var 12 ⟨210,13,210,20⟩) (.bin .FloorDiv (.var 23 ⟨210,21,210,26⟩) (.cint 6 ⟨210,30,210,31⟩) ⟨210,21,210,31⟩) ⟨210,13,210,32⟩) (.bin .Pow (.cint 2 ⟨210,36,210,37⟩) (.bin .Sub (.cint 5 ⟨210,42,210,43⟩) (.bin .Mod (.var 23 ⟨210,46,210,51⟩) (.cint 6 ⟨210,54,210,55⟩) ⟨210,46,210,55⟩) ⟨210,42,210,55⟩) ⟨210,36,210,56⟩) ⟨210,13,210,56⟩) (.cint 2 ⟨210,59,210,60⟩) ⟨210,13,210,60⟩) (.name 23 ⟨210,65,210,70⟩) (.call 19 ⟨210,74,210,79⟩ (.cons (.cint 24 ⟨210,80,210,82⟩) .nil) ⟨210,74,210,83⟩) .nil .nil ⟨{ kind:=.function,names:=[(nS ".0",.local),(nS "place",.local),(nS "figures",.free)],isGenerator:=false,isCoroutine:=false,more:=[] },[(23,false)],[12],[]⟩ ⟨210,12,210,84⟩) ⟨210,4,210,84⟩)
 (.cons (.assign (.name 14 ⟨211,4,211,11⟩) (.call 35 ⟨211,14,211,26⟩ (.cons (.slice (.var 11 ⟨211,27,211,31⟩) (.some (.cint 1 ⟨211,32,211,33⟩)) .none .none ⟨211,32,211,34⟩ ⟨211,27,211,35⟩) .nil) ⟨211,14,211,36⟩) ⟨211,4,211,36⟩)
 (.cons (.cond (.cmp .NotEq (.var 14 ⟨212,7,212,14⟩) (.comp false (.bin .Sub (.cint 1 ⟨212,19,212,20⟩) (.var 24 ⟨212,23,212,27⟩) ⟨212,19,212,27⟩) (.name 24 ⟨212,32,212,36⟩) (.var 13 ⟨212,40,212,45⟩) .nil .nil ⟨{ kind:=.function,names:=[(nS ".0",.local),(nS "flag",.local)],isGenerator:=false,isCoroutine:=false,more:=[] },[(24,false)],[],[]⟩ ⟨212,18,212,46⟩) ⟨212,7,212,46⟩)
 (.cons (.ret (.cbool false ⟨213,15,213,20⟩) ⟨213,8,213,20⟩)
 .nil)
 .nil ⟨212,4,213,20⟩)
 (.cons (.assign (.name 15 ⟨214,4,214,9⟩) (.list false (.cons (.tup (.cons (.cint 0 ⟨214,14,214,15⟩) (.cons (.cint 1 ⟨214,17,214,18⟩) .nil)) ⟨214,13,214,19⟩) (.cons (.tup (.cons (.cint 1 ⟨214,22,214,23⟩) (.cons (.cint 0 ⟨214,25,214,26⟩) .nil)) ⟨214,21,214,27⟩) (.cons (.tup (.cons (.cint 0 ⟨214,30,214,31⟩) (.cons (.neg (.cint 1 ⟨214,34,214,35⟩) ⟨214,33,214,35⟩) .nil)) ⟨214,29,214,36⟩) (.cons (.tup (.cons (.neg (.cint 1 ⟨214,40,214,41⟩) ⟨214,39,214,41⟩) (.cons (.cint 0 ⟨214,43,214,44⟩) .nil)) ⟨214,38,214,45⟩) .nil)))) ⟨214,12,214,46⟩) ⟨214,4,214,46⟩)
 (.cons (.assign (.name 16 ⟨215,4,215,10⟩) (.bin .Add (.var 15 ⟨215,13,215,18⟩) (.list false (.cons (.tup (.cons (.cint 1 ⟨215,23,215,24⟩) (.cons (.cint 1 ⟨215,26,215,27⟩) .nil)) ⟨215,22,215,28⟩) (.cons (.tup (.cons (.cint 1 ⟨215,31,215,32⟩) (.cons (.neg (.cint 1 ⟨215,35,215,36⟩) ⟨215,34,215,36⟩) .nil)) ⟨215,30,215,37⟩) (.cons (.tup (.cons (.neg (.cint 1 ⟨215,41,215,42⟩) ⟨215,40,215,42⟩) (.cons (.cint 1 ⟨215,44,215,45⟩) .nil)) ⟨215,39,215,46⟩) (.cons (.tup (.cons (.neg (.cint 1 ⟨215,50,215,51⟩) ⟨215,49,215,51⟩) (.cons (.neg (.cint 1 ⟨215,54,215,55⟩) ⟨215,53,215,55⟩) .nil)) ⟨215,48,215,56⟩) .nil)))) ⟨215,21,215,57⟩) ⟨215,13,215,57⟩) ⟨215,4,215,57⟩)
 (.cons (.assign (.name 17 ⟨216,4,216,11⟩) (.comp false (.var 25 ⟨216,15,216,20⟩) (.name 25 ⟨216,25,216,30⟩) (.call 19 ⟨216,34,216,39⟩ (.cons (.cint 24 ⟨216,40,216,42⟩) .nil) ⟨216,34,216,43⟩) (.cons (.boolop .And (.cons (.cmp .Eq (.sub (.var 14 ⟨216,47,216,54⟩) (.var 25 ⟨216,55,216,60⟩) ⟨216,47,216,61⟩) (.cint 1 ⟨216,65,216,66⟩) ⟨216,47,216,66⟩) (.cons (.boolop .Or (.cons (.cmp .In (.bin .FloorDiv (.var 25 ⟨216,72,216,77⟩) (.cint 6 ⟨216,81,216,82⟩) ⟨216,72,216,82⟩) (.tup (.cons (.cint 0 ⟨216,87,216,88⟩) (.cons (.cint 3 ⟨216,90,216,91⟩) .nil)) ⟨216,86,216,92⟩) ⟨216,72,216,92⟩) (.cons (.cmp .In (.bin .Mod (.var 25 ⟨216,96,216,101⟩) (.cint 6 ⟨216,104,216,105⟩) ⟨216,96,216,105⟩) (.tup (.cons (.cint 0 ⟨216,110,216,111⟩) (.cons (.cint 5 ⟨216,113,216,114⟩) .nil)) ⟨216,109,216,115⟩) ⟨216,96,216,115⟩) .nil)) ⟨216,72,216,115⟩) .nil)) ⟨216,47,216,116⟩) .nil) .nil ⟨{ kind:=.function,names:=[(nS ".0",.local),(nS "place",.local),(nS "lacking",.free)],isGenerator:=false,isCoroutine:=false,more:=[] },[(25,false)],[14],[]⟩ ⟨216,14,216,117⟩) ⟨216,4,216,117⟩)
 (.cons (.expr (.call 25 ⟨217,4,217,15⟩ (.cons (.var 10 ⟨217,16,217,19⟩) (.cons (.var 17 ⟨217,21,217,28⟩) (.cons (.var 14 ⟨217,30,217,37⟩) (.cons (.var 16 ⟨217,39,217,45⟩) .nil)))) ⟨217,4,217,46⟩) ⟨217,4,217,46⟩)
 (.cons (.cond (.cmp .NotEq (.tup (.cons (.meth (.var 10 ⟨218,8,218,11⟩) .get_token .nil ⟨218,8,218,21⟩ ⟨218,8,218,23⟩) (.cons (.sub (.var 9 ⟨218,25,218,27⟩) (.cint 0 ⟨218,28,218,29⟩) ⟨218,25,218,30⟩) (.cons (.attr (.var 10 ⟨218,32,218,35⟩) .lineno ⟨218,32,218,42⟩) .nil))) ⟨218,7,218,43⟩) (.tup (.cons (.cstr [] ⟨218,48,218,50⟩) (.cons (.call 0 ⟨218,52,218,55⟩ (.cons (.var 8 ⟨218,56,218,60⟩) .nil) ⟨218,52,218,61⟩) (.cons (.bin .Add (.cint 1 ⟨218,63,218,64⟩) (.meth (.var 8 ⟨218,67,218,71⟩) .count (.cons (.cstr [10] ⟨218,78,218,82⟩) .nil) ⟨218,67,218,77⟩ ⟨218,67,218,83⟩) ⟨218,63,218,83⟩) .nil))) ⟨218,47,218,84⟩) ⟨218,7,218,84⟩)
 (.cons (.ret (.cbool false ⟨219,15,219,20⟩) ⟨219,8,219,20⟩)
 .nil)
 .nil ⟨218,4,219,20⟩)
 (.cons (.ret (.cmp .Eq (.bin .Sub (.call 36 ⟨220,11,220,22⟩ (.cons (.var 10 ⟨220,23,220,26⟩) (.cons (.var 13 ⟨220,28,220,33⟩) (.cons (.var 15 ⟨220,35,220,40⟩) .nil))) ⟨220,11,220,41⟩) (.call 36 ⟨220,44,220,55⟩ (.cons (.var 10 ⟨220,56,220,59⟩) (.cons (.var 14 ⟨220,61,220,68⟩) (.cons (.var 16 ⟨220,70,220,76⟩) .nil))) ⟨220,44,220,77⟩) ⟨220,11,220,77⟩) (.call 37 ⟨220,81,220,93⟩ (.cons (.var 12 ⟨220,94,220,101⟩) .nil) ⟨220,81,220,102⟩) ⟨220,11,220,102⟩) ⟨220,4,220,102⟩)
 .nil)))))))))))))))))))))
noncomputable def f_law:Fn:={ tb:=[nS "script",nS "numbers",nS "modes",nS "first",nS "second",nS "octets",nS "words",nS "pieces",nS "text",nS "at",nS "lex",nS "told",nS "figures",nS "there",nS "lacking",nS "sides",nS "around",nS "outside",nS "number",nS "octet",nS "k",nS "word",nS "sign",nS "place",nS "flag",nS "place"],vis:=[(0,false),(1,true),(2,false),(3,false),(4,false),(5,false),(6,true),(7,false),(8,false),(9,false),(10,true),(11,false),(12,true),(13,false),(14,true),(15,false),(16,false),(17,false)],wv:=[0,1,2,3,4,5,6,7,8,9,10,11,12,13,14,15,16,17],gl:=[29,30,6,31,26,19,33,27,34,35,25,0,36,37],n:=26,np:=1,fz:=true,body:=b_law }
noncomputable def fnsL:List (Option Fn):=[some f_S_IMODE,some f_S_IFMT,some f_filemode,some f__buffer,some f__truth,some f_b2a_base64,some f_b64encode,some f__read_char,some f_get_token,some f_push_token,some f__law_signs,some f__law_numbers,some f__law_written,none,some f__law_lacking,some f__law_led_on,some f__law_pieces,some f__law_shown,some f__law_counted,some f_law]
noncomputable abbrev i_S_IMODE:Nat:=0
noncomputable abbrev i_S_IFMT:Nat:=1
noncomputable abbrev i_filemode:Nat:=2
noncomputable abbrev i__buffer:Nat:=3
noncomputable abbrev i__truth:Nat:=4
noncomputable abbrev i_b2a_base64:Nat:=5
noncomputable abbrev i_b64encode:Nat:=6
noncomputable abbrev i__read_char:Nat:=7
noncomputable abbrev i_get_token:Nat:=8
noncomputable abbrev i_push_token:Nat:=9
noncomputable abbrev i__law_signs:Nat:=10
noncomputable abbrev i__law_numbers:Nat:=11
noncomputable abbrev i__law_written:Nat:=12
noncomputable abbrev i__law_lexer:Nat:=13
noncomputable abbrev i__law_lacking:Nat:=14
noncomputable abbrev i__law_led_on:Nat:=15
noncomputable abbrev i__law_pieces:Nat:=16
noncomputable abbrev i__law_shown:Nat:=17
noncomputable abbrev i__law_counted:Nat:=18
noncomputable abbrev i_law:Nat:=19
noncomputable def addrL:List Nat:=[28,35,75,82,89,97,105,126,133,140,154,161,168,175,182,189,196,201,206,211]
noncomputable def fa (k:Nat):Addr:=if k=100 then 212 else addrL.getD k 0
noncomputable def gL:List (Option V):=[some (.bi .len),some (.bi .iter),some (.ty .enumerate),some (.tup [.tup [.tup [.int 40960,.str [108]],.tup [.int 49152,.str [115]],.tup [.int 32768,.str [45]],.tup [.int 24576,.str [98]],.tup [.int 16384,.str [100]],.tup [.int 8192,.str [99]],.tup [.int 4096,.str [112]]],.tup [.tup [.int 256,.str [114]]],.tup [.tup [.int 128,.str [119]]],.tup [.tup [.int 2112,.str [115]],.tup [.int 2048,.str [83]],.tup [.int 64,.str [120]]],.tup [.tup [.int 32,.str [114]]],.tup [.tup [.int 16,.str [119]]],.tup [.tup [.int 1032,.str [115]],.tup [.int 1024,.str [83]],.tup [.int 8,.str [120]]],.tup [.tup [.int 4,.str [114]]],.tup [.tup [.int 2,.str [119]]],.tup [.tup [.int 513,.str [116]],.tup [.int 512,.str [84]],.tup [.int 1,.str [120]]]]),some (.fn 1),some (.ty .type),some (.ty .bytes),some (.ty .bytearray),none,some (.ty .bool),some (.ty .int),none,none,some (.ty .str),none,none,none,none,none,some (.ty .range),some (.fn 3),some (.fn 4),some (.bytes [65,66,67,68,69,70,71,72,73,74,75,76,77,78,79,80,81,82,83,84,85,86,87,88,89,90,97,98,99,100,101,102,103,104,105,106,107,108,109,110,111,112,113,114,115,116,117,118,119,120,121,122,48,49,50,51,52,53,54,55,56,57,43,47]),some (.fn 5),some (.fn 10),some (.fn 15),some (.fn 2),some (.bi .sum),some (.fn 17),some (.fn 11),some (.fn 0),some (.fn 6),some (.bi .chr),some (.fn 12),some (.fn 13),some (.fn 14),some (.fn 16),some (.fn 18)]
noncomputable def TT:Tab:={ gt,fns:=fun k=>(fnsL[k]?).join,pad:=fun k=>if k=6 then [.none] else [],lx:=13,me:=fun | .get_token=>8 | .push_token=>9 | .read_char=>7 | _=>1000,kws:=fun k nm=>k==5&&nm==kwNm,G:=fun g=>(gL[g]?).join }
end Mine
namespace Mine
open PySem
section
variable {n:Nat} {σ:Sto} {m:Int}
theorem x_S_IMODE:phi TT (n+1) i_S_IMODE [.int m] σ=some (.int (Builtin.bitAnd m 4095),σ) :=
 f_call rfl rfl rfl (l_one (s_ret (r_bin rfl rfl rfl))) rfl (leave_same rfl rfl)
theorem x_S_IFMT:phi TT (n+1) i_S_IFMT [.int m] σ=some (.int (Builtin.bitAnd m 61440),σ) :=
 f_call rfl rfl rfl (l_one (s_ret (r_bin rfl rfl rfl))) rfl (leave_same rfl rfl)
noncomputable abbrev Row:Type:=Int × Nat
noncomputable def ftab0:List Row:=[(40960,108),(49152,115),(32768,45),(24576,98),(16384,100),(8192,99),(4096,112)]
noncomputable def ftabs:List (List Row):=[[(256,114)],[(128,119)],[(2112,115),(2048,83),(64,120)],[(32,114)],[(16,119)],[(1032,115),(1024,83),(8,120)],[(4,114)],[(2,119)],[(513,116),(512,84),(1,120)]]
noncomputable def rowV (x:Row):V:=.tup [.int x.1,.str [x.2]]
noncomputable def tabV (tb:List Row):V:=.tup (tb.map rowV)
noncomputable def hit0 (m:Int) (x:Row):Bool:=Builtin.bitAnd m 61440==x.1
noncomputable def hit1 (m:Int) (x:Row):Bool:=Builtin.bitAnd m x.1==x.1
noncomputable abbrev fmS:S:=b_filemode.get 1
noncomputable abbrev fmI:S:=fmS.a.get 0
noncomputable abbrev Lf (m i:Int) (k:Nat) (tb:List Row):Loc:=[some (.int m),some (.ref k),some (.int i),some (tabV tb),none,none]
noncomputable abbrev Lg (m i:Int) (k:Nat) (tb:List Row) (x:Row):Loc:=[some (.int m),some (.ref k),some (.int i),some (tabV tb),some (.int x.1),some (.str [x.2])]
variable {i:Int} {k:Nat} {tb:List Row} {acc:List V} {x:Row}
noncomputable abbrev inr (n:Nat):=loopStep (phi TT (n+1)) (lamN TT (n+1)) TT.G [4,5] fmI.t fmI.a
theorem add_x {Φ:Calls} {Λ:Lexer} (hk:σ.length=k) (hl:acc.length < 100):evS Φ Λ TT.G ((((fmI.a.get 0).a.get 0).a).get 0) (Lg m i k tb x) (σ++[.list acc])=some (.next,Lg m i k tb x,σ++[.list (acc++[.str [x.2]])]) :=
 s_push rfl hk rfl (Nat.lt_trans hl (by decide))
theorem row0 (hk:σ.length=k) (hl:acc.length < 100) {b:Bool} (h:hit0 m x=b):inr n (rowV x) (.next,Lf m 0 k tb) (σ++[.list acc])=some (if b then (false,(.next,Lg m 0 k tb x),σ++[.list (acc++[.str [x.2]])]) else (true,(.next,Lf m 0 k tb),σ++[.list acc])):=by
 cases b with
 | true=>exact u_brk (t:=fmI.t) rfl (l_one (s_yes (t_cmp rfl rfl rfl) (l_one (s_yes (t_cmp (r_fn rfl (r_one rfl) x_S_IFMT) rfl (q_int h)) (l_cons (add_x hk hl) (l_one rfl))))))
 | false=>exact u_next (t:=fmI.t) rfl (l_one (s_yes (t_cmp rfl rfl rfl) (l_one (s_no (t_cmp (r_fn rfl (r_one rfl) x_S_IFMT) rfl (q_int h)) rfl)))) rfl
theorem row1 (hk:σ.length=k) (hl:acc.length < 100) {j:Nat} {b:Bool} (h:hit1 m x=b):inr n (rowV x) (.next,Lf m ((j+1:Nat):Int) k tb) (σ++[.list acc])=some (if b then (false,(.next,Lg m ((j+1:Nat):Int) k tb x),σ++[.list (acc++[.str [x.2]])]) else (true,(.next,Lf m ((j+1:Nat):Int) k tb),σ++[.list acc])):=by
 cases b with
 | true=>exact u_brk (t:=fmI.t) rfl (l_one (s_no (t_cmp rfl rfl rfl) (l_one (s_yes (t_cmp (r_bin rfl rfl rfl) rfl (q_int h)) (l_cons (add_x hk hl) (l_one rfl))))))
 | false=>exact u_next (t:=fmI.t) rfl (l_one (s_no (t_cmp rfl rfl rfl) (l_one (s_no (t_cmp (r_bin rfl rfl rfl) rfl (q_int h)) rfl)))) rfl
noncomputable abbrev otr (n:Nat):=loopStep (phi TT (n+1)) (lamN TT (n+1)) TT.G [2,3,4,5] fmS.t fmS.a
noncomputable abbrev L0 (m:Int) (k:Nat):Loc:=[some (.int m),some (.ref k),none,none,none,none]
noncomputable def sgT (h:Row→Bool) (d:Nat) (tb:List Row):Nat:=match tb.find? h with
 | some x=>x.2
 | none=>d
theorem tab_of {h:Row→Bool} {d:Nat} (hr:∀ x b,h x=b→inr n (rowV x) (.next,Lf m i k tb) (σ++[.list acc])=some (if b then (false,(.next,Lg m i k tb x),σ++[.list (acc++[.str [x.2]])]) else (true,(.next,Lf m i k tb),σ++[.list acc])))
  (hd:evSL (phi TT (n+1)) (lamN TT (n+1)) TT.G (.cons ((match fmI with | .loop _ _ _ _ b _=>b | _=>.nil).get 0) .nil) (Lf m i k tb) (σ++[.list acc])=some (.next,Lf m i k tb,σ++[.list (acc++[.str [d]])])) :
  otr n (.tup [.int i,tabV tb]) (.next,L0 m k) (σ++[.list acc])=some (true,(.next,L0 m k),σ++[.list (acc++[.str [sgT h d tb]])]):=by
 have o:=over_find (f:=rowV) (p:=h) (g:=fun x=>((Fl.next,Lg m i k tb x),σ++[.list (acc++[.str [x.2]])])) (fun x e=>hr x true e) (fun x e=>hr x false e) tb
 unfold sgT
 cases hf:tb.find? h with
 | some x =>
  rw [hf] at o
  exact u_next (t:=fmS.t) rfl (l_one (s_loop rfl rfl o rfl)) rfl
 | none =>
  rw [hf] at o
  exact u_next (t:=fmS.t) rfl (l_one (s_loop rfl rfl o hd)) rfl
theorem tab0 (hk:σ.length=k) (hl:acc.length < 100):otr n (.tup [.int 0,tabV tb]) (.next,L0 m k) (σ++[.list acc])=some (true,(.next,L0 m k),σ++[.list (acc++[.str [sgT (hit0 m) 63 tb]])]) :=
 tab_of (fun ζ ζ h=>row0 hk hl h) (l_one (s_yes (t_cmp rfl rfl rfl) (l_one (s_push rfl hk rfl (Nat.lt_trans hl (by decide))))))
theorem tab1 (hk:σ.length=k) (hl:acc.length < 100) {j:Nat}:otr n (.tup [.int ((j+1:Nat):Int),tabV tb]) (.next,L0 m k) (σ++[.list acc])=some (true,(.next,L0 m k),σ++[.list (acc++[.str [sgT (hit1 m) 45 tb]])]) :=
 tab_of (fun ζ ζ h=>row1 hk hl h) (l_one (s_no (t_cmp rfl rfl rfl) (l_one (s_push rfl hk rfl (Nat.lt_trans hl (by decide))))))
theorem tabs (hk:σ.length=k):∀ (tbs:List (List Row)) (j:Nat) (acc:List V),acc.length+tbs.length < 100→over (otr n) (((tbs.map tabV).zipIdx (j+1)).map fun x=>.tup [.int (x.2:Nat),x.1]) (.next,L0 m k) (σ++[.list acc])=some (true,(.next,L0 m k),σ++[.list (acc++tbs.map fun tb=>.str [sgT (hit1 m) 45 tb])])
 | [],_,acc,_=>congrArg (fun l=>some (true,(Fl.next,L0 m k),σ++[O.list l])) (List.append_nil acc).symm
 | tb :: tbs,j,acc,hl=>by
  rw [List.length_cons] at hl
  refine over_cons (tab1 hk (by (first | lia | omega))) ?_
  rw [tabs hk tbs (j+1) _ (by rw [List.length_append,List.length_singleton]; (first | lia | omega)),List.append_assoc]; rfl
noncomputable def fmode (m:Int):List Nat:=sgT (hit0 m) 63 ftab0 :: ftabs.map (sgT (hit1 m) 45)
theorem fmode_length:(fmode m).length=10:=by unfold fmode; rw [List.length_cons,List.length_map]; rfl
theorem x_filemode (h:Low σ):phi TT (n+2) i_filemode [.int m] σ=some (.str (fmode m),σ):=by
 refine f_call rfl rfl rfl (l_cons (s_assign (r_list r_nil (by decide)) rfl) (l_cons (s_enum (xs:=tabV ftab0 :: ftabs.map tabV) rfl rfl (over_cons (tab0 (n:=n) (m:=m) (σ:=σ) rfl (by decide)) (tabs rfl ftabs 0 _ (Nat.le_of_ble_eq_true rfl))) rfl) (l_one (s_ret (r_meth rfl rfl (r_one rfl) (j_cell (l:=fmode m) (vlist_at rfl) (by rw [fmode_length]; decide))))))) rfl (leave_cut rfl h rfl)
end
end Mine
namespace Mine
open PySem
section
variable {n k:Nat} {σ:Sto} {v w:V} {l:List Nat}
theorem x_buffer:phi TT (n+1) i__buffer [.bytes l] σ=some (.bytes l,σ) :=
 f_call rfl rfl rfl (l_cons (s_assign (r_ty rfl (r_one rfl) rfl) rfl) (l_stop (s_yes (t_cmp rfl rfl (o_is (by decide +kernel))) (l_one (s_ret rfl))) rfl)) rfl (leave_same rfl rfl)
theorem x_truth:phi TT (n+1) i__truth [.bool false] σ=some (.bool false,σ) :=
 f_call rfl rfl rfl (l_cons (s_assign (r_ty rfl (r_one rfl) rfl) rfl) (l_stop (s_yes (t_bool (b_next (t_cmp rfl rfl rfl) (by decide) (b_stop (t_cmp rfl rfl (o_is (by decide +kernel))) (by decide)))) (l_one (s_ret rfl))) rfl)) rfl (leave_same rfl rfl)
noncomputable abbrev B64:List Nat:=[65,66,67,68,69,70,71,72,73,74,75,76,77,78,79,80,81,82,83,84,85,86,87,88,89,90,97,98,99,100,101,102,103,104,105,106,107,108,109,110,111,112,113,114,115,116,117,118,119,120,121,122,48,49,50,51,52,53,54,55,56,57,43,47]
noncomputable def sgn (k:Nat):Nat:=B64.getD k 0
theorem and63 {a:Nat}:a &&& 63=a % 64:=Nat.and_two_pow_sub_one_eq_mod a 6
theorem sub64 {a:Nat} (h:a < 64):subV (.bytes B64) (.int (a:Nat)) σ=some (.int (sgn a:Nat)):=by
 show orO ((idx B64.length (a:Int)).bind fun j=>(B64[j]?).map fun c=>V.int (c:Nat)) _=_
 rw [idx_nat (m:=B64.length) h]
 show orO ((B64[a]?).map _) _=_
 unfold sgn
 rw [List.getD_eq_getElem?_getD,List.getElem?_eq_getElem h]
 rfl
theorem sub63 {a:Nat}:subV (.bytes B64) (.int ((a &&& 63:Nat):Int)) σ=some (.int (sgn (a % 64):Nat)):=by
 rw [and63]; exact sub64 (Nat.mod_lt a (by decide))
noncomputable abbrev b2L:S:=b_b2a_base64.get 5
noncomputable abbrev b2W:S:=b2L.a.get 2
structure W64 where
 out:List Nat
 lb:Nat
 lc:Nat
noncomputable abbrev wl (l:List Nat) (k:Nat) (L:Int) (lc:Nat) (b:Option V):Loc:=[some (.bytes l),some (.bool false),some (.bytes l),some (.ref k),some (.int L),some (.int lc),b]
noncomputable abbrev ws (σ:Sto) (out:List Nat):Sto:=σ++[.list (nts out)]
theorem nts_snoc {l:List Nat} {c:Nat}:nts l++[.int (c:Nat)]=nts (l++[c]):=(List.map_append (l₂:=[c])).symm
theorem put64 {Φ:Calls} {Λ:Lexer} {G:Nat→Option V} {loc:Loc} {i:Nat} {e:E} {q1 q2 q3 p:Pos} {out:List Nat} {c:Nat} (hv:loc[i]?=some (some (.ref k))) (hk:σ.length=k) (he:evM Φ Λ G e false loc (ws σ out)=some (.int (c:Nat),ws σ out)) (hl:out.length < 1000000):evS Φ Λ G (.expr (.meth (.var i q1) .append (.cons e .nil) q2 q3) p) loc (ws σ out)=some (.next,loc,ws σ (out++[c])) :=
 (s_push hv hk he (by unfold nts maxLen; rw [List.length_map]; (first | lia | omega))).trans (by rw [nts_snoc])
theorem emit64 {L:Int} {s lc:Nat} {b:Option V} {out:List Nat} (hk:σ.length=k) (hL:L - 6=(s:Int)) (hl:out.length < 1000000) :
  evSL (phi TT n) (lamN TT n) TT.G b2W.a (wl l k L lc b) (ws σ (out.map sgn))=some (.next,wl l k (s:Nat) lc b,ws σ ((out++[lc / 2 ^ s % 64]).map sgn)):=by
 rw [List.map_append]
 exact l_cons (put64 rfl hk (r_sub rfl (r_bin (r_bin rfl (r_bin rfl rfl (iv hL)) (o_shr rfl)) rfl (o_and (b:=63))) sub63) (by rw [List.length_map]; exact hl)) (l_one (s_assign (r_bin rfl rfl (iv hL)) rfl))
noncomputable def b64byte (s:W64) (b:Nat):W64 :=
 let lc:=s.lc % 256*256+b
 if s.lb=4 then ⟨s.out++[lc / 2 ^ 6 % 64]++[lc / 2 ^ 0 % 64],0,lc⟩ else ⟨s.out++[lc / 2 ^ (s.lb+2) % 64],s.lb+2,lc⟩
noncomputable def W64.ok (s:W64):Prop:=(s.lb=0∨s.lb=2∨s.lb=4)∧s.lc < 65536
theorem b64byte_ok {s:W64} {b:Nat} (hb:b < 256) (h:s.ok):(b64byte s b).ok∧(b64byte s b).out.length≤s.out.length+2:=by
 obtain ⟨out,lb,lc⟩:=s
 have h2:lc % 256*256+b < 65536:=by (first | lia | omega)
 rcases h.1 with rfl | rfl | rfl
 ·exact ⟨⟨.inr (.inl rfl),h2⟩,by show (out++[_]).length≤_; rw [List.length_append]; exact Nat.le_succ _⟩
 ·exact ⟨⟨.inr (.inr rfl),h2⟩,by show (out++[_]).length≤_; rw [List.length_append]; exact Nat.le_succ _⟩
 ·exact ⟨⟨.inl rfl,h2⟩,by show (out++[_]++[_]).length≤_; rw [List.length_append,List.length_append]; exact Nat.le_refl _⟩
theorem s_whil {Φ:Calls} {Λ:Lexer} {G:Nat→Option V} {loc:Loc} {R:Option (Fl × Loc × Sto)} {fuel:Nat} {clr:List Nat} {t:E} {A:SL} {p:Pos} (h:whl Φ Λ G t clr A fuel loc σ=R):evS Φ Λ G (.whil fuel clr t A p) loc σ=R:=h
theorem lc_is {lc b:Nat} (hb:b < 256):(lc*256 ||| b) &&& 65535=lc % 256*256+b:=by
 rw [Nat.mul_comm lc,show 256*lc ||| b=256*lc+b from (Nat.two_pow_add_eq_or_of_lt (i:=8) hb lc).symm,show 65535=2 ^ 16 - 1 from rfl,Nat.and_two_pow_sub_one_eq_mod]
 (first | lia | omega)
theorem o_lc {lc b:Nat} (hb:b < 256):binop .BitAnd (.int ((lc*256 ||| b:Nat):Int)) (.int 65535) σ=some (.int ((lc % 256*256+b:Nat):Int),σ):=(o_and (b:=65535)).trans (by rw [lc_is hb])
theorem x_byte {s:W64} {b:Nat} (hk:σ.length=k) (hb:b < 256) (ho:s.ok) (hl:s.out.length < 900000) :
  loopStep (phi TT n) (lamN TT n) TT.G [6] b2L.t b2L.a (.int (b:Nat)) (.next,wl l k s.lb s.lc none) (ws σ (s.out.map sgn))=some (true,(.next,wl l k (b64byte s b).lb (b64byte s b).lc none),ws σ ((b64byte s b).out.map sgn)):=by
 obtain ⟨out,lb,lc⟩:=s
 obtain ⟨h1,h2⟩:=ho
 have main (lb':Nat) (out':List Nat) (h:whl (phi TT n) (lamN TT n) TT.G (match b2W with | .whil _ _ t _ _=>t | _=>.raw default) [] b2W.a 1000000 (wl l k ((lb:Int)+8) (lc % 256*256+b) (some (.int (b:Nat)))) (ws σ (out.map sgn))=some (.next,wl l k lb' (lc % 256*256+b) (some (.int (b:Nat))),ws σ (out'.map sgn))) :
   loopStep (phi TT n) (lamN TT n) TT.G [6] b2L.t b2L.a (.int (b:Nat)) (.next,wl l k lb lc none) (ws σ (out.map sgn))=some (true,(.next,wl l k lb' (lc % 256*256+b) none),ws σ (out'.map sgn)) :=
  u_next (t:=b2L.t) rfl (l_cons (s_assign (r_bin (r_bin (r_bin rfl rfl (o_shl (b:=8) (c:=lc*256) (Nat.lt_trans h2 (by decide)) (by decide) rfl)) rfl o_or) rfl (o_lc hb)) rfl) (l_cons (s_assign (r_bin rfl rfl rfl) rfl) (l_one (s_whil h)))) rfl
 have hl:out.length < 900000:=hl
 rcases h1 with rfl | rfl | rfl
 ·exact main 2 _ (w_turn (t_cmp rfl rfl rfl) (emit64 (s:=2) hk rfl (by (first | lia | omega))) rfl (w_stop (t_cmp rfl rfl rfl)))
 ·exact main 4 _ (w_turn (t_cmp rfl rfl rfl) (emit64 (s:=4) hk rfl (by (first | lia | omega))) rfl (w_stop (t_cmp rfl rfl rfl)))
 ·exact main 0 _ (w_turn (t_cmp rfl rfl rfl) (emit64 (s:=6) hk rfl (by (first | lia | omega))) rfl (w_turn (t_cmp rfl rfl rfl) (emit64 (s:=0) hk rfl (by rw [List.length_append]; exact Nat.lt_trans (Nat.succ_lt_succ hl) (by decide))) rfl (w_stop (t_cmp rfl rfl rfl))))
theorem x_bytes (hk:σ.length=k):∀ (bs:List Nat) (s:W64),(∀ b∈bs,b < 256)→s.ok→s.out.length+2*bs.length < 900000→(bs.foldl b64byte s).ok∧(bs.foldl b64byte s).out.length≤s.out.length+2*bs.length∧over (loopStep (phi TT n) (lamN TT n) TT.G [6] b2L.t b2L.a) (nts bs) (.next,wl l k s.lb s.lc none) (ws σ (s.out.map sgn))=some (true,(.next,wl l k (bs.foldl b64byte s).lb (bs.foldl b64byte s).lc none),ws σ ((bs.foldl b64byte s).out.map sgn))
 | [],s,_,h,_=>⟨h,Nat.le_refl _,rfl⟩
 | b :: bs,s,hb,ho,hl=>by
  rw [List.length_cons] at hl ⊢
  have hb0:=hb b (.head _)
  have h:=b64byte_ok (s:=s) hb0 ho
  have ih:=x_bytes hk bs (b64byte s b) (fun c hc=>hb c (.tail _ hc)) h.1 (by (first | lia | omega))
  exact ⟨ih.1,Nat.le_trans ih.2.1 (by (first | lia | omega)),over_cons (x_byte hk hb0 ho (by (first | lia | omega))) ih.2.2⟩
end
end Mine
namespace Mine
open PySem
section
variable {n k:Nat} {σ:Sto} {v w:V} {l:List Nat}
noncomputable def b64pad (s:W64):List Nat:=if s.lb=4 then (s.out++[s.lc % 16*4]).map sgn++[61] else s.out.map sgn
noncomputable def b64 (l:List Nat):List Nat:=b64pad (l.foldl b64byte ⟨[],0,0⟩)
theorem sgn_lt {k:Nat}:sgn k < 128:=by
 rcases Nat.lt_or_ge k 64 with h | h
 ·have:∀ k < 64,sgn k < 128:=by decide +kernel
  exact this k h
 ·unfold sgn
  rw [List.getD_eq_getElem?_getD,List.getElem?_eq_none h]
  decide
theorem pad_all {s:W64}:∀ c∈b64pad s,c < 128:=by
 have h (l:List Nat):∀ c∈l.map sgn,c < 128:=fun c hc=>(List.mem_map.mp hc).elim fun ζ h=>h.2▸sgn_lt
 unfold b64pad
 split
 ·intro c hc
  rcases List.mem_append.mp hc with hc | hc
  ·exact h _ c hc
  ·rw [List.mem_singleton.mp hc]; decide
 ·exact h _
theorem bytesOf_nts:∀ {l:List Nat},(∀ c∈l,c < 256)→bytesOf (nts l)=some l
 | [],_=>rfl
 | c :: l,h=>by
  have hc:=h c (.head _)
  show (if 0≤(c:Int)∧(c:Int) < 256 then (bytesOf (nts l)).map ((c:Int).toNat :: ·) else none)=_
  rw [if_pos (by (first | lia | omega)),bytesOf_nts fun d hd=>h d (.tail _ hd)]
  rfl
theorem c_bytes {v:V} {l:List Nat} (hv:lsV σ v=some (nts l)) (h:∀ c∈l,c < 256):callT .bytes [v] σ=some (.bytes l,σ):=by
 show ((lsV σ v).bind fun xs=>(bytesOf xs).map fun l=>(V.bytes l,σ))=_
 rw [hv]
 show (bytesOf (nts l)).map _=_
 rw [bytesOf_nts h]; rfl
noncomputable def SL.drop:SL→Nat→SL
 | l,0=>l
 | .cons _ r,k+1=>r.drop k
 | .nil,_+1=>.nil
theorem o_15 {lc:Nat}:binop .BitAnd (.int (lc:Nat)) (.int 15) σ=some (.int ((lc % 16:Nat):Int),σ):=(o_and (b:=15)).trans (by rw [show lc &&& 15=lc % 16 from Nat.and_two_pow_sub_one_eq_mod lc 4])
theorem x_pad {s:W64} (hk:σ.length=k) (ho:s.ok) (h2:s.lb≠2) (hl:s.out.length < 900000) :
  evSL (phi TT n) (lamN TT n) TT.G (b_b2a_base64.drop 6) (wl l k s.lb s.lc none) (ws σ (s.out.map sgn))=some (.ret (.bytes (b64pad s)),wl l k s.lb s.lc none,ws σ (b64pad s)):=by
 obtain ⟨out,lb,lc⟩:=s
 have hb:=pad_all (s:=⟨out,lb,lc⟩)
 have hb (c) (h:c∈b64pad ⟨out,lb,lc⟩):=Nat.lt_trans (hb c h) (show 128 < 256 by decide)
 have hl:out.length < 900000:=hl
 rcases ho.1 with rfl | rfl | rfl
 ·exact l_cons (s_no (t_cmp rfl rfl rfl) (l_one (s_no (t_cmp rfl rfl rfl) rfl))) (l_cons (s_no (t_of rfl rfl rfl) rfl) (l_one (s_ret (r_ty rfl (r_one rfl) (c_bytes (vlist_at hk) hb)))))
 ·exact absurd rfl h2
 ·have hm:∀ _:Nat,b64pad ⟨out,4,lc⟩=(out.map sgn++[sgn (lc % 16*4)])++[61]:=fun ζ=>by
   show (out++[_]).map sgn++[61]=_
   rw [List.map_append]; rfl
  rw [hm 0] at hb ⊢
  exact l_cons (s_no (t_cmp rfl rfl rfl) (l_one (s_yes (t_cmp rfl rfl rfl) (l_cons (put64 rfl hk (r_sub rfl (r_bin (r_bin rfl rfl o_15) rfl (o_shl (b:=2) (Nat.lt_trans (Nat.mod_lt _ (by decide)) (show 16 < _ by decide)) (by decide) rfl)) (sub64 (by (first | lia | omega)))) (by rw [List.length_map]; (first | lia | omega)))
   (l_one (put64 rfl hk rfl (by rw [List.length_append,List.length_map]; exact Nat.lt_trans (Nat.succ_lt_succ hl) (by decide)))))))) (l_cons (s_no (t_of rfl rfl rfl) rfl) (l_one (s_ret (r_ty rfl (r_one rfl) (c_bytes (vlist_at hk) hb)))))
theorem lb_mod:∀ {l:List Nat} {s:W64},(s.lb=0∨s.lb=2∨s.lb=4)→(l.foldl b64byte s).lb=(s.lb+2*l.length) % 6
 | [],s,h=>by show s.lb=(s.lb+0) % 6; (first | lia | omega)
 | b :: l,s,h=>by
  show (l.foldl b64byte (b64byte s b)).lb=_
  have:(b64byte s b).lb=(s.lb+2) % 6:=by
   unfold b64byte
   rcases h with h | h | h <;> rw [h] <;> rfl
  rw [lb_mod (by (first | lia | omega)),this,List.length_cons]; (first | lia | omega)
theorem x_b2a (h:Low σ) (hb:∀ b∈l,b < 256) (hl:l.length≤1000) (h1:l.length % 3≠1):phi TT (n+2) i_b2a_base64 [.bytes l,.bool false] σ=some (.bytes (b64 l),σ):=by
 have hx:=x_bytes (n:=n+1) (σ:=σ) (l:=l) rfl l ⟨[],0,0⟩ hb ⟨.inl rfl,by decide⟩ (by show 0+2*l.length < _; (first | lia | omega))
 have hm:=lb_mod (l:=l) (s:=⟨[],0,0⟩) (.inl rfl)
 refine f_call rfl rfl rfl (l_cons (s_assign (r_fn rfl (r_one rfl) x_buffer) rfl) (l_cons (s_assign (r_fn rfl (r_one rfl) x_truth) rfl) (l_cons (s_assign (r_list r_nil (by decide)) rfl) (l_cons (s_assign rfl rfl) (l_cons (s_assign rfl rfl)
  (l_cons (s_loop (x:=.bytes l) (vs:=nts l) rfl (by show some (It.items _,l.length)=_; rw [nts,List.length_map]) hx.2.2 rfl) (x_pad rfl hx.1 (by rw [hm]; show (0+2*l.length) % 6≠2; (first | lia | omega)) (Nat.lt_of_le_of_lt hx.2.1 (by show 0+2*l.length < _; (first | lia | omega))))))))) ) rfl (leave_cut rfl h rfl)
theorem x_b64encode (h:Low σ) (hb:∀ b∈l,b < 256) (hl:l.length≤1000) (h1:l.length % 3≠1):phi TT (n+3) i_b64encode [.bytes l] σ=some (.bytes (b64 l),σ) :=
 f_pad (f:=f_b64encode) rfl rfl rfl (l_cons (s_assign (r_kw rfl (r_one rfl) rfl (x_b2a h hb hl h1)) rfl) (l_cons (s_no (t_cmp rfl rfl rfl) rfl) (l_one (s_ret rfl)))) rfl (leave_same rfl rfl)
end
end Mine
namespace Mine
open PySem
section
variable {n m:Nat} {σ:Sto} {w:List Nat}
noncomputable def bslash (w:List Nat) (m:Nat):List Nat:=w.take (m / 4)++[92]++w.drop (m / 4)
noncomputable def written (w:List Nat) (m:Nat):List Nat:=if m % 4=3 then [34]++bslash w m++[34] else bslash w m++[([10,9,32]:List Nat).getD (m % 4) 0]
theorem piece_length:(bslash w m).length=w.length+1:=by
 unfold bslash
 rw [List.length_append,List.length_append,List.length_take,List.length_drop,List.length_singleton]
 omega
theorem written_length:(written w m).length≤w.length+3:=by
 have:=piece_length (w:=w) (m:=m)
 unfold written
 split
 ·rw [List.length_append,List.length_append]; exact Nat.le_of_eq (by rw [this,List.length_singleton]; (first | lia | omega))
 ·rw [List.length_append]; exact Nat.le_trans (Nat.le_of_eq (by rw [this,List.length_singleton])) (Nat.le_succ _)
theorem slice_to {k:Nat}:sliceV (.str w) .none (.int (k:Nat)) .none σ=some (.str (w.take k),σ):=by
 show some (V.str (cut w 0 (if 0≤(k:Int) then min k w.length else _)),σ)=_
 rw [if_pos (Int.natCast_nonneg _)]
 unfold cut
 rw [List.drop_zero,← List.take_eq_take_min]
theorem slice_from {k:Nat}:sliceV (.str w) (.int (k:Nat)) .none .none σ=some (.str (w.drop k),σ):=by
 show some (V.str (cut w (if 0≤(k:Int) then min k w.length else _) w.length),σ)=_
 rw [if_pos (Int.natCast_nonneg _)]
 unfold cut
 rw [List.take_length]
 rcases Nat.le_total k w.length with h | h
 ·rw [Nat.min_eq_left h]
 ·rw [Nat.min_eq_right h,List.drop_length,List.drop_eq_nil_of_le h]
theorem x_written (hl:w.length≤1000):phi TT (n+1) i__law_written [.str w,.int (m:Nat)] σ=some (.str (written w m),σ):=by
 have hp:=piece_length (w:=w) (m:=m)
 have h2:(bslash w m).length≤1001:=by (first | lia | omega)
 have h1:(w.take (m / 4)++[92]).length≤maxLen:=by rw [List.length_append,List.length_take,List.length_singleton]; unfold maxLen; (first | lia | omega)
 have g (c:List Nat) (hc:c.length≤2):(bslash w m++c).length≤maxLen:=by rw [List.length_append]; unfold maxLen; (first | lia | omega)
 refine f_call rfl rfl rfl (l_cons (s_assign (r_bin rfl rfl (o_divN (b:=4) rfl rfl)) rfl) (l_cons (s_assign (r_bin (r_bin (r_slice rfl rfl rfl rfl slice_to) rfl (o_str h1)) (r_slice rfl rfl rfl rfl slice_from) (o_str (Nat.le_trans h2 (by decide)))) rfl) (?_:evSL _ _ _ _ [some (.str w),some (.int m),some (.int (m / 4:Nat)),some (.str (bslash w m))] σ=some (.ret (.str (written w m)),[some (.str w),some (.int m),some (.int (m / 4:Nat)),some (.str (bslash w m))],σ)))) rfl (leave_same rfl rfl)
 have em (e:Nat) (h:m % 4=e):binop .Mod (.int (m:Nat)) (.int 4) σ=some (.int (e:Nat),σ):=o_modN (b:=4) (by decide) h
 have hc:m % 4=0∨m % 4=1∨m % 4=2∨m % 4=3:=by (first | lia | omega)
 unfold written
 rcases hc with hc | hc | hc | hc <;> rw [hc]
 ·exact l_cons (s_no (t_cmp (r_bin rfl rfl (em _ hc)) rfl rfl) rfl) (l_one (s_ret (r_bin rfl (r_sub rfl (r_bin rfl rfl (em _ hc)) rfl) (o_str (g _ (by decide))))))
 ·exact l_cons (s_no (t_cmp (r_bin rfl rfl (em _ hc)) rfl rfl) rfl) (l_one (s_ret (r_bin rfl (r_sub rfl (r_bin rfl rfl (em _ hc)) rfl) (o_str (g _ (by decide))))))
 ·exact l_cons (s_no (t_cmp (r_bin rfl rfl (em _ hc)) rfl rfl) rfl) (l_one (s_ret (r_bin rfl (r_sub rfl (r_bin rfl rfl (em _ hc)) rfl) (o_str (g _ (by decide))))))
 ·exact l_stop (s_yes (t_cmp (r_bin rfl rfl (em _ hc)) rfl rfl) (l_one (s_ret (r_bin (r_bin rfl rfl (o_str (by show (bslash w m).length+1≤maxLen; unfold maxLen; (first | lia | omega)))) rfl (o_str (by rw [List.length_append]; show (bslash w m).length+1+1≤maxLen; unfold maxLen; (first | lia | omega))))))) rfl
end
end Mine
namespace Mine
open PySem
section
variable {n k:Nat} {σ:Sto} {ns xs:List Int}
noncomputable abbrev NP:Nat:=2
noncomputable def σ0 (ns:List Int):Sto:=[.scr SCI ns]
noncomputable abbrev nbL:S:=b__law_numbers.get 1
theorem zts_at (h:k < xs.length):(zts xs)[k]?=some (.int xs[k]):=by
 unfold zts
 rw [List.getElem?_map,List.getElem?_eq_getElem h]; rfl
noncomputable abbrev nloc:Loc:=[some (.fn SCI),some (.ref 1),none]
theorem x_number (hk:k < ns.length) (hx:xs.length=NP):∃ ys:List Int,ys.length=NP∧loopStep (phi TT n) (lamN TT n) TT.G [2] nbL.t nbL.a (.int (k:Nat)) (.next,nloc) (σ0 ns++[.list (zts xs)])=some (true,(.next,nloc),σ0 ns++[.list (zts ys)]):=by
 have hm:k % NP < xs.length:=by rw [hx]; exact Nat.mod_lt k (by decide)
 refine ⟨xs.set (k % NP) (xs[k % NP]+ns[k]),by rw [List.length_set,hx],u_next (t:=nbL.t) rfl (l_one (s_augSub (x:=.ref 1) (y:=.int ((k % NP:Nat):Int)) (old:=.int xs[k % NP]) (v:=.int ns[k]) (r:=(.int (xs[k % NP]+ns[k]),σ0 ns++[.list (zts xs)])) rfl (r_bin rfl rfl (o_modN (b:=NP) (by decide) rfl)) ?_ (r_sub (x:=.fn SCI) (y:=.int (k:Nat)) rfl rfl ?_) rfl ?_)) rfl⟩
 ·show orO (pick (zts xs) _) _=_
  rw [pick_at (zts_at hm)]; rfl
 ·show orO none (orO none (orO none (orO none (pick (zts ns) (k:Int)))))=_
  rw [pick_at (zts_at hk)]; rfl
 ·show (if 0≤((k % NP:Nat):Int)∧((k % NP:Nat):Int) < ((zts xs).length:Int) then some ((σ0 ns++[O.list (zts xs)]).set 1 (.list ((zts xs).set (k % NP) (.int _)))) else none)=_
  rw [if_pos ⟨Int.natCast_nonneg _,by rw [zts,List.length_map]; exact Int.ofNat_lt.mpr hm⟩]
  unfold zts
  rw [← List.map_set]; rfl
theorem x_nums:∀ (ks:List Nat) (xs:List Int),(∀ k∈ks,k < ns.length)→xs.length=NP→∃ ys:List Int,ys.length=NP∧over (loopStep (phi TT n) (lamN TT n) TT.G [2] nbL.t nbL.a) (nts ks) (.next,nloc) (σ0 ns++[.list (zts xs)])=some (true,(.next,nloc),σ0 ns++[.list (zts ys)])
 | [],xs,_,hx=>⟨xs,hx,rfl⟩
 | k :: ks,xs,h,hx =>
  (x_number (n:=n) (h k (.head _)) hx).elim fun ys hy=>(x_nums ks ys (fun k hk=>h k (.tail _ hk)) hy.1).elim fun zs hz=>⟨zs,hz.1,over_cons hy.2 hz.2⟩
theorem x_numbers (hl:ns.length≤63):∃ xs:List Int,xs.length=NP∧phi TT (n+1) i__law_numbers [.fn SCI] (σ0 ns)=some (.lst (zts xs),σ0 ns):=by
 have e1:∃ x0:List Int,x0.length=NP∧evS (phi TT n) (lamN TT n) TT.G (b__law_numbers.get 0) [some (.fn SCI),none,none] (σ0 ns)=some (.next,nloc,σ0 ns++[.list (zts x0)]):=⟨[_,_],rfl,rfl⟩
 refine e1.elim fun x0 h0=>(x_nums (n:=n) (ns:=ns) (List.range ns.length) x0 (fun k hk=>List.mem_range.mp hk) h0.1).elim fun ys hy=>⟨ys,hy.1,?_⟩
 have hl':ns.length≤1048576:=Nat.le_trans hl (by decide)
 refine f_call rfl rfl rfl (l_cons h0.2 (l_cons (s_loop (x:=.rng 0 (ns.length:Nat) 1) (r_ty rfl (r_one (r_bi rfl (r_one rfl) (by show some (V.int ((ns.map V.int).length:Nat),_)=_; rw [List.length_map]))) (c_range hl')) (i_range hl') hy.2 rfl) (l_one (s_ret rfl)))) rfl (leave_list (σ:=σ0 ns) (k:=0) rfl rfl rfl (lowL_map fun ζ=>rfl))
end
end Mine
namespace Mine
open PySem
section
variable {n:Nat} {σ τ:Sto} {text:List Nat} {x pa pb:Nat} {c:Nat} {r:List Nat}
theorem r_readc {Φ:Calls} {Λ:Lexer} {G:Nat→Option V} {loc:Loc} {o:E} {q1 q2 q3 p:Pos} {v:V} {rr:V × Sto} (ho:evM Φ Λ G o false loc σ=some (v,τ)) (h:Λ .count [v] τ=some rr):evM Φ Λ G (.readc o q1 q2 q3 p) false loc σ=some rr:=ev_readc.trans (bnd ho h)
theorem s_inc {Φ:Calls} {Λ:Lexer} {G:Nat→Option V} {loc:Loc} {o:E} {q1 q2 p:Pos} {i:Nat} {σ':Sto} (ho:evM Φ Λ G o false loc σ=some (.ref i,τ)) (h:incC i τ=some σ'):evS Φ Λ G (.inc o q1 q2 p) loc σ=some (.next,loc,σ'):=es_inc.trans (bnd ho (bnd rfl (mpd h)))
variable (L:Lx x pa pb σ)
include L
theorem x_read (h:c :: r <:+ text):phi TT (n+2) i__read_char [.ref x] (atR text x pa pb σ (c :: r)++τ)=some (.str [c],atR text x pa pb σ r++τ):=by
 have hl {a b:Nat} {l l':Int}:(put text x pa pb σ a l++τ).length=(put text x pa pb σ b l'++τ).length:=by rw [List.length_append,List.length_append,put_len,put_len]
 have hc:=read_cons (τ:=τ) (l:=1+cnt text - cnt (c :: r)) L h
 by_cases e:c=10
 ·subst e
  refine f_call rfl rfl rfl (l_cons (s_assign (r_readc (τ:=atR text x pa pb σ (10 :: r)++τ) rfl hc) rfl) (l_cons (s_yes (t_cmp rfl rfl rfl) (l_one (s_inc rfl (mpd (put_x L))))) (l_one (s_ret rfl)))) rfl (leave_same ?_ rfl |>.trans ?_)
  ·rw [List.length_set]; exact hl
  ·rw [put_line L,cnt_10,show 1+cnt text - (cnt r+1)+1=1+cnt text - cnt r by (first | lia | omega)]
 ·refine f_call rfl rfl rfl (l_cons (s_assign (r_readc (τ:=atR text x pa pb σ (c :: r)++τ) rfl hc) rfl) (l_cons (s_no (t_cmp rfl rfl (q_str (by rw [List.cons_beq_cons,beq_false_of_ne e]; rfl))) rfl) (l_one (s_ret rfl)))) rfl (leave_same hl rfl |>.trans ?_)
  rw [cnt_ne e]
theorem x_read0:phi TT (n+2) i__read_char [.ref x] (atR text x pa pb σ []++τ)=some (.str [],atR text x pa pb σ []++τ) :=
 f_call rfl rfl rfl (l_cons (s_assign (r_readc (τ:=atR text x pa pb σ []++τ) rfl (read_nil L)) rfl) (l_cons (s_no (t_cmp rfl rfl rfl) rfl) (l_one (s_ret rfl)))) rfl (leave_same rfl rfl)
end
end Mine
namespace Mine
open PySem
section
variable {rd:V→Sto→Option (V × Sto)} {step:V→Fl × Loc→Sto→Option (Bool × (Fl × Loc) × Sto)} {j f x:Nat} {st st':Fl × Loc} {σ σ1 σ2:Sto} {c:Nat} {R:Option (Bool × (Fl × Loc) × Sto)}
theorem f_read (h:citI σ j=some (x,false)) (hr:rd (.ref x) σ=some (.str [c],σ1)) (h1:citI σ1 j=some (x,false)):fitNext rd j σ=some (some [c],σ1):=bnd h (bnd hr (bnd rfl (bnd h1 (if_pos rfl))))
theorem f_turn (h:fitNext rd j σ=some (some [c],σ1)) (hs:step (.str [c]) st σ1=some (true,st',σ2)) (hn:fitN rd step j f st' σ2=R):fitN rd step j (f+1) st σ=R:=bnd h (bnd hs hn)
theorem f_stop (h:fitNext rd j σ=some (some [c],σ1)) (hs:step (.str [c]) st σ1=some (false,st',σ2)):fitN rd step j (f+1) st σ=some (false,st',σ2):=bnd h (bnd hs rfl)
theorem f_over (h:fitNext rd j σ=some (none,σ1)):fitN rd step j (f+1) st σ=some (true,st,σ1):=bnd h rfl
theorem s_fitr {Φ:Calls} {Λ:Lexer} {G:Nat→Option V} {loc:Loc} {i:Nat} {q p:Pos} {it:E} {A B:SL} {y:Bool × (Fl × Loc) × Sto} {R:Option (Fl × Loc × Sto)} (hi:evM Φ Λ G it false loc σ=some (.ref j,σ1)) (ho:fitN (fun v σ=>Λ .read_char [v] σ) (loopStep Φ Λ G [] (.name i q) A) j f (.next,loc) σ1=some y) (h:endF (fun loc σ=>evSL Φ Λ G B loc σ) y=R):evS Φ Λ G (.fitr f i q it A B p) loc σ=R :=
 es_fitr.trans (bnd hi (bnd rfl (bnd ho h)))
end
inductive InW (stp:Nat→Bool):List Nat→List Nat→Prop where
 | nil:InW stp [] []
 | plain {c u t}:stp c=false→c≠92→InW stp u t→InW stp (c :: u) (c :: t)
 | back {d u t}:InW stp u t→InW stp (92 :: d :: u) (d :: t)
section
variable {n:Nat} {σ:Sto} {text:List Nat} {x pa pb:Nat} {c:Nat} {r:List Nat} {b:Bool}
noncomputable abbrev gO:S:=b_get_token.get 3
noncomputable abbrev gQ:S:=(gO.a.get 1).a.get 0
noncomputable abbrev gU:S:=(gO.a.get 1).b.get 2
noncomputable abbrev gl (x j:Nat) (acc:List Nat) (ch:Option V):Loc:=[some (.ref x),some (.str acc),some (.ref j),ch]
noncomputable abbrev R2 (text:List Nat) (x pa pb:Nat) (σ:Sto) (r:List Nat) (b:Bool):Sto:=atR text x pa pb σ r++[.cit x b]
noncomputable abbrev rdL (n:Nat):V→Sto→Option (V × Sto):=fun v s=>lamN TT (n+2) .read_char [v] s
theorem cit_at {k:Nat} {l:Int}:citI (put text x pa pb σ k l++[.cit x b]) σ.length=some (x,b):=by
 unfold citI
 rw [← put_len (text:=text) (x:=x) (pa:=pa) (pb:=pb) (k:=k) (l:=l),List.getElem?_append_right (Nat.le_refl _),Nat.sub_self]; rfl
section
variable (L:Lx x pa pb σ)
include L
theorem n_cons (h:c :: r <:+ text):fitNext (rdL n) σ.length (R2 text x pa pb σ (c :: r) false)=some (some [c],R2 text x pa pb σ r false) :=
 f_read cit_at (x_read (n:=n) L h) cit_at
theorem n_nil:fitNext (rdL n) σ.length (R2 text x pa pb σ [] false)=some (none,R2 text x pa pb σ [] true):=by
 refine bnd cit_at (bnd (x_read0 (n:=n) L) (bnd rfl (bnd cit_at ((if_pos rfl).trans ((if_pos rfl).trans ?_)))))
 rw [List.set_append_right _ _ (Nat.le_of_eq put_len),put_len,Nat.sub_self]; rfl
omit L in
theorem n_done:fitNext (rdL n) σ.length (R2 text x pa pb σ r true)=some (none,R2 text x pa pb σ r true):=bnd cit_at rfl
theorem rv_lex {τ:Sto}:recv (atR text x pa pb σ r++τ) (.ref x)=some 2:=by
 show (match (atR text x pa pb σ r++τ)[x]? with
  | some (.list _)=>some 1
  | some (.lex ..)=>some 2
  | _=>none)=_
 rw [get_x L]
theorem s_back {loc:Loc} {i k:Nat} {q1 q2 q3 q4 p:Pos} (h:c :: r <:+ text) (hi:loc[i]?=some (some (.ref x))) {l1:Loc} (hb:bindT (.name k q1) (.str [c]) loc (R2 text x pa pb σ r b)=some l1):evS (phi TT (n+2)) (lamN TT (n+2)) TT.G (.assign (.name k q1) (.meth (.var i q2) .read_char .nil q3 q4) p) loc (R2 text x pa pb σ (c :: r) b)=some (.next,l1,R2 text x pa pb σ r b) :=
 s_assign (r_meth (x:=.ref x) (bnd hi rfl) (rv_lex L) r_nil (x_read (n:=n) L h)) hb
end
theorem a_str {s t:List Nat} (h:s.length+t.length≤1000000) {τ:Sto}:augop .Add (.str s) (.str t) τ=some (.str (s++t),τ):=by
 show orO none (if (s++t).length≤maxLen then some (V.str (s++t),τ) else none)=_
 rw [if_pos (by rw [List.length_append]; exact Nat.le_trans h (by decide))]; rfl
structure WStep (n:Nat) (text:List Nat) (x pa pb:Nat) (σ:Sto) (stp:Nat→Bool) (step:V→Fl × Loc→Sto→Option (Bool × (Fl × Loc) × Sto)):Prop where
 close:∀ c acc r ch,stp c=true→step (.str [c]) (.next,gl x σ.length acc ch) (R2 text x pa pb σ r false)=some (false,(.ret (.str acc),gl x σ.length acc (some (.str [c]))),R2 text x pa pb σ r false)
 plain:∀ c acc r ch,stp c=false→c≠92→acc.length+1≤1000000→step (.str [c]) (.next,gl x σ.length acc ch) (R2 text x pa pb σ r false)=some (true,(.next,gl x σ.length (acc++[c]) (some (.str [c]))),R2 text x pa pb σ r false)
 back:∀ d acc r ch,d :: r <:+ text→acc.length+1≤1000000→step (.str [92]) (.next,gl x σ.length acc ch) (R2 text x pa pb σ (d :: r) false)=some (true,(.next,gl x σ.length (acc++[d]) (some (.str [d]))),R2 text x pa pb σ r false)
noncomputable abbrev stQ (n:Nat):=loopStep (phi TT (n+2)) (lamN TT (n+2)) TT.G [] gQ.t gQ.a
noncomputable abbrev stU (n:Nat):=loopStep (phi TT (n+2)) (lamN TT (n+2)) TT.G [] gU.t gU.a
noncomputable abbrev isQ (c:Nat):Bool:=c==34
theorem one_beq {a b:Nat}:([a]==[b])=(a==b):=by rw [List.cons_beq_cons]; exact Bool.and_true _
theorem ws_in {c:Nat}:(subAt [c] [10,9,13,32] 0).isSome=wsp c:=by
 have h (k:Nat) (l:List Nat) (i:Nat):(subAt [c] (k :: l) i).isSome=(k==c||(subAt [c] l (i+1)).isSome):=by
  show (if ((c==k)&&true)=true then some i else subAt [c] l (i+1)).isSome=_
  rw [Bool.and_true,BEq.comm (a:=c)]
  cases k==c <;> rfl
 rw [h,h,h,h]
 unfold wsp
 rw [BEq.comm (a:=c),BEq.comm (a:=c),BEq.comm (a:=c),BEq.comm (a:=c)]
 cases 10==c <;> cases 9==c <;> cases 13==c <;> cases 32==c <;> rfl
variable (L:Lx x pa pb σ)
include L
theorem t_ws {loc:Loc} {i k:Nat} {q1 q2 q3 p:Pos} {h:wsp c=b} (hc:loc[k]?=some (some (.str [c]))) (hi:loc[i]?=some (some (.ref x))) {τ:Sto}:evT (phi TT (n+2)) (lamN TT (n+2)) TT.G (.cmp .In (.var k q1) (.attr (.var i q2) .whitespace q3) p) loc (atR text x pa pb σ r++τ)=some (b,atR text x pa pb σ r++τ) :=
 t_cmp (bnd hc rfl) (r_attr (x:=.ref x) (bnd hi rfl) (bnd rfl (bnd (put_x L) rfl))) (congrArg some (ws_in.trans h))
theorem w_Q:WStep n text x pa pb σ isQ (stQ n) where
 close c acc r ch h:=u_ret (t:=gQ.t) rfl (l_stop (s_yes (t_cmp rfl rfl (q_str (one_beq.trans h))) (l_one (s_ret rfl))) rfl)
 plain c acc r ch h h2 hl:=u_next (t:=gQ.t) rfl (l_cons (s_no (t_cmp rfl rfl (q_str (one_beq.trans h))) (l_one (s_no (t_cmp rfl rfl (q_str (one_beq.trans (beq_false_of_ne h2)))) rfl))) (l_one (s_aug rfl rfl (a_str hl)))) rfl
 back d acc r ch h hl:=u_next (t:=gQ.t) rfl (l_cons (s_no (t_cmp rfl rfl rfl) (l_one (s_yes (t_cmp rfl rfl rfl) (l_one (s_back L h rfl rfl))))) (l_one (s_aug rfl rfl (a_str hl)))) rfl
theorem w_U:WStep n text x pa pb σ wsp (stU n) where
 close c acc r ch h:=u_ret (t:=gU.t) rfl (l_stop (s_yes (t_ws L (h:=h) rfl rfl) (l_one (s_ret rfl))) rfl)
 plain c acc r ch h h2 hl:=u_next (t:=gU.t) rfl (l_cons (s_no (t_ws L (h:=h) rfl rfl) (l_one (s_no (t_cmp rfl rfl (q_str (one_beq.trans (beq_false_of_ne h2)))) rfl))) (l_one (s_aug rfl rfl (a_str hl)))) rfl
 back d acc r ch h hl:=u_next (t:=gU.t) rfl (l_cons (s_no (t_ws L (c:=92) (b:=false) (h:=rfl) rfl rfl) (l_one (s_yes (t_cmp rfl rfl rfl) (l_one (s_back L h rfl rfl))))) (l_one (s_aug rfl rfl (a_str hl)))) rfl
theorem w_loop {stp:Nat→Bool} {step:V→Fl × Loc→Sto→Option (Bool × (Fl × Loc) × Sto)} (W:WStep n text x pa pb σ stp step) {s:Nat} (hs:stp s=true) {u t:List Nat} (hw:InW stp u t):∀ (f:Nat) (acc:List Nat) (ch:Option V),u++s :: r <:+ text→u.length < f→acc.length+u.length≤1000000 →
  ∃ ch',fitN (rdL n) step σ.length f (.next,gl x σ.length acc ch) (R2 text x pa pb σ (u++s :: r) false)=some (false,(.ret (.str (acc++t)),gl x σ.length (acc++t) ch'),R2 text x pa pb σ r false):=by
 induction hw with
 | nil =>
  intro f acc ch h hf hl
  obtain ⟨f,rfl⟩:=Nat.exists_eq_add_of_lt hf
  rw [List.append_nil]
  exact ⟨_,f_stop (n_cons L h) (W.close s acc r ch hs)⟩
 | @plain c u t h1 h2 _ ih =>
  intro f acc ch h hf hl
  rw [List.length_cons] at hf hl
  obtain ⟨f,rfl⟩:=Nat.exists_eq_add_of_lt hf
  have:=ih (u.length+1+f) (acc++[c]) (some (.str [c])) (suf_tail h) (by (first | lia | omega)) (by rw [List.length_append,List.length_singleton]; (first | lia | omega))
  rw [List.append_assoc] at this
  exact this.elim fun ch' e=>⟨ch',f_turn (n_cons L h) (W.plain c acc _ ch h1 h2 (by (first | lia | omega))) e⟩
 | @back d u t _ ih =>
  intro f acc ch h hf hl
  rw [List.length_cons,List.length_cons] at hf hl
  obtain ⟨f,rfl⟩:=Nat.exists_eq_add_of_lt hf
  have:=ih (u.length+1+1+f) (acc++[d]) (some (.str [d])) (suf_tail (suf_tail h)) (by (first | lia | omega)) (by rw [List.length_append,List.length_singleton]; (first | lia | omega))
  rw [List.append_assoc] at this
  exact this.elim fun ch' e=>⟨ch',f_turn (n_cons L h) (W.back d acc _ ch (suf_tail h) (by (first | lia | omega))) e⟩
end
end Mine
namespace Mine
open PySem
inductive Word:List Nat→List Nat→Prop where
 | quote {u t}:InW isQ u t→Word (34 :: (u++[34])) t
 | plain {c u t s}:wsp c=false→c≠34→c≠92→InW wsp u t→wsp s=true→Word (c :: (u++[s])) (c :: t)
 | back {d u t s}:InW wsp u t→wsp s=true→Word (92 :: d :: (u++[s])) (d :: t)
section
variable {n:Nat} {σ:Sto} {text:List Nat} {x pa pb:Nat} {r:List Nat}
theorem r_fit {Φ:Calls} {Λ:Lexer} {G:Nat→Option V} {loc:Loc} {g:Nat} {o:E} {q1 q2 q3 p:Pos} {i:Nat} {τ:Sto} {rr:V × Sto} (hg:G g=some (.bi .iter)) (ho:evM Φ Λ G o false loc σ=some (.ref i,τ)) (h:fitC i τ=some rr):evM Φ Λ G (.fit g o q1 q2 q3 p) false loc σ=some rr:=ev_fit.trans (bnd hg (bnd ho (bnd rfl h)))
variable (L:Lx x pa pb σ)
include L
theorem get_of {u:List Nat} {t:List Nat} {loc':Loc} {y:Fl} {b:Bool} (he:vlist σ pb=some []) (h:evSL (phi TT (n+2)) (lamN TT (n+2)) TT.G (b_get_token.drop 3) (gl x σ.length [] none) (R2 text x pa pb σ u false)=some (y,loc',R2 text x pa pb σ r b)) (hy:retV y=some (.str t)) :
  phi TT (n+3) i_get_token [.ref x] (atR text x pa pb σ u)=some (.str t,atR text x pa pb σ r):=by
 refine f_call rfl rfl rfl (l_cons (s_no (t_of rfl (r_attr (v:=.ref pb) rfl (bnd rfl (bnd (put_x0 L) rfl))) (mpd (put_b0 L |>.trans he))) rfl) (l_cons (s_assign rfl rfl) (l_cons (s_assign (r_fit rfl rfl ((mpd (put_x0 L)).trans (by rw [put_len]))) rfl) h))) hy (leave_cut (put_len.trans put_len.symm) (put_low L) rfl)
theorem o_first {c:Nat} (hw:wsp c=false):evS (phi TT (n+2)) (lamN TT (n+2)) TT.G (gO.a.get 0) (gl x σ.length [] (some (.str [c]))) (R2 text x pa pb σ r false)=some (.next,gl x σ.length [] (some (.str [c])),R2 text x pa pb σ r false) :=
 s_no (t_ws L (h:=hw) rfl rfl) rfl
theorem o_ret {c:Nat} {u t:List Nat} {loc':Loc} {B:SL} (h:c :: u <:+ text) (hw:wsp c=false) (hs:evS (phi TT (n+2)) (lamN TT (n+2)) TT.G (gO.a.get 1) (gl x σ.length [] (some (.str [c]))) (R2 text x pa pb σ u false)=some (.ret (.str t),loc',R2 text x pa pb σ r false)) :
  evSL (phi TT (n+2)) (lamN TT (n+2)) TT.G (.cons gO B) (gl x σ.length [] none) (R2 text x pa pb σ (c :: u) false)=some (.ret (.str t),loc',R2 text x pa pb σ r false) :=
 l_stop (s_fitr rfl (f_stop (n_cons L h) (u_ret (t:=gO.t) rfl (l_cons (o_first L hw) (l_one hs)))) rfl) rfl
theorem x_word {u t:List Nat} (hu:Word u t) (h:u++r <:+ text) (hl:text.length≤900000) (he:vlist σ pb=some []):phi TT (n+3) i_get_token [.ref x] (atR text x pa pb σ (u++r))=some (.str t,atR text x pa pb σ r):=by
 have hn:=Nat.le_trans h.length_le hl
 cases hu with
 | @quote u _ hi =>
  rw [List.length_append,List.length_cons,List.length_append] at hn
  have e:34 :: (u++[34])++r=34 :: (u++34 :: r):=by rw [List.cons_append,List.append_assoc]; rfl
  rw [e] at h ⊢
  exact (w_loop L (w_Q (n:=n) L) rfl hi 1000000 [] (some (.str [34])) (suf_tail h) (by (first | lia | omega)) (by rw [List.length_nil]; (first | lia | omega))).elim fun ch' hw =>
   get_of L he (o_ret L h rfl (s_yes (t_cmp rfl rfl rfl) (l_one (s_fitr rfl hw rfl)))) rfl
 | @plain c u t s hw h1 h2 hi hs =>
  rw [List.length_append,List.length_cons,List.length_append] at hn
  have e:c :: (u++[s])++r=c :: (u++s :: r):=by rw [List.cons_append,List.append_assoc]; rfl
  rw [e] at h ⊢
  exact (w_loop L (w_U (n:=n) L) hs hi 1000000 [c] (some (.str [c])) (suf_tail h) (by (first | lia | omega)) (by rw [List.length_singleton]; (first | lia | omega))).elim fun ch' hl =>
   get_of L he (o_ret L h hw (s_no (t_cmp rfl rfl (q_str (one_beq.trans (beq_false_of_ne h1)))) (l_cons (s_no (t_cmp rfl rfl (q_str (one_beq.trans (beq_false_of_ne h2)))) rfl) (l_cons (s_aug rfl rfl (a_str (s:=[]) (t:=[c]) (Nat.le_of_ble_eq_true rfl))) (l_one (s_fitr rfl hl rfl)))))) rfl
 | @back d u t s hi hs =>
  rw [List.length_append,List.length_cons,List.length_cons,List.length_append] at hn
  have e:92 :: d :: (u++[s])++r=92 :: d :: (u++s :: r):=by rw [List.cons_append,List.cons_append,List.append_assoc]; rfl
  rw [e] at h ⊢
  exact (w_loop L (w_U (n:=n) L) hs hi 1000000 [d] (some (.str [d])) (suf_tail (suf_tail h)) (by (first | lia | omega)) (by rw [List.length_singleton]; (first | lia | omega))).elim fun ch' hl =>
   get_of L he (o_ret L h rfl (s_no (t_cmp rfl rfl rfl) (l_cons (s_yes (t_cmp rfl rfl rfl) (l_one (s_back L (suf_tail h) rfl rfl))) (l_cons (s_aug rfl rfl (a_str (s:=[]) (t:=[d]) (Nat.le_of_ble_eq_true rfl))) (l_one (s_fitr rfl hl rfl)))))) rfl
theorem x_end (he:vlist σ pb=some []):phi TT (n+3) i_get_token [.ref x] (atR text x pa pb σ [])=some (.str [],atR text x pa pb σ []) :=
 get_of L he (l_cons (s_fitr rfl (f_over (n_nil L)) rfl) (l_one (s_ret rfl))) rfl
theorem x_dot (h:[13,32,46] <:+ text) (he:vlist σ pb=some []):phi TT (n+3) i_get_token [.ref x] (atR text x pa pb σ [13,32,46])=some (.str [46],atR text x pa pb σ []):=by
 have u (c:Nat) (hw:wsp c=true) {r:List Nat} {ch:Option V}:loopStep (phi TT (n+2)) (lamN TT (n+2)) TT.G [] gO.t gO.a (.str [c]) (.next,gl x σ.length [] ch) (R2 text x pa pb σ r false)=some (true,(.next,gl x σ.length [] (some (.str [c]))),R2 text x pa pb σ r false) :=
  u_cont (t:=gO.t) rfl (l_stop (s_yes (t_ws L (h:=hw) rfl rfl) (l_one rfl)) rfl) rfl
 exact get_of L he (l_cons (s_fitr rfl (f_turn (n_cons L h) (u 13 rfl) (f_turn (n_cons L (suf_tail h)) (u 32 rfl) (f_turn (n_cons L (suf_tail (suf_tail h))) (u_next (t:=gO.t) rfl (l_cons (o_first L (c:=46) rfl) (l_one (s_no (t_cmp rfl rfl rfl) (l_cons (s_no (t_cmp rfl rfl rfl) rfl) (l_cons (s_aug rfl rfl (a_str (s:=[]) (t:=[46]) (Nat.le_of_ble_eq_true rfl))) (l_one (s_fitr rfl (f_over (n_nil L)) rfl))))))) rfl) (f_over n_done)))) rfl) (l_one (s_ret rfl))) rfl
theorem x_pop {w:V} {ws:List V} (he:vlist σ pb=some (w :: ws)) (hw:w.low σ.length=true):phi TT (n+1) i_get_token [.ref x] (atR text x pa pb σ r)=some (w,atR text x pa pb (σ.set pb (.list ws)) r) :=
 f_call rfl rfl rfl (l_stop (s_yes (t_of rfl (r_attr (v:=.ref pb) rfl (bnd rfl (bnd (put_x0 L) rfl))) (mpd (put_b0 L |>.trans he))) (l_one (s_ret (r_meth (r_attr (v:=.ref pb) rfl (bnd rfl (bnd (put_x0 L) rfl))) (recv_c (put_b0 L |>.trans he)) (r_one rfl) (m_pop (put_b0 L |>.trans he)))))) rfl) rfl
  ((leave_same (List.length_set ..) (by rw [put_len]; exact hw)).trans (congrArg (Prod.mk _) (put_wait L)))
theorem x_push {w:V} {ws:List V} (he:vlist σ pb=some ws) (hl:ws.length < maxLen):phi TT (n+1) i_push_token [.ref x,w] (atR text x pa pb σ r)=some (.none,atR text x pa pb (σ.set pb (.list (ws++[w]))) r) :=
 f_call rfl rfl rfl (l_one (s_expr (r_meth (r_attr (v:=.ref pb) rfl (bnd rfl (bnd (put_x0 L) rfl))) (recv_c (put_b0 L |>.trans he)) (r_one rfl) (m_append (put_b0 L |>.trans he) hl)))) rfl
  ((leave_same (List.length_set ..) rfl).trans (congrArg (Prod.mk _) (put_wait L)))
end
end Mine
namespace Mine
open PySem
noncomputable def plainC (c:Nat):Bool:=!(wsp c)&&!(c==34)&&!(c==92)
noncomputable abbrev plainW (w:List Nat):Prop:=∀ c∈w,plainC c=true
theorem plainC_of {c:Nat} (h:plainC c=true):wsp c=false∧c≠34∧c≠92:=by
 have h:=Bool.and_eq_true_iff.mp h
 have g:=Bool.and_eq_true_iff.mp h.1
 exact ⟨(Bool.not_eq_true' _).mp g.1,ne_of_beq_false ((Bool.not_eq_true' _).mp g.2),ne_of_beq_false ((Bool.not_eq_true' _).mp h.2)⟩
section
variable {stp:Nat→Bool} {w:List Nat} {m:Nat}
theorem in_word (hs:∀ c,plainC c=true→stp c=false) {u t:List Nat} (h:InW stp u t):∀ {w:List Nat},plainW w→InW stp (w++u) (w++t)
 | [],_=>h
 | _ :: _,hw=>.plain (hs _ (hw _ (.head _))) (plainC_of (hw _ (.head _))).2.2 (in_word hs h fun c hc=>hw c (.tail _ hc))
theorem in_all (hs:∀ c,plainC c=true→stp c=false) (hw:plainW w):InW stp w w:=by
 have:=in_word hs .nil hw
 rwa [List.append_nil] at this
theorem isQ_plain (c:Nat) (h:plainC c=true):isQ c=false:=beq_false_of_ne (plainC_of h).2.1
theorem wsp_plain (c:Nat) (h:plainC c=true):wsp c=false:=(plainC_of h).1
theorem written_word (hw:plainW w) (hm:m / 4 < w.length):Word (written w m) w:=by
 have ht:plainW (w.take (m / 4)):=fun c hc=>hw c (List.mem_of_mem_take hc)
 have hd:plainW (w.drop (m / 4+1)):=fun c hc=>hw c (List.mem_of_mem_drop hc)
 have e:w.drop (m / 4)=w[m / 4] :: w.drop (m / 4+1):=List.drop_eq_getElem_cons hm
 have hj:w.take (m / 4)++(w[m / 4] :: w.drop (m / 4+1))=w:=by rw [← e,List.take_append_drop]
 have hb:bslash w m=w.take (m / 4)++(92 :: w[m / 4] :: w.drop (m / 4+1)):=by
  unfold bslash
  rw [e,List.append_assoc]; rfl
 unfold written
 rw [hb]
 split
 ·have:=in_word isQ_plain (.back (d:=w[m / 4]) (in_all isQ_plain hd)) ht
  rw [hj] at this
  exact .quote this
 ·have hz:wsp (([10,9,32]:List Nat).getD (m % 4) 0)=true:=by
   have h4:m % 4=0∨m % 4=1∨m % 4=2:=by (first | lia | omega)
   rcases h4 with h | h | h <;> rw [h] <;> rfl
  cases hc:w.take (m / 4) with
  | nil =>
   rw [hc] at hj
   have:=Word.back (d:=w[m / 4]) (in_all wsp_plain hd) hz
   rwa [show w[m / 4] :: w.drop (m / 4+1)=w from hj] at this
  | cons c t =>
   rw [hc] at hj ht
   have h0:=plainC_of (ht c (.head _))
   have:=Word.plain h0.1 h0.2.1 h0.2.2 (in_word wsp_plain (.back (d:=w[m / 4]) (in_all wsp_plain hd)) fun c hc=>ht c (.tail _ hc)) hz
   rwa [show c :: (t++_ :: w.drop (m / 4+1))=w from hj] at this
theorem sgT_plain {h:Row→Bool} {d:Nat} {tb:List Row} (hd:plainC d=true) (hb:tb.all (fun x=>plainC x.2)=true):plainC (sgT h d tb)=true:=by
 unfold sgT
 cases e:tb.find? h with
 | none=>exact hd
 | some x=>exact List.all_eq_true.mp hb x (List.mem_of_find?_eq_some e)
theorem fmode_plain {m:Int}:plainW (fmode m):=by
 intro c hc
 cases hc with
 | head=>exact sgT_plain rfl (by decide)
 | tail _ hc=>exact (List.mem_map.mp hc).elim fun tb h=>h.2▸sgT_plain rfl (List.all_eq_true.mp (show ftabs.all (fun tb=>tb.all fun x=>plainC x.2)=true by decide) tb h.1)
theorem sgn_plain {k:Nat} (h:k < 64):plainC (sgn k)=true:=by
 have:∀ k < 64,plainC (sgn k)=true:=by decide +kernel
 exact this k h
end
end Mine
namespace Mine
open PySem
section
variable {m x y:Nat}
noncomputable abbrev bitB (m k:Nat):Bool:=m / 2 ^ k % 2==1
theorem and_pow {k:Nat}:m &&& 2 ^ k=if bitB m k then 2 ^ k else 0:=by
 refine Nat.eq_of_testBit_eq fun i=>?_
 have hb:bitB m k=m.testBit k:=by rw [Nat.testBit_eq_decide_div_mod_eq]; rfl
 rw [Nat.testBit_and,Nat.testBit_two_pow,hb]
 by_cases e:k=i
 ·subst e
  rw [decide_eq_true rfl,Bool.and_true]
  cases m.testBit k
  ·rw [if_neg (by decide),Nat.zero_testBit]
  ·rw [if_pos rfl,Nat.testBit_two_pow,decide_eq_true rfl]
 ·rw [decide_eq_false e,Bool.and_false]
  cases m.testBit k
  ·rw [if_neg (by decide),Nat.zero_testBit]
  ·rw [if_pos rfl,Nat.testBit_two_pow,decide_eq_false e]
theorem hit_pow {k c:Nat}:hit1 (m:Int) (((2 ^ k:Nat):Int),c)=bitB m k:=by
 unfold hit1
 rw [bAnd,and_pow,Bool.eq_iff_iff,beq_iff_eq,Int.natCast_inj]
 have:2 ^ k≠0:=Nat.ne_of_gt (Nat.two_pow_pos k)
 cases bitB m k
 ·exact ⟨fun h=>absurd h.symm this,fun h=>nomatch h⟩
 ·exact ⟨fun ζ=>rfl,fun ζ=>rfl⟩
theorem hit_two {j k c:Nat}:hit1 (m:Int) (((2 ^ j ||| 2 ^ k:Nat):Int),c)=(bitB m j&&bitB m k):=by
 unfold hit1
 have h (z:Nat):(m &&& 2 ^ z=2 ^ z)↔bitB m z=true:=by
  have:=hit_pow (m:=m) (k:=z) (c:=0)
  unfold hit1 at this
  rw [bAnd] at this
  rw [← this,beq_iff_eq,Int.natCast_inj]
 rw [bAnd,Bool.eq_iff_iff,beq_iff_eq,Int.natCast_inj,Bool.and_eq_true,← h j,← h k,Nat.and_or_distrib_left]
 constructor
 ·intro e
  have a1:=congrArg (· &&& 2 ^ j) e
  have a2:=congrArg (· &&& 2 ^ k) e
  simp only [← Nat.and_or_distrib_left,Nat.and_assoc] at a1 a2
  have s1:(2 ^ j ||| 2 ^ k) &&& 2 ^ j=2 ^ j:=by
   refine Nat.eq_of_testBit_eq fun i=>?_
   rw [Nat.testBit_and,Nat.testBit_or]
   cases (2 ^ j).testBit i <;> simp
  have s2:(2 ^ j ||| 2 ^ k) &&& 2 ^ k=2 ^ k:=by
   refine Nat.eq_of_testBit_eq fun i=>?_
   rw [Nat.testBit_and,Nat.testBit_or]
   cases (2 ^ k).testBit i <;> simp
  rw [s1] at a1
  rw [s2] at a2
  exact ⟨a1,a2⟩
 ·intro e
  rw [e.1,e.2]
noncomputable def sgR (b:Bool) (c:Nat):Nat:=if b then c else 45
noncomputable def sgX (s x:Bool) (c d:Nat):Nat:=if s&&x then c else if s then d else if x then 120 else 45
theorem sgT_one {k c:Nat}:sgT (hit1 (m:Int)) 45 [(((2 ^ k:Nat):Int),c)]=sgR (bitB m k) c:=by
 unfold sgT sgR
 rw [List.find?_cons,hit_pow]
 cases bitB m k <;> rfl
theorem sgT_three {j k c d:Nat}:sgT (hit1 (m:Int)) 45 [(((2 ^ j ||| 2 ^ k:Nat):Int),c),(((2 ^ j:Nat):Int),d),(((2 ^ k:Nat):Int),120)]=sgX (bitB m j) (bitB m k) c d:=by
 unfold sgT sgX
 rw [List.find?_cons,hit_two,List.find?_cons,hit_pow,List.find?_cons,hit_pow]
 cases bitB m j <;> cases bitB m k <;> rfl
noncomputable def rowB (b:Nat→Bool):List Nat:=[sgR (b 8) 114,sgR (b 7) 119,sgX (b 11) (b 6) 115 83,sgR (b 5) 114,sgR (b 4) 119,sgX (b 10) (b 3) 115 83,sgR (b 2) 114,sgR (b 1) 119,sgX (b 9) (b 0) 116 84]
theorem fmode_bits:fmode (m:Int)=sgT (hit0 (m:Int)) 63 ftab0 :: rowB (bitB m):=by
 have h:ftabs.map (sgT (hit1 (m:Int)) 45)=rowB (bitB m):=by
  unfold rowB
  rw [← sgT_one (m:=m) (k:=8),← sgT_one (m:=m) (k:=7),← sgT_three (m:=m) (j:=11) (k:=6),← sgT_one (m:=m) (k:=5),← sgT_one (m:=m) (k:=4),← sgT_three (m:=m) (j:=10) (k:=3),← sgT_one (m:=m) (k:=2),← sgT_one (m:=m) (k:=1),← sgT_three (m:=m) (j:=9) (k:=0)]
  rfl
 unfold fmode
 rw [h]
end
end Mine
namespace Mine
open PySem PySem.W
section
variable {n:Nat} {ns:List Int} {text:List Nat} {w:List V} {r u:List Nat} {g:List (List Nat)} {σ τ:Sto}
noncomputable abbrev σL (ns:List Int) (text:List Nat) (w:List V) (τ:Sto):Sto:=.scr SCI ns :: .list [.int 0] :: .list w :: .lex text 1 1 2 :: τ
noncomputable abbrev LS (ns:List Int) (text r:List Nat) (w:List V) (τ:Sto):Sto:=.scr SCI ns :: .list [.int ((text.length - r.length:Nat):Int)] :: .list w :: .lex text 1 (1+cnt text - cnt r) 2 :: τ
noncomputable abbrev dot:List Nat:=[13,32,46]
noncomputable def wq (l:List (List Nat)):List V:=l.map .str
theorem wq_len:(wq g).length=g.length:=List.length_map ..
theorem snoc_wq:wq g++[.str u]=wq (g++[u]):=(List.map_append (l₂:=[u])).symm
theorem lowL_wq {k:Nat} {l:List (List Nat)}:lowL k (wq l)=true:=lowL_map fun ζ=>rfl
theorem lx_of (h:stoLow 4 τ=true):Lx 3 1 2 (σL ns text (wq g) τ):=by
 have hl:(σL ns text (wq g) τ).length=τ.length+4:=rfl
 have hk (k:Nat) (h:k < 4):k < (σL ns text (wq g) τ).length:=hl▸Nat.lt_of_lt_of_le h (Nat.le_add_left ..)
 refine ⟨?_,hk 3 (by decide),hk 1 (by decide),hk 2 (by decide),by decide,by decide,by decide⟩
 refine List.all_eq_true.mpr fun o ho=>?_
 rcases List.mem_cons.mp ho with rfl | ho
 ·rfl
 rcases List.mem_cons.mp ho with rfl | ho
 ·rfl
 rcases List.mem_cons.mp ho with rfl | ho
 ·exact lowL_wq
 rcases List.mem_cons.mp ho with rfl | ho
 ·exact Bool.and_eq_true_iff.mpr ⟨decide_eq_true (hk 1 (by decide)),decide_eq_true (hk 2 (by decide))⟩
 ·exact olow_up (hl▸Nat.le_add_left ..) (List.all_eq_true.mp h o ho)
theorem LS_eq:LS ns text r w τ=atR text 3 1 2 (σL ns text w τ) r:=rfl
theorem low_LS (h:stoLow 4 τ=true):Low (LS ns text r (wq g) τ):=by
 rw [LS_eq]; exact put_low (lx_of h)
theorem l_word {z t:List Nat} (hu:Word z t) (h:z++r <:+ text) (hl:text.length≤900000):phi TT (n+3) i_get_token [.ref 3] (LS ns text (z++r) [] [])=some (.str t,LS ns text r [] []):=x_word (lx_of (ns:=ns) (text:=text) (g:=[]) (τ:=[]) rfl) hu h hl rfl
theorem l_end (h:stoLow 4 τ=true):phi TT (n+3) i_get_token [.ref 3] (LS ns text [] [] τ)=some (.str [],LS ns text [] [] τ):=by
 rw [LS_eq]; exact x_end (lx_of (ns:=ns) (text:=text) (g:=[]) h) rfl
theorem l_dot (h:stoLow 4 τ=true) (hd:dot <:+ text):phi TT (n+3) i_get_token [.ref 3] (LS ns text dot [] τ)=some (.str [46],LS ns text [] [] τ):=by
 rw [LS_eq,LS_eq]; exact x_dot (lx_of (ns:=ns) (text:=text) (g:=[]) h) hd rfl
theorem l_pop (h:stoLow 4 τ=true):phi TT (n+1) i_get_token [.ref 3] (LS ns text r (wq (u :: g)) τ)=some (.str u,LS ns text r (wq g) τ):=x_pop (lx_of (ns:=ns) (text:=text) (g:=u :: g) h) rfl rfl
theorem l_push (h:stoLow 4 τ=true) (hl:g.length < 1000):phi TT (n+1) i_push_token [.ref 3,.str u] (LS ns text r (wq g) τ)=some (.none,LS ns text r (wq (g++[u])) τ):=by
 rw [← snoc_wq]
 exact x_push (lx_of (ns:=ns) (text:=text) (g:=g) h) rfl (by unfold maxLen; rw [wq_len]; (first | lia | omega))
theorem told_over {step:V→List V→Sto→Option (Bool × List V × Sto)} (hs:∀ (v:V) (acc:List V) (σ σ1:Sto) (w:V),acc.length < 100→recv σ (.ref 3)=some 2→phi TT 11 i_get_token [.ref 3] σ=some (w,σ1)→step v acc σ=some (true,acc++[w],σ1)) (ht:text.length≤900000) :
  ∀ (zs:List (List Nat × List Nat)) (vs:List V) (acc:List V),vs.length=zs.length→(∀ z∈zs,Word z.1 z.2)→acc.length+zs.length < 100→(zs.map (·.1)).flatten++r <:+ text→over step vs acc (LS ns text ((zs.map (·.1)).flatten++r) [] [])=some (true,acc++zs.map (fun z=>.str z.2),LS ns text r [] [])
 | [],[],acc,_,_,_,_=>by
  show some (true,acc,_)=some (true,acc++[],_)
  rw [List.append_nil]; rfl
 | z :: zs,v :: vs,acc,hv,hw,hl,h=>by
  rw [List.length_cons] at hl
  rw [List.map_cons,List.flatten_cons,List.append_assoc] at h ⊢
  have ih:=told_over hs ht zs vs (acc++[.str z.2]) (Nat.succ.inj hv) (fun y hy=>hw y (.tail _ hy)) (by rw [List.length_append]; show acc.length+1+zs.length < 100; (first | lia | omega)) (suf_app h)
  rw [List.append_assoc] at ih
  exact over_cons (hs v acc _ _ _ (by (first | lia | omega)) rfl (l_word (n:=8) (hw z (.head _)) h ht)) ih
theorem told_at {step:V→List V→Sto→Option (Bool × List V × Sto)} (hs:∀ (v:V) (acc:List V) (σ σ1:Sto) (w:V),acc.length < 100→recv σ (.ref 3)=some 2→phi TT 11 i_get_token [.ref 3] σ=some (w,σ1)→step v acc σ=some (true,acc++[w],σ1)) (ht:text.length≤900000)
  (zs:List (List Nat × List Nat)) (vs acc:List V) (hv:vs.length=zs.length) (hw:∀ z∈zs,Word z.1 z.2) (hl:acc.length+zs.length < 100) {T:List Nat} (h:T <:+ text) (hT:T=(zs.map (·.1)).flatten++r):over step vs acc (LS ns text T [] [])=some (true,acc++zs.map (fun z=>.str z.2),LS ns text r [] []):=by
 subst hT
 exact told_over hs ht zs vs acc hv hw hl h
theorem LS_new:[.scr SCI ns,.list [.int 0],.list [],.lex text 1 1 2]=LS ns text text [] []:=by
 show _=[O.scr SCI ns,.list [.int ((text.length - text.length:Nat):Int)],.list [],.lex text 1 (1+cnt text - cnt text) 2]
 rw [Nat.sub_self,show 1+cnt text - cnt text=1 by (first | lia | omega)]; rfl
theorem index_sgn {u:Nat} (h:u < 64):subAt [sgn u] B64 0=some u:=by
 have:∀ u < 64,subAt [sgn u] B64 0=some u:=by decide +kernel
 exact this u h
theorem m_index {Λ:Lexer} {u:Nat} (h:u < 64):methR Λ .index (.str B64) 0 [.str [sgn u]] σ=some (.int (u:Nat),σ):=by
 show orO ((subAt [sgn u] B64 0).map fun k=>(V.int (k:Nat),σ)) _=_
 rw [index_sgn h]; rfl
theorem sub_signs {u:Nat} (h:u < 64):subV (.str B64) (.int (u:Nat)) σ=some (.str [sgn u]):=by
 show orO ((idx B64.length (u:Int)).bind fun j=>(B64[j]?).map fun c=>V.str [c]) _=_
 rw [idx_nat (m:=B64.length) h]
 show orO ((B64[u]?).map _) _=_
 unfold sgn
 rw [List.getD_eq_getElem?_getD,List.getElem?_eq_getElem h]; rfl
theorem in_tup {v:V} {xs:List V} {c:Bool} (hc:inL v xs=some c):cmpop .NotIn v (.tup xs) σ=some (!c):=by
 show (orO none (orO (inL v xs) none)).map (!·)=_
 rw [hc]; rfl
theorem word_in (h0:([]==u)=false) (h1:([46]==u)=false):cmpop .NotIn (.str u) (.tup [.str [],.str [46]]) σ=some true:=by
 refine in_tup (c:=false) ?_
 show (some ([]==u)).bind (fun c=>((some ([46]==u)).bind fun d=>(some false).map (d||·)).map (c||·))=_
 rw [h0,h1]; rfl
theorem cast_beq {a b:Nat}:((a:Int)==(b:Int))=(a==b):=by
 rw [Bool.eq_iff_iff,beq_iff_eq,beq_iff_eq]; exact Int.natCast_inj
theorem inL_nts {a:Nat}:∀ {D:List Nat},inL (.int (a:Nat)) (nts D)=some (D.any (·==a))
 | []=>rfl
 | x :: D=>by
  show (some ((x:Int)==(a:Int))).bind (fun c=>(inL (.int (a:Nat)) (nts D)).map (c||·))=_
  rw [inL_nts,cast_beq]; rfl
theorem sub_nts {D:List Nat} {i:Nat} (h:i < D.length):subV (.lst (nts D)) (.int (i:Nat)) σ=some (.int (D.getD i 0:Nat)):=by
 refine (congrArg (orO · _) (pick_at (v:=.int (D.getD i 0:Nat)) ?_)).trans rfl
 unfold nts
 rw [List.getElem?_map,List.getD_eq_getElem?_getD,List.getElem?_eq_getElem h]; rfl
theorem nts_len {l:List Nat}:(nts l).length=l.length:=List.length_map ..
theorem c_chr {c:Nat} (h:c < 256):callB .chr [.int (c:Nat)] σ=some (.str [c],σ):=if_pos ⟨Int.natCast_nonneg c,Int.ofNat_lt.mpr h⟩
theorem ne_strs {l:List (List Nat)}:cmpop .NotEq (.lst (l.map .str)) (.lst (l.map .str)) σ=some false:=by
 show (orO (if (l.map V.str).length=(l.map V.str).length then eqL (l.map .str) (l.map .str) else some false) _).map (!·)=_
 rw [if_pos rfl,eqL_strs]; rfl
theorem ne_end {p q q':Int} (h:q=q'):cmpop .NotEq (.tup [.str [],.int p,.int q]) (.tup [.str [],.int p,.int q']) σ=some false:=by
 subst h
 show (some (true&&((p==p)&&((q==q)&&true)))).map (!·)=_
 rw [beq_self_eq_true,beq_self_eq_true]; rfl
theorem eqL_nts:∀ {l:List Nat},eqL (nts l) (nts l)=some true
 | []=>rfl
 | x :: l=>by
  show (some ((x:Int)==(x:Int))).bind (fun a=>(eqL (nts l) (nts l)).map fun b=>a&&b)=_
  rw [eqL_nts,beq_self_eq_true]; rfl
noncomputable def md (x:Int):Nat:=(x.fmod 65536).toNat
noncomputable def mn (x:Int):Nat:=((x.fdiv 65536).fmod 40).toNat
theorem md_is (x:Int):x.fmod 65536=(md x:Int):=(Int.toNat_of_nonneg (Int.fmod_nonneg_of_pos x (by decide))).symm
theorem mn_is (x:Int):(x.fdiv 65536).fmod 40=(mn x:Int):=(Int.toNat_of_nonneg (Int.fmod_nonneg_of_pos _ (by decide))).symm
theorem mn_lt (x:Int):mn x < 40:=by
 have:=Int.fmod_lt_of_pos (x.fdiv 65536) (b:=40) (by decide)
 have:=mn_is x
 omega
theorem x_imode {m:Nat}:phi TT (n+1) i_S_IMODE [.int (m:Nat)] σ=some (.int ((m % 4096:Nat):Int),σ):=by
 rw [x_S_IMODE,show Builtin.bitAnd (m:Int) 4095=((m &&& 4095:Nat):Int) from bAnd m 4095,show m &&& 4095=m % 4096 from Nat.and_two_pow_sub_one_eq_mod m 12]
theorem sum_scr:∃ t:Int,∀ σ:Sto,scrOf σ SCI=some (zts ns)→callB .sum [.fn SCI] σ=some (.int t,σ):=by
 have h:∀ (l:List Int) (a:Int),∃ t,sumL (zts l) a=some t:=by
  intro l
  induction l with
  | nil=>exact fun a=>⟨a,rfl⟩
  | cons x l ih=>exact fun a=>ih (a+x)
 refine (h ns 0).elim fun t ht=>⟨t,fun σ hσ=>?_⟩
 show (orO none ((some SCI).bind fun i=>scrOf σ i)).bind _=_
 show (orO none (scrOf σ SCI)).bind _=_
 rw [hσ]
 show (sumL (zts ns) 0).map _=_
 rw [ht]; rfl
noncomputable abbrev nV (l:List Int):V:=.lst (zts l)
noncomputable abbrev mV (l:List Int):V:=.lst (l.map fun x=>.int (md x:Nat))
noncomputable def pc (l:List Int) (k:Nat):List Nat:=written (fmode ((md (l.getD k 0):Nat):Int)) (mn (l.getD k 0))
theorem pc_len {l:List Int} {k:Nat}:(pc l k).length≤13:=Nat.le_trans written_length (by rw [fmode_length]; decide)
theorem row_word (x:Int):Word (written (fmode ((md x:Nat):Int)) (mn x)) (fmode ((md x:Nat):Int)):=written_word fmode_plain (by rw [fmode_length]; have:=mn_lt x; (first | lia | omega))
noncomputable def partE (s:S):E:=match s with
 | .assign _ e _=>e
 | .loop _ _ it _ _ _=>it
 | .ret e _=>e
 | .cond t _ _ _=>t
 | .whil _ _ t _ _=>t
 | .expr e _=>e
 | _=>.raw default
end
end Mine
namespace Mine
open PySem
noncomputable def octs:List Nat→List Nat
 | a :: b :: c :: d :: r=>(a*4+b / 16) :: (b % 16*16+c / 4) :: (c % 4*64+d) :: octs r
 | _=>[]
theorem dgm {x m r:Nat} (h:r < m):(x*m+r) / m=x∧(x*m+r) % m=r :=
 ⟨by rw [Nat.mul_comm,Nat.mul_add_div (Nat.zero_lt_of_lt h),Nat.div_eq_of_lt h]; rfl,by rw [Nat.mul_comm,Nat.mul_add_mod,Nat.mod_eq_of_lt h]⟩
theorem dv {w m k x:Nat} (hm:0 < m):(w*(k*m)+x) / m=w*k+x / m∧(w*(k*m)+x) % m=x % m:=by
 rw [← Nat.mul_assoc,Nat.mul_comm (w*k) m]
 exact ⟨Nat.mul_add_div hm ..,Nat.mul_add_mod ..⟩
theorem dw {w m k r:Nat} (h:r < m):(w*m+r) % (m*k)=w % k*m+r:=by
 rw [Nat.mod_mul,(dgm h).1,(dgm h).2,Nat.mul_comm,Nat.add_comm]
theorem byte0 {o:List Nat} {lc x:Nat} (h:x < 256):b64byte ⟨o,0,lc⟩ x=⟨o++[x / 4],2,lc % 256*256+x⟩:=by
 show W64.mk (o++[(lc % 256*(64*4)+x) / 4 % 64]) _ _=_
 rw [(dv (by decide)).1,(dgm (m:=64) (Nat.div_lt_of_lt_mul h)).2]
theorem byte2 {o:List Nat} {lc x:Nat} (h:x < 256):b64byte ⟨o,2,lc⟩ x=⟨o++[lc % 4*16+x / 16],4,lc % 256*256+x⟩:=by
 show W64.mk (o++[(lc % 256*(16*16)+x) / 16 % (16*4)]) _ _=_
 rw [(dv (by decide)).1,dw (Nat.div_lt_of_lt_mul h),Nat.mod_mod_of_dvd _ (by decide)]
theorem byte4 {o:List Nat} {lc x:Nat} (h:x < 256):b64byte ⟨o,4,lc⟩ x=⟨o++[lc % 16*4+x / 64]++[x % 64],0,lc % 256*256+x⟩:=by
 show W64.mk (o++[(lc % 256*(4*64)+x) / 64 % (4*16)]++[(lc % 256*(4*64)+x) / 1 % 64]) _ _=_
 rw [(dv (by decide)).1,dw (Nat.div_lt_of_lt_mul h),Nat.mod_mod_of_dvd _ (by decide),Nat.div_one,(dv (by decide)).2]
theorem low4 {z y:Nat}:(z % 256*256+y) % 4=y % 4:=(dv (m:=4) (k:=64) (by decide)).2
theorem low16 {z y:Nat}:(z % 256*256+y) % 16=y % 16:=(dv (m:=16) (k:=16) (by decide)).2
theorem b64_octs:∀ (l:List Nat),(∀ c∈l,c < 64)→l.length % 4=0→(octs l).length=l.length / 4*3∧(∀ c∈octs l,c < 256)∧∀ (o:List Nat) (lc:Nat),∃ lc',(octs l).foldl b64byte ⟨o,0,lc⟩=⟨o++l,0,lc'⟩
 | [],_,_=>⟨rfl,(fun ζ h=>nomatch h),fun o lc=>⟨lc,by rw [List.append_nil]; rfl⟩⟩
 | a :: b :: c :: d :: r,hl,h=>by
  have ha:=hl a (.head _)
  have hb:=hl b (.tail _ (.head _))
  have hc:=hl c (.tail _ (.tail _ (.head _)))
  have hd:=hl d (.tail _ (.tail _ (.tail _ (.head _))))
  have hb4:b / 16 < 4:=Nat.div_lt_of_lt_mul hb
  have hc16:c / 4 < 16:=Nat.div_lt_of_lt_mul hc
  have hr:r.length % 4=0:=(Nat.add_mod_right r.length 4).symm.trans h
  have ih:=b64_octs r (fun x hx=>hl x (.tail _ (.tail _ (.tail _ (.tail _ hx))))) hr
  have h0:a*4+b / 16 < 256:=by lia
  have h1:b % 16*16+c / 4 < 256:=by lia
  have h2:c % 4*64+d < 256:=by lia
  refine ⟨?_,?_,fun o lc=>?_⟩
  ·show (octs r).length+3=(r.length+4) / 4*3
   rw [ih.1,Nat.add_div_right _ (by decide),Nat.succ_mul]
  ·intro x hx
   rcases List.mem_cons.mp hx with rfl | hx
   ·exact h0
   rcases List.mem_cons.mp hx with rfl | hx
   ·exact h1
   rcases List.mem_cons.mp hx with rfl | hx
   ·exact h2
   exact ih.2.1 x hx
  ·rw [show octs (a :: b :: c :: d :: r)=(a*4+b / 16) :: (b % 16*16+c / 4) :: (c % 4*64+d) :: octs r from rfl,List.foldl_cons,List.foldl_cons,List.foldl_cons,byte0 h0,byte2 h1,byte4 h2,low4,low16,(dgm hb4).1,(dgm hb4).2,(dgm hc16).1,(dgm hc16).2,(dgm hd).1,(dgm hd).2,Nat.div_add_mod',Nat.div_add_mod']
   refine (ih.2.2 _ _).elim fun lc' e=>⟨lc',e.trans ?_⟩
   rw [List.append_assoc,List.append_assoc,List.append_assoc,List.append_assoc]; rfl
theorem b64_figs {l:List Nat} (hl:∀ c∈l,c < 64) (h:l.length % 4=0):b64 (octs l)=l.map sgn:=by
 refine ((b64_octs l hl h).2.2 [] 0).elim fun lc e=>?_
 unfold b64
 rw [e]; rfl
section
variable {n:Nat} {σ:Sto} {l:List Nat}
theorem slice_l {xs:List V} {i j:Nat} (hl:xs.length≤maxLen):sliceV (.lst xs) (.int (i:Nat)) (.int (j:Nat)) .none σ=some (.lst ((xs.take j).drop i),σ):=by
 show newList (cut xs (if 0≤(i:Int) then min i xs.length else _) (if 0≤(j:Int) then min j xs.length else _)) σ=_
 rw [if_pos (Int.natCast_nonneg _),if_pos (Int.natCast_nonneg _)]
 unfold cut
 have e:(xs.take (min j xs.length)).drop (min i xs.length)=(xs.take j).drop i:=by
  rw [← List.take_eq_take_min]
  rcases Nat.le_total i xs.length with h | h
  ·rw [Nat.min_eq_left h]
  ·rw [Nat.min_eq_right h,List.drop_eq_nil_of_le (by rw [List.length_take]; exact Nat.min_le_right ..),List.drop_eq_nil_of_le (by rw [List.length_take]; exact Nat.le_trans (Nat.min_le_right ..) h)]
 rw [e]
 exact if_pos (by rw [List.length_drop,List.length_take]; (first | lia | omega))
end
end Mine
namespace Mine.EU
section
variable (c:Nat→Bool) (nb:Nat→List Nat) (base:Nat)
noncomputable def rel:Nat→Nat→Nat→Bool
 | 0,x,y=>x==base&&y==base
 | n+1,x,y=>if x=n+5 then (if y=n+5 then c (n+5) else c (n+5)&&(nb (n+5)).any fun m=>rel n y m) else if y=n+5 then c (n+5)&&(nb (n+5)).any fun m=>rel n x m else rel n x y||((c (n+5)&&(nb (n+5)).any fun m=>rel n x m)&&(c (n+5)&&(nb (n+5)).any fun m=>rel n y m))
noncomputable def tch (n x:Nat):Bool:=c (n+5)&&(nb (n+5)).any fun m=>rel c nb base n x m
variable {c nb base} {n x y z m:Nat}
theorem rel_vv:rel c nb base (n+1) (n+5) (n+5)=c (n+5):=by
 show (if n+5=n+5 then (if n+5=n+5 then c (n+5) else _) else _)=_
 rw [if_pos rfl,if_pos rfl]
theorem rel_vy (h:y≠n+5):rel c nb base (n+1) (n+5) y=tch c nb base n y:=by
 show (if n+5=n+5 then (if y=n+5 then c (n+5) else _) else _)=_
 rw [if_pos rfl,if_neg h]; rfl
theorem rel_xv (h:x≠n+5):rel c nb base (n+1) x (n+5)=tch c nb base n x:=by
 show (if x=n+5 then _ else if n+5=n+5 then _ else _)=_
 rw [if_neg h,if_pos rfl]; rfl
theorem rel_xy (h:x≠n+5) (h':y≠n+5):rel c nb base (n+1) x y=(rel c nb base n x y||(tch c nb base n x&&tch c nb base n y)):=by
 show (if x=n+5 then _ else if y=n+5 then _ else _)=_
 rw [if_neg h,if_neg h']; rfl
theorem rel_symm:∀ {n x y:Nat},rel c nb base n x y=rel c nb base n y x
 | 0,_,_=>Bool.and_comm ..
 | n+1,x,y=>by
  by_cases hx:x=n+5
  ·by_cases hy:y=n+5
   ·rw [hx,hy]
   ·rw [hx,rel_vy hy,rel_xv hy]
  ·by_cases hy:y=n+5
   ·rw [hy,rel_vy hx,rel_xv hx]
   ·rw [rel_xy hx hy,rel_xy hy hx,rel_symm (n:=n),Bool.and_comm]
theorem rel_dom:∀ {n x y:Nat},rel c nb base n x y=true→(x=base∨(5≤x∧x < n+5))
 | 0,x,y,h=>.inl (beq_iff_eq.mp (Bool.and_eq_true_iff.mp h).1)
 | n+1,x,y,h=>by
  have up {z w:Nat} (h:rel c nb base n z w=true):z=base∨(5≤z∧z < n+1+5):=(rel_dom h).imp id fun h=>⟨h.1,by (first | lia | omega)⟩
  have tc {z:Nat} (h:tch c nb base n z=true):z=base∨(5≤z∧z < n+1+5):=by
   obtain ⟨m,_,hm⟩:=List.any_eq_true.mp (Bool.and_eq_true_iff.mp h).2
   exact up hm
  by_cases hx:x=n+5
  ·exact .inr ⟨by (first | lia | omega),by (first | lia | omega)⟩
  ·by_cases hy:y=n+5
   ·rw [hy,rel_xv hx] at h; exact tc h
   ·rw [rel_xy hx hy] at h
    rcases Bool.or_eq_true_iff.mp h with h | h
    ·exact up h
    ·exact tc (Bool.and_eq_true_iff.mp h).1
noncomputable def nw (c:Nat→Bool) (nb:Nat→List Nat) (base n x:Nat):Bool:=if x=n+5 then c (n+5) else tch c nb base n x
theorem rel_iff:rel c nb base (n+1) x y=true↔(x≠n+5∧y≠n+5∧rel c nb base n x y=true)∨(nw c nb base n x=true∧nw c nb base n y=true):=by
 have ht {z:Nat} (h:tch c nb base n z=true):c (n+5)=true:=(Bool.and_eq_true_iff.mp h).1
 unfold nw
 by_cases hx:x=n+5
 ·by_cases hy:y=n+5
  ·rw [hx,hy,rel_vv,if_pos rfl]
   exact ⟨fun h=>.inr ⟨h,h⟩,fun h=>h.elim (fun h=>absurd rfl h.1) (·.1)⟩
  ·rw [hx,rel_vy hy,if_pos rfl,if_neg hy]
   exact ⟨fun h=>.inr ⟨ht h,h⟩,fun h=>h.elim (fun h=>absurd rfl h.1) (·.2)⟩
 ·by_cases hy:y=n+5
  ·rw [hy,rel_xv hx,if_pos rfl,if_neg hx]
   exact ⟨fun h=>.inr ⟨h,ht h⟩,fun h=>h.elim (fun h=>absurd rfl h.2.1) (·.1)⟩
  ·rw [rel_xy hx hy,if_neg hx,if_neg hy,Bool.or_eq_true,Bool.and_eq_true]
   exact ⟨fun h=>h.imp (fun h=>⟨hx,hy,h⟩) id,fun h=>h.imp (·.2.2) id⟩
theorem rel_trans:∀ {n x y z:Nat},rel c nb base n x y=true→rel c nb base n y z=true→rel c nb base n x z=true
 | 0,x,y,z,h,h'=>Bool.and_eq_true_iff.mpr ⟨(Bool.and_eq_true_iff.mp h).1,(Bool.and_eq_true_iff.mp h').2⟩
 | n+1,x,y,z,h,h'=>by
  have cl {a b:Nat} (ha:a≠n+5) (hb:b≠n+5) (h:rel c nb base n a b=true) (ht:nw c nb base n b=true):nw c nb base n a=true:=by
   unfold nw at *
   rw [if_neg hb] at ht
   rw [if_neg ha]
   have ht:=Bool.and_eq_true_iff.mp ht
   obtain ⟨m,hm,hr⟩:=List.any_eq_true.mp ht.2
   exact Bool.and_eq_true_iff.mpr ⟨ht.1,List.any_eq_true.mpr ⟨m,hm,rel_trans h hr⟩⟩
  rw [rel_iff] at *
  rcases h with h | h <;> rcases h' with h' | h'
  ·exact .inl ⟨h.1,h'.2.1,rel_trans h.2.2 h'.2.2⟩
  ·exact .inr ⟨cl h.1 h.2.1 h.2.2 h'.1,h'.2⟩
  ·exact .inr ⟨h.1,cl h'.2.1 h'.1 (rel_symm▸h'.2.2) h.2⟩
  ·exact .inr ⟨h.1,h'.2⟩
theorem rel_refl (h:rel c nb base n x y=true):rel c nb base n x x=true:=rel_trans h (rel_symm▸h)
theorem rel_mono (h:rel c nb base n x y=true) (hb:base=0∨99 < base) (hn:n < 90):rel c nb base (n+1) x y=true:=by
 have hx:=rel_dom h
 have hy:=rel_dom (rel_symm▸h:rel c nb base n y x=true)
 exact rel_iff.mpr (.inl ⟨by (first | lia | omega),by (first | lia | omega),h⟩)
set_option tactic.hygienic true in
theorem rel_closed {C:Nat→Prop}:∀ {n:Nat},(∀ k,k < n→c (k+5)=true→(C (k+5)→∀ m∈nb (k+5),rel c nb base k m m=true→C m)∧∀ m∈nb (k+5),rel c nb base k m m=true→C m→C (k+5))→∀ {x y:Nat},rel c nb base n x y=true→C x→C y
 | 0,_,x,y,h,hx=>by
  have h:=Bool.and_eq_true_iff.mp h
  rw [beq_iff_eq.mp h.2,← beq_iff_eq.mp h.1]; exact hx
 | n+1,hc,x,y,h,hx=>by
  have ih {a b:Nat}:=rel_closed (C:=C) (n:=n) (fun k hk=>hc k (by (first | lia | omega))) (x:=a) (y:=b)
  have hv {z:Nat} (h:nw c nb base n z=true):c (n+5)=true∧(z=n+5∨∃ m∈nb (n+5),rel c nb base n z m=true):=by
   unfold nw at h
   split at h
   ·rename_i e; exact ⟨h,.inl e⟩
   ·have h:=Bool.and_eq_true_iff.mp h
    exact ⟨h.1,.inr (List.any_eq_true.mp h.2)⟩
  rcases rel_iff.mp h with h | h
  ·exact ih h.2.2 hx
  ·have h1:=hv h.1
   have h2:=(hv h.2).2
   have hcn:=hc n (Nat.lt_succ_self n) h1.1
   have hC:C (n+5):=by
    rcases h1.2 with e | ⟨m,hm,hr⟩
    ·exact e▸hx
    ·exact hcn.2 m hm (rel_refl (rel_symm▸hr)) (ih hr hx)
   rcases h2 with e | ⟨m,hm,hr⟩
   ·exact e▸hC
   ·have hr':rel c nb base n m y=true:=rel_symm▸hr
    exact ih hr' (hcn.1 hC m hm (rel_refl hr'))
end
noncomputable def cl (R:Nat→Nat→Bool):List Nat→List Nat→Nat
 | _,[]=>0
 | seen,x :: l=>(R x x&&!(seen.any (R · x))).toNat+cl R (x :: seen) l
section
variable {R S:Nat→Nat→Bool} {x y:Nat} {l m s t:List Nat}
theorem cl_congr:∀ {l s t:List Nat},(∀ x∈l,s.any (R · x)=t.any (R · x))→cl R s l=cl R t l
 | [],_,_,_=>rfl
 | x :: l,s,t,h=>by
  show (R x x&&!(s.any (R · x))).toNat+cl R (x :: s) l=(R x x&&!(t.any (R · x))).toNat+cl R (x :: t) l
  rw [h x (.head _),cl_congr (s:=x :: s) (t:=x :: t) fun y hy=>by rw [List.any_cons,List.any_cons,h y (.tail _ hy)]]
structure Per (R:Nat→Nat→Bool):Prop where
 symm:∀ {x y},R x y=R y x
 trans:∀ {x y z},R x y=true→R y z=true→R x z=true
theorem Per.refl (P:Per R) (h:R x y=true):R x x=true:=P.trans h (P.symm▸h)
theorem Per.any (P:Per R) (h:R x y=true):s.any (R · x)=s.any (R · y):=by
 rw [Bool.eq_iff_iff,List.any_eq_true,List.any_eq_true]
 exact ⟨fun ⟨z,hz,e⟩=>⟨z,hz,P.trans e h⟩,fun ⟨z,hz,e⟩=>⟨z,hz,P.trans e (P.symm▸h)⟩⟩
theorem cl_perm (P:Per R) (h:l.Perm m):∀ s,cl R s l=cl R s m:=by
 induction h with
 | nil=>exact fun ζ=>rfl
 | cons x _ ih=>exact fun s=>congrArg ((R x x&&!(s.any (R · x))).toNat+·) (ih _)
 | swap x y l =>
  intro s
  show (R y y&&!(s.any (R · y))).toNat+((R x x&&!((y :: s).any (R · x))).toNat+cl R (x :: y :: s) l)=(R x x&&!(s.any (R · x))).toNat+((R y y&&!((x :: s).any (R · y))).toNat+cl R (y :: x :: s) l)
  rw [cl_congr (s:=x :: y :: s) (t:=y :: x :: s) fun z ζ=>by rw [List.any_cons,List.any_cons,List.any_cons,List.any_cons,← Bool.or_assoc,← Bool.or_assoc,Bool.or_comm (R x z)],List.any_cons,List.any_cons,← Nat.add_assoc,← Nat.add_assoc]
  congr 1
  have hs:R y x=R x y:=P.symm
  rw [hs]
  cases h:R x y with
  | false=>rw [Bool.false_or,Bool.false_or,Nat.add_comm]
  | true =>
   rw [P.any h,P.refl h,P.refl (hs.trans h)]
 | trans _ _ h1 h2=>exact fun s=>(h1 s).trans (h2 s)
theorem cl_part (P:Per R):∀ {ns:List Nat} {s l:List Nat},(∀ x∈ns,R x x=true→x∈l)→cl R s l=cl R s ns+cl R (ns.reverse++s) l
 | [],s,l,_=>(Nat.zero_add _).symm
 | x :: ns,s,l,h=>by
  have e:cl R s l=(R x x&&!(s.any (R · x))).toNat+cl R (x :: s) l:=by
   by_cases hx:R x x=true
   ·have hp:l.Perm (x :: l.erase x):=List.perm_cons_erase (h x (.head _) hx)
    rw [cl_perm P hp,cl_perm P hp]
    show (R x x&&!(s.any (R · x))).toNat+cl R (x :: s) (l.erase x)=_+((R x x&&!((x :: s).any (R · x))).toNat+cl R (x :: x :: s) (l.erase x))
    rw [List.any_cons,hx,Bool.true_or]
    show _=_+(0+_)
    rw [Nat.zero_add,cl_congr (s:=x :: x :: s) (t:=x :: s) fun y ζ=>by rw [List.any_cons,List.any_cons,← Bool.or_assoc,Bool.or_self]]
   ·rw [Bool.not_eq_true] at hx
    rw [hx]
    show _=0+_
    rw [Nat.zero_add]
    refine cl_congr fun y ζ=>?_
    have:R x y=false:=by
     cases h:R x y with
     | false=>rfl
     | true=>rw [P.refl h] at hx; cases hx
    rw [List.any_cons,this,Bool.false_or]
  rw [e,cl_part P (ns:=ns) (s:=x :: s) (l:=l) fun y hy=>h y (.tail _ hy),← Nat.add_assoc,List.reverse_cons,List.append_assoc]
  rfl
end
end Mine.EU
namespace Mine.EU
structure Sta where
 a00:Bool
 a01:Bool
 a02:Bool
 a03:Bool
 a04:Bool
 a11:Bool
 a12:Bool
 a13:Bool
 a14:Bool
 a22:Bool
 a23:Bool
 a24:Bool
 a33:Bool
 a34:Bool
 a44:Bool
 b00:Bool
 b01:Bool
 b02:Bool
 b03:Bool
 b04:Bool
 b11:Bool
 b12:Bool
 b13:Bool
 b14:Bool
 b22:Bool
 b23:Bool
 b24:Bool
 b33:Bool
 b34:Bool
 b44:Bool
 b05:Bool
 b15:Bool
 b25:Bool
 b35:Bool
 b45:Bool
 d:Int
 key:Nat
noncomputable def bk (b:Bool) (k:Nat):Nat:=Bool.rec (Nat.mul 2 k) (Nat.succ (Nat.mul 2 k)) b
noncomputable def mkS (a00 a01 a02 a03 a04 a11 a12 a13 a14 a22 a23 a24 a33 a34 a44 b00 b01 b02 b03 b04 b11 b12 b13 b14 b22 b23 b24 b33 b34 b44 b05 b15 b25 b35 b45:Bool) (d:Int):Sta:=⟨a00,a01,a02,a03,a04,a11,a12,a13,a14,a22,a23,a24,a33,a34,a44,b00,b01,b02,b03,b04,b11,b12,b13,b14,b22,b23,b24,b33,b34,b44,b05,b15,b25,b35,b45,d,(bk b45 (bk b35 (bk b25 (bk b15 (bk b05 (bk b44 (bk b34 (bk b33 (bk b24 (bk b23 (bk b22 (bk b14 (bk b13 (bk b12 (bk b11 (bk b04 (bk b03 (bk b02 (bk b01 (bk b00 (bk a44 (bk a34 (bk a33 (bk a24 (bk a23 (bk a22 (bk a14 (bk a13 (bk a12 (bk a11 (bk a04 (bk a03 (bk a02 (bk a01 (bk a00 0)))))))))))))))))))))))))))))))))))⟩
noncomputable def tA (u c:Bool) (x y:Bool):Bool:=c&&((u&&x)||y)
noncomputable def tB (u w e c:Bool) (x0 x4 x3 x2 x5:Bool):Bool:=c&&((u&&x0)||((u&&x4)||(x3||((w&&x2)||(e&&x5)))))
noncomputable def stepT (c:Bool) (s:Sta) (d:Int) (t0 t1 t2 t3 r0 r1 r2 r3 r5:Bool):Sta:=mkS (c) (t0) (t1) (t2) (t3) ((s.a00||(t0&&t0))) ((s.a01||(t0&&t1))) ((s.a02||(t0&&t2))) ((s.a03||(t0&&t3))) ((s.a11||(t1&&t1))) ((s.a12||(t1&&t2))) ((s.a13||(t1&&t3))) ((s.a22||(t2&&t2))) ((s.a23||(t2&&t3))) ((s.a33||(t3&&t3))) (!c) (r0) (r1) (r2) (r3) ((s.b00||(r0&&r0))) ((s.b01||(r0&&r1))) ((s.b02||(r0&&r2))) ((s.b03||(r0&&r3))) ((s.b11||(r1&&r1))) ((s.b12||(r1&&r2))) ((s.b13||(r1&&r3))) ((s.b22||(r2&&r2))) ((s.b23||(r2&&r3))) ((s.b33||(r3&&r3))) (r5) ((s.b05||(r0&&r5))) ((s.b15||(r1&&r5))) ((s.b25||(r2&&r5))) ((s.b35||(r3&&r5))) d
noncomputable def bn (b:Bool):Nat:=Bool.rec 0 1 b
noncomputable def dB5 (u w e b00 b44 b33 b22 b04 b34 b03 b23 b24 b02 b25 b35 b45 b05:Bool):Nat:=bn (u&&b00)+(bn ((u&&b44)&&!(u&&b04))+(bn (b33&&!((u&&b34)||(u&&b03)))+(bn ((w&&b22)&&!(b23||((u&&b24)||(u&&b02))))+bn (e&&!((w&&b25)||(b35||((u&&b45)||(u&&b05))))))))
noncomputable def dBf (u w e:Bool) (s:Sta):Nat:=dB5 u w e s.b00 s.b44 s.b33 s.b22 s.b04 s.b34 s.b03 s.b23 s.b24 s.b02 s.b25 s.b35 s.b45 s.b05
noncomputable def dA5 (u a03 a00 a33 a44:Bool):Int:=(bn (u&&a03):Int) - (bn (u&&(a00&&(a33&&a44))):Int)
noncomputable def dAf (u:Bool) (s:Sta):Int:=dA5 u s.a03 s.a00 s.a33 s.a44
noncomputable def stepS (u w e c:Bool) (s:Sta):Sta:=stepT c s (Bool.rec (s.d+(dBf u w e s:Int) - 1) (s.d+dAf u s) c) (tA u c s.a00 s.a03) (tA u c s.a01 s.a13) (tA u c s.a02 s.a23) (tA u c s.a03 s.a33) (tB u w e (!c) s.b00 s.b04 s.b03 s.b02 s.b05) (tB u w e (!c) s.b01 s.b14 s.b13 s.b12 s.b15) (tB u w e (!c) s.b02 s.b24 s.b23 s.b22 s.b25) (tB u w e (!c) s.b03 s.b34 s.b33 s.b23 s.b35) (tB u w e (!c) s.b05 s.b45 s.b35 s.b25 true)
noncomputable def hasK (k:Nat) (d:Int) (l:List Sta):Bool:=List.rec (motive:=fun ζ=>Bool) false (fun t ζ ih=>Bool.rec ih (t.d==d||ih) (Nat.beq k t.key)) l
noncomputable def addS (s:Sta) (l:List Sta):List Sta:=Bool.rec (s :: l) l (hasK s.key s.d l)
noncomputable def upB (v:Nat):Bool:=!(v % 4==1)
noncomputable def dnB (v:Nat):Bool:=!(v % 4==0)
noncomputable def edB (v:Nat):Bool:=v % 4==1||(v % 4==0||(Nat.ble v 8||Nat.ble 25 v))
noncomputable def nextS (u w e:Bool) (l:List Sta):List Sta:=List.rec (motive:=fun ζ=>List Sta) [] (fun s ζ ih=>addS (stepS u w e false s) (addS (stepS u w e true s) ih)) l
noncomputable def start:Sta:=mkS false false false false false false false false false false false false false false false false false false false false false false false false false false false false false false false false false false false (-1)
noncomputable def allS (n:Nat):List Sta:=Nat.rec (motive:=fun ζ=>List Sta) [start] (fun n l=>nextS (upB (n+5)) (dnB (n+5)) (edB (n+5)) l) n
noncomputable def okS (l:List Sta):Bool:=List.rec (motive:=fun ζ=>Bool) true (fun s ζ ih=>s.d==-1&&ih) l
theorem final:okS (allS 24)=true:=by decide +kernel
noncomputable def bk1 (k:Nat):Bool:=k % 2==1
theorem bk_1 {b:Bool} {k:Nat}:bk1 (bk b k)=b∧bk b k / 2=k:=by
 unfold bk1
 cases b
 ·show (2*k % 2==1)=false∧2*k / 2=k
  rw [Nat.mul_mod_right,Nat.mul_div_cancel_left _ (by decide)]; exact ⟨rfl,rfl⟩
 ·show ((2*k+1) % 2==1)=true∧(2*k+1) / 2=k
  rw [Nat.mul_add_mod,Nat.mul_add_div (by decide)]; exact ⟨rfl,rfl⟩
noncomputable def Bs:Nat→Type
 | 0=>Sta
 | n+1=>Bool→Bs n
noncomputable def un:(n:Nat)→Bs n→Nat→Sta
 | 0,s,_=>s
 | n+1,f,k=>un n (f (bk1 k)) (k / 2)
theorem un_bk {n:Nat} {f:Bs (n+1)} {b:Bool} {k:Nat}:un (n+1) f (bk b k)=un n (f b) k:=by
 show un n (f (bk1 (bk b k))) (bk b k / 2)=_
 rw [bk_1.1,bk_1.2]
noncomputable def f0 (d:Int):Bs 35:=fun (b45:Bool) (b35:Bool) (b25:Bool) (b15:Bool) (b05:Bool) (b44:Bool) (b34:Bool) (b33:Bool) (b24:Bool) (b23:Bool) (b22:Bool) (b14:Bool) (b13:Bool) (b12:Bool) (b11:Bool) (b04:Bool) (b03:Bool) (b02:Bool) (b01:Bool) (b00:Bool) (a44:Bool) (a34:Bool) (a33:Bool) (a24:Bool) (a23:Bool) (a22:Bool) (a14:Bool) (a13:Bool) (a12:Bool) (a11:Bool) (a04:Bool) (a03:Bool) (a02:Bool) (a01:Bool) (a00:Bool)=>mkS a00 a01 a02 a03 a04 a11 a12 a13 a14 a22 a23 a24 a33 a34 a44 b00 b01 b02 b03 b04 b11 b12 b13 b14 b22 b23 b24 b33 b34 b44 b05 b15 b25 b35 b45 d
noncomputable def good (s:Sta):Prop:=s=un 35 (f0 s.d) s.key
theorem good_mk {a00 a01 a02 a03 a04 a11 a12 a13 a14 a22 a23 a24 a33 a34 a44 b00 b01 b02 b03 b04 b11 b12 b13 b14 b22 b23 b24 b33 b34 b44 b05 b15 b25 b35 b45:Bool} {d:Int}:good (mkS a00 a01 a02 a03 a04 a11 a12 a13 a14 a22 a23 a24 a33 a34 a44 b00 b01 b02 b03 b04 b11 b12 b13 b14 b22 b23 b24 b33 b34 b44 b05 b15 b25 b35 b45 d):=Eq.symm (un_bk.trans (un_bk.trans (un_bk.trans (un_bk.trans (un_bk.trans (un_bk.trans (un_bk.trans (un_bk.trans (un_bk.trans (un_bk.trans (un_bk.trans (un_bk.trans (un_bk.trans (un_bk.trans (un_bk.trans (un_bk.trans (un_bk.trans (un_bk.trans (un_bk.trans (un_bk.trans (un_bk.trans (un_bk.trans (un_bk.trans (un_bk.trans (un_bk.trans (un_bk.trans (un_bk.trans (un_bk.trans (un_bk.trans (un_bk.trans (un_bk.trans (un_bk.trans (un_bk.trans (un_bk.trans (un_bk)))))))))))))))))))))))))))))))))))
theorem good_ext {s t:Sta} (hs:good s) (ht:good t) (hk:s.key=t.key) (hd:s.d=t.d):s=t:=by
 unfold good at hs ht
 rw [hs,ht,hk,hd]
theorem add_mem {s:Sta} {l:List Sta} (hs:good s) (hl:∀ t∈l,good t):s∈addS s l∧(∀ t∈l,t∈addS s l)∧∀ t∈addS s l,good t:=by
 have hk:∀ l:List Sta,(∀ t∈l,good t)→hasK s.key s.d l=true→s∈l:=by
  intro l
  induction l with
  | nil=>exact fun ζ h=>nomatch h
  | cons t l ih =>
   intro hl h
   have h:(Bool.rec (hasK s.key s.d l) (t.d==s.d||hasK s.key s.d l) (Nat.beq s.key t.key):Bool)=true:=h
   cases e:Nat.beq s.key t.key with
   | false=>rw [e] at h; exact .tail _ (ih (fun t ht=>hl t (.tail _ ht)) h)
   | true =>
    rw [e] at h
    rcases Bool.or_eq_true_iff.mp h with h | h
    ·have e':=good_ext hs (hl t (.head _)) (Nat.eq_of_beq_eq_true e) (beq_iff_eq.mp h).symm
     rw [e']; exact .head _
    ·exact .tail _ (ih (fun t ht=>hl t (.tail _ ht)) h)
 unfold addS
 cases e:hasK s.key s.d l with
 | false=>exact ⟨.head _,fun t h=>.tail _ h,fun t h=>(List.mem_cons.mp h).elim (fun e=>e▸hs) (hl t)⟩
 | true=>exact ⟨hk l hl e,fun ζ h=>h,hl⟩
theorem good_step {u w e c:Bool} {s:Sta}:good (stepS u w e c s):=by
 unfold stepS stepT
 exact good_mk
theorem next_cons {u w e:Bool} {s:Sta} {l:List Sta}:nextS u w e (s :: l)=addS (stepS u w e false s) (addS (stepS u w e true s) (nextS u w e l)):=rfl
theorem next_mem {u w e:Bool}:∀ {l:List Sta},(∀ t∈nextS u w e l,good t)∧∀ s∈l,∀ c,stepS u w e c s∈nextS u w e l
 | []=>⟨fun ζ h=>(List.not_mem_nil (show _∈([]:List Sta) from h)).elim,fun ζ h=>(List.not_mem_nil h).elim⟩
 | s :: l=>by
  have ih:=next_mem (u:=u) (w:=w) (e:=e) (l:=l)
  rw [next_cons]
  have g1:=good_step (u:=u) (w:=w) (e:=e) (c:=true) (s:=s)
  have g2:=good_step (u:=u) (w:=w) (e:=e) (c:=false) (s:=s)
  have k:∀ c,stepS u w e c s=if c then stepS u w e true s else stepS u w e false s:=fun c=>by cases c <;> rfl
  have k2:=ih.2
  generalize nextS u w e l=L at ih k2 ⊢
  generalize stepS u w e true s=s1 at g1 k ⊢
  generalize stepS u w e false s=s2 at g2 k ⊢
  have h1:=add_mem g1 ih.1
  have h2:=add_mem g2 h1.2.2
  refine ⟨h2.2.2,fun t ht c=>?_⟩
  rcases List.mem_cons.mp ht with e' | ht
  ·rw [e',k c]
   cases c
   ·exact h2.1
   ·exact h2.2.1 _ h1.1
  ·exact h2.2.1 _ (h1.2.1 _ (k2 t ht c))
theorem ok_cons {s:Sta} {l:List Sta}:okS (s :: l)=(s.d==-1&&okS l):=rfl
theorem ok_mem:∀ {l:List Sta},okS l=true→∀ s∈l,s.d=-1
 | [],_,_,ht=>(List.not_mem_nil ht).elim
 | s :: l,h,t,ht=>by
  have h:=Bool.and_eq_true_iff.mp (ok_cons.symm.trans h)
  rcases List.mem_cons.mp ht with rfl | ht
  ·exact beq_iff_eq.mp h.1
  ·exact ok_mem h.2 t ht
noncomputable def toS (f g:Nat→Nat→Bool) (d:Int):Sta:=mkS (f 0 0) (f 0 1) (f 0 2) (f 0 3) (f 0 4) (f 1 1) (f 1 2) (f 1 3) (f 1 4) (f 2 2) (f 2 3) (f 2 4) (f 3 3) (f 3 4) (f 4 4) (g 0 0) (g 0 1) (g 0 2) (g 0 3) (g 0 4) (g 1 1) (g 1 2) (g 1 3) (g 1 4) (g 2 2) (g 2 3) (g 2 4) (g 3 3) (g 3 4) (g 4 4) (g 0 5) (g 1 5) (g 2 5) (g 3 5) (g 4 5) d
theorem toS_congr {f g f' g':Nat→Nat→Bool} {d:Int} (h:∀ i j,i≤j→j≤4→f i j=f' i j) (h':∀ i j,i≤j→j≤5→g i j=g' i j):toS f g d=toS f' g' d:=by
 unfold toS
 rw [h 0 0 (by decide) (by decide),h 0 1 (by decide) (by decide),h 0 2 (by decide) (by decide),h 0 3 (by decide) (by decide),h 0 4 (by decide) (by decide),h 1 1 (by decide) (by decide),h 1 2 (by decide) (by decide),h 1 3 (by decide) (by decide),h 1 4 (by decide) (by decide),h 2 2 (by decide) (by decide),h 2 3 (by decide) (by decide),h 2 4 (by decide) (by decide),h 3 3 (by decide) (by decide),h 3 4 (by decide) (by decide),h 4 4 (by decide) (by decide),h' 0 0 (by decide) (by decide),h' 0 1 (by decide) (by decide),h' 0 2 (by decide) (by decide),h' 0 3 (by decide) (by decide),h' 0 4 (by decide) (by decide),h' 1 1 (by decide) (by decide),h' 1 2 (by decide) (by decide),h' 1 3 (by decide) (by decide),h' 1 4 (by decide) (by decide),h' 2 2 (by decide) (by decide),h' 2 3 (by decide) (by decide),h' 2 4 (by decide) (by decide),h' 3 3 (by decide) (by decide),h' 3 4 (by decide) (by decide),h' 4 4 (by decide) (by decide),h' 0 5 (by decide) (by decide),h' 1 5 (by decide) (by decide),h' 2 5 (by decide) (by decide),h' 3 5 (by decide) (by decide),h' 4 5 (by decide) (by decide)]
noncomputable def pr (i:Nat):Nat:=if i=5 then 5 else i - 1
noncomputable def oo (f:Nat→Nat→Bool) (i j:Nat):Bool:=if i≤j then f i j else f j i
noncomputable def nwF (t:Nat→Bool) (f:Nat→Nat→Bool) (c:Bool) (i j:Nat):Bool:=if i=0 then (if j=0 then c else t (pr j)) else if j=0 then t (pr i) else f (pr i) (pr j)||(t (pr i)&&t (pr j))
noncomputable def tAo (u c:Bool) (f:Nat→Nat→Bool) (i:Nat):Bool:=tA u c (oo f i 0) (oo f i 3)
noncomputable def tBo (u w e c:Bool) (g:Nat→Nat→Bool) (i:Nat):Bool:=tB u w e c (oo g i 0) (oo g i 4) (oo g i 3) (oo g i 2) (if i=5 then true else oo g i 5)
theorem step_toS {u w e c:Bool} {f g:Nat→Nat→Bool} {d:Int}:stepS u w e c (toS f g d)=toS (nwF (tAo u c f) f c) (nwF (tBo u w e (!c) g) g (!c)) (Bool.rec (d+(dB5 u w e (g 0 0) (g 4 4) (g 3 3) (g 2 2) (g 0 4) (g 3 4) (g 0 3) (g 2 3) (g 2 4) (g 0 2) (g 2 5) (g 3 5) (g 4 5) (g 0 5):Int) - 1) (d+dA5 u (f 0 3) (f 0 0) (f 3 3) (f 4 4)) c):=rfl
end Mine.EU
namespace Mine.EU
section
variable {c:Nat→Bool} {nb:Nat→List Nat} {base:Nat} {n x y:Nat}
theorem rel_per:Per (rel c nb base n):=⟨rel_symm,rel_trans⟩
noncomputable def ct (c:Nat→Bool) (x:Nat):Bool:=Nat.ble 5 x&&c x
theorem tch_self (h:tch c nb base n x=true):rel c nb base n x x=true:=by
 obtain ⟨m,_,hm⟩:=List.any_eq_true.mp (Bool.and_eq_true_iff.mp h).2
 exact rel_refl hm
theorem rel_self:∀ {n:Nat},x < n+5→x≠base→rel c nb base n x x=ct c x
 | 0,h,hb=>by
  have e:Nat.ble 5 x=false:=by
   rw [Bool.eq_false_iff]
   exact fun h'=>absurd (Nat.le_of_ble_eq_true h') (by (first | lia | omega))
  show (x==base&&x==base)=(Nat.ble 5 x&&c x)
  rw [e,beq_false_of_ne hb]; rfl
 | n+1,h,hb=>by
  by_cases hx:x=n+5
  ·subst hx
   rw [rel_vv]
   unfold ct
   rw [Nat.ble_eq_true_of_le (Nat.le_add_left 5 n)]; rfl
  ·rw [rel_xy hx hx,← rel_self (n:=n) (by (first | lia | omega)) hb]
   cases ht:tch c nb base n x with
   | false=>rw [Bool.and_self,Bool.or_false]
   | true=>rw [tch_self ht]; rfl
theorem cl_old:∀ {l s:List Nat},(∀ x∈l,x≠n+5)→(∀ x∈s,x≠n+5)→cl (rel c nb base (n+1)) (s++[n+5]) l=cl (rel c nb base n) (s++if c (n+5) then (nb (n+5)).reverse else []) l
 | [],_,_,_=>rfl
 | x :: l,s,hl,hs=>by
  have hx:=hl x (.head _)
  have ih:=cl_old (l:=l) (s:=x :: s) (fun y hy=>hl y (.tail _ hy)) fun y hy=>(List.mem_cons.mp hy).elim (fun e=>e▸hx) (hs y)
  show (rel c nb base (n+1) x x&&!((s++[n+5]).any (rel c nb base (n+1) · x))).toNat+cl (rel c nb base (n+1)) (x :: s++[n+5]) l=(rel c nb base n x x&&!((s++if c (n+5) then (nb (n+5)).reverse else []).any (rel c nb base n · x))).toNat+cl (rel c nb base n) (x :: s++if c (n+5) then (nb (n+5)).reverse else []) l
  rw [ih]
  congr 3
  ·rw [rel_xy hx hx]
   cases ht:tch c nb base n x with
   | false=>rw [Bool.and_self,Bool.or_false]
   | true=>rw [tch_self ht]; rfl
  ·congr 1
   have h1:tch c nb base n x=(if c (n+5) then (nb (n+5)).reverse else []).any (rel c nb base n · x):=by
    unfold tch
    cases c (n+5) with
    | false=>rfl
    | true =>
     show (nb (n+5)).any (fun m=>rel c nb base n x m)=(nb (n+5)).reverse.any _
     rw [List.any_reverse]
     congr 1
     funext m
     exact rel_symm
   rw [List.any_append,List.any_append,← h1]
   have h2:[n+5].any (rel c nb base (n+1) · x)=tch c nb base n x:=by
    rw [List.any_cons,List.any_nil,Bool.or_false,rel_vy hx]
   rw [h2]
   have h3:∀ s:List Nat,(∀ y∈s,y≠n+5)→(s.any (rel c nb base (n+1) · x)||tch c nb base n x)=(s.any (rel c nb base n · x)||tch c nb base n x):=by
    intro s
    induction s with
    | nil=>exact fun ζ=>rfl
    | cons y s ih =>
     intro hs
     rw [List.any_cons,List.any_cons,Bool.or_assoc,ih fun z hz=>hs z (.tail _ hz),rel_xy (hs y (.head _)) hx]
     cases tch c nb base n x <;> cases rel c nb base n y x <;> cases tch c nb base n y <;> cases s.any (rel c nb base n · x) <;> rfl
   exact h3 s hs
theorem cl_step {l:List Nat} (hl:∀ x∈l,x≠n+5) (hn:∀ x∈nb (n+5),rel c nb base n x x=true→x∈l):cl (rel c nb base (n+1)) [] ((n+5) :: l)+(if c (n+5) then cl (rel c nb base n) [] (nb (n+5)) else 0)=cl (rel c nb base n) [] l+(c (n+5)).toNat:=by
 show (rel c nb base (n+1) (n+5) (n+5)&&true).toNat+cl (rel c nb base (n+1)) ([]++[n+5]) l+_=_
 rw [cl_old hl fun ζ h=>(List.not_mem_nil h).elim,rel_vv,Bool.and_true]
 cases c (n+5) with
 | false=>show 0+cl _ [] l+0=_+0; (first | lia | omega)
 | true =>
  have h:=cl_part (s:=[]) rel_per hn
  rw [List.append_nil] at h
  show 1+cl _ (nb (n+5)).reverse l+cl _ [] (nb (n+5))=cl _ [] l+1
  (first | lia | omega)
end
noncomputable def nbA (v:Nat):List Nat:=if upB v then [v - 1,v - 4] else [v - 4]
noncomputable def nbB (v:Nat):List Nat:=(if upB v then [v - 1,v - 5] else [])++(v - 4) :: ((if dnB v then [v - 3] else [])++(if edB v then [100] else []))
section
variable (c:Nat→Bool)
noncomputable abbrev rA (n:Nat):Nat→Nat→Bool:=rel c nbA 100 n
noncomputable abbrev rB (n:Nat):Nat→Nat→Bool:=rel (fun v=>!c v) nbB 100 n
noncomputable def told (b:List Nat):Nat→List Nat
 | 0=>b
 | n+1=>(n+5) :: told b n
noncomputable def chi:Nat→Int
 | 0=>0
 | n+1=>chi n+if c (n+5) then 1 - (bn (upB (n+5)&&ct c (n+4)):Int) - (bn (ct c (n+1)):Int)+(bn (upB (n+5)&&(ct c (n+4)&&(ct c (n+1)&&ct c n))):Int) else 0
noncomputable def dd (n:Nat):Int:=(cl (rA c n) [] (told [] n):Int) - (cl (rB c n) [] (told [100] n):Int) - chi c n
noncomputable def ix (n i:Nat):Nat:=if i=5 then 100 else n+4 - i
noncomputable abbrev fA (n i j:Nat):Bool:=rA c n (ix n i) (ix n j)
noncomputable abbrev gB (n i j:Nat):Bool:=rB c n (ix n i) (ix n j)
variable {c} {n:Nat} {b:List Nat}
theorem told_mem {x:Nat}:∀ {n:Nat},x∈told b n↔x∈b∨(5≤x∧x < n+5)
 | 0=>⟨.inl,fun h=>h.elim id fun h=>absurd h.2 (by (first | lia | omega))⟩
 | n+1=>by
  show x∈(n+5) :: told b n↔_
  rw [List.mem_cons,told_mem (n:=n)]
  refine ⟨fun h=>h.elim (fun h=>.inr (by (first | lia | omega))) (·.imp id fun h=>by (first | lia | omega)),fun h=>?_⟩
  by_cases hx:x=n+5
  ·exact .inl hx
  ·exact .inr (h.imp id fun h=>by (first | lia | omega))
theorem oo_eq {f:Nat→Nat→Bool} (hf:∀ i j,f i j=f j i) {i j:Nat}:oo f i j=f i j:=by
 unfold oo
 split
 ·rfl
 ·exact hf _ _
theorem tch_A {i:Nat}:tch c nbA 100 n (ix n i)=tAo (upB (n+5)) (c (n+5)) (fA c n) i:=by
 unfold tch tAo tA nbA
 rw [oo_eq fun i j=>rel_symm,oo_eq fun i j=>rel_symm]
 congr 1
 cases upB (n+5)
 ·exact Bool.or_false _
 ·show (_||(_||false))=_
  rw [Bool.or_false]; rfl
theorem rel_base {nb:Nat→List Nat}:∀ {n:Nat},n < 90→rel c nb 100 n 100 100=true
 | 0,_=>rfl
 | n+1,h=>by
  have h0:(100:Nat)≠n+5:=by (first | lia | omega)
  rw [rel_xy h0 h0,rel_base (by (first | lia | omega))]; rfl
theorem tch_B {i:Nat} (hn:n < 90):tch (fun v=>!c v) nbB 100 n (ix n i)=tBo (upB (n+5)) (dnB (n+5)) (edB (n+5)) (!c (n+5)) (gB c n) i:=by
 unfold tch tBo tB nbB
 have h5:(if i=5 then true else oo (gB c n) i 5)=gB c n i 5:=by
  by_cases h:i=5
  ·rw [if_pos h,h]; exact (rel_base hn).symm
  ·rw [if_neg h]; exact oo_eq fun i j=>rel_symm
 rw [h5,oo_eq fun i j=>rel_symm,oo_eq fun i j=>rel_symm,oo_eq fun i j=>rel_symm,oo_eq fun i j=>rel_symm]
 congr 1
 cases upB (n+5) <;> cases dnB (n+5) <;> cases edB (n+5)
 ·show (_||false)=(false||(false||(_||(false||false))))
  rw [Bool.false_or,Bool.false_or,Bool.false_or]; rfl
 ·show (_||(_||false))=(false||(false||(_||(false||_))))
  rw [Bool.false_or,Bool.false_or,Bool.false_or,Bool.or_false]; rfl
 ·show (_||(_||false))=(false||(false||(_||(_||false))))
  rw [Bool.false_or,Bool.false_or]; rfl
 ·show (_||(_||(_||false)))=(false||(false||(_||(_||_))))
  rw [Bool.false_or,Bool.false_or,Bool.or_false]; rfl
 ·show (_||(_||(_||false)))=(_||(_||(_||(false||false))))
  rw [Bool.false_or]; rfl
 ·show (_||(_||(_||(_||false))))=(_||(_||(_||(false||_))))
  rw [Bool.false_or,Bool.or_false]; rfl
 ·show (_||(_||(_||(_||false))))=(_||(_||(_||(_||false))))
  rfl
 ·show (_||(_||(_||(_||(_||false)))))=(_||(_||(_||(_||_))))
  rw [Bool.or_false]; rfl
theorem pr_ix {i:Nat} (h0:i≠0) (h:i≤5):ix (n+1) i=ix n (pr i):=by
 unfold ix pr
 by_cases h5:i=5
 ·rw [if_pos h5,if_pos h5,if_pos rfl]
 ·rw [if_neg h5,if_neg h5,if_neg (by (first | lia | omega))]; (first | lia | omega)
theorem ix_ne {i:Nat} (hn:n < 90) (h:i≤5):ix n i≠n+5:=by
 unfold ix
 split <;> omega
theorem nw_rel {nb:Nat→List Nat} {cc:Nat→Bool} {t:Nat→Bool} {i j:Nat} (hn:n < 90) (ht:∀ i,i≤5→tch cc nb 100 n (ix n i)=t i) (hi:i≤5) (hj:j≤5):rel cc nb 100 (n+1) (ix (n+1) i) (ix (n+1) j)=nwF t (fun i j=>rel cc nb 100 n (ix n i) (ix n j)) (cc (n+5)) i j:=by
 have hp {i:Nat} (h:i≤5):pr i≤5:=by unfold pr; split <;> omega
 have h00:ix (n+1) 0=n+5:=rfl
 unfold nwF
 by_cases h0:i=0
 ·rw [if_pos h0,h0,h00]
  by_cases h1:j=0
  ·rw [if_pos h1,h1,h00,rel_vv]
  ·rw [if_neg h1,pr_ix h1 hj,rel_vy (ix_ne hn (hp hj)),ht _ (hp hj)]
 ·rw [if_neg h0,pr_ix h0 hi]
  by_cases h1:j=0
  ·rw [if_pos h1,h1,h00,rel_xv (ix_ne hn (hp hi)),ht _ (hp hi)]
  ·rw [if_neg h1,pr_ix h1 hj,rel_xy (ix_ne hn (hp hi)) (ix_ne hn (hp hj)),ht _ (hp hi),ht _ (hp hj)]
theorem nbA_mem {x:Nat} (h:x∈nbA (n+5)):x=n+4∨x=n+1:=by
 unfold nbA at h
 split at h
 ·rcases List.mem_cons.mp h with h | h
  ·exact .inl h
  ·exact .inr (List.mem_singleton.mp h)
 ·exact .inr (List.mem_singleton.mp h)
theorem rel_told {nb:Nat→List Nat} {cc:Nat→Bool} {x:Nat} (h:rel cc nb 100 n x x=true):x∈told [100] n:=told_mem.mpr ((rel_dom h).imp (fun h=>List.mem_singleton.mpr h) id)
theorem bn_is {b:Bool}:bn b=b.toNat:=by cases b <;> rfl
theorem cl_A:cl (rA c n) [] (nbA (n+5))=bn (upB (n+5)&&fA c n 0 0)+bn (fA c n 3 3&&!(upB (n+5)&&fA c n 0 3)):=by
 unfold nbA
 cases upB (n+5)
 ·show (_&&true).toNat+0=0+bn (_&&true)
  rw [Nat.zero_add,bn_is]; rfl
 ·show (_&&true).toNat+((_&&!(_||false)).toNat+0)=_
  rw [Bool.and_true,Bool.or_false,bn_is,bn_is]; rfl
theorem cl_B (hn:n < 90):cl (rB c n) [] (nbB (n+5))=dB5 (upB (n+5)) (dnB (n+5)) (edB (n+5)) (gB c n 0 0) (gB c n 4 4) (gB c n 3 3) (gB c n 2 2) (gB c n 0 4) (gB c n 3 4) (gB c n 0 3) (gB c n 2 3) (gB c n 2 4) (gB c n 0 2) (gB c n 2 5) (gB c n 3 5) (gB c n 4 5) (gB c n 0 5):=by
 have hb:rB c n 100 100=true:=rel_base hn
 have h34:rB c n n (n+1)=rB c n (n+1) n:=rel_symm
 have h23:rB c n (n+1) (n+2)=rB c n (n+2) (n+1):=rel_symm
 have h24:rB c n n (n+2)=rB c n (n+2) n:=rel_symm
 have e1:n+5 - 1=n+4:=rfl
 have e2:n+5 - 5=n:=rfl
 have e3:n+5 - 4=n+1:=rfl
 have e4:n+5 - 3=n+2:=rfl
 have i0:ix n 0=n+4:=rfl
 have i2:ix n 2=n+2:=rfl
 have i3:ix n 3=n+1:=rfl
 have i4:ix n 4=n:=rfl
 have i5:ix n 5=100:=rfl
 unfold nbB gB dB5
 rw [e1,e2,e3,e4,i0,i2,i3,i4,i5]
 cases upB (n+5) <;> cases dnB (n+5) <;> cases edB (n+5) <;> simp only [if_true,if_false,Bool.false_eq_true,List.nil_append,List.cons_append,List.append_nil,cl,List.any_cons,List.any_nil,hb,h34,h23,h24,bn_is,Bool.true_and,Bool.false_and,Bool.false_or,Bool.or_false,Bool.not_false,Bool.and_true,Nat.add_zero,Nat.zero_add,Bool.toNat_false]
theorem dd_step (hn:n < 90):dd c (n+1)=Bool.rec (dd c n+(dB5 (upB (n+5)) (dnB (n+5)) (edB (n+5)) (gB c n 0 0) (gB c n 4 4) (gB c n 3 3) (gB c n 2 2) (gB c n 0 4) (gB c n 3 4) (gB c n 0 3) (gB c n 2 3) (gB c n 2 4) (gB c n 0 2) (gB c n 2 5) (gB c n 3 5) (gB c n 4 5) (gB c n 0 5):Int) - 1) (dd c n+dA5 (upB (n+5)) (fA c n 0 3) (fA c n 0 0) (fA c n 3 3) (fA c n 4 4)) (c (n+5)):=by
 have hA:=cl_step (c:=c) (nb:=nbA) (base:=100) (n:=n) (l:=told [] n) (fun x hx=>(told_mem.mp hx).elim (fun h=>(List.not_mem_nil h).elim) fun h=>Nat.ne_of_lt h.2) fun x hx h=>by
  rcases told_mem.mp (rel_told h) with h' | h'
  ·have:=nbA_mem hx
   have:=List.mem_singleton.mp h'
   (first | lia | omega)
  ·exact told_mem.mpr (.inr h')
 have hB:=cl_step (c:=fun v=>!c v) (nb:=nbB) (base:=100) (n:=n) (l:=told [100] n) (fun x hx=>by
  rcases told_mem.mp hx with h | h
  ·have:=List.mem_singleton.mp h; (first | lia | omega)
  ·(first | lia | omega)) fun x hx h=>rel_told h
 rw [cl_A] at hA
 rw [cl_B hn] at hB
 have hc {x:Nat} (h:x < n+5):ct c x=rA c n x x:=(rel_self h (by (first | lia | omega))).symm
 have h0:ct c (n+4)=fA c n 0 0:=hc (by (first | lia | omega))
 have h3:ct c (n+1)=fA c n 3 3:=hc (by (first | lia | omega))
 have h4:ct c n=fA c n 4 4:=hc (by (first | lia | omega))
 have h03:fA c n 0 3=true→fA c n 3 3=true:=fun h=>rel_refl (rel_symm.trans h)
 have hx:chi c (n+1)=chi c n+if c (n+5) then 1 - (bn (upB (n+5)&&ct c (n+4)):Int) - (bn (ct c (n+1)):Int)+(bn (upB (n+5)&&(ct c (n+4)&&(ct c (n+1)&&ct c n))):Int) else 0:=rfl
 unfold dd
 rw [hx,h0,h3,h4]
 show (cl (rA c (n+1)) [] ((n+5) :: told [] n):Int) - (cl (rB c (n+1)) [] ((n+5) :: told [100] n):Int) - _=_
 generalize dB5 _ _ _ _ _ _ _ _ _ _ _ _ _ _ _ _ _=eB at hB ⊢
 generalize cl (rA c (n+1)) [] ((n+5) :: told [] n)=pA at hA ⊢
 generalize cl (rB c (n+1)) [] ((n+5) :: told [100] n)=pB at hB ⊢
 generalize cl (rA c n) [] (told [] n)=qA at hA ⊢
 generalize cl (rB c n) [] (told [100] n)=qB at hB ⊢
 cases hcn:c (n+5) with
 | false =>
  rw [hcn] at hA hB
  have hA:pA+0=qA+0:=hA
  have hB:pB+eB=qB+1:=hB
  show _ - _ - (chi c n+0)=qA - qB - chi c n+eB - 1
  (first | lia | omega)
 | true =>
  rw [hcn] at hA hB
  have hA:pA+(_+_)=qA+1:=hA
  have hB:pB+0=qB+0:=hB
  show _ - _ - (chi c n+(_ - _ - _+_))=qA - qB - chi c n+dA5 _ _ _ _ _
  unfold dA5
  generalize fA c n 4 4=b4
  generalize fA c n 0 0=b0 at hA ⊢
  generalize fA c n 0 3=b03 at hA h03 ⊢
  generalize fA c n 3 3=b3 at hA h03 ⊢
  generalize upB (n+5)=u at hA ⊢
  revert hA
  cases u <;> cases b0 <;> cases b3 <;> cases b03 <;> simp only [Bool.false_and,Bool.true_and,Bool.and_false,Bool.not_false,Bool.not_true,bn_is,Bool.toNat_false,Bool.toNat_true] <;> intro hA <;> first | (first | lia | omega) | exact absurd (h03 rfl) (by decide)
theorem met:∀ {n:Nat},n < 90→toS (fA c n) (gB c n) (dd c n)∈allS n
 | 0,_=>by
  show _∈[start]
  rw [List.mem_singleton]
  rfl
 | n+1,hn=>by
  have ih:=met (n:=n) (by (first | lia | omega))
  have h:=(next_mem (u:=upB (n+5)) (w:=dnB (n+5)) (e:=edB (n+5)) (l:=allS n)).2 _ ih (c (n+5))
  rw [step_toS] at h
  rw [show allS (n+1)=nextS (upB (n+5)) (dnB (n+5)) (edB (n+5)) (allS n) from rfl,dd_step (by (first | lia | omega))]
  refine (toS_congr (fun i j hi hj=>?_) fun i j hi hj=>?_)▸h
  ·exact (nw_rel (by (first | lia | omega)) (fun i ζ=>tch_A) (by (first | lia | omega)) (by (first | lia | omega))).symm
  ·exact (nw_rel (by (first | lia | omega)) (fun i ζ=>tch_B (by (first | lia | omega))) (by (first | lia | omega)) (by (first | lia | omega))).symm
theorem toS_d {f g:Nat→Nat→Bool} {d:Int}:(toS f g d).d=d:=rfl
theorem euler:dd c 24=-1:=by
 have h:=met (c:=c) (n:=24) (by decide)
 have hf:=final
 generalize allS 24=L at h hf
 exact toS_d.symm.trans (ok_mem hf _ h)
end
end Mine.EU
namespace Mine.EU
noncomputable def off (X:Nat→Bool) (q:Nat):Nat→Bool:=fun p=>X p&&!(p==q)
noncomputable def okW (p:Nat) (a:Int × Int):Bool:=(decide (0≤((p / 6:Nat):Int)+a.1)&&decide (((p / 6:Nat):Int)+a.1 < 4))&&(decide (0≤((p % 6:Nat):Int)+a.2)&&decide (((p % 6:Nat):Int)+a.2 < 6))
noncomputable def tgt (p:Nat) (a:Int × Int):Nat:=(6*(((p / 6:Nat):Int)+a.1)+((p % 6:Nat):Int)+a.2).toNat
noncomputable abbrev Fw:Type:=List Nat × (Nat→Bool)
noncomputable def go1 (s:Fw) (q:Nat):Fw:=if s.2 q then (s.1++[q],off s.2 q) else s
noncomputable abbrev Ways:Type:=List (Int × Int)
noncomputable def nbs (wy:Ways) (p:Nat):List Nat:=(wy.filter (okW p)).map (tgt p)
noncomputable def goP (wy:Ways) (p:Nat) (s:Fw):Fw:=(nbs wy p).foldl go1 s
noncomputable def flood (wy:Ways):Nat→Fw→Option (Nat→Bool)
 | 0,_=>none
 | _+1,([],X)=>some X
 | f+1,(u :: W,X)=>flood wy f (goP wy u (W,X))
section
variable {s:Fw} {x q:Nat} {qs:List Nat} {X:Nat→Bool}
noncomputable def cn (X:Nat→Bool):Nat:=((List.range 24).filter X).length
theorem cn_off {l:List Nat} (hn:l.Nodup) (hq:q∈l) (h:X q=true):(l.filter (off X q)).length+1=(l.filter X).length:=by
 induction l with
 | nil=>cases hq
 | cons a l ih =>
  have hn:=List.nodup_cons.mp hn
  rw [List.filter_cons,List.filter_cons]
  by_cases e:a=q
  ·subst e
   have h1:off X a a=false:=by unfold off; rw [beq_self_eq_true,Bool.not_true,Bool.and_false]
   rw [h1,h,if_neg (by decide),if_pos rfl,List.length_cons]
   congr 2
   refine List.filter_congr fun y hy=>?_
   have:y≠a:=fun e=>hn.1 (e▸hy)
   unfold off
   rw [beq_false_of_ne this,Bool.not_false,Bool.and_true]
  ·have hq:=(List.mem_cons.mp hq).resolve_left fun e'=>e e'.symm
   have h1:off X q a=X a:=by unfold off; rw [beq_false_of_ne e,Bool.not_false,Bool.and_true]
   rw [h1]
   have:=ih hn.2 hq
   split
   ·rw [List.length_cons,List.length_cons]; (first | lia | omega)
   ·exact this
theorem off_is:(off X q x=true↔X x=true∧x≠q):=by
 unfold off
 rw [Bool.and_eq_true,Bool.not_eq_true',beq_eq_false_iff_ne]
structure Gone (s t:Fw) (qs:List Nat):Prop where
 w:∀ x∈s.1,x∈t.1
 le:∀ x,t.2 x=true→s.2 x=true
 no:∀ q∈qs,t.2 q=false
 new:∀ x,s.2 x=true→t.2 x=false→x∈t.1
 mem:∀ x∈t.1,x∈s.1∨(x∈qs∧s.2 x=true)
 len:t.1.length+cn t.2=s.1.length+cn s.2
theorem go1_ok (hq:q < 24):Gone s (go1 s q) [q]:=by
 unfold go1
 cases h:s.2 q with
 | false =>
  rw [if_neg (by decide)]
  exact ⟨fun ζ h=>h,fun ζ h=>h,fun y hy=>List.mem_singleton.mp hy▸h,fun x h1 h2=>absurd (h1.symm.trans h2) (by decide),fun x h=>.inl h,rfl⟩
 | true =>
  rw [if_pos rfl]
  refine ⟨fun x hx=>List.mem_append_left _ hx,fun x hx=>(off_is.mp hx).1,fun y hy=>?_,fun x h1 h2=>?_,fun x hx=>(List.mem_append.mp hx).imp id fun hx=>?_,?_⟩
  ·rw [List.mem_singleton.mp hy]
   show (s.2 q&&!(q==q))=false
   rw [beq_self_eq_true,Bool.not_true,Bool.and_false]
  ·refine List.mem_append_right _ (List.mem_singleton.mpr ?_)
   refine Classical.byContradiction fun e=>?_
   exact absurd ((off_is.mpr ⟨h1,e⟩).symm.trans h2) (by decide)
  ·exact ⟨hx,List.mem_singleton.mp hx▸h⟩
  ·have:=cn_off (l:=List.range 24) List.nodup_range (List.mem_range.mpr hq) h
   show (s.1++[q]).length+((List.range 24).filter (off s.2 q)).length=_+((List.range 24).filter s.2).length
   rw [List.length_append,List.length_singleton]
   (first | lia | omega)
theorem goP_ok:∀ {qs:List Nat} {s:Fw},(∀ q∈qs,q < 24)→Gone s (qs.foldl go1 s) qs
 | [],s,_=>⟨fun ζ h=>h,fun ζ h=>h,fun ζ h=>(List.not_mem_nil h).elim,fun x h1 h2=>absurd (h1.symm.trans h2) (by decide),fun x h=>.inl h,rfl⟩
 | q :: qs,s,h=>by
  have h1:=go1_ok (s:=s) (h q (.head _))
  have h2:=goP_ok (qs:=qs) (s:=go1 s q) fun x hx=>h x (.tail _ hx)
  refine ⟨fun x hx=>h2.w x (h1.w x hx),fun x hx=>h1.le x (h2.le x hx),fun x hx=>?_,fun x e e'=>?_,fun x hx=>?_,h2.len.trans h1.len⟩
  ·rcases List.mem_cons.mp hx with rfl | hx
   ·have:=h1.no x (.head _)
    cases e:(List.foldl go1 (go1 s x) qs).2 x with
    | false=>exact e
    | true=>exact absurd ((h2.le x e).symm.trans this) (by decide)
   ·exact h2.no x hx
  ·cases e1:(go1 s q).2 x with
   | false=>exact h2.w x (h1.new x e e1)
   | true=>exact h2.new x e1 e'
  ·rcases h2.mem x hx with hx | hx
   ·exact (h1.mem x hx).imp id fun (h:x∈[q]∧s.2 x=true)=>⟨List.mem_singleton.mp h.1▸.head _,h.2⟩
   ·exact .inr ⟨.tail _ hx.1,h1.le x hx.2⟩
theorem tgt_lt {p:Nat} {a:Int × Int} (h:okW p a=true):tgt p a < 24:=by
 unfold okW at h
 simp only [Bool.and_eq_true,decide_eq_true_eq] at h
 unfold tgt
 omega
theorem nbs_lt {wy:Ways} {p:Nat}:∀ q∈nbs wy p,q < 24:=fun q hq=>by
 obtain ⟨a,ha,e⟩:=List.mem_map.mp hq
 exact e▸tgt_lt (List.mem_filter.mp ha).2
theorem not_t {b:Bool} (h:b≠true):b=false:=Bool.eq_false_iff.mpr h
theorem flood_ok {wy:Ways} {K:Nat→Bool}:∀ {f:Nat} {W:List Nat} {X:Nat→Bool},W.length+cn X < f→(∀ p,K p=true→X p=false→p∈W∨∀ q∈nbs wy p,K q=true→X q=false)→(∀ p,X p=true→K p=true)→(∀ p∈W,K p=true) →
  ∃ Y,flood wy f (W,X)=some Y∧(∀ p,Y p=true→X p=true)∧(∀ p,K p=true→Y p=false→∀ q∈nbs wy p,K q=true→Y q=false)∧∀ C:Nat→Prop,(∀ p q,K p=true→q∈nbs wy p→K q=true→C p→C q)→(∀ p∈W,C p)→∀ p,X p=true→Y p=false→C p
 | 0,_,_,h,_,_,_=>absurd h (Nat.not_lt_zero _)
 | f+1,[],X,_,hc,_,_=>⟨X,rfl,fun ζ h=>h,fun p hp hx=>(hc p hp hx).resolve_left (List.not_mem_nil),fun ζ ζ ζ p h1 h2=>absurd (h1.symm.trans h2) (by decide)⟩
 | f+1,u :: W,X,h,hc,hX,hW=>by
  have hg:Gone (W,X) (goP wy u (W,X)) (nbs wy u):=goP_ok nbs_lt
  rw [List.length_cons] at h
  have hu:=hW u (.head _)
  obtain ⟨Y,h1,h2,h3,h4⟩:=flood_ok (wy:=wy) (K:=K) (f:=f) (W:=(goP wy u (W,X)).1) (X:=(goP wy u (W,X)).2) (by have:(goP wy u (W,X)).1.length+cn (goP wy u (W,X)).2=W.length+cn X:=hg.len; (first | lia | omega)) (fun p hp hx=>by
   cases e:X p with
   | true=>exact .inl (hg.new p e hx)
   | false =>
    have no {q:Nat} (h:X q=false):(goP wy u (W,X)).2 q=false:=not_t fun e=>absurd ((hg.le q e).symm.trans h) (by decide)
    rcases hc p hp e with h | h
    ·rcases List.mem_cons.mp h with rfl | h
     ·exact .inr fun q hq ζ=>hg.no q hq
     ·exact .inl (hg.w p h)
    ·exact .inr fun q hq hk=>no (h q hq hk)) (fun p hp=>hX p (hg.le p hp)) fun p hp=>(hg.mem p hp).elim (fun h=>hW p (.tail _ h)) fun h=>hX p h.2
  refine ⟨Y,h1,fun p hp=>hg.le p (h2 p hp),h3,fun C hC hw p hx hy=>?_⟩
  have hw':∀ p∈(goP wy u (W,X)).1,C p:=fun p hp=>(hg.mem p hp).elim (fun h=>hw p (.tail _ h)) fun h=>hC u p hu h.1 (hX p h.2) (hw u (.head _))
  cases e:(goP wy u (W,X)).2 p with
  | true=>exact h4 C hC hw' p e hy
  | false=>exact hw' p (hg.new p hx e)
end
structure Tie (wy:Ways) (K:Nat→Bool) (R:Nat→Nat→Bool) (E:List Nat):Prop where
 per:Per R
 lt:∀ p,K p=true→p < 24
 self:∀ p,R p p=K p
 edge:∀ p q,K p=true→K q=true→q∈nbs wy p→R p q=true
 closed:∀ C:Nat→Prop,(∀ p q,K p=true→q∈nbs wy p→K q=true→C p→C q)→(∀ o∈E,K o=true→C o)→∀ s p,R s p=true→C s→C p
noncomputable def vis (K:Nat→Bool) (R:Nat→Nat→Bool) (seen:List Nat):Nat→Bool:=fun p=>K p&&!(seen.any (R · p))
section
variable {wy:Ways} {K:Nat→Bool} {R:Nat→Nat→Bool} {E seen Z:List Nat} {p q:Nat}
theorem vis_is:vis K R seen p=true↔K p=true∧∀ s∈seen,R s p=false:=by
 unfold vis
 rw [Bool.and_eq_true,Bool.not_eq_true',List.any_eq_false]
 exact and_congr_right fun ζ=>forall₂_congr fun ζ ζ=>Bool.eq_false_iff.symm
theorem vis_no (h:K p=true) (hv:vis K R seen p=false):∃ s∈seen,R s p=true:=by
 unfold vis at hv
 rw [h,Bool.true_and,Bool.not_eq_false'] at hv
 exact List.any_eq_true.mp hv
theorem off_fold:∀ {Z:List Nat} {X:Nat→Bool},(Z.foldl off X p=true↔X p=true∧p∉Z)
 | [],X=>⟨fun h=>⟨h,List.not_mem_nil⟩,fun h=>h.1⟩
 | z :: Z,X=>by
  rw [List.foldl_cons,off_fold (X:=off X z),off_is,List.mem_cons,not_or,and_assoc]
theorem flood_vis (T:Tie wy K R E) (hZ:∀ z∈Z,K z=true) (hl:Z.length≤24) (hE:∀ o∈E,K o=true→o∈Z++seen):flood wy 100 (Z,Z.foldl off (vis K R seen))=some (vis K R (Z++seen)):=by
 have hX:∀ p,Z.foldl off (vis K R seen) p=true→K p=true:=fun p h=>(vis_is.mp (off_fold (X:=vis K R seen).mp h).1).1
 have hc:cn (Z.foldl off (vis K R seen))≤24:=List.length_filter_le ..
 obtain ⟨Y,h1,h2,h3,h4⟩:=flood_ok (wy:=wy) (K:=K) (f:=100) (W:=Z) (X:=Z.foldl off (vis K R seen)) (by (first | lia | omega)) (fun p hp hx=>by
  by_cases hz:p∈Z
  ·exact .inl hz
  ·refine .inr fun q hq hk=>not_t fun h=>?_
   have hv:vis K R seen p=false:=not_t fun hv=>absurd ((off_fold (X:=vis K R seen)).mpr ⟨hv,hz⟩) (by rw [hx]; decide)
   obtain ⟨s,hs,hr⟩:=vis_no hp hv
   have:=(vis_is.mp (off_fold (X:=vis K R seen).mp h).1).2 s hs
   exact absurd ((T.per.trans hr (T.edge p q hp hk hq)).symm.trans this) (by decide)) hX hZ
 rw [h1]
 congr 1
 funext p
 rw [Bool.eq_iff_iff,vis_is]
 have hn:∀ s∈Z++seen,Y s=false:=fun s hs=>not_t fun h=>by
  have h:=off_fold (X:=vis K R seen).mp (h2 s h)
  rcases List.mem_append.mp hs with hs | hs
  ·exact h.2 hs
  ·have:=(vis_is.mp h.1).2 s hs
   exact absurd ((T.self s).trans (vis_is.mp h.1).1) (by rw [this]; decide)
 constructor
 ·intro h
  refine ⟨hX p (h2 p h),fun s hs=>not_t fun hr=>?_⟩
  have:=T.closed (fun x=>Y x=false) (fun p q hp hq hk h=>h3 p hp h q hq hk) (fun o ho hk=>hn o (hE o ho hk)) s p hr (hn s hs)
  exact absurd (h.symm.trans this) (by decide)
 ·rintro ⟨hk,h⟩
  refine Classical.byContradiction fun hy=>?_
  have hv:Z.foldl off (vis K R seen) p=true:=(off_fold (X:=vis K R seen)).mpr ⟨vis_is.mpr ⟨hk,fun s hs=>h s (List.mem_append_right _ hs)⟩,fun hz=>absurd ((T.self p).trans hk) (by rw [h p (List.mem_append_left _ hz)]; decide)⟩
  obtain ⟨s,hs,hr⟩:=h4 (fun x=>∃ s∈Z,R s x=true) (fun p q hp hq hk h=>h.imp fun s hs=>⟨hs.1,T.per.trans hs.2 (T.edge p q hp hk hq)⟩) (fun p hp=>⟨p,hp,(T.self p).trans (hZ p hp)⟩) p hv (not_t hy)
  exact absurd (hr.symm.trans (h s (List.mem_append_left _ hs))) (by decide)
theorem vis_same (T:Tie wy K R E) (h:vis K R seen q=false):vis K R seen=vis K R (q :: seen):=by
 funext p
 rw [Bool.eq_iff_iff,vis_is,vis_is]
 refine ⟨fun hp=>⟨hp.1,fun s hs=>(List.mem_cons.mp hs).elim (fun e=>?_) (hp.2 s)⟩,fun hp=>⟨hp.1,fun s hs=>hp.2 s (.tail _ hs)⟩⟩
 subst e
 refine not_t fun hr=>?_
 obtain ⟨z,hz,hr'⟩:=vis_no ((T.self s).symm.trans (T.per.refl hr)) h
 exact absurd ((T.per.trans hr' hr).symm.trans (hp.2 z hz)) (by decide)
theorem vis_cl (T:Tie wy K R E) {l:List Nat}:cl R seen (q :: l)=(vis K R seen q).toNat+cl R (q :: seen) l:=by
 show (R q q&&_).toNat+_=_
 rw [T.self]; rfl
end
end Mine.EU
namespace Mine.EU
noncomputable def vx (p:Nat):Nat:=if p < 24 then 5+4*(p % 6)+p / 6 else 0
noncomputable def pl (v:Nat):Nat:=6*((v - 5) % 4)+(v - 5) / 4
noncomputable abbrev sides:Ways:=[(0,1),(1,0),(0,-1),(-1,0)]
noncomputable abbrev around:Ways:=sides++[(1,1),(1,-1),(-1,1),(-1,-1)]
noncomputable def rim (p:Nat):Bool:=(p / 6==0||p / 6==3)||(p % 6==0||p % 6==5)
structure Geo (nb:Nat→List Nat) (wy:Ways) (E:List Nat):Prop where
 t1:∀ p < 24,∀ q∈nbs wy p,(vx q∈nb (vx p)∧vx q < vx p)∨(vx p∈nb (vx q)∧vx p < vx q)
 t2:∀ k < 24,∀ m∈nb (k+5),(m=100∧pl (k+5)∈E)∨m < 5∨(m < k+5∧pl m∈nbs wy (pl (k+5))∧pl (k+5)∈nbs wy (pl m))
theorem vx_pl:(∀ p < 24,pl (vx p)=p∧5≤vx p∧vx p < 29)∧∀ k < 24,vx (pl (k+5))=k+5∧pl (k+5) < 24:=by decide +kernel
theorem geoA:Geo nbA sides []:=⟨by decide +kernel,by decide +kernel⟩
noncomputable abbrev rimL:List Nat:=(List.range 24).filter rim
theorem geoB:Geo nbB around rimL:=⟨by decide +kernel,by decide +kernel⟩
section
variable {nb:Nat→List Nat} {wy:Ways} {E:List Nat} {B c:Nat→Bool} {k m n x y:Nat}
theorem rel_up (h:rel c nb 100 n x y=true):∀ {d:Nat},n+d < 90→rel c nb 100 (n+d) x y=true
 | 0,_=>h
 | d+1,hd=>rel_mono (rel_up h (d:=d) (by (first | lia | omega))) (.inr (by decide)) (show n+d < 90 by (first | lia | omega))
theorem rel_edge (hk:k < 24) (hc:c (k+5)=true) (hm:m∈nb (k+5)) (hr:rel c nb 100 k m m=true) (hn:m≠k+5):rel c nb 100 24 (k+5) m=true:=by
 have h:rel c nb 100 (k+1) (k+5) m=true:=by
  rw [rel_vy hn]
  exact Bool.and_eq_true_iff.mpr ⟨hc,List.any_eq_true.mpr ⟨m,hm,hr⟩⟩
 have:=rel_up h (d:=23 - k) (by (first | lia | omega))
 rwa [show k+1+(23 - k)=24 by (first | lia | omega)] at this
noncomputable abbrev kd (B:Nat→Bool) (p:Nat):Bool:=decide (p < 24)&&B p
noncomputable abbrev cc (B:Nat→Bool) (v:Nat):Bool:=B (pl v)
noncomputable abbrev rp (B:Nat→Bool) (nb:Nat→List Nat) (p q:Nat):Bool:=rel (cc B) nb 100 24 (vx p) (vx q)
theorem kd_is {p:Nat}:kd B p=true↔p < 24∧B p=true:=by rw [Bool.and_eq_true,decide_eq_true_eq]
theorem rp_lt {p q:Nat} (h:rp B nb p q=true):p < 24:=by
 have:=rel_dom h
 refine Classical.byContradiction fun hp=>?_
 have e:vx p=0:=if_neg hp
 (first | lia | omega)
theorem rp_self {p:Nat}:rp B nb p p=kd B p:=by
 by_cases h:p < 24
 ·have h1:=vx_pl.1 p h
  show rel _ _ _ _ _ _=(decide (p < 24)&&B p)
  rw [rel_self (by (first | lia | omega)) (by (first | lia | omega)),decide_eq_true h]
  unfold ct cc
  rw [h1.1,Nat.ble_eq_true_of_le h1.2.1]
 ·have e:vx p=0:=if_neg h
  show rel _ _ _ _ _ _=(decide (p < 24)&&B p)
  rw [e,rel_self (by decide) (by decide),decide_eq_false h]; rfl
theorem rp_one {p q:Nat} (hp:kd B p=true) (hq:kd B q=true) (hm:vx q∈nb (vx p)) (hl:vx q < vx p):rp B nb p q=true:=by
 have hp:=kd_is.mp hp
 have hq:=kd_is.mp hq
 have h1:=vx_pl.1 p hp.1
 have h2:=vx_pl.1 q hq.1
 have e:vx p - 5+5=vx p:=by (first | lia | omega)
 have:=rel_edge (c:=cc B) (nb:=nb) (k:=vx p - 5) (m:=vx q) (by (first | lia | omega)) (by rw [e]; show B (pl (vx p))=true; rw [h1.1]; exact hp.2) (by rw [e]; exact hm) (by
  rw [rel_self (by (first | lia | omega)) (by (first | lia | omega))]
  unfold ct cc
  rw [h2.1,Nat.ble_eq_true_of_le h2.2.1,hq.2]; rfl) (by (first | lia | omega))
 rwa [e] at this
theorem told_kind (hk:k < 24) (hm:m < k+5) (h5:5≤m) (hr:rel (cc B) nb 100 k m m=true):kd B (pl m)=true:=by
 rw [rel_self hm (by omega)] at hr
 have:=(vx_pl.2 (m - 5) (by omega)).2
 rw [show m - 5+5=m by omega] at this
 exact kd_is.mpr ⟨this,(Bool.and_eq_true_iff.mp hr).2⟩
theorem tie (G:Geo nb wy E):Tie wy (kd B) (rp B nb) E where
 per:=⟨rel_symm,rel_trans⟩
 lt p h:=(kd_is.mp h).1
 self p:=rp_self
 edge p q hp hq h:=by
  rcases G.t1 p (kd_is.mp hp).1 q h with h | h
  ·exact rp_one hp hq h.1 h.2
  ·exact (rel_symm (c:=cc B)).trans (rp_one hq hp h.1 h.2)
 closed C hC hE s p h hs:=by
  have hp:p < 24:=rp_lt ((rel_symm (c:=cc B)).trans h)
  have hs':s < 24:=rp_lt h
  have key:=rel_closed (c:=cc B) (nb:=nb) (base:=100) (C:=fun v=>v≠100→C (pl v)) (n:=24) (fun k hk hc=>?_) h fun ζ=>by rw [(vx_pl.1 s hs').1]; exact hs
  ·have h2:=vx_pl.1 p hp
   have:=key (by omega)
   rwa [h2.1] at this
  ·have hK:kd B (pl (k+5))=true:=kd_is.mpr ⟨(vx_pl.2 k hk).2,hc⟩
   refine ⟨fun hv m hm hr h100=>?_,fun m hm hr hv ζ=>?_⟩
   ·rcases G.t2 k hk m hm with h | h | h
    ·exact absurd h.1 h100
    ·have:=rel_dom hr; omega
    ·have:=rel_dom hr
     exact hC _ _ hK h.2.1 (told_kind hk h.1 (by omega) hr) (hv (by omega))
   ·rcases G.t2 k hk m hm with h | h | h
    ·exact hE _ h.2 hK
    ·have:=rel_dom hr; omega
    ·have:=rel_dom hr
     exact hC _ _ (told_kind hk h.1 (by omega) hr) h.2.2 hK (hv (by omega))
theorem cl_map {R:Nat→Nat→Bool}:∀ {l s:List Nat},cl R (s.map vx) (l.map vx)=cl (fun p q=>R (vx p) (vx q)) s l
 | [],_=>rfl
 | x :: l,s=>by
  show (_&&!((s.map vx).any _)).toNat+cl R ((x :: s).map vx) (l.map vx)=(_&&!(s.any _)).toNat+_
  rw [cl_map (l:=l) (s:=x :: s),List.any_map]; rfl
end
section
variable {B:Nat→Bool}
noncomputable abbrev nB (B:Nat→Bool) (p:Nat):Bool:=!B p
noncomputable abbrev outs (B:Nat→Bool):List Nat:=rimL.filter (kd (nB B))
theorem rim_100:∀ p < 24,(100∈nbB (vx p)↔p∈rimL):=by decide +kernel
theorem perm24:(told [] 24).Perm ((List.range 24).map vx)∧(told [100] 24).Perm (100 :: (List.range 24).map vx):=by decide +kernel
theorem base_outs {p:Nat} (hp:p < 24):rel (cc (nB B)) nbB 100 24 100 (vx p)=(outs B).any (rp (nB B) nbB · p):=by
 rw [Bool.eq_iff_iff,List.any_eq_true]
 have h1:=vx_pl.1 p hp
 constructor
 ·intro h
  have key:=rel_closed (c:=cc (nB B)) (nb:=nbB) (base:=100) (C:=fun v=>v=100∨∃ o∈outs B,rel (cc (nB B)) nbB 100 24 (vx o) v=true) (n:=24) (fun k hk hc=>?_) h (.inl rfl)
  ·exact key.resolve_left (by (first | lia | omega))
  ·have hK:kd (nB B) (pl (k+5))=true:=kd_is.mpr ⟨(vx_pl.2 k hk).2,hc⟩
   refine ⟨fun hv m hm hr=>?_,fun m hm hr hv=>?_⟩
   ·by_cases h100:m=100
    ·exact .inl h100
    ·obtain ⟨o,ho,hr'⟩:=hv.resolve_left (by (first | lia | omega))
     have:=rel_dom hr
     exact .inr ⟨o,ho,rel_trans hr' (rel_edge hk hc hm hr (by (first | lia | omega)))⟩
   ·by_cases h100:m=100
    ·subst h100
     have e:=vx_pl.2 k hk
     have hin:=(rim_100 (pl (k+5)) e.2).mp (by rw [e.1]; exact hm)
     refine .inr ⟨pl (k+5),List.mem_filter.mpr ⟨hin,hK⟩,?_⟩
     have:=rp_self (B:=nB B) (nb:=nbB) (p:=pl (k+5))
     rw [hK] at this
     unfold rp at this
     rw [e.1] at this ⊢
     exact this
    ·obtain ⟨o,ho,hr'⟩:=hv.resolve_left h100
     have:=rel_dom hr
     exact .inr ⟨o,ho,rel_trans hr' (rel_symm.trans (rel_edge hk hc hm hr (by (first | lia | omega))))⟩
 ·rintro ⟨o,ho,hr⟩
  have ho:=List.mem_filter.mp ho
  have hk:=kd_is.mp ho.2
  have h2:=vx_pl.1 o hk.1
  refine rel_trans ?_ hr
  have e:vx o - 5+5=vx o:=by (first | lia | omega)
  have:=rel_edge (c:=cc (nB B)) (nb:=nbB) (k:=vx o - 5) (m:=100) (by (first | lia | omega)) (by rw [e]; show nB B (pl (vx o))=true; rw [h2.1]; exact hk.2) (by rw [e]; exact (rim_100 o hk.1).mpr ho.1) (rel_base (by (first | lia | omega))) (by (first | lia | omega))
  rw [e] at this
  exact rel_symm.trans this
theorem cl_base {R:Nat→Nat→Bool} {l s:List Nat} (h:R 100 100=true) (hs:∀ x∈l,R 100 x=s.any (R · x)):cl R [] (100 :: l)=1+cl R s l:=by
 show (R 100 100&&true).toNat+cl R [100] l=_
 rw [h]
 refine congrArg (1+·) (cl_congr fun x hx=>?_)
 rw [List.any_cons,List.any_nil,Bool.or_false,hs x hx]
theorem told_A {R:Nat→Nat→Bool} (P:Per R):cl R [] (told [] 24)=cl (fun p q=>R (vx p) (vx q)) [] (List.range 24):=(cl_perm P perm24.1 []).trans (cl_map (s:=[]))
theorem told_B {R:Nat→Nat→Bool} (P:Per R) (h:R 100 100=true) {s:List Nat} (hs:∀ p < 24,R 100 (vx p)=s.any fun q=>R (vx q) (vx p)):cl R [] (told [100] 24)=1+cl (fun p q=>R (vx p) (vx q)) s (List.range 24):=by
 rw [cl_perm P perm24.2,← cl_map]
 refine cl_base h fun x hx=>?_
 obtain ⟨p,hp,e⟩:=List.mem_map.mp hx
 rw [← e,hs p (List.mem_range.mp hp),List.any_map]; rfl
theorem pieces_are:(cl (rp B nbA) [] (List.range 24):Int) - (cl (rp (nB B) nbB) (outs B) (List.range 24):Int)=chi (cc B) 24:=by
 have h:=euler (c:=cc B)
 have h1:=told_A (R:=rA (cc B) 24) rel_per
 have h2:=told_B (R:=rB (cc B) 24) rel_per (rel_base (by decide)) (s:=outs B) fun p hp=>base_outs hp
 unfold dd at h
 rw [h1,h2] at h
 show (cl (fun p q=>rA (cc B) 24 (vx p) (vx q)) [] (List.range 24):Int) - (cl (fun p q=>rB (cc B) 24 (vx p) (vx q)) (outs B) (List.range 24):Int)=_
 generalize cl (fun p q=>rA (cc B) 24 (vx p) (vx q)) [] (List.range 24)=a at h ⊢
 generalize cl (fun p q=>rB (cc B) 24 (vx p) (vx q)) (outs B) (List.range 24)=b at h ⊢
 generalize chi (cc B) 24=z at h ⊢
 (first | lia | omega)
end
end Mine.EU
namespace Mine
open PySem PySem.W EU
section
variable {Φ:Calls} {Λ:Lexer} {G:Nat→Option V} {loc:Loc} {σ:Sto} {p:Pos} {a b c e e1 e2 e3:E} {x y z:V} {c1 c2 c3:Bool} {op op':CmpOp}
theorem t_cmp2 (ha:evM Φ Λ G a false loc σ=some (x,σ)) (hb:evM Φ Λ G b false loc σ=some (y,σ)) (h1:cmpop op x y σ=some c1) (hc:evM Φ Λ G c false loc σ=some (z,σ)) (h2:cmpop op' y z σ=some c2):evT Φ Λ G (.cmp2 op op' a b c p) loc σ=some (c1&&c2,σ):=by
 have h:evM Φ Λ G (.cmp2 op op' a b c p) true loc σ=some (.bool (c1&&c2),σ):=by
  refine bnd ha (bnd hb (bnd h1 ?_))
  cases c1 with
  | false=>rfl
  | true=>exact bnd hc (mpd h2)
 show asB _=_
 rw [h]; rfl
theorem t_and3 (h1:evT Φ Λ G e1 loc σ=some (c1,σ)) (h2:evT Φ Λ G e2 loc σ=some (c2,σ)) (h3:(c1&&c2)=true→evT Φ Λ G e3 loc σ=some (c3,σ)):evT Φ Λ G (.boolop .And (.cons e1 (.cons e2 (.cons e3 .nil))) p) loc σ=some ((c1&&c2)&&c3,σ):=by
 cases c1 with
 | false=>exact t_bool (b_stop (c:=false) h1 (by decide))
 | true =>
  cases c2 with
  | false=>exact t_bool (b_next h1 (by decide) (b_stop (c:=false) h2 (by decide)))
  | true =>
   cases c3 with
   | false=>exact t_bool (b_next h1 (by decide) (b_next h2 (by decide) (b_stop (h3 rfl) (by decide))))
   | true=>exact t_bool (b_next h1 (by decide) (b_next h2 (by decide) (b_next (h3 rfl) (by decide) rfl)))
theorem sub_ref {n k:Nat} {xs:List V} {v:V} (h:vlist σ n=some xs) (hk:xs[k]?=some v):subV (.ref n) (.int (k:Nat)) σ=some v:=by
 show orO ((vlist σ n).bind fun xs=>pick xs (k:Int)) _=_
 rw [h]
 show orO (pick xs (k:Int)) _=_
 rw [pick_at hk]; rfl
theorem set_ref {n k:Nat} {xs:List V} {v:V} (h:vlist σ n=some xs) (hk:k < xs.length):setV (.ref n) (.int (k:Nat)) v σ=some (σ.set n (.list (xs.set k v))):=by
 show ((vlist σ n).bind fun xs=>if 0≤(k:Int)∧(k:Int) < (xs.length:Int) then some (σ.set n (.list (xs.set (k:Int).toNat v))) else none)=_
 rw [h]
 exact if_pos ⟨Int.natCast_nonneg _,Int.ofNat_lt.mpr hk⟩
theorem le_int {m n:Int}:cmpop .LtE (.int m) (.int n) σ=some (decide (m≤n)):=rfl
theorem lt_int {m n:Int}:cmpop .Lt (.int m) (.int n) σ=some (decide (m < n)):=rfl
end
section
variable {n j q k:Nat} {X:Nat→Bool} {σ τ:Sto} {ns:List Int} {text r:List Nat} {W Z:List Nat}
noncomputable abbrev flL (X:Nat→Bool):List Nat:=(List.range 24).map fun p=>(X p).toNat
noncomputable abbrev fls (X:Nat→Bool):List V:=nts (flL X)
theorem fls_len:(fls X).length=24:=by rw [nts_len,List.length_map]; rfl
theorem fls_at (h:q < 24):(fls X)[q]?=some (.int ((X q).toNat:Nat)):=by
 unfold fls nts flL
 rw [List.map_map,List.getElem?_map,List.getElem?_eq_getElem (by rw [List.length_range]; exact h),List.getElem_range]; rfl
theorem fls_set (h:q < 24):(fls X).set q (.int 0)=fls (off X q):=by
 refine List.ext_getElem? fun i=>?_
 rcases Nat.lt_or_ge i 24 with hi | hi
 ·rw [fls_at hi]
  by_cases e:q=i
  ·subst e
   rw [List.getElem?_set_self (by rw [fls_len]; exact h)]
   unfold off
   rw [beq_self_eq_true,Bool.not_true,Bool.and_false]; rfl
  ·rw [List.getElem?_set_ne e,fls_at hi]
   unfold off
   rw [beq_false_of_ne (Ne.symm e),Bool.not_false,Bool.and_true]
 ·rw [List.getElem?_eq_none (by rw [List.length_set,fls_len]; exact hi),List.getElem?_eq_none (by rw [fls_len]; exact hi)]
noncomputable abbrev sg1 (W:List Nat):List (List Nat):=W.map fun p=>[sgn p]
noncomputable abbrev SS (ns:List Int) (text r:List Nat) (W:List Nat) (τ:Sto) (j:Nat) (X:Nat→Bool):Sto:=LS ns text r (wq (sg1 W)) (τ.set j (.list (fls X)))
theorem sg1_snoc:sg1 W++[[sgn q]]=sg1 (W++[q]):=(List.map_append (l₂:=[q])).symm
theorem ss_at (hj:j < τ.length):vlist (SS ns text r W τ j X) (j+4)=some (fls X):=by
 show (match (τ.set j (O.list (fls X)))[j]? with
  | some (.list xs)=>some xs
  | _=>none)=_
 rw [List.getElem?_set_self hj]
theorem ss_low (h:stoLow 4 τ=true):stoLow 4 (τ.set j (.list (fls X)))=true:=stoLow_set h (lowL_map fun ζ=>rfl)
theorem ss_off (hj:j < τ.length) (hq:q < 24):setV (.ref (j+4)) (.int (q:Nat)) (.int 0) (SS ns text r W τ j X)=some (SS ns text r W τ j (off X q)):=by
 refine (set_ref (ss_at hj) (by rw [fls_len]; exact hq)).trans ?_
 rw [fls_set hq]
 show some (LS ns text r (wq (sg1 W)) ((τ.set j _).set j _))=_
 rw [List.set_set]
theorem x_signs:phi TT (n+1) i__law_signs [] σ=some (.str B64,σ):=f_call rfl rfl rfl (l_one (s_ret rfl)) rfl (leave_same rfl rfl)
noncomputable abbrev ldI:S:=b__law_led_on.get 1
noncomputable abbrev ldW:S:=b__law_led_on.get 3
noncomputable abbrev ldY:S:=ldW.a.get 1
noncomputable abbrev ldLoc (st:V) (j:Nat) (wy:V) (pl wd ii jj pp qq:Option V):Loc:=[some (.ref 3),some st,some (.ref (j+4)),some wy,some (.str B64),pl,wd,ii,jj,pp,qq]
theorem push_s {loc:Loc} {i k m:Nat} {q1 q2 q3 q4 q5 q6 pp:Pos} (hj:stoLow 4 τ=true) (hW:W.length < 1000) (hq:q < 24) (hi:loc[i]?=some (some (.ref 3))) (hn:loc[k]?=some (some (.str B64))) (hp:loc[m]?=some (some (.int (q:Nat)))):evS (phi TT (n+1)) (lamN TT (n+1)) TT.G (.expr (.meth (.var i q1) .push_token (.cons (.sub (.var k q2) (.var m q3) q4) .nil) q5 q6) pp) loc (SS ns text r W τ j X)=some (.next,loc,SS ns text r (W++[q]) τ j X):=by
 have hp':=l_push (n:=n) (ns:=ns) (text:=text) (r:=r) (u:=[sgn q]) (g:=sg1 W) (ss_low (j:=j) (X:=X) hj) (by rw [List.length_map]; exact hW)
 rw [sg1_snoc] at hp'
 exact s_expr (r_meth (x:=.ref 3) (k:=2) (r_var hi) rfl (r_one (r_sub (r_var hn) (r_var hp) (sub_signs (Nat.lt_trans hq (by decide))))) hp')
theorem st_over {st:V} {wy:V} (hj:j < τ.length) (hl:stoLow 4 τ=true):∀ {Z:List Nat} {X:Nat→Bool} {W:List Nat},(∀ q∈Z,q < 24)→W.length+Z.length < 1000→over (loopStep (phi TT (n+1)) (lamN TT (n+1)) TT.G [5] ldI.t ldI.a) (nts Z) (.next,ldLoc st j wy none none none none none none) (SS ns text r W τ j X)=some (true,(.next,ldLoc st j wy none none none none none none),SS ns text r (W++Z) τ j (Z.foldl off X))
 | [],X,W,_,_=>by rw [List.append_nil]; rfl
 | q :: Z,X,W,hq,hn=>by
  rw [List.length_cons] at hn
  have h0:=hq q (.head _)
  have ih:=st_over hj hl (st:=st) (wy:=wy) (Z:=Z) (X:=off X q) (W:=W++[q]) (fun x hx=>hq x (.tail _ hx)) (by rw [List.length_append]; show W.length+1+_ < _; (first | lia | omega))
  rw [List.append_assoc] at ih
  exact over_cons (u_next (t:=ldI.t) rfl (l_cons (s_put r_int (r_var rfl) (r_var rfl) (ss_off hj h0)) (l_one (push_s hl (by (first | lia | omega)) h0 rfl rfl rfl))) rfl) ih
theorem tgt_is {p:Nat} {a:Int × Int} (h:okW p a=true):6*(((p / 6:Nat):Int)+a.1)+((p % 6:Nat):Int)+a.2=(tgt p a:Nat)∧tgt p a < 24:=by
 unfold okW at h
 simp only [Bool.and_eq_true,decide_eq_true_eq] at h
 unfold tgt
 (first | lia | omega)
noncomputable def wyV (wy:List (Int × Int)):List V:=wy.map fun a=>.tup [.int a.1,.int a.2]
noncomputable abbrev wLoc (st:V) (j:Nat) (wy wd:V) (p:Nat) (pl a b:Option V):Loc:=ldLoc st j wy pl (some wd) (some (.int (p / 6:Nat))) (some (.int (p % 6:Nat))) a b
noncomputable abbrev wS (n:Nat):=loopStep (phi TT (n+1)) (lamN TT (n+1)) TT.G [9,10,5] ldY.t ldY.a
noncomputable def goW (p:Nat) (a:Int × Int) (s:Fw):Fw:=if okW p a then go1 s (tgt p a) else s
theorem wy_turn {st wy wd:V} {p:Nat} {a:Int × Int} (ha:a.1.natAbs≤9) (hp:p < 24) (hj:j < τ.length) (hl:stoLow 4 τ=true) (hn:W.length < 1000) :
  wS n (.tup [.int a.1,.int a.2]) (.next,wLoc st j wy wd p none none none) (SS ns text r W τ j X)=some (true,(.next,wLoc st j wy wd p none none none),SS ns text r (goW p a (W,X)).1 τ j (goW p a (W,X)).2):=by
 have hx (σ:Sto):evM (phi TT (n+1)) (lamN TT (n+1)) TT.G (partE (ldY.a.get 0)) false (wLoc st j wy wd p none (some (.int a.1)) (some (.int a.2))) σ=some (.int (6*(((p / 6:Nat):Int)+a.1)+((p % 6:Nat):Int)+a.2),σ) :=
  r_bin (r_bin (r_bin r_int (r_bin (r_var rfl) (r_var rfl) rfl) (o_mul (decide_eq_true (by omega)) rfl)) (r_var rfl) rfl) (r_var rfl) rfl
 have hc (z:Int) (hz:okW p a=true→z=(tgt p a:Nat)):evT (phi TT (n+1)) (lamN TT (n+1)) TT.G (partE (ldY.a.get 1)) (wLoc st j wy wd p (some (.int z)) (some (.int a.1)) (some (.int a.2))) (SS ns text r W τ j X)=some (okW p a&&X (tgt p a),SS ns text r W τ j X) :=
  t_and3 (t_cmp2 r_int (r_bin (r_var rfl) (r_var rfl) rfl) le_int r_int lt_int) (t_cmp2 r_int (r_bin (r_var rfl) (r_var rfl) rfl) le_int r_int lt_int) fun h=>t_cmp (r_sub (r_var rfl) (r_var rfl) (hz h▸sub_ref (ss_at hj) (fls_at (tgt_is h).2))) r_int (q_int (y:=((1:Nat):Int)) (cast_beq.trans (by cases X (tgt p a) <;> rfl)))
 cases ho:okW p a with
 | false =>
  have e:goW p a (W,X)=(W,X):=if_neg (by rw [ho]; decide)
  have hc:=hc (6*(((p / 6:Nat):Int)+a.1)+((p % 6:Nat):Int)+a.2) fun h=>absurd (ho.symm.trans h) (by decide)
  rw [ho] at hc
  rw [e]
  exact u_next (t:=ldY.t) (loc':=wLoc st j wy wd p (some _) (some (.int a.1)) (some (.int a.2))) rfl (l_cons (s_assign (hx _) rfl) (l_one (s_no hc rfl))) rfl
 | true =>
  have ht:=tgt_is ho
  have hc:=hc _ fun ζ=>rfl
  have e:goW p a (W,X)=go1 (W,X) (tgt p a):=if_pos ho
  rw [e]
  rw [ho,Bool.true_and] at hc
  rw [ht.1] at hx
  cases hX:X (tgt p a) with
  | false =>
   rw [hX] at hc
   rw [show go1 (W,X) (tgt p a)=(W,X) from if_neg (by show ¬ X (tgt p a)=true; rw [hX]; decide)]
   exact u_next (t:=ldY.t) (loc':=wLoc st j wy wd p (some _) (some (.int a.1)) (some (.int a.2))) rfl (l_cons (s_assign (hx _) rfl) (l_one (s_no hc rfl))) rfl
  | true =>
   rw [hX] at hc
   rw [show go1 (W,X) (tgt p a)=(W++[tgt p a],off X (tgt p a)) from if_pos hX]
   exact u_next (t:=ldY.t) (loc':=wLoc st j wy wd p (some _) (some (.int a.1)) (some (.int a.2))) rfl (l_cons (s_assign (hx _) rfl) (l_one (s_yes hc (l_cons (s_put r_int (r_var rfl) (r_var rfl) (ss_off hj ht.2)) (l_one (push_s hl hn ht.2 rfl rfl rfl)))))) rfl
theorem goP_cons {a:Int × Int} {wy:List (Int × Int)} {p:Nat} {s:Fw}:goP (a :: wy) p s=goP wy p (goW p a s):=by
 unfold goP nbs goW
 rw [List.filter_cons]
 split <;> rfl
theorem go1_len {s:Fw}:(go1 s q).1.length≤s.1.length+1:=by
 unfold go1
 split
 ·rw [List.length_append]; exact Nat.le_refl _
 ·exact Nat.le_succ _
theorem goW_len {a:Int × Int} {p:Nat} {s:Fw}:(goW p a s).1.length≤s.1.length+1:=by
 unfold goW
 split
 ·exact go1_len
 ·exact Nat.le_succ _
theorem wy_over {st wv wd:V} {p:Nat} (hp:p < 24) (hj:j < τ.length) (hl:stoLow 4 τ=true):∀ {wy:List (Int × Int)} {s:Fw},(∀ a∈wy,a.1.natAbs≤9)→s.1.length+wy.length < 1000 →
  over (wS n) (wyV wy) (.next,wLoc st j wv wd p none none none) (SS ns text r s.1 τ j s.2)=some (true,(.next,wLoc st j wv wd p none none none),SS ns text r (goP wy p s).1 τ j (goP wy p s).2)
 | [],_,_,_=>rfl
 | a :: wy,s,ha,hn=>by
  rw [List.length_cons] at hn
  rw [goP_cons]
  have h1:=goW_len (p:=p) (a:=a) (s:=s)
  exact over_cons (wy_turn (ha a (.head _)) hp hj hl (by (first | lia | omega))) (wy_over hp hj hl (s:=goW p a s) (fun x hx=>ha x (.tail _ hx)) (by (first | lia | omega)))
noncomputable def nxW (r:List Nat):List Nat→List Nat
 | u :: _=>[sgn u]
 | []=>if r=dot then [46] else []
noncomputable def nxR (r:List Nat) (W:List Nat):List Nat:=if W=[] then [] else r
theorem ld_get (hl:stoLow 4 τ=true) (hd:r=[]∨(r=dot∧dot <:+ text)):phi TT (n+3) i_get_token [.ref 3] (SS ns text r W τ j X)=some (.str (nxW r W),SS ns text (nxR r W) W.tail τ j X):=by
 cases W with
 | cons u W=>exact l_pop (ss_low hl)
 | nil =>
  rcases hd with rfl | ⟨rfl,hd⟩
  ·exact l_end (ss_low hl)
  ·exact l_dot (ss_low hl) hd
theorem sg_word {u:Nat} (h:u < 64):([]==[sgn u])=false∧([46]==[sgn u])=false:=by
 refine ⟨rfl,?_⟩
 have:∀ u < 64,([46]==[sgn u])=false:=by decide +kernel
 exact this u h
theorem go1_lt {s:Fw} (hq:q < 24) (h:∀ u∈s.1,u < 24):∀ u∈(go1 s q).1,u < 24:=by
 unfold go1
 split
 ·exact fun u hu=>(List.mem_append.mp hu).elim (h u) fun h=>List.mem_singleton.mp h▸hq
 ·exact h
theorem goP_lt {qs:List Nat}:∀ {s:Fw},(∀ q∈qs,q < 24)→(∀ u∈s.1,u < 24)→∀ u∈(qs.foldl go1 s).1,u < 24:=by
 induction qs with
 | nil=>exact fun ζ h=>h
 | cons q qs ih=>exact fun hq h=>ih (fun x hx=>hq x (.tail _ hx)) (go1_lt (hq q (.head _)) h)
theorem goP_len {qs:List Nat}:∀ {s:Fw},(qs.foldl go1 s).1.length≤s.1.length+qs.length:=by
 induction qs with
 | nil=>exact fun {s}=>Nat.le_refl _
 | cons q qs ih =>
  intro s
  have h1:=ih (s:=go1 s q)
  have h2:=go1_len (s:=s) (q:=q)
  rw [List.length_cons]
  show (qs.foldl go1 (go1 s q)).1.length≤_
  (first | lia | omega)
noncomputable abbrev hLoc (st:V) (j:Nat) (wy:V) (wd:List Nat):Loc:=ldLoc st j wy none (some (.str wd)) none none none none
theorem ld_whl {st:V} {wy:List (Int × Int)} {z:Nat} (hj:j < τ.length) (hl:stoLow 4 τ=true) (ha:∀ a∈wy,a.1.natAbs≤9) (hw:wy.length≤8) (hd:r=[]∨(r=dot∧dot <:+ text)):∀ {f:Nat} {W:List Nat} {X Y:Nat→Bool},flood wy f (W,X)=some Y→(∀ u∈W,u < 24)→W.length+8*f < 990 →
  ∃ e,whl (phi TT (n+3)) (lamN TT (n+3)) TT.G (partE ldW) [7,8,9,10,5] ldW.a (z+f) (hLoc st j (.lst (wyV wy)) (nxW r W)) (SS ns text (nxR r W) W.tail τ j X)=some (.next,hLoc st j (.lst (wyV wy)) e,SS ns text [] [] τ j Y)
 | 0,_,_,_,h,_,_=>nomatch h
 | f+1,[],X,Y,h,_,_=>by
  cases h
  refine ⟨_,w_stop (t_cmp (r_var rfl) (r_tup (r_two r_str r_str)) ?_)⟩
  show cmpop .NotIn (.str (if r=dot then [46] else [])) _ _=_
  split <;> rfl
 | f+1,u :: W,X,Y,h,hu,hn=>by
  rw [List.length_cons] at hn
  have h0:=hu u (.head _)
  have hg:(goP wy u (W,X)).1.length≤W.length+8:=Nat.le_trans goP_len (Nat.add_le_add_left (Nat.le_trans (by unfold nbs; rw [List.length_map]; exact List.length_filter_le ..) hw) _)
  obtain ⟨e,ih⟩:=ld_whl (z:=z) hj hl ha hw hd (f:=f) (W:=(goP wy u (W,X)).1) (X:=(goP wy u (W,X)).2) h (goP_lt (s:=(W,X)) nbs_lt fun x hx=>hu x (.tail _ hx)) (by (first | lia | omega))
  refine ⟨e,w_turn (t_cmp (r_var rfl) (r_tup (r_two r_str r_str)) (word_in (sg_word (Nat.lt_trans h0 (by decide))).1 (sg_word (Nat.lt_trans h0 (by decide))).2)) (l_cons (s_assign (r_tup (r_two (r_bin (r_meth (r_var rfl) rfl (r_one (r_var rfl)) (m_index (Nat.lt_trans h0 (by decide)))) r_int (o_divN (b:=6) rfl rfl)) (r_bin (r_meth (r_var rfl) rfl (r_one (r_var rfl)) (m_index (Nat.lt_trans h0 (by decide)))) r_int (o_modN (b:=6) (by decide) rfl)))) rfl) (l_cons (s_loop (x:=.lst (wyV wy)) (r_var rfl) rfl (wy_over (s:=(W,X)) h0 hj hl ha (by show W.length+_ < _; (first | lia | omega))) rfl) (l_one (s_assign (r_meth (x:=.ref 3) (k:=2) (r_var rfl) rfl r_nil (ld_get hl hd)) rfl)))) rfl ih⟩
theorem x_led_on {wy:List (Int × Int)} {Z:List Nat} {Y:Nat→Bool} (hj:j < τ.length) (hl:stoLow 4 τ=true) (ha:∀ a∈wy,a.1.natAbs≤9) (hw:wy.length≤8) (hd:r=[]∨(r=dot∧dot <:+ text)) (hZ:∀ q∈Z,q < 24) (hn:Z.length≤24) (h:flood wy 100 (Z,Z.foldl off X)=some Y) :
  phi TT (n+4) i__law_led_on [.ref 3,.lst (nts Z),.ref (j+4),.lst (wyV wy)] (SS ns text r [] τ j X)=some (.none,SS ns text [] [] τ j Y):=by
 obtain ⟨e,hwh⟩:=ld_whl (n:=n) (ns:=ns) (text:=text) (st:=.lst (nts Z)) (z:=999900) hj hl ha hw hd h hZ (by (first | lia | omega))
 have h1:evS (phi TT (n+3)) (lamN TT (n+3)) TT.G (b__law_led_on.get 0) [some (.ref 3),some (.lst (nts Z)),some (.ref (j+4)),some (.lst (wyV wy)),none,none,none,none,none,none,none] (SS ns text r [] τ j X)=some (.next,ldLoc (.lst (nts Z)) j (.lst (wyV wy)) none none none none none none,SS ns text r [] τ j X):=s_assign (r_fn rfl r_nil (x_signs (n:=n+2))) rfl
 have h2:evS (phi TT (n+3)) (lamN TT (n+3)) TT.G ldI (ldLoc (.lst (nts Z)) j (.lst (wyV wy)) none none none none none none) (SS ns text r [] τ j X)=some (.next,ldLoc (.lst (nts Z)) j (.lst (wyV wy)) none none none none none none,SS ns text r Z τ j (Z.foldl off X)):=s_loop (x:=.lst (nts Z)) (r_var rfl) rfl (st_over (n:=n+2) (W:=[]) hj hl hZ (by show 0+_ < _; (first | lia | omega))) rfl
 have h3:evS (phi TT (n+3)) (lamN TT (n+3)) TT.G (b__law_led_on.get 2) (ldLoc (.lst (nts Z)) j (.lst (wyV wy)) none none none none none none) (SS ns text r Z τ j (Z.foldl off X))=some (.next,hLoc (.lst (nts Z)) j (.lst (wyV wy)) (nxW r Z),SS ns text (nxR r Z) Z.tail τ j (Z.foldl off X)):=s_assign (r_meth (x:=.ref 3) (k:=2) (r_var rfl) rfl r_nil (ld_get hl hd)) rfl
 have h4:evS (phi TT (n+3)) (lamN TT (n+3)) TT.G ldW (hLoc (.lst (nts Z)) j (.lst (wyV wy)) (nxW r Z)) (SS ns text (nxR r Z) Z.tail τ j (Z.foldl off X))=some (.next,hLoc (.lst (nts Z)) j (.lst (wyV wy)) e,SS ns text [] [] τ j Y):=hwh
 exact f_run (f:=f__law_led_on) rfl rfl rfl rfl (l_cons h1 (l_cons h2 (l_cons h3 (l_one h4)))) rfl (leave_same (by show (τ.set j _).length+4=(τ.set j _).length+4; rw [List.length_set,List.length_set]) rfl)
end
end Mine
namespace Mine
open PySem PySem.W EU
section
variable {n j k:Nat} {X:Nat→Bool} {σ τ:Sto} {ns:List Int} {text r:List Nat} {wy:Ways} {K:Nat→Bool} {R:Nat→Nat→Bool} {Ed seen:List Nat}
noncomputable abbrev pcL:S:=b__law_pieces.get 1
noncomputable abbrev pcLoc (j:Nat) (wy:Ways) (k:Nat) (pl:Option V):Loc:=[some (.ref 3),some (.ref (j+4)),some (.lst (wyV wy)),some (.int (k:Nat)),pl]
noncomputable abbrev pcS (n:Nat):=loopStep (phi TT (n+4)) (lamN TT (n+4)) TT.G [4] pcL.t pcL.a
theorem pc_turn {q:Nat} (T:Tie wy K R Ed) (hE:∀ o∈Ed,K o=true→o∈seen) (hj:j < τ.length) (hl:stoLow 4 τ=true) (ha:∀ a∈wy,a.1.natAbs≤9) (hw:wy.length≤8) (hq:q < 24) :
  pcS n (.int (q:Nat)) (.next,pcLoc j wy k none) (SS ns text [] [] τ j (vis K R seen))=some (true,(.next,pcLoc j wy (k+(vis K R seen q).toNat) none),SS ns text [] [] τ j (vis K R (q :: seen))):=by
 have hc:evT (phi TT (n+4)) (lamN TT (n+4)) TT.G (partE (pcL.a.get 0)) (pcLoc j wy k (some (.int (q:Nat)))) (SS ns text [] [] τ j (vis K R seen))=some (vis K R seen q,SS ns text [] [] τ j (vis K R seen)) :=
  t_cmp (r_sub (r_var rfl) (r_var rfl) (sub_ref (ss_at hj) (fls_at hq))) r_int (q_int (y:=((1:Nat):Int)) (cast_beq.trans (by cases vis K R seen q <;> rfl)))
 cases h:vis K R seen q with
 | false =>
  rw [h] at hc
  rw [← vis_same T h]
  exact u_next (t:=pcL.t) (loc':=pcLoc j wy k (some (.int (q:Nat)))) rfl (l_one (s_no hc rfl)) rfl
 | true =>
  rw [h] at hc
  have hK:K q=true:=(vis_is.mp h).1
  have hf:=flood_vis (wy:=wy) (seen:=seen) (Z:=[q]) T (fun z hz=>List.mem_singleton.mp hz▸hK) (show 1≤24 by decide) fun o ho hk=>.tail _ (hE o ho hk)
  have hx:=x_led_on (n:=n) (ns:=ns) (text:=text) (r:=[]) (τ:=τ) (j:=j) (Z:=[q]) hj hl ha hw (.inl rfl) (fun z hz=>List.mem_singleton.mp hz▸hq) (show 1≤24 by decide) hf
  exact u_next (t:=pcL.t) (loc':=pcLoc j wy (k+1) (some (.int (q:Nat)))) rfl (l_one (s_yes hc (l_cons (s_aug rfl r_int (o_addN rfl rfl)) (l_one (s_expr (r_fn rfl (r_cons (r_var rfl) (r_cons (r_lst (r_one (r_var rfl)) (show 1≤maxLen by decide)) (r_two (r_var rfl) (r_var rfl)))) hx)))))) rfl
theorem pc_over (T:Tie wy K R Ed) (hj:j < τ.length) (hl:stoLow 4 τ=true) (ha:∀ a∈wy,a.1.natAbs≤9) (hw:wy.length≤8):∀ {l seen:List Nat} {k:Nat},(∀ o∈Ed,K o=true→o∈seen)→(∀ q∈l,q < 24) →
  over (pcS n) (nts l) (.next,pcLoc j wy k none) (SS ns text [] [] τ j (vis K R seen))=some (true,(.next,pcLoc j wy (k+cl R seen l) none),SS ns text [] [] τ j (vis K R (l.reverse++seen)))
 | [],_,_,_,_=>rfl
 | q :: l,seen,k,hE,hq=>by
  have ih:=pc_over T hj hl ha hw (l:=l) (seen:=q :: seen) (k:=k+(vis K R seen q).toNat) (fun o ho hk=>.tail _ (hE o ho hk)) fun x hx=>hq x (.tail _ hx)
  rw [Nat.add_assoc,← vis_cl T] at ih
  rw [List.reverse_cons,List.append_assoc]
  exact over_cons (pc_turn T hE hj hl ha hw (hq q (.head _))) ih
theorem x_pieces (T:Tie wy K R Ed) (hE:∀ o∈Ed,K o=true→o∈seen) (hj:j < τ.length) (hl:stoLow 4 τ=true) (ha:∀ a∈wy,a.1.natAbs≤9) (hw:wy.length≤8) :
  phi TT (n+5) i__law_pieces [.ref 3,.ref (j+4),.lst (wyV wy)] (SS ns text [] [] τ j (vis K R seen))=some (.int (cl R seen (List.range 24):Nat),SS ns text [] [] τ j (vis K R ((List.range 24).reverse++seen))):=by
 have h:=pc_over (n:=n) (ns:=ns) (text:=text) T hj hl ha hw (l:=List.range 24) (seen:=seen) (k:=0) hE fun q hq=>List.mem_range.mp hq
 rw [Nat.zero_add] at h
 have h2:evS (phi TT (n+4)) (lamN TT (n+4)) TT.G pcL (pcLoc j wy 0 none) (SS ns text [] [] τ j (vis K R seen))=some (.next,pcLoc j wy (cl R seen (List.range 24)) none,SS ns text [] [] τ j (vis K R ((List.range 24).reverse++seen))):=s_loop (r_ty rfl (r_one r_int) (c_range (b:=24) (by decide))) (i_range (b:=24) (by decide)) h rfl
 exact f_run (f:=f__law_pieces) rfl rfl rfl rfl (l_cons (s_assign r_int rfl) (l_cons h2 (l_one (s_ret (r_var rfl))))) rfl (leave_same (by show (τ.set j _).length+4=(τ.set j _).length+4; rw [List.length_set,List.length_set]) rfl)
end
end Mine
namespace Mine
open PySem PySem.W EU
section
variable {n k:Nat} {σ:Sto} {a b c d x y:Nat}
noncomputable def wt1 (c:Nat):Nat:=if (c==45)=true then 0 else if (subAt [c] [115,116] 0).isSome=true then 2 else 1
noncomputable def rowWt (row:List Nat):Nat:=((row.drop 1).map wt1).sum
noncomputable abbrev shL:S:=b__law_shown.get 1
noncomputable abbrev shLoc (F:List Nat) (s:Nat) (k row:Option V):Loc:=[some (.lst (nts F)),some (.int (s:Nat)),k,row,none]
noncomputable abbrev shS (n:Nat):=loopStep (phi TT (n+2)) (lamN TT (n+2)) TT.G [2,3] shL.t shL.a
theorem wt_turn {F:List Nat} {s:Nat} {k row:Option V} {Φ:Calls} {Λ:Lexer} {q2 q3 q4 q5 q6 q7 q8 q9 q10 q11 q12:Pos}:evM Φ Λ TT.G (.ife (.cmp .Eq (.var 4 q2) (.cstr [45] q3) q4) (.cint 0 q5) (.ife (.cmp .In (.var 4 q6) (.cstr [115,116] q7) q8) (.cint 2 q9) (.cint 1 q10) q11) q12) false [some (.lst (nts F)),some (.int (s:Nat)),k,row,some (.str [c])] σ=some (.int (wt1 c:Nat),σ):=by
 refine r_ife (t_cmp (r_var rfl) r_str (q_str one_beq)) ?_
 unfold wt1
 cases c==45 with
 | true=>rfl
 | false=>exact r_ife (p:=q11) (t_cmp (r_var rfl) r_str (q_in rfl)) (by cases (subAt [c] [115,116] 0).isSome <;> rfl)
theorem sum_one {l:List Nat}:callB .sum [.lst (nts l)] σ=some (.int (l.sum:Nat),σ):=by
 have:=c_sumf (σ:=σ) (g:=id) (xs:=l)
 rwa [List.map_id] at this
theorem aug_addN {a b:Nat}:augop .Add (.int (a:Nat)) (.int (b:Nat)) σ=some (.int ((a+b:Nat):Int),σ):=rfl
theorem sh_turn {F:List Nat} {s k:Nat} (h:Low σ) (hb:F.getD k 0 < 64) (hk:k < F.length) (hF:F.length≤10):shS n (.int (k:Nat)) (.next,shLoc F s none none) σ=some (true,(.next,shLoc F (s+rowWt (fmode ((32768+64*F.getD k 0+((F.take (k+2)).drop (k+1)).sum:Nat):Int))) none none),σ):=by
 have hs:sliceV (.lst (nts F)) (.int (k+1:Nat)) (.int (k+2:Nat)) .none σ=some (.lst (nts ((F.take (k+2)).drop (k+1))),σ):=by
  have:=slice_l (σ:=σ) (xs:=nts F) (i:=k+1) (j:=k+2) (by rw [nts_len]; unfold maxLen; (first | lia | omega))
  unfold nts at this ⊢
  rw [← List.map_take,← List.map_drop] at this
  exact this
 refine u_next (t:=shL.t) (loc':=shLoc F (s+_) (some (.int (k:Nat))) (some (.str (fmode ((32768+64*F.getD k 0+((F.take (k+2)).drop (k+1)).sum:Nat):Int))))) rfl (l_cons (s_assign (r_fn rfl (r_one (r_bin (r_bin r_int (r_bin r_int (r_sub (r_var rfl) (r_var rfl) (sub_nts hk)) (o_mulN (a:=64) ?_ rfl)) (o_addN rfl rfl)) (r_bi rfl (r_one (r_slice (r_var rfl) (e_some (r_bin (r_var rfl) r_int (o_addN rfl rfl))) (e_some (r_bin (r_var rfl) r_int (o_addN rfl rfl))) rfl hs)) sum_one) (o_addN rfl rfl))) (x_filemode (n:=n) h)) rfl)
  (l_one (s_aug rfl (r_bi rfl (r_one (r_mapl (xs:=(fmode ((32768+64*F.getD k 0+((F.take (k+2)).drop (k+1)).sum:Nat):Int)).drop 1) (f:=fun c=>.str [c]) (g:=fun c=>.int (wt1 c:Nat)) (r_slice (r_var rfl) (e_some r_int) rfl rfl (slice_from (k:=1))) (by show some (It.items _,_)=_; rw [List.length_map]) (by unfold maxLen; rw [List.length_drop,fmode_length]; (first | lia | omega)) fun c ζ=>⟨_,rfl,wt_turn⟩)) c_sumf) aug_addN))) rfl
 exact Nat.lt_trans hb (by decide)
noncomputable def shown:List Nat→Nat
 | a :: b :: F=>rowWt (fmode ((32768+64*a+b:Nat):Int))+shown F
 | [a]=>rowWt (fmode ((32768+64*a:Nat):Int))
 | []=>0
theorem x_shown4 (h:Low σ) (ha:a < 64) (hc:c < 64):phi TT (n+3) i__law_shown [.lst (nts [a,b,c,d])] σ=some (.int (shown [a,b,c,d]:Nat),σ):=by
 have h1:=sh_turn (n:=n) (σ:=σ) (F:=[a,b,c,d]) (s:=0) (k:=0) h ha (show 0 < 4 by decide) (show 4≤10 by decide)
 have h2:=sh_turn (n:=n) (σ:=σ) (F:=[a,b,c,d]) (s:=0+rowWt (fmode ((32768+64*a+(b+0):Nat):Int))) (k:=2) h hc (show 2 < 4 by decide) (show 4≤10 by decide)
 refine f_run (f:=f__law_shown) rfl rfl rfl rfl (l_cons (s_assign r_int rfl) (l_cons (s_loop (x:=.rng 0 4 2) (vs:=nts [0,2]) (r_ty rfl (r_cons r_int (r_two (r_bi rfl (r_one (r_var rfl)) rfl) r_int)) rfl) rfl (over_cons h1 (over_cons h2 rfl)) rfl) (l_one (s_ret (r_var rfl))))) rfl ((leave_same rfl rfl).trans ?_)
 show (V.int ((0+rowWt (fmode ((32768+64*a+(b+0):Nat):Int))+rowWt (fmode ((32768+64*c+(d+0):Nat):Int)):Nat):Int),σ)=_
 rw [Nat.zero_add]; rfl
theorem x_shown3 (h:Low σ) (ha:a < 64) (hc:c < 64):phi TT (n+3) i__law_shown [.lst (nts [a,b,c])] σ=some (.int (shown [a,b,c]:Nat),σ):=by
 have h1:=sh_turn (n:=n) (σ:=σ) (F:=[a,b,c]) (s:=0) (k:=0) h ha (show 0 < 3 by decide) (show 3≤10 by decide)
 have h2:=sh_turn (n:=n) (σ:=σ) (F:=[a,b,c]) (s:=0+rowWt (fmode ((32768+64*a+(b+0):Nat):Int))) (k:=2) h hc (show 2 < 3 by decide) (show 3≤10 by decide)
 refine f_run (f:=f__law_shown) rfl rfl rfl rfl (l_cons (s_assign r_int rfl) (l_cons (s_loop (x:=.rng 0 3 2) (vs:=nts [0,2]) (r_ty rfl (r_cons r_int (r_two (r_bi rfl (r_one (r_var rfl)) rfl) r_int)) rfl) rfl (over_cons h1 (over_cons h2 rfl)) rfl) (l_one (s_ret (r_var rfl))))) rfl ((leave_same rfl rfl).trans ?_)
 show (V.int ((0+rowWt (fmode ((32768+64*a+(b+0):Nat):Int))+rowWt (fmode ((32768+64*c+0:Nat):Int)):Nat):Int),σ)=_
 rw [Nat.zero_add]; rfl
noncomputable def hf (f:Nat):Nat:=f &&& f / 2
noncomputable def counted (a b c d:Nat):Int:=(shown [a,b,c,d]:Int) - (shown [hf a,hf b,hf c,hf d]:Int) - (shown [a &&& b,b &&& c,c &&& d]:Int)+(shown [hf (a &&& b),hf (b &&& c),hf (c &&& d)]:Int)
theorem and_lt (h:x < 64):x &&& y < 64:=Nat.lt_of_le_of_lt Nat.and_le_left h
noncomputable abbrev coLoc (a b c d:Nat) (v1 v2 v3:Option V):Loc:=[some (.lst (nts [a,b,c,d])),v1,v2,v3,none,none,none]
theorem r_half {loc:Loc} {i:Nat} {Φ:Calls} {Λ:Lexer} {q1 q2 q3 q4 p:Pos} (h:loc[i]?=some (some (.int (x:Nat)))):evM Φ Λ TT.G (.bin .BitAnd (.var i q1) (.bin .FloorDiv (.var i q2) (.cint 2 q3) q4) p) false loc σ=some (.int (hf x:Nat),σ) :=
 r_bin (r_var h) (r_bin (r_var h) r_int (o_divN (b:=2) rfl rfl)) o_and
theorem x_counted (h:Low σ) (ha:a < 64) (hc:c < 64):phi TT (n+4) i__law_counted [.lst (nts [a,b,c,d])] σ=some (.int (counted a b c d),σ):=by
 have e1:evS (phi TT (n+3)) (lamN TT (n+3)) TT.G (b__law_counted.get 0) (coLoc a b c d none none none) σ=some (.next,coLoc a b c d (some (.lst (nts [a &&& b,b &&& c,c &&& d]))) none none,σ) :=
  s_assign (r_mapl (xs:=List.range 3) (f:=fun i=>.int (i:Nat)) (g:=fun i=>.int (([a,b,c,d].getD i 0 &&& [a,b,c,d].getD (i+1) 0:Nat):Int)) (r_ty rfl (r_one r_int) (c_range (b:=3) (by decide))) (i_range (b:=3) (by decide)) (by decide) fun i hi=>⟨_,rfl,r_bin (r_sub (r_var rfl) (r_var rfl) (sub_nts (Nat.lt_succ_of_lt (List.mem_range.mp hi)))) (r_sub (r_var rfl) (r_bin (r_var rfl) r_int (o_addN rfl rfl)) (sub_nts (Nat.succ_lt_succ (List.mem_range.mp hi)))) o_and⟩) rfl
 have e2:evS (phi TT (n+3)) (lamN TT (n+3)) TT.G (b__law_counted.get 1) (coLoc a b c d (some (.lst (nts [a &&& b,b &&& c,c &&& d]))) none none) σ=some (.next,coLoc a b c d (some (.lst (nts [a &&& b,b &&& c,c &&& d]))) (some (.lst (nts [hf a,hf b,hf c,hf d]))) none,σ) :=
  s_assign (r_mapl (xs:=[a,b,c,d]) (f:=fun i=>.int (i:Nat)) (g:=fun i=>.int (hf i:Nat)) (r_var rfl) rfl (by show 4≤maxLen; decide) fun i hi=>⟨_,rfl,r_half rfl⟩) rfl
 have e3:evS (phi TT (n+3)) (lamN TT (n+3)) TT.G (b__law_counted.get 2) (coLoc a b c d (some (.lst (nts [a &&& b,b &&& c,c &&& d]))) (some (.lst (nts [hf a,hf b,hf c,hf d]))) none) σ=some (.next,coLoc a b c d (some (.lst (nts [a &&& b,b &&& c,c &&& d]))) (some (.lst (nts [hf a,hf b,hf c,hf d]))) (some (.lst (nts [hf (a &&& b),hf (b &&& c),hf (c &&& d)]))),σ) :=
  s_assign (r_mapl (xs:=[a &&& b,b &&& c,c &&& d]) (f:=fun i=>.int (i:Nat)) (g:=fun i=>.int (hf i:Nat)) (r_var rfl) rfl (by show 3≤maxLen; decide) fun i hi=>⟨_,rfl,r_half rfl⟩) rfl
 exact f_run (f:=f__law_counted) rfl rfl rfl rfl (l_cons e1 (l_cons e2 (l_cons e3 (l_one (s_ret (r_bin (r_bin (r_bin (r_fn rfl (r_one (r_var rfl)) (x_shown4 h ha hc)) (r_fn rfl (r_one (r_var rfl)) (x_shown4 h (and_lt ha) (and_lt hc))) rfl) (r_fn rfl (r_one (r_var rfl)) (x_shown3 h (and_lt ha) (and_lt hc))) rfl) (r_fn rfl (r_one (r_var rfl)) (x_shown3 h (and_lt (and_lt ha)) (and_lt (and_lt hc)))) rfl)))))) rfl (leave_same rfl rfl)
end
end Mine
namespace Mine
open PySem PySem.W EU
section
variable {a b c d f x y k m:Nat} {h:Nat→Bool}
noncomputable abbrev rs (h:Nat→Bool):Nat:=((List.range 6).map fun j=>(h j).toNat).sum
noncomputable def ones (f:Nat):Nat:=rs fun j=>bitB f (5 - j)
theorem wt_R:∀ x:Bool,wt1 (sgR x 114)=x.toNat∧wt1 (sgR x 119)=x.toNat:=by decide
theorem wt_X:∀ s x:Bool,wt1 (sgX s x 115 83)=s.toNat+x.toNat∧wt1 (sgX s x 116 84)=s.toNat+x.toNat:=by decide
theorem wt_bits:rowWt (fmode (m:Int))=rs (fun j=>bitB m (11 - j))+rs (fun j=>bitB m (5 - j)):=by
 rw [fmode_bits]
 show wt1 (sgR (bitB m 8) 114)+(wt1 (sgR (bitB m 7) 119)+(wt1 (sgX (bitB m 11) (bitB m 6) 115 83)+(wt1 (sgR (bitB m 5) 114)+(wt1 (sgR (bitB m 4) 119)+(wt1 (sgX (bitB m 10) (bitB m 3) 115 83)+(wt1 (sgR (bitB m 2) 114)+(wt1 (sgR (bitB m 1) 119)+(wt1 (sgX (bitB m 9) (bitB m 0) 116 84)+0))))))))=((bitB m 11).toNat+((bitB m 10).toNat+((bitB m 9).toNat+((bitB m 8).toNat+((bitB m 7).toNat+((bitB m 6).toNat+0))))))+((bitB m 5).toNat+((bitB m 4).toNat+((bitB m 3).toNat+((bitB m 2).toNat+((bitB m 1).toNat+((bitB m 0).toNat+0))))))
 rw [(wt_R _).1,(wt_R _).1,(wt_R _).1,(wt_R _).2,(wt_R _).2,(wt_R _).2,(wt_X _ _).1,(wt_X _ _).1,(wt_X _ _).2]
 (first | lia | omega)
theorem bit_t:bitB m k=m.testBit k:=by rw [Nat.testBit_eq_decide_div_mod_eq]; rfl
theorem bit_and:bitB (x &&& y) k=(bitB x k&&bitB y k):=by rw [bit_t,bit_t,bit_t,Nat.testBit_and]
theorem bit_half:bitB (x / 2) k=bitB x (k+1):=by rw [bit_t,bit_t,Nat.testBit_succ]
theorem bit_hf:bitB (hf x) k=(bitB x k&&bitB x (k+1)):=by unfold hf; rw [bit_and,bit_half]
theorem rs_eq {g:Nat→Bool} (e:∀ j < 6,h j=g j):rs h=rs g:=congrArg List.sum (List.map_congr_left fun j hj=>by rw [e j (List.mem_range.mp hj)])
theorem bit_mod {i:Nat} (hi:i < 6) (e:x % 64=y % 64):bitB x i=bitB y i:=by
 have h (z:Nat):bitB z i=(z % 2 ^ 6).testBit i:=by rw [Nat.testBit_mod_two_pow,decide_eq_true hi,Bool.true_and,bit_t]
 rw [h x,h y]
 exact congrArg (Nat.testBit · i) e
theorem bit_up {i:Nat}:bitB x (i+6)=bitB (x / 64) i:=by
 rw [bit_t,bit_t,show x / 64=x / 2 ^ 6 from rfl,Nat.testBit_div_two_pow]
theorem wt_two (hb:b < 64):rowWt (fmode ((32768+64*a+b:Nat):Int))=ones a+ones b:=by
 rw [wt_bits]
 congr 1
 ·refine rs_eq fun j hj=>?_
  rw [show 11 - j=5 - j+6 by omega,bit_up]
  exact bit_mod (by omega) (by omega)
 ·exact rs_eq fun j hj=>bit_mod (by omega) (by omega)
theorem sh4 (hb:b < 64) (hd:d < 64):shown [a,b,c,d]=ones a+(ones b+(ones c+ones d)):=by
 show rowWt (fmode ((32768+64*a+b:Nat):Int))+(rowWt (fmode ((32768+64*c+d:Nat):Int))+0)=_
 rw [wt_two hb,wt_two hd,Nat.add_zero,Nat.add_assoc]
theorem sh3 (hb:b < 64):shown [a,b,c]=ones a+(ones b+ones c):=by
 have h0:ones 0=0:=by decide
 show rowWt (fmode ((32768+64*a+b:Nat):Int))+rowWt (fmode ((32768+64*c+0:Nat):Int))=_
 rw [wt_two hb,wt_two (by decide),h0,Nat.add_zero,Nat.add_assoc]
noncomputable def S24 (g:Nat→Bool):Nat:=((List.range 24).map fun p=>(g p).toNat).sum
theorem sum24 {g:Nat→Bool}:S24 g=rs g+(rs (fun j=>g (6+j))+(rs (fun j=>g (12+j))+rs fun j=>g (18+j))):=by
 have e:List.range 24=List.range 6++((List.range 6).map (6+·)++((List.range 6).map (12+·)++(List.range 6).map (18+·))):=by decide
 unfold S24
 rw [e,List.map_append,List.map_append,List.map_append,List.sum_append,List.sum_append,List.sum_append,List.map_map,List.map_map,List.map_map]
 rfl
noncomputable abbrev gUp (B:Nat→Bool) (p:Nat):Bool:=Nat.ble 6 p&&(B p&&B (p - 6))
noncomputable abbrev gLf (B:Nat→Bool) (p:Nat):Bool:=Nat.ble 1 (p % 6)&&(B p&&B (p - 1))
noncomputable abbrev gSq (B:Nat→Bool) (p:Nat):Bool:=Nat.ble 6 p&&(Nat.ble 1 (p % 6)&&((B p&&B (p - 6))&&(B (p - 1)&&B (p - 7))))
theorem chi_geo:∀ k < 24,(upB (k+5)=Nat.ble 6 (pl (k+5)))∧(upB (k+5)=true→pl (k+4)=pl (k+5) - 6∧5≤k+4)∧Nat.ble 5 (k+1)=Nat.ble 1 (pl (k+5) % 6)∧(5≤k+1→pl (k+1)=pl (k+5) - 1)∧(upB (k+5)=true→5≤k+1→5≤k∧pl k=pl (k+5) - 7):=by decide +kernel
theorem chi_one {B:Nat→Bool} {k:Nat} (hk:k < 24):chi (cc B) (k+1)=chi (cc B) k+((B (pl (k+5))).toNat:Int) - ((gUp B (pl (k+5))).toNat:Int) - ((gLf B (pl (k+5))).toNat:Int)+((gSq B (pl (k+5))).toNat:Int):=by
 obtain ⟨h1,h2,h3,h4,h5⟩:=chi_geo k hk
 have e:chi (cc B) (k+1)=chi (cc B) k+if cc B (k+5) then 1 - (bn (upB (k+5)&&ct (cc B) (k+4)):Int) - (bn (ct (cc B) (k+1)):Int)+(bn (upB (k+5)&&(ct (cc B) (k+4)&&(ct (cc B) (k+1)&&ct (cc B) k))):Int) else 0:=rfl
 have eU:(upB (k+5)&&ct (cc B) (k+4))=(Nat.ble 6 (pl (k+5))&&B (pl (k+5) - 6)):=by
  rw [← h1]
  cases hu:upB (k+5) with
  | false=>rfl
  | true =>
   have:=h2 hu
   unfold ct cc
   rw [this.1,Nat.ble_eq_true_of_le this.2]; rfl
 have eL:ct (cc B) (k+1)=(Nat.ble 1 (pl (k+5) % 6)&&B (pl (k+5) - 1)):=by
  unfold ct cc
  rw [← h3]
  cases hb:Nat.ble 5 (k+1) with
  | false=>rfl
  | true=>rw [h4 (Nat.le_of_ble_eq_true hb)]
 have eS:(upB (k+5)&&(ct (cc B) (k+4)&&(ct (cc B) (k+1)&&ct (cc B) k)))=(Nat.ble 6 (pl (k+5))&&(Nat.ble 1 (pl (k+5) % 6)&&(B (pl (k+5) - 6)&&(B (pl (k+5) - 1)&&B (pl (k+5) - 7))))):=by
  rw [← Bool.and_assoc,eU,eL]
  cases hu:Nat.ble 6 (pl (k+5)) with
  | false=>rfl
  | true =>
   cases hb:Nat.ble 1 (pl (k+5) % 6) with
   | false=>rw [Bool.false_and,Bool.false_and,Bool.and_false]; rfl
   | true =>
    have h:=h5 (h1.trans hu) (Nat.le_of_ble_eq_true (h3.trans hb))
    unfold ct cc
    rw [Nat.ble_eq_true_of_le h.1,h.2]; rfl
 rw [e,eS,eU,eL]
 show _+(if B (pl (k+5)) then _ else _)=_
 unfold gUp gLf gSq
 generalize Nat.ble 6 (pl (k+5))=u
 generalize Nat.ble 1 (pl (k+5) % 6)=l
 generalize B (pl (k+5) - 6)=x1
 generalize B (pl (k+5) - 1)=x2
 generalize B (pl (k+5) - 7)=x3
 cases B (pl (k+5))
 ·rw [if_neg (by decide)]
  simp only [Bool.false_and,Bool.and_false,Bool.toNat_false]
  (first | lia | omega)
 ·rw [if_pos rfl]
  simp only [Bool.true_and,EU.bn_is,Bool.toNat_true]
  (first | lia | omega)
noncomputable abbrev Sn (g:Nat→Bool) (n:Nat):Nat:=((List.range n).map fun k=>(g (pl (k+5))).toNat).sum
theorem Sn_succ {g:Nat→Bool} {n:Nat}:Sn g (n+1)=Sn g n+(g (pl (n+5))).toNat:=by
 unfold Sn
 rw [List.range_succ,List.map_append,List.sum_append]; rfl
theorem chi_sum {B:Nat→Bool}:∀ n≤24,chi (cc B) n=(Sn B n:Int) - (Sn (gUp B) n:Int) - (Sn (gLf B) n:Int)+(Sn (gSq B) n:Int)
 | 0,_=>rfl
 | n+1,h=>by
  rw [chi_one (by (first | lia | omega)),chi_sum n (by (first | lia | omega)),Sn_succ,Sn_succ,Sn_succ,Sn_succ]
  generalize Sn B n=s1
  generalize Sn (gUp B) n=s2
  generalize Sn (gLf B) n=s3
  generalize Sn (gSq B) n=s4
  (first | lia | omega)
theorem pl_perm:((List.range 24).map fun k=>pl (k+5)).Perm (List.range 24):=by decide +kernel
theorem sum_perm {l m:List Nat} (h:l.Perm m):l.sum=m.sum:=by
 induction h with
 | nil=>rfl
 | cons x _ ih=>rw [List.sum_cons,List.sum_cons,ih]
 | swap x y l=>rw [List.sum_cons,List.sum_cons,List.sum_cons,List.sum_cons]; (first | lia | omega)
 | trans _ _ h1 h2=>exact h1.trans h2
theorem Sn_24 {g:Nat→Bool}:Sn g 24=S24 g:=by
 have h:=sum_perm (pl_perm.map fun p=>(g p).toNat)
 rw [List.map_map] at h
 exact h
noncomputable abbrev fB (F:List Nat) (p:Nat):Bool:=bitB (F.getD (p / 6) 0) (5 - p % 6)
theorem lt6 {P:Nat→Prop} (h0:P 0) (h1:P 1) (h2:P 2) (h3:P 3) (h4:P 4) (h5:P 5):∀ j < 6,P j:=fun j hj=>by
 have:j=0∨j=1∨j=2∨j=3∨j=4∨j=5:=by (first | lia | omega)
 rcases this with rfl | rfl | rfl | rfl | rfl | rfl
 ·exact h0
 ·exact h1
 ·exact h2
 ·exact h3
 ·exact h4
 ·exact h5
theorem bit_6 (h:x < 64):bitB x 6=false:=by
 show (x / 64 % 2==1)=false
 rw [Nat.div_eq_of_lt h]; rfl
theorem ones_hf (h:x < 64):ones (hf x)=rs fun j=>Nat.ble 1 j&&(bitB x (5 - j)&&bitB x (6 - j)):=by
 refine rs_eq (lt6 ?_ bit_hf bit_hf bit_hf bit_hf bit_hf)
 show bitB (hf x) 5=false
 rw [bit_hf,bit_6 h,Bool.and_false]
theorem ones_hf2 (h:x < 64):ones (hf (x &&& y))=rs fun j=>Nat.ble 1 j&&((bitB y (5 - j)&&bitB x (5 - j))&&(bitB y (6 - j)&&bitB x (6 - j))):=by
 rw [ones_hf (and_lt h)]
 refine rs_eq fun j ζ=>?_
 rw [bit_and,bit_and,Bool.and_comm (bitB x (5 - j)),Bool.and_comm (bitB x (6 - j))]
theorem ones_and:ones (x &&& y)=rs fun j=>bitB y (5 - j)&&bitB x (5 - j):=rs_eq fun j ζ=>by rw [bit_and,Bool.and_comm]
theorem rs_0:rs (fun ζ=>false)=0:=rfl
theorem all6 {g g':Nat→Bool} (h0:g 0=g' 0) (h1:g 1=g' 1) (h2:g 2=g' 2) (h3:g 3=g' 3) (h4:g 4=g' 4) (h5:g 5=g' 5):rs g=rs g':=rs_eq (lt6 h0 h1 h2 h3 h4 h5)
theorem sum4 {g g0 g1 g2 g3:Nat→Bool} (h0:rs g=rs g0) (h1:rs (fun j=>g (6+j))=rs g1) (h2:rs (fun j=>g (12+j))=rs g2) (h3:rs (fun j=>g (18+j))=rs g3):S24 g=rs g0+(rs g1+(rs g2+rs g3)):=by rw [sum24,h0,h1,h2,h3]
theorem sum3 {g g1 g2 g3:Nat→Bool} (h0:rs g=rs fun ζ=>false) (h1:rs (fun j=>g (6+j))=rs g1) (h2:rs (fun j=>g (12+j))=rs g2) (h3:rs (fun j=>g (18+j))=rs g3):S24 g=rs g1+(rs g2+rs g3):=by rw [sum24,h0,h1,h2,h3,rs_0,Nat.zero_add]
theorem chi_counted (ha:a < 64) (hb:b < 64) (hc:c < 64) (hd:d < 64):chi (cc (fB [a,b,c,d])) 24=counted a b c d:=by
 have e1:S24 (fB [a,b,c,d])=ones a+(ones b+(ones c+ones d)) :=
  sum4 (g0:=fun j=>bitB a (5 - j)) (g1:=fun j=>bitB b (5 - j)) (g2:=fun j=>bitB c (5 - j)) (g3:=fun j=>bitB d (5 - j)) (all6 rfl rfl rfl rfl rfl rfl) (all6 rfl rfl rfl rfl rfl rfl) (all6 rfl rfl rfl rfl rfl rfl) (all6 rfl rfl rfl rfl rfl rfl)
 have e2:S24 (gUp (fB [a,b,c,d]))=ones (a &&& b)+(ones (b &&& c)+ones (c &&& d)):=by
  rw [ones_and,ones_and,ones_and]
  exact sum3 (all6 rfl rfl rfl rfl rfl rfl) (all6 rfl rfl rfl rfl rfl rfl) (all6 rfl rfl rfl rfl rfl rfl) (all6 rfl rfl rfl rfl rfl rfl)
 have e3:S24 (gLf (fB [a,b,c,d]))=ones (hf a)+(ones (hf b)+(ones (hf c)+ones (hf d))):=by
  rw [ones_hf ha,ones_hf hb,ones_hf hc,ones_hf hd]
  exact sum4 (all6 rfl rfl rfl rfl rfl rfl) (all6 rfl rfl rfl rfl rfl rfl) (all6 rfl rfl rfl rfl rfl rfl) (all6 rfl rfl rfl rfl rfl rfl)
 have e4:S24 (gSq (fB [a,b,c,d]))=ones (hf (a &&& b))+(ones (hf (b &&& c))+ones (hf (c &&& d))):=by
  rw [ones_hf2 ha,ones_hf2 hb,ones_hf2 hc]
  exact sum3 (all6 rfl rfl rfl rfl rfl rfl) (all6 rfl rfl rfl rfl rfl rfl) (all6 rfl rfl rfl rfl rfl rfl) (all6 rfl rfl rfl rfl rfl rfl)
 have hh {x:Nat} (h:x < 64):hf x < 64:=and_lt h
 rw [chi_sum 24 (by decide),Sn_24,Sn_24,Sn_24,Sn_24,e1,e2,e3,e4]
 unfold counted
 rw [sh4 hb hd,sh4 (hh hb) (hh hd),sh3 (and_lt hb),sh3 (hh (and_lt hb))]
 (first | lia | omega)
end
end Mine
namespace Mine
open PySem PySem.W EU
section
variable {n k t:Nat} {σ:Sto} {a b c m i:Nat} {ms F o:List Nat} {rw:V}
theorem r_then {Φ:Calls} {Λ:Lexer} {G:Nat→Option V} {l:Loc} {e1 e2 e3:E} {p:Pos} {r:V × Sto} {σ1:Sto} (ht:evT Φ Λ G e1 l σ=some (true,σ1)) (h:evM Φ Λ G e2 false l σ1=some r):evM Φ Λ G (.ife e1 e2 e3 p) false l σ=some r:=r_ife ht h
theorem r_else {Φ:Calls} {Λ:Lexer} {G:Nat→Option V} {l:Loc} {e1 e2 e3:E} {p:Pos} {r:V × Sto} {σ1:Sto} (ht:evT Φ Λ G e1 l σ=some (false,σ1)) (h:evM Φ Λ G e3 false l σ1=some r):evM Φ Λ G (.ife e1 e2 e3 p) false l σ=some r:=r_ife ht h
theorem leave_cell {σ:Sto} {xs:List V} (h:Low σ) (hx:lowL σ.length xs=true):leave false σ.length (.ref σ.length) (σ++[.list xs])=(.ref σ.length,σ++[.list xs]):=by
 have e:V.low σ.length (.ref σ.length)=false:=decide_eq_false (Nat.lt_irrefl _)
 rw [leave_on rfl h,e,if_neg (by decide)]
 show (((σ++[O.list xs])[σ.length+0]?).bind _).getD _=_
 rw [get_at]
 show (if lowL σ.length xs=true then some (hand false σ.length (σ++[O.list xs]) (.list xs)) else none).getD _=_
 rw [if_pos hx]
 show (V.ref σ.length,(σ++[O.list xs]).take σ.length++[O.list xs])=_
 rw [List.take_left]
theorem sub_str {l:List Nat} {k x:Nat} (h:l[k]?=some x):subV (.str l) (.int (k:Nat)) σ=some (.str [x]):=by
 have hk:k < l.length:=by
  rcases Nat.lt_or_ge k l.length with h' | h'
  ·exact h'
  ·rw [List.getElem?_eq_none h'] at h; cases h
 show orO ((idx l.length (k:Int)).bind fun j=>(l[j]?).map fun c=>V.str [c]) _=_
 rw [idx_nat hk]
 show orO ((l[k]?).map _) _=_
 rw [h]; rfl
theorem m_at {Λ:Lexer} {sg:List Nat} {x a:Nat} (h:subAt [x] sg 0=some a):methR Λ .index (.str sg) 0 [.str [x]] σ=some (.int (a:Nat),σ):=by
 show orO ((subAt [x] sg 0).map fun k=>(V.int (k:Nat),σ)) _=_
 rw [h]; rfl
theorem iter_live {step:V→List V→Sto→Option (Bool × List V × Sto)} {i:Nat} {xs:List V} (hx:vlist σ i=some xs) (h:∀ (j:Nat) (hj:j < xs.length) (u:List V),u.length≤j→∃ u',step xs[j] u σ=some (true,u',σ)∧u'.length≤j+1):∀ (n k:Nat) (u:List V),xs.length=k+n→u.length≤k→iterate step (.live i) n k u σ=iterate step (.items xs) n k u σ
 | 0,k,u,hk,_=>by
  have e:nextAt (.live i) k σ=nextAt (.items xs) k σ:=by
   show (vlist σ i).map (·[k]?)=_
   rw [hx]; rfl
  show (nextAt (.live i) k σ).bind _=(nextAt (.items xs) k σ).bind _
  rw [e]
 | n+1,k,u,hk,hu=>by
  have e:nextAt (.live i) k σ=nextAt (.items xs) k σ:=by
   show (vlist σ i).map (·[k]?)=_
   rw [hx]; rfl
  have hj:k < xs.length:=by (first | lia | omega)
  obtain ⟨u',h1,h2⟩:=h k hj u hu
  have e2:nextAt (.items xs) k σ=some (some xs[k]):=congrArg some (List.getElem?_eq_getElem hj)
  refine (bnd (e.trans e2) (bnd h1 rfl)).trans ((iter_live hx h n (k+1) u' (by (first | lia | omega)) h2).trans (bnd e2 (bnd h1 rfl)).symm)
noncomputable abbrev lkL:S:=b__law_lacking.get 1
noncomputable abbrev lkI:S:=lkL.a.get 0
noncomputable abbrev lkLoc (rw:V) (k m:Nat) (j p w:Option V):Loc:=[some rw,some (.ref k),some (.str (fmode (m:Int))),j,p,w]
noncomputable abbrev lkS (n:Nat):=loopStep (phi TT n) (lamN TT n) TT.G [3,4,5] lkI.t lkI.a
theorem lk_turn {j p x a m w:Nat} {sg:List Nat} {b:Bool} (hk:σ.length=k) (ho:Nat.ble o.length 1000=true)
  (hp:∀ σ,evM (phi TT n) (lamN TT n) TT.G (partE (lkI.a.get 0)) false (lkLoc rw k m (some (.int (j:Nat))) none none) σ=some (.int (p:Nat),σ))
  (hs:∀ σ,evM (phi TT n) (lamN TT n) TT.G (match partE (lkI.a.get 1) with | .meth o _ _ _ _=>o | _=>.raw default) false (lkLoc rw k m (some (.int (j:Nat))) (some (.int (p:Nat))) none) σ=some (.str sg,σ))
  (hx:(fmode (m:Int))[p]?=some x) (ha:subAt [x] sg 0=some a)
  (ht:∀ σ,evM (phi TT n) (lamN TT n) TT.G (match partE (lkI.a.get 2) with | .meth _ _ (.cons (.bin _ _ e _) _) _ _=>e | _=>.raw default) false (lkLoc rw k m (some (.int (j:Nat))) (some (.int (p:Nat))) (some (.int (a:Nat)))) σ=some (.int (w:Nat),σ)) (hw:w=b.toNat) :
  lkS n (.int (j:Nat)) (.next,lkLoc rw k m none none none) (ws σ o)=some (true,(.next,lkLoc rw k m none none none),ws σ (o++[(!b).toNat])):=by
 have ho:=Nat.le_of_ble_eq_true ho
 have e:nts o++[.int ((!b).toNat:Nat)]=nts (o++[(!b).toNat]):=(List.map_append (l₂:=[(!b).toNat])).symm
 show _=some (true,_,σ++[O.list (nts (o++[(!b).toNat]))])
 rw [← e]
 refine u_next (t:=lkI.t) (loc':=lkLoc rw k m (some (.int (j:Nat))) (some (.int (p:Nat))) (some (.int (a:Nat)))) rfl (l_cons (s_assign (hp _) rfl) (l_cons (s_assign (r_meth (hs _) rfl (r_one (r_sub (r_var rfl) (r_var rfl) (sub_str hx))) (m_at ha)) rfl) (l_one (s_push rfl hk (r_bin r_int (ht _) (iv ?_)) (by rw [nts_len]; unfold maxLen; (first | lia | omega)))))) rfl
 rw [hw]
 cases b <;> rfl
theorem lk_x:∀ s x:Bool,∀ d∈[(115,83),(116,84)],subAt [sgX s x d.1 d.2] [45,120,d.2,d.1] 0=some (s.toNat*2+x.toNat):=by decide
theorem lk_r:∀ b:Bool,∀ d∈[114,119],subAt [sgR b d] [45,d] 0=some b.toNat:=by decide
theorem hi_bit:∀ s x:Bool,(s.toNat*2+x.toNat) / 2=s.toNat:=by decide
theorem lo_bit:∀ s x:Bool,(s.toNat*2+x.toNat) % 2=x.toNat:=by decide
theorem r_bit:∀ x:Bool,x.toNat % 2=x.toNat:=by decide
noncomputable def lackL (m:Nat):List Nat:=(List.range 12).map fun j=>(!bitB m (11 - j)).toNat
theorem ln_s {x z:Nat} (h:Nat.ble o.length z=true):Nat.ble (o++[x]).length (z+1)=true:=by
 have:=Nat.le_of_ble_eq_true h
 exact Nat.ble_eq_true_of_le (by rw [List.length_append]; exact Nat.succ_le_succ this)
theorem ble_up {y z:Nat} (h:Nat.ble o.length y=true) (hz:Nat.ble y z=true):Nat.ble o.length z=true:=Nat.ble_eq_true_of_le (Nat.le_trans (Nat.le_of_ble_eq_true h) (Nat.le_of_ble_eq_true hz))
theorem lk_row (hk:σ.length=k) (ho:Nat.ble o.length 900=true):over (lkS n) (nts (List.range 12)) (.next,lkLoc rw k m none none none) (ws σ o)=some (true,(.next,lkLoc rw k m none none none),ws σ (o++lackL m)):=by
 have x (s x:Bool):=lk_x s x (115,83) (.head _)
 have t (s x:Bool):=lk_x s x (116,84) (.tail _ (.head _))
 have r (b:Bool):=lk_r b 114 (.head _)
 have w (b:Bool):=lk_r b 119 (.tail _ (.head _))
 have fb:=fmode_bits (m:=m)
 have at_ {p y:Nat} (h:(sgT (hit0 (m:Int)) 63 ftab0 :: rowB (bitB m))[p]?=some y):(fmode (m:Int))[p]?=some y:=by rw [fb]; exact h
 have hi {Φ:Calls} {Λ:Lexer} {l:Loc} {e1 e2:E} {p p1 q1 q2:Pos} {a:Nat} (h:∀ σ,evT Φ Λ TT.G e1 l σ=some (true,σ)) (hv:l[5]?=some (some (.int (a:Nat)))):∀ σ,evM Φ Λ TT.G (.ife e1 (.bin .FloorDiv (.var 5 p1) (.cint 2 q1) q2) e2 p) false l σ=some (.int (a / 2:Nat),σ):=fun σ=>r_then (h σ) (r_bin (r_var hv) r_int (o_divN (b:=2) rfl rfl))
 have lo {Φ:Calls} {Λ:Lexer} {l:Loc} {e1 e2:E} {p p1 q1 q2:Pos} {a:Nat} (h:∀ σ,evT Φ Λ TT.G e1 l σ=some (false,σ)) (hv:l[5]?=some (some (.int (a:Nat)))):∀ σ,evM Φ Λ TT.G (.ife e1 e2 (.bin .Mod (.var 5 p1) (.cint 2 q1) q2) p) false l σ=some (.int (a % 2:Nat),σ):=fun σ=>r_else (h σ) (r_bin (r_var hv) r_int (o_modN (b:=2) (by decide) rfl))
 have ct (σ:Sto):∀ {Φ:Calls} {Λ:Lexer} {l:Loc} {p q1 q2:Pos} {j:Nat} {b:Bool},l[3]?=some (some (.int (j:Nat)))→decide ((j:Int) < 3)=b→evT Φ Λ TT.G (.cmp .Lt (.var 3 p) (.cint 3 q1) q2) l σ=some (b,σ):=fun h hb=>t_cmp (r_var h) r_int (congrArg some hb)
 have step {j:Nat} {l:List Nat} {acc acc':Fl × Loc} {s1 s2 s3:Sto} (h:lkS n (.int (j:Nat)) acc s1=some (true,acc,s2)) (h':over (lkS n) (nts l) acc s2=some (true,acc',s3)):over (lkS n) (nts (j :: l)) acc s1=some (true,acc',s3):=over_cons h h'
 have e:ws σ (o++lackL m)=ws σ (o++[(!bitB m 11).toNat]++[(!bitB m 10).toNat]++[(!bitB m 9).toNat]++[(!bitB m 8).toNat]++[(!bitB m 7).toNat]++[(!bitB m 6).toNat]++[(!bitB m 5).toNat]++[(!bitB m 4).toNat]++[(!bitB m 3).toNat]++[(!bitB m 2).toNat]++[(!bitB m 1).toNat]++[(!bitB m 0).toNat]):=by
  simp only [List.append_assoc]; rfl
 rw [e]
 exact
  (step (j:=0) (lk_turn hk (ble_up ho rfl) (fun ζ=>rfl) (fun ζ=>rfl) (at_ rfl) (x _ _) (hi (fun σ=>ct σ rfl rfl) rfl) (hi_bit _ _))
  (step (j:=1) (lk_turn hk (ble_up (ln_s ho) rfl) (fun ζ=>rfl) (fun ζ=>rfl) (at_ rfl) (x _ _) (hi (fun σ=>ct σ rfl rfl) rfl) (hi_bit _ _))
  (step (j:=2) (lk_turn hk (ble_up (ln_s (ln_s ho)) rfl) (fun ζ=>rfl) (fun ζ=>rfl) (at_ rfl) (t _ _) (hi (fun σ=>ct σ rfl rfl) rfl) (hi_bit _ _))
  (step (j:=3) (lk_turn hk (ble_up (ln_s (ln_s (ln_s ho))) rfl) (fun ζ=>rfl) (fun ζ=>rfl) (at_ rfl) (r _) (lo (fun σ=>ct σ rfl rfl) rfl) (r_bit _))
  (step (j:=4) (lk_turn hk (ble_up (ln_s (ln_s (ln_s (ln_s ho)))) rfl) (fun ζ=>rfl) (fun ζ=>rfl) (at_ rfl) (w _) (lo (fun σ=>ct σ rfl rfl) rfl) (r_bit _))
  (step (j:=5) (lk_turn hk (ble_up (ln_s (ln_s (ln_s (ln_s (ln_s ho))))) rfl) (fun ζ=>rfl) (fun ζ=>rfl) (at_ rfl) (x _ _) (lo (fun σ=>ct σ rfl rfl) rfl) (lo_bit _ _))
  (step (j:=6) (lk_turn hk (ble_up (ln_s (ln_s (ln_s (ln_s (ln_s (ln_s ho)))))) rfl) (fun ζ=>rfl) (fun ζ=>rfl) (at_ rfl) (r _) (lo (fun σ=>ct σ rfl rfl) rfl) (r_bit _))
  (step (j:=7) (lk_turn hk (ble_up (ln_s (ln_s (ln_s (ln_s (ln_s (ln_s (ln_s ho))))))) rfl) (fun ζ=>rfl) (fun ζ=>rfl) (at_ rfl) (w _) (lo (fun σ=>ct σ rfl rfl) rfl) (r_bit _))
  (step (j:=8) (lk_turn hk (ble_up (ln_s (ln_s (ln_s (ln_s (ln_s (ln_s (ln_s (ln_s ho)))))))) rfl) (fun ζ=>rfl) (fun ζ=>rfl) (at_ rfl) (x _ _) (lo (fun σ=>ct σ rfl rfl) rfl) (lo_bit _ _))
  (step (j:=9) (lk_turn hk (ble_up (ln_s (ln_s (ln_s (ln_s (ln_s (ln_s (ln_s (ln_s (ln_s ho))))))))) rfl) (fun ζ=>rfl) (fun ζ=>rfl) (at_ rfl) (r _) (lo (fun σ=>ct σ rfl rfl) rfl) (r_bit _))
  (step (j:=10) (lk_turn hk (ble_up (ln_s (ln_s (ln_s (ln_s (ln_s (ln_s (ln_s (ln_s (ln_s (ln_s ho)))))))))) rfl) (fun ζ=>rfl) (fun ζ=>rfl) (at_ rfl) (w _) (lo (fun σ=>ct σ rfl rfl) rfl) (r_bit _))
  (step (j:=11) (lk_turn hk (ble_up (ln_s (ln_s (ln_s (ln_s (ln_s (ln_s (ln_s (ln_s (ln_s (ln_s (ln_s ho))))))))))) rfl) (fun ζ=>rfl) (fun ζ=>rfl) (at_ rfl) (t _ _) (lo (fun σ=>ct σ rfl rfl) rfl) (lo_bit _ _)) rfl))))))))))))
theorem lackL_len:(lackL m).length=12:=by unfold lackL; rw [List.length_map]; rfl
noncomputable abbrev rwV (m:Nat):V:=.str (fmode (m:Int))
theorem x_lacking (h:Low σ):phi TT (n+1) i__law_lacking [.lst [rwV a,rwV b]] σ=some (.ref σ.length,ws σ (lackL a++lackL b)):=by
 have turn {m:Nat} {o:List Nat} (ho:o.length≤12):loopStep (phi TT n) (lamN TT n) TT.G [2,3,4,5] lkL.t lkL.a (rwV m) (.next,[some (.lst [rwV a,rwV b]),some (.ref σ.length),none,none,none,none]) (ws σ o)=some (true,(.next,[some (.lst [rwV a,rwV b]),some (.ref σ.length),none,none,none,none]),ws σ (o++lackL m)) :=
  u_next (t:=lkL.t) rfl (l_one (s_loop (r_ty rfl (r_one r_int) (c_range (b:=12) (by decide))) (i_range (b:=12) (by decide)) (lk_row (n:=n) rfl (Nat.ble_eq_true_of_le (Nat.le_trans ho (by decide)))) rfl)) rfl
 have h2:evS (phi TT n) (lamN TT n) TT.G lkL [some (.lst [rwV a,rwV b]),some (.ref σ.length),none,none,none,none] (ws σ [])=some (.next,[some (.lst [rwV a,rwV b]),some (.ref σ.length),none,none,none,none],ws σ (lackL a++lackL b)) :=
  s_loop (x:=.lst [rwV a,rwV b]) (vs:=[rwV a,rwV b]) (r_var rfl) rfl (over_cons (turn (o:=[]) (Nat.zero_le _)) (over_cons (turn (o:=lackL a) (by rw [lackL_len]; decide)) rfl)) rfl
 have h1:evS (phi TT n) (lamN TT n) TT.G (b__law_lacking.get 0) [some (.lst [rwV a,rwV b]),none,none,none,none,none] σ=some (.next,[some (.lst [rwV a,rwV b]),some (.ref σ.length),none,none,none,none],ws σ []):=s_assign (r_cell r_nil (by decide)) rfl
 exact f_run (f:=f__law_lacking) (fl:=.ret (.ref σ.length)) (loc':=[some (.lst [rwV a,rwV b]),some (.ref σ.length),none,none,none,none]) (σ1:=ws σ (lackL a++lackL b)) rfl rfl rfl rfl (l_cons h1 (l_cons h2 (l_one (s_ret (r_var rfl))))) rfl (leave_cell h (lowL_map fun ζ=>rfl))
theorem r_mliv {Φ:Calls} {Λ:Lexer} {G:Nat→Option V} {loc:Loc} {p:Pos} {e it:E} {t:Tg} {cs:CS} {β:Type} {f g:β→V} {xs:List β} {i:Nat} (hi:evM Φ Λ G it false (clear (cs.own.map (·.1)) loc) σ=some (.ref i,σ)) (hx:vlist σ i=some (xs.map f)) (hl:xs.length≤maxLen)
  (h:∀ x∈xs,∃ l,bindT t (f x) (clear (cs.own.map (·.1)) loc) σ=some l∧evM Φ Λ G e false l σ=some (g x,σ)):evM Φ Λ G (.comp false e t it .nil .nil cs p) false loc σ=some (.lst (xs.map g),σ):=by
 have hs (x:β) (hm:x∈xs) (acc:List V) (ha:acc.length < maxLen):=(h x hm).elim fun ζ hh=>u_add hh.1 hh.2 ha
 have hv:=over_add (σ:=σ) (f:=f) (g:=fun x=>[g x]) (fun x=>Nat.le_refl _) (xs:=xs) (acc:=[]) (by rw [List.length_nil,Nat.zero_add]; exact hl) hs
 have hlen:(xs.map f).length=xs.length:=List.length_map ..
 have hw:=iter_live hx (fun j hj u hu=>⟨_,by rw [List.getElem_map]; exact hs _ (List.getElem_mem _) u (by have:j < xs.length:=hlen▸hj; (first | lia | omega)),by rw [List.length_append]; exact Nat.succ_le_succ hu⟩) (xs.map f).length 0 [] (Nat.zero_add _).symm (Nat.le_refl _)
 have hit:iterOf σ (.ref i)=some (.live i,(xs.map f).length):=by
  show (vlist σ i).map _=_
  rw [hx]; rfl
 exact ev_comp.trans ((bnd hi (bnd hit (mpd (hw.trans (iter_all.trans hv))))).trans (by rw [map_one]; rfl))
end
end Mine
namespace Mine
open PySem PySem.W EU
section
variable {n k t:Nat} {σ:Sto} {ns:List Int} {text:List Nat} {x y:Int} {l:List Int} {L:Loc}
noncomputable abbrev evl (s:S) (l:Loc) (σ:Sto):Option (V × Sto):=evM (phi TT 11) (lamN TT 11) TT.G (partE s) false l σ
noncomputable abbrev tst (s:S) (l:Loc) (σ:Sto):Option (Bool × Sto):=evT (phi TT 11) (lamN TT 11) TT.G (partE s) l σ
noncomputable abbrev LL (l:List V):Loc:=some (.fn SCI) :: (l.map some++List.replicate (25 - l.length) none)
noncomputable abbrev L2 (x y:Int):List Int:=[x,y]
noncomputable abbrev fs (x y:Int):List Nat:=[md x % 4096 / 64,md x % 4096 % 64,md y % 4096 / 64,md y % 4096 % 64]
noncomputable abbrev WR (x y:Int):List Nat:=(fs x y).map sgn
theorem m12 {m:Nat}:m % 4096 < 4096:=Nat.mod_lt m (by decide)
theorem fs64:∀ c∈fs x y,c < 64:=by
 have h (m:Nat):m % 4096 / 64 < 64∧m % 4096 % 64 < 64:=⟨Nat.div_lt_of_lt_mul m12,Nat.mod_lt _ (by decide)⟩
 intro c hc
 rcases List.mem_cons.mp hc with rfl | hc
 ·exact (h _).1
 rcases List.mem_cons.mp hc with rfl | hc
 ·exact (h _).2
 rcases List.mem_cons.mp hc with rfl | hc
 ·exact (h _).1
 rw [List.mem_singleton.mp hc]; exact (h _).2
theorem WR_plain:plainW (WR x y):=fun c hc=>(List.mem_map.mp hc).elim fun k hk=>hk.2▸sgn_plain (fs64 k hk.1)
noncomputable abbrev wR (x:Int):V:=.str (fmode ((md x:Nat):Int))
noncomputable abbrev wV (x y:Int):V:=.lst [.str (WR x y),wR x,wR y]
noncomputable abbrev pV (x y:Int):V:=.lst ((List.range 2).map fun k=>.str (pc (L2 x y) k))
noncomputable abbrev fV (x:Int):V:=.int (md x % 4096:Nat)
noncomputable abbrev oV (x y:Int):V:=.bytes (octs (fs x y))
theorem h_modes:evl (b_law.get 1) (LL [nV (L2 x y)]) σ=some (mV (L2 x y),σ) :=
 r_mapl (xs:=L2 x y) (f:=.int) (r_var rfl) rfl (show 2≤maxLen by decide) fun x ζ=>⟨_,rfl,r_bin (r_var rfl) r_int (o_mod (by decide) (md_is x))⟩
theorem h_two:evl (b_law.get 2) (LL [nV (L2 x y),mV (L2 x y)]) σ=some (.tup [fV x,fV y],σ) :=
 r_tup (r_two (r_fn rfl (r_one (r_at (w:=.int (md x:Nat)) rfl rfl)) (x_imode (n:=10))) (r_fn rfl (r_one (r_at (w:=.int (md y:Nat)) rfl rfl)) (x_imode (n:=10))))
theorem oct_is {m k:Nat}:octs [m / 64,m % 64,k / 64,k % 64]=[m / 16,m % 16*16+k / 256,k % 256]:=by
 show [m / 64*4+m % 64 / 16,m % 64 % 16*16+k / 64 / 4,k / 64 % 4*64+k % 64]=_
 rw [show m / 64*4+m % 64 / 16=m / 16 by (first | lia | omega),show m % 64 % 16*16+k / 64 / 4=m % 16*16+k / 256 by (first | lia | omega),show k / 64 % 4*64+k % 64=k % 256 by (first | lia | omega)]
theorem oct256:∀ c∈octs (fs x y),c < 256:=(b64_octs (fs x y) fs64 (show 4 % 4=0 from rfl)).2.1
theorem h_octets:evl (b_law.get 3) (LL [nV (L2 x y),mV (L2 x y),fV x,fV y]) σ=some (oV x y,σ):=by
 refine r_ty rfl (r_one (r_lst (r_cons (r_bin (r_var rfl) r_int (o_divN (b:=16) rfl rfl)) (r_two (r_bin (r_bin (r_bin (r_var rfl) r_int (o_modN (b:=16) (by decide) rfl)) r_int (o_mulN (b:=16) (by decide) rfl)) (r_bin (r_var rfl) r_int (o_divN (b:=256) rfl rfl)) (o_addN rfl rfl)) (r_bin (r_var rfl) r_int (o_modN (b:=256) (by decide) rfl)))) (show 3≤maxLen by decide))) (c_bytes (l:=octs (fs x y)) ?_ oct256)
 rw [oct_is]; rfl
theorem h_words (hs:Low σ):evl (b_law.get 4) (LL [nV (L2 x y),mV (L2 x y),fV x,fV y,oV x y]) σ=some (wV x y,σ):=by
 have hx:=x_b64encode (n:=8) (σ:=σ) (l:=octs (fs x y)) hs oct256 (show 3≤1000 by decide) (show 3 % 3≠1 by decide)
 rw [b64_figs fs64 (show 4 % 4=0 from rfl)] at hx
 exact r_lst (r_cons (r_meth r_str rfl (r_one (r_mapl (xs:=WR x y) (f:=fun c=>.int (c:Nat)) (g:=fun c=>.str [c]) (r_fn rfl (r_one (r_var rfl)) hx) rfl (show 4≤maxLen by decide) fun c hc=>⟨_,rfl,r_bi rfl (r_one (r_var rfl)) (c_chr ((List.mem_map.mp hc).elim fun k hk=>hk.2▸Nat.lt_trans sgn_lt (by decide)))⟩)) (j_chrs (l:=WR x y) rfl (show 4≤maxLen by decide))) (r_two (r_fn rfl (r_one (r_at (w:=.int (md x:Nat)) rfl rfl)) (x_filemode (n:=9) hs)) (r_fn rfl (r_one (r_at (w:=.int (md y:Nat)) rfl rfl)) (x_filemode (n:=9) hs)))) (show 3≤maxLen by decide)
theorem h_pieces:evl (b_law.get 5) (LL [nV (L2 x y),mV (L2 x y),fV x,fV y,oV x y,wV x y]) σ=some (pV x y,σ) :=
 r_mapl (xs:=List.range 2) (f:=fun k=>.int (k:Nat)) (r_ty rfl (r_one r_int) (c_range (b:=2) (by decide))) (i_range (b:=2) (by decide)) (by decide) fun k hk=>by
  have hk:k < (L2 x y).length:=List.mem_range.mp hk
  exact ⟨_,rfl,r_fn rfl (r_two (r_sub (r_var rfl) (r_bin (r_var rfl) r_int (o_addN (b:=1) rfl rfl)) (sub_lst (v:=.str (fmode ((md ((L2 x y).getD k 0):Nat):Int))) ((get_map (g:=fun x=>wR x) (l:=L2 x y) (d:=0) hk)))) (r_bin (r_bin (r_sub (r_var rfl) (r_var rfl) (sub_lst (get_map (d:=0) hk))) r_int (o_div rfl rfl)) r_int (o_mod (by decide) (mn_is _)))) (x_written (n:=10) (by rw [fmode_length]; decide))⟩
noncomputable def tx (x y:Int) (t:Nat):List Nat:=written (WR x y) t++((List.range 2).map (pc (L2 x y))).flatten++dot
theorem tx_parts:(written (WR x y) t).length≤7∧((List.range 2).map (pc (L2 x y))).flatten.length≤26:=by
 refine ⟨written_length,?_⟩
 have h0:=pc_len (l:=L2 x y) (k:=0)
 have h1:=pc_len (l:=L2 x y) (k:=1)
 have e:((List.range 2).map (pc (L2 x y))).flatten=pc (L2 x y) 0++(pc (L2 x y) 1++[]):=rfl
 rw [e,List.length_append,List.length_append]
 show (pc (L2 x y) 0).length+((pc (L2 x y) 1).length+0)≤26
 (first | lia | omega)
theorem tx_len:(tx x y t).length≤40:=by
 have h:=tx_parts (x:=x) (y:=y) (t:=t)
 unfold tx
 rw [List.length_append,List.length_append]
 show _+_+3≤40
 (first | lia | omega)
theorem h_text {t':Int} (ht:callB .sum [.fn SCI] σ=some (.int t',σ)) (hm:t'.fmod 16=(t:Int)):evl (b_law.get 6) (LL [nV (L2 x y),mV (L2 x y),fV x,fV y,oV x y,wV x y,pV x y]) σ=some (.str (tx x y t),σ):=by
 have h:=tx_parts (x:=x) (y:=y) (t:=t)
 have hM:100≤maxLen:=by decide
 exact r_bin (r_bin (r_fn rfl (r_two (r_at (w:=.str (WR x y)) rfl rfl) (r_bin (r_bi rfl (r_one (r_var rfl)) ht) r_int (o_mod (by decide) hm))) (x_written (n:=10) (show 4≤1000 by decide))) (r_meth r_str rfl (r_one (r_var rfl)) (j_strs (by (first | lia | omega)))) (o_str (by rw [List.length_append]; (first | lia | omega)))) r_str (o_str (Nat.le_trans (tx_len (x:=x) (y:=y) (t:=t)) (by decide)))
noncomputable abbrev bs (x y:Int) (t:Nat):List V:=[nV (L2 x y),mV (L2 x y),fV x,fV y,oV x y,wV x y,pV x y,.str (tx x y t),.ref 1]
noncomputable abbrev zsL (x y:Int) (t:Nat):List (List Nat × List Nat):=[(written (WR x y) t,WR x y),(pc (L2 x y) 0,fmode ((md x:Nat):Int)),(pc (L2 x y) 1,fmode ((md y:Nat):Int))]
theorem zs_text:tx x y t=((zsL x y t).map (·.1)).flatten++dot:=by
 show written _ t++(pc (L2 x y) 0++(pc (L2 x y) 1++[]))++dot=written _ t++(pc (L2 x y) 0++(pc (L2 x y) 1++[]))++dot
 rfl
theorem zs_words (ht:t < 16):∀ u∈zsL x y t,Word u.1 u.2:=fun u hu=>by
 rcases List.mem_cons.mp hu with rfl | hu
 ·exact written_word WR_plain (by show t / 4 < 4; (first | lia | omega))
 rcases List.mem_cons.mp hu with rfl | hu
 ·exact row_word x
 rw [List.mem_singleton.mp hu]; exact row_word y
theorem h_lex {a b c d e f g:V}:evl (b_law.get 8) (LL [a,b,c,d,e,f,g,.str text,.ref 1]) [.scr SCI ns,.list [.int 0]]=some (.ref 3,LS ns text text [] []) :=
 r_fn (k:=i__law_lexer) rfl (r_two (r_var rfl) (r_var rfl)) (congrArg (fun s=>some (V.ref 3,s)) (LS_new (ns:=ns) (text:=text)))
theorem h_told (ht:t < 16):evl (b_law.get 9) (LL (bs x y t++[.ref 3])) (LS ns (tx x y t) (tx x y t) [] [])=some (wV x y,LS ns (tx x y t) dot [] []):=by
 have hl:=tx_len (x:=x) (y:=y) (t:=t)
 show _=some (V.lst ((zsL x y t).map fun z=>.str z.2),_)
 refine r_compl (b:=true) (r_var rfl) rfl ?_
 refine told_at (fun v acc σ σ1 w ha hr h=>?_) (by (first | lia | omega)) (zsL x y t) _ [] rfl (zs_words ht) (show 3 < 100 by decide) (List.suffix_refl _) zs_text
 exact u_add rfl (r_meth (x:=.ref 3) (k:=2) (r_var rfl) hr r_nil h) (Nat.lt_trans ha (by decide))
theorem h_cmp:tst (b_law.get 10) (LL (bs x y t++[.ref 3,wV x y])) σ=some (false,σ) :=
 t_cmp (r_var rfl) (r_var rfl) (ne_strs (l:=[WR x y,fmode ((md x:Nat):Int),fmode ((md y:Nat):Int)]))
noncomputable abbrev cs (x y:Int) (t:Nat):List V:=bs x y t++[.ref 3,wV x y]
theorem h_figures:evl (b_law.get 11) (LL (cs x y t)) σ=some (.lst (nts (fs x y)),σ):=by
 refine r_mapl (xs:=fs x y) (f:=fun c=>.str [sgn c]) (g:=fun c=>.int (c:Nat)) (r_at (w:=.str (WR x y)) rfl rfl) rfl (show 4≤maxLen by decide) fun c hc=>⟨_,rfl,r_meth (r_fn rfl r_nil (x_signs (n:=10))) rfl (r_one (r_var rfl)) (m_index (fs64 c hc))⟩
end
end Mine
namespace Mine
open PySem PySem.W EU
section
variable {n k t:Nat} {σ:Sto} {ns:List Int} {text:List Nat} {x y:Int} {l:List Int} {L:Loc} {X Y:Nat→Bool}
noncomputable abbrev BB (x y:Int):Nat→Bool:=fB (fs x y)
noncomputable abbrev KA (x y:Int):Nat→Bool:=kd (BB x y)
noncomputable abbrev KB (x y:Int):Nat→Bool:=kd (nB (BB x y))
noncomputable abbrev RA (x y:Int):Nat→Nat→Bool:=rp (BB x y) nbA
noncomputable abbrev RB (x y:Int):Nat→Nat→Bool:=rp (nB (BB x y)) nbB
theorem fl_eq (h:∀ p < 24,X p=Y p):flL X=flL Y:=List.map_congr_left fun p hp=>by rw [h p (List.mem_range.mp hp)]
theorem fl_vis {B:Nat→Bool} {R:Nat→Nat→Bool}:flL B=flL (vis (kd B) R []):=fl_eq fun p hp=>by
 show B p=((decide (p < 24)&&B p)&&true)
 rw [decide_eq_true hp,Bool.true_and,Bool.and_true]
theorem mod_bit {m:Nat} {k:Nat}:m / 2 ^ k % 2=(bitB m k).toNat:=by
 show m / 2 ^ k % 2=(m / 2 ^ k % 2==1).toNat
 rcases Nat.mod_two_eq_zero_or_one (m / 2 ^ k) with h | h <;> rw [h] <;> rfl
theorem h_there:evl (b_law.get 12) (LL (cs x y t++[.lst (nts (fs x y))])) σ=some (.ref σ.length,σ++[.list (fls (BB x y))]):=by
 refine (r_map (k:=true) (xs:=List.range 24) (f:=fun p=>.int (p:Nat)) (g:=fun p=>.int ((BB x y p).toNat:Nat)) (r_ty rfl (r_one r_int) (c_range (b:=24) (by decide))) (i_range (b:=24) (by decide)) (by decide) fun p hp=>⟨_,rfl,?_⟩).trans ?_
 ·have hp:=List.mem_range.mp hp
  have h6:p / 6 < (fs x y).length:=by show p / 6 < 4; (first | lia | omega)
  have hpw:2 ^ (5 - p % 6)≤32:=Nat.pow_le_pow_right (n:=2) (by decide) (show 5 - p % 6≤5 by (first | lia | omega))
  have hp0:0 < 2 ^ (5 - p % 6):=Nat.two_pow_pos _
  rw [← mod_bit]
  refine r_bin (r_bin (r_sub (r_var rfl) (r_bin (r_var rfl) r_int (o_divN (b:=6) rfl rfl)) (sub_nts h6)) (r_bin r_int (r_bin r_int (r_bin (r_var rfl) r_int (o_modN (b:=6) (by decide) rfl)) (iv (i:=((5 - p % 6:Nat):Int)) (by (first | lia | omega)))) ((o_pow (b:=5 - p % 6) rfl (by (first | lia | omega)) rfl).trans (iv (cpow 2 _).symm))) (o_divN ?_ rfl)) r_int (o_modN (b:=2) (by decide) rfl)
  rw [Bool.or_eq_false_iff]
  exact ⟨decide_eq_false (by (first | lia | omega)),by rw [smallN (by (first | lia | omega))]; rfl⟩
 ·show some (V.ref σ.length,σ++[O.list _])=_
  unfold fls flL nts
  rw [List.map_map]; rfl
theorem row_bits {m p:Nat} (hp:p < 12):bitB m (11 - p)=bitB ([m % 4096 / 64,m % 4096 % 64].getD (p / 6) 0) (5 - p % 6):=by
 rcases Nat.lt_or_ge p 6 with h | h
 ·rw [Nat.div_eq_of_lt h,Nat.mod_eq_of_lt h,show 11 - p=5 - p+6 by omega,bit_up]
  show bitB (m / 64) (5 - p)=bitB (m % 4096 / 64) (5 - p)
  exact bit_mod (by omega) (by omega)
 ·rw [show p / 6=1 by omega,show 5 - p % 6=11 - p by omega]
  show bitB m (11 - p)=bitB (m % 4096 % 64) (11 - p)
  exact bit_mod (by omega) (by omega)
theorem lack_is:lackL (md x)++lackL (md y)=flL (nB (BB x y)):=by
 have e:List.range 24=List.range 12++(List.range 12).map (12+·):=by decide
 unfold lackL flL
 rw [e,List.map_append,List.map_map]
 congr 1
 ·refine List.map_congr_left fun p hp=>?_
  have hp:=List.mem_range.mp hp
  have h:(fs x y).getD (p / 6) 0=[md x % 4096 / 64,md x % 4096 % 64].getD (p / 6) 0:=by
   have:p / 6=0∨p / 6=1:=by (first | lia | omega)
   rcases this with h | h <;> rw [h] <;> rfl
  rw [row_bits hp,← h]
 ·refine List.map_congr_left fun p hp=>?_
  have hp:=List.mem_range.mp hp
  have h:(fs x y).getD ((12+p) / 6) 0=[md y % 4096 / 64,md y % 4096 % 64].getD (p / 6) 0:=by
   have:p / 6=0∨p / 6=1:=by (first | lia | omega)
   rw [show (12+p) / 6=p / 6+2 by (first | lia | omega)]
   rcases this with h | h <;> rw [h] <;> rfl
  show _=(!bitB ((fs x y).getD ((12+p) / 6) 0) (5 - (12+p) % 6)).toNat
  rw [row_bits hp,h,show (12+p) % 6=p % 6 by (first | lia | omega)]
noncomputable abbrev T2 (x y:Int) (X:Nat→Bool):Sto:=[.list (fls (BB x y)),.list (fls X)]
theorem T2_low:stoLow 4 (T2 x y X)=true:=List.all_eq_true.mpr fun o ho=>by
 rcases List.mem_cons.mp ho with rfl | ho
 ·exact lowL_map fun ζ=>rfl
 ·rw [List.mem_singleton.mp ho]; exact lowL_map fun ζ=>rfl
noncomputable abbrev ds (x y:Int) (t:Nat):List V:=cs x y t++[.lst (nts (fs x y))]
theorem h_lacking (hs:Low σ):evl (b_law.get 13) (LL (ds x y t++[.ref 4])) σ=some (.ref σ.length,σ++[.list (fls (nB (BB x y)))]):=by
 have h:=x_lacking (n:=10) (σ:=σ) (a:=md x) (b:=md y) hs
 rw [lack_is] at h
 exact r_fn rfl (r_one (r_slice (y:=.int 1) (z:=.none) (w:=.none) (r:=(.lst [rwV (md x),rwV (md y)],σ)) (r_var rfl) (e_some r_int) rfl rfl rfl)) h
theorem ne_ref {i:Nat} {l:List Nat} (h:vlist σ i=some (nts l)):cmpop .NotEq (.ref i) (.lst (nts l)) σ=some false:=by
 show (orO ((vlist σ i).bind fun xs=>(some (nts l)).bind fun ys=>eqR xs ys) _).map (!·)=_
 rw [h]
 show (orO (if (nts l).length=(nts l).length then eqL (nts l) (nts l) else some false) _).map (!·)=_
 rw [if_pos rfl,eqL_nts]; rfl
noncomputable abbrev es (x y:Int) (t:Nat):List V:=ds x y t++[.ref 4,.ref 5]
theorem h_neq:tst (b_law.get 14) (LL (es x y t)) (LS ns text dot [] (T2 x y (nB (BB x y))))=some (false,LS ns text dot [] (T2 x y (nB (BB x y)))):=by
 refine t_cmp (r_var rfl) (r_mliv (xs:=List.range 24) (f:=fun p=>.int ((BB x y p).toNat:Nat)) (g:=fun p=>.int ((nB (BB x y) p).toNat:Nat)) (i:=4) (r_var rfl) ?_ (by decide) fun p hp=>⟨_,rfl,r_bin r_int (r_var rfl) (iv ?_)⟩) ?_
 ·show some (fls (BB x y))=_
  unfold fls flL nts
  rw [List.map_map]; rfl
 ·show _=(((!BB x y p).toNat:Nat):Int)
  cases BB x y p <;> rfl
 ·have e:(List.range 24).map (fun p=>V.int ((nB (BB x y) p).toNat:Nat))=fls (nB (BB x y)):=by
   unfold fls flL nts
   rw [List.map_map]; rfl
  rw [e]
  exact ne_ref rfl
theorem h_sides:evl (b_law.get 15) (LL (es x y t)) σ=some (.lst (wyV sides),σ):=rfl
theorem h_around:evl (b_law.get 16) (LL (es x y t++[.lst (wyV sides)])) σ=some (.lst (wyV around),σ):=rfl
noncomputable abbrev gs (x y:Int) (t:Nat):List V:=es x y t++[.lst (wyV sides),.lst (wyV around)]
theorem in_two {v a b:Nat}:cmpop .In (.int (v:Nat)) (.tup [.int (a:Nat),.int (b:Nat)]) σ=some (v==a||v==b):=by
 show orO none (orO ((some ((a:Int)==(v:Int))).bind fun c=>((some ((b:Int)==(v:Int))).bind fun d=>(some false).map (d||·)).map (c||·)) none)=_
 rw [cast_beq,cast_beq,BEq.comm (a:=a),BEq.comm (a:=b)]
 show some ((v==a)||((v==b)||false))=_
 rw [Bool.or_false]
section
variable {Φ:Calls} {Λ:Lexer} {G:Nat→Option V} {loc:Loc} {p:Pos} {e1 e2:E} {c1 c2:Bool}
theorem t_and (h1:evT Φ Λ G e1 loc σ=some (c1,σ)) (h2:evT Φ Λ G e2 loc σ=some (c2,σ)):evT Φ Λ G (.boolop .And (.cons e1 (.cons e2 .nil)) p) loc σ=some (c1&&c2,σ):=by
 cases c1 with
 | false=>exact t_bool (b_stop (c:=false) h1 (by decide))
 | true =>
  cases c2 with
  | false=>exact t_bool (b_next h1 (by decide) (b_stop (c:=false) h2 (by decide)))
  | true=>exact t_bool (b_next h1 (by decide) (b_next h2 (by decide) rfl))
theorem t_or (h1:evT Φ Λ G e1 loc σ=some (c1,σ)) (h2:evT Φ Λ G e2 loc σ=some (c2,σ)):evT Φ Λ G (.boolop .Or (.cons e1 (.cons e2 .nil)) p) loc σ=some (c1||c2,σ):=by
 cases c1 with
 | true=>exact t_bool (b_stop (c:=true) h1 (by decide))
 | false =>
  cases c2 with
  | false=>exact t_bool (b_next h1 (by decide) (b_next h2 (by decide) rfl))
  | true=>exact t_bool (b_next h1 (by decide) (b_stop (c:=true) h2 (by decide)))
end
theorem outs_is {B:Nat→Bool}:(List.range 24).filter (fun p=>nB B p&&rim p)=outs B:=by
 show _=(rimL).filter (kd (nB B))
 rw [List.filter_filter]
 refine List.filter_congr fun p hp=>?_
 show _=((decide (p < 24)&&nB B p)&&rim p)
 rw [decide_eq_true (List.mem_range.mp hp),Bool.true_and]
theorem h_outside:evl (b_law.get 17) (LL (gs x y t)) (LS ns text dot [] (T2 x y (nB (BB x y))))=some (.lst (nts (outs (BB x y))),LS ns text dot [] (T2 x y (nB (BB x y)))):=by
 refine (r_filterl (xs:=List.range 24) (f:=fun p=>.int (p:Nat)) (g:=fun p=>.int (p:Nat)) (c:=fun p=>nB (BB x y) p&&rim p) (r_ty rfl (r_one r_int) (c_range (b:=24) (by decide))) (i_range (b:=24) (by decide)) (by decide) fun p hp=>⟨_,rfl,t_and (t_cmp (r_sub (r_var rfl) (r_var rfl) (sub_ref (xs:=fls (nB (BB x y))) rfl (fls_at (List.mem_range.mp hp)))) r_int (q_int (y:=((1:Nat):Int)) (cast_beq.trans (by cases nB (BB x y) p <;> rfl)))) (t_or (t_cmp (r_bin (r_var rfl) r_int (o_divN (b:=6) rfl rfl)) rfl (in_two (a:=0) (b:=3))) (t_cmp (r_bin (r_var rfl) r_int (o_modN (b:=6) (by decide) rfl)) rfl (in_two (a:=0) (b:=5)))),fun ζ=>r_var rfl⟩).trans ?_
 rw [outs_is]; rfl
end
end Mine
namespace Mine
open PySem PySem.W EU
section
variable {n k t:Nat} {σ:Sto} {ns:List Int} {text:List Nat} {x y:Int} {l:List Int} {L:Loc} {X Y:Nat→Bool}
theorem tieA:Tie sides (KA x y) (RA x y) []:=tie geoA
theorem tieB:Tie around (KB x y) (RB x y) rimL:=tie geoB
noncomputable abbrev XB (x y:Int):Nat→Bool:=vis (KB x y) (RB x y) (outs (BB x y))
theorem T2_B:T2 x y (nB (BB x y))=(T2 x y X).set 1 (.list (fls (vis (KB x y) (RB x y) []))):=by
 show [_,O.list (nts (flL (nB (BB x y))))]=[_,O.list (nts (flL (vis (KB x y) (RB x y) [])))]
 rw [← fl_vis]
theorem outs_mem {o:Nat}:o∈outs (BB x y)↔o∈rimL∧KB x y o=true:=List.mem_filter
theorem way9:(∀ a∈sides,a.1.natAbs≤9)∧∀ a∈around,a.1.natAbs≤9:=by decide
theorem h_led (hd:dot <:+ text):evl (b_law.get 18) (LL (gs x y t++[.lst (nts (outs (BB x y)))])) (LS ns text dot [] (T2 x y (nB (BB x y))))=some (.none,LS ns text [] [] (T2 x y (XB x y))):=by
 have hf:=flood_vis (seen:=[]) (Z:=outs (BB x y)) (tieB (x:=x) (y:=y)) (fun z hz=>(outs_mem.mp hz).2) (Nat.le_trans (List.length_filter_le ..) (Nat.le_trans (List.length_filter_le ..) (Nat.le_of_eq List.length_range))) fun o ho hk=>by
  rw [List.append_nil]; exact outs_mem.mpr ⟨ho,hk⟩
 rw [List.append_nil] at hf
 have h:=x_led_on (n:=7) (ns:=ns) (text:=text) (r:=dot) (τ:=T2 x y (nB (BB x y))) (j:=1) (X:=vis (KB x y) (RB x y) []) (show 1 < 2 by decide) T2_low way9.2 (by decide) (.inr ⟨rfl,hd⟩) (fun q hq=>(kd_is.mp (outs_mem.mp hq).2).1) (Nat.le_trans (List.length_filter_le ..) (Nat.le_trans (List.length_filter_le ..) (Nat.le_of_eq List.length_range))) hf
 rw [T2_B (X:=nB (BB x y))]
 exact r_fn rfl (r_cons (r_var rfl) (r_cons (r_var rfl) (r_two (r_var rfl) (r_var rfl)))) h
noncomputable abbrev hs (x y:Int) (t:Nat):List V:=gs x y t++[.lst (nts (outs (BB x y)))]
theorem h_end:tst (b_law.get 19) (LL (hs x y t)) (LS ns (tx x y t) [] [] (T2 x y X))=some (false,LS ns (tx x y t) [] [] (T2 x y X)) :=
 t_cmp (r_tup (r_cons (r_meth (x:=.ref 3) (k:=2) (r_var rfl) rfl r_nil (l_end (n:=8) T2_low)) (r_cons (r_at (w:=.int (((tx x y t).length - 0:Nat):Int)) rfl rfl) (r_one (r_attr (x:=.ref 3) (v:=.int (1+cnt (tx x y t) - cnt [])) (r_var rfl) rfl)))))
  (r_tup (r_cons r_str (r_cons (r_bi rfl (r_one (r_var rfl)) rfl) (r_one (r_bin r_int (r_meth (k:=0) (r_var rfl) rfl (r_one r_str) rfl) rfl))))) (ne_end (Int.sub_zero _))
theorem h_ret:∃ σ',evl (b_law.get 20) (LL (hs x y t)) (LS ns text [] [] (T2 x y (XB x y)))=some (.bool true,σ'):=by
 have h1:=x_pieces (n:=6) (ns:=ns) (text:=text) (τ:=T2 x y (XB x y)) (j:=0) (seen:=[]) (tieA (x:=x) (y:=y)) (fun o ho=>(List.not_mem_nil ho).elim) (show 0 < 2 by decide) T2_low way9.1 (by decide)
 generalize vis (KA x y) (RA x y) ((List.range 24).reverse++[])=Z at h1
 have e1:SS ns text [] [] (T2 x y (XB x y)) 0 (vis (KA x y) (RA x y) [])=LS ns text [] [] (T2 x y (XB x y)):=by
  show LS ns text [] [] [O.list (nts (flL (vis (KA x y) (RA x y) []))),_]=LS ns text [] [] [O.list (nts (flL (BB x y))),_]
  rw [← fl_vis]
 rw [e1] at h1
 have hτ:stoLow 4 [O.list (fls Z),O.list (fls (XB x y))]=true:=List.all_eq_true.mpr fun o ho=>by
  rcases List.mem_cons.mp ho with rfl | ho
  ·exact lowL_map fun ζ=>rfl
  ·rw [List.mem_singleton.mp ho]; exact lowL_map fun ζ=>rfl
 have h2:=x_pieces (n:=6) (ns:=ns) (text:=text) (τ:=[O.list (fls Z),O.list (fls (XB x y))]) (j:=1) (seen:=outs (BB x y)) (tieB (x:=x) (y:=y)) (fun o ho hk=>outs_mem.mpr ⟨ho,hk⟩) (show 1 < 2 by decide) hτ way9.2 (by decide)
 generalize vis (KB x y) (RB x y) ((List.range 24).reverse++outs (BB x y))=W at h2
 have hl:Low (SS ns text [] [] [O.list (fls Z),O.list (fls (XB x y))] 1 W):=low_LS (g:=[]) (ss_low hτ)
 have h3:=x_counted (n:=7) hl (a:=md x % 4096 / 64) (b:=md x % 4096 % 64) (c:=md y % 4096 / 64) (d:=md y % 4096 % 64) (Nat.div_lt_of_lt_mul m12) (Nat.div_lt_of_lt_mul m12)
 refine ⟨_,r_cmp (c:=true) (r_bin (r_fn rfl (r_cons (r_var rfl) (r_two (r_var rfl) (r_var rfl))) h1) (r_fn rfl (r_cons (r_var rfl) (r_two (r_var rfl) (r_var rfl))) h2) rfl) (r_fn rfl (r_one (r_var rfl)) h3) (q_int ?_)⟩
 rw [beq_iff_eq]
 exact pieces_are.trans (chi_counted (Nat.div_lt_of_lt_mul m12) (Nat.mod_lt _ (by decide)) (Nat.div_lt_of_lt_mul m12) (Nat.mod_lt _ (by decide)))
theorem leave_t {n:Nat} {σ:Sto}:∃ s,leave true n (.bool true) σ=(.bool true,s):=by
 unfold leave
 split
 ·exact ⟨_,rfl⟩
 ·exact ⟨_,rfl⟩
theorem h_mid (ht:t < 16):∃ l σ',evSL (phi TT 11) (lamN TT 11) TT.G (b_law.drop 9) (LL (bs x y t++[.ref 3])) (LS ns (tx x y t) (tx x y t) [] [])=some (.ret (.bool true),l,σ'):=by
 have hd:dot <:+ tx x y t:=List.suffix_append ..
 have hs':Low (LS ns (tx x y t) dot [] []):=low_LS (g:=[]) (τ:=[]) rfl
 have hs2:Low (LS ns (tx x y t) dot [] [O.list (fls (BB x y))]):=low_LS (g:=[]) (τ:=[O.list (fls (BB x y))]) (List.all_eq_true.mpr fun o ho=>by rw [List.mem_singleton.mp ho]; exact lowL_map fun ζ=>rfl)
 obtain ⟨σ',hr⟩:=h_ret (ns:=ns) (text:=tx x y t) (x:=x) (y:=y) (t:=t)
 refine ⟨LL (hs x y t),σ',?_⟩
 refine l_cons (loc':=LL (cs x y t)) (s_assign (h_told ht) rfl) ?_
 refine l_cons (loc':=LL (cs x y t)) (s_no h_cmp rfl) ?_
 refine l_cons (loc':=LL (ds x y t)) (s_assign h_figures rfl) ?_
 refine l_cons (loc':=LL (ds x y t++[.ref 4])) (s_assign h_there rfl) ?_
 refine l_cons (loc':=LL (es x y t)) (s_assign (h_lacking hs2) rfl) ?_
 refine l_cons (loc':=LL (es x y t)) (s_no h_neq rfl) ?_
 refine l_cons (loc':=LL (es x y t++[.lst (wyV sides)])) (s_assign h_sides rfl) ?_
 refine l_cons (loc':=LL (gs x y t)) (s_assign h_around rfl) ?_
 refine l_cons (loc':=LL (hs x y t)) (s_assign h_outside rfl) ?_
 refine l_cons (loc':=LL (hs x y t)) (s_expr (h_led hd)) ?_
 refine l_cons (loc':=LL (hs x y t)) (s_no h_end rfl) ?_
 exact l_one (s_ret hr)
theorem plain (ns:List Int) (hl:ns.length≤63):∃ σ',phi TT 12 i_law [.fn SCI] [.scr SCI ns]=some (.bool true,σ'):=by
 refine (x_numbers (n:=10) hl).elim fun xs hx=>?_
 match xs,hx with
 | [x,y],hx =>
  refine (sum_scr (ns:=ns)).elim fun u hu=>?_
  have hm:u.fmod 16=((u.fmod 16).toNat:Int):=(Int.toNat_of_nonneg (Int.fmod_nonneg_of_pos _ (by decide))).symm
  have ht:(u.fmod 16).toNat < 16:=by have:=Int.fmod_lt_of_pos u (b:=16) (by decide); omega
  generalize (u.fmod 16).toNat=t at hm ht
  have hs':Low (σ0 ns):=rfl
  obtain ⟨l,σ',h⟩:=h_mid (ns:=ns) (x:=x) (y:=y) ht
  obtain ⟨s,hs2⟩:=leave_t (n:=(σ0 ns).length) (σ:=σ')
  exact ⟨_,f_run (f:=f_law) rfl rfl rfl rfl (l_cons (s_assign (r_fn rfl (r_one (r_var rfl)) hx.2) rfl) (l_cons (s_assign h_modes rfl) (l_cons (s_assign h_two rfl) (l_cons (s_assign h_octets rfl) (l_cons (s_assign (h_words hs') rfl) (l_cons (s_assign h_pieces rfl) (l_cons (s_assign (h_text (hu _ rfl) hm) rfl) (l_cons (s_assign (r_cell (r_one r_int) (show 1≤maxLen by decide)) rfl) (l_cons (s_assign h_lex rfl) h))))))))) rfl hs2⟩
end
end Mine
namespace Mine
open PySem PySem.W PyProof.Rows
theorem stat:Stat TT fa 170 175 4 147 20 6 5 where
 gr g h:=by
  have e:TT.G g=(gL[g]?).join:=rfl
  rw [e,List.getElem?_eq_none (Nat.le_trans (by decide) h)]; rfl
 g0:=rfl
 lx:=rfl
 bmn:=⟨by decide,by decide,by decide,by decide,by decide⟩
 give:=by decide +kernel
 kw _ _:=rfl
 kwm m:=by cases m <;> decide
 kwl:=by decide
 pad _:=rfl
 ab:=by decide
 fns k f h:=by
  by_cases hk:k < 20
  ·refine ⟨hk,?_⟩
   have z:((List.range 20).all fun k=>(TT.fns k).all fun f=>decide (f.np≤4∧(k=6→f.names=n64∧f.np=2)∧(k=5→f.np=2)))=true:=by decide +kernel
   have:=List.all_eq_true.mp z k (List.mem_range.mpr hk)
   rw [h] at this
   exact of_decide_eq_true this
  ·have e:TT.fns k=(fnsL[k]?).join:=rfl
   rw [e,List.getElem?_eq_none (Nat.le_of_not_lt hk)] at h; cases h
noncomputable def view:Program:={ PW with main:={ PW.main with body:=PW.main.body.drop (PW.main.body.length - 1) } }
noncomputable def loose:List Str:=(PW.main.body.dropLast).flatMap bindsAtTop
noncomputable def seen (s:Shared):Ob × Nat:=(obsK TT fa 143 170 175 119 174 4 98 20 6 (frag s.heap (fun ζ=>true) (List.range 212)) (frag s.heap hasCls (List.range 212)),s.heap.objs.size)
noncomputable def due:Ob × Nat:=(expK TT fa 143 119 174 4 98 211 147 92 20 ⟨83,14,83,15⟩ ⟨83,17,83,25⟩ [.Constant .none 0 ⟨83,26,83,30⟩],212)
noncomputable def lawD:DefRec × List (Str × Expr):=(defOf view "law").get (by decide +kernel)
theorem law_fin {w:World} {s₀ s₁:Shared} {mg mb:Str→Option Value} (hg:s₁.heap.Ns mainGlobals mg) (hb:s₁.heap.Ns builtinsNs mb) (hbi:∀ x:Str,x≠"__name__"→mb x=bootBuiltins x) (hlim:s₁.heap.NoLimit) (hgens:s₁.gens=#[]) (kp:∀ b o,s₀.heap.get? b=some o→s₁.heap.get? b=some o)
  (y:seen s₀=due) {sa:Addr} (hs:sa=s₀.heap.objs.size) {vs:List Value} {ns:List Int} (hsc:s₁.heap.get? sa=some { cls:=.type "list",data:=.seq vs.toArray }) (hi:IntsAre vs ns) (hl:ns.length≤63) {lawB:Addr} (hm:mg "law"=some (.ref lawB))
  {Q:Value→Shared→Prop} {E:Value→Shared→Prop} (hq:∀ s',OldK s₁.heap s'.heap→s'.os=s₁.os→s'.gens=#[]→Q (.bool true) s') :
  wpAny (model PW w) callerA (call (.ref lawB) [.ref sa]) Q E s₁ :=
 law_of hg hb hbi hlim hgens kp stat (Prod.mk.inj y).1 hsc hi hl ((Prod.mk.inj y).2.symm.trans hs.symm) hm (law:=i_law) rfl (by decide) (by decide) (plain ns hl) hq
end Mine
open PySem PySem.W PySem.W.X PySem.W.ZRun
theorem Mine.said:PySem.Challenge.rw_oy0095_05.wellSaid=true:=by kernel_rfl
theorem Mine.left:LeftO PySem.Challenge.rw_oy0095_05.row.prog Mine.view Mine.loose (fun s=>recOk [] s) Mine.seen (fun ζ=>Mine.due) 2668:=fun w=>by kernel_rfl
set_option maxHeartbeats 0 in
set_option tactic.hygienic true in
theorem PySem.Challenge.cw_oy0095_05_holds : PySem.Challenge.rw_oy0095_05.Holds := by
 w_on
 refine holds_law Mine.said fun said=>?_
 refine holds_openX (q:=Mine.view) (d:=Mine.lawD.1) (kwd:=Mine.lawD.2) (loose:=Mine.loose) (Xt:=fun s=>recOk [] s) (XP:=fun _ _=>True) (Yf:=Mine.seen) (Ya:=fun _=>Mine.due) (N:=2668) Mine.left (fun _ _=>trivial) (fun _ _ _ _ _=>trivial) (by kernel_rfl) (by kernel_rfl) (by kernel_rfl) (fun s e=>recFacts_of e) (by rfl) (by decide +kernel) (by decide +kernel) ⟨rfl,rfl,rfl,rfl,rfl,by decide +kernel⟩ ?hw ?hc
 case hw=>w_witness2
 k_fill
 intro w s₀ s₁ mg mb G y fa o pm cd doc dV kV ho hd hcd hD hmg hg args vals as L hpre hlay hrd hwl hlo
 clear ho hd hcd hD
 refine Ground.open G ?_
 intro T B D TE TW
 clear G
 have kp:=L.keeps
 wrow_args hpre hlay hrd hwl hlo
 obtain ⟨hat,hsz⟩:=script_at L
 rename_i hL hcond w1 r0
 refine Mine.law_fin T.g T.b T.builtins T.nolimit hg kp y hat (script_obj L (by assumption)) (by assumption) (by omega) hmg (fun s' h1 h2 h3=>?_)
 exact ⟨.inl ⟨_,_,[],rfl,fun _=>rfl,ReadsW.bool true,by first | rfl | wrow_post,fun _=>⟨List.nodup_nil,fun _ hm=>(nomatch hm)⟩⟩,h1,h2,by rw [h3]; exact PyProof.Rows.AllBare.empty⟩

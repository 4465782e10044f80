import PyProof.Rows.All
import Wide.All
import OpenK.AllK
import Wide.FinOn
import Lean
import PySem.Challenge.RW_oy0095_02
set_option tactic.hygienic false
set_option maxRecDepth 100000
set_option Elab.async false
set_option linter.all false
set_option genSizeOfSpec false
set_option genSizeOf false
set_option genInjectivity false
set_option bootstrap.genMatcherCode false
namespace Mine
theorem x0_2  {p0 p1:Prop} {P:Prop} (h:p0∧p1) (k:p0→p1→P):P:=k h.1 h.2
theorem x0_3  {p0 p1 p2:Prop} {P:Prop} (h:p0∧p1∧p2) (k:p0→p1→p2→P):P:=k h.1 h.2.1 h.2.2
theorem x0_4  {p0 p1 p2 p3:Prop} {P:Prop} (h:p0∧p1∧p2∧p3) (k:p0→p1→p2→p3→P):P:=k h.1 h.2.1 h.2.2.1 h.2.2.2
theorem x0_5  {p0 p1 p2 p3 p4:Prop} {P:Prop} (h:p0∧p1∧p2∧p3∧p4) (k:p0→p1→p2→p3→p4→P):P:=k h.1 h.2.1 h.2.2.1 h.2.2.2.1 h.2.2.2.2
theorem x1_1 {A0:Type} {p0:A0→Prop} {P:Prop} (h:∃ a0,p0 a0) (k:∀ a0,p0 a0→P):P:=h.elim fun a0 h0=>k a0 h0
theorem x1_2 {A0:Type} {p0 p1:A0→Prop} {P:Prop} (h:∃ a0,p0 a0∧p1 a0) (k:∀ a0,p0 a0→p1 a0→P):P:=h.elim fun a0 h0=>k a0 h0.1 h0.2
theorem x1_3 {A0:Type} {p0 p1 p2:A0→Prop} {P:Prop} (h:∃ a0,p0 a0∧p1 a0∧p2 a0) (k:∀ a0,p0 a0→p1 a0→p2 a0→P):P:=h.elim fun a0 h0=>k a0 h0.1 h0.2.1 h0.2.2
theorem x1_4 {A0:Type} {p0 p1 p2 p3:A0→Prop} {P:Prop} (h:∃ a0,p0 a0∧p1 a0∧p2 a0∧p3 a0) (k:∀ a0,p0 a0→p1 a0→p2 a0→p3 a0→P):P:=h.elim fun a0 h0=>k a0 h0.1 h0.2.1 h0.2.2.1 h0.2.2.2
theorem x1_5 {A0:Type} {p0 p1 p2 p3 p4:A0→Prop} {P:Prop} (h:∃ a0,p0 a0∧p1 a0∧p2 a0∧p3 a0∧p4 a0) (k:∀ a0,p0 a0→p1 a0→p2 a0→p3 a0→p4 a0→P):P:=h.elim fun a0 h0=>k a0 h0.1 h0.2.1 h0.2.2.1 h0.2.2.2.1 h0.2.2.2.2
theorem x2_1 {A0:Type} {A1:Type} {p0:A0→A1→Prop} {P:Prop} (h:∃ a0 a1,p0 a0 a1) (k:∀ a0 a1,p0 a0 a1→P):P:=h.elim fun a0 h0=>h0.elim fun a1 h1=>k a0 a1 h1
theorem x2_2 {A0:Type} {A1:Type} {p0 p1:A0→A1→Prop} {P:Prop} (h:∃ a0 a1,p0 a0 a1∧p1 a0 a1) (k:∀ a0 a1,p0 a0 a1→p1 a0 a1→P):P:=h.elim fun a0 h0=>h0.elim fun a1 h1=>k a0 a1 h1.1 h1.2
theorem x2_3 {A0:Type} {A1:Type} {p0 p1 p2:A0→A1→Prop} {P:Prop} (h:∃ a0 a1,p0 a0 a1∧p1 a0 a1∧p2 a0 a1) (k:∀ a0 a1,p0 a0 a1→p1 a0 a1→p2 a0 a1→P):P:=h.elim fun a0 h0=>h0.elim fun a1 h1=>k a0 a1 h1.1 h1.2.1 h1.2.2
theorem x2_4 {A0:Type} {A1:Type} {p0 p1 p2 p3:A0→A1→Prop} {P:Prop} (h:∃ a0 a1,p0 a0 a1∧p1 a0 a1∧p2 a0 a1∧p3 a0 a1) (k:∀ a0 a1,p0 a0 a1→p1 a0 a1→p2 a0 a1→p3 a0 a1→P):P:=h.elim fun a0 h0=>h0.elim fun a1 h1=>k a0 a1 h1.1 h1.2.1 h1.2.2.1 h1.2.2.2
theorem x2_8 {A0:Type} {A1:Type} {p0 p1 p2 p3 p4 p5 p6 p7:A0→A1→Prop} {P:Prop} (h:∃ a0 a1,p0 a0 a1∧p1 a0 a1∧p2 a0 a1∧p3 a0 a1∧p4 a0 a1∧p5 a0 a1∧p6 a0 a1∧p7 a0 a1) (k:∀ a0 a1,p0 a0 a1→p1 a0 a1→p2 a0 a1→p3 a0 a1→p4 a0 a1→p5 a0 a1→p6 a0 a1→p7 a0 a1→P):P:=h.elim fun a0 h0=>h0.elim fun a1 h1=>k a0 a1 h1.1 h1.2.1 h1.2.2.1 h1.2.2.2.1 h1.2.2.2.2.1 h1.2.2.2.2.2.1 h1.2.2.2.2.2.2.1 h1.2.2.2.2.2.2.2
theorem x2_11 {A0:Type} {A1:Type} {p0 p1 p2 p3 p4 p5 p6 p7 p8 p9 p10:A0→A1→Prop} {P:Prop} (h:∃ a0 a1,p0 a0 a1∧p1 a0 a1∧p2 a0 a1∧p3 a0 a1∧p4 a0 a1∧p5 a0 a1∧p6 a0 a1∧p7 a0 a1∧p8 a0 a1∧p9 a0 a1∧p10 a0 a1) (k:∀ a0 a1,p0 a0 a1→p1 a0 a1→p2 a0 a1→p3 a0 a1→p4 a0 a1→p5 a0 a1→p6 a0 a1→p7 a0 a1→p8 a0 a1→p9 a0 a1→p10 a0 a1→P):P:=h.elim fun a0 h0=>h0.elim fun a1 h1=>k a0 a1 h1.1 h1.2.1 h1.2.2.1 h1.2.2.2.1 h1.2.2.2.2.1 h1.2.2.2.2.2.1 h1.2.2.2.2.2.2.1 h1.2.2.2.2.2.2.2.1 h1.2.2.2.2.2.2.2.2.1 h1.2.2.2.2.2.2.2.2.2.1 h1.2.2.2.2.2.2.2.2.2.2
theorem x3_2 {A0:Type} {A1:Type} {A2:Type} {p0 p1:A0→A1→A2→Prop} {P:Prop} (h:∃ a0 a1 a2,p0 a0 a1 a2∧p1 a0 a1 a2) (k:∀ a0 a1 a2,p0 a0 a1 a2→p1 a0 a1 a2→P):P:=h.elim fun a0 h0=>h0.elim fun a1 h1=>h1.elim fun a2 h2=>k a0 a1 a2 h2.1 h2.2
theorem x3_3 {A0:Type} {A1:Type} {A2:Type} {p0 p1 p2:A0→A1→A2→Prop} {P:Prop} (h:∃ a0 a1 a2,p0 a0 a1 a2∧p1 a0 a1 a2∧p2 a0 a1 a2) (k:∀ a0 a1 a2,p0 a0 a1 a2→p1 a0 a1 a2→p2 a0 a1 a2→P):P:=h.elim fun a0 h0=>h0.elim fun a1 h1=>h1.elim fun a2 h2=>k a0 a1 a2 h2.1 h2.2.1 h2.2.2
theorem x3_4 {A0:Type} {A1:Type} {A2:Type} {p0 p1 p2 p3:A0→A1→A2→Prop} {P:Prop} (h:∃ a0 a1 a2,p0 a0 a1 a2∧p1 a0 a1 a2∧p2 a0 a1 a2∧p3 a0 a1 a2) (k:∀ a0 a1 a2,p0 a0 a1 a2→p1 a0 a1 a2→p2 a0 a1 a2→p3 a0 a1 a2→P):P:=h.elim fun a0 h0=>h0.elim fun a1 h1=>h1.elim fun a2 h2=>k a0 a1 a2 h2.1 h2.2.1 h2.2.2.1 h2.2.2.2
theorem x3_5 {A0:Type} {A1:Type} {A2:Type} {p0 p1 p2 p3 p4:A0→A1→A2→Prop} {P:Prop} (h:∃ a0 a1 a2,p0 a0 a1 a2∧p1 a0 a1 a2∧p2 a0 a1 a2∧p3 a0 a1 a2∧p4 a0 a1 a2) (k:∀ a0 a1 a2,p0 a0 a1 a2→p1 a0 a1 a2→p2 a0 a1 a2→p3 a0 a1 a2→p4 a0 a1 a2→P):P:=h.elim fun a0 h0=>h0.elim fun a1 h1=>h1.elim fun a2 h2=>k a0 a1 a2 h2.1 h2.2.1 h2.2.2.1 h2.2.2.2.1 h2.2.2.2.2
theorem x3_6 {A0:Type} {A1:Type} {A2:Type} {p0 p1 p2 p3 p4 p5:A0→A1→A2→Prop} {P:Prop} (h:∃ a0 a1 a2,p0 a0 a1 a2∧p1 a0 a1 a2∧p2 a0 a1 a2∧p3 a0 a1 a2∧p4 a0 a1 a2∧p5 a0 a1 a2) (k:∀ a0 a1 a2,p0 a0 a1 a2→p1 a0 a1 a2→p2 a0 a1 a2→p3 a0 a1 a2→p4 a0 a1 a2→p5 a0 a1 a2→P):P:=h.elim fun a0 h0=>h0.elim fun a1 h1=>h1.elim fun a2 h2=>k a0 a1 a2 h2.1 h2.2.1 h2.2.2.1 h2.2.2.2.1 h2.2.2.2.2.1 h2.2.2.2.2.2
theorem x4_1 {A0:Type} {A1:Type} {A2:Type} {A3:Type} {p0:A0→A1→A2→A3→Prop} {P:Prop} (h:∃ a0 a1 a2 a3,p0 a0 a1 a2 a3) (k:∀ a0 a1 a2 a3,p0 a0 a1 a2 a3→P):P:=h.elim fun a0 h0=>h0.elim fun a1 h1=>h1.elim fun a2 h2=>h2.elim fun a3 h3=>k a0 a1 a2 a3 h3
theorem x4_2 {A0:Type} {A1:Type} {A2:Type} {A3:Type} {p0 p1:A0→A1→A2→A3→Prop} {P:Prop} (h:∃ a0 a1 a2 a3,p0 a0 a1 a2 a3∧p1 a0 a1 a2 a3) (k:∀ a0 a1 a2 a3,p0 a0 a1 a2 a3→p1 a0 a1 a2 a3→P):P:=h.elim fun a0 h0=>h0.elim fun a1 h1=>h1.elim fun a2 h2=>h2.elim fun a3 h3=>k a0 a1 a2 a3 h3.1 h3.2
theorem x4_4 {A0:Type} {A1:Type} {A2:Type} {A3:Type} {p0 p1 p2 p3:A0→A1→A2→A3→Prop} {P:Prop} (h:∃ a0 a1 a2 a3,p0 a0 a1 a2 a3∧p1 a0 a1 a2 a3∧p2 a0 a1 a2 a3∧p3 a0 a1 a2 a3) (k:∀ a0 a1 a2 a3,p0 a0 a1 a2 a3→p1 a0 a1 a2 a3→p2 a0 a1 a2 a3→p3 a0 a1 a2 a3→P):P:=h.elim fun a0 h0=>h0.elim fun a1 h1=>h1.elim fun a2 h2=>h2.elim fun a3 h3=>k a0 a1 a2 a3 h3.1 h3.2.1 h3.2.2.1 h3.2.2.2
theorem x4_5 {A0:Type} {A1:Type} {A2:Type} {A3:Type} {p0 p1 p2 p3 p4:A0→A1→A2→A3→Prop} {P:Prop} (h:∃ a0 a1 a2 a3,p0 a0 a1 a2 a3∧p1 a0 a1 a2 a3∧p2 a0 a1 a2 a3∧p3 a0 a1 a2 a3∧p4 a0 a1 a2 a3) (k:∀ a0 a1 a2 a3,p0 a0 a1 a2 a3→p1 a0 a1 a2 a3→p2 a0 a1 a2 a3→p3 a0 a1 a2 a3→p4 a0 a1 a2 a3→P):P:=h.elim fun a0 h0=>h0.elim fun a1 h1=>h1.elim fun a2 h2=>h2.elim fun a3 h3=>k a0 a1 a2 a3 h3.1 h3.2.1 h3.2.2.1 h3.2.2.2.1 h3.2.2.2.2
theorem x4_6 {A0:Type} {A1:Type} {A2:Type} {A3:Type} {p0 p1 p2 p3 p4 p5:A0→A1→A2→A3→Prop} {P:Prop} (h:∃ a0 a1 a2 a3,p0 a0 a1 a2 a3∧p1 a0 a1 a2 a3∧p2 a0 a1 a2 a3∧p3 a0 a1 a2 a3∧p4 a0 a1 a2 a3∧p5 a0 a1 a2 a3) (k:∀ a0 a1 a2 a3,p0 a0 a1 a2 a3→p1 a0 a1 a2 a3→p2 a0 a1 a2 a3→p3 a0 a1 a2 a3→p4 a0 a1 a2 a3→p5 a0 a1 a2 a3→P):P:=h.elim fun a0 h0=>h0.elim fun a1 h1=>h1.elim fun a2 h2=>h2.elim fun a3 h3=>k a0 a1 a2 a3 h3.1 h3.2.1 h3.2.2.1 h3.2.2.2.1 h3.2.2.2.2.1 h3.2.2.2.2.2
theorem x5_3 {A0:Type} {A1:Type} {A2:Type} {A3:Type} {A4:Type} {p0 p1 p2:A0→A1→A2→A3→A4→Prop} {P:Prop} (h:∃ a0 a1 a2 a3 a4,p0 a0 a1 a2 a3 a4∧p1 a0 a1 a2 a3 a4∧p2 a0 a1 a2 a3 a4) (k:∀ a0 a1 a2 a3 a4,p0 a0 a1 a2 a3 a4→p1 a0 a1 a2 a3 a4→p2 a0 a1 a2 a3 a4→P):P:=h.elim fun a0 h0=>h0.elim fun a1 h1=>h1.elim fun a2 h2=>h2.elim fun a3 h3=>h3.elim fun a4 h4=>k a0 a1 a2 a3 a4 h4.1 h4.2.1 h4.2.2
theorem x5_4 {A0:Type} {A1:Type} {A2:Type} {A3:Type} {A4:Type} {p0 p1 p2 p3:A0→A1→A2→A3→A4→Prop} {P:Prop} (h:∃ a0 a1 a2 a3 a4,p0 a0 a1 a2 a3 a4∧p1 a0 a1 a2 a3 a4∧p2 a0 a1 a2 a3 a4∧p3 a0 a1 a2 a3 a4) (k:∀ a0 a1 a2 a3 a4,p0 a0 a1 a2 a3 a4→p1 a0 a1 a2 a3 a4→p2 a0 a1 a2 a3 a4→p3 a0 a1 a2 a3 a4→P):P:=h.elim fun a0 h0=>h0.elim fun a1 h1=>h1.elim fun a2 h2=>h2.elim fun a3 h3=>h3.elim fun a4 h4=>k a0 a1 a2 a3 a4 h4.1 h4.2.1 h4.2.2.1 h4.2.2.2
theorem x6_2 {A0:Type} {A1:Type} {A2:Type} {A3:Type} {A4:Type} {A5:Type} {p0 p1:A0→A1→A2→A3→A4→A5→Prop} {P:Prop} (h:∃ a0 a1 a2 a3 a4 a5,p0 a0 a1 a2 a3 a4 a5∧p1 a0 a1 a2 a3 a4 a5) (k:∀ a0 a1 a2 a3 a4 a5,p0 a0 a1 a2 a3 a4 a5→p1 a0 a1 a2 a3 a4 a5→P):P:=h.elim fun a0 h0=>h0.elim fun a1 h1=>h1.elim fun a2 h2=>h2.elim fun a3 h3=>h3.elim fun a4 h4=>h4.elim fun a5 h5=>k a0 a1 a2 a3 a4 a5 h5.1 h5.2
theorem x6_5 {A0:Type} {A1:Type} {A2:Type} {A3:Type} {A4:Type} {A5:Type} {p0 p1 p2 p3 p4:A0→A1→A2→A3→A4→A5→Prop} {P:Prop} (h:∃ a0 a1 a2 a3 a4 a5,p0 a0 a1 a2 a3 a4 a5∧p1 a0 a1 a2 a3 a4 a5∧p2 a0 a1 a2 a3 a4 a5∧p3 a0 a1 a2 a3 a4 a5∧p4 a0 a1 a2 a3 a4 a5) (k:∀ a0 a1 a2 a3 a4 a5,p0 a0 a1 a2 a3 a4 a5→p1 a0 a1 a2 a3 a4 a5→p2 a0 a1 a2 a3 a4 a5→p3 a0 a1 a2 a3 a4 a5→p4 a0 a1 a2 a3 a4 a5→P):P:=h.elim fun a0 h0=>h0.elim fun a1 h1=>h1.elim fun a2 h2=>h2.elim fun a3 h3=>h3.elim fun a4 h4=>h4.elim fun a5 h5=>k a0 a1 a2 a3 a4 a5 h5.1 h5.2.1 h5.2.2.1 h5.2.2.2.1 h5.2.2.2.2
theorem x8_1 {A0:Type} {A1:Type} {A2:Type} {A3:Type} {A4:Type} {A5:Type} {A6:Type} {A7:Type} {p0:A0→A1→A2→A3→A4→A5→A6→A7→Prop} {P:Prop} (h:∃ a0 a1 a2 a3 a4 a5 a6 a7,p0 a0 a1 a2 a3 a4 a5 a6 a7) (k:∀ a0 a1 a2 a3 a4 a5 a6 a7,p0 a0 a1 a2 a3 a4 a5 a6 a7→P):P:=h.elim fun a0 h0=>h0.elim fun a1 h1=>h1.elim fun a2 h2=>h2.elim fun a3 h3=>h3.elim fun a4 h4=>h4.elim fun a5 h5=>h5.elim fun a6 h6=>h6.elim fun a7 h7=>k a0 a1 a2 a3 a4 a5 a6 a7 h7
theorem x9_3 {A0:Type} {A1:Type} {A2:Type} {A3:Type} {A4:Type} {A5:Type} {A6:Type} {A7:Type} {A8:Type} {p0 p1 p2:A0→A1→A2→A3→A4→A5→A6→A7→A8→Prop} {P:Prop} (h:∃ a0 a1 a2 a3 a4 a5 a6 a7 a8,p0 a0 a1 a2 a3 a4 a5 a6 a7 a8∧p1 a0 a1 a2 a3 a4 a5 a6 a7 a8∧p2 a0 a1 a2 a3 a4 a5 a6 a7 a8) (k:∀ a0 a1 a2 a3 a4 a5 a6 a7 a8,p0 a0 a1 a2 a3 a4 a5 a6 a7 a8→p1 a0 a1 a2 a3 a4 a5 a6 a7 a8→p2 a0 a1 a2 a3 a4 a5 a6 a7 a8→P):P:=h.elim fun a0 h0=>h0.elim fun a1 h1=>h1.elim fun a2 h2=>h2.elim fun a3 h3=>h3.elim fun a4 h4=>h4.elim fun a5 h5=>h5.elim fun a6 h6=>h6.elim fun a7 h7=>h7.elim fun a8 h8=>k a0 a1 a2 a3 a4 a5 a6 a7 a8 h8.1 h8.2.1 h8.2.2
theorem x9_5 {A0:Type} {A1:Type} {A2:Type} {A3:Type} {A4:Type} {A5:Type} {A6:Type} {A7:Type} {A8:Type} {p0 p1 p2 p3 p4:A0→A1→A2→A3→A4→A5→A6→A7→A8→Prop} {P:Prop} (h:∃ a0 a1 a2 a3 a4 a5 a6 a7 a8,p0 a0 a1 a2 a3 a4 a5 a6 a7 a8∧p1 a0 a1 a2 a3 a4 a5 a6 a7 a8∧p2 a0 a1 a2 a3 a4 a5 a6 a7 a8∧p3 a0 a1 a2 a3 a4 a5 a6 a7 a8∧p4 a0 a1 a2 a3 a4 a5 a6 a7 a8) (k:∀ a0 a1 a2 a3 a4 a5 a6 a7 a8,p0 a0 a1 a2 a3 a4 a5 a6 a7 a8→p1 a0 a1 a2 a3 a4 a5 a6 a7 a8→p2 a0 a1 a2 a3 a4 a5 a6 a7 a8→p3 a0 a1 a2 a3 a4 a5 a6 a7 a8→p4 a0 a1 a2 a3 a4 a5 a6 a7 a8→P):P:=h.elim fun a0 h0=>h0.elim fun a1 h1=>h1.elim fun a2 h2=>h2.elim fun a3 h3=>h3.elim fun a4 h4=>h4.elim fun a5 h5=>h5.elim fun a6 h6=>h6.elim fun a7 h7=>h7.elim fun a8 h8=>k a0 a1 a2 a3 a4 a5 a6 a7 a8 h8.1 h8.2.1 h8.2.2.1 h8.2.2.2.1 h8.2.2.2.2
theorem x10_5 {A0:Type} {A1:Type} {A2:Type} {A3:Type} {A4:Type} {A5:Type} {A6:Type} {A7:Type} {A8:Type} {A9:Type} {p0 p1 p2 p3 p4:A0→A1→A2→A3→A4→A5→A6→A7→A8→A9→Prop} {P:Prop} (h:∃ a0 a1 a2 a3 a4 a5 a6 a7 a8 a9,p0 a0 a1 a2 a3 a4 a5 a6 a7 a8 a9∧p1 a0 a1 a2 a3 a4 a5 a6 a7 a8 a9∧p2 a0 a1 a2 a3 a4 a5 a6 a7 a8 a9∧p3 a0 a1 a2 a3 a4 a5 a6 a7 a8 a9∧p4 a0 a1 a2 a3 a4 a5 a6 a7 a8 a9) (k:∀ a0 a1 a2 a3 a4 a5 a6 a7 a8 a9,p0 a0 a1 a2 a3 a4 a5 a6 a7 a8 a9→p1 a0 a1 a2 a3 a4 a5 a6 a7 a8 a9→p2 a0 a1 a2 a3 a4 a5 a6 a7 a8 a9→p3 a0 a1 a2 a3 a4 a5 a6 a7 a8 a9→p4 a0 a1 a2 a3 a4 a5 a6 a7 a8 a9→P):P:=h.elim fun a0 h0=>h0.elim fun a1 h1=>h1.elim fun a2 h2=>h2.elim fun a3 h3=>h3.elim fun a4 h4=>h4.elim fun a5 h5=>h5.elim fun a6 h6=>h6.elim fun a7 h7=>h7.elim fun a8 h8=>h8.elim fun a9 h9=>k a0 a1 a2 a3 a4 a5 a6 a7 a8 a9 h9.1 h9.2.1 h9.2.2.1 h9.2.2.2.1 h9.2.2.2.2
theorem xP1_2 {A B:Type} {p0 p1:A × B→Prop} {P:Prop} (h:∃ x,p0 x∧p1 x) (k:∀ a b,p0 (a,b)→p1 (a,b)→P):P:=h.elim fun x h0=>k x.1 x.2 h0.1 h0.2
theorem q1 {A:Type} {a x:A} {P:A→Prop} (e:x=a) (h:P a):P x:=e▸h
theorem q2 {A:Type} {a x:A} {P:A→Prop} (e:a=x) (h:P a):P x:=e▸h
theorem s1 {A:Type} {a x:A} {P:A→Prop} (e:some a=some x) (h:P a):P x:=Option.some.inj e▸h
theorem p2 {A B:Type} {a x:A} {b y:B} {P:A→B→Prop} (e:(a,b)=(x,y)) (h:P a b):P x y:=by cases e; exact h
theorem s2 {A B:Type} {a x:A} {b y:B} {P:A→B→Prop} (e:some (a,b)=some (x,y)) (h:P a b):P x y:=p2 (Option.some.inj e) h
theorem p3 {A B C:Type} {a x:A} {b y:B} {c z:C} {P:A→B→C→Prop} (e:(a,b,c)=(x,y,z)) (h:P a b c):P x y z:=by cases e; exact h
theorem s3 {A B C:Type} {a x:A} {b y:B} {c z:C} {P:A→B→C→Prop} (e:some (a,b,c)=some (x,y,z)) (h:P a b c):P x y z:=p3 (Option.some.inj e) h
theorem noS {A:Type} {x:A} {P:Prop} (h:none=some x):P:=nomatch h
theorem noT {P:Prop} (h:false=true):P:=nomatch h
theorem len1 {A:Type} {xs:List A} (h:xs.length=1):∃ a,xs=[a]:=List.length_eq_one_iff.mp h
theorem len2 {A:Type} {xs:List A} (h:xs.length=2):∃ a b,xs=[a,b]:=by
 cases xs with
 | nil=>cases h
 | cons a xs=>exact (len1 (Nat.succ.inj h)).elim fun b e=>⟨a,b,by rw [e]⟩
end Mine
namespace Mine
open PySem
inductive Bi where
 | len | sum | sorted | min | max | chr | iter
inductive Ty where
 | range | bytes | str | int | enumerate | type | bool | bytearray
inductive Me where
 | append | pop | extend | index | join | count | replace | get_token | push_token | read_char
inductive At where
 | lineno | pushback | whitespace | read_char
noncomputable def Bi.id:Bi→String
 | .len=>"len" | .sum=>"sum" | .sorted=>"sorted" | .min=>"min" | .max=>"max" | .chr=>"chr" | .iter=>"iter"
noncomputable def Ty.nm:Ty→String
 | .range=>"range" | .bytes=>"bytes" | .str=>"str" | .int=>"int" | .enumerate=>"enumerate" | .type=>"type" | .bool=>"bool" | .bytearray=>"bytearray"
noncomputable def Me.nm:Me→Str
 | .append=>Str.ofString "append" | .pop=>Str.ofString "pop" | .extend=>Str.ofString "extend" | .index=>Str.ofString "index" | .join=>Str.ofString "join" | .count=>Str.ofString "count"
 | .replace=>Str.ofString "replace" | .get_token=>Str.ofString "get_token" | .push_token=>Str.ofString "push_token" | .read_char=>Str.ofString "_read_char"
noncomputable def Me.lex:Me→Bool
 | .get_token=>true
 | .push_token=>true
 | .read_char=>true
 | _=>false
noncomputable def At.nm:At→Str
 | .lineno=>Str.ofString "lineno" | .pushback=>Str.ofString "pushback" | .whitespace=>Str.ofString "whitespace" | .read_char=>Str.ofString "_read_char"
inductive V where
 | none
 | bool (b:Bool)
 | int (i:Int)
 | str (s:List Nat)
 | bytes (s:List Nat)
 | ref (i:Nat)
 | tup (vs:List V)
 | lst (vs:List V)
 | rng (a b c:Int)
 | fn (f:Nat)
 | bi (b:Bi)
 | ty (t:Ty)
 deriving Inhabited
inductive O where
 | list (xs:List V)
 | lex (text:List Nat) (at_:Nat) (line:Int) (pb:Nat)
 | cit (l:Nat) (fin:Bool)
 | scr (k:Nat) (xs:List Int)
 deriving Inhabited
noncomputable abbrev Sto:=List O
noncomputable abbrev Loc:=List (Option V)
inductive Tg where
 | name (i:Nat) (p:Pos)
 | tup (is:List (Nat × Pos)) (p:Pos)
structure CS where
 sc:Scope
 own:List (Nat × Bool)
 fr:List Nat
 gl:List Nat
set_option genCtorIdx false
mutual
inductive E where
 | cnone (p:Pos)
 | cbool (b:Bool) (p:Pos)
 | cint (i:Int) (p:Pos)
 | cstr (s:List Nat) (p:Pos)
 | var (i:Nat) (p:Pos)
 | glob (g:Nat) (p:Pos)
 | bin (op:Operator) (a b:E) (p:Pos)
 | neg (a:E) (p:Pos)
 | cmp (op:CmpOp) (a b:E) (p:Pos)
 | cmp2 (op op':CmpOp) (a b c:E) (p:Pos)
 | boolop (op:BoolOp) (es:EL) (p:Pos)
 | ife (t a b:E) (p:Pos)
 | list (cell:Bool) (es:EL) (p:Pos)
 | tup (es:EL) (p:Pos)
 | sub (a i:E) (p:Pos)
 | slice (a:E) (lo hi st:OE) (q p:Pos)
 | call (g:Nat) (q:Pos) (es:EL) (p:Pos)
 | callkw (g:Nat) (q0:Pos) (es:EL) (k:Str) (e:E) (q p:Pos)
 | meth (o:E) (m:Me) (es:EL) (q p:Pos)
 | attr (o:E) (a:At) (p:Pos)
 | comp (cell:Bool) (e:E) (t:Tg) (it:E) (ifs:EL) (r:CL) (cs:CS) (p:Pos)
 | fit (g:Nat) (o:E) (q1 q2 q3 p:Pos)
 | readc (o:E) (q1 q2 q3 p:Pos)
 | shut (i:Nat) (q:List Pos) (p:Pos)
 | tix (i j:Nat) (q1 q2 q p:Pos)
 | raw (e:Expr)
inductive EL where
 | nil
 | cons (e:E) (es:EL)
inductive OE where
 | none
 | some (e:E)
inductive CL where
 | nil
 | cons (t:Tg) (it:E) (ifs:EL) (r:CL)
end
set_option genCtorIdx true
noncomputable def EL.isNil:EL→Bool
 | .nil=>true
 | .cons ..=>false
set_option genCtorIdx false
mutual
inductive S where
 | assign (t:Tg) (e:E) (p:Pos)
 | assignSub (a i:E) (q:Pos) (e:E) (p:Pos)
 | aug (i:Nat) (q:Pos) (op:Operator) (e:E) (p:Pos)
 | augSub (a i:E) (q:Pos) (op:Operator) (e:E) (p:Pos)
 | expr (e:E) (p:Pos)
 | ret (e:E) (p:Pos)
 | cond (t:E) (a b:SL) (p:Pos)
 | whil (fuel:Nat) (clr:List Nat) (t:E) (a:SL) (p:Pos)
 | loop (clr:List Nat) (t:Tg) (it:E) (a b:SL) (p:Pos)
 | enum (clr:List Nat) (is:List (Nat × Pos)) (tp:Pos) (g:Nat) (gp:Pos) (it:E) (a b:SL) (q p:Pos)
 | inc (o:E) (q1 q2 p:Pos)
 | fitr (fuel:Nat) (i:Nat) (tp:Pos) (it:E) (a b:SL) (p:Pos)
 | brk (p:Pos)
 | cont (p:Pos)
 | raw (s:Stmt)
inductive SL where
 | nil
 | cons (s:S) (r:SL)
end
set_option genCtorIdx true
noncomputable def nmOf (tb:List Str) (i:Nat):Str:=tb.getD i Str.empty
noncomputable def toTg (tb:List Str):Tg→Expr
 | .name i p=>.Name (nmOf tb i) p
 | .tup is p=>.Tuple (is.map fun x=>.Name (nmOf tb x.1) x.2) 0 p
section
variable (gt tb:List Str)
mutual
noncomputable def toE:E→Expr
 | .cnone p=>.Constant .none 0 p
 | .cbool b p=>.Constant (.bool b) 0 p
 | .cint i p=>.Constant (.int i) 0 p
 | .cstr s p=>.Constant (.str ⟨s.toArray⟩) 0 p
 | .var i p=>.Name (nmOf tb i) p
 | .glob g p=>.Name (nmOf gt g) p
 | .bin op a b p=>.BinOp (toE a) op (toE b) p
 | .neg a p=>.UnaryOp .USub (toE a) p
 | .cmp op a b p=>.Compare (toE a) [op] [toE b] p
 | .cmp2 op op' a b c p=>.Compare (toE a) [op,op'] [toE b,toE c] p
 | .boolop op es p=>.BoolOp op (toEL es) p
 | .ife t a b p=>.IfExp (toE t) (toE a) (toE b) p
 | .list _ es p=>.List (toEL es) p
 | .tup es p=>.Tuple (toEL es) 0 p
 | .sub a i p=>.Subscript (toE a) (toE i) p
 | .slice a lo hi st q p=>.Subscript (toE a) (.Slice (toOE lo) (toOE hi) (toOE st) q) p
 | .call g q es p=>.Call (.Name (nmOf gt g) q) (toEL es) [] p
 | .callkw g q0 es k e q p=>.Call (.Name (nmOf gt g) q0) (toEL es) [⟨some k,toE e,q⟩] p
 | .meth o m es q p=>.Call (.Attribute (toE o) m.nm q) (toEL es) [] p
 | .attr o a p=>.Attribute (toE o) a.nm p
 | .comp _ e t it ifs r cs p=>.ListComp (toE e) (⟨toTg tb t,toE it,toEL ifs,0⟩ :: toCL r) cs.sc p
 | .fit g o q1 q2 q3 p=>.Call (.Name (nmOf gt g) q1) [.Attribute (toE o) At.read_char.nm q2,.Constant (.str ⟨#[]⟩) 0 q3] [] p
 | .readc o q1 q2 q3 p=>.Call (.Attribute (.Attribute (toE o) (Str.ofString "instream") q1) (Str.ofString "read") q2) [.Constant (.int 1) 0 q3] [] p
 | .shut i q p=>.BinOp (.BinOp (.Constant (.str ⟨#[34]⟩) 0 (q.getD 0 p)) .Add (.Call (.Attribute (.Call (.Attribute (.Name (nmOf tb i) (q.getD 1 p)) Me.replace.nm (q.getD 2 p)) [.Constant (.str ⟨#[92]⟩) 0 (q.getD 3 p),.Constant (.str ⟨#[92,92]⟩) 0 (q.getD 4 p)] [] (q.getD 5 p)) Me.replace.nm (q.getD 6 p)) [.Constant (.str ⟨#[34]⟩) 0 (q.getD 7 p),.Constant (.str ⟨#[92,34]⟩) 0 (q.getD 8 p)] [] (q.getD 9 p)) (q.getD 10 p)) .Add (.Constant (.str ⟨#[34]⟩) 0 (q.getD 11 p)) p
 | .tix i j q1 q2 q p=>.Call (.Attribute (.Name (nmOf tb i) q1) Me.index.nm q) [.Name (nmOf tb j) q2] [] p
 | .raw e=>e
noncomputable def toEL:EL→List Expr
 | .nil=>[]
 | .cons e es=>toE e :: toEL es
noncomputable def toOE:OE→Option Expr
 | .none=>none
 | .some e=>some (toE e)
noncomputable def toCL:CL→List Comprehension
 | .nil=>[]
 | .cons t it ifs r=>⟨toTg tb t,toE it,toEL ifs,0⟩ :: toCL r
end
mutual
noncomputable def toS:S→Stmt
 | .assign t e p=>.Assign [toTg tb t] (toE gt tb e) p
 | .assignSub a i q e p=>.Assign [.Subscript (toE gt tb a) (toE gt tb i) q] (toE gt tb e) p
 | .aug i q op e p=>.AugAssign (.Name (nmOf tb i) q) op (toE gt tb e) p
 | .augSub a i q op e p=>.AugAssign (.Subscript (toE gt tb a) (toE gt tb i) q) op (toE gt tb e) p
 | .expr e p=>.Expr (toE gt tb e) p
 | .ret e p=>.Return (some (toE gt tb e)) p
 | .cond t a b p=>.If (toE gt tb t) (toSL a) (toSL b) p
 | .whil _ _ t a p=>.While (toE gt tb t) (toSL a) [] p
 | .loop _ t it a b p=>.For (toTg tb t) (toE gt tb it) (toSL a) (toSL b) p
 | .enum _ is tp g gp it a b q p=>.For (toTg tb (.tup is tp)) (.Call (.Name (nmOf gt g) gp) [toE gt tb it] [] q) (toSL a) (toSL b) p
 | .inc o q1 q2 p=>.AugAssign (.Attribute (toE gt tb o) At.lineno.nm q1) .Add (.Constant (.int 1) 0 q2) p
 | .fitr _ i tp it a b p=>.For (toTg tb (.name i tp)) (toE gt tb it) (toSL a) (toSL b) p
 | .brk p=>.Break p
 | .cont p=>.Continue p
 | .raw s=>s
noncomputable def toSL:SL→List Stmt
 | .nil=>[]
 | .cons s r=>toS s :: toSL r
end
end
noncomputable def maxLen:Nat:=1048576
noncomputable def small (x:Int):Bool:=decide (x.natAbs < 18446744073709551616)
noncomputable def vlist (σ:Sto) (i:Nat):Option (List V):=match σ[i]? with
 | some (.list xs)=>some xs
 | _=>none
noncomputable def scrOf (σ:Sto) (k:Nat):Option (List V):=match (σ[(0:Nat)]?:Option O) with
 | some (.scr k' xs)=>if k'=k then some (xs.map .int) else none
 | _=>none
noncomputable def newList (xs:List V) (σ:Sto):Option (V × Sto):=if xs.length≤maxLen then some (.lst xs,σ) else none
noncomputable def newL (cell:Bool) (xs:List V) (σ:Sto):V × Sto:=if cell then (.ref σ.length,σ++[.list xs]) else (.lst xs,σ)
noncomputable def mkStr (l:List Nat) (σ:Sto):Option (V × Sto):=if l.length≤maxLen then some (.str l,σ) else none
noncomputable def orO {α:Type} (a b:Option α):Option α:=match a with
 | some x=>some x
 | none=>b
noncomputable def intV:V→Option Int
 | .int x=>some x
 | _=>none
noncomputable def strV:V→Option (List Nat)
 | .str x=>some x
 | _=>none
noncomputable def refV:V→Option Nat
 | .ref r=>some r
 | _=>none
noncomputable def tupV:V→Option (List V)
 | .tup r=>some r
 | _=>none
noncomputable def lsV (σ:Sto):V→Option (List V)
 | .ref r=>vlist σ r
 | .lst xs=>some xs
 | _=>none
noncomputable def bytesV:V→Option (List Nat)
 | .bytes r=>some r
 | _=>none
noncomputable def boolV:V→Option Bool
 | .bool r=>some r
 | _=>none
noncomputable def fnV:V→Option Nat
 | .fn r=>some r
 | _=>none
noncomputable def tyV:V→Option Ty
 | .ty r=>some r
 | _=>none
noncomputable def isNone:V→Bool
 | .none=>true
 | _=>false
noncomputable def bII (op:Operator) (x y:Int) (σ:Sto):Option (V × Sto):=match op with
 | .Add=>some (.int (x+y),σ)
 | .Sub=>some (.int (x - y),σ)
 | .Mult=>if small y then some (.int (x*y),σ) else none
 | .FloorDiv=>if y=0||!small y then none else some (.int (x.fdiv y),σ)
 | .Mod=>if y=0 then none else some (.int (x.fmod y),σ)
 | .Pow=>if small x&&decide (0≤y)&&decide (y≤1000) then some (.int (x ^ y.toNat),σ) else none
 | .LShift=>if small x&&decide (0≤y)&&decide (y≤1000) then some (.int (x*2 ^ y.toNat),σ) else none
 | .RShift=>if 0≤y then some (.int (x.fdiv (2 ^ y.toNat)),σ) else none
 | .BitAnd=>some (.int (Builtin.bitAnd x y),σ)
 | .BitOr=>some (.int (Builtin.bitOr x y),σ)
 | .BitXor=>some (.int (Builtin.bitXor x y),σ)
 | _=>none
noncomputable def isAdd:Operator→Bool
 | .Add=>true
 | _=>false
noncomputable def isMult:Operator→Bool
 | .Mult=>true
 | _=>false
noncomputable def bSI (x:List Nat) (y:Int) (σ:Sto):Option (V × Sto):=if 0≤y∧y≤1000∧x.length≤1000 then some (.str (List.replicate y.toNat x).flatten,σ) else none
noncomputable def bLL (xs ys:List V) (σ:Sto):Option (V × Sto):=newList (xs++ys) σ
noncomputable def bLI (xs:List V) (y:Int) (σ:Sto):Option (V × Sto):=if 0≤y∧y≤1000∧xs.length≤1000∧xs≠[] then newList (List.replicate y.toNat xs).flatten σ else none
noncomputable def binop (op:Operator) (a b:V) (σ:Sto):Option (V × Sto) :=
 orO ((intV a).bind fun x=>(intV b).bind fun y=>bII op x y σ) <|
 orO (if isAdd op then (strV a).bind fun x=>(strV b).bind fun y=>mkStr (x++y) σ else none) <|
 orO (if isMult op then (strV a).bind fun x=>(intV b).bind fun y=>bSI x y σ else none) <|
 orO (if isAdd op then (lsV σ a).bind fun xs=>(lsV σ b).bind fun ys=>bLL xs ys σ else none)
  (if isMult op then (lsV σ a).bind fun xs=>(intV b).bind fun y=>bLI xs y σ else none)
noncomputable def augop (op:Operator) (a b:V) (σ:Sto):Option (V × Sto):=if isAdd op then
 orO ((intV a).bind fun x=>(intV b).map fun y=>(.int (x+y),σ)) ((strV a).bind fun x=>(strV b).bind fun y=>mkStr (x++y) σ) else none
noncomputable def eqS (a b:V):Option Bool :=
 orO ((intV a).bind fun x=>orO ((intV b).map fun y=>x==y) (if isNone b then some false else none)) <|
 orO ((strV a).bind fun x=>(strV b).map fun y=>x==y) <|
 orO (if isNone a then (if isNone b then some true else (intV b).map fun ζ=>false) else none)
  ((boolV a).bind fun x=>(boolV b).map fun y=>x==y)
noncomputable def eqL:List V→List V→Option Bool
 | [],ys=>if ys.isEmpty then some true else none
 | x :: xs,ys=>match ys with
  | []=>none
  | y :: ys=>(eqS x y).bind fun a=>(eqL xs ys).map fun b=>a&&b
noncomputable def inL (v:V):List V→Option Bool
 | []=>some false
 | x :: xs=>(eqS x v).bind fun a=>(inL v xs).map fun b=>a||b
noncomputable def subAt (p:List Nat):List Nat→Nat→Option Nat
 | [],k=>if p=[] then some k else none
 | c :: cs,k=>if p.isPrefixOf (c :: cs) then some k else subAt p cs (k+1)
noncomputable def eqR (xs ys:List V):Option Bool:=if xs.length=ys.length then eqL xs ys else some false
noncomputable def eqV (σ:Sto) (a b:V):Option Bool :=
 orO ((lsV σ a).bind fun xs=>(lsV σ b).bind fun ys=>eqR xs ys) <|
 orO ((tupV a).bind fun xs=>(tupV b).bind fun ys=>if xs.length=ys.length then eqL xs ys else none) (eqS a b)
noncomputable def inV (σ:Sto) (a b:V):Option Bool :=
 orO ((strV b).bind fun x=>(strV a).map fun p=>(subAt p x 0).isSome) <|
 orO ((tupV b).bind fun xs=>inL a xs) ((lsV σ b).bind fun xs=>inL a xs)
noncomputable def isV (a b:V):Option Bool :=
 orO (if isNone b then (if isNone a then some true else orO ((intV a).map fun ζ=>false) <| orO ((bytesV a).map fun ζ=>false) ((boolV a).map fun ζ=>false)) else none)
  ((tyV b).bind fun t=>(tyV a).map fun s=>s.nm==t.nm)
noncomputable def iiV (op:CmpOp) (x y:Int):Option Bool:=match op with
 | .Lt=>some (decide (x < y))
 | .LtE=>some (decide (x≤y))
 | .Gt=>some (decide (x > y))
 | .GtE=>some (decide (x ≥ y))
 | _=>none
noncomputable def cmpop (op:CmpOp) (a b:V) (σ:Sto):Option Bool:=match op with
 | .Eq=>eqV σ a b
 | .NotEq=>(eqV σ a b).map (!·)
 | .In=>inV σ a b
 | .NotIn=>(inV σ a b).map (!·)
 | .Is=>isV a b
 | .IsNot=>if isNone a&&isNone b then some false else none
 | op=>(intV a).bind fun x=>(intV b).bind fun y=>iiV op x y
noncomputable def truth (σ:Sto):V→Option Bool
 | .bool b=>some b
 | .int i=>some (i != 0)
 | .str s=>some (!s.isEmpty)
 | .none=>some false
 | .ref i=>(vlist σ i).map fun xs=>!xs.isEmpty
 | .lst xs=>some !xs.isEmpty
 | _=>none
noncomputable def idx (n:Nat) (k:Int):Option Nat :=
 if 0≤k then (if k < (n:Int) then some k.toNat else none) else if -(n:Int)≤k then some (k+(n:Int)).toNat else none
noncomputable def pick (xs:List V) (k:Int):Option V:=(idx xs.length k).bind fun j=>xs[j]?
noncomputable def subI (a:V) (k:Int) (σ:Sto):Option V :=
 orO ((lsV σ a).bind fun xs=>pick xs k) <|
 orO ((tupV a).bind fun xs=>pick xs k) <|
 orO ((strV a).bind fun s=>(idx s.length k).bind fun j=>(s[j]?).map fun c=>.str [c]) <|
 orO ((bytesV a).bind fun s=>(idx s.length k).bind fun j=>(s[j]?).map fun c=>.int (c:Nat))
  ((fnV a).bind fun r=>(scrOf σ r).bind fun xs=>pick xs k)
noncomputable def subV (a i:V) (σ:Sto):Option V:=(intV i).bind fun k=>subI a k σ
noncomputable def setV (a i v:V) (σ:Sto):Option Sto:=(refV a).bind fun r=>(intV i).bind fun k=>(vlist σ r).bind fun xs=>if 0≤k∧k < (xs.length:Int) then some (σ.set r (.list (xs.set k.toNat v))) else none
noncomputable def clip (n:Nat) (d:Nat):V→Option Nat
 | .none=>some d
 | .int k=>some (if 0≤k then min k.toNat n else (k+(n:Int)).toNat)
 | _=>none
noncomputable def everyOther {α:Type}:List α→List α
 | []=>[]
 | [x]=>[x]
 | x :: _ :: r=>x :: everyOther r
noncomputable def cut {α:Type} (xs:List α) (lo hi:Nat):List α:=(xs.take hi).drop lo
noncomputable def sliceL (xs:List V) (lo hi st:V) (σ:Sto):Option (V × Sto):=(clip xs.length 0 lo).bind fun l=>(clip xs.length xs.length hi).bind fun h =>
 if isNone st then newList (cut xs l h) σ else (intV st).bind fun k=>if k=2 then newList (everyOther (cut xs l h)) σ else none
noncomputable def sliceV (a lo hi st:V) (σ:Sto):Option (V × Sto) :=
 orO ((strV a).bind fun s=>if isNone st then (clip s.length 0 lo).bind fun l=>(clip s.length s.length hi).map fun h=>(.str (cut s l h),σ) else none)
  ((lsV σ a).bind fun xs=>sliceL xs lo hi st σ)
noncomputable def sumL:List V→Int→Option Int
 | [],a=>some a
 | v :: r,a=>(intV v).bind fun x=>sumL r (a+x)
noncomputable def maxL:List V→Int→Option Int
 | [],a=>some a
 | v :: r,a=>(intV v).bind fun x=>maxL r (if x > a then x else a)
noncomputable def insS (x:Int):List Int→List Int
 | []=>[x]
 | y :: r=>if x < y then x :: y :: r else y :: insS x r
noncomputable def sortS:List Int→List Int
 | []=>[]
 | x :: r=>insS x (sortS r)
noncomputable def intsOf:List V→Option (List Int)
 | []=>some []
 | v :: r=>(intV v).bind fun x=>(intsOf r).map (x :: ·)
noncomputable def strsOf:List V→Option (List (List Nat))
 | []=>some []
 | v :: r=>(strV v).bind fun x=>(strsOf r).map (x :: ·)
noncomputable def bytesOf:List V→Option (List Nat)
 | []=>some []
 | v :: r=>(intV v).bind fun x=>if 0≤x∧x < 256 then (bytesOf r).map (x.toNat :: ·) else none
noncomputable def joinL (sep:List Nat):List (List Nat)→List Nat
 | []=>[]
 | [x]=>x
 | x :: y :: r=>x++sep++joinL sep (y :: r)
noncomputable def firstL (v:V):List V→Nat→Option Nat
 | [],_=>none
 | x :: xs,k=>if eqS x v=some true then some k else firstL v xs (k+1)
noncomputable def indexL (v:V) (xs:List V):Option Nat:=(inL v xs).bind fun b=>if b then firstL v xs 0 else none
noncomputable def rangeL (a b c:Int):List Int:=(List.range (Builtin.Range.rangeSize a b c).toNat).map fun i:Nat=>a+(i:Int)*c
noncomputable def smallR (x:Int):Bool:=decide (x.natAbs≤1048576)
inductive It where
 | items (vs:List V)
 | live (i:Nat)
noncomputable def iterOf (σ:Sto):V→Option (It × Nat)
 | .ref i=>(vlist σ i).map fun xs=>(.live i,xs.length)
 | .lst xs=>some (.items xs,xs.length)
 | .tup xs=>some (.items xs,xs.length)
 | .str s=>some (.items (s.map fun c=>.str [c]),s.length)
 | .bytes s=>some (.items (s.map fun c=>.int (c:Nat)),s.length)
 | .rng a b c=>if smallR a&&smallR b&&smallR c&&c != 0 then some (.items ((rangeL a b c).map .int),(rangeL a b c).length) else none
 | _=>none
noncomputable def nextAt (it:It) (k:Nat) (σ:Sto):Option (Option V):=match it with
 | .items vs=>some vs[k]?
 | .live i=>(vlist σ i).map fun xs=>xs[k]?
noncomputable def itemsOf (σ:Sto) (v:V):Option (List V):=orO (lsV σ v) (tupV v)
noncomputable def lenV (v:V) (σ:Sto):Option V :=
 orO ((strV v).map fun s=>.int (s.length:Nat)) <|
 orO ((lsV σ v).map fun xs=>.int (xs.length:Nat))
  ((fnV v).bind fun i=>(scrOf σ i).map fun xs=>.int (xs.length:Nat))
noncomputable def itsV (v:V) (σ:Sto):Option (List V):=orO (lsV σ v) ((fnV v).bind fun i=>scrOf σ i)
noncomputable def arg1 {α:Type} (as:List V) (f:V→Option α):Option α:=match as with
 | []=>none
 | v :: r=>if r.isEmpty then f v else none
noncomputable def arg2 {α:Type} (as:List V) (f:V→V→Option α):Option α:=match as with
 | []=>none
 | v :: r=>arg1 r fun w=>f v w
noncomputable def maxV (xs:List V):Option Int:=match xs with
 | []=>none
 | v :: r=>(intV v).bind fun x=>maxL r x
noncomputable def sortV (xs:List V) (σ:Sto):Option (V × Sto):=(intsOf xs).bind fun ns=>if ns.length < 64 then newList ((sortS ns).map .int) σ else none
noncomputable def callB (b:Bi) (as:List V) (σ:Sto):Option (V × Sto):=match b with
 | .len=>arg1 as fun v=>(lenV v σ).map fun r=>(r,σ)
 | .sum=>arg1 as fun v=>(itsV v σ).bind fun xs=>(sumL xs 0).map fun n=>(.int n,σ)
 | .max=>arg1 as fun v=>(lsV σ v).bind fun xs=>(maxV xs).map fun n=>(.int n,σ)
 | .min=>arg2 as fun v w=>(intV v).bind fun x=>(intV w).map fun y=>(.int (if y < x then y else x),σ)
 | .sorted=>arg1 as fun v=>(lsV σ v).bind fun xs=>sortV xs σ
 | .chr=>arg1 as fun v=>(intV v).bind fun x=>if 0≤x∧x < 256 then some (.str [x.toNat],σ) else none
 | .iter=>none
noncomputable def rng1 (b:Int):Option V:=if smallR b then some (.rng 0 b 1) else none
noncomputable def rng2 (a b:Int):Option V:=if smallR a&&smallR b then some (.rng a b 1) else none
noncomputable def rng3 (a b c:Int):Option V:=if smallR a&&smallR b&&smallR c&&c != 0 then some (.rng a b c) else none
noncomputable def rngV (as:List V):Option V:=(intsOf as).bind fun ns=>match ns with
 | []=>none
 | x :: r=>match r with
  | []=>rng1 x
  | y :: r=>match r with
   | []=>rng2 x y
   | z :: r=>if r.isEmpty then rng3 x y z else none
noncomputable def tyOf (v:V):Option V:=orO ((bytesV v).map fun ζ=>.ty .bytes) ((boolV v).map fun ζ=>.ty .bool)
noncomputable def digit (x:Int):Option V:=if 0≤x∧x < 10 then some (.str [48+x.toNat]) else none
noncomputable def ofDigit (s:List Nat):Option V:=match s with
 | []=>none
 | c :: r=>if r.isEmpty∧48≤c∧c < 58 then some (.int ((c:Int) - 48)) else none
noncomputable def callT (t:Ty) (as:List V) (σ:Sto):Option (V × Sto):=match t with
 | .range=>(rngV as).map fun v=>(v,σ)
 | .bytes=>arg1 as fun v=>(lsV σ v).bind fun xs=>(bytesOf xs).map fun l=>(.bytes l,σ)
 | .type=>arg1 as fun v=>(tyOf v).map fun t=>(t,σ)
 | .str=>arg1 as fun v=>(intV v).bind fun x=>(digit x).map fun r=>(r,σ)
 | .int=>arg1 as fun v=>(strV v).bind fun x=>(ofDigit x).map fun r=>(r,σ)
 | _=>none
noncomputable def wsp (c:Nat):Bool:=c==10||c==9||c==13||c==32
noncomputable def recv (σ:Sto):V→Option Nat
 | .str _=>some 0
 | .ref i=>match σ[i]? with
  | some (.list _)=>some 1
  | some (.lex ..)=>some 2
  | _=>none
 | .lst _=>some 1
 | _=>none
noncomputable def hdL (xs:List V):Option (V × List V):=match xs with
 | []=>none
 | v :: r=>some (v,r)
noncomputable def methV (o:V) (m:Me) (as:List V) (σ:Sto):Option (V × Sto):=match m with
 | .append=>(refV o).bind fun i=>arg1 as fun v=>(vlist σ i).bind fun xs=>if xs.length < maxLen then some (.none,σ.set i (.list (xs++[v]))) else none
 | .extend=>(refV o).bind fun i=>arg1 as fun v=>(lsV σ v).bind fun ys=>(vlist σ i).bind fun xs=>if refV v≠some i∧xs.length+ys.length≤maxLen then some (.none,σ.set i (.list (xs++ys))) else none
 | .index=>orO ((strV o).bind fun x=>arg1 as fun v=>(strV v).bind fun p=>(subAt p x 0).map fun k=>(.int (k:Nat),σ))
  ((lsV σ o).bind fun xs=>arg1 as fun v=>(indexL v xs).map fun k=>(.int (k:Nat),σ))
 | .join=>(strV o).bind fun sep=>arg1 as fun v=>(lsV σ v).bind fun xs=>(strsOf xs).bind fun ss=>if (joinL sep ss).length≤maxLen then some (.str (joinL sep ss),σ) else none
 | .count=>(strV o).bind fun x=>arg1 as fun v=>(strV v).bind fun p=>if p.length=1 then some (.int (x.count (p.headD 0):Nat),σ) else none
 | .pop=>(refV o).bind fun i=>arg1 as fun v=>(intV v).bind fun k=>if k=0 then (vlist σ i).bind fun xs=>(hdL xs).map fun p=>(p.1,σ.set i (.list p.2)) else none
 | _=>none
mutual
noncomputable def V.low (n:Nat):V→Bool
 | .ref i=>decide (i < n)
 | .tup vs=>lowL n vs
 | .lst vs=>lowL n vs
 | _=>true
noncomputable def lowL (n:Nat):List V→Bool
 | []=>true
 | v :: vs=>v.low n&&lowL n vs
end
noncomputable def O.low (n:Nat):O→Bool
 | .list xs=>lowL n xs
 | .lex _ a _ pb=>decide (a < n)&&decide (pb < n)
 | .cit l _=>decide (l < n)
 | .scr ..=>true
noncomputable def stoLow (n:Nat) (σ:Sto):Bool:=σ.all (O.low n)
noncomputable def clear (clr:List Nat) (loc:Loc):Loc:=clr.foldl (fun l i=>l.set i none) loc
noncomputable def bindT (t:Tg) (v:V) (loc:Loc) (σ:Sto):Option Loc:=match t with
 | .name i _=>if i < loc.length then some (loc.set i (some v)) else none
 | .tup is _=>(itemsOf σ v).bind fun vs=>if vs.length=is.length then some ((is.zip vs).foldl (fun l x=>l.set x.1.1 (some x.2)) loc) else none
inductive Fl where
 | next | brk | cont
 | ret (v:V)
noncomputable def iterate {α:Type} (step:V→α→Sto→Option (Bool × α × Sto)) (it:It):Nat→Nat→α→Sto→Option (Bool × α × Sto)
 | 0,k,a,σ=>(nextAt it k σ).bind fun o=>if o.isNone then some (true,a,σ) else none
 | n+1,k,a,σ=>(nextAt it k σ).bind fun o=>match o with
  | none=>some (true,a,σ)
  | some v=>(step v a σ).bind fun y=>if y.1 then iterate step it n (k+1) y.2.1 y.2.2 else some y
noncomputable abbrev Calls:=Nat→List V→Sto→Option (V × Sto)
noncomputable abbrev Lexer:=Me→List V→Sto→Option (V × Sto)
section
variable (Φ:Calls) (Λ:Lexer) (G:Nat→Option V)
noncomputable def callV (f:V) (as:List V) (σ:Sto):Option (V × Sto):=match f with
 | .fn k=>Φ k as σ
 | .bi b=>callB b as σ
 | .ty t=>callT t as σ
 | _=>none
noncomputable def lexO:O→Option (List Nat × Nat × Int × Nat)
 | .lex text a line pb=>some (text,a,line,pb)
 | _=>none
noncomputable def lexI (σ:Sto) (i:Nat):Option (List Nat × Nat × Int × Nat):=(σ[i]?).bind lexO
noncomputable def attL (a:At) (L:List Nat × Nat × Int × Nat):Option V:=match a with
 | .lineno=>some (.int L.2.2.1)
 | .pushback=>some (.ref L.2.2.2)
 | .whitespace=>some (.str [10,9,13,32])
 | .read_char=>none
noncomputable def attrV (a:At) (σ:Sto) (v:V):Option V:=(refV v).bind fun i=>(lexI σ i).bind (attL a)
noncomputable def pieceAt (text:List Nat) (k:Int):List Nat:=cut text (min k.toNat text.length) (min (k.toNat+1) text.length)
noncomputable def readC (i:Nat) (σ:Sto):Option (V × Sto):=(lexI σ i).bind fun L=>(vlist σ L.2.1).bind fun xs=>arg1 xs fun v=>(intV v).bind fun k =>
 if 0≤k then some (.str (pieceAt L.1 k),σ.set L.2.1 (.list [.int (k+(pieceAt L.1 k).length)])) else none
noncomputable def fitC (i:Nat) (σ:Sto):Option (V × Sto):=(lexI σ i).map fun ζ=>(.ref σ.length,σ++[.cit i false])
noncomputable def incC (i:Nat) (σ:Sto):Option Sto:=(lexI σ i).map fun L=>σ.set i (.lex L.1 L.2.1 (L.2.2.1+1) L.2.2.2)
noncomputable def isIter:V→Bool
 | .bi .iter=>true
 | _=>false
noncomputable def rep (c:Nat) (z l:List Nat):List Nat:=l.flatMap fun d=>if d=c then z else [d]
noncomputable def isEnumT:V→Bool
 | .ty .enumerate=>true
 | _=>false
noncomputable def asB (r:Option (V × Sto)):Option (Bool × Sto):=r.bind fun p=>(boolV p.1).map fun b=>(b,p.2)
noncomputable def fin (m:Bool) (r:Option (V × Sto)):Option (V × Sto):=if m then (r.bind fun p=>(truth p.2 p.1).map fun b=>(.bool b,p.2)) else r
mutual
noncomputable def evM:E→Bool→Loc→Sto→Option (V × Sto)
 | .cnone _,md,_,σ=>fin md <| some (.none,σ)
 | .cbool b _,md,_,σ=>fin md <| some (.bool b,σ)
 | .cint i _,md,_,σ=>fin md <| some (.int i,σ)
 | .cstr s _,md,_,σ=>fin md <| some (.str s,σ)
 | .var i _,md,loc,σ=>fin md <| (loc[i]?).bind fun o=>o.map fun v=>(v,σ)
 | .glob g _,md,_,σ=>fin md <| (G g).map fun v=>(v,σ)
 | .bin op a b _,md,loc,σ=>fin md <| (evM a false loc σ).bind fun x=>(evM b false loc x.2).bind fun y=>binop op x.1 y.1 y.2
 | .neg a _,md,loc,σ=>fin md <| (evM a false loc σ).bind fun x=>(intV x.1).map fun i=>(.int (-i),x.2)
 | .cmp op a b _,md,loc,σ=>fin md <| (evM a false loc σ).bind fun x=>(evM b false loc x.2).bind fun y=>(cmpop op x.1 y.1 y.2).map fun c=>(.bool c,y.2)
 | .cmp2 op op' a b c _,md,loc,σ=>if md then (evM a false loc σ).bind fun x=>(evM b false loc x.2).bind fun y=>(cmpop op x.1 y.1 y.2).bind fun r =>
   if r then (evM c false loc y.2).bind fun z=>(cmpop op' y.1 z.1 z.2).map fun c=>(.bool c,z.2) else some (.bool false,y.2) else none
 | .boolop op es _,md,loc,σ=>if md then (evB op es loc σ).map fun r=>(.bool r.1,r.2) else evBV op es loc σ
 | .ife t a b _,md,loc,σ=>(asB (evM t true loc σ)).bind fun c=>if c.1 then evM a md loc c.2 else evM b md loc c.2
 | .list cell es _,md,loc,σ=>fin md <| (evEL es loc σ).bind fun r=>if r.1.length≤maxLen then some (newL cell r.1 r.2) else none
 | .tup es _,md,loc,σ=>fin md <| (evEL es loc σ).map fun r=>(.tup r.1,r.2)
 | .sub a i _,md,loc,σ=>fin md <| (evM a false loc σ).bind fun x=>(evM i false loc x.2).bind fun y=>(subV x.1 y.1 y.2).map fun v=>(v,y.2)
 | .slice a lo hi st _ _,md,loc,σ=>fin md <| (evM a false loc σ).bind fun x=>(evO lo loc x.2).bind fun l=>(evO hi loc l.2).bind fun h=>(evO st loc h.2).bind fun t=>sliceV x.1 l.1 h.1 t.1 t.2
 | .call g _ es _,md,loc,σ=>fin md <| (G g).bind fun f=>(evEL es loc σ).bind fun vs=>callV Φ f vs.1 vs.2
 | .callkw g _ es _ e _ _,md,loc,σ=>fin md <| (G g).bind fun f=>(evEL es loc σ).bind fun vs=>(evM e false loc vs.2).bind fun w=>(fnV f).bind fun k=>Φ k (vs.1++[w.1]) w.2
 | .meth o m es _ _,md,loc,σ=>fin md <| (evM o false loc σ).bind fun x=>(recv x.2 x.1).bind fun k=>(evEL es loc x.2).bind fun vs=>if k=2 then (if m.lex then Λ m (x.1 :: vs.1) vs.2 else none) else methV x.1 m vs.1 vs.2
 | .attr o a _,md,loc,σ=>fin md <| (evM o false loc σ).bind fun x=>(attrV a x.2 x.1).map fun v=>(v,x.2)
 | .comp cell e t it ifs r cs _,md,loc,σ=>fin md <| ((evM it false (clear (cs.own.map (·.1)) loc) σ).bind fun x=>(iterOf x.2 x.1).bind fun i=>(iterate (fun v acc σ=>(bindT t v (clear (cs.own.map (·.1)) loc) σ).bind fun loc=>(evIfs ifs loc σ).bind fun c =>
   if c.1 then (evC r (fun loc σ acc=>(evM e false loc σ).bind fun v=>if acc.length < maxLen then some (acc++[v.1],v.2) else none) loc c.2 acc).map fun y=>(true,y) else some (true,acc,c.2)) i.1 i.2 0 [] x.2).map fun y=>newL cell y.2.1 y.2.2)
 | .fit g o _ _ _ _,md,loc,σ=>fin md <| (G g).bind fun f=>if isIter f then (evM o false loc σ).bind fun x=>(refV x.1).bind fun i=>fitC i x.2 else none
 | .readc o _ _ _ _,md,loc,σ=>fin md <| (evM o false loc σ).bind fun x=>Λ .count [x.1] x.2
 | .shut i _ _,md,loc,σ=>fin md <| (loc[i]?).bind fun o=>o.bind fun v=>(strV v).bind fun s=>if s.length≤1000 then some (.str (34 :: rep 34 [92,34] (rep 92 [92,92] s)++[34]),σ) else none
 | .tix i j _ _ _ _,md,loc,σ=>fin md <| (loc[i]?).bind fun o=>o.bind fun u=>(tupV u).bind fun xs=>(loc[j]?).bind fun o=>o.bind fun v=>(indexL v xs).map fun k=>(.int (k:Nat),σ)
 | .raw _,md,_,_=>fin md <| none
noncomputable def evBV:BoolOp→EL→Loc→Sto→Option (V × Sto)
 | _,.nil,_,_=>none
 | op,.cons e es,loc,σ=>(evM e false loc σ).bind fun v=>if es.isNil then some v else (boolV v.1).bind fun b=>if (op==.And)=b then evBV op es loc v.2 else some v
noncomputable def evB:BoolOp→EL→Loc→Sto→Option (Bool × Sto)
 | op,.nil,_,σ=>some (op==.And,σ)
 | op,.cons e es,loc,σ=>(asB (evM e true loc σ)).bind fun c=>if (op==.And)=c.1 then evB op es loc c.2 else some c
noncomputable def evEL:EL→Loc→Sto→Option (List V × Sto)
 | .nil,_,σ=>some ([],σ)
 | .cons e es,loc,σ=>(evM e false loc σ).bind fun v=>(evEL es loc v.2).map fun vs=>(v.1 :: vs.1,vs.2)
noncomputable def evO:OE→Loc→Sto→Option (V × Sto)
 | .none,_,σ=>some (.none,σ)
 | .some e,loc,σ=>evM e false loc σ
noncomputable def evIfs:EL→Loc→Sto→Option (Bool × Sto)
 | .nil,_,σ=>some (true,σ)
 | .cons e es,loc,σ=>(asB (evM e true loc σ)).bind fun c=>if c.1 then evIfs es loc c.2 else some c
noncomputable def evC:CL→(Loc→Sto→List V→Option (List V × Sto))→Loc→Sto→List V→Option (List V × Sto)
 | .nil,k,loc,σ,acc=>k loc σ acc
 | .cons t it ifs r,k,loc,σ,acc=>(evM it false loc σ).bind fun x=>(iterOf x.2 x.1).bind fun i=>(iterate (fun v acc σ=>(bindT t v loc σ).bind fun loc=>(evIfs ifs loc σ).bind fun c =>
   if c.1 then (evC r k loc c.2 acc).map fun y=>(true,y) else some (true,acc,c.2)) i.1 i.2 0 acc x.2).map fun y=>y.2
end
noncomputable def evE (e:E) (loc:Loc) (σ:Sto):Option (V × Sto):=evM Φ Λ G e false loc σ
noncomputable def evT (e:E) (loc:Loc) (σ:Sto):Option (Bool × Sto):=asB (evM Φ Λ G e true loc σ)
noncomputable def turn (clr:List Nat) (x:Fl × Loc × Sto):Bool × (Fl × Loc) × Sto:=match x.1 with
 | .next=>(true,(.next,clear clr x.2.1),x.2.2)
 | .cont=>(true,(.next,clear clr x.2.1),x.2.2)
 | .brk=>(false,(.next,x.2.1),x.2.2)
 | .ret v=>(false,(.ret v,x.2.1),x.2.2)
noncomputable def whileN (t:Loc→Sto→Option (Bool × Sto)) (b:Loc→Sto→Option (Bool × (Fl × Loc) × Sto)):Nat→Loc→Sto→Option (Fl × Loc × Sto)
 | 0,_,_=>none
 | n+1,loc,σ=>(t loc σ).bind fun c=>if c.1 then (b loc c.2).bind fun y=>if y.1 then whileN t b n y.2.1.2 y.2.2 else some (y.2.1.1,y.2.1.2,y.2.2) else some (.next,loc,c.2)
noncomputable def citO:O→Option (Nat × Bool)
 | .cit l over=>some (l,over)
 | _=>none
noncomputable def citI (σ:Sto) (j:Nat):Option (Nat × Bool):=(σ[j]?).bind citO
noncomputable def fitNext (rd:V→Sto→Option (V × Sto)) (j:Nat) (σ:Sto):Option (Option (List Nat) × Sto):=(citI σ j).bind fun c=>if c.2 then some (none,σ) else
 (rd (.ref c.1) σ).bind fun r=>(strV r.1).bind fun s=>(citI r.2 j).bind fun c'=>if c'=c then (if s.isEmpty then some (none,r.2.set j (.cit c.1 true)) else some (some s,r.2)) else none
noncomputable def fitN (rd:V→Sto→Option (V × Sto)) (step:V→Fl × Loc→Sto→Option (Bool × (Fl × Loc) × Sto)) (j:Nat):Nat→Fl × Loc→Sto→Option (Bool × (Fl × Loc) × Sto)
 | 0,_,_=>none
 | n+1,st,σ=>(fitNext rd j σ).bind fun o=>match o.1 with
  | none=>some (true,st,o.2)
  | some c=>(step (.str c) st o.2).bind fun y=>if y.1 then fitN rd step j n y.2.1 y.2.2 else some y
noncomputable def enumItems (xs:List V):List V:=xs.zipIdx.map fun x=>.tup [.int (x.2:Nat),x.1]
noncomputable def seqF (k:Loc→Sto→Option (Fl × Loc × Sto)) (x:Fl × Loc × Sto):Option (Fl × Loc × Sto):=match x.1 with
 | .next=>k x.2.1 x.2.2
 | _=>some x
noncomputable def endF (k:Loc→Sto→Option (Fl × Loc × Sto)) (y:Bool × (Fl × Loc) × Sto):Option (Fl × Loc × Sto):=if y.1 then k y.2.1.2 y.2.2 else some (y.2.1.1,y.2.1.2,y.2.2)
mutual
noncomputable def evS:S→Loc→Sto→Option (Fl × Loc × Sto)
 | .assign t e _,loc,σ=>(evE Φ Λ G e loc σ).bind fun v=>(bindT t v.1 loc v.2).map fun loc=>(.next,loc,v.2)
 | .assignSub a i _ e _,loc,σ=>(evE Φ Λ G e loc σ).bind fun v=>(evE Φ Λ G a loc v.2).bind fun x=>(evE Φ Λ G i loc x.2).bind fun k=>(setV x.1 k.1 v.1 k.2).map fun σ=>(.next,loc,σ)
 | .aug i _ op e _,loc,σ=>(loc[i]?).bind fun o=>o.bind fun x=>(evE Φ Λ G e loc σ).bind fun y=>(augop op x y.1 y.2).map fun v=>(.next,loc.set i (some v.1),v.2)
 | .augSub a i _ op e _,loc,σ=>(evE Φ Λ G a loc σ).bind fun x=>(evE Φ Λ G i loc x.2).bind fun k=>(subV x.1 k.1 k.2).bind fun old=>(evE Φ Λ G e loc k.2).bind fun y=>(augop op old y.1 y.2).bind fun v=>(setV x.1 k.1 v.1 v.2).map fun σ=>(.next,loc,σ)
 | .expr e _,loc,σ=>(evE Φ Λ G e loc σ).map fun v=>(.next,loc,v.2)
 | .ret e _,loc,σ=>(evE Φ Λ G e loc σ).map fun v=>(.ret v.1,loc,v.2)
 | .cond t a b _,loc,σ=>(evT Φ Λ G t loc σ).bind fun c=>if c.1 then evSL a loc c.2 else evSL b loc c.2
 | .whil fuel clr t a _,loc,σ=>whileN (fun loc σ=>evT Φ Λ G t loc σ) (fun loc σ=>(evSL a loc σ).map (turn clr)) fuel loc σ
 | .loop clr t it a b _,loc,σ=>(evE Φ Λ G it loc σ).bind fun x=>(iterOf x.2 x.1).bind fun i=>(iterate (fun v (st:Fl × Loc) σ'=>(bindT t v st.2 σ').bind fun loc=>(evSL a loc σ').map (turn clr)) i.1 i.2 0 (Fl.next,loc) x.2).bind (endF fun loc σ=>evSL b loc σ)
 | .enum clr is tp g _ it a b _ _,loc,σ=>(G g).bind fun f=>if isEnumT f then (evE Φ Λ G it loc σ).bind fun x=>(tupV x.1).bind fun xs=>(iterate (fun v (st:Fl × Loc) σ'=>(bindT (.tup is tp) v st.2 σ').bind fun loc=>(evSL a loc σ').map (turn clr)) (.items (enumItems xs)) xs.length 0 (Fl.next,loc) x.2).bind (endF fun loc σ=>evSL b loc σ) else none
 | .inc o _ _ _,loc,σ=>(evE Φ Λ G o loc σ).bind fun x=>(refV x.1).bind fun i=>(incC i x.2).map fun σ=>(.next,loc,σ)
 | .fitr fuel i tp it a b _,loc,σ=>(evE Φ Λ G it loc σ).bind fun x=>(refV x.1).bind fun j=>(fitN (fun v σ=>Λ .read_char [v] σ) (fun v (st:Fl × Loc) σ'=>(bindT (.name i tp) v st.2 σ').bind fun loc=>(evSL a loc σ').map (turn [])) j fuel (Fl.next,loc) x.2).bind (endF fun loc σ=>evSL b loc σ)
 | .brk _,loc,σ=>some (.brk,loc,σ)
 | .cont _,loc,σ=>some (.cont,loc,σ)
 | .raw _,_,_=>none
noncomputable def evSL:SL→Loc→Sto→Option (Fl × Loc × Sto)
 | .nil,loc,σ=>some (.next,loc,σ)
 | .cons s r,loc,σ=>(evS s loc σ).bind (seqF fun loc σ=>evSL r loc σ)
end
noncomputable def loopStep (clr:List Nat) (t:Tg) (a:SL) (v:V) (st:Fl × Loc) (σ:Sto):Option (Bool × (Fl × Loc) × Sto):=(bindT t v st.2 σ).bind fun loc=>(evSL Φ Λ G a loc σ).map (turn clr)
noncomputable def hand (fz:Bool) (n:Nat) (σ:Sto) (o:O):V × Sto:=match o with
 | .list xs=>if fz then (.lst xs,σ.take n) else (.ref n,σ.take n++[.list xs])
 | o=>(.ref n,σ.take n++[o])
noncomputable def leave (fz:Bool) (n:Nat) (v:V) (σ:Sto):V × Sto :=
 if stoLow n (σ.take n)&&decide (n≤σ.length) then
  (if v.low n then (v,σ.take n) else ((refV v).bind fun i=>(σ[i]?).bind fun o=>if o.low n then some (hand fz n σ o) else none).getD (v,σ))
 else (v,σ)
noncomputable def retV:Fl→Option V
 | .ret v=>some v
 | .next=>some .none
 | _=>none
noncomputable def runF (fz:Bool) (nslots:Nat) (body:SL) (args:List V) (σ:Sto):Option (V × Sto) :=
 (evSL Φ Λ G body (args.map some++List.replicate (nslots - args.length) none) σ).bind fun x=>(retV x.1).map fun v=>leave fz σ.length v x.2.2
end
end Mine
namespace Mine
open PySem
structure LexB where
 C:Addr
 rd:Nat
 gv:List (Str × Addr)→Value→Value→FuncData
 p1:Pos
 p2:Pos
 q1:Str
 q2:Str
structure Base where
 lx:LexB
 prog:Program
 w:World
 h0:Heap
 os:OsState
 fa:Nat→Addr
 tab:Addr
 gA:Addr
 bA:Addr
 mg:Str→Option Value
 mb:Str→Option Value
noncomputable abbrev Lay:=List (List Addr)
noncomputable def Imm (o:Obj):Prop:=(o.cls=.type "tuple"∨o.cls=.type "range"∨o.cls=.type "code"∨o.cls=.type "list")∧((∃ xs n,o.data=.seq xs n)∨∃ vs,o.data=.fields vs)
noncomputable def Ls (o:Obj):Prop:=o.cls=.type "list"
noncomputable def Mut (F:Lay) (b:Addr) (o:Obj):Prop:=Imm o→Ls o∧b∈F.flatten
theorem Mut.of {F:Lay} {b:Addr} {o:Obj} (h:¬ Imm o):Mut F b o:=fun i=>(h i).elim
noncomputable def Fat (F:Lay) (i:Nat) (as:List Addr):Prop:=0 < i∧F[i]?=some as
structure Mv (F G:Lay) (h h':Heap):Prop where
 im:∀ b o,h.get? b=some o→Imm o→(Ls o→b∉F.flatten)→h'.get? b=some o
 kf:∀ i x,Fat F i x→Fat G i x
 kg:∀ b o,h.get? b=some o→Imm o→Ls o→b∉F.flatten→b∉G.flatten
noncomputable def Kept (W:Addr→Prop) (h h':Heap):Prop:=∀ b o,h.get? b=some o→¬ W b→h'.get? b=some o
theorem Kept.refl (W:Addr→Prop) (h:Heap):Kept W h h:=fun ζ ζ e ζ=>e
theorem Kept.trans {W:Addr→Prop} {h h' h'':Heap} (x:Kept W h h') (y:Kept W h' h''):Kept W h h'':=fun b o e n=>y b o (x b o e n) n
theorem Kept.mono {W W':Addr→Prop} {h h':Heap} (x:Kept W h h') (i:∀ b,W b→W' b):Kept W' h h':=fun b o e n=>x b o e fun q=>n (i b q)
theorem Kept.push (W:Addr→Prop) (h:Heap) (o:Obj):Kept W h (h.push o):=fun ζ ζ e ζ=>Heap.get?_push_of_some o e
theorem Kept.all {W:Addr→Prop} {h h':Heap} (k:∀ b o,h.get? b=some o→h'.get? b=some o):Kept W h h':=fun b o e ζ=>k b o e
theorem Kept.of_ext {a:Addr} {h h':Heap} (x:Heap.ExtBut a h h'):Kept (·=a) h h':=fun b o e n=>x b o n e
theorem Kept.of_same {a:Addr} {h h':Heap} (x:Heap.SameBut a h h'):Kept (·=a) h h':=.of_ext x.extBut
theorem app_get (F G:Lay):∀ (i:Nat) (x:List Addr),Fat F i x→Fat (F++G) i x:=fun i x e=>by
 obtain ⟨l,_⟩:=List.getElem?_eq_some_iff.mp e.2
 exact ⟨e.1,(List.getElem?_append_left l).trans e.2⟩
theorem Mv.trans {F G K:Lay} {h h' h'':Heap} (x:Mv F G h h') (y:Mv G K h' h''):Mv F K h h'' :=
 ⟨fun b o e i n=>y.im b o (x.im b o e i n) i fun l=>x.kg b o e i l (n l),fun i z e=>y.kf i z (x.kf i z e),fun b o e i l n=>y.kg b o (x.im b o e i fun ζ=>n) i l (x.kg b o e i l n)⟩
theorem Mv.of {F:Lay} {h h':Heap} (k:∀ b o,h.get? b=some o→h'.get? b=some o):Mv F F h h':=⟨fun b o e ζ ζ=>k b o e,fun ζ ζ e=>e,fun ζ ζ ζ ζ ζ e=>e⟩
theorem Mv.push (F:Lay) (h:Heap) (o:Obj):Mv F F h (h.push o):=.of fun ζ ζ e=>Heap.get?_push_of_some o e
theorem Mv.of_kept {W:Addr→Prop} {F:Lay} {h h':Heap} (x:Kept W h h') (n:∀ b o,W b→h.get? b=some o→Mut F b o):Mv F F h h':=⟨fun b o e i z=>x b o e fun w=>z (n b o w e i).1 (n b o w e i).2,fun ζ ζ e=>e,fun ζ ζ ζ ζ ζ e=>e⟩
theorem Mv.add {F G:Lay} {h h':Heap} (x:Mv F F h h') (d:∀ a∈G.flatten,h.get? a=none):Mv F (F++G) h h':=⟨x.im,app_get F G,fun b o e ζ ζ n q=>by
 rw [List.flatten_append,List.mem_append] at q
 exact q.elim n fun q=>by rw [d b q] at e; cases e⟩
theorem imSeq {c:String} {xs:Array Value} {n:Nat} (h:Value.type c=.type "tuple"∨Value.type c=.type "range"∨Value.type c=.type "code"∨Value.type c=.type "list"):Imm { cls:=.type c,data:=.seq xs n }:=⟨h,.inl ⟨_,_,rfl⟩⟩
theorem imTup {xs:Array Value} {n:Nat}:Imm { cls:=.type "tuple",data:=.seq xs n }:=imSeq (.inl rfl)
theorem imLst {xs:Array Value} {n:Nat}:Imm { cls:=.type "list",data:=.seq xs n }:=imSeq (.inr (.inr (.inr rfl)))
theorem lsNo {o:Obj} {n:String} (hc:o.cls=.type n) (h:n≠"list"):¬ Ls o:=fun l=>h (Value.type.inj (hc.symm.trans l))
mutual
inductive VR (fa:Nat→Addr) (h:Heap) (F:Lay):V→Value→Prop
 | none:VR fa h F .none .none
 | bool (b:Bool):VR fa h F (.bool b) (.bool b)
 | int (i:Int) (t:Tok):VR fa h F (.int i) (.int i t)
 | str {l:List Nat} {x:Str} (t:Tok) (e:x.cps.toList=l) (b:l.length≤maxLen):VR fa h F (.str l) (.str x t)
 | bytes {l:List Nat} {b:Array UInt8} (t:Tok) (e:b.toList.map UInt8.toNat=l) (n:l.length≤maxLen):VR fa h F (.bytes l) (.bytes b t)
 | ref {i:Nat} {a:Addr} {as:List Addr} (e:Fat F i (a :: as)):VR fa h F (.ref i) (.ref a)
 | tup {vs:List V} {a:Addr} {items:Array Value} {n:Nat} (e:h.get? a=some { cls:=.type "tuple",data:=.seq items n }) (r:VRs fa h F vs items.toList) (b:vs.length≤maxLen):VR fa h F (.tup vs) (.ref a)
 | lst {vs:List V} {a:Addr} {items:Array Value} {n:Nat} (e:h.get? a=some { cls:=.type "list",data:=.seq items n }) (q:a∉F.flatten) (r:VRs fa h F vs items.toList) (b:vs.length≤maxLen):VR fa h F (.lst vs) (.ref a)
 | rng {a b c:Int} {r:Addr} {t u v:Tok} (e:IsRange h r a b c t u v):VR fa h F (.rng a b c) (.ref r)
 | fn (f:Nat):VR fa h F (.fn f) (.ref (fa f))
 | bi (b:Bi):VR fa h F (.bi b) (.builtin b.id)
 | ty (t:Ty):VR fa h F (.ty t) (.type t.nm)
inductive VRs (fa:Nat→Addr) (h:Heap) (F:Lay):List V→List Value→Prop
 | nil:VRs fa h F [] []
 | cons {v:V} {x:Value} {vs:List V} {xs:List Value} (a:VR fa h F v x) (r:VRs fa h F vs xs):VRs fa h F (v :: vs) (x :: xs)
end
section
variable {fa:Nat→Addr} {h h':Heap} {F G:Lay}
theorem VR.step (m:Mv F G h h') {v:V} {x:Value} (r:VR fa h F v x):VR fa h' G v x :=
 VR.rec (motive_1:=fun v x ζ=>VR fa h' G v x) (motive_2:=fun vs xs ζ=>VRs fa h' G vs xs) .none .bool .int (fun t e b=>.str t e b) (fun t e b=>.bytes t e b) (fun e=>.ref (m.kf _ _ e)) (fun e ζ b r=>.tup (m.im _ _ e imTup fun l=>(lsNo rfl (by decide) l).elim) r b) (fun e q ζ b r=>.lst (m.im _ _ e imLst fun ζ=>q) (m.kg _ _ e imLst rfl q) r b) (fun e=>.rng (m.im _ _ e ⟨.inr (.inl rfl),.inr ⟨_,rfl⟩⟩ fun l=>(lsNo rfl (by decide) l).elim)) .fn .bi .ty .nil (fun ζ ζ a r=>.cons a r) r
theorem VRs.step (m:Mv F G h h') {vs:List V} {xs:List Value} (r:VRs fa h F vs xs):VRs fa h' G vs xs :=
 VRs.rec (motive_1:=fun v x ζ=>VR fa h' G v x) (motive_2:=fun vs xs ζ=>VRs fa h' G vs xs) .none .bool .int (fun t e b=>.str t e b) (fun t e b=>.bytes t e b) (fun e=>.ref (m.kf _ _ e)) (fun e ζ b r=>.tup (m.im _ _ e imTup fun l=>(lsNo rfl (by decide) l).elim) r b) (fun e q ζ b r=>.lst (m.im _ _ e imLst fun ζ=>q) (m.kg _ _ e imLst rfl q) r b) (fun e=>.rng (m.im _ _ e ⟨.inr (.inl rfl),.inr ⟨_,rfl⟩⟩ fun l=>(lsNo rfl (by decide) l).elim)) .fn .bi .ty .nil (fun ζ ζ a r=>.cons a r) r
theorem VRs.length {vs:List V} {xs:List Value} (r:VRs fa h F vs xs):vs.length=xs.length:=by
 induction vs generalizing xs with
 | nil=>cases r; rfl
 | cons v vs ih=>cases r with | cons a r=>rw [List.length_cons,List.length_cons,ih r]
theorem VRs.get {vs:List V} {xs:List Value} (r:VRs fa h F vs xs) {k:Nat} {v:V} (e:vs[k]?=some v):∃ x,xs[k]?=some x∧VR fa h F v x:=by
 induction vs generalizing xs k with
 | nil=>exact noS e
 | cons u vs ih =>
  cases r with
  | cons a r =>
   cases k with
   | zero=>apply s1 e; exact ⟨_,rfl,a⟩
   | succ k=>exact ih r e
theorem VRs.append {vs ws:List V} {xs ys:List Value} (r:VRs fa h F vs xs) (q:VRs fa h F ws ys):VRs fa h F (vs++ws) (xs++ys):=by
 induction vs generalizing xs with
 | nil=>cases r; exact q
 | cons u vs ih=>cases r with | cons a r=>exact .cons a (ih r)
theorem VRs.one {v:V} {x:Value} (a:VR fa h F v x):VRs fa h F [v] [x]:=.cons a .nil
theorem VRs.set {vs:List V} {xs:List Value} (r:VRs fa h F vs xs) {k:Nat} {v:V} {x:Value} (a:VR fa h F v x):VRs fa h F (vs.set k v) (xs.set k x):=by
 induction vs generalizing xs k with
 | nil=>cases r; exact .nil
 | cons u vs ih =>
  cases r with
  | cons b r =>
   cases k with
   | zero=>exact .cons a r
   | succ k=>exact .cons b (ih r)
end
section
variable {fa:Nat→Addr} {h:Heap} {F:Lay} {x:Value}
theorem VR.none_is (r:VR fa h F .none x):x=.none:=by cases r; rfl
theorem VR.bool_is {b:Bool} (r:VR fa h F (.bool b) x):x=.bool b:=by cases r; rfl
theorem VR.int_is {i:Int} (r:VR fa h F (.int i) x):∃ t,x=.int i t:=by cases r with | int _ t=>exact ⟨t,rfl⟩
theorem VR.str_is {l:List Nat} (r:VR fa h F (.str l) x):∃ s t,x=.str s t∧s.cps.toList=l∧l.length≤maxLen:=by cases r with | str t e b=>exact ⟨_,t,rfl,e,b⟩
theorem VR.bytes_is {l:List Nat} (r:VR fa h F (.bytes l) x):∃ s t,x=.bytes s t∧s.toList.map UInt8.toNat=l∧l.length≤maxLen:=by cases r with | bytes t e b=>exact ⟨_,t,rfl,e,b⟩
theorem VR.ref_is {i:Nat} (r:VR fa h F (.ref i) x):∃ (a:Addr) (as:List Addr),x=.ref a∧Fat F i (a :: as):=by cases r with | ref e=>exact ⟨_,_,rfl,e⟩
theorem VR.tup_is {vs:List V} (r:VR fa h F (.tup vs) x):∃ (a:Addr) (items:Array Value) (n:Nat),x=.ref a∧h.get? a=some { cls:=.type "tuple",data:=.seq items n }∧VRs fa h F vs items.toList∧vs.length≤maxLen:=by cases r with | tup e r b=>exact ⟨_,_,_,rfl,e,r,b⟩
theorem VR.lst_is {vs:List V} (r:VR fa h F (.lst vs) x):∃ (a:Addr) (items:Array Value) (n:Nat),x=.ref a∧h.get? a=some { cls:=.type "list",data:=.seq items n }∧a∉F.flatten∧VRs fa h F vs items.toList∧vs.length≤maxLen:=by cases r with | lst e q r b=>exact ⟨_,_,_,rfl,e,q,r,b⟩
theorem VR.rng_is {a b c:Int} (r:VR fa h F (.rng a b c) x):∃ (q:Addr) (t u v:Tok),x=.ref q∧IsRange h q a b c t u v:=by cases r with | rng e=>exact ⟨_,_,_,_,rfl,e⟩
theorem VR.fn_is {f:Nat} (r:VR fa h F (.fn f) x):x=.ref (fa f):=by cases r; rfl
theorem VR.bi_is {b:Bi} (r:VR fa h F (.bi b) x):x=.builtin b.id:=by cases r; rfl
theorem VR.ty_is {t:Ty} (r:VR fa h F (.ty t) x):x=.type t.nm:=by cases r; rfl
theorem VRs.nil_is {xs:List Value} (r:VRs fa h F [] xs):xs=[]:=by cases r; rfl
theorem VRs.cons_is {v:V} {vs:List V} {xs:List Value} (r:VRs fa h F (v :: vs) xs):∃ x ys,xs=x :: ys∧VR fa h F v x∧VRs fa h F vs ys:=by cases r with | cons a r=>exact ⟨_,_,rfl,a,r⟩
end
noncomputable def CodeI (h:Heap) (c:Addr) (q:Str):Prop:=∃ o vs t,h.get? c=some o∧o.cls=.type "code"∧o.data=.fields vs∧vs[1]?=some (.str q t)
theorem CodeI.imk {F G:Lay} {h h':Heap} {c:Addr} {q:Str} (x:CodeI h c q) (k:Mv F G h h'):CodeI h' c q :=
 let ⟨o,vs,t,e,hc,hd,hv⟩:=x
 ⟨o,vs,t,k.im c o e ⟨.inr (.inr (.inl hc)),.inr ⟨_,hd⟩⟩ (fun l=>(lsNo hc (by decide) l).elim),hc,hd,hv⟩
theorem CodeI.rec {h:Heap} {c:Addr} {q:Str} (x:CodeI h c q):h.CodeRec (.ref c) q:=let ⟨o,vs,t,e,_,hd,hv⟩:=x; ⟨c,o,vs,t,rfl,e,hd,hv⟩
noncomputable def NsL (h:Heap) (a:Addr) (m:Str→Option Value) (k:Nat):Prop:=∃ d es n sl,h.get? a=some { cls:=.type "dict",dict:=d,data:=.dict es n,slots:=sl }∧StrKeys es∧es.size≤k∧∀ name,nsFind es name=m name
theorem NsL.ns {h:Heap} {a:Addr} {m:Str→Option Value} {k:Nat} (n:NsL h a m k):h.Ns a m:=let ⟨d,es,ep,sl,e,x,_,y⟩:=n; ⟨_,es,ep,e,rfl,x,y⟩
theorem NsL.at' {h h':Heap} {a:Addr} {m:Str→Option Value} {k:Nat} (n:NsL h a m k) (f:∀ o,h.get? a=some o→h'.get? a=some o):NsL h' a m k:=let ⟨d,es,ep,sl,e,r⟩:=n; ⟨d,es,ep,sl,f _ e,r⟩
noncomputable def instO (C dx:Addr):Obj:={ cls:=.ref C,dict:=some dx,data:=.plain }
noncomputable def wsS:Str:=⟨#[10,9,13,32]⟩
structure LexN (m:Str→Option Value) (line:Int) (st p:Addr):Prop where
 line:∃ t,m At.lineno.nm=some (.int line t)
 stream:m (Str.ofString "instream")=some (.ref st)
 white:∃ t,m At.whitespace.nm=some (.str wsS t)
 push:m At.pushback.nm=some (.ref p)
 no1:m Me.get_token.nm=none
 no2:m Me.push_token.nm=none
 no3:m Me.read_char.nm=none
structure LexH (B:Base) (h:Heap) (as:List Addr) (text:List Nat) (la:Addr) (line:Int) (p:Addr) (x dx st sd gv cT cA:Addr):Prop where
 as_:as=[x,dx,st,sd,gv,cT,cA]
 inst:h.get? x=some (instO B.lx.C dx)
 names:∃ m,NsL h dx m 4∧LexN m line st p
 stream:∃ fd sl,h.get? st=some { cls:=.type "function",dict:=some sd,data:=.func fd,slots:=sl }
 read:∃ m,NsL h sd m 1∧m (Str.ofString "read")=some (.ref gv)
 give:∃ cd ct,h.get? gv=some { cls:=.type "function",data:=.func (B.lx.gv [(Str.ofString "text",cT),(Str.ofString "at",cA)] (.ref cd) ct) }∧CodeI h cd B.lx.q2
 text:∃ X t,h.IsCell cT (some (.str X t))∧X.cps.toList=text
 at_:h.IsCell cA (some (.ref la))
noncomputable def citF (fin:Bool) (bm:Addr) (tk:Tok):Array Value:=if fin then #[.none,.none,.bool true] else #[.ref bm,.str ⟨#[]⟩ tk,.bool false]
noncomputable def OR (B:Base) (h:Heap) (F:Lay):O→List Addr→Prop
 | .list xs,as=>∃ a items,as=[a]∧h.PlainList a items∧VRs B.fa h F xs items.toList∧xs.length≤maxLen
 | .lex text i line j,as=>text.length≤maxLen∧∃ la p x dx st sd gv cT cA,Fat F i [la]∧Fat F j [p]∧LexH B h as text la line p x dx st sd gv cT cA
 | .cit l fin,as=>∃ it bm x xs tk,as=[it,bm]∧Fat F l (x :: xs)∧h.get? it=some { cls:=.type "callable_iterator",data:=.fields (citF fin bm tk) }∧h.get? bm=some { cls:=.type "method",data:=.fields #[.ref (B.fa B.lx.rd),.ref x] }
 | .scr k xs,as=>(∀ a∈as,∃ o,h.get? a=some o∧(Imm o→Ls o))∧xs.length≤maxLen∧∃ items,B.h0.PlainList (B.fa k) items∧VRs B.fa B.h0 [] (xs.map .int) items.toList
theorem no_data {o:Obj} (h1:∀ xs n,o.data≠.seq xs n) (h2:∀ vs,o.data≠.fields vs):¬ Imm o:=fun i=>i.2.elim (fun ⟨_,_,z⟩=>h1 _ _ z) fun ⟨_,z⟩=>h2 _ z
theorem no_dict {o:Obj} {es:Array DictEntry} {ep:Nat} (d:o.data=.dict es ep):¬ Imm o:=no_data (fun ζ ζ z=>by cases d.symm.trans z) fun ζ z=>by cases d.symm.trans z
theorem ns_no {h:Heap} {a:Addr} {m:Str→Option Value} (n:h.Ns a m):∃ o,h.get? a=some o∧¬ Imm o:=let ⟨o,_,_,e,d,_⟩:=n; ⟨o,e,no_dict d⟩
theorem cell_no {h:Heap} {a:Addr} {v:Option Value} (n:h.IsCell a v):∃ o,h.get? a=some o∧¬ Imm o:=let ⟨o,e,d⟩:=n; ⟨o,e,no_data (fun ζ ζ z=>by cases d.symm.trans z) fun ζ z=>by cases d.symm.trans z⟩
theorem no_cls {n:String} {o:Obj} (hc:o.cls=.type n) (h:["tuple","range","code","list"].contains n=false):¬ Imm o:=fun i=>by
 rcases i.1 with q | q | q | q <;> cases hc.symm.trans q <;> cases h
theorem no_ref {a:Addr} {o:Obj} (hc:o.cls=.ref a):¬ Imm o:=fun i=>by
 rcases i.1 with q | q | q | q <;> cases hc.symm.trans q
theorem LexH.live {B:Base} {h:Heap} {as:List Addr} {text:List Nat} {la p x dx st sd gv cT cA:Addr} {line:Int} (L:LexH B h as text la line p x dx st sd gv cT cA):∀ a∈as,∃ ob,h.get? a=some ob∧¬ Imm ob:=by
 rw [L.as_]
 simp only [List.forall_mem_cons,List.not_mem_nil,false_implies,implies_true,and_true]
 exact ⟨⟨_,L.inst,no_ref rfl⟩,let ⟨_,n,_⟩:=L.names; ns_no n.ns,let ⟨_,_,e⟩:=L.stream; ⟨_,e,no_cls rfl rfl⟩,let ⟨_,n,_⟩:=L.read; ns_no n.ns,let ⟨_,_,e,_⟩:=L.give; ⟨_,e,no_cls rfl rfl⟩,let ⟨_,_,e,_⟩:=L.text; cell_no e,cell_no L.at_⟩
theorem LexH.mono {B:Base} {F G:Lay} {h h':Heap} {as:List Addr} {text:List Nat} {la p x dx st sd gv cT cA:Addr} {line:Int} (L:LexH B h as text la line p x dx st sd gv cT cA) (ka:∀ a∈as,∀ ob,h.get? a=some ob→h'.get? a=some ob) (k:Mv F G h h'):LexH B h' as text la line p x dx st sd gv cT cA:=by
 rw [L.as_] at ka
 simp only [List.forall_mem_cons,List.not_mem_nil,false_implies,implies_true,and_true] at ka
 exact ⟨L.as_,ka.1 _ L.inst,let ⟨m,n,r⟩:=L.names; ⟨m,n.at' ka.2.1,r⟩,let ⟨fd,sl,e⟩:=L.stream; ⟨fd,sl,ka.2.2.1 _ e⟩,let ⟨m,n,r⟩:=L.read; ⟨m,n.at' ka.2.2.2.1,r⟩,
  let ⟨cd,ct,e,r⟩:=L.give; ⟨cd,ct,ka.2.2.2.2.1 _ e,r.imk k⟩,let ⟨X,t,⟨o,e,r⟩,q⟩:=L.text; ⟨X,t,⟨o,ka.2.2.2.2.2.1 _ e,r⟩,q⟩,let ⟨o,e,r⟩:=L.at_; ⟨o,ka.2.2.2.2.2.2 _ e,r⟩⟩
theorem OR.live {B:Base} {h:Heap} {F:Lay} {o:O} {as:List Addr} (r:OR B h F o as):∀ a∈as,∃ ob,h.get? a=some ob∧(Imm ob→Ls ob):=by
 cases o with
 | list xs =>
  refine x2_3 (r) fun a items hq_1 hw_2 ζ=>?_
  apply q1 hq_1
  refine x1_1 (hw_2) fun n e=>?_
  intro b hb
  cases List.mem_singleton.mp hb
  exact ⟨_,e,fun ζ=>rfl⟩
 | lex text i line j =>
  obtain ⟨_,la,p,x,dx,st,sd,gv,cT,cA,_,_,L⟩:=r
  exact fun a h=>let ⟨ob,e,n⟩:=L.live a h; ⟨ob,e,fun i=>(n i).elim⟩
 | cit l fin =>
  refine x5_4 (r) fun it bm x xs tk hq_3 e e1 e2=>?_
  apply q1 hq_3
  simp only [List.forall_mem_cons,List.not_mem_nil,false_implies,implies_true,and_true]
  exact ⟨⟨_,e1,fun i=>(no_cls rfl rfl i).elim⟩,_,e2,fun i=>(no_cls rfl rfl i).elim⟩
 | scr k xs=>exact r.1
theorem OR.mono {B:Base} {h h':Heap} {F G:Lay} {o:O} {as:List Addr} (r:OR B h F o as) (ka:∀ a∈as,∀ ob,h.get? a=some ob→h'.get? a=some ob) (m:Mv F G h h'):OR B h' G o as:=by
 cases o with
 | list xs =>
  refine x2_4 (r) fun a items hq_4 hw_5 q b=>?_
  subst hq_4
  refine x1_1 (hw_5) fun n e=>?_
  exact ⟨a,items,rfl,⟨n,ka a (.head _) _ e⟩,q.step m,b⟩
 | lex text i line j =>
  obtain ⟨b,la,p,x,dx,st,sd,gv,cT,cA,e1,e2,L⟩:=r
  exact ⟨b,la,p,x,dx,st,sd,gv,cT,cA,m.kf _ _ e1,m.kf _ _ e2,L.mono ka m⟩
 | cit l fin =>
  refine x5_4 (r) fun it bm x xs tk hq_6 e e1 e2=>?_
  subst hq_6
  exact ⟨it,bm,x,xs,tk,rfl,m.kf _ _ e,ka _ (.head _) _ e1,ka _ (.tail _ (.head _)) _ e2⟩
 | scr k xs=>exact ⟨fun a ha=>let ⟨ob,e,i⟩:=r.1 a ha; ⟨ob,ka a ha _ e,i⟩,r.2⟩
noncomputable def TabOK (B:Base) (h:Heap):Prop:=h.get? B.tab=some { cls:=.none,data:=.fields #[] } ∨
 ∃ c1 c2,h.get? B.tab=some { cls:=.none,data:=.fields #[rawInt B.lx.p1.line,rawInt B.lx.p1.col,.ref c1,rawInt B.lx.p2.line,rawInt B.lx.p2.col,.ref c2] }∧CodeI h c1 B.lx.q1∧CodeI h c2 B.lx.q2
theorem TabOK.keep {B:Base} {h h':Heap} (t:TabOK B h) (k:∀ o,h.get? B.tab=some o→h'.get? B.tab=some o) {F G:Lay} (im:Mv F G h h'):TabOK B h':=by
 rcases t with t | ⟨c1,c2,t,q1,q2⟩
 ·exact .inl (k _ t)
 ·exact .inr ⟨c1,c2,k _ t,q1.imk im,q2.imk im⟩
structure Inv (B:Base) (F:Lay) (σ:Sto) (s:Shared):Prop where
 old:OldK B.h0 s.heap
 lim:s.heap.NoLimit
 gens:s.gens=#[]
 os:s.os=B.os
 len:F.length=σ.length
 obj:∀ (i:Nat) (o:O) (as:List Addr),σ[i]?=some o→F[i]?=some as→OR B s.heap F o as
 nodup:F.flatten.Nodup
 fresh:∀ a∈F.flatten,B.h0.get? a=none
 tabs:TabOK B s.heap
 tabo:∃ ps,B.h0.get? B.tab=some { cls:=.none,data:=.fields ps }
 tabc:B.tab≠cStatics
 low:∃ o,B.h0.get? cStatics=some o
 zero:∃ k xs,σ[0]?=some (.scr k xs)
theorem flat_mem {F:Lay} {i:Nat} {as:List Addr} {a:Addr} (e:F[i]?=some as) (h:a∈as):a∈F.flatten:=List.mem_flatten.mpr ⟨as,List.mem_of_getElem? e,h⟩
theorem flat_at {F:Lay} {a:Addr} (h:a∈F.flatten):∃ (i:Nat) (as:List Addr),F[i]?=some as∧a∈as:=by
 refine x1_2 (List.mem_flatten.mp h) fun as m q=>?_
 refine x1_1 (List.getElem?_of_mem m) fun i e=>?_
 exact ⟨i,as,e,q⟩
noncomputable def Wm (F:Lay) (b:Addr):Prop:=∃ i as,Fat F i as∧b∈as
theorem Wm.mem {F:Lay} {b:Addr} (w:Wm F b):b∈F.flatten:=let ⟨_,_,e,h⟩:=w; flat_mem e.2 h
theorem Wm.app {F G:Lay} {b:Addr} (w:Wm (F++G) b):Wm F b∨b∈G.flatten:=by
 refine x2_2 (w) fun i as e h=>?_
 rcases Nat.lt_or_ge i F.length with l | l
 ·exact .inl ⟨i,as,⟨e.1,(List.getElem?_append_left l).symm.trans e.2⟩,h⟩
 ·exact .inr (flat_mem ((List.getElem?_append_right l).symm.trans e.2) h)
noncomputable def Wr (B:Base) (F:Lay) (b:Addr):Prop:=Wm F b∨b=B.tab
structure Step (B:Base) (F:Lay) (s:Shared) (G:Lay) (s':Shared):Prop where
 kept:Kept (Wr B F) s.heap s'.heap
 fresh:∀ a∈G.flatten,s.heap.get? a=none
theorem oldK_keep {h₀ h h':Heap} (K:OldK h₀ h) (k:∀ b o,h₀.get? b=some o→∀ o',h.get? b=some o'→h'.get? b=some o'):OldK h₀ h':=by
 refine ⟨fun b o e=>?_,fun b o e=>let ⟨o',q⟩:=K.there b o e; ⟨o',k b o e o' q⟩⟩
 rcases K.old b o e with x | ⟨t,c,vs,more,d,x⟩ | ⟨rfl,c,⟨o',es,n,x,r⟩,z⟩
 ·exact .inl (k b o e _ x)
 ·exact .inr (.inl ⟨t,c,vs,more,d,k b o e _ x⟩)
 ·refine .inr (.inr ⟨rfl,c,⟨o',es,n,k _ o e _ x,r⟩,fun key=>?_⟩)
  rw [OldK.staticOf_congr ((k _ o e _ x).trans x.symm) key]
  exact z key
section
variable {B:Base} {F G:Lay} {σ:Sto} {s s':Shared}
theorem Inv.at (I:Inv B F σ s) {i:Nat} {o:O} (e:σ[i]?=some o):∃ as,F[i]?=some as∧OR B s.heap F o as :=
 let ⟨l,_⟩:=List.getElem?_eq_some_iff.mp e
 have ef:F[i]?=some (F[i]'(I.len▸l)):=List.getElem?_eq_getElem (I.len▸l)
 ⟨_,ef,I.obj i o _ e ef⟩
theorem Inv.live (I:Inv B F σ s) {a:Addr} (h:a∈F.flatten):∃ ob,s.heap.get? a=some ob∧(Imm ob→Ls ob):=by
 refine x2_2 (flat_at h) fun i as e q=>?_
 obtain ⟨l,_⟩:=List.getElem?_eq_some_iff.mp e
 obtain ⟨o,eo⟩:∃ o,σ[i]?=some o:=⟨_,List.getElem?_eq_getElem (I.len▸l)⟩
 exact (I.obj i o as eo e).live a q
theorem Inv.mut (I:Inv B F σ s) {a:Addr} (h:a∈F.flatten):∀ o,s.heap.get? a=some o→Mut F a o:=fun o e i=>by
 refine x1_2 (I.live h) fun ob q z=>?_
 rw [e] at q; cases q; exact ⟨z i,h⟩
noncomputable def O.isScr:O→Bool
 | .scr ..=>true
 | _=>false
theorem Inv.pos (I:Inv B F σ s) {i:Nat} {o:O} (e:σ[i]?=some o) (h:o.isScr=false):0 < i:=by
 cases i with
 | zero=>refine x2_1 (I.zero) fun k xs z=>?_; rw [z] at e; cases e; cases h
 | succ i=>exact Nat.succ_pos i
theorem Inv.at1 (I:Inv B F σ s) {i:Nat} {o:O} (e:σ[i]?=some o) (h:o.isScr=false):∃ as,Fat F i as∧OR B s.heap F o as:=let ⟨as,q,r⟩:=I.at e; ⟨as,⟨I.pos e h,q⟩,r⟩
theorem Inv.size (I:Inv B F σ s):0 < σ.length:=let ⟨_,_,z⟩:=I.zero; (List.getElem?_eq_some_iff.mp z).1
theorem Inv.tabLive (I:Inv B F σ s):∃ ob,s.heap.get? B.tab=some ob∧¬ Imm ob:=by
 have no:∀ vs,¬ Imm { cls:=.none,data:=.fields vs }:=fun vs i=>by rcases i.1 with q | q | q | q <;> cases q
 refine x1_1 (I.tabo) fun ps e=>?_
 rcases I.old.old _ _ e with x | ⟨_,c,vs,more,_,x⟩ | ⟨q,_⟩
 ·exact ⟨_,x,no _⟩
 ·exact ⟨_,x,fun i=>by rcases i.1 with q | q | q | q <;> cases q⟩
 ·exact absurd q I.tabc
theorem Inv.wr (I:Inv B F σ s):∀ b o,Wr B F b→s.heap.get? b=some o→Mut F b o:=by
 intro b o w e
 rcases w with w | rfl
 ·exact I.mut w.mem o e
 ·refine x1_2 (I.tabLive) fun ob q n=>?_
  rw [e] at q; cases q; exact .of n
theorem Step.imk (I:Inv B F σ s) (T:Step B F s G s'):Mv F (F++G) s.heap s'.heap:=(Mv.of_kept T.kept I.wr).add T.fresh
theorem Step.refl (B:Base) (F:Lay) (s:Shared):Step B F s [] s:=⟨.refl _ _,fun ζ h=>by simp at h⟩
theorem Step.trans {G':Lay} {σ'':Sto} {s'':Shared} (x:Step B F s G s') (y:Step B (F++G) s' G' s'') (I:Inv B (F++G++G') σ'' s''):Step B F s (G++G') s'':=by
 refine ⟨fun b o e n=>y.kept b o (x.kept b o e n) ?_,fun a ha=>?_⟩
 ·rintro (q | q)
  ·rcases q.app with q | q
   ·exact n (.inl q)
   ·rw [x.fresh b q] at e; exact noS e
  ·exact n (.inr q)
 ·rw [List.flatten_append,List.mem_append] at ha
  rcases ha with ha | ha
  ·exact x.fresh a ha
  ·cases e:s.heap.get? a with
   | none=>rfl
   | some o =>
    exfalso
    have d:=y.fresh a ha
    have nw:¬ Wr B F a:=by
     rintro (q | rfl)
     ·have nd:=I.nodup
      rw [List.flatten_append,List.flatten_append,List.nodup_append] at nd
      exact nd.2.2 a (List.mem_append.mpr (.inl q.mem)) a ha rfl
     ·refine x1_1 (I.tabo) fun ps t=>?_
      have:=I.fresh B.tab (by rw [List.flatten_append]; exact List.mem_append.mpr (.inr ha))
      rw [t] at this; cases this
    rw [x.kept a o e nw] at d; cases d
theorem Inv.rest (I:Inv B F σ s) {W:Addr→Prop} {h':Heap} (k:Kept W s.heap h') (n:∀ b,W b→B.h0.get? b=none) (m:Mv F F s.heap h'):OldK B.h0 h'∧h'.NoLimit∧TabOK B h':=by
 have k0:∀ b o o',B.h0.get? b=some o→s.heap.get? b=some o'→h'.get? b=some o':=fun b o o' e e'=>k b o' e' fun w=>by rw [n b w] at e; exact noS e
 refine ⟨oldK_keep I.old fun b o e o' e'=>k0 b o o' e e',?_,I.tabs.keep (fun o e=>let ⟨ps,t⟩:=I.tabo; k0 _ _ o t e) m⟩
 refine x1_2 (I.lim) fun mc hw_7 q=>?_
 refine x3_2 (hw_7) fun o es ep eo r=>?_
 refine x1_1 (I.low) fun ol el=>?_
 exact ⟨mc,⟨o,es,ep,k0 _ _ o el eo,r⟩,q⟩
theorem Inv.keep (I:Inv B F σ s) {W:Addr→Prop} {h':Heap} {tk:Nat} (k:Kept W s.heap h') (n:∀ b o,W b→s.heap.get? b=some o→B.h0.get? b=none∧b∉F.flatten∧¬ Imm o):Inv B F σ { s with heap:=h',toks:=tk }:=by
 have k:Kept (fun b=>W b∧∃ o,s.heap.get? b=some o) s.heap h':=fun b o e z=>k b o e fun w=>z ⟨w,o,e⟩
 have m:Mv F F s.heap h':=.of_kept k fun b o w e=>.of (n b o w.1 e).2.2
 refine x0_3 (I.rest k (fun b ⟨w,o,e⟩=>(n b o w e).1) m) fun q1 q2 q3=>?_
 exact ⟨q1,q2,I.gens,I.os,I.len,fun i o as eo e=>(I.obj i o as eo e).mono (fun a ha ob q=>k a ob q fun ⟨w,_,z⟩=>(n a _ w z).2.1 (flat_mem e ha)) m,I.nodup,I.fresh,q3,I.tabo,I.tabc,I.low,I.zero⟩
theorem Inv.toks (I:Inv B F σ s) (tk:Nat):Inv B F σ { s with toks:=tk }:=I.keep (W:=fun ζ=>False) (h':=s.heap) (.refl _ _) fun ζ ζ w=>w.elim
theorem Inv.push (I:Inv B F σ s) (o:Obj) (tk:Nat):Inv B F σ { s with heap:=s.heap.push o,toks:=tk }:=I.keep (W:=fun ζ=>False) (.push _ _ _) fun ζ ζ w=>w.elim
theorem Inv.all (I:Inv B F σ s) {h':Heap} (k:∀ b o,s.heap.get? b=some o→h'.get? b=some o) (tk:Nat):Inv B F σ { s with heap:=h',toks:=tk }:=I.keep (W:=fun ζ=>False) (.all k) fun ζ ζ w=>w.elim
theorem Inv.dead (I:Inv B F σ s) {a:Addr} (e:s.heap.get? a=none):B.h0.get? a=none∧a∉F.flatten:=by
 refine ⟨?_,fun h=>by refine x1_2 (I.live h) fun ob q ζ=>?_; rw [e] at q; cases q⟩
 cases q:B.h0.get? a with
 | none=>rfl
 | some o=>refine x1_1 (I.old.there a o q) fun o' z=>?_; rw [e] at z; exact noS z
theorem dead_size (h:Heap):h.get? h.objs.size=none:=by
 cases e:h.get? h.objs.size with
 | none=>rfl
 | some o=>exact absurd (Heap.lt_size e) (Nat.lt_irrefl _)
theorem Step.toks (T:Step B F s G s') (tk:Nat):Step B F s G { s' with toks:=tk }:=⟨T.kept,T.fresh⟩
theorem Step.of_kept {h':Heap} {tk:Nat} (k:Kept (Wr B F) s.heap h'):Step B F s [] { s with heap:=h',toks:=tk }:=⟨k,fun ζ h=>by simp at h⟩
theorem flat_one {F:Lay} {b:Addr}:∀ {i j:Nat} {as as':List Addr},F.flatten.Nodup→F[i]?=some as→F[j]?=some as'→b∈as→b∈as'→i=j:=by
 induction F with
 | nil=>intro i j as as' _ e; exact noS e
 | cons x F ih =>
  intro i j as as' nd ei ej hb hb'
  rw [List.flatten_cons,List.nodup_append] at nd
  cases i with
  | zero =>
   cases ei
   cases j with
   | zero=>rfl
   | succ j=>exact (nd.2.2 b hb b (flat_mem (F:=F) (i:=j) ej hb') rfl).elim
  | succ i =>
   cases j with
   | zero=>cases ej; exact (nd.2.2 b hb' b (flat_mem (F:=F) (i:=i) ei hb) rfl).elim
   | succ j=>rw [ih nd.2.1 ei ej hb hb']
theorem cat_get {α:Type} {l:List α} {x y:α} {i:Nat} (e:(l++[x])[i]?=some y):l[i]?=some y∨i=l.length∧y=x:=by
 rcases Nat.lt_or_ge i l.length with h | h
 ·rw [List.getElem?_append_left h] at e; exact .inl e
 ·rw [List.getElem?_append_right h] at e
  obtain ⟨k,hk⟩:∃ k,i - l.length=k:=⟨_,rfl⟩
  rw [hk] at e
  cases k with
  | zero=>apply s1 e; exact .inr ⟨Nat.le_antisymm (Nat.sub_eq_zero_iff_le.mp hk) h,rfl⟩
  | succ k=>exact noS e
theorem set_get {α:Type} {l:List α} {x y:α} {i j:Nat} (e:(l.set i x)[j]?=some y):(i=j∧y=x)∨(i≠j∧l[j]?=some y):=by
 by_cases h:i=j
 ·subst h
  rw [List.getElem?_set_self (by simpa using (List.getElem?_eq_some_iff.mp e).1)] at e
  apply s1 e; exact .inl ⟨rfl,rfl⟩
 ·rw [List.getElem?_set_ne h] at e; exact .inr ⟨h,e⟩
theorem Inv.updO {o':O} {as:List Addr} {i:Nat} {h':Heap} {tk:Nat} (I:Inv B F σ s) (ef:Fat F i as) (k:Kept (·∈as) s.heap h') (hor:Mv F F s.heap h'→OR B h' F o' as) :
  Inv B F (σ.set i o') { s with heap:=h',toks:=tk }:=by
 have m:Mv F F s.heap h':=.of_kept k fun b ob w e=>I.mut (flat_mem ef.2 w) ob e
 refine x0_3 (I.rest k (fun b w=>I.fresh b (flat_mem ef.2 w)) m) fun q1 q2 q3=>?_
 refine ⟨q1,q2,I.gens,I.os,by rw [List.length_set]; exact I.len,fun j oj asj ejo ej=>?_,I.nodup,I.fresh,q3,I.tabo,I.tabc,I.low,?_⟩
 ·rcases set_get ejo with ⟨rfl,rfl⟩ | ⟨n,q⟩
  ·cases ef.2.symm.trans ej; exact hor m
  ·exact (I.obj j oj asj q ej).mono (fun b hb ob e=>k b ob e fun w=>n (flat_one I.nodup ef.2 ej w hb)) m
 ·rw [List.getElem?_set_ne (Nat.ne_of_gt ef.1)]; exact I.zero
theorem Inv.grow {o:O} {as:List Addr} (I:Inv B F σ s) (hobj:∀ (i:Nat) (o':O) (as':List Addr),σ[i]?=some o'→F[i]?=some as'→OR B s.heap (F++[as]) o' as') (hor:OR B s.heap (F++[as]) o as) (nd:as.Nodup) (hf:∀ a∈as,a∉F.flatten) (hb:∀ a∈as,B.h0.get? a=none):Inv B (F++[as]) (σ++[o]) s:=by
 have fl:(F++[as]).flatten=F.flatten++as:=by simp
 refine ⟨I.old,I.lim,I.gens,I.os,by rw [List.length_append,List.length_append,I.len]; rfl,fun i o' as' eo e=>?_,?_,fun b q=>?_,I.tabs,I.tabo,I.tabc,I.low,?_⟩
 ·rcases cat_get eo with eo | ⟨rfl,rfl⟩
  ·rcases cat_get e with e | ⟨rfl,_⟩
   ·exact hobj i o' as' eo e
   ·rw [I.len] at eo; exact absurd (List.getElem?_eq_some_iff.mp eo).1 (Nat.lt_irrefl _)
  ·rw [← I.len,List.getElem?_concat_length] at e
   apply s1 e; exact hor
 ·rw [fl,List.nodup_append]
  exact ⟨I.nodup,nd,fun b hb' c hc e=>hf c hc (e▸hb')⟩
 ·rw [fl,List.mem_append] at q
  exact q.elim (I.fresh b) (hb b)
 ·rw [List.getElem?_append_left I.size]; exact I.zero
theorem Inv.newO {o:O} {as:List Addr} {s₁:Shared} (I:Inv B F σ s) (I₁:Inv B F σ s₁) (m:Mv F F s.heap s₁.heap) (ka:∀ a∈F.flatten,∀ ob,s.heap.get? a=some ob→s₁.heap.get? a=some ob) (d:∀ a∈as,s.heap.get? a=none) (nd:as.Nodup)
  (hor:Mv F (F++[as]) s.heap s₁.heap→OR B s₁.heap (F++[as]) o as):Inv B (F++[as]) (σ++[o]) s₁ :=
 have m':Mv F (F++[as]) s.heap s₁.heap:=m.add fun a h=>d a (by simpa using h)
 I₁.grow (fun i o' as' eo e=>(I.obj i o' as' eo e).mono (fun a h=>ka a (flat_mem e h)) m') (hor m') nd (fun a h=>(I.dead (d a h)).2) fun a h=>(I.dead (d a h)).1
theorem Inv.alloc {xs:List V} {items:Array Value} {n:Nat} {tk:Nat} (I:Inv B F σ s) (hv:VRs B.fa s.heap F xs items.toList) (hz:xs.length≤maxLen) :
  Inv B (F++[[s.heap.objs.size]]) (σ++[.list xs]) { s with heap:=s.heap.push { cls:=.type "list",data:=.seq items n },toks:=tk } :=
 I.newO (I.push _ tk) (.push _ _ _) (fun ζ ζ ζ e=>Heap.get?_push_of_some _ e) (fun a h=>by cases List.mem_singleton.mp h; exact dead_size _) (by simp) fun m=>⟨_,items,rfl,⟨n,Heap.get?_push_size _ rfl⟩,hv.step m,hz⟩
theorem Step.of_updO {as:List Addr} {i:Nat} {h':Heap} {tk:Nat} (ef:Fat F i as) (k:Kept (·∈as) s.heap h'):Step B F s [] { s with heap:=h',toks:=tk }:=.of_kept (k.mono fun b w=>.inl ⟨_,_,ef,w⟩)
set_option tactic.hygienic true in
theorem vlist_is {i:Nat} {xs:List V} (e:vlist σ i=some xs):σ[i]?=some (.list xs):=by
 unfold vlist at e
 split at e
 ·rename_i ys q; apply s1 e; exact q
 ·exact noS e
theorem Inv.listAt (I:Inv B F σ s) {i:Nat} {xs:List V} (e:vlist σ i=some xs):∃ a items,Fat F i [a]∧s.heap.PlainList a items∧VRs B.fa s.heap F xs items.toList∧xs.length≤maxLen:=by
 obtain ⟨_,ef,a,items,hq_8,hl,hv,hz⟩:=I.at1 (vlist_is e) rfl
 subst hq_8
 exact ⟨a,items,ef,hl,hv,hz⟩
theorem Inv.upd {ys:List V} {its':Array Value} {a:Addr} {i:Nat} {h':Heap} {tk:Nat} (I:Inv B F σ s) (ef:Fat F i [a]) (hs:Heap.SameBut a s.heap h') (hl:h'.PlainList a its') (hv:VRs B.fa s.heap F ys its'.toList) (hz:ys.length≤maxLen) :
  Inv B F (σ.set i (.list ys)) { s with heap:=h',toks:=tk }:=I.updO ef ((Kept.of_same hs).mono fun ζ w=>List.mem_singleton.mpr w) fun m=>⟨a,its',rfl,hl,hv.step m,hz⟩
theorem Step.of_upd {a:Addr} {i:Nat} {h':Heap} {tk:Nat} (ef:Fat F i [a]) (hs:Heap.SameBut a s.heap h'):Step B F s [] { s with heap:=h',toks:=tk }:=.of_updO ef ((Kept.of_same hs).mono fun ζ w=>List.mem_singleton.mpr w)
theorem VRs.ints {fa:Nat→Addr} {h h':Heap} {F G:Lay}:∀ {xs:List Int} {ys:List Value},VRs fa h F (xs.map .int) ys→VRs fa h' G (xs.map .int) ys
 | [],_,r=>by cases r; exact .nil
 | x :: xs,_,r=>by
  cases r with
  | cons a r=>cases a; exact .cons (.int _ _) (VRs.ints r)
theorem Inv.scrAt (I:Inv B F σ s) {k:Nat} {ls:List V} (e:scrOf σ k=some ls):∃ items,s.heap.PlainList (B.fa k) items∧VRs B.fa s.heap F ls items.toList∧ls.length≤maxLen:=by
 refine x2_1 (I.zero) fun k' xs q=>?_
 rw [scrOf,q] at e
 dsimp only at e
 by_cases hk:k'=k
 ·rw [if_pos hk] at e
  subst hk
  cases e
  obtain ⟨_,_,_,hb,items,hw_9,hv⟩:=I.at q
  refine x1_1 (hw_9) fun n hl=>?_
  exact ⟨items,⟨n,I.old.get_of_cls hl (by simp)⟩,hv.ints,by rw [List.length_map]; exact hb⟩
 ·rw [if_neg hk] at e; exact noS e
theorem VR.refAt {i:Nat} {a:Addr} {as:List Addr} {x:Value} {h:Heap} (r:VR B.fa h F (.ref i) x) (e:Fat F i (a :: as)):x=.ref a:=by
 refine x2_2 (r.ref_is) fun ζ ζ hq_10 q=>?_
 apply q1 hq_10
 cases q.2.symm.trans e.2; rfl
end
end Mine
namespace Mine
open PySem
noncomputable abbrev Bot:Value→Shared→Prop:=fun ζ ζ=>False
noncomputable def EvT {α:Type} (B:Base) (A:Around) (F:Lay) (s:Shared) (t:Sem α) (P:α→Lay→Shared→Prop):Prop :=
 wpAny (model B.prog B.w) A t (fun a s'=>∃ G,Step B F s G s'∧P a (F++G) s') Bot s
noncomputable def PE (B:Base) (σ:Sto) (v:V) (x:Value) (F:Lay) (s:Shared):Prop:=Inv B F σ s∧VR B.fa s.heap F v x
noncomputable def PB (B:Base) (σ:Sto) (v:Bool) (x:Bool) (F:Lay) (s:Shared):Prop:=Inv B F σ s∧x=v
noncomputable def PU (B:Base) (σ:Sto) (_:Unit) (F:Lay) (s:Shared):Prop:=Inv B F σ s
structure Room (A:Around) (d:Nat):Prop where
 handled:A.handled=none
 depth:A.depth+d≤800
 units:A.units+10*d+100≤9900
structure Near (A A':Around):Prop where
 handled:A.handled=none→A'.handled=none
 depth:A'.depth≤A.depth
 units:A'.units≤A.units+7
theorem Near.refl (A:Around):Near A A:=⟨id,Nat.le_refl _,Nat.le_add_right _ _⟩
section
variable {α:Type} {B:Base} {A:Around} {F G:Lay} {σ:Sto} {s s':Shared} {t:Sem α} {P:α→Lay→Shared→Prop}
theorem EvT.seq {Q:α→Shared→Prop} (h:EvT B A F s t P) (k:∀ a G s',Step B F s G s'→P a (F++G) s'→Q a s'):wpAny (model B.prog B.w) A t Q Bot s :=
 wpAny_mono h (fun a s' ⟨G,T,p⟩=>k a G s' T p) fun ζ ζ x=>x
theorem evEnd {v:V} {x:Value} {h':Heap} {tk:Nat} (k:Kept (Wr B F) s.heap h') (I:Inv B F σ { s with heap:=h',toks:=tk }) (r:VR B.fa h' F v x):∃ G,Step B F s G { s with heap:=h',toks:=tk }∧PE B σ v x (F++G) { s with heap:=h',toks:=tk } :=
 ⟨[],.of_kept k,by rw [List.append_nil]; exact ⟨I,r⟩⟩
theorem evTok {v:V} {x:Value} (tk:Nat) (I:Inv B F σ s) (r:VR B.fa s.heap F v x):∃ G,Step B F s G { s with toks:=tk }∧PE B σ v x (F++G) { s with toks:=tk } :=
 evEnd (h':=s.heap) (.refl _ _) (I.toks tk) r
theorem evTokB {b:Bool} (tk:Nat) (I:Inv B F σ s):∃ G,Step B F s G { s with toks:=tk }∧PB B σ b b (F++G) { s with toks:=tk } :=
 ⟨[],.of_kept (h':=s.heap) (.refl _ _),by rw [List.append_nil]; exact ⟨I.toks tk,rfl⟩⟩
theorem evList {xs:List V} {items:Array Value} {n:Nat} {tk:Nat} (I:Inv B F σ s) (hv:VRs B.fa s.heap F xs items.toList) (hz:xs.length≤maxLen) :
  ∃ G,Step B F s G { s with heap:=s.heap.push { cls:=.type "list",data:=.seq items n },toks:=tk }∧PE B σ (.lst xs) (.ref s.heap.objs.size) (F++G) { s with heap:=s.heap.push { cls:=.type "list",data:=.seq items n },toks:=tk } :=
 evEnd (.push _ _ _) (I.push _ tk) (.lst (n:=n) (Heap.get?_push_size _ rfl) (I.dead (dead_size _)).2 (hv.step (.push _ _ _)) hz)
theorem evCell {xs:List V} {items:Array Value} {n:Nat} {tk:Nat} (I:Inv B F σ s) (hv:VRs B.fa s.heap F xs items.toList) (hz:xs.length≤maxLen) :
  ∃ G,Step B F s G { s with heap:=s.heap.push { cls:=.type "list",data:=.seq items n },toks:=tk }∧PE B (σ++[.list xs]) (.ref σ.length) (.ref s.heap.objs.size) (F++G) { s with heap:=s.heap.push { cls:=.type "list",data:=.seq items n },toks:=tk } :=
 ⟨[[s.heap.objs.size]],⟨.push _ _ _,fun a ha=>by simp at ha; rw [ha]; exact dead_size _⟩,I.alloc hv hz,.ref (as:=[]) ⟨I.size,by rw [← I.len,List.getElem?_concat_length]⟩⟩
theorem evNew (cell:Bool) {xs:List V} {items:Array Value} {n:Nat} {tk:Nat} (I:Inv B F σ s) (hv:VRs B.fa s.heap F xs items.toList) (hz:xs.length≤maxLen) :
  ∃ G,Step B F s G { s with heap:=s.heap.push { cls:=.type "list",data:=.seq items n },toks:=tk }∧PE B (newL cell xs σ).2 (newL cell xs σ).1 (.ref s.heap.objs.size) (F++G) { s with heap:=s.heap.push { cls:=.type "list",data:=.seq items n },toks:=tk }:=by
 cases cell with
 | true=>exact evCell I hv hz
 | false=>exact evList I hv hz
theorem evPush {v:V} {x:Value} {o:Obj} {tk:Nat} (I:Inv B F σ s) (r:VR B.fa (s.heap.push o) F v x):∃ G,Step B F s G { s with heap:=s.heap.push o,toks:=tk }∧PE B σ v x (F++G) { s with heap:=s.heap.push o,toks:=tk } :=
 evEnd (.push _ _ _) (I.push o tk) r
end
theorem str_len {x:Str} {l:List Nat} (e:x.cps.toList=l):x.length=l.length:=by rw [← e]; exact (Array.length_toList).symm
theorem str_app (x y:Str):(x++y).cps.toList=x.cps.toList++y.cps.toList:=by
 show (x.cps++y.cps).toList=_
 simp
theorem small_lt {x:Int} (h:small x=true):x.natAbs < 2 ^ 64:=by
 have:=of_decide_eq_true h; omega
theorem small_bits {x:Int} (h:small x=true):Builtin.Int.intBits x≤64:=by
 have:=small_lt h
 exact intBits_le_64 (by omega) (by omega)
theorem len_line {n:Nat} (h:n≤maxLen):n≤sizeLine:=Nat.le_trans h (by decide)
section
variable {B:Base} {A:Around} {F:Lay} {σ σ':Sto} {s:Shared} {d:Nat} {a b v:V} {x y:Value}
theorem intV_is {i:Int} (h:intV a=some i):a=.int i:=by
 cases a <;> first | (cases h; rfl) | exact noS h
theorem strV_is {l:List Nat} (h:strV a=some l):a=.str l:=by
 cases a <;> first | (cases h; rfl) | exact noS h
theorem refV_is {i:Nat} (h:refV a=some i):a=.ref i:=by
 cases a <;> first | (cases h; rfl) | exact noS h
theorem tupV_is {l:List V} (h:tupV a=some l):a=.tup l:=by
 cases a <;> first | (cases h; rfl) | exact noS h
theorem bytesV_is {l:List Nat} (h:bytesV a=some l):a=.bytes l:=by
 cases a <;> first | (cases h; rfl) | exact noS h
theorem boolV_is {l:Bool} (h:boolV a=some l):a=.bool l:=by
 cases a <;> first | (cases h; rfl) | exact noS h
theorem fnV_is {l:Nat} (h:fnV a=some l):a=.fn l:=by
 cases a <;> first | (cases h; rfl) | exact noS h
theorem tyV_is {l:Ty} (h:tyV a=some l):a=.ty l:=by
 cases a <;> first | (cases h; rfl) | exact noS h
theorem isNone_is (h:isNone a=true):a=.none:=by
 cases a <;> first | rfl | exact noT h
section
variable {fa:Nat→Addr} {h:Heap}
theorem VR.ofInt {i:Int} (r:VR fa h F a x) (e:intV a=some i):∃ t,x=.int i t:=by have r:=intV_is e▸r; exact r.int_is
theorem VR.ofStr {l:List Nat} (r:VR fa h F a x) (e:strV a=some l):∃ s t,x=.str s t∧s.cps.toList=l∧l.length≤maxLen:=by have r:=strV_is e▸r; exact r.str_is
theorem VR.ofBytes {l:List Nat} (r:VR fa h F a x) (e:bytesV a=some l):∃ s t,x=.bytes s t∧s.toList.map UInt8.toNat=l∧l.length≤maxLen:=by have r:=bytesV_is e▸r; exact r.bytes_is
theorem VR.ofTup {vs:List V} (r:VR fa h F a x) (e:tupV a=some vs):∃ (a:Addr) (items:Array Value) (n:Nat),x=.ref a∧h.get? a=some { cls:=.type "tuple",data:=.seq items n }∧VRs fa h F vs items.toList∧vs.length≤maxLen:=by have r:=tupV_is e▸r; exact r.tup_is
theorem VR.asTup {vs:List V} (r:VR fa h F a x) (e:tupV a=some vs):VR fa h F (.tup vs) x:=tupV_is e▸r
theorem VR.asRef {i:Nat} (r:VR fa h F a x) (e:refV a=some i):VR fa h F (.ref i) x:=refV_is e▸r
theorem VR.ofBool {c:Bool} (r:VR fa h F a x) (e:boolV a=some c):x=.bool c:=by have r:=boolV_is e▸r; exact r.bool_is
theorem VR.ofFn {f:Nat} (r:VR fa h F a x) (e:fnV a=some f):x=.ref (fa f):=by have r:=fnV_is e▸r; exact r.fn_is
theorem VR.ofTy {t:Ty} (r:VR fa h F a x) (e:tyV a=some t):x=.type t.nm:=by have r:=tyV_is e▸r; exact r.ty_is
theorem VR.ofNone (r:VR fa h F a x) (e:isNone a=true):x=.none:=by have r:=isNone_is e▸r; exact r.none_is
theorem VR.asLst {vs:List V} (r:VR fa h F (.lst vs) x):∃ (a:Addr) (items:Array Value),x=.ref a∧h.PlainList a items∧VRs fa h F vs items.toList∧vs.length≤maxLen :=
 let ⟨a,items,n,q,e,_,r,b⟩:=r.lst_is; ⟨a,items,q,⟨n,e⟩,r,b⟩
theorem VR.asList {xs:List V} (r:VR B.fa s.heap F a x) (I:Inv B F σ s) (e:lsV σ a=some xs):∃ (a:Addr) (items:Array Value),x=.ref a∧s.heap.PlainList a items∧VRs B.fa s.heap F xs items.toList∧xs.length≤maxLen:=by
 cases a with
 | ref i =>
  refine x2_4 (I.listAt (show vlist σ i=some xs from e)) fun a items q hl hv hz=>?_
  exact ⟨a,items,r.refAt q,hl,hv,hz⟩
 | lst ys=>apply s1 e; exact r.asLst
 | _=>exact noS e
end
theorem isAdd_is {op:Operator} (h:isAdd op=true):op=.Add:=by
 cases op <;> first | rfl | exact noT h
theorem isMult_is {op:Operator} (h:isMult op=true):op=.Mult:=by
 cases op <;> first | rfl | exact noT h
theorem one_is {α:Type} {as:List V} {f:V→Option α} {r:α} (h:arg1 as f=some r):∃ v,as=[v]∧f v=some r:=by
 cases as with
 | nil=>exact noS h
 | cons v as =>
  have h:(if as.isEmpty then f v else none)=some r:=h
  cases as with
  | nil=>exact ⟨v,rfl,h⟩
  | cons=>exact noS h
theorem two_is {α:Type} {as:List V} {f:V→V→Option α} {r:α} (h:arg2 as f=some r):∃ v w,as=[v,w]∧f v w=some r:=by
 cases as with
 | nil=>exact noS h
 | cons v as =>
  refine x1_2 (one_is (show (arg1 as fun w=>f v w)=some r from h)) ?_
  (try clear w)
  intro w hq_11 e
  apply q1 hq_11
  exact ⟨v,w,rfl,e⟩
theorem bind_is {α β:Type} {o:Option α} {f:α→Option β} {r:β} (h:o.bind f=some r):∃ x,o=some x∧f x=some r:=Option.bind_eq_some_iff.mp h
theorem map_is {α β:Type} {o:Option α} {f:α→β} {r:β} (h:o.map f=some r):∃ x,o=some x∧f x=r:=Option.map_eq_some_iff.mp h
theorem ite_is {α:Type} {c:Prop} [Decidable c] {x r:α} (h:(if c then some x else none)=some r):c∧x=r:=by
 by_cases q:c
 ·rw [if_pos q] at h; cases h; exact ⟨q,rfl⟩
 ·rw [if_neg q] at h; exact noS h
theorem ite_of {α:Type} {c:Prop} [Decidable c] {x:Option α} {r:α} (h:(if c then x else none)=some r):c∧x=some r:=by
 by_cases q:c
 ·rw [if_pos q] at h; exact ⟨q,h⟩
 ·rw [if_neg q] at h; exact noS h
theorem ite_not {α:Type} {c:Prop} [Decidable c] {x r:α} (h:(if c then none else some x)=some r):¬ c∧x=r:=by
 by_cases q:c
 ·rw [if_pos q] at h; exact noS h
 ·rw [if_neg q] at h; cases h; exact ⟨q,rfl⟩
theorem or_is {α:Type} {x y:Option α} {r:α} (h:orO x y=some r):x=some r∨y=some r:=by
 cases x with
 | none=>exact .inr h
 | some z=>exact .inl h
theorem bin2_is {α β γ:Type} {x:Option α} {y:α→Option β} {f:α→β→Option γ} {r:γ} (h:(x.bind fun a=>(y a).bind fun b=>f a b)=some r):∃ a b,x=some a∧y a=some b∧f a b=some r:=by
 refine x1_2 (bind_is h) ?_
 (try clear h)
 intro a h1 h
 refine x1_2 (bind_is h) ?_
 (try clear h)
 intro b h2 h
 exact ⟨a,b,h1,h2,h⟩
theorem map2_is {α β γ:Type} {x:Option α} {y:α→Option β} {f:α→β→γ} {r:γ} (h:(x.bind fun a=>(y a).map fun b=>f a b)=some r):∃ a b,x=some a∧y a=some b∧f a b=r:=by
 refine x1_2 (bind_is h) ?_
 (try clear h)
 intro a h1 h
 refine x1_2 (map_is h) ?_
 (try clear h)
 intro b h2 h
 exact ⟨a,b,h1,h2,h⟩
theorem newList_is {xs:List V} {r:V × Sto} (h:newList xs σ=some r):xs.length≤maxLen∧(V.lst xs,σ)=r:=ite_is h
theorem mkStr_is {l:List Nat} {r:V × Sto} (h:mkStr l σ=some r):l.length≤maxLen∧(V.str l,σ)=r:=ite_is h
theorem nopy {y:Int} (h:small y=true):y.natAbs.log2 < 64:=by
 by_cases h0:y.natAbs=0
 ·rw [h0]; decide +kernel
 ·exact (Nat.log2_lt h0).mpr (small_lt h)
theorem and3 {a b c:Bool} (h:(a&&b&&c)=true):a=true∧b=true∧c=true:=by
 cases a <;> cases b <;> cases c <;> first | exact ⟨rfl,rfl,rfl⟩ | exact noT h
theorem or2 {c:Prop} [Decidable c] {a:Bool} (h:¬ (decide c||!a)=true):¬ c∧a=true:=by
 cases a <;> by_cases q:c <;> simp_all
theorem bits_le {x y:Int} (hx:Builtin.Int.intBits x≤64) (h0:0≤y) (h1:y≤1000):(Builtin.Int.intBits x:Int)*y≤64*1000 :=
 Int.le_trans (Int.mul_le_mul_of_nonneg_right (Int.ofNat_le.mpr hx) h0) (Int.mul_le_mul_of_nonneg_left h1 (by decide))
theorem ii_ok (I:Inv B F σ s) {x y:Int} {t u:Tok} {op:Operator} (e:bII op x y σ=some (v,σ')):EvT B A F s (binaryOp op (.int x t) (.int y u)) (PE B σ' v):=by
 cases op with
 | Add=>apply s2 e; exact wpAny_add_int (evTok _ I (.int _ _))
 | Sub=>apply s2 e; exact PyProof.Rows.sub_int (evTok _ I (.int _ _))
 | Mult =>
  refine x0_2 (ite_is e) ?_
  (try clear e)
  intro q e
  apply p2 e; exact PyProof.Rows.mul_int (evTok _ I (.int _ _)) (.of_right (small_bits q))
 | FloorDiv =>
  refine x0_2 (ite_not e) ?_
  (try clear e)
  intro q e
  apply p2 e
  have q:=or2 q
  exact PyProof.Rows.floordiv_int q.1 (evTok _ I (.int _ _)) (.inl (PyProof.noPylong_of_log2 (Nat.lt_trans (nopy q.2) (by decide))))
 | Mod =>
  refine x0_2 (ite_not e) ?_
  (try clear e)
  intro q e
  apply p2 e; exact PyProof.Rows.mod_int' q (evTok _ I (.int _ _))
 | Pow =>
  refine x0_2 (ite_is e) ?_
  (try clear e)
  intro q e
  apply p2 e
  refine x0_3 (and3 q) fun q1 q2 q3=>?_
  exact PyProof.Rows.pow_int (of_decide_eq_true q2) (Int.le_trans (bits_le (small_bits q1) (of_decide_eq_true q2) (of_decide_eq_true q3)) (by decide)) (evTok _ I (.int _ _))
 | LShift =>
  refine x0_2 (ite_is e) ?_
  (try clear e)
  intro q e
  apply p2 e
  refine x0_3 (and3 q) fun q1 q2 q3=>?_
  exact PyProof.Rows.lshift_int_small (of_decide_eq_true q2) (Int.le_trans (of_decide_eq_true q3) (by decide)) (small_lt q1) (evTok _ I (.int _ _))
 | RShift =>
  refine x0_2 (ite_is e) ?_
  (try clear e)
  intro q e
  apply p2 e; exact PyProof.Rows.rshift_int q (evTok _ I (.int _ _))
 | BitAnd=>apply s2 e; exact PyProof.Rows.and_int (evTok _ I (.int _ _))
 | BitOr=>apply s2 e; exact PyProof.Rows.or_int (evTok _ I (.int _ _))
 | BitXor=>apply s2 e; exact PyProof.Rows.xor_int (evTok _ I (.int _ _))
 | _=>exact noS e
theorem ss_ok (I:Inv B F σ s) {x y:Str} {l m:List Nat} {t u:Tok} (e1:x.cps.toList=l) (e2:y.cps.toList=m) (q:(l++m).length≤maxLen):EvT B A F s (binaryOp .Add (.str x t) (.str y u)) (PE B σ (.str (l++m))) :=
 PyProof.Rows.add_str (fun t' tk=>evTok _ I (.str _ (by rw [str_app,e1,e2]) q)) (by rw [str_len e1,str_len e2,← List.length_append]; exact len_line q)
theorem fold_rep:∀ (n:Nat) (acc:Array Nat) (c:Array Nat),((List.replicate n c).foldl (·++·) acc).toList=acc.toList++(List.replicate n c.toList).flatten
 | 0,acc,c=>by simp
 | n+1,acc,c=>by rw [List.replicate_succ,List.foldl_cons,fold_rep n]; simp [List.replicate_succ]
theorem rep_len {α:Type} {x:List α} {n:Nat} (h1:n≤1000) (h2:x.length≤1000):(List.replicate n x).flatten.length≤1000000:=by
 rw [List.length_flatten,List.map_replicate,List.sum_replicate_nat]
 exact Nat.mul_le_mul h1 h2
theorem toNat_le {y:Int} (h:y≤1000):y.toNat≤1000:=Int.toNat_le.mpr h
set_option tactic.hygienic true in
theorem si_ok (I:Inv B F σ s) {x:Str} {l:List Nat} {y:Int} {t u:Tok} (e1:x.cps.toList=l) (q0:0≤y) (q1:y≤1000) (q2:l.length≤1000):EvT B A F s (binaryOp .Mult (.str x t) (.int y u)) (PE B σ (.str (List.replicate y.toNat l).flatten)):=by
 have hl:=str_len e1
 have hz:((List.replicate y.toNat l).flatten).length≤maxLen:=Nat.le_trans (rep_len (toNat_le q1) q2) (by decide)
 refine PySem.P.mul_str (by simp; (first | lia | omega)) (fun _ _=>?_) (fun _ _=>?_) ?_
 ·rename_i n1 _
  have:(1:Int)≤y:=by (first | lia | omega)
  have h2:(1000:Int)≤(2 ^ 63 - 1) / y:=by
   rw [Int.le_ediv_iff_mul_le (by (first | lia | omega))]; (first | lia | omega)
  (first | lia | omega)
 ·show decide (_ > sizeLine)=false
  have:l.length*y.toNat≤1000*1000:=Nat.mul_le_mul q2 (toNat_le q1)
  rw [hl]; exact decide_eq_false (Nat.not_lt.mpr (Nat.le_trans this (by decide)))
 ·split
  ·have:y.toNat=0:=by (first | lia | omega)
   exact ⟨by decide,evTok _ I (.str _ (by rw [this]; rfl) hz)⟩
  ·split
   ·rename_i q3
    refine evTok s.toks I (.str _ ?_ hz)
    rw [Bool.or_eq_true] at q3
    rcases q3 with q3 | q3
    ·have:y=1:=by simpa using q3
     subst this; simpa using e1
    ·have hn:l.length=0:=by rw [← hl]; simpa using q3
     have:l=[]:=List.length_eq_zero_iff.mp hn
     subst this; rw [e1]; simp
   ·have e2:∀ c:Array Nat,c.toList=l→((List.replicate y.toNat c).foldl (·++·) #[]).toList=(List.replicate y.toNat l).flatten:=fun c hc=>by rw [fold_rep,hc]; rfl
    refine ⟨?_,evTok _ I (.str _ (e2 _ e1) hz)⟩
    rw [str_len (e2 _ e1)]; exact len_line hz
theorem ll_ok (I:Inv B F σ s) (ra:VR B.fa s.heap F a x) (rb:VR B.fa s.heap F b y) {xs ys:List V} (h1:lsV σ a=some xs) (h2:lsV σ b=some ys) (e:bLL xs ys σ=some (v,σ')):EvT B A F s (binaryOp .Add x y) (PE B σ' v):=by
 refine x0_2 (newList_is e) ?_
 (try clear e)
 intro q e
 apply p2 e
 refine x2_4 (ra.asList I h1) fun a1 its1 hq_12 hw_13 v1 ζ=>?_
 apply q1 hq_12
 refine x1_1 (hw_13) fun n1 l1=>?_
 refine x2_4 (rb.asList I h2) fun a2 its2 hq_14 hw_15 v2 ζ=>?_
 apply q1 hq_14
 refine x1_1 (hw_15) fun n2 l2=>?_
 have z:its1.size+its2.size=(xs++ys).length:=by rw [List.length_append,v1.length,v2.length,Array.length_toList,Array.length_toList]
 exact concat_meets ⟨_,l1,rfl⟩ ⟨_,l2,rfl⟩ noFill_list_add seq_list_add PySem.F.slot_list_add PySem.F.entry_list_add (PySem.F.args_list_add_2 _ _) (PyProof.Rows.list_addW a1 a2 its1 its2 n1 n2 none none #[] #[] (by rw [z]; exact len_line q)) ⟨l1,l2,evList I (by rw [Array.toList_append]; exact v1.append v2) q⟩
theorem vrs_rep {h:Heap} {xs:List V} {its:Array Value} (r:VRs B.fa h F xs its.toList):∀ (n:Nat) (acc:Array Value) (us:List V),VRs B.fa h F us acc.toList→VRs B.fa h F (us++(List.replicate n xs).flatten) ((List.replicate n its).foldl (·++·) acc).toList
 | 0,acc,us,h=>by simpa using h
 | n+1,acc,us,h=>by
  rw [List.replicate_succ,List.replicate_succ,List.foldl_cons,List.flatten_cons,← List.append_assoc]
  exact vrs_rep r n _ _ (by rw [Array.toList_append]; exact h.append r)
theorem li_ok (I:Inv B F σ s) {y:Int} {u:Tok} (ra:VR B.fa s.heap F a x) {xs:List V} (h1:lsV σ a=some xs) (e:bLI xs y σ=some (v,σ')):EvT B A F s (binaryOp .Mult x (.int y u)) (PE B σ' v):=by
 refine x0_2 (ite_of e) ?_
 (try clear e)
 intro hw_16 e
 refine x0_4 (hw_16) fun q0 q1 q2 q3=>?_
 refine x0_2 (newList_is e) ?_
 (try clear e)
 intro hz e
 apply p2 e
 refine x2_4 (ra.asList I h1) fun a1 its1 hq_17 hw_18 v1 ζ=>?_
 subst hq_17
 refine x1_1 (hw_18) fun n1 l1=>?_
 have z1:xs.length=its1.size:=v1.length.trans Array.length_toList
 have hm:its1.size*y.toNat≤1000*1000:=Nat.mul_le_mul (z1▸q2) (toNat_le q1)
 have hne:its1.isEmpty=false:=by
  cases h:its1.isEmpty with
  | false=>rfl
  | true=>exact absurd (List.length_eq_zero_iff.mp (z1.trans (Array.isEmpty_iff_size_eq_zero.mp h))) q3
 refine wpAny_binaryOp_repeat_ref (T:="list") (U:="int") (by decide) ⟨_,l1,rfl⟩ (fun s'=>typeIs_int s' y u) noFill_list_mul PySem.F.fills_int_mul PySem.F.slot_int_rmul repeat_list PySem.F.slot_int_index.lookup
  (call_meets PySem.F.slot_int_rmul (typeIs_int s y u) PySem.F.entry_int_rmul (PySem.F.args_int_rmul_2 _ _) (int___rmul___int_list y u a1 its1 n1)
   ⟨l1,rfl,⟨_,l1,rfl⟩,call_meets PySem.F.slot_list_mul ⟨_,l1,rfl⟩ PySem.F.entry_list_mul (PySem.F.args_list_mul_2 _ _)
    (AutoListH.list___mul___list_int_3 a1 its1 n1 y u (by simp [Builtin.List.listFitsIndex]; (first | lia | omega)) (by (first | lia | omega)) (by simp [Builtin.List.listTooLong,sizeLine]; (first | lia | omega))) ⟨l1,?_⟩⟩)
 rw [hne]
 exact evList I (by simpa using vrs_rep v1 y.toNat #[] [] .nil) hz
theorem bin_ok (R:Room A d) (I:Inv B F σ s) (ra:VR B.fa s.heap F a x) (rb:VR B.fa s.heap F b y) {op:Operator} (e:binop op a b σ=some (v,σ')):EvT B A F s (binaryOp op x y) (PE B σ' v):=by
 rcases or_is e with e | e
 ·refine x2_3 (bin2_is e) ?_
  (try clear e)
  intro i j h1 h2 e
  refine x1_1 (ra.ofInt h1) fun t hq_19=>?_
  apply q1 hq_19
  refine x1_1 (rb.ofInt h2) fun u hq_20=>?_
  apply q1 hq_20
  exact ii_ok I e
 rcases or_is e with e | e
 ·refine x0_2 (ite_of e) ?_
  (try clear e)
  intro q e
  refine x2_3 (bin2_is e) ?_
  (try clear e)
  intro l m h1 h2 e
  refine x2_3 (ra.ofStr h1) fun p t hq_21 e1 ζ=>?_
  apply q1 hq_21
  refine x2_3 (rb.ofStr h2) fun r u hq_22 e2 ζ=>?_
  apply q1 hq_22
  refine x0_2 (mkStr_is e) ?_
  (try clear e)
  intro z e
  apply p2 e
  exact isAdd_is q▸ss_ok I e1 e2 z
 rcases or_is e with e | e
 ·refine x0_2 (ite_of e) ?_
  (try clear e)
  intro q e
  refine x2_3 (bin2_is e) ?_
  (try clear e)
  intro l j h1 h2 e
  refine x2_3 (ra.ofStr h1) fun p t hq_23 e1 ζ=>?_
  apply q1 hq_23
  refine x1_1 (rb.ofInt h2) fun u hq_24=>?_
  apply q1 hq_24
  refine x0_2 (ite_is e) ?_
  (try clear e)
  intro z e
  apply p2 e
  exact isMult_is q▸si_ok I e1 z.1 z.2.1 z.2.2
 rcases or_is e with e | e
 ·refine x0_2 (ite_of e) ?_
  (try clear e)
  intro q e
  refine x2_3 (bin2_is e) ?_
  (try clear e)
  intro i j h1 h2 e
  exact isAdd_is q▸ll_ok I ra rb h1 h2 e
 ·refine x0_2 (ite_of e) ?_
  (try clear e)
  intro q e
  refine x2_3 (bin2_is e) ?_
  (try clear e)
  intro i j h1 h2 e
  refine x1_1 (rb.ofInt h2) fun u hq_25=>?_
  apply q1 hq_25
  exact isMult_is q▸li_ok I ra h1 e
theorem aug_ok (R:Room A d) (I:Inv B F σ s) (ra:VR B.fa s.heap F a x) (rb:VR B.fa s.heap F b y) {op:Operator} (e:augop op a b σ=some (v,σ')):EvT B A F s (inplaceOp op x y) (PE B σ' v):=by
 refine x0_2 (ite_of e) ?_
 (try clear e)
 intro q e
 rw [isAdd_is q]
 rcases or_is e with e | e
 ·refine x2_3 (map2_is e) ?_
  (try clear e)
  intro i j h1 h2 e
  refine x1_1 (ra.ofInt h1) fun t hq_26=>?_
  apply q1 hq_26
  refine x1_1 (rb.ofInt h2) fun u hq_27=>?_
  apply q1 hq_27
  apply p2 e
  exact wpAny_iadd_int (evTok _ I (.int _ _))
 ·refine x2_3 (bin2_is e) ?_
  (try clear e)
  intro l m h1 h2 e
  refine x2_3 (ra.ofStr h1) fun p t hq_28 e1 ζ=>?_
  apply q1 hq_28
  refine x2_3 (rb.ofStr h2) fun r u hq_29 e2 ζ=>?_
  apply q1 hq_29
  refine x0_2 (mkStr_is e) ?_
  (try clear e)
  intro z e
  apply p2 e
  refine PyProof.Rows.iadd_str (fun t' tk=>evTok _ I (.str _ (by rw [str_app,e1,e2]) z)) ?_
  rw [str_len e1,str_len e2,← List.length_append]; exact len_line z
end
end Mine
namespace Mine
open PySem PySem.SeqAt
noncomputable def eqC:Value→Value→Bool
 | .int a _,.int b _=>a==b
 | .str a _,.str b _=>a==b
 | .none,.none=>true
 | .bool a,.bool b=>a==b
 | _,_=>false
section
variable {B:Base} {A:Around} {F:Lay} {σ σ':Sto} {s:Shared} {d:Nat} {a b v:V} {x y:Value}
theorem str_eq {p q:Str} {l m:List Nat} (h1:p.cps.toList=l) (h2:q.cps.toList=m):(p==q)=(l==m):=by rw [← str_beq,h1,h2]
noncomputable def EqP (x y:Value) (c:Bool):Prop:=(∀ A s,EqAt A s x y (eqC x y))∧(∀ A s,RcAt A s x y (eqC x y))∧(∀ A s,RcNeAt A s x y (!eqC x y))∧eqC x y=c
theorem eqS_ok {h:Heap} (ra:VR B.fa h F a x) (rb:VR B.fa h F b y) {c:Bool} (e:eqS a b=some c):EqP x y c:=by
 rcases or_is e with e | e
 ·refine x1_2 (bind_is e) ?_
  (try clear e)
  intro i h1 e
  refine x1_1 (ra.ofInt h1) fun t hq_30=>?_
  apply q1 hq_30
  rcases or_is e with e | e
  ·refine x1_2 (map_is e) fun j h2 hq_31=>?_
   apply q2 hq_31
   refine x1_1 (rb.ofInt h2) fun u hq_32=>?_
   apply q1 hq_32
   exact ⟨fun ζ ζ=>.int_int _ _ _ _,fun ζ ζ=>.int_int _ _ _ _,fun ζ ζ=>.int_int _ _ _ _,rfl⟩
  ·refine x0_2 (ite_is e) fun q hq_33=>?_
   apply q2 hq_33
   rw [rb.ofNone q]
   exact ⟨fun ζ ζ=>.int_none _ _,fun ζ ζ=>.int_none _ _,fun ζ ζ=>.int_none _ _,rfl⟩
 rcases or_is e with e | e
 ·refine x2_3 (map2_is e) fun l m h1 h2 hq_34=>?_
  apply q2 hq_34
  refine x2_3 (ra.ofStr h1) fun p t hq_35 e1 ζ=>?_
  apply q1 hq_35
  refine x2_3 (rb.ofStr h2) fun r u hq_36 e2 ζ=>?_
  apply q1 hq_36
  exact ⟨fun ζ ζ=>.str_str _ _ _ _,fun ζ ζ=>.str_str _ _ _ _,fun ζ ζ=>.str_str _ _ _ _,str_eq e1 e2⟩
 rcases or_is e with e | e
 ·refine x0_2 (ite_of e) ?_
  (try clear e)
  intro q e
  rw [ra.ofNone q]
  by_cases q2:isNone b=true
  ·rw [if_pos q2] at e
   apply s1 e
   rw [rb.ofNone q2]
   exact ⟨fun ζ ζ=>.same _,fun ζ ζ=>.none_none,fun ζ ζ=>.none_none,rfl⟩
  ·rw [if_neg q2] at e
   refine x1_2 (map_is e) fun j h2 hq_37=>?_
   subst hq_37
   refine x1_1 (rb.ofInt h2) fun u hq_38=>?_
   apply q1 hq_38
   exact ⟨fun ζ ζ=>.none_int _ _,fun ζ ζ=>.none_int _ _,fun ζ ζ=>.none_int _ _,rfl⟩
 ·refine x2_3 (map2_is e) fun i j h1 h2 hq_39=>?_
  apply q2 hq_39
  rw [ra.ofBool h1,rb.ofBool h2]
  exact ⟨fun ζ ζ=>.bool_bool _ _,fun ζ ζ=>.bool_bool _ _,fun ζ ζ=>.bool_bool _ _,rfl⟩
theorem eqL_ok {h:Heap}:∀ {as bs:List V} {xs ys:List Value} {c:Bool},VRs B.fa h F as xs→VRs B.fa h F bs ys→eqL as bs=some c →
  xs.length=ys.length∧(∀ (j:Nat) (p q:Value),xs[j]?=some p→ys[j]?=some q→∀ A s,EqAt A s p q (eqC p q))∧(List.range xs.length).all (fun j=>eqC (xs.getD j .none) (ys.getD j .none))=c
 | [],bs,_,_,_,ra,rb,e=>by
  cases bs with
  | cons=>exact noS e
  | nil=>apply s1 e; rw [ra.nil_is,rb.nil_is]; exact ⟨rfl,fun ζ ζ ζ q=>(by cases q),rfl⟩
 | a :: as,bs,_,_,c,ra,rb,e=>by
  cases bs with
  | nil=>exact noS e
  | cons b bs =>
  refine x2_3 (map2_is e) fun u w h1 h2 hq_40=>?_
  apply q2 hq_40
  refine x2_3 (ra.cons_is) ?_; (try clear ra); intro x xs hq_41 ra rs
  apply q1 hq_41
  refine x2_3 (rb.cons_is) ?_; (try clear rb); intro y ys hq_42 rb rt
  apply q1 hq_42
  refine x0_3 (eqL_ok rs rt h2) fun l k z=>?_
  refine x0_4 (eqS_ok ra rb h1) fun e1 ζ ζ e2=>?_
  refine ⟨congrArg Nat.succ l,fun j p q hp hq=>?_,?_⟩
  ·cases j with
   | zero=>apply s1 hp; cases hq; exact e1
   | succ j=>exact k j p q hp hq
  ·rw [List.length_cons,List.range_succ_eq_map,List.all_cons,List.all_map]
   exact congr (congrArg _ e2) z
theorem inL_ok {h:Heap} (rb:VR B.fa h F b y):∀ {as:List V} {xs:List Value} {c:Bool},VRs B.fa h F as xs→inL b as=some c →
  (∀ p∈xs,∀ A s,EqAt A s p y (eqC p y))∧xs.any (fun p=>eqC p y)=c
 | [],_,_,ra,e=>by cases e; rw [ra.nil_is]; exact ⟨fun ζ q=>(by cases q),rfl⟩
 | a :: as,_,c,ra,e=>by
  refine x2_3 (map2_is e) fun u w h1 h2 hq_43=>?_
  apply q2 hq_43
  refine x2_3 (ra.cons_is) ?_; (try clear ra); intro x xs hq_44 ra rs
  apply q1 hq_44
  refine x0_2 (inL_ok rb rs h2) fun k z=>?_
  refine x0_4 (eqS_ok ra rb h1) fun e1 ζ ζ e2=>?_
  refine ⟨fun p hp=>?_,?_⟩
  ·rcases List.mem_cons.mp hp with rfl | hp
   ·exact e1
   ·exact k p hp
  ·rw [List.any_cons,e2,z]
theorem room_line (R:Room A d):A.units < cLine:=by
 have:=R.units
 show _ < 9900
 (first | lia | omega)
theorem evTokV {c c':Bool} (e:c=c') (tk:Nat) (I:Inv B F σ s):∃ G,Step B F s G { s with toks:=tk }∧PE B σ (.bool c') (.bool c) (F++G) { s with toks:=tk }:=by
 apply q1 e; exact evTok _ I (.bool _)
noncomputable def EqO (B:Base) (A:Around) (F:Lay) (σ:Sto) (s:Shared) (x y:Value) (c:Bool):Prop:=EvT B A F s (compareOp .Eq x y) (PE B σ (.bool c))∧EvT B A F s (compareOp .NotEq x y) (PE B σ (.bool !c))
theorem eq_at {its1 its2:Array Value} (k:∀ (j:Nat) (p q:Value),its1.toList[j]?=some p→its2.toList[j]?=some q→∀ A s,EqAt A s p q (eqC p q)) (A:Around) (s:Shared) (j:Nat) (h1:j < its1.size) (h2:j < its2.size):EqAt A s its1[j] its2[j] (eqC (its1.toList.getD j .none) (its2.toList.getD j .none)):=by
 have g1:its1.toList[j]?=some its1[j]:=by rw [Array.getElem?_toList,Array.getElem?_eq_getElem h1]
 have g2:its2.toList[j]?=some its2[j]:=by rw [Array.getElem?_toList,Array.getElem?_eq_getElem h2]
 have:=k j _ _ g1 g2 A s
 rw [List.getD_eq_getElem?_getD,List.getD_eq_getElem?_getD,g1,g2]; exact this
theorem eqR_ok (R:Room A d) (I:Inv B F σ s) {xs ys:List V} {a1 a2:Addr} {its1 its2:Array Value} (l1:s.heap.PlainList a1 its1) (l2:s.heap.PlainList a2 its2) (v1:VRs B.fa s.heap F xs its1.toList) (v2:VRs B.fa s.heap F ys its2.toList) {c:Bool} (e:eqR xs ys=some c):EqO B A F σ s (.ref a1) (.ref a2) c:=by
 have hu:=room_line R
 have z1:xs.length=its1.size:=v1.length.trans Array.length_toList
 have z2:ys.length=its2.size:=v2.length.trans Array.length_toList
 by_cases hn:xs.length=ys.length
 ·rw [eqR,if_pos hn] at e
  refine x0_3 (eqL_ok v1 v2 e) fun q1 q2 q3=>?_
  rw [Array.length_toList] at q3
  exact ⟨RcAt.lists l1.isList l2.isList (z1.symm.trans (hn.trans z2)) hu (eq_at q2 _ _) _ _ _ _ (evTokV q3 s.toks I),RcNeAt.lists l1.isList l2.isList (z1.symm.trans (hn.trans z2)) hu (eq_at q2 _ _) _ _ _ _ (evTokV (by rw [q3]) s.toks I)⟩
 ·rw [eqR,if_neg hn] at e
  apply s1 e
  have hz:(its1.size != its2.size)=true:=bne_iff_ne.mpr fun q=>hn (z1.trans (q.trans z2.symm))
  exact ⟨RcAt.lists_lengths l1.isList l2.isList hz hu _ _ _ _ (evTokV rfl s.toks I),RcNeAt.lists_lengths l1.isList l2.isList hz hu _ _ _ _ (evTokV rfl s.toks I)⟩
theorem eqT_ok (R:Room A d) (I:Inv B F σ s) {xs ys:List V} (ra:VR B.fa s.heap F (.tup xs) x) (rb:VR B.fa s.heap F (.tup ys) y) {c:Bool} (hn:xs.length=ys.length) (e:eqL xs ys=some c):EqO B A F σ s x y c:=by
 have hu:=room_line R
 refine x3_4 (ra.tup_is) fun a1 its1 n1 hq_45 l1 v1 ζ=>?_
 apply q1 hq_45
 refine x3_4 (rb.tup_is) fun a2 its2 n2 hq_46 l2 v2 ζ=>?_
 apply q1 hq_46
 have z1:xs.length=its1.size:=v1.length.trans Array.length_toList
 have z2:ys.length=its2.size:=v2.length.trans Array.length_toList
 have t1:s.heap.IsTuple a1 its1:=⟨_,l1,rfl,_,rfl⟩
 have t2:s.heap.IsTuple a2 its2:=⟨_,l2,rfl,_,rfl⟩
 have hz:its1.size=its2.size:=z1.symm.trans (hn.trans z2)
 refine x0_3 (eqL_ok v1 v2 e) fun q1 q2 q3=>?_
 rw [Array.length_toList] at q3
 have q4:((List.range (min its1.size its2.size)).all (fun j=>eqC (its1.toList.getD j .none) (its2.toList.getD j .none))&&its1.size==its2.size)=c:=by
  rw [← hz,Nat.min_self,q3,beq_self_eq_true,Bool.and_true]
 exact ⟨RcAt.tuples t1 t2 hu (eq_at q2 _ _) _ _ _ _ (evTokV q4 s.toks I),RcNeAt.tuples t1 t2 hu (eq_at q2 _ _) _ _ _ _ (evTokV (by rw [q4]) s.toks I)⟩
theorem eq_ok (R:Room A d) (I:Inv B F σ s) (ra:VR B.fa s.heap F a x) (rb:VR B.fa s.heap F b y) {c:Bool} (e:eqV σ a b=some c):EqO B A F σ s x y c:=by
 rcases or_is e with e | e
 ·refine x2_3 (bin2_is e) ?_
  (try clear e)
  intro i j h1 h2 e
  refine x2_4 (ra.asList I h1) fun a1 its1 hq_47 l1 v1 ζ=>?_
  apply q1 hq_47
  refine x2_4 (rb.asList I h2) fun a2 its2 hq_48 l2 v2 ζ=>?_
  apply q1 hq_48
  exact eqR_ok R I l1 l2 v1 v2 e
 rcases or_is e with e | e
 ·refine x2_3 (bin2_is e) ?_
  (try clear e)
  intro xs ys h1 h2 e
  refine x0_2 (ite_of e) ?_
  (try clear e)
  intro hn e
  exact eqT_ok R I (ra.asTup h1) (rb.asTup h2) hn e
 ·refine x0_4 (eqS_ok ra rb e) fun ζ q1 q2 q3=>?_
  exact ⟨q1 A s _ _ _ _ (evTokV q3 s.toks I),q2 A s _ _ _ _ (evTokV (by rw [q3]) s.toks I)⟩
set_option tactic.hygienic true in
theorem subAt_spec (p:List Nat):∀ (l:List Nat) (k0:Nat),match subAt p l k0 with
  | some k=>k0≤k∧k - k0≤l.length∧p <+: l.drop (k - k0)∧∀ j,j < k - k0→¬ p <+: l.drop j
  | none=>∀ j,j≤l.length→¬ p <+: l.drop j
 | [],k0=>by
  unfold subAt
  split
  ·rename_i k e
   split at e
   ·rename_i h; apply s1 e; apply q1 h; exact ⟨Nat.le_refl _,by simp,by simp,fun j hj=>by (first | lia | omega)⟩
   ·exact noS e
  ·rename_i e
   split at e
   ·cases e
   ·rename_i h
    intro j hj hp
    rw [List.drop_nil] at hp
    exact h (List.prefix_nil.mp hp)
 | c :: cs,k0=>by
  have ih:=subAt_spec p cs (k0+1)
  unfold subAt
  by_cases h:p.isPrefixOf (c :: cs)=true
  ·rw [if_pos h]
   exact ⟨Nat.le_refl _,by simp,by simpa using List.isPrefixOf_iff_prefix.mp h,fun j hj=>by (first | lia | omega)⟩
  ·rw [if_neg h]
   have h':¬ p <+: c :: cs:=fun q=>h (List.isPrefixOf_iff_prefix.mpr q)
   cases e:subAt p cs (k0+1) with
   | some k =>
    rw [e] at ih
    refine x0_4 (ih) fun i1 i2 i3 i4=>?_
    have z:k - k0=(k - (k0+1))+1:=by (first | lia | omega)
    refine ⟨by (first | lia | omega),by rw [z,List.length_cons]; (first | lia | omega),by rw [z,List.drop_succ_cons]; exact i3,fun j hj=>?_⟩
    cases j with
    | zero=>exact h'
    | succ j=>rw [List.drop_succ_cons]; exact i4 j (by (first | lia | omega))
   | none =>
    rw [e] at ih
    intro j hj
    cases j with
    | zero=>exact h'
    | succ j=>rw [List.drop_succ_cons]; exact ih j (by rw [List.length_cons] at hj; (first | lia | omega))
theorem at_iff {x y:Str} {l p:List Nat} (h1:x.cps.toList=l) (h2:y.cps.toList=p) (i:Nat):StrLaws.At x y x.length i↔i≤l.length∧p <+: l.drop i:=by
 unfold StrLaws.At
 rw [StrLaws.subAt_eq,h1,h2,str_len h1,str_len h2,List.prefix_iff_eq_take]
 constructor
 ·rintro ⟨a,b⟩
  exact ⟨by (first | lia | omega),(eq_of_beq b).symm⟩
 ·rintro ⟨a,b⟩
  refine ⟨?_,by rw [← b]; simp⟩
  have:=congrArg List.length b
  rw [List.length_take,List.length_drop] at this
  (first | lia | omega)
theorem occ_sub {x y:Str} {l p:List Nat} (h1:x.cps.toList=l) (h2:y.cps.toList=p):(Builtin.Str.occurrences x y 0 x.length 1).head?=subAt p l 0:=by
 have sp:=subAt_spec p l 0
 rcases StrLaws.occ_head_from x y 0 1 (Nat.le_refl 1) with ⟨e,n⟩ | ⟨i,r,e,_,a,n⟩
 ·rw [e]
  cases q:subAt p l 0 with
  | none=>rfl
  | some k =>
   rw [q] at sp
   exact absurd ((at_iff h1 h2 k).mpr ⟨by simpa using sp.2.1,by simpa using sp.2.2.1⟩) (n k (Nat.zero_le _))
 ·rw [e]
  have a':=(at_iff h1 h2 i).mp a
  cases q:subAt p l 0 with
  | none=>rw [q] at sp; exact absurd a'.2 (sp i a'.1)
  | some k =>
   rw [q] at sp
   have sp1:p <+: l.drop k:=by simpa using sp.2.2.1
   have sp2:k≤l.length:=by simpa using sp.2.1
   have hik:i=k:=by
    rcases Nat.lt_trichotomy i k with h | h | h
    ·exact absurd a'.2 (sp.2.2.2 i (by omega))
    ·exact h
    ·exact absurd ((at_iff h1 h2 k).mpr ⟨sp2,sp1⟩) (n k (Nat.zero_le _) h)
   rw [hik]; rfl
theorem head_empty {α:Type} (l:List α):(!l.isEmpty)=l.head?.isSome:=by cases l <;> rfl
noncomputable def InO (B:Base) (A:Around) (F:Lay) (σ:Sto) (s:Shared) (x y:Value) (c:Bool):Prop:=EvT B A F s (compareOp .In x y) (PE B σ (.bool c))∧EvT B A F s (compareOp .NotIn x y) (PE B σ (.bool !c))
theorem in_ok (R:Room A d) (I:Inv B F σ s) (ra:VR B.fa s.heap F a x) (rb:VR B.fa s.heap F b y) {c:Bool} (e:inV σ a b=some c):InO B A F σ s x y c:=by
 rcases or_is e with e | e
 ·refine x2_3 (map2_is e) fun l m h1 h2 hq_49=>?_
  apply q2 hq_49
  refine x2_3 (ra.ofStr h2) fun p t hq_50 e1 ζ=>?_
  apply q1 hq_50
  refine x2_3 (rb.ofStr h1) fun r u hq_51 e2 ζ=>?_
  apply q1 hq_51
  exact ⟨PySem.P.in_str (evTokV (by rw [head_empty,occ_sub e2 e1]) s.toks I),PySem.P.notIn_str (evTokV (by rw [head_empty,occ_sub e2 e1]) s.toks I)⟩
 rcases or_is e with e | e
 ·refine x1_2 (bind_is e) ?_
  (try clear e)
  intro xs h1 e
  refine x3_4 (rb.ofTup h1) fun a2 its2 n2 hq_52 l2 v2 ζ=>?_
  apply q1 hq_52
  refine x0_2 (inL_ok ra v2 e) fun q1 q2=>?_
  rw [Array.any_toList] at q2
  exact ⟨in_tupleAt (fun p=>eqC p x) ⟨_,l2,rfl,_,rfl⟩ (fun p hp=>q1 p (Array.mem_toList_iff.mpr hp) _ _) (evTokV q2 s.toks I),notIn_tupleAt (fun p=>eqC p x) ⟨_,l2,rfl,_,rfl⟩ (fun p hp=>q1 p (Array.mem_toList_iff.mpr hp) _ _) (evTokV (congrArg (!·) q2) s.toks I)⟩
 ·refine x1_2 (bind_is e) ?_
  (try clear e)
  intro xs h2 e
  refine x2_4 (rb.asList I h2) fun a1 its1 hq_53 l1 v1 ζ=>?_
  apply q1 hq_53
  refine x0_2 (inL_ok ra v1 e) fun q1 q2=>?_
  rw [Array.any_toList] at q2
  exact ⟨in_listAt (fun p=>eqC p x) l1.isList (fun p hp=>q1 p (Array.mem_toList_iff.mpr hp) _ _) (evTokV q2 s.toks I),notIn_listAt (fun p=>eqC p x) l1.isList (fun p hp=>q1 p (Array.mem_toList_iff.mpr hp) _ _) (evTokV (congrArg (!·) q2) s.toks I)⟩
theorem is_ok (I:Inv B F σ s) (ra:VR B.fa s.heap F a x) (rb:VR B.fa s.heap F b y) {c:Bool} (e:isV a b=some c):EvT B A F s (compareOp .Is x y) (PE B σ (.bool c)):=by
 rcases or_is e with e | e
 ·refine x0_2 (ite_of e) ?_
  (try clear e)
  intro q e
  rw [rb.ofNone q]
  by_cases q2:isNone a=true
  ·rw [if_pos q2] at e
   apply s1 e
   rw [ra.ofNone q2]
   exact wpAny_is_self rfl (evTokV rfl s.toks I)
  rw [if_neg q2] at e
  rcases or_is e with e | e
  ·refine x1_2 (map_is e) fun i h1 hq_54=>?_
   subst hq_54
   refine x1_1 (ra.ofInt h1) fun t hq_55=>?_
   apply q1 hq_55
   exact wpAny_is_other rfl nofun (evTokV rfl s.toks I)
  rcases or_is e with e | e
  ·refine x1_2 (map_is e) fun i h1 hq_56=>?_
   subst hq_56
   refine x2_2 (ra.ofBytes h1) fun p t hq_57 ζ=>?_
   apply q1 hq_57
   exact wpAny_is_other rfl nofun (evTokV rfl s.toks I)
  ·refine x1_2 (map_is e) fun i h1 hq_58=>?_
   subst hq_58
   rw [ra.ofBool h1]
   exact wpAny_is_other rfl nofun (evTokV rfl s.toks I)
 ·refine x2_3 (map2_is e) fun t u h1 h2 hq_59=>?_
  apply q2 hq_59
  rw [rb.ofTy h1,ra.ofTy h2]
  refine wpAny_is_plain rfl (evTokV ?_ s.toks I)
  rw [Bool.eq_iff_iff,beq_iff_eq,beq_iff_eq]
  exact ⟨fun h=>Value.type.inj h,fun h=>by rw [h]⟩
theorem num_ok (I:Inv B F σ s) {i j:Int} {t u:Tok} {op:CmpOp} {c:Bool} (e:iiV op i j=some c):EvT B A F s (compareOp op (.int i t) (.int j u)) (PE B σ (.bool c)):=by
 cases op with
 | Lt=>apply s1 e; exact PySem.P.lt_int (evTokV rfl s.toks I)
 | LtE=>apply s1 e; exact PySem.P.le_int (evTokV rfl s.toks I)
 | Gt=>apply s1 e; exact PySem.P.gt_int (evTokV rfl s.toks I)
 | GtE=>apply s1 e; exact PySem.P.ge_int (evTokV rfl s.toks I)
 | _=>exact noS e
theorem cmp_ok (R:Room A d) (I:Inv B F σ s) (ra:VR B.fa s.heap F a x) (rb:VR B.fa s.heap F b y) {op:CmpOp} {c:Bool} (e:cmpop op a b σ=some c):EvT B A F s (compareOp op x y) (PE B σ (.bool c)):=by
 have num:∀ op,((intV a).bind fun x=>(intV b).bind fun y=>iiV op x y)=some c→EvT B A F s (compareOp op x y) (PE B σ (.bool c)):=fun op e=>by
  refine x2_3 (bin2_is e) ?_
  (try clear e)
  intro i j h1 h2 e
  refine x1_1 (ra.ofInt h1) fun t hq_60=>?_
  apply q1 hq_60
  refine x1_1 (rb.ofInt h2) fun u hq_61=>?_
  apply q1 hq_61
  exact num_ok I e
 cases op with
 | Eq=>exact (eq_ok R I ra rb e).1
 | NotEq=>refine x1_2 (map_is e) fun c' h hq_62=>?_; apply q2 hq_62; exact (eq_ok R I ra rb h).2
 | In=>exact (in_ok R I ra rb e).1
 | NotIn=>refine x1_2 (map_is e) fun c' h hq_63=>?_; apply q2 hq_63; exact (in_ok R I ra rb h).2
 | Is=>exact is_ok I ra rb e
 | IsNot =>
  refine x0_2 (ite_is e) ?_
  (try clear e)
  intro q e
  apply q2 e
  rw [Bool.and_eq_true] at q
  rw [ra.ofNone q.1,rb.ofNone q.2]
  exact wpAny_isNot_self rfl (evTokV rfl s.toks I)
 | Lt=>exact num _ e
 | LtE=>exact num _ e
 | Gt=>exact num _ e
 | GtE=>exact num _ e
theorem len_ne (l:List Nat):(((l.length:Nat):Int) != 0)=!l.isEmpty:=by cases l <;> rfl
theorem truth_list (I:Inv B F σ s) {a1:Addr} {its:Array Value} {xs:List V} (l1:s.heap.PlainList a1 its) (v1:VRs B.fa s.heap F xs its.toList) (bd:xs.length≤maxLen):EvT B A F s (truthy (.ref a1)) (PB B σ !xs.isEmpty):=by
 have z1:xs.length=its.size:=v1.length.trans Array.length_toList
 refine wpAny_truthy_list l1.isList (by rw [← z1]; have:maxLen=1048576:=rfl; (first | lia | omega)) ?_
 have:its.isEmpty=xs.isEmpty:=by
  rw [Bool.eq_iff_iff,Array.isEmpty_iff_size_eq_zero,List.isEmpty_iff_length_eq_zero,z1]
 rw [this]
 exact evTokB _ I
theorem truth_ok (I:Inv B F σ s) (ra:VR B.fa s.heap F a x) {c:Bool} (e:truth σ a=some c):EvT B A F s (truthy x) (PB B σ c):=by
 cases a with
 | bool b=>apply s1 e; rw [ra.bool_is]; exact wpAny_truthy_bool (evTokB s.toks I)
 | int i=>apply s1 e; refine x1_1 (ra.int_is) fun t hq_64=>?_; apply q1 hq_64; exact PySem.P.truthy_int (evTokB s.toks I)
 | str l =>
  apply s1 e
  refine x2_3 (ra.str_is) fun p t hq_65 e1 bd=>?_
  apply q1 hq_65
  have hl:=str_len e1
  refine PySem.P.truthy_str (by rw [hl]; have:maxLen=1048576:=rfl; omega) ?_
  rw [hl,len_ne]
  exact evTokB _ I
 | none=>apply s1 e; rw [ra.none_is]; exact PyProof.Rows.truthy_none (evTokB s.toks I)
 | ref i =>
  refine x1_2 (map_is e) fun xs q hq_66=>?_
  apply q2 hq_66
  refine x2_4 (I.listAt q) fun a1 its1 f1 l1 v1 bd=>?_
  rw [ra.refAt f1]
  exact truth_list I l1 v1 bd
 | lst xs =>
  apply s1 e
  refine x2_4 (ra.asLst) fun a1 its1 hq_67 l1 v1 bd=>?_
  apply q1 hq_67
  exact truth_list I l1 v1 bd
 | _=>exact noS e
end
end Mine
namespace Mine
open PySem PySem.SeqAt
section
variable {B:Base} {A:Around} {F:Lay} {σ σ':Sto} {s:Shared} {d:Nat} {a b c v:V} {x y z:Value}
theorem idx_seq (n:Nat) (k:Int):seqIndex? k n=idx n k:=by
 unfold seqIndex? idx
 by_cases h:k < 0
 ·have h1:¬ 0≤k:=by (first | lia | omega)
  simp only [h,h1,if_true,if_false]
  by_cases q:-(n:Int)≤k
  ·rw [if_pos q,if_pos (by simp; (first | lia | omega))]
  ·rw [if_neg q,if_neg (by simp; (first | lia | omega))]
 ·have h1:0≤k:=by (first | lia | omega)
  simp only [h,h1,if_true,if_false]
  by_cases q:k < (n:Int)
  ·rw [if_pos q,if_pos (by simp; (first | lia | omega))]
  ·rw [if_neg q,if_neg (by simp; (first | lia | omega))]
theorem idx_bounds {n:Nat} {k:Int} {j:Nat} (h:idx n k=some j):-(n:Int)≤k∧k < (n:Int)∧j < n:=by
 unfold idx at h
 repeat' split at h
 all_goals first | (cases h; omega) | exact noS h
theorem maxLen_eq:maxLen=1048576:=rfl
noncomputable def SubO (B:Base) (A:Around) (F:Lay) (σ:Sto) (s:Shared) (x y:Value) (v:V):Prop:=EvT B A F s (getItem x y) (PE B σ v)∧∃ T id,s.TypeIs x T∧typeLookup (.type T) "__getitem__"=pure (some (.builtin id))
theorem idx_neg {n j:Nat} {k:Int} (h:idx n k=some j):(0≤k∧k.toNat=j)∨(¬ 0≤k∧(k+(n:Int)).toNat=j):=by
 unfold idx at h
 by_cases h0:0≤k
 ·rw [if_pos h0] at h; exact .inl ⟨h0,(ite_is h).2⟩
 ·rw [if_neg h0] at h; exact .inr ⟨h0,(ite_is h).2⟩
theorem small_idx {n j:Nat} {k:Int} (h:idx n k=some j) (b:n≤maxLen):-1048576≤k∧k < 1048576:=by
 have:=idx_bounds h
 rw [maxLen_eq] at b
 (first | lia | omega)
theorem subl_ok (I:Inv B F σ s) {a1:Addr} {its:Array Value} {xs:List V} {k:Int} {u:Tok} (l1:s.heap.PlainList a1 its) (v1:VRs B.fa s.heap F xs its.toList) (bd:xs.length≤maxLen) (e:pick xs k=some v):SubO B A F σ s (.ref a1) (.int k u) v:=by
 refine x1_2 (bind_is e) ?_
 (try clear e)
 intro j q e
 refine x1_2 (v1.get e) fun x' ex rx=>?_
 have z1:xs.length=its.size:=v1.length.trans Array.length_toList
 have ex':its[j]?=some x':=by rw [← Array.getElem?_toList]; exact ex
 have bb:=small_idx q bd
 refine ⟨?_,"list",_,l1.isList.typeIs,slot_list_getitem.lookup⟩
 rcases idx_neg q with ⟨h0,rfl⟩ | ⟨h0,rfl⟩
 ·exact wpAny_getItem_list l1.isList h0 (by (first | lia | omega)) ex' (evTok s.toks I rx)
 ·have b2:=(idx_bounds q).1
  refine wpAny_getItem_list_neg l1.isList (by (first | lia | omega)) (by (first | lia | omega)) (by (first | lia | omega)) ?_ (evTok s.toks I rx)
  rw [← z1]; exact ex'
theorem subt_ok (I:Inv B F σ s) {a1:Addr} {its:Array Value} {n:Nat} {xs:List V} {k:Int} {u:Tok} (l1:s.heap.get? a1=some { cls:=.type "tuple",data:=.seq its n }) (v1:VRs B.fa s.heap F xs its.toList) (bd:xs.length≤maxLen) (e:pick xs k=some v):SubO B A F σ s (.ref a1) (.int k u) v:=by
 refine x1_2 (bind_is e) ?_
 (try clear e)
 intro j q e
 refine x1_2 (v1.get e) fun x' ex rx=>?_
 have z1:xs.length=its.size:=v1.length.trans Array.length_toList
 have bb:=small_idx q bd
 refine ⟨?_,"tuple",_,⟨_,l1,rfl⟩,PyProof.Rows.slot_tuple_getitem.lookup⟩
 exact PyProof.Rows.getItem_tuple ⟨_,l1,rfl,_,rfl⟩ (by (first | lia | omega)) (by (first | lia | omega)) (by rw [idx_seq,← z1]; exact q) (by rw [← Array.getElem?_toList]; exact ex) (evTok s.toks I rx)
theorem subs_ok (I:Inv B F σ s) {xs:Str} {l:List Nat} {t u:Tok} {k:Int} {j c:Nat} (e1:xs.cps.toList=l) (bd:l.length≤maxLen) (q:idx l.length k=some j) (q2:l[j]?=some c):SubO B A F σ s (.str xs t) (.int k u) (.str [c]):=by
 have bb:=small_idx q bd
 refine ⟨?_,"str",_,typeIs_str s _ _,PySem.F.slot_str_getitem.lookup⟩
 refine PySem.P.getItem_str (by simp; (first | lia | omega)) ?_ (evTok _ I (.str _ rfl (by show 1≤1048576; decide)))
 rw [idx_seq,str_len e1,q,Option.bind_some,← Array.getElem?_toList,e1]
 exact q2
theorem suby_ok (I:Inv B F σ s) {bs:Array UInt8} {l:List Nat} {t u:Tok} {k:Int} {j c:Nat} (e1:bs.toList.map UInt8.toNat=l) (bd:l.length≤maxLen) (q:idx l.length k=some j) (q2:l[j]?=some c):SubO B A F σ s (.bytes bs t) (.int k u) (.int (c:Nat)):=by
 have bb:=small_idx q bd
 have hl:bs.size=l.length:=by rw [← e1,List.length_map,Array.length_toList]
 rw [← e1,List.getElem?_map] at q2
 refine x1_2 (map_is q2) fun w q3 hq_68=>?_
 subst hq_68
 refine ⟨?_,"bytes",_,PySem.W.typeIs_bytes s _ _,PySem.W.FB.slot_bytes_getitem.lookup⟩
 refine getItem_gives (PySem.W.typeIs_bytes s _ t) (by decide) PySem.W.FB.slot_bytes_getitem PySem.W.FB.entry_bytes_getitem (PySem.W.FB.args_bytes_getitem_2 _ _) (PySem.W.gives_bytes_getitem _ k t _ w ?_ ?_) (evTok _ I (.int _ _))
 ·simp only [Builtin.Bytes.fitsIndex,Bool.and_eq_true,decide_eq_true_eq]; (first | lia | omega)
 ·rw [idx_seq,hl,q,Option.bind_some,← Array.getElem?_toList]; exact q3
theorem sub_ok (I:Inv B F σ s) (ra:VR B.fa s.heap F a x) (rb:VR B.fa s.heap F b y) (e:subV a b σ=some v):SubO B A F σ s x y v:=by
 refine x1_2 (bind_is e) ?_
 (try clear e)
 intro k h0 e
 refine x1_1 (rb.ofInt h0) fun u hq_69=>?_
 apply q1 hq_69
 rcases or_is e with e | e
 ·refine x1_2 (bind_is e) ?_
  (try clear e)
  intro xs h2 e
  refine x2_4 (ra.asList I h2) fun a1 its1 hq_70 l1 v1 bd=>?_
  apply q1 hq_70
  exact subl_ok I l1 v1 bd e
 rcases or_is e with e | e
 ·refine x1_2 (bind_is e) ?_
  (try clear e)
  intro xs h1 e
  refine x3_4 (ra.ofTup h1) fun a1 its1 n1 hq_71 l1 v1 bd=>?_
  apply q1 hq_71
  exact subt_ok I l1 v1 bd e
 rcases or_is e with e | e
 ·refine x1_2 (bind_is e) ?_
  (try clear e)
  intro l h1 e
  refine x2_3 (ra.ofStr h1) fun p t hq_72 e1 bd=>?_
  apply q1 hq_72
  refine x1_2 (bind_is e) ?_
  (try clear e)
  intro j q e
  refine x1_2 (map_is e) fun c q2 hq_73=>?_
  subst hq_73
  exact subs_ok I e1 bd q q2
 rcases or_is e with e | e
 ·refine x1_2 (bind_is e) ?_
  (try clear e)
  intro l h1 e
  refine x2_3 (ra.ofBytes h1) fun p t hq_74 e1 bd=>?_
  apply q1 hq_74
  refine x1_2 (bind_is e) ?_
  (try clear e)
  intro j q e
  refine x1_2 (map_is e) fun c q2 hq_75=>?_
  subst hq_75
  exact suby_ok I e1 bd q q2
 ·refine x1_2 (bind_is e) ?_
  (try clear e)
  intro r h1 e
  refine x1_2 (bind_is e) ?_
  (try clear e)
  intro xs h2 e
  refine x1_3 (I.scrAt h2) fun its1 l1 v1 bd=>?_
  rw [ra.ofFn h1]
  exact subl_ok I l1 v1 bd e
theorem set_ok (I:Inv B F σ s) (ra:VR B.fa s.heap F a x) (rb:VR B.fa s.heap F b y) (rc:VR B.fa s.heap F c z) (e:setV a b c σ=some σ'):EvT B A F s (setItem x y z) (PU B σ'):=by
 refine x1_2 (bind_is e) ?_
 (try clear e)
 intro r h1 e
 refine x1_2 (bind_is e) ?_
 (try clear e)
 intro k h2 e
 refine x1_2 (bind_is e) ?_
 (try clear e)
 intro xs h3 e
 refine x0_2 (ite_is e) fun q hq_76=>?_
 apply q2 hq_76
 refine x1_1 (rb.ofInt h2) fun u hq_77=>?_
 apply q1 hq_77
 refine x2_4 (I.listAt h3) fun a1 its1 f1 hw_78 v1 bd=>?_
 refine x1_1 (hw_78) fun n1 l1=>?_
 rw [(ra.asRef h1).refAt f1]
 have z1:xs.length=its1.size:=v1.length.trans Array.length_toList
 rw [maxLen_eq] at bd
 refine PySem.W.ki_setAt l1 q.1 (by (first | lia | omega)) (by (first | lia | omega)) ⟨[],.of_upd (tk:=s.toks) f1 (Heap.SameBut.update ..),?_⟩
 rw [List.append_nil]
 have em:Obj.mapSeq (·.setIfInBounds k.toNat z) { cls:=.type "list",data:=.seq its1 n1 }={ cls:=.type "list",data:=.seq (its1.setIfInBounds k.toNat z) n1 }:=by simp [Obj.mapSeq]
 exact I.upd (tk:=s.toks) f1 (Heap.SameBut.update ..) ⟨n1,by rw [Heap.get?_update_self _ l1 (by rw [em]; rfl),em]⟩ (by rw [Array.toList_setIfInBounds]; exact v1.set rc) (by rw [List.length_set,maxLen_eq]; exact bd)
theorem range_pick {α:Type} (l:List α) (a b:Nat) (hb:b≤l.length):(sliceRange (a:Int) (b:Int) 1).filterMap (l[·]?)=cut l a b:=by
 unfold sliceRange cut
 by_cases h:a < b
 ·have e1:(if (1:Int) > 0 then if (a:Int) < b then ((b:Int) - a+1 - 1) / 1 else 0 else if (a:Int) > b then ((a:Int) - b - 1 - 1) / (-1) else 0).toNat=b - a:=by
   rw [if_pos (by decide),if_pos (by (first | lia | omega)),Int.ediv_one]; (first | lia | omega)
  have e2:(fun k:Nat=>((a:Int)+1*(k:Int)).toNat)=fun k=>a+k:=by funext k; (first | lia | omega)
  show ((List.range (_:Int).toNat).map _).filterMap _=_
  rw [e1,e2,StrLaws.picks l (b - a) a (by (first | lia | omega)),List.drop_take]
 ·have e1:(if (1:Int) > 0 then if (a:Int) < b then ((b:Int) - a+1 - 1) / 1 else 0 else if (a:Int) > b then ((a:Int) - b - 1 - 1) / (-1) else 0).toNat=0:=by
   rw [if_pos (by decide),if_neg (by (first | lia | omega))]; rfl
  show ((List.range (_:Int).toNat).map _).filterMap _=_
  rw [e1,List.drop_take,show b - a=0 by (first | lia | omega)]
  rfl
theorem other_pick {α:Type}:∀ (l:List α),(List.range ((l.length+1) / 2)).filterMap (fun k=>l[2*k]?)=everyOther l
 | []=>by simp [everyOther]
 | [x]=>by simp [everyOther]
 | x :: y :: r=>by
  have e:(((x :: y :: r).length+1) / 2)=(r.length+1) / 2+1:=by simp only [List.length_cons]; (first | lia | omega)
  rw [e,List.range_succ_eq_map,List.filterMap_cons]
  have h0:(x :: y :: r)[2*0]?=some x:=rfl
  rw [h0,List.filterMap_map]
  show x :: _=x :: everyOther r
  rw [← other_pick r]
  congr 1
theorem range_pick2 {α:Type} (l:List α) (a b:Nat) (hb:b≤l.length):(sliceRange (a:Int) (b:Int) 2).filterMap (l[·]?)=everyOther (cut l a b):=by
 rw [← other_pick]
 unfold sliceRange cut
 by_cases h:a < b
 ·have e1:(if (2:Int) > 0 then if (a:Int) < b then ((b:Int) - a+2 - 1) / 2 else 0 else if (a:Int) > b then ((a:Int) - b - 2 - 1) / (-2) else 0).toNat=(b - a+1) / 2:=by
   rw [if_pos (by decide),if_pos (by (first | lia | omega))]; (first | lia | omega)
  show ((List.range (_:Int).toNat).map _).filterMap _=_
  rw [e1,List.filterMap_map,List.length_drop,List.length_take,Nat.min_eq_left hb]
  have fc:∀ (L:List Nat) (f g:Nat→Option α),(∀ k∈L,f k=g k)→L.filterMap f=L.filterMap g:=by
   intro L f g hfg
   induction L with
   | nil=>rfl
   | cons c L ih=>rw [List.filterMap_cons,List.filterMap_cons,hfg c (.head _),ih fun k hk=>hfg k (.tail _ hk)]
  refine fc _ _ _ fun k hk=>?_
  have hk':=List.mem_range.mp hk
  show l[((a:Int)+2*(k:Int)).toNat]?=((l.take b).drop a)[2*k]?
  rw [List.getElem?_drop,show ((a:Int)+2*(k:Int)).toNat=a+2*k by (first | lia | omega),List.getElem?_take_of_lt (by (first | lia | omega))]
 ·have e1:(if (2:Int) > 0 then if (a:Int) < b then ((b:Int) - a+2 - 1) / 2 else 0 else if (a:Int) > b then ((a:Int) - b - 2 - 1) / (-2) else 0).toNat=0:=by
   rw [if_pos (by decide),if_neg (by (first | lia | omega))]; rfl
  show ((List.range (_:Int).toNat).map _).filterMap _=_
  rw [e1,List.length_drop,List.length_take,Nat.min_eq_left hb,show b - a=0 by (first | lia | omega)]
  rfl
noncomputable def partOf:V→Option Int
 | .int k=>some k
 | _=>none
set_option tactic.hygienic true in
theorem clip_is {n dv:Nat} {v:V} {k:Nat} (h:clip n dv v=some k) (hd:dv≤n):(match partOf v with
  | none=>(dv:Int)
  | some i=>max 0 (min (if i < 0 then i+(n:Int) else i) (n:Int)))=(k:Int)∧k≤n:=by
 unfold clip at h
 split at h
 ·cases h; exact ⟨rfl,hd⟩
 ·rename_i i
  cases h
  show max 0 (min (if i < 0 then i+(n:Int) else i) (n:Int))=_∧_
  by_cases q:0≤i
  ·rw [if_pos q,if_neg (by (first | lia | omega))]; constructor <;> (first | lia | omega)
  ·rw [if_neg q,if_pos (by (first | lia | omega))]; constructor <;> (first | lia | omega)
 ·exact noS h
set_option tactic.hygienic true in
theorem part_val {n dv:Nat} {v:V} {k:Nat} {h:Heap} {x:Value} (e:clip n dv v=some k) (r:VR B.fa h F v x):∃ p:Option (Int × Tok),x=partValue p∧p.map (·.1)=partOf v:=by
 unfold clip at e
 split at e
 ·cases r; exact ⟨none,rfl,rfl⟩
 ·rename_i i
  cases r with | int _ t=>exact ⟨some (i,t),rfl,rfl⟩
 ·exact noS e
theorem part_is {p:Option (Int × Tok)}:IsPart (partValue p) (p.map (·.1)):=by
 cases p with
 | none=>exact .none
 | some q=>exact .int _ _
theorem lower {n:Nat} (o:Option Int) (dv dw:Int):(match o with
  | none=>if (1:Int) > 0 then dv else dw
  | some i=>if (1:Int) > 0 then max 0 (min (if i < 0 then i+(n:Int) else i) (n:Int)) else max (-1) (min (if i < 0 then i+(n:Int) else i) ((n:Int) - 1)))=(match o with
  | none=>dv
  | some i=>max 0 (min (if i < 0 then i+(n:Int) else i) (n:Int))):=by
 cases o <;> rfl
theorem picked_is {xs:Str} {l0:List Nat} {l h:V} {p1 p2:Option (Int × Tok)} {k1 k2:Nat} (hn:xs.length=l0.length) (q1:p1.map (·.1)=partOf l) (q2:p2.map (·.1)=partOf h) (h1:clip l0.length 0 l=some k1) (h2:clip l0.length l0.length h=some k2):slicePicked xs p1 p2 none=sliceRange (k1:Int) (k2:Int) 1:=by
 have c1:=(clip_is h1 (Nat.zero_le _)).1
 have c2:=(clip_is h2 (Nat.le_refl _)).1
 unfold slicePicked Builtin.Str.strSliceIndices
 rw [q1,q2,hn]
 have e1:=(lower (partOf l) 0 ((l0.length:Int) - 1)).trans c1
 have e2:=(lower (partOf h) (l0.length:Int) (-1)).trans c2
 show sliceRange _ _ 1=_
 rw [← e1,← e2]
 cases partOf l <;> cases partOf h <;> rfl
theorem range_len (a b:Nat):(sliceRange (a:Int) (b:Int) 1).length≤b - a:=by
 unfold sliceRange
 rw [List.length_map,List.length_range]
 by_cases hk:a < b
 ·rw [if_pos (by decide),if_pos (by (first | lia | omega)),Int.ediv_one]; (first | lia | omega)
 ·rw [if_pos (by decide),if_neg (by (first | lia | omega))]; exact Nat.zero_le _
theorem cut_all {α:Type} {l:List α} {a b:Nat} (h:l.length≤b - a) (hb:b≤l.length):cut l a b=l:=by
 unfold cut
 rw [List.take_of_length_le (Nat.le_trans h (Nat.sub_le _ _))]
 rcases Nat.eq_zero_or_pos a with h0 | h0
 ·rw [h0]; rfl
 ·rw [List.length_eq_zero_iff.mp (show l.length=0 by (first | lia | omega))]; exact List.drop_nil
set_option tactic.hygienic true in
theorem slice_str_ok (I:Inv B F σ s) {xs:Str} {l0:List Nat} {l h:V} {p1 p2:Option (Int × Tok)} {tk:Tok} {k1 k2:Nat} (e1:xs.cps.toList=l0) (bd:l0.length≤maxLen) (q1:p1.map (·.1)=partOf l) (q2:p2.map (·.1)=partOf h) (h1:clip l0.length 0 l=some k1) (h2:clip l0.length l0.length h=some k2) {sl:Addr}
  (hs:s.heap.get? sl=some { cls:=.type "slice",data:=.fields #[partValue p1,partValue p2,.none] }):EvT B A F s (getItem (.str xs tk) (.ref sl)) (PE B σ (.str (cut l0 k1 k2))):=by
 have b2:=(clip_is h2 (Nat.le_refl _)).2
 have hn:=str_len e1
 have pk:=picked_is hn q1 q2 h1 h2
 have pick:(slicePicked xs p1 p2 none).filterMap (xs.cps[·]?)=cut l0 k1 k2:=by
  have:(fun i:Nat=>xs.cps[i]?)=fun i:Nat=>l0[i]?:=by funext i; rw [← e1,Array.getElem?_toList]
  rw [this,← range_pick l0 k1 k2 b2,pk]
 have hz:(cut l0 k1 k2).length≤maxLen:=by
  unfold cut
  rw [List.length_drop,List.length_take]
  exact Nat.le_trans (Nat.sub_le _ _) (Nat.le_trans (Nat.min_le_right _ _) bd)
 refine wpAny_getItem_str_slice (l:=p1) (u:=p2) (st:=none) ⟨_,hs,rfl,rfl⟩ rfl ?_
 unfold sliceMade
 split
 ·rename_i hq
  refine evTok s.toks I (.str _ ?_ hz)
  rw [Bool.and_eq_true] at hq
  have hlen:(slicePicked xs p1 p2 none).length=xs.length:=by simpa using hq.2
  rw [pk,hn] at hlen
  rw [cut_all (hlen▸range_len k1 k2) b2,e1]
 ·have e2:(⟨((slicePicked xs p1 p2 none).filterMap (xs.cps[·]?)).toArray⟩:Str).cps.toList=cut l0 k1 k2:=pick
  exact ⟨by rw [str_len e2]; exact len_line hz,evTok _ I (.str _ e2 hz)⟩
theorem vrs_pick {h:Heap} {xs:List V} {its:Array Value} (v:VRs B.fa h F xs its.toList):∀ is:List Nat,VRs B.fa h F (is.filterMap (xs[·]?)) (is.filterMap (its[·]?))
 | []=>.nil
 | i :: is=>by
  rw [List.filterMap_cons,List.filterMap_cons]
  cases q:xs[i]? with
  | none =>
   rw [List.getElem?_eq_none_iff] at q
   rw [Array.getElem?_eq_none_iff.mpr (by rw [← Array.length_toList,← v.length]; exact q)]
   exact vrs_pick v is
  | some u =>
   refine x1_2 (v.get q) fun w ew rw'=>?_
   rw [Array.getElem?_toList] at ew
   rw [ew]; exact .cons rw' (vrs_pick v is)
theorem bounds_is {n:Nat} {l h:V} {k1 k2:Nat} (st:Option Int) (hst:st.getD 1 > 0) (h1:clip n 0 l=some k1) (h2:clip n n h=some k2):sliceBounds (partOf l) (partOf h) st n=((k1:Int),(k2:Int),st.getD 1):=by
 have c1:=(clip_is h1 (Nat.zero_le _)).1
 have c2:=(clip_is h2 (Nat.le_refl _)).1
 unfold sliceBounds
 refine Prod.ext ?_ (Prod.ext ?_ rfl)
 ·show (match partOf l with
   | none=>if st.getD 1 > 0 then (0:Int) else (n:Int) - 1
   | some i=>if st.getD 1 > 0 then max 0 (min (if i < 0 then i+(n:Int) else i) (n:Int)) else max (-1) (min (if i < 0 then i+(n:Int) else i) ((n:Int) - 1)))=(k1:Int)
  rw [← c1]; cases partOf l <;> simp only [hst,if_true] <;> rfl
 ·show (match partOf h with
   | none=>if st.getD 1 > 0 then (n:Int) else -1
   | some i=>if st.getD 1 > 0 then max 0 (min (if i < 0 then i+(n:Int) else i) (n:Int)) else max (-1) (min (if i < 0 then i+(n:Int) else i) ((n:Int) - 1)))=(k2:Int)
  rw [← c2]; cases partOf h <;> simp only [hst,if_true] <;> rfl
theorem slice_list_ok (I:Inv B F σ s) {a1:Addr} {its:Array Value} {xs:List V} {l h t:V} {p1 p2 p3:Option (Int × Tok)} (l1:s.heap.PlainList a1 its) (v1:VRs B.fa s.heap F xs its.toList) (bd:xs.length≤maxLen) (q1:p1.map (·.1)=partOf l) (q2:p2.map (·.1)=partOf h) {sl:Addr}
  (hs:s.heap.get? sl=some { cls:=.type "slice",data:=.fields #[partValue p1,partValue p2,partValue p3] }) {k1 k2:Nat} (h1:clip xs.length 0 l=some k1) (h2:clip xs.length xs.length h=some k2) (st:Option Int) (q3:p3.map (·.1)=st) (hst:st.getD 1 > 0) (h0:st≠some 0) {ys:List V} (hy:(sliceRange (k1:Int) (k2:Int) (st.getD 1)).filterMap (xs[·]?)=ys) (hz:ys.length≤maxLen):EvT B A F s (getItem (.ref a1) (.ref sl)) (PE B σ (.lst ys)):=by
 have z1:xs.length=its.size:=v1.length.trans Array.length_toList
 refine wpAny_getItem_list_slice (lo:=partOf l) (hi:=partOf h) (st:=st) l1.isList ⟨_,hs,rfl,rfl⟩ (q1▸part_is) (q2▸part_is) (q3▸part_is) h0 ?_ (by rw [← z1]; exact len_line bd)
 refine evList I ?_ hz
 unfold slicePick
 rw [← z1,bounds_is st hst h1 h2,← hy]
 exact vrs_pick v1 _
theorem slice_ok {l h t:V} {xl xh xt:Value} (I:Inv B F σ s) (ra:VR B.fa s.heap F a x) (rl:VR B.fa s.heap F l xl) (rh:VR B.fa s.heap F h xh) (rt:VR B.fa s.heap F t xt) (e:sliceV a l h t σ=some (v,σ')) {sl:Addr}
  (hs:s.heap.get? sl=some { cls:=.type "slice",data:=.fields #[xl,xh,xt] }):EvT B A F s (getItem x (.ref sl)) (PE B σ' v)∧∃ T id,s.TypeIs x T∧typeLookup (.type T) "__getitem__"=pure (some (.builtin id)):=by
 rcases or_is e with e | e
 ·refine x1_2 (bind_is e) ?_
  (try clear e)
  intro l0 h0 e
  refine x0_2 (ite_of e) ?_
  (try clear e)
  intro q e
  refine x2_3 (map2_is e) ?_
  (try clear e)
  intro k1 k2 h1 h2 e
  apply p2 e
  refine x2_3 (ra.ofStr h0) fun xs tk hq_79 e1 bd=>?_
  apply q1 hq_79
  refine x1_2 (part_val h1 rl) fun p1 hq_80 q1=>?_
  subst hq_80
  refine x1_2 (part_val h2 rh) fun p2 hq_81 q2=>?_
  subst hq_81
  rw [rt.ofNone q] at hs
  exact ⟨slice_str_ok I e1 bd q1 q2 h1 h2 hs,"str",_,typeIs_str s _ _,PySem.F.slot_str_getitem.lookup⟩
 ·refine x1_2 (bind_is e) ?_
  (try clear e)
  intro xs h3 e
  refine x2_4 (ra.asList I h3) fun a1 its1 hq_82 l1 v1 bd=>?_
  apply q1 hq_82
  refine ⟨?_,"list",_,l1.isList.typeIs,slot_list_getitem.lookup⟩
  refine x2_3 (bin2_is e) ?_
  (try clear e)
  intro k1 k2 h1 h2 e
  refine x1_2 (part_val h1 rl) fun p1 hq_83 q1=>?_
  subst hq_83
  refine x1_2 (part_val h2 rh) fun p2 hq_84 q2=>?_
  subst hq_84
  have b2:=(clip_is h2 (Nat.le_refl _)).2
  by_cases q:isNone t=true
  ·rw [if_pos q] at e
   refine x0_2 (newList_is e) ?_
   (try clear e)
   intro hz e
   cases e
   rw [rt.ofNone q] at hs
   exact slice_list_ok (p3:=none) (t:=t) I l1 v1 bd q1 q2 hs h1 h2 none rfl (by decide) nofun (range_pick xs k1 k2 b2) hz
  ·rw [if_neg q] at e
   refine x1_2 (bind_is e) ?_
   (try clear e)
   intro k h4 e
   refine x0_2 (ite_of e) ?_
   (try clear e)
   intro hq_85 e
   subst hq_85
   refine x0_2 (newList_is e) ?_
   (try clear e)
   intro hz e
   cases e
   refine x1_1 (rt.ofInt h4) fun u hq_86=>?_
   subst hq_86
   exact slice_list_ok (p3:=some (2,u)) (t:=t) I l1 v1 bd q1 q2 hs h1 h2 (some 2) rfl (by decide) (by decide) (range_pick2 xs k1 k2 b2) hz
end
end Mine
namespace Mine
open PySem PySem.SeqAt
section
variable {B:Base} {A:Around} {F:Lay} {σ σ':Sto} {s:Shared} {d:Nat} {a b c v:V} {x y z:Value}
theorem VRs.inv1 {fa:Nat→Addr} {h:Heap} {F:Lay} {v:V} {xs:List Value} (r:VRs fa h F [v] xs):∃ x,xs=[x]∧VR fa h F v x:=by
 refine x2_3 (r.cons_is) ?_; (try clear r); intro x ys hq_87 a r
 apply q1 hq_87
 exact ⟨x,by rw [r.nil_is],a⟩
theorem VRs.inv2 {fa:Nat→Addr} {h:Heap} {F:Lay} {v w:V} {xs:List Value} (r:VRs fa h F [v,w] xs):∃ x y,xs=[x,y]∧VR fa h F v x∧VR fa h F w y:=by
 refine x2_3 (r.cons_is) ?_; (try clear r); intro x ys hq_88 a r
 apply q1 hq_88
 refine x1_2 (r.inv1) fun y hq_89 b=>?_
 apply q1 hq_89
 exact ⟨x,y,rfl,a,b⟩
theorem ints_ok {h:Heap}:∀ {xs:List V} {vs:List Value} {ns:List Int},VRs B.fa h F xs vs→intsOf xs=some ns→PyProof.Rows.IntsAre vs ns
 | [],_,_,r,e=>by cases e; rw [r.nil_is]; exact .nil
 | v :: r,_,_,q,e=>by
  refine x2_3 (q.cons_is) fun x vs hq_92 a q'=>?_
  apply q1 hq_92
  refine x2_3 (map2_is e) fun n ms h1 h2 hq_93=>?_
  apply q2 hq_93
  refine x1_1 (a.ofInt h1) fun t hq_94=>?_
  apply q1 hq_94
  exact .cons n t (ints_ok q' h2)
theorem sum_ints:∀ {xs:List V} {a n:Int},sumL xs a=some n→∃ ns,intsOf xs=some ns∧n=a+ns.sum
 | [],a,n,e=>by cases e; exact ⟨[],rfl,(Int.add_zero _).symm⟩
 | v :: r,a,n,e=>by
  refine x1_2 (bind_is e) ?_
  (try clear e)
  intro x h e
  refine x1_2 (sum_ints (xs:=r) (a:=a+x) e) fun ns h1 h2=>?_
  exact ⟨x :: ns,by unfold intsOf; rw [h,Option.bind_some,h1]; rfl,by rw [h2,List.sum_cons,Int.add_assoc]⟩
theorem bytes_ints:∀ {xs:List V} {l:List Nat},bytesOf xs=some l→∃ ns,intsOf xs=some ns∧(∀ n∈ns,0≤n∧n < 256)∧l=ns.map Int.toNat
 | [],l,e=>by cases e; exact ⟨[],rfl,fun ζ h=>(by cases h),rfl⟩
 | v :: r,l,e=>by
  refine x1_2 (bind_is e) ?_
  (try clear e)
  intro x h e
  refine x0_2 (ite_of e) ?_
  (try clear e)
  intro q e
  refine x1_2 (map_is e) fun m k hq_95=>?_
  apply q2 hq_95
  refine x1_3 (bytes_ints k) fun ns h1 h2 hq_96=>?_
  apply q1 hq_96
  refine ⟨x :: ns,by unfold intsOf; rw [h,Option.bind_some,h1]; rfl,fun n hn=>?_,rfl⟩
  rcases List.mem_cons.mp hn with rfl | hn
  ·exact q
  ·exact h2 n hn
theorem strs_ok {h:Heap}:∀ {xs:List V} {vs:List Value} {ss:List (List Nat)},VRs B.fa h F xs vs→strsOf xs=some ss→∃ l:List (Str × Tok),strValues l=vs∧l.map (·.1.cps.toList)=ss
 | [],_,_,r,e=>by cases e; rw [r.nil_is]; exact ⟨[],rfl,rfl⟩
 | v :: r,_,_,q,e=>by
  refine x2_3 (q.cons_is) fun x vs hq_97 a q'=>?_
  apply q1 hq_97
  refine x2_3 (map2_is e) fun n ms h1 h2 hq_98=>?_
  apply q2 hq_98
  refine x2_3 (a.ofStr h1) fun p t hq_99 e1 ζ=>?_
  apply q1 hq_99
  refine x1_2 (strs_ok q' h2) fun l h3 h4=>?_
  exact ⟨(p,t) :: l,by rw [← h3]; rfl,by rw [List.map_cons,e1,h4]⟩
theorem insS_perm (x:Int):∀ l:List Int,(insS x l).Perm (x :: l)
 | []=>List.Perm.refl _
 | y :: r=>by
  unfold insS
  split
  ·exact List.Perm.refl _
  ·exact ((insS_perm x r).cons y).trans (List.Perm.swap x y r)
theorem sortS_perm:∀ l:List Int,(sortS l).Perm l
 | []=>List.Perm.refl _
 | x :: r=>(insS_perm x _).trans ((sortS_perm r).cons x)
set_option tactic.hygienic true in
theorem insS_sorted (x:Int):∀ l:List Int,l.Pairwise (·≤·)→(insS x l).Pairwise (·≤·)
 | [],_=>List.pairwise_singleton _ _
 | y :: r,h=>by
  unfold insS
  rw [List.pairwise_cons] at h
  split
  ·rename_i q
   refine List.pairwise_cons.mpr ⟨fun z hz=>?_,List.pairwise_cons.mpr h⟩
   rcases List.mem_cons.mp hz with rfl | hz
   ·(first | lia | omega)
   ·have:=h.1 z hz; (first | lia | omega)
  ·rename_i q
   refine List.pairwise_cons.mpr ⟨fun z hz=>?_,insS_sorted x r h.2⟩
   rcases List.mem_cons.mp ((insS_perm x r).mem_iff.mp hz) with rfl | hz
   ·(first | lia | omega)
   ·exact h.1 z hz
theorem sortS_sorted:∀ l:List Int,(sortS l).Pairwise (·≤·)
 | []=>.nil
 | x :: r=>insS_sorted x _ (sortS_sorted r)
theorem sorted_unique {l m:List Int} (p:l.Perm m) (h1:l.Pairwise (·≤·)) (h2:m.Pairwise (·≤·)):l=m :=
 List.Perm.eq_of_pairwise (fun a b ζ ζ h h'=>Int.le_antisymm h h') h1 h2 p
theorem ints_back {h:Heap}:∀ {vs:List Value} {ns:List Int},PyProof.Rows.IntsAre vs ns→VRs B.fa h F (ns.map .int) vs
 | _,_,.nil=>.nil
 | _,_,.cons n t r=>.cons (.int n t) (ints_back r)
theorem max_step {a x n:Int} (h:(if x > a then x else a)≤n):a≤n∧x≤n:=by
 by_cases q:x > a
 ·rw [if_pos q] at h; exact ⟨Int.le_trans (Int.le_of_lt q) h,h⟩
 ·rw [if_neg q] at h; exact ⟨h,Int.le_trans (Int.not_lt.mp q) h⟩
theorem maxL_ints:∀ {xs:List V} {a n:Int},maxL xs a=some n→∃ ns,intsOf xs=some ns∧n∈a :: ns∧∀ m∈a :: ns,m≤n
 | [],a,n,e=>by cases e; exact ⟨[],rfl,.head _,fun m hm=>by cases List.mem_singleton.mp hm; exact Int.le_refl _⟩
 | v :: r,a,n,e=>by
  refine x1_2 (bind_is e) ?_
  (try clear e)
  intro x h e
  refine x1_3 (maxL_ints e) fun ns h1 h2 h3=>?_
  have h4:=max_step (h3 _ (.head _))
  refine ⟨x :: ns,by unfold intsOf; rw [h,Option.bind_some,h1]; rfl,?_,fun m hm=>?_⟩
  ·rcases List.mem_cons.mp h2 with h | h
   ·rw [h]
    by_cases q:x > a
    ·rw [if_pos q]; exact .tail _ (.head _)
    ·rw [if_neg q]; exact .head _
   ·exact .tail _ (.tail _ h)
  ·rcases List.mem_cons.mp hm with rfl | hm
   ·exact h4.1
   ·rcases List.mem_cons.mp hm with rfl | hm
    ·exact h4.2
    ·exact h3 m (.tail _ hm)
theorem getD_in {ns:List Int} {i:Nat} (h:i < ns.length):ns.getD i 0∈ns:=by
 rw [List.getD_eq_getElem?_getD,List.getElem?_eq_getElem h]; exact List.getElem_mem h
theorem in_getD {ns:List Int} {n:Int} (h:n∈ns):∃ j,j < ns.length∧n=ns.getD j 0:=by
 obtain ⟨j,hj,e⟩:=List.getElem_of_mem h
 exact ⟨j,hj,by rw [List.getD_eq_getElem?_getD,List.getElem?_eq_getElem hj]; exact e.symm⟩
theorem evAt {xs:List V} {items:Array Value} {h':Heap} {tk:Nat} {a:Addr} (I:Inv B F σ s) (k:∀ b o,s.heap.get? b=some o→h'.get? b=some o) (hl:h'.PlainList a items) (hd:s.heap.get? a=none) (hv:VRs B.fa h' F xs items.toList) (hz:xs.length≤maxLen) :
  ∃ G,Step B F s G { s with heap:=h',toks:=tk }∧PE B σ (.lst xs) (.ref a) (F++G) { s with heap:=h',toks:=tk } :=
 let ⟨_,e⟩:=hl
 evEnd (.all k) (I.all k tk) (.lst e (I.dead hd).2 hv hz)
noncomputable abbrev CO (B:Base) (A:Around) (F:Lay) (σ:Sto) (s:Shared) (f:Value) (xs:List Value) (v:V):Prop:=EvT B A F s (call f xs) (PE B σ v)
theorem len_list_ok (I:Inv B F σ s) {a1:Addr} {its:Array Value} {xs:List V} (l1:s.heap.PlainList a1 its) (v1:VRs B.fa s.heap F xs its.toList) (bd:xs.length≤maxLen):CO B A F σ s (.builtin "len") [.ref a1] (.int (xs.length:Nat)):=by
 have z1:xs.length=its.size:=v1.length.trans Array.length_toList
 rw [maxLen_eq] at bd
 refine Calls.call_function_entry kind_len plain_len entry_len (args_len1 _) ?_
 exact wpAny_len_body_list l1.isList (by omega) (by rw [← z1]; exact evTok _ I (.int _ _))
theorem sum_list_ok (R:Room A d) (I:Inv B F σ s) {a1:Addr} {its:Array Value} {xs:List V} (l1:s.heap.PlainList a1 its) (v1:VRs B.fa s.heap F xs its.toList) {n:Int} (k:sumL xs 0=some n):CO B A F σ s (.builtin "sum") [.ref a1] (.int n):=by
 refine x1_2 (sum_ints k) fun ns h1 hq_100=>?_
 apply q1 hq_100
 have hi:=ints_ok v1 h1
 refine x1_1 ((show AllInts its from hi.allInts).items) fun ys hy=>?_
 have hl:s.heap.IsList a1 (intItems ys):=hy▸l1.isList
 refine sum_intListG R.handled hl fun h' tk t' hk=>?_
 have en:preSum (numAt ys) ys.size=0+ns.sum:=by
  have e2:ns=ys.toList.map (·.1):=by
   rw [← nums_intItems,← hy]; exact hi.numsOf.symm
  rw [preSum_eq,List.take_of_length_le (Nat.le_of_eq (by rw [List.length_map,Array.length_toList])),e2,Int.zero_add]
 rw [en]
 exact evEnd (.all hk) (I.all hk tk) (.int _ _)
theorem max_list_ok (R:Room A d) (I:Inv B F σ s) {a1:Addr} {its:Array Value} {xs:List V} (l1:s.heap.PlainList a1 its) (v1:VRs B.fa s.heap F xs its.toList) {n:Int} (k:maxV xs=some n):CO B A F σ s (.builtin "max") [.ref a1] (.int n):=by
 cases xs with
 | nil=>exact noS k
 | cons v r =>
 refine x1_2 (bind_is k) ?_
 (try clear k)
 intro n0 h0 k
 refine x1_3 (maxL_ints k) fun ns h1 h2 h3=>?_
 have hi:=ints_ok (ns:=n0 :: ns) v1 (by unfold intsOf; rw [h0,Option.bind_some,h1]; rfl)
 refine x1_1 ((show AllInts its from hi.allInts).items) fun ys hy=>?_
 have hl:s.heap.IsList a1 (intItems ys):=hy▸l1.isList
 have e2:n0 :: ns=ys.toList.map (·.1):=by
  rw [← nums_intItems,← hy]; exact hi.numsOf.symm
 have hsz:0 < ys.size:=by
  have:=congrArg List.length e2
  rw [List.length_map,List.length_cons] at this
  exact Nat.lt_of_lt_of_eq (Nat.succ_pos _) this
 refine max_intList R.handled hl hsz fun w h' tk hv hk=>?_
 refine x1_1 (intItems_at hv) fun t hq_101=>?_
 apply q1 hq_101
 refine x0_2 (argBest_gt (numAt ys) (ys.size - 1)) fun g1 g2=>?_
 have en:numAt ys (argBest (fun i j=>decide (numAt ys i > numAt ys j)) (ys.size - 1))=n:=by
  refine Int.le_antisymm (h3 _ ?_) ?_
  ·rw [e2,numAt_eq]; exact getD_in (by rw [List.length_map]; exact Nat.lt_of_le_of_lt g1 (by rw [Array.length_toList]; exact Nat.sub_lt hsz Nat.one_pos))
  ·rw [e2] at h2
   refine x1_2 (in_getD h2) fun j hj hq_102=>?_
   apply q1 hq_102
   rw [List.length_map,Array.length_toList] at hj
   rw [← numAt_eq]; exact g2 j (Nat.le_sub_one_of_lt hj)
 rw [en]
 exact evEnd (.all hk) (I.all hk tk) (.int _ _)
theorem sorted_list_ok (I:Inv B F σ s) {a1:Addr} {its:Array Value} {xs:List V} (l1:s.heap.PlainList a1 its) (v1:VRs B.fa s.heap F xs its.toList) (k:sortV xs σ=some (v,σ')):CO B A F σ' s (.builtin "sorted") [.ref a1] v:=by
 refine x1_2 (bind_is k) ?_
 (try clear k)
 intro ns h1 k
 refine x0_2 (ite_of k) ?_
 (try clear k)
 intro h64 k
 refine x0_2 (newList_is k) ?_
 (try clear k)
 intro hz k
 cases k
 have hi:=ints_ok v1 h1
 refine PyProof.Rows.sorted_ints (vs:=its.toList) l1.isList hi (by rw [hi.length]; exact h64) fun out ns' g1 g2 g3=>?_
 refine x1_1 (PyProof.Rows.sortedAll_at s.heap its.toList out) fun n hn=>?_
 have en:ns'=sortS ns:=sorted_unique (g2.trans (sortS_perm ns).symm) g3 (sortS_sorted ns)
 refine evAt (tk:=s.toks) I (fun b o hb=>PyProof.Rows.sortedAll_old hb) ⟨n,hn⟩ ?_ (by rw [← en]; exact ints_back g1) hz
 cases q2:s.heap.get? (s.heap.objs.size+1) with
 | none=>rfl
 | some o=>exact absurd (Heap.lt_size q2) (Nat.not_lt_of_le (Nat.le_succ _))
theorem its_ok (I:Inv B F σ s) (ra:VR B.fa s.heap F a x) {xs:List V} (e:itsV a σ=some xs):∃ (a1:Addr) (its:Array Value),x=.ref a1∧s.heap.PlainList a1 its∧VRs B.fa s.heap F xs its.toList:=by
 rcases or_is e with e | e
 ·refine x2_4 (ra.asList I e) fun a1 its1 q l1 v1 ζ=>?_
  exact ⟨a1,its1,q,l1,v1⟩
 ·refine x1_2 (bind_is e) ?_
  (try clear e)
  intro i h1 e
  refine x1_3 (I.scrAt e) fun its1 l1 v1 ζ=>?_
  exact ⟨_,its1,ra.ofFn h1,l1,v1⟩
theorem len_ok (I:Inv B F σ s) (ra:VR B.fa s.heap F a x) (e:lenV a σ=some v):CO B A F σ s (.builtin "len") [x] v:=by
 rcases or_is e with e | e
 ·refine x1_2 (map_is e) fun l h1 hq_103=>?_
  apply q2 hq_103
  refine x2_3 (ra.ofStr h1) fun p t hq_104 e1 bd=>?_
  apply q1 hq_104
  rw [maxLen_eq] at bd
  refine PySem.P.len_str (by rw [str_len e1]; omega) ?_
  rw [str_len e1]
  exact evTok _ I (.int _ _)
 rcases or_is e with e | e
 ·refine x1_2 (map_is e) fun xs h1 hq_105=>?_
  apply q2 hq_105
  refine x2_4 (ra.asList I h1) fun a1 its1 hq_106 l1 v1 bd=>?_
  apply q1 hq_106
  exact len_list_ok I l1 v1 bd
 ·refine x2_3 (map2_is e) fun i xs h1 h2 hq_107=>?_
  apply q2 hq_107
  refine x1_3 (I.scrAt h2) fun its1 l1 v1 bd=>?_
  rw [ra.ofFn h1]
  exact len_list_ok I l1 v1 bd
theorem callB_ok (R:Room A d) (I:Inv B F σ s) {f:Bi} {as:List V} {xs:List Value} (r:VRs B.fa s.heap F as xs) (e:callB f as σ=some (v,σ')):CO B A F σ' s (.builtin f.id) xs v:=by
 cases f with
 | len =>
  refine x1_2 (one_is e) fun u hq_108 e0=>?_
  subst hq_108
  refine x1_2 (r.inv1) fun x1 hq_109 r1=>?_
  apply q1 hq_109
  refine x1_2 (map_is e0) ?_
  (try clear e0)
  intro w h e0
  apply p2 e0
  exact len_ok I r1 h
 | sum =>
  refine x1_2 (one_is e) fun u hq_110 e0=>?_
  subst hq_110
  refine x1_2 (r.inv1) fun x1 hq_111 r1=>?_
  apply q1 hq_111
  refine x2_3 (map2_is e0) ?_
  (try clear e0)
  intro ls n h1 h2 e0
  apply p2 e0
  refine x2_3 (its_ok I r1 h1) fun a1 its1 hq_112 l1 v1=>?_
  apply q1 hq_112
  exact sum_list_ok R I l1 v1 h2
 | max =>
  refine x1_2 (one_is e) fun u hq_113 e0=>?_
  subst hq_113
  refine x1_2 (r.inv1) fun x1 hq_114 r1=>?_
  apply q1 hq_114
  refine x2_3 (map2_is e0) ?_
  (try clear e0)
  intro ls n h1 h2 e0
  apply p2 e0
  refine x2_4 (r1.asList I h1) fun a1 its1 hq_115 l1 v1 ζ=>?_
  apply q1 hq_115
  exact max_list_ok R I l1 v1 h2
 | min =>
  refine x2_2 (two_is e) fun u w hq_116 e0=>?_
  subst hq_116
  refine x2_3 (r.inv2) fun x1 x2 hq_117 r1 r2=>?_
  apply q1 hq_117
  refine x2_3 (map2_is e0) ?_
  (try clear e0)
  intro i j h1 h2 e0
  apply p2 e0
  refine x1_1 (r1.ofInt h1) fun t hq_118=>?_
  apply q1 hq_118
  refine x1_1 (r2.ofInt h2) fun t' hq_119=>?_
  apply q1 hq_119
  refine min_two_ints R.handled fun h' tk hk=>?_
  by_cases q:j < i
  ·rw [if_pos q,if_pos q]; exact evEnd (.all hk) (I.all hk tk) (.int _ _)
  ·rw [if_neg q,if_neg q]; exact evEnd (.all hk) (I.all hk tk) (.int _ _)
 | sorted =>
  refine x1_2 (one_is e) fun u hq_120 e0=>?_
  subst hq_120
  refine x1_2 (r.inv1) fun x1 hq_121 r1=>?_
  apply q1 hq_121
  refine x1_2 (bind_is e0) ?_
  (try clear e0)
  intro ls h1 e0
  refine x2_4 (r1.asList I h1) fun a1 its1 hq_122 l1 v1 ζ=>?_
  apply q1 hq_122
  exact sorted_list_ok I l1 v1 e0
 | chr =>
  refine x1_2 (one_is e) fun u hq_123 e0=>?_
  subst hq_123
  refine x1_2 (r.inv1) fun x1 hq_124 r1=>?_
  apply q1 hq_124
  refine x1_2 (bind_is e0) ?_
  (try clear e0)
  intro i h1 e0
  refine x0_2 (ite_is e0) ?_
  (try clear e0)
  intro q e0
  apply p2 e0
  refine x1_1 (r1.ofInt h1) fun t hq_125=>?_
  apply q1 hq_125
  exact PySem.P.chr_of_int (by simp; (first | lia | omega)) (evTok _ I (.str _ rfl (by show 1≤1048576; decide)))
 | iter=>exact noS e
theorem rng3_is {a b c:Int} (e:rng3 a b c=some v):c≠0∧c.natAbs≤1048576∧v=.rng a b c:=by
 refine x0_2 (ite_is e) ?_
 (try clear e)
 intro q e
 rw [Bool.and_eq_true,Bool.and_eq_true] at q
 exact ⟨bne_iff_ne.mp q.2,of_decide_eq_true q.1.2,e.symm⟩
theorem IntsAre.cons_is {vs:List Value} {n:Int} {ns:List Int} (h:PyProof.Rows.IntsAre vs (n :: ns)):∃ t ws,vs=.int n t :: ws∧PyProof.Rows.IntsAre ws ns:=by
 cases h with | cons _ t r=>exact ⟨t,_,rfl,r⟩
theorem IntsAre.nil_is {vs:List Value} (h:PyProof.Rows.IntsAre vs []):vs=[]:=by cases h; rfl
theorem range_ok (R:Room A d) (I:Inv B F σ s) {as:List V} {xs:List Value} (r:VRs B.fa s.heap F as xs) (e:rngV as=some v):CO B A F σ s (.type "range") xs v:=by
 refine x1_2 (bind_is e) ?_
 (try clear e)
 intro ns h1 e
 have hi:=ints_ok r h1
 cases ns with
 | nil=>exact noS e
 | cons n ns =>
 refine x2_2 (IntsAre.cons_is hi) fun t ws hq_126 hi1=>?_
 apply q1 hq_126
 cases ns with
 | nil =>
  rw [IntsAre.nil_is hi1]
  refine x0_2 (ite_is e) ?_
  (try clear e)
  intro _ e
  apply q2 e
  exact call_range_1 (evPush I (.rng (IsRange.new ..)))
 | cons m ns =>
 refine x2_2 (IntsAre.cons_is hi1) fun u ws2 hq_127 hi2=>?_
 apply q1 hq_127
 cases ns with
 | nil =>
  rw [IntsAre.nil_is hi2]
  refine x0_2 (ite_is e) ?_
  (try clear e)
  intro _ e
  apply q2 e
  exact call_range_2 (evPush I (.rng (IsRange.new ..)))
 | cons l ns =>
 refine x2_2 (IntsAre.cons_is hi2) fun w ws3 hq_128 hi3=>?_
 apply q1 hq_128
 cases ns with
 | cons=>exact noS e
 | nil =>
 rw [IntsAre.nil_is hi3]
 refine x0_3 (rng3_is e) fun q1 q2 hq_129=>?_
 subst hq_129
 exact call_range_3 q1 (evPush I (.rng (IsRange.new ..))) (.inl (PyProof.noPylong_small (Nat.lt_of_le_of_lt q2 (by decide))))
theorem bytes_ok (R:Room A d) (I:Inv B F σ s) {a1:Addr} {its:Array Value} {ls:List V} {l:List Nat} (l1:s.heap.PlainList a1 its) (v1:VRs B.fa s.heap F ls its.toList) (bd:ls.length≤maxLen) (k:bytesOf ls=some l):CO B A F σ s (.type "bytes") [.ref a1] (.bytes l):=by
 refine x1_3 (bytes_ints k) fun ns h1 h2 hq_130=>?_
 apply q1 hq_130
 have hi:=ints_ok v1 h1
 have z0:ls.length=its.toList.length:=v1.length
 refine call_bytes_ints (vs:=its.toList) l1.isList hi h2 (by rw [← z0]; exact len_line bd) R.handled fun h' t k hk=>?_
 refine evEnd (.all hk) (I.all hk k) (.bytes _ ?_ ?_)
 ·unfold byteArr
  rw [List.toList_toArray,List.map_map]
  refine List.map_congr_left fun n hn=>?_
  have:=h2 n hn
  show UInt8.toNat (n.toNat.toUInt8)=_
  simp [Nat.toUInt8]; omega
 ·rw [List.length_map,← hi.length,← z0]; exact bd
theorem digits_ok:∀ k:Nat,k < 10→((k:Int).natAbs.log2 < 1920)∧(Str.ofString (toString (k:Int))).cps.toList=[48+(k:Int).toNat]:=by decide +kernel
theorem text_ok:∀ k:Nat,k < 58→48≤k→intText? ⟨#[k]⟩=some ((k:Int) - 48):=by decide +kernel
theorem callT_ok (R:Room A d) (I:Inv B F σ s) {f:Ty} {as:List V} {xs:List Value} (r:VRs B.fa s.heap F as xs) (e:callT f as σ=some (v,σ')):CO B A F σ' s (.type f.nm) xs v:=by
 cases f with
 | range =>
  refine x1_2 (map_is e) ?_
  (try clear e)
  intro w h e
  apply p2 e
  exact range_ok R I r h
 | bytes =>
  refine x1_2 (one_is e) fun u hq_131 e0=>?_
  subst hq_131
  refine x1_2 (r.inv1) fun x1 hq_132 r1=>?_
  apply q1 hq_132
  refine x2_3 (map2_is e0) ?_
  (try clear e0)
  intro ls l h1 h2 e0
  apply p2 e0
  refine x2_4 (r1.asList I h1) fun a1 its1 hq_133 l1 v1 bd=>?_
  apply q1 hq_133
  exact bytes_ok R I l1 v1 bd h2
 | type =>
  refine x1_2 (one_is e) fun u hq_134 e0=>?_
  subst hq_134
  refine x1_2 (r.inv1) fun x1 hq_135 r1=>?_
  apply q1 hq_135
  refine x1_2 (map_is e0) ?_
  (try clear e0)
  intro w h e0
  apply p2 e0
  rcases or_is h with h | h
  ·refine x1_2 (map_is h) fun l h' hq_136=>?_
   apply q2 hq_136
   refine x2_2 (r1.ofBytes h') fun p t hq_137 ζ=>?_
   apply q1 hq_137
   exact call_type_of (PySem.W.typeIs_bytes s _ _) (by decide) (evTok s.toks I (.ty .bytes))
  ·refine x1_2 (map_is h) fun l h' hq_138=>?_
   apply q2 hq_138
   rw [r1.ofBool h']
   exact call_type_of (Tx:="bool") rfl (by decide) (evTok s.toks I (.ty .bool))
 | str =>
  refine x1_2 (one_is e) fun u hq_139 e0=>?_
  subst hq_139
  refine x1_2 (r.inv1) fun x1 hq_140 r1=>?_
  apply q1 hq_140
  refine x2_3 (map2_is e0) ?_
  (try clear e0)
  intro n w h1 h2 e0
  apply p2 e0
  refine x0_2 (ite_is h2) fun q hq_141=>?_
  apply q2 hq_141
  refine x1_1 (r1.ofInt h1) fun t hq_142=>?_
  apply q1 hq_142
  have hk:=digits_ok n.toNat (by (first | lia | omega))
  rw [Int.toNat_of_nonneg q.1] at hk
  exact PySem.P.str_of_int hk.1 (evTok _ I (.str _ hk.2 (by show 1≤1048576; decide)))
 | int =>
  refine x1_2 (one_is e) fun u hq_143 e0=>?_
  subst hq_143
  refine x1_2 (r.inv1) fun x1 hq_144 r1=>?_
  apply q1 hq_144
  refine x2_3 (map2_is e0) ?_
  (try clear e0)
  intro l w h1 h2 e0
  apply p2 e0
  cases l with
  | nil=>exact noS h2
  | cons c l =>
  refine x0_2 (ite_is h2) fun q hq_145=>?_
  apply q2 hq_145
  have hl:=List.isEmpty_iff.mp q.1
  subst hl
  refine x2_3 (r1.ofStr h1) fun p t hq_146 e1 bd=>?_
  subst hq_146
  refine PySem.W.KIN.call_text ?_ (by rw [str_len e1]; show 1≤640; decide) (evTok _ I (.int _ _))
  have ex:p=⟨#[c]⟩:=by cases p; simp only [Str.mk.injEq]; exact Array.toList_inj.mp e1
  rw [ex]; exact text_ok c q.2.2 q.2.1
 | _=>exact noS e
end
end Mine
namespace Mine
open PySem
section
variable {B:Base} {A:Around} {F:Lay} {σ σ':Sto} {s:Shared} {d:Nat} {a b v:V} {x y:Value}
theorem occ_many (x y:Str) (hi limit:Nat) (hy:y.length=1):∀ (n lo:Nat) (st:Array Nat × Nat),st.snd≤lo→st.fst.size+n≤limit →
  (forIn (List.range' lo n) st (StrLaws.occBody x y hi limit)).run.fst.size=st.fst.size+(List.range' lo n).countP (fun i=>decide (i+1≤hi)&&Builtin.Str.subAt x y i)
 | 0,lo,st,_,_=>by simp
 | n+1,lo,st,h1,h2=>by
  rw [List.range'_succ,List.forIn_cons,List.countP_cons]
  unfold StrLaws.occBody
  by_cases hc:(((st.fst.size < limit∧st.snd≤lo)∧lo+y.length≤hi)∧Builtin.Str.subAt x y lo=true)
  ·rw [if_pos hc]
   have ih:=occ_many x y hi limit hy n (lo+1) (st.fst.push lo,lo+y.length) (by simp [hy]) (by simp; (first | lia | omega))
   have hp:(decide (lo+1≤hi)&&Builtin.Str.subAt x y lo)=true:=by rw [hc.2,Bool.and_true,decide_eq_true_eq]; rw [hy] at hc; exact hc.1.2
   rw [hp,if_pos rfl]
   refine ih.trans ?_
   simp; (first | lia | omega)
  ·rw [if_neg hc]
   have ih:=occ_many x y hi limit hy n (lo+1) st (by (first | lia | omega)) (by (first | lia | omega))
   have hp:(decide (lo+1≤hi)&&Builtin.Str.subAt x y lo)=false:=by
    cases q:(decide (lo+1≤hi)&&Builtin.Str.subAt x y lo) with
    | false=>rfl
    | true =>
     rw [Bool.and_eq_true,decide_eq_true_eq] at q
     exact absurd ⟨⟨⟨by (first | lia | omega),h1⟩,by rw [hy]; exact q.1⟩,q.2⟩ hc
   rw [hp,if_neg (by decide)]
   exact ih.trans (by (first | lia | omega))
theorem count_range (c:Nat):∀ (l:List Nat) (lo:Nat),(List.range' lo (l.length+1)).countP (fun i=>decide (i+1≤lo+l.length)&&((l[i - lo]?)==some c))=l.count c
 | [],lo=>by simp
 | e :: l,lo=>by
  rw [List.length_cons,List.range'_succ,List.countP_cons,List.count_cons,← count_range c l (lo+1)]
  congr 1
  ·refine List.countP_congr fun i hi=>?_
   rw [List.mem_range'_1] at hi
   have:i - lo=(i - (lo+1))+1:=by (first | lia | omega)
   rw [this,List.getElem?_cons_succ,show lo+(l.length+1)=lo+1+l.length by (first | lia | omega)]
  ·simp
theorem count_ok {x y:Str} {l:List Nat} {c:Nat} (h1:x.cps.toList=l) (h2:y.cps.toList=[c]):Txt.count x y=((l.count c:Nat):Int):=by
 show (((Builtin.Str.occurrences x y 0 x.length (x.length+1)).length:Nat):Int)=_
 congr 1
 have hy:y.length=1:=by rw [str_len h2]; rfl
 rw [StrLaws.occ_eq,Array.length_toList,occ_many x y _ _ hy (x.length+1 - 0) 0 (#[],0) (Nat.le_refl _) (by simp),← count_range c l 0,str_len h1]
 simp only [List.size_toArray,List.length_nil,Nat.zero_add,Nat.sub_zero]
 refine List.countP_congr fun i hi=>?_
 rw [List.mem_range'_1] at hi
 rw [Bool.and_eq_true,Bool.and_eq_true,decide_eq_true_eq]
 refine and_congr_right fun hl=>?_
 rw [StrLaws.subAt_eq,h1,h2,hy]
 have hil:i < l.length:=by omega
 rw [List.drop_eq_getElem_cons hil,List.getElem?_eq_getElem hil,List.take_succ_cons,List.take_zero]
 simp
theorem glue_list (sep:List Nat):∀ (ss:List (List Nat)) (x:List Nat),ss.foldl (fun acc p=>acc++sep++p) x=joinL sep (x :: ss)
 | [],x=>rfl
 | y :: r,x=>by
  rw [List.foldl_cons,glue_list sep r]
  cases r with
  | nil=>rfl
  | cons z r=>show _=x++sep++(y++sep++joinL sep (z :: r)); show x++sep++y++sep++joinL sep (z :: r)=_; simp
theorem foldl_cps (sep:Str):∀ (ps:List Str) (acc:Array Nat),(ps.foldl (fun acc p=>acc++sep.cps++p.cps) acc).toList=(ps.map (·.cps.toList)).foldl (fun acc p=>acc++sep.cps.toList++p) acc.toList
 | [],acc=>rfl
 | p :: ps,acc=>by rw [List.foldl_cons,foldl_cps sep ps,List.map_cons,List.foldl_cons]; simp
theorem join_cps (sep:Str) (ps:List Str):(Txt.join sep ps).cps.toList=joinL sep.cps.toList (ps.map (·.cps.toList)):=by
 show ((ps.drop 1).foldl (fun acc p=>acc++sep.cps++p.cps) (ps.headD Str.empty).cps).toList=_
 rw [foldl_cps]
 cases ps with
 | nil=>rfl
 | cons p ps=>exact glue_list _ _ _
theorem join_sum (sep:List Nat):∀ ss:List (List Nat),ss≠[]→(joinL sep ss).length+sep.length=(ss.map fun x=>x.length+sep.length).sum
 | [],h=>absurd rfl h
 | [x],_=>by simp [joinL]
 | x :: y :: r,_=>by
  show (x++sep++joinL sep (y :: r)).length+_=_
  rw [List.map_cons,List.sum_cons,← join_sum sep (y :: r) (by simp)]
  simp only [List.length_append]; (first | lia | omega)
theorem fold_sum (k:Nat):∀ (ps:List Str) (n:Nat),ps.foldl (fun a p=>a+p.length+k) n=n+(ps.map fun p=>p.length+k).sum
 | [],n=>by simp
 | p :: ps,n=>by rw [List.foldl_cons,fold_sum k ps,List.map_cons,List.sum_cons]; (first | lia | omega)
theorem joinOk_of {sep:Str} {ps:List Str} (hs:sep.length≤maxLen) (h:(joinL sep.cps.toList (ps.map (·.cps.toList))).length≤maxLen):JoinOk sep ps=true:=by
 unfold JoinOk
 rw [Bool.not_eq_true']
 have e:ps.toArray.foldl (·+·.length+sep.length) 0=(ps.map fun p=>p.length+sep.length).sum:=by
  rw [List.foldl_toArray',fold_sum,Nat.zero_add]
  rfl
 rw [e]
 unfold Builtin.Str.tooLong
 refine decide_eq_false ?_
 cases ps with
 | nil=>simp
 | cons p ps =>
  have:=join_sum sep.cps.toList ((p :: ps).map (·.cps.toList)) (by simp)
  rw [List.map_map] at this
  have e2:((fun x:List Nat=>x.length+sep.cps.toList.length) ∘ fun x:Str=>x.cps.toList)=fun p:Str=>p.length+sep.length:=by
   funext p
   show p.cps.toList.length+sep.cps.toList.length=_
   rw [Array.length_toList,Array.length_toList]; rfl
  rw [e2] at this
  rw [← this,sizeLine_eq]
  have h2:sep.cps.toList.length=sep.length:=Array.length_toList
  rw [h2]
  unfold maxLen at hs h
  (first | lia | omega)
theorem first_ok {h:Heap} (rb:VR B.fa h F b y):∀ {as:List V} {xs:List Value} {k n:Nat},VRs B.fa h F as xs→inL b as=some true→firstL b as k=some n →
  ∃ j,n=k+j∧(∃ p,xs[j]?=some p∧eqC p y=true)∧∀ m p,m < j→xs[m]?=some p→eqC p y=false
 | [],_,k,n,_,e1,_=>by cases e1
 | u :: as,_,k,n,r,e1,e2=>by
  refine x2_3 (r.cons_is) fun x xs hq_147 ra r'=>?_
  apply q1 hq_147
  refine x2_3 (map2_is e1) fun c c2 q q2 hc=>?_
  have eq:=(eqS_ok ra rb q).2.2.2
  have e2':(if eqS u b=some true then some k else firstL b as (k+1))=some n:=e2
  rw [q] at e2'
  cases c with
  | true =>
   rw [if_pos rfl] at e2'; apply s1 e2'
   exact ⟨0,rfl,⟨x,rfl,eq⟩,fun m p hm=>absurd hm (Nat.not_lt_zero _)⟩
  | false =>
   rw [if_neg (by decide)] at e2'
   have hc:c2=true:=hc
   subst hc
   refine x1_3 (first_ok rb r' q2 e2') fun j hq_148 hw_149 hn=>?_
   apply q1 hq_148
   refine x1_2 (hw_149) fun p hp hq=>?_
   refine ⟨j+1,Nat.add_right_comm k 1 j,⟨p,hp,hq⟩,fun m p' hm hp'=>?_⟩
   cases m with
   | zero=>cases hp'; exact eq
   | succ m=>exact hn m p' (Nat.lt_of_succ_lt_succ hm) hp'
theorem head_cons {α:Type} {l:List α} {n:α} (h:l.head?=some n):∃ r,l=n :: r:=by
 cases l with
 | nil=>exact noS h
 | cons p r=>cases h; exact ⟨r,rfl⟩
noncomputable def recvT:Nat→String
 | 0=>"str"
 | _=>"list"
theorem recv_str {l:List Nat} (h:strV a=some l):recv σ a=some 0:=by rw [strV_is h]; rfl
theorem recv_cell {i:Nat} {xs:List V} (e:σ[i]?=some (.list xs)):recv σ (.ref i)=some 1:=by
 show (match σ[i]? with
  | some (.list _)=>some 1
  | some (.lex ..)=>some 2
  | _=>none)=_
 rw [e]
theorem recv_ref {i:Nat} {xs:List V} (h:refV a=some i) (e:vlist σ i=some xs):recv σ a=some 1:=by
 rw [refV_is h]; exact recv_cell (vlist_is e)
theorem recv_ls {xs:List V} (e:lsV σ a=some xs):recv σ a=some 1:=by
 cases a with
 | ref i=>exact recv_ref rfl e
 | lst=>rfl
 | _=>exact noS e
theorem recv_list {a1:Addr} {its:Array Value} (l1:s.heap.PlainList a1 its):PlainAttrs "list"∧s.TypeIs (.ref a1) "list"∧(∀ l,Value.ref a1=.ref l→∃ ob,s.heap.get? l=some ob∧ob.dict=none) :=
 let ⟨_,l1⟩:=l1; ⟨PySem.F.plainAttrs_list,⟨_,l1,rfl⟩,fun l q=>by rw [← Value.ref.inj q]; exact ⟨_,l1,rfl⟩⟩
set_option tactic.hygienic true in
theorem recv_ok (I:Inv B F σ s) (r:VR B.fa s.heap F a x) {k:Nat} (e:recv σ a=some k) (hk:k≠2):PlainAttrs (recvT k)∧s.TypeIs x (recvT k)∧(∀ l,x=.ref l→∃ ob,s.heap.get? l=some ob∧ob.dict=none):=by
 cases a with
 | str l =>
  apply s1 e
  refine x2_2 (r.str_is) fun p t hq_150 _=>?_
  apply q1 hq_150
  exact ⟨PySem.F.plainAttrs_str,typeIs_str _ _ _,fun _ q=>nomatch q⟩
 | ref i =>
  have e:(match σ[i]? with
   | some (.list _)=>some 1
   | some (.lex ..)=>some 2
   | _=>none)=some k:=e
  split at e
  ·rename_i ls q
   apply s1 e
   obtain ⟨_,f1,a1,its1,hq_151,l1,_⟩:=I.at1 q rfl
   subst hq_151
   rw [r.refAt f1]
   exact recv_list l1
  ·cases e; exact absurd rfl hk
  ·exact noS e
 | lst xs =>
  apply s1 e
  refine x2_3 (r.asLst) fun a1 its1 hq_152 l1 _=>?_
  apply q1 hq_152
  exact recv_list l1
 | _=>exact noS e
noncomputable def methId:Nat→Me→String
 | 0,.index=>"str.index"
 | 0,.join=>"str.join"
 | 0,.count=>"str.count"
 | 1,.append=>"list.append"
 | 1,.extend=>"list.extend"
 | 1,.index=>"list.index"
 | 1,.pop=>"list.pop"
 | _,_=>""
noncomputable def SlotO (k:Nat) (m:Me):Prop:=Slot (recvT k) m.nm (methId k m)∧typeOf (.builtin (methId k m))=pure (.type "method_descriptor")
noncomputable abbrev MethO (B:Base) (A:Around) (F:Lay) (s:Shared) (x:Value) (m:Me) (xs:List Value) (r:V × Sto) (k:Nat):Prop:=EvT B A F s (call (.builtin (methId k m)) (x :: xs)) (PE B r.2 r.1)
theorem kind_now {as:List V} {r:V × Sto} {m:Me} (e:methV a m as σ=some r):∃ k,recv σ a=some k∧k≠2∧SlotO k m:=by
 cases m with
 | append=>refine x1_2 (bind_is e) ?_; (try clear e); intro i h e; refine x1_2 (one_is e) ?_; (try clear e); intro u _ e; refine x1_2 (bind_is e) fun xs q ζ=>?_; exact ⟨1,recv_ref h q,by decide,PySem.F.slot_list_append,PySem.F.type_list_append⟩
 | pop=>refine x1_2 (bind_is e) ?_; (try clear e); intro i h e; refine x1_2 (one_is e) ?_; (try clear e); intro u _ e; refine x1_2 (bind_is e) ?_; (try clear e); intro k _ e; refine x0_2 (ite_of e) ?_; (try clear e); intro _ e; refine x1_2 (bind_is e) fun xs q ζ=>?_; exact ⟨1,recv_ref h q,by decide,PySem.F.slot_list_pop,PySem.F.type_list_pop⟩
 | extend=>refine x1_2 (bind_is e) ?_; (try clear e); intro i h e; refine x1_2 (one_is e) ?_; (try clear e); intro u _ e; refine x1_2 (bind_is e) ?_; (try clear e); intro ys _ e; refine x1_2 (bind_is e) fun xs q ζ=>?_; exact ⟨1,recv_ref h q,by decide,PySem.F.slot_list_extend,PySem.F.type_list_extend⟩
 | index =>
  rcases or_is e with e | e
  ·refine x1_2 (bind_is e) fun l h ζ=>?_; exact ⟨0,recv_str h,by decide,PySem.F.slot_str_index,PySem.F.type_str_index⟩
  ·refine x1_2 (bind_is e) fun xs q ζ=>?_; exact ⟨1,recv_ls q,by decide,PySem.F.slot_list_index,PySem.F.type_list_index⟩
 | join=>refine x1_2 (bind_is e) fun l h ζ=>?_; exact ⟨0,recv_str h,by decide,PySem.F.slot_str_join,PySem.F.type_str_join⟩
 | count=>refine x1_2 (bind_is e) fun l h ζ=>?_; exact ⟨0,recv_str h,by decide,PySem.F.slot_str_count,PySem.F.type_str_count⟩
 | _=>exact noS e
theorem pop_toList {its:Array Value} {y:Value} {ys:List Value} (h:its.toList=y :: ys):(its.eraseIdxIfInBounds 0).toList=ys:=by
 have z1:0 < its.size:=by rw [← Array.length_toList,h]; exact Nat.succ_pos _
 rw [show its.eraseIdxIfInBounds 0=its.eraseIdx 0 z1 from by simp [Array.eraseIdxIfInBounds,z1],Array.toList_eraseIdx,h]; rfl
theorem seq0 {n:Nat} (h:0 < n):seqIndex? 0 n=some 0:=by
 have h1:(decide ((0:Int)≤0)&&decide ((0:Int) < (n:Nat)))=true:=by simpa using h
 show (if (decide ((0:Int)≤0)&&decide ((0:Int) < (n:Nat)))=true then some (0:Int).toNat else none)=some 0
 rw [h1]; rfl
theorem append_ok (I:Inv B F σ s) {i:Nat} {ls:List V} {w:V} {x1:Value} (rx:VR B.fa s.heap F (.ref i) x) (q:vlist σ i=some ls) (r1:VR B.fa s.heap F w x1) (hz:ls.length < maxLen):EvT B A F s (call (.builtin "list.append") [x,x1]) (PE B (σ.set i (.list (ls++[w]))) .none):=by
 refine x2_4 (I.listAt q) fun a1 its1 f1 l1 v1 bd=>?_
 rw [rx.refAt f1]
 have z1:ls.length=its1.size:=v1.length.trans Array.length_toList
 refine wpAny_list_append_plain l1 (fun h' hl hs=>⟨[],.of_upd (tk:=s.toks) f1 hs,?_⟩) (by rw [sizeLine_eq,← z1]; unfold maxLen at bd; (first | lia | omega))
 rw [List.append_nil]
 exact ⟨I.upd (tk:=s.toks) f1 hs hl (by rw [Array.toList_push]; exact v1.append (.one r1)) (by rw [List.length_append,List.length_singleton]; exact hz),.none⟩
theorem extend_ok (I:Inv B F σ s) {i:Nat} {ls ms:List V} {x1:Value} (rx:VR B.fa s.heap F (.ref i) x) (ry:VR B.fa s.heap F b x1) (q1:vlist σ i=some ls) (q2:lsV σ b=some ms) (hz:ls.length+ms.length≤maxLen):EvT B A F s (call (.builtin "list.extend") [x,x1]) (PE B (σ.set i (.list (ls++ms))) .none):=by
 refine x2_4 (I.listAt q1) fun a1 its1 f1 hw_153 v1 bd=>?_
 refine x1_1 (hw_153) fun n1 l1=>?_
 refine x2_4 (ry.asList I q2) fun a2 its2 hq_154 hw_155 v2 bd2=>?_
 subst hq_154
 refine x1_1 (hw_155) fun n2 l2=>?_
 rw [rx.refAt f1]
 have z1:ls.length=its1.size:=v1.length.trans Array.length_toList
 have z2:ms.length=its2.size:=v2.length.trans Array.length_toList
 have hz':its1.size+its2.size≤1048576:=by rw [← z1,← z2]; exact hz
 refine call_meets PySem.F.slot_list_extend ⟨_,l1,rfl⟩ PySem.F.entry_list_extend (PySem.F.args_list_extend_2 _ _) (AutoSeq1.list_extend_list_list_0 a1 its1 n1 a2 its2 n2 ?_ (by rw [sizeLine_eq]; (first | lia | omega)) (by rw [sizeLine_eq]; (first | lia | omega))) ⟨l1,l2,?_⟩
 ·unfold Builtin.List.listTooLong
  rw [sizeLine_eq,decide_eq_false (by (first | lia | omega))]; simp
 ·refine ⟨[],.of_upd (tk:=s.toks) f1 (Heap.SameBut.update ..),?_⟩
  rw [List.append_nil]
  have em:Obj.mapSeq (fun x=>x++its2) { cls:=.type "list",data:=.seq its1 n1 }={ cls:=.type "list",data:=.seq (its1++its2) (if (its1++its2).size==its1.size then n1 else n1+1) }:=rfl
  exact ⟨I.upd (tk:=s.toks) f1 (Heap.SameBut.update ..) ⟨_,by rw [Heap.get?_update_self _ l1 (by rw [em]; rfl),em]⟩ (by rw [Array.toList_append]; exact v1.append v2) (by rw [List.length_append]; exact hz),.none⟩
theorem pop_ok (I:Inv B F σ s) {i:Nat} {ls:List V} {w:V} {t:Tok} (rx:VR B.fa s.heap F (.ref i) x) (q:vlist σ i=some (w :: ls)):EvT B A F s (call (.builtin "list.pop") [x,.int 0 t]) (PE B (σ.set i (.list ls)) w):=by
 refine x2_4 (I.listAt q) fun a1 its1 f1 hw_156 v1 bd=>?_
 refine x1_1 (hw_156) fun n1 l1=>?_
 rw [rx.refAt f1]
 have z1:ls.length+1=its1.size:=v1.length.trans Array.length_toList
 refine x2_3 (v1.cons_is) fun y ys hit ry rys=>?_
 have hy:its1[0]?=some y:=by rw [← Array.getElem?_toList,hit]; rfl
 have bd1:ls.length+1≤maxLen:=bd
 have bd':its1.size≤1048576:=by rw [← z1]; exact bd1
 refine call_meets PySem.F.slot_list_pop ⟨_,l1,rfl⟩ PySem.F.entry_list_pop (PySem.F.args_list_pop_2 _ _) (PySem.MeetsSeq.list_pop_at a1 its1 n1 0 t 0 y (by decide) (seq0 (by rw [← z1]; exact Nat.succ_pos _)) hy (by rw [sizeLine_eq]; (first | lia | omega))) ⟨l1,?_⟩
 obtain ⟨m,em⟩:∃ m,Obj.mapSeq (fun x=>x.eraseIdxIfInBounds 0) { cls:=.type "list",data:=.seq its1 n1 }={ cls:=.type "list",data:=.seq (its1.eraseIdxIfInBounds 0) m }:=⟨_,rfl⟩
 refine ⟨[],.of_upd (tk:=s.toks) f1 (Heap.SameBut.update ..),?_⟩
 rw [List.append_nil]
 exact ⟨I.upd (tk:=s.toks) f1 (Heap.SameBut.update ..) ⟨_,by rw [Heap.get?_update_self _ l1 (by rw [em]; rfl),em]⟩ (ys:=ls) (by rw [pop_toList hit]; exact rys) (Nat.le_of_succ_le bd1),ry.step (.of_kept (.of_same (Heap.SameBut.update ..)) fun b o w e=>I.mut (flat_mem f1.2 (w▸.head _)) o e)⟩
theorem index_ok (I:Inv B F σ s) {n:Nat} {ls:List V} {w:V} {x1:Value} (rx:VR B.fa s.heap F a x) (q:lsV σ a=some ls) (r1:VR B.fa s.heap F w x1) (q2:indexL w ls=some n):EvT B A F s (call (.builtin "list.index") [x,x1]) (PE B σ (.int (n:Nat))):=by
 refine x2_4 (rx.asList I q) fun a1 its1 hq_157 hw_158 v1 bd=>?_
 subst hq_157
 refine x1_1 (hw_158) fun n1 l1=>?_
 have z1:ls.length=its1.size:=v1.length.trans Array.length_toList
 rw [maxLen_eq] at bd
 refine x1_2 (bind_is q2) fun c q3 q4=>?_
 refine x0_2 (ite_of q4) ?_
 (try clear q4)
 intro hq_159 q4
 subst hq_159
 refine x1_3 (first_ok r1 v1 q3 q4) fun j hnj hw_160 hn=>?_
 refine x1_2 (hw_160) fun p hp hq=>?_
 rw [Nat.zero_add] at hnj
 subst hnj
 rw [Array.getElem?_toList] at hp
 obtain ⟨hj,hpj⟩:=Array.getElem?_eq_some_iff.mp hp
 have hin:=(inL_ok r1 v1 q3).1
 refine call_meets PySem.F.slot_list_index ⟨_,l1,rfl⟩ PySem.F.entry_list_index (PySem.F.args_list_index_2 _ _) (SeqAt.list_indexAt a1 its1 n1 none #[] x1 (fun p=>eqC p x1) n hj (by (first | lia | omega)) (by rw [hpj]; exact hq) fun m hm hmj=>hn m _ hmj (by rw [Array.getElem?_toList,Array.getElem?_eq_getElem hm])) ⟨l1,fun y hy=>hin y (Array.mem_toList_iff.mpr hy) _ _,evTok _ I (.int _ _)⟩
theorem join_ok (I:Inv B F σ s) {sep:List Nat} {ls:List V} {ss:List (List Nat)} {X:Str} {t:Tok} {a1:Addr} {its:Array Value} (e1:X.cps.toList=sep) (b1:sep.length≤maxLen) (l1:s.heap.PlainList a1 its) (v1:VRs B.fa s.heap F ls its.toList) (q2:strsOf ls=some ss) (hz:(joinL sep ss).length≤maxLen):EvT B A F s (call (.builtin "str.join") [.str X t,.ref a1]) (PE B σ (.str (joinL sep ss))):=by
 refine x1_2 (strs_ok v1 q2) fun l hl hs=>?_
 subst e1
 have hs':ss=(l.map (·.1)).map (·.cps.toList):=by rw [← hs,List.map_map]; rfl
 subst hs'
 exact SC.join (l:=l) (texts:=l.map (·.1)) (by rw [hl]; exact l1.isList) rfl (joinOk_of (by rw [← str_len rfl] at b1; exact b1) hz) fun t' k=>evTok _ I (.str _ (join_cps _ _) hz)
theorem meth_all (R:Room A d) (I:Inv B F σ s) (rx:VR B.fa s.heap F a x) {m:Me} {as:List V} {xs:List Value} (r:VRs B.fa s.heap F as xs) {p:V × Sto} (e:methV a m as σ=some p):∃ k,recv σ a=some k∧MethO B A F s x m xs p k:=by
 cases m with
 | append =>
  refine x1_2 (bind_is e) fun i h e1=>?_
  refine x1_2 (one_is e1) fun u hq_161 e2=>?_
  subst hq_161
  refine x1_2 (bind_is e2) fun ls q e3=>?_
  refine x0_2 (ite_is e3) fun hz hq_162=>?_
  subst hq_162
  refine x1_2 (r.inv1) fun x1 hq_163 r1=>?_
  apply q1 hq_163
  exact ⟨1,recv_ref h q,append_ok I (rx.asRef h) q r1 hz⟩
 | pop =>
  refine x1_2 (bind_is e) fun i h e1=>?_
  refine x1_2 (one_is e1) fun u hq_164 e2=>?_
  subst hq_164
  refine x1_2 (bind_is e2) fun k hk e3=>?_
  refine x0_2 (ite_of e3) fun hq_165 e4=>?_
  subst hq_165
  refine x1_2 (bind_is e4) fun ls q e5=>?_
  refine x1_2 (map_is e5) fun w hw hq_166=>?_
  subst hq_166
  refine x1_2 (r.inv1) fun x1 hq_167 r1=>?_
  apply q1 hq_167
  refine x1_1 (r1.ofInt hk) fun t hq_168=>?_
  apply q1 hq_168
  cases ls with
  | nil=>exact noS hw
  | cons v ls =>
   cases hw
   exact ⟨1,recv_ref h q,pop_ok I (rx.asRef h) q⟩
 | extend =>
  refine x1_2 (bind_is e) fun i h e1=>?_
  refine x1_2 (one_is e1) fun u hq_169 e2=>?_
  subst hq_169
  refine x2_3 (bin2_is e2) fun ms ls q2 q1 e4=>?_
  refine x0_2 (ite_is e4) fun hz hq_170=>?_
  subst hq_170
  refine x1_2 (r.inv1) fun x1 hq_171 r1=>?_
  subst hq_171
  exact ⟨1,recv_ref h q1,extend_ok I (rx.asRef h) r1 q1 q2 hz.2⟩
 | index =>
  rcases or_is e with e1 | e1
  ·refine x1_2 (bind_is e1) fun l h e2=>?_
   refine x1_2 (one_is e2) fun u hq_172 e3=>?_
   subst hq_172
   refine x1_2 (bind_is e3) fun k h2 e4=>?_
   refine x1_2 (map_is e4) fun n q hq_173=>?_
   subst hq_173
   refine x1_2 (r.inv1) fun x1 hq_174 r1=>?_
   apply q1 hq_174
   refine x2_3 (rx.ofStr h) fun p1 t hq_175 f1 bd=>?_
   apply q1 hq_175
   refine x2_3 (r1.ofStr h2) fun p2 t2 hq_176 f2 bd2=>?_
   apply q1 hq_176
   have:=occ_sub f1 f2
   rw [q] at this
   refine x1_1 (head_cons this) fun rest hr=>?_
   exact ⟨0,recv_str h,SC.index hr (evTok _ I (.int _ _))⟩
  ·refine x1_2 (bind_is e1) fun ls q e2=>?_
   refine x1_2 (one_is e2) fun u hq_177 e3=>?_
   subst hq_177
   refine x1_2 (map_is e3) fun n q2 hq_178=>?_
   subst hq_178
   refine x1_2 (r.inv1) fun x1 hq_179 r1=>?_
   apply q1 hq_179
   exact ⟨1,recv_ls q,index_ok I rx q r1 q2⟩
 | join =>
  refine x1_2 (bind_is e) fun sep h e1=>?_
  refine x1_2 (one_is e1) fun u hq_180 e2=>?_
  subst hq_180
  refine x2_3 (bin2_is e2) fun ls ss q1 q2 e3=>?_
  refine x0_2 (ite_is e3) fun hz hq_181=>?_
  subst hq_181
  refine x1_2 (r.inv1) fun x1 hq_182 r1=>?_
  subst hq_182
  refine x2_3 (rx.ofStr h) fun p1 t hq_183 f1 bd=>?_
  subst hq_183
  refine x2_4 (r1.asList I q1) fun a1 its1 hq_184 l1 v1 ζ=>?_
  subst hq_184
  exact ⟨0,recv_str h,join_ok I f1 bd l1 v1 q2 hz⟩
 | count =>
  refine x1_2 (bind_is e) fun l h e1=>?_
  refine x1_2 (one_is e1) fun u hq_185 e2=>?_
  subst hq_185
  refine x1_2 (bind_is e2) fun k h2 e3=>?_
  refine x0_2 (ite_is e3) fun hz hq_186=>?_
  subst hq_186
  refine x1_2 (r.inv1) fun x1 hq_187 r1=>?_
  apply q1 hq_187
  refine x2_3 (rx.ofStr h) fun p1 t hq_188 f1 bd=>?_
  apply q1 hq_188
  refine x2_3 (r1.ofStr h2) fun p2 t2 hq_189 f2 bd2=>?_
  apply q1 hq_189
  refine x1_1 (List.length_eq_one_iff.mp hz) fun c hq_190=>?_
  subst hq_190
  exact ⟨0,recv_str h,SC.count (by rw [count_ok f1 f2]; exact evTok _ I (.int _ _))⟩
 | _=>exact noS e
theorem recv_now {m:Me} {as:List V} {r:V × Sto} {σ₁:Sto} {k:Nat} (hk:recv σ₁ a=some k) (h2:k≠2) (e:methV a m as σ=some r):recv σ a=some k∧SlotO k m:=by
 refine x1_3 (kind_now e) fun k' q h3 o=>?_
 cases a with
 | str l=>cases hk; cases q; exact ⟨rfl,o⟩
 | ref i =>
  have f:∀ (ob:Option O) (k:Nat),(match ob with
   | some (.list _)=>some 1
   | some (.lex ..)=>some 2
   | _=>none)=some k→k=1∨k=2:=fun ob k h=>by
   split at h
   ·cases h; exact .inl rfl
   ·cases h; exact .inr rfl
   ·exact noS h
  have h1:k=1:=(f _ _ hk).resolve_right h2
  apply q1 h1
  have h4:k'=1:=(f _ _ q).resolve_right h3
  subst h4
  exact ⟨q,o⟩
 | lst xs=>cases hk; cases q; exact ⟨rfl,o⟩
 | _=>exact noS hk
theorem meth_ok (R:Room A d) (I:Inv B F σ s) (rx:VR B.fa s.heap F a x) {m:Me} {as:List V} {xs:List Value} (r:VRs B.fa s.heap F as xs) {k:Nat} (hk:recv σ a=some k) (e:methV a m as σ=some (v,σ')):MethO B A F s x m xs (v,σ') k:=by
 refine x1_2 (meth_all (A:=A) R I rx r e) fun k' h o=>?_
 rw [hk] at h
 cases h
 exact o
end
end Mine
namespace Mine
open PySem
noncomputable def PlainIt (o:Obj):Prop:=∀ n vs,o.cls=.type n→o.data=.fields vs→["enumerate","zip","dict_itemiterator","dict_reverseitemiterator","odict_iterator","itertools.zip_longest","itertools.pairwise"].contains n=false
theorem plainIt_of {o:Obj} {n:String} (c:o.cls=.type n) (h:["enumerate","zip","dict_itemiterator","dict_reverseitemiterator","odict_iterator","itertools.zip_longest","itertools.pairwise"].contains n=false):PlainIt o:=fun m ζ e ζ=>by rw [c] at e; cases e; exact h
noncomputable def ItR (B:Base) (h:Heap) (F:Lay) (I:Addr) (k:Nat):It→Prop
 | .live j=>∃ a,Fat F j [a]∧h.IsListIter I a k
 | .items vs=>∃ (n:Nat) (fp:List Addr) (P:Nat→Value→Prop) (St:Nat→Heap→Prop),n=vs.length∧(∀ A:Around,A.handled=none→Walks B.prog B.w A I fp [I] n P St)∧St k h ∧
   (∀ i v,i < n→P i v→∃ u,vs[i]?=some u∧VR B.fa h F u v)∧(∀ b∈fp,b=I∨∃ o,h.get? b=some o∧Imm o∧(Ls o→b∉F.flatten))∧∀ k h,St k h→∃ o,h.get? I=some o∧¬ Imm o∧PlainIt o
section
variable {B:Base} {A:Around} {F G:Lay} {σ σ':Sto} {s:Shared} {d:Nat} {a b v:V} {x y:Value} {I:Addr} {k:Nat} {it:It}
theorem ItR.step {h h':Heap} (r:ItR B h F I k it) (hI:∀ o,h.get? I=some o→h'.get? I=some o) (m:Mv F G h h'):ItR B h' G I k it:=by
 cases it with
 | live j=>refine x1_2 (r) fun a e q=>?_; exact ⟨a,m.kf _ _ e,q.at hI⟩
 | items vs =>
  refine x4_6 (r) fun n fp P St en W st hP hf hn=>?_
  refine ⟨n,fp,P,St,en,W,(W {} rfl).frame k h h' st fun b hb o e=>?_,fun i v hi p=>let ⟨u,e,q⟩:=hP i v hi p; ⟨u,e,q.step m⟩,fun b hb=>(hf b hb).imp id fun ⟨o,e,i,z⟩=>⟨o,m.im b o e i z,i,fun l=>m.kg b o e i l (z l)⟩,hn⟩
  rcases hf b hb with rfl | ⟨o',e',i,z⟩
  ·exact hI o e
  ·rw [e] at e'; cases e'; exact m.im b o e i z
theorem ItR.live' {h:Heap} (r:ItR B h F I k it):∃ o,h.get? I=some o∧¬ Imm o∧PlainIt o:=by
 cases it with
 | live j=>obtain ⟨a,e,o,q,c,_⟩:=r; exact ⟨o,q,no_cls c rfl,plainIt_of c (by decide)⟩
 | items vs=>refine x4_6 (r) fun n fp P St en W st hP hf hn=>?_; exact hn _ _ st
theorem ItR.live_ {h:Heap} (r:ItR B h F I k it):∃ o,h.get? I=some o∧¬ Imm o:=let ⟨o,e,n,_⟩:=r.live'; ⟨o,e,n⟩
structure ItP (B:Base) (F:Lay) (σ:Sto) (it:It) (s:Shared) (I:Addr) (s':Shared):Prop where
 inv:Inv B F σ s'
 dead:s.heap.get? I=none
 keep:∀ b o,s.heap.get? b=some o→s'.heap.get? b=some o
 itr:ItR B s'.heap F I 0 it
theorem ItP.push {o:Obj} (Iv:Inv B F σ s) (r:ItR B (s.heap.push o) F s.heap.objs.size 0 it):ItP B F σ it s s.heap.objs.size { s with heap:=s.heap.push o } :=
 ⟨Iv.push o s.toks,dead_size _,fun ζ ζ e=>Heap.get?_push_of_some o e,r⟩
theorem size_bounds (a b c:Int) (ha:a.natAbs≤1048576) (hb:b.natAbs≤1048576) (hc:c≠0):0≤Builtin.Range.rangeSize a b c∧Builtin.Range.rangeSize a b c≤2097153:=by
 unfold Builtin.Range.rangeSize
 split
 ·split
  ·have h1:0≤(b - a - 1) / c:=Int.ediv_nonneg (by omega) (by omega)
   have h2:(b - a - 1) / c≤b - a - 1:=Int.ediv_le_self _ (by omega)
   omega
  ·omega
 ·split
  ·have h1:0≤(a - b - 1) / (-c):=Int.ediv_nonneg (by omega) (by omega)
   have h2:(a - b - 1) / (-c)≤a - b - 1:=Int.ediv_le_self _ (by omega)
   omega
  ·omega
theorem fits_long {i:Int} (h:i.natAbs≤4194304):Builtin.Range.rangeFitsLong i=true:=by
 unfold Builtin.Range.rangeFitsLong
 rw [Bool.and_eq_true,decide_eq_true_eq,decide_eq_true_eq]; omega
theorem small_range {a b c:Int} (ha:a.natAbs≤1048576) (hb:b.natAbs≤1048576) (hc:c.natAbs≤1048576) (h0:c≠0):Builtin.Range.small a b c=true:=by
 have h:=size_bounds a b c ha hb h0
 unfold Builtin.Range.small
 rw [fits_long (by omega),fits_long (by omega),fits_long (by omega),fits_long (by omega)]
 split
 ·rw [fits_long (by omega)]; simp
 ·rw [fits_long (by omega)]; simp
theorem iterCls {o:Obj} {n:String} (c:o.cls=.type n) (h1:["tuple","range","code","list"].contains n=false) (h:["enumerate","zip","dict_itemiterator","dict_reverseitemiterator","odict_iterator","itertools.zip_longest","itertools.pairwise"].contains n=false):¬ Imm o∧PlainIt o:=⟨no_cls c h1,plainIt_of c h⟩
noncomputable abbrev ItK (B:Base) (A:Around) (F:Lay) (σ:Sto) (s:Shared) (x:Value) (it:It):Prop:=∀ {E Q:Value→Shared→Prop},(∀ I s',ItP B F σ it s I s'→Q (.ref I) s')→wpAny (model B.prog B.w) A (pyIter x) Q E s
theorem vrs_at {fa:Nat→Addr} {h:Heap} {vs:List V} {items:Array Value} (rs:VRs fa h F vs items.toList) {i:Nat} {v:Value} (p:items[i]?=some v):∃ u,vs[i]?=some u∧VR fa h F u v:=by
 rw [← Array.getElem?_toList] at p
 obtain ⟨l,_⟩:=List.getElem?_eq_some_iff.mp p
 rw [← rs.length] at l
 refine x1_2 (rs.get (List.getElem?_eq_getElem l)) fun x' ex rx=>?_
 rw [p] at ex; cases ex
 exact ⟨_,List.getElem?_eq_getElem l,rx⟩
theorem mem_two {b I t:Addr} {P:Prop} (h:b∈[I,t]) (p:b=t→P):b=I∨P:=(List.mem_cons.mp h).imp id fun h=>p (List.mem_singleton.mp h)
theorem iter_tup (Iv:Inv B F σ s) {vs:List V} {t:Addr} {items:Array Value} {n:Nat} (ht:s.heap.get? t=some { cls:=.type "tuple",data:=.seq items n }) (rs:VRs B.fa s.heap F vs items.toList):ItK B A F σ s (.ref t) (.items vs):=by
 intro E Q h
 refine wpAny_pyIter_tuple ⟨_,ht,rfl,_,rfl⟩ (h _ _ (.push Iv ?_))
 refine ⟨items.size,[s.heap.objs.size,t],_,_,(rs.length.trans Array.length_toList).symm,fun A hA=>Walks.tuple hA s.heap.objs.size t (Nat.ne_of_lt (Heap.lt_size ht)) items,⟨⟨_,Heap.get?_push_size _ rfl,rfl,rfl⟩,⟨_,Heap.get?_push_of_some _ ht,rfl,_,rfl⟩⟩,fun i v hi p=>vrs_at (rs.step (.push _ _ _)) p,
  fun b hb=>mem_two hb fun q=>⟨_,q▸Heap.get?_push_of_some _ ht,imTup,fun l=>(lsNo rfl (by decide) l).elim⟩,?_⟩
 rintro k h ⟨⟨o,q,c,_⟩,_⟩
 exact ⟨o,q,iterCls c rfl rfl⟩
theorem iter_lst (Iv:Inv B F σ s) {vs:List V} {t:Addr} {items:Array Value} {n:Nat} (ht:s.heap.get? t=some { cls:=.type "list",data:=.seq items n }) (hq:t∉F.flatten) (rs:VRs B.fa s.heap F vs items.toList):ItK B A F σ s (.ref t) (.items vs):=by
 intro E Q h
 refine wpAny_pyIter_list ⟨_,ht,rfl,_,rfl⟩ (h _ _ (.push Iv ?_))
 refine ⟨items.size,[s.heap.objs.size,t],_,_,(rs.length.trans Array.length_toList).symm,fun A hA=>Walks.list hA s.heap.objs.size t (Nat.ne_of_lt (Heap.lt_size ht)) items,⟨⟨_,Heap.get?_push_size _ rfl,rfl,rfl⟩,⟨_,Heap.get?_push_of_some _ ht,rfl,_,rfl⟩⟩,fun i v hi p=>vrs_at (rs.step (.push _ _ _)) p,
  fun b hb=>mem_two hb fun q=>⟨_,q▸Heap.get?_push_of_some _ ht,imLst,fun ζ=>q▸hq⟩,?_⟩
 rintro k h ⟨⟨o,q,c,_⟩,_⟩
 exact ⟨o,q,iterCls c rfl rfl⟩
theorem mem_one {b I:Addr} {P:Prop} (h:b∈[I]):b=I∨P:=.inl (List.mem_singleton.mp h)
theorem sign_at {xs:Str} {l:List Nat} (e1:xs.cps.toList=l) {fa:Nat→Addr} {h:Heap} {i:Nat} {v:Value} (p:SignAt xs i v):∃ u,(l.map fun c=>V.str [c])[i]?=some u∧VR fa h F u v:=by
 refine x2_2 (p) fun c u hc hq_191=>?_
 apply q1 hq_191
 exact ⟨.str [c],by rw [List.getElem?_map,← e1,Array.getElem?_toList,hc]; rfl,.str _ rfl (by show 1≤1048576; decide)⟩
theorem iter_str (Iv:Inv B F σ s) {xs:Str} {l:List Nat} {t:Tok} (e1:xs.cps.toList=l):ItK B A F σ s (.str xs t) (.items (l.map fun c=>.str [c])):=by
 intro E Q h
 have hl:xs.cps.size=(l.map fun c=>V.str [c]).length:=by rw [List.length_map,← e1,Array.length_toList]
 cases ha:xs.cps.all (· < 128)
 ·refine wpAny_pyIter_wide ha (h _ _ (.push Iv ?_))
  refine ⟨xs.cps.size,[s.heap.objs.size],SignAt xs,fun i h=>h.IsStrIter s.heap.objs.size "str_iterator" xs t i,hl,fun A hA=>Walks.strWide hA s.heap.objs.size xs t,⟨_,Heap.get?_push_size _ rfl,rfl,rfl⟩,fun i v hi p=>sign_at e1 p,fun b hb=>mem_one hb,?_⟩
  rintro k h ⟨o,q,c,_⟩
  exact ⟨o,q,iterCls c rfl rfl⟩
 ·refine wpAny_pyIter_ascii ha (h _ _ (.push Iv ?_))
  refine ⟨xs.cps.size,[s.heap.objs.size],SignAt xs,fun i h=>h.IsStrIter s.heap.objs.size "str_ascii_iterator" xs t i,hl,fun A hA=>Walks.strAscii hA s.heap.objs.size xs t,⟨_,Heap.get?_push_size _ rfl,rfl,rfl⟩,fun i v hi p=>sign_at e1 p,fun b hb=>mem_one hb,?_⟩
  rintro k h ⟨o,q,c,_⟩
  exact ⟨o,q,iterCls c rfl rfl⟩
theorem iter_bytes (Iv:Inv B F σ s) {xs:Array UInt8} {l:List Nat} {t:Tok} (e1:xs.toList.map UInt8.toNat=l):ItK B A F σ s (.bytes xs t) (.items (l.map fun c=>.int (c:Nat))):=by
 intro E Q h
 refine W.KBw.pyIter_bytes (h _ _ (.push Iv ?_))
 refine ⟨xs.size,[s.heap.objs.size],(fun i v=>∃ c u,xs[i]?=some c∧v=.int (c.toNat:Int) u),fun i h=>W.KBw.IsBytesIter h s.heap.objs.size xs t i,by rw [List.length_map,← e1,List.length_map,Array.length_toList],fun A hA=>W.KBw.walks hA s.heap.objs.size xs t,⟨_,Heap.get?_push_size _ rfl,rfl,rfl⟩,fun i v hi p=>?_,fun b hb=>mem_one hb,?_⟩
 ·refine x2_2 (p) fun c u hc hq_192=>?_
  apply q1 hq_192
  exact ⟨.int (c.toNat:Nat),by rw [List.getElem?_map,← e1,List.getElem?_map,Array.getElem?_toList,hc]; rfl,.int _ _⟩
 ·rintro k h ⟨o,q,c,_⟩
  exact ⟨o,q,iterCls c rfl rfl⟩
theorem iter_rng (Iv:Inv B F σ s) {a b c:Int} {ra:Addr} {t u w:Tok} (hr:IsRange s.heap ra a b c t u w) (q:(smallR a&&smallR b&&smallR c&&c != 0)=true):ItK B A F σ s (.ref ra) (.items ((rangeL a b c).map .int)):=by
 intro E Q h
 rw [Bool.and_eq_true,Bool.and_eq_true,Bool.and_eq_true] at q
 have q1:=of_decide_eq_true q.1.1.1
 have q2:=of_decide_eq_true q.1.1.2
 have q3:=of_decide_eq_true q.1.2
 have q4:=bne_iff_ne.mp q.2
 have hs:=size_bounds a b c q1 q2 q4
 refine wpAny_pyIter_range hr (small_range q1 q2 q3 q4) (h _ _ (.push Iv ?_))
 have hl:((rangeL a b c).map V.int).length=(Builtin.Range.rangeSize a b c).toNat:=by unfold rangeL; rw [List.length_map,List.length_map,List.length_range]
 refine ⟨_,[s.heap.objs.size],_,_,hl.symm,fun A hA=>Walks.range (prog:=B.prog) (w:=B.w) hA s.heap.objs.size a c (Builtin.Range.rangeSize a b c).toNat,?_,fun i v hi p=>?_,fun b hb=>mem_one hb,?_⟩
 ·have e1:a+((0:Nat):Int)*c=a:=by rw [Int.natCast_zero,Int.zero_mul,Int.add_zero]
  have e2:(((Builtin.Range.rangeSize a b c).toNat:Nat):Int) - ((0:Nat):Int)=Builtin.Range.rangeSize a b c:=by rw [Int.toNat_of_nonneg hs.1,Int.natCast_zero,Int.sub_zero]
  show IsRangeIter _ _ _ _ _
  rw [e1,e2]
  exact Heap.get?_push_size _ rfl
 ·refine x1_1 (p) fun t' hq_193=>?_
  subst hq_193
  refine ⟨.int (a+(i:Int)*c),?_,.int _ _⟩
  unfold rangeL
  rw [List.getElem?_map,List.getElem?_map,List.getElem?_range hi]; rfl
 ·rintro k h q
  exact ⟨_,q,iterCls rfl rfl rfl⟩
theorem iter_ok (Iv:Inv B F σ s) (r:VR B.fa s.heap F a x) {n:Nat} (e:iterOf σ a=some (it,n)) {E:Value→Shared→Prop} {Q:Value→Shared→Prop} (h:∀ I s',ItP B F σ it s I s'→Q (.ref I) s'):wpAny (model B.prog B.w) A (pyIter x) Q E s:=by
 cases a with
 | ref i =>
  refine x1_2 (map_is e) ?_
  (try clear e)
  intro ls q e
  cases e
  refine x2_4 (Iv.listAt q) fun a1 its1 f1 l1 v1 bd=>?_
  rw [r.refAt f1]
  exact wpAny_pyIter_list l1.isList (h _ _ (.push Iv ⟨a1,f1,_,Heap.get?_push_size _ rfl,rfl,rfl⟩))
 | tup vs=>cases e; refine x3_4 (r.tup_is) fun t items n hq_194 ht rs ζ=>?_; subst hq_194; exact iter_tup Iv ht rs h
 | lst vs=>cases e; refine x3_5 (r.lst_is) fun t items n hq_195 ht q rs ζ=>?_; subst hq_195; exact iter_lst Iv ht q rs h
 | str l=>cases e; refine x2_3 (r.str_is) fun p t hq_196 e1 ζ=>?_; subst hq_196; exact iter_str Iv e1 h
 | bytes l=>cases e; refine x2_3 (r.bytes_is) fun p t hq_197 e1 ζ=>?_; subst hq_197; exact iter_bytes Iv e1 h
 | rng a b c =>
  refine x0_2 (ite_is e) ?_
  (try clear e)
  intro q e
  cases e
  refine x4_2 (r.rng_is) fun ra t u w hq_198 hr=>?_
  subst hq_198
  exact iter_rng Iv hr q h
 | _=>exact noS e
structure NxP (B:Base) (F:Lay) (σ:Sto) (s:Shared) (I:Addr) (s':Shared):Prop where
 inv:Inv B F σ s'
 keep:Kept (·=I) s.heap s'.heap
theorem nx_of {h':Heap} {tk:Nat} (Iv:Inv B F σ s) (r:ItR B s.heap F I k it) (hf:B.h0.get? I=none) (hI:I∉F.flatten) (e:Kept (·=I) s.heap h'):NxP B F σ s I { s with heap:=h',toks:=tk }∧Mv F F s.heap h':=by
 refine x1_2 (r.live_) fun o eo no=>?_
 have nn:∀ b o,b=I→s.heap.get? b=some o→B.h0.get? b=none∧b∉F.flatten∧¬ Imm o:=fun b o' q e'=>by
  subst q; rw [eo] at e'; cases e'; exact ⟨hf,hI,no⟩
 exact ⟨⟨Iv.keep e nn,e⟩,.of_kept e fun b o q e'=>.of (nn b o q e').2.2⟩
theorem next_ok (hh:A.handled=none) (Iv:Inv B F σ s) (r:ItR B s.heap F I k it) (hf:B.h0.get? I=none) (hI:I∉F.flatten) {ov:Option V} (e:nextAt it k σ=some ov) {E:Value→Shared→Prop} {Q:Option Value→Shared→Prop}
  (h0:ov=none→∀ s',NxP B F σ s I s'→Q none s') (h1:∀ v x s',ov=some v→NxP B F σ s I s'→ItR B s'.heap F I (k+1) it→VR B.fa s'.heap F v x→Q (some x) s')
  (hle:∀ vs,it=.items vs→k≤vs.length):wpAny (model B.prog B.w) A (pyNext (.ref I)) Q E s:=by
 cases it with
 | live j =>
  have r':=r
  refine x1_2 (r) fun a ef q=>?_
  unfold nextAt at e; dsimp only at e
  cases qv:vlist σ j with
  | none=>rw [qv] at e; exact noS e
  | some ls =>
   rw [qv] at e; cases e
   refine x2_4 (Iv.listAt qv) fun a1 its1 f1 l1 v1 bd=>?_
   cases ef.2.symm.trans f1.2
   cases qk:ls[k]? with
   | none =>
    refine wpAny_pyNext_list_end hh q l1.isList ?_ fun h' he=>h0 qk _ (nx_of (tk:=s.toks) Iv r' hf hI (.of_ext he)).1
    rw [Array.getElem?_eq_none_iff]; rw [List.getElem?_eq_none_iff,v1.length,Array.length_toList] at qk; exact qk
   | some u =>
    refine x1_2 (v1.get qk) fun x ex rx=>?_
    refine wpAny_pyNext_list_item q l1.isList (by rw [← Array.getElem?_toList]; exact ex) fun h' hi hs=>?_
    refine x0_2 (nx_of (tk:=s.toks) Iv r' hf hI (.of_same hs)) fun n im=>?_
    exact h1 u x _ qk n ⟨a,ef,hi⟩ (rx.step im)
 | items vs =>
  have r':=r
  refine x4_6 (r) fun n fp P St en W st hP hfp hn=>?_
  cases e
  have hk:=hle vs rfl
  by_cases hkn:k < n
  ·refine (W A hh).item k s Q E hkn st fun v h' tk hp st' hk'=>?_
   have kp:Kept (·=I) s.heap h':=fun b o e q=>hk' b o (fun m=>q (by simpa using m)) e
   refine x0_2 (nx_of (tk:=tk) Iv r' hf hI kp) fun nx im=>?_
   refine x1_2 (hP k v hkn hp) fun u eu ru=>?_
   exact h1 u v _ eu nx ⟨n,fp,P,St,en,W,st',fun i v hi p=>let ⟨u,e,q⟩:=hP i v hi p; ⟨u,e,q.step im⟩,fun b hb=>(hfp b hb).imp id fun ⟨o,e,i,z⟩=>⟨o,im.im b o e i z,i,z⟩,hn⟩ (ru.step im)
  ·have:k=n:=by (first | lia | omega)
   subst this
   refine (W A hh).done s Q E st fun h' tk hk'=>?_
   have kp:Kept (·=I) s.heap h':=fun b o e q=>hk' b o (fun m=>q (by simpa using m)) e
   exact h0 (by rw [List.getElem?_eq_none_iff]; (first | lia | omega)) _ (nx_of (tk:=tk) Iv r' hf hI kp).1
theorem self_ok (r:ItR B s.heap F I k it) {E:Value→Shared→Prop} {Q:Value→Shared→Prop} (hh:A.handled=none) (h:Q (.ref I) s):wpAny (model B.prog B.w) A (pyIter (.ref I)) Q E s:=by
 cases it with
 | live j=>refine x1_2 (r) fun a ef q=>?_; exact wpAny_pyIter_listiter q h
 | items vs=>refine x4_6 (r) fun n fp P St en W st hP hfp hn=>?_; exact (W A hh).self k s Q E st h
end
end Mine
namespace Mine
open PySem
structure ER (B:Base) (gt tb:List Str) (vis:List (Nat × Bool)) (wv gl:List Nat) (env:Env):Prop where
 fn:env.scope.kind=.function
 gA:env.globals=B.gA
 bA:env.builtins=B.bA
 lcl:∀ i,(i,false)∈vis→env.kindOf (nmOf tb i)=some .local
 cll:∀ i,(i,true)∈vis→env.kindOf (nmOf tb i)=some .cell∨env.kindOf (nmOf tb i)=some .free
 wr:∀ i∈wv,(i,false)∈vis∨((i,true)∈vis∧env.kindOf (nmOf tb i)=some .cell)
 glb:∀ g∈gl,env.kindOf (nmOf gt g)=some .globalImplicit
 inj:∀ i j b c,(i,b)∈vis→(j,c)∈vis→nmOf tb i=nmOf tb j→i=j∧b=c
 dbg:∀ i b,(i,b)∈vis→(nmOf tb i==("__debug__":Str))=false∧(nmOf tb i==("__classdict__":Str))=false
 dbgG:∀ g∈gl,(nmOf gt g==("__debug__":Str))=false
structure LR (B:Base) (tb:List Str) (vis:List (Nat × Bool)) (env:Env) (F:Lay) (loc:Loc) (h:Heap):Prop where
 lcs:∃ m,h.Ns env.locals m∧∀ i v,(i,false)∈vis→loc[i]?=some (some v)→∃ x,m (nmOf tb i)=some x∧VR B.fa h F v x
 cel:∀ i,(i,true)∈vis→∃ c ov,env.cells.lookup (nmOf tb i)=some c∧h.IsCell c ov∧∀ v,loc[i]?=some (some v)→∃ x,ov=some x∧VR B.fa h F v x
 fl:env.locals∉F.flatten∧B.h0.get? env.locals=none
 fc:∀ n c,env.cells.lookup n=some c→c∉F.flatten∧B.h0.get? c=none∧∃ ov,h.IsCell c ov
 ap:∀ n n' c,env.cells.lookup n=some c→env.cells.lookup n'=some c→n=n'
noncomputable def OwnA (tb:List Str) (wv:List Nat) (env:Env) (b:Addr):Prop:=b=env.locals∨∃ i∈wv,env.cells.lookup (nmOf tb i)=some b
theorem ns_not_imm {h:Heap} {a:Addr} {m:Str→Option Value} {o:Obj} (n:h.Ns a m) (e:h.get? a=some o):¬ Imm o:=by
 refine x1_2 (ns_no n) fun o' e' z=>?_
 rw [e] at e'; cases e'; exact z
theorem Heap_IsCell_at {h h':Heap} {c:Addr} {v:Option Value} (x:h.IsCell c v) (k:∀ o,h.get? c=some o→h'.get? c=some o):h'.IsCell c v:=let ⟨o,e,d⟩:=x; ⟨o,k o e,d⟩
section
variable {B:Base} {A:Around} {F G:Lay} {σ σ':Sto} {s s':Shared} {d:Nat} {a b v:V} {x y:Value} {gt tb:List Str} {vis:List (Nat × Bool)} {wv gl:List Nat} {env:Env} {loc loc':Loc} {i:Nat}
theorem LR.localsLive {h:Heap} (L:LR B tb vis env F loc h):∃ o,h.get? env.locals=some o∧¬ Imm o:=let ⟨_,n,_⟩:=L.lcs; ns_no n
theorem LR.cellLive {h:Heap} (L:LR B tb vis env F loc h) {n:Str} {c:Addr} (e:env.cells.lookup n=some c):∃ o,h.get? c=some o∧¬ Imm o:=let ⟨_,_,_,q⟩:=L.fc n c e; cell_no q
theorem LR.keep {h h':Heap} (L:LR B tb vis env F loc h) (kl:∀ o,h.get? env.locals=some o→h'.get? env.locals=some o) (kc:∀ n c o,env.cells.lookup n=some c→h.get? c=some o→h'.get? c=some o) (im:Mv F G h h')
  (fl:env.locals∉G.flatten) (fc:∀ n c,env.cells.lookup n=some c→c∉G.flatten):LR B tb vis env G loc h':=by
 refine ⟨?_,fun i hi=>?_,⟨fl,L.fl.2⟩,fun n c e=>⟨fc n c e,(L.fc n c e).2.1,?_⟩,L.ap⟩
 ·refine x1_2 (L.lcs) fun m n r=>?_
  exact ⟨m,n.at' kl,fun i v hi e=>let ⟨x,q,z⟩:=r i v hi e; ⟨x,q,z.step im⟩⟩
 ·refine x2_3 (L.cel i hi) fun c ov e q r=>?_
  exact ⟨c,ov,e,Heap_IsCell_at q fun o=>kc _ c o e,fun v ev=>let ⟨x,q,z⟩:=r v ev; ⟨x,q,z.step im⟩⟩
 ·obtain ⟨_,_,ov,q⟩:=L.fc n c e
  exact ⟨ov,Heap_IsCell_at q fun o=>kc n c o e⟩
theorem LR.notTab (I:Inv B F σ s) {b:Addr} (e:B.h0.get? b=none):b≠B.tab:=fun q=>by
 refine x1_1 (I.tabo) fun ps t=>?_
 rw [q,t] at e; cases e
theorem not_new {F G:Lay} {b:Addr} {h:Heap} {o:Obj} (hf:∀ a∈G.flatten,h.get? a=none) (e:h.get? b=some o) (n:b∉F.flatten):b∉(F++G).flatten:=by
 rw [List.flatten_append,List.mem_append]
 rintro (q | q)
 ·exact n q
 ·rw [hf b q] at e; exact noS e
theorem LR.step (L:LR B tb vis env F loc s.heap) (I:Inv B F σ s) (T:Step B F s G s'):LR B tb vis env (F++G) loc s'.heap:=by
 refine x1_2 (L.localsLive) fun ol el ζ=>?_
 refine L.keep (fun o e=>T.kept _ o e ?_) (fun n c o e eo=>T.kept _ o eo ?_) (T.imk I) (not_new T.fresh el L.fl.1) fun n c e=>?_
 ·rintro (q | q)
  ·exact L.fl.1 q.mem
  ·exact LR.notTab I L.fl.2 q
 ·rintro (q | q)
  ·exact (L.fc n c e).1 q.mem
  ·exact LR.notTab I (L.fc n c e).2.1 q
 ·refine x1_2 (L.cellLive e) fun o eo ζ=>?_
  exact not_new T.fresh eo (L.fc n c e).1
theorem var_ok (R:ER B gt tb vis wv gl env) (L:LR B tb vis env F loc s.heap) {c:Bool} (hi:(i,c)∈vis) (e:loc[i]?=some (some v)) {E:Value→Shared→Prop} {Q:Value→Shared→Prop} (h:∀ x,VR B.fa s.heap F v x→Q x s) :
  wpAny (model B.prog B.w) A (loadName env (nmOf tb i)) Q E s:=by
 cases c with
 | false =>
  refine x1_2 (L.lcs) fun m n r=>?_
  refine x1_2 (r i v hi e) fun x q z=>?_
  exact wpAny_loadName_local R.fn (R.lcl i hi) n q (h x z)
 | true =>
  refine x2_3 (L.cel i hi) fun c ov ec q r=>?_
  refine x1_2 (r v e) fun x hq_199 z=>?_
  subst hq_199
  rcases R.cll i hi with k | k
  ·exact wpAny_loadName_cell R.fn k ec q (h x z)
  ·exact wpAny_loadName_free R.fn k ec q (h x z) (R.dbg i _ hi).2
theorem ns_kept {h₀ h:Heap} (K:OldK h₀ h) {a:Addr} {m:Str→Option Value} (n:h₀.Ns a m) (hne:a≠cStatics):∀ o,h₀.get? a=some o→h.get? a=some o:=fun o e=>by
 refine x3_3 (n) fun o' es ep e' d ζ=>?_
 rw [e] at e'; cases e'
 rcases K.old a o e with x | ⟨_,_,vs,more,q,_⟩ | ⟨z,_⟩
 ·exact x
 ·rw [d] at q; cases q
 ·exact (hne z).elim
structure BOk (B:Base):Prop where
 ns:B.h0.Ns B.gA B.mg
 nsb:B.h0.Ns B.bA B.mb
 gc:B.gA≠cStatics
 bc:B.bA≠cStatics
noncomputable def GR (B:Base) (gt:List Str) (Gv:Nat→Option V):Prop:=∀ g v,Gv g=some v→∃ x,(B.mg (nmOf gt g)=some x∨(B.mg (nmOf gt g)=none∧B.mb (nmOf gt g)=some x))∧VR B.fa B.h0 [] v x
theorem Inv.mvOld (I:Inv B F σ s):Mv [] F B.h0 s.heap where
 im b o e i _:=I.old.get_of_cls e (by rcases i.1 with q | q | q | q <;> rw [q] <;> intro z <;> cases z)
 kf _ _ z:=by cases z.2
 kg b o e _ _ _ q:=by rw [I.fresh b q] at e; exact noS e
theorem glob_ok {Gv:Nat→Option V} (O:BOk B) (GG:GR B gt Gv) (I:Inv B F σ s) (R:ER B gt tb vis wv gl env) {g:Nat} (hg:g∈gl) (e:Gv g=some v) {pos:Pos} {E:Value→Shared→Prop} {Q:Value→Shared→Prop} (h:∀ x,VR B.fa s.heap F v x→Q x s) :
  wpAny (model B.prog B.w) A (eval (.Name (nmOf gt g) pos) env) Q E s:=by
 refine x1_2 (GG g v e) fun x q r=>?_
 have rx:VR B.fa s.heap F v x:=r.step I.mvOld
 refine Calls.Name_function_global R.fn (R.glb g hg) ?_ (R.dbgG g hg)
 have n1:s.heap.Ns env.globals B.mg:=by rw [R.gA]; exact O.ns.at' (ns_kept I.old O.ns O.gc)
 have n2:s.heap.Ns env.builtins B.mb:=by rw [R.bA]; exact O.nsb.at' (ns_kept I.old O.nsb O.bc)
 rcases q with q | ⟨q1,q2⟩
 ·exact Calls.loadGlobal_global n1 q (h x rx)
 ·exact Calls.loadGlobal_builtin n1 q1 n2 q2 (h x rx)
structure StP (B:Base) (tb:List Str) (vis:List (Nat × Bool)) (wv:List Nat) (env:Env) (F:Lay) (σ:Sto) (loc:Loc) (s s':Shared):Prop where
 inv:Inv B F σ s'
 lr:LR B tb vis env F loc s'.heap
 keep:Kept (OwnA tb wv env) s.heap s'.heap
theorem StP.refl (I:Inv B F σ s) (L:LR B tb vis env F loc s.heap):StP B tb vis wv env F σ loc s s:=⟨I,L,.refl _ _⟩
theorem own_ok (I:Inv B F σ s) (L:LR B tb vis env F loc s.heap) {b:Addr} (w:OwnA tb wv env b):B.h0.get? b=none∧b∉F.flatten∧(∀ o,s.heap.get? b=some o→¬ Imm o):=by
 rcases w with rfl | ⟨i,hi,e⟩
 ·refine x1_2 (L.localsLive) fun o e n=>?_
  exact ⟨L.fl.2,L.fl.1,fun o' e'=>by rw [e] at e'; apply s1 e'; exact n⟩
 ·refine x1_2 (L.cellLive e) fun o e' n=>?_
  exact ⟨(L.fc _ _ e).2.1,(L.fc _ _ e).1,fun o' e''=>by rw [e'] at e''; apply s1 e''; exact n⟩
theorem lt_set {l:Loc} {i j:Nat} {o o':Option V} (e:(l.set i o)[j]?=some o'):(i=j∧o'=o)∨(i≠j∧l[j]?=some o'):=by
 by_cases q:i=j
 ·subst q
  rw [List.getElem?_set] at e
  simp at e
  exact .inl ⟨rfl,e.2.symm⟩
 ·rw [List.getElem?_set_ne q] at e; exact .inr ⟨q,e⟩
theorem store_ok (R:ER B gt tb vis wv gl env) (I:Inv B F σ s) (L:LR B tb vis env F loc s.heap) (hi:i∈wv) (r:VR B.fa s.heap F v x) {E:Value→Shared→Prop} {Q:Unit→Shared→Prop}
  (h:∀ s',StP B tb vis wv env F σ (loc.set i (some v)) s s'→Q () s'):wpAny (model B.prog B.w) A (storeName env (nmOf tb i) x) Q E s:=by
 refine x1_2 (L.lcs) fun m n rm=>?_
 rcases R.wr i hi with q | ⟨q,kc⟩
 ·refine wpAny_storeName_local (R.lcl i q) n (fun h' n' hs=>h _ ?_) (by rw [R.fn]; rfl)
  have kp:Kept (·=env.locals) s.heap h':=.of_same hs
  have nn:∀ b o,b=env.locals→s.heap.get? b=some o→B.h0.get? b=none∧b∉F.flatten∧¬ Imm o:=fun b o w e=>by
   subst w
   refine x0_3 (own_ok (tb:=tb) (wv:=wv) I L (.inl rfl)) fun z1 z2 z3=>?_
   exact ⟨z1,z2,z3 o e⟩
  have im:Mv F F s.heap h':=.of_kept kp fun b o w e=>.of (nn b o w e).2.2
  have kcell:∀ nm c ov,env.cells.lookup nm=some c→s.heap.IsCell c ov→h'.IsCell c ov:=fun nm c ov e q=>q.sameBut hs (fun z=>by
   refine x1_2 (q) fun o e1 d1=>?_
   refine x3_3 (n) fun o' es ep e2 d2 ζ=>?_
   rw [z] at e1; rw [e1] at e2; cases e2; rw [d1] at d2; cases d2)
  refine ⟨I.keep kp nn,⟨⟨_,n',fun j u hj e=>?_⟩,fun j hj=>?_,L.fl,fun nm c e=>?_,L.ap⟩,kp.mono fun b w=>.inl w⟩
  ·rcases lt_set e with ⟨rfl,z⟩ | ⟨z,e'⟩
   ·cases z; exact ⟨x,by simp,r.step im⟩
   ·refine x1_2 (rm j u hj e') fun x' q' r'=>?_
    refine ⟨x',?_,r'.step im⟩
    have:¬ nmOf tb j=nmOf tb i:=fun z'=>z (R.inj i j _ _ q hj z'.symm).1
    simp [this,q']
  ·refine x2_3 (L.cel j hj) fun c ov e qc rc=>?_
   refine ⟨c,ov,e,kcell _ c ov e qc,fun u eu=>?_⟩
   rcases lt_set eu with ⟨rfl,z⟩ | ⟨z,e'⟩
   ·exact absurd (R.inj i i _ _ q hj rfl).2 (by decide)
   ·refine x1_2 (rc u e') fun x' q' r'=>?_
    exact ⟨x',q',r'.step im⟩
  ·obtain ⟨z1,z2,ov,z3⟩:=L.fc nm c e
   exact ⟨z1,z2,ov,kcell nm c ov e z3⟩
 ·refine x2_3 (L.cel i q) fun c ov ec qc rc=>?_
  refine wpAny_storeName_cell R.fn kc ec qc fun h' qc' hs=>h _ ?_
  have kp:Kept (·=c) s.heap h':=.of_same hs
  have nn:∀ b o,b=c→s.heap.get? b=some o→B.h0.get? b=none∧b∉F.flatten∧¬ Imm o:=fun b o w e=>by
   subst w
   refine x0_3 (own_ok (tb:=tb) (wv:=wv) I L (.inr ⟨i,hi,ec⟩)) fun z1 z2 z3=>?_
   exact ⟨z1,z2,z3 o e⟩
  have im:Mv F F s.heap h':=.of_kept kp fun b o w e=>.of (nn b o w e).2.2
  have hne:env.locals≠c:=fun z=>by
   refine x1_2 (qc) fun o e1 d1=>?_
   refine x3_3 (n) fun o' es ep e2 d2 ζ=>?_
   rw [z,e1] at e2; cases e2; rw [d1] at d2; cases d2
  refine ⟨I.keep (tk:=s.toks) kp nn,⟨⟨m,n.sameBut hs hne,fun j u hj e=>?_⟩,fun j hj=>?_,L.fl,fun nm c' e=>?_,L.ap⟩,kp.mono fun b w=>.inr ⟨i,hi,by rw [w]; exact ec⟩⟩
  ·rcases lt_set e with ⟨rfl,z⟩ | ⟨z,e'⟩
   ·exact absurd (R.inj i i _ _ q hj rfl).2 (by decide)
   ·refine x1_2 (rm j u hj e') fun x' q' r'=>?_
    exact ⟨x',q',r'.step im⟩
  ·refine x2_3 (L.cel j hj) fun c' ov' e qc2 rc2=>?_
   by_cases hij:i=j
   ·subst hij
    rw [ec] at e; cases e
    refine ⟨c,some x,ec,qc',fun u eu=>?_⟩
    rcases lt_set eu with ⟨_,z⟩ | ⟨z,e'⟩
    ·cases z; exact ⟨x,rfl,r.step im⟩
    ·exact absurd rfl z
   ·refine ⟨c',ov',e,qc2.sameBut hs fun z=>?_,fun u eu=>?_⟩
    ·subst z; exact hij (R.inj i j _ _ q hj (L.ap _ _ _ ec e)).1
    ·rcases lt_set eu with ⟨z,_⟩ | ⟨z,e'⟩
     ·exact absurd z hij
     ·refine x1_2 (rc2 u e') fun x' q' r'=>?_
      exact ⟨x',q',r'.step im⟩
  ·obtain ⟨z1,z2,ov',z3⟩:=L.fc nm c' e
   refine ⟨z1,z2,?_⟩
   by_cases hc:c'=c
   ·apply q1 hc; exact ⟨_,qc'⟩
   ·exact ⟨ov',z3.sameBut hs hc⟩
theorem StP.trans {loc₁ loc₂:Loc} {s₁ s₂:Shared} (x:StP B tb vis wv env F σ loc₁ s s₁) (y:StP B tb vis wv env F σ loc₂ s₁ s₂):StP B tb vis wv env F σ loc₂ s s₂:=⟨y.inv,y.lr,x.keep.trans y.keep⟩
theorem StP.imk (I:Inv B F σ s) (L:LR B tb vis env F loc s.heap) (x:StP B tb vis wv env F σ loc' s s'):Mv F F s.heap s'.heap:=.of_kept x.keep fun ζ o w e=>.of ((own_ok I L w).2.2 o e)
end
end Mine
namespace Mine
open PySem PySem.W
structure LexOK (B:Base) (K:Frag) (mk:Me→Nat):Prop where
 X:K.In B.h0
 cls:∀ a o,K.lookup a=some o→o.cls≠.none
 hga:findIn K (.ref B.lx.C) "__getattribute__"=some (some (.builtin "object.__getattribute__"))
 hk:findIn K (.ref B.lx.C) "__getattr__"=some none
 cd:(clsIn K B.lx.C).any (·.hasDict)=true
 o1:findIn K (.ref B.lx.C) At.lineno.nm=some none
 o2:findIn K (.ref B.lx.C) At.whitespace.nm=some none
 o3:findIn K (.ref B.lx.C) At.pushback.nm=some none
 o4:findIn K (.ref B.lx.C) (Str.ofString "instream")=some none
 m1:findIn K (.ref B.lx.C) Me.get_token.nm=some (some (.ref (B.fa (mk .get_token))))
 m2:findIn K (.ref B.lx.C) Me.push_token.nm=some (some (.ref (B.fa (mk .push_token))))
 m3:findIn K (.ref B.lx.C) Me.read_char.nm=some (some (.ref (B.fa (mk .read_char))))
 t1:typeIn K (.ref (B.fa (mk .get_token)))=some (.type "function")
 t2:typeIn K (.ref (B.fa (mk .push_token)))=some (.type "function")
 t3:typeIn K (.ref (B.fa (mk .read_char)))=some (.type "function")
 rd:mk .read_char=B.lx.rd
 hs:findIn K (.ref B.lx.C) "__setattr__"=some (some (.builtin "object.__setattr__"))
 po:plainOver K B.lx.C=true
section
variable {B:Base} {A:Around} {F:Lay} {σ:Sto} {s:Shared} {K:Frag} {mk:Me→Nat} {h:Heap} {m:Str→Option Value} {k:Nat} {a:Addr}
theorem LexOK.here (O:LexOK B K mk) (I:Inv B F σ s):K.In s.heap:=fun a o e=>I.old.get_of_cls (O.X a o e) (O.cls a o e)
set_option tactic.hygienic true in
theorem NsL.look {es:Array DictEntry} {n:Nat} {d:Option Addr} {sl:Array (Option Value)} (hk:StrKeys es) (hm:∀ name,nsFind es name=m name) (name:Str):lookIn name { cls:=.type "dict",dict:=d,data:=.dict es n,slots:=sl }=some (m name):=by
 unfold lookIn
 dsimp only
 have e:(es.toList.find? fun e=>e.key.isStr name).map (·.val)=m name:=by
  rw [← hm name]
  unfold nsFind findBy
  rw [← Array.find?_toList]
 split
 ·rename_i en q
  rw [q] at e; rw [← e]; rfl
 ·rename_i q
  rw [q] at e
  have r:es.toList.any (·.refKey)=false:=by
   rw [List.any_eq_false]
   intro x hx
   refine x2_1 (hk x (Array.mem_def.mpr hx)) fun n t z=>?_
   simp [DictEntry.refKey,z]
  rw [if_neg (by rw [r]; decide),← e]; rfl
theorem wpAny_nsSetL {M:Model} {E:Value→Shared→Prop} {name:Str} {v:Value} {Q:Unit→Shared→Prop} (hn:NsL s.heap a m k)
  (hq:∀ h',NsL h' a (fun x=>if x=name then some v else m x) (if (m name).isSome then k else k+1)→Heap.SameBut a s.heap h'→Q () { s with heap:=h',toks:=s.toks+1 }):wpAny M A (nsSet a name v) Q E s:=by
 refine x4_4 (hn) fun d es ep sl ho hk hz hm=>?_
 unfold nsSet strHash
 refine wpAny_bind (wpAny_bind (wpAny_askSetting (wpAny_pure (wpAny_bind (wpAny_mkText (wpAny_bind (wpAny_loadPart ho ?_)))))))
 have hany:es.any (·.refKey)=false:=by
  rw [Array.any_eq_false']; intro e he; refine x2_1 (hk e he) fun n t h=>?_; simp [DictEntry.refKey,h]
 simp only [aRefKeyMayBeTheName_eq,aRefKeyMayBeTheNameByArray,hany,Bool.and_false,Bool.false_eq_true,if_false]
 refine wpAny_updatePart ho (hq _ ?_ (Heap.SameBut.update ..))
 have sz:(m name).isSome=(es.findIdx? (·.key.isStr name)).isSome:=by
  rw [← hm name]
  unfold nsFind
  rw [findBy_of_findIdx?]
  cases hi:es.findIdx? (fun e=>e.key.isStr name) with
  | none=>rfl
  | some i =>
   obtain ⟨l,_⟩:=Array.findIdx?_eq_some_iff_getElem.mp hi
   dsimp only
   rw [Array.getElem?_eq_getElem l]; rfl
 cases hi:es.findIdx? (·.key.isStr name) with
 | some i =>
  rw [sz,hi]
  refine ⟨d,es.modify i fun e=>{ e with val:=v },ep,sl,Heap.get?_update_self _ ho (by simp only [Obj.putName_eq,Obj.putNameByArray,hi]; rfl) |>.trans (by simp only [Obj.putName_eq,Obj.putNameByArray,hi]),hk.modify _ _,by simpa using hz,fun x=>?_⟩
  show _=if x=name then some v else m x
  rw [← hm]; exact findBy_modify (fun n v=>v.isStr n) Value.isStr_inj es name x v i hi
 | none =>
  rw [sz,hi]
  refine ⟨d,_,ep+1,sl,Heap.get?_update_self _ ho (by simp only [Obj.putName_eq,Obj.putNameByArray,hi]; rfl) |>.trans (by simp only [Obj.putName_eq,Obj.putNameByArray,hi]; rfl),hk.push _ _ _ _,by simp; omega,fun x=>?_⟩
  show _=if x=name then some v else m x
  rw [← hm]
  exact findBy_push (fun n v=>v.isStr n) es name x _ _ v (fun y=>by
   show (name==y)=decide (y=name)
   by_cases h:y=name
   ·apply q1 h; simp
   ·have:¬ name=y:=fun e=>h e.symm
    simp [h,this]) hi
theorem LexH.at' {text:List Nat} {as:List Addr} {la p x dx st sd gv cT cA:Addr} {line:Int} (L:LexH B h as text la line p x dx st sd gv cT cA):∃ od,h.get? dx=some od∧InstAt h x (instO B.lx.C dx) B.lx.C (some od)∧∃ m,LexN m line st p∧∀ n,lookIn n od=some (m n):=by
 refine x1_2 (L.names) fun m hw_200 r=>?_
 refine x4_4 (hw_200) fun d es ep sl e hk hz hm=>?_
 exact ⟨_,e,⟨L.inst,rfl,rfl,e⟩,m,r,fun n=>NsL.look hk hm n⟩
theorem own_find {od:Obj} {n:Str} {v:Value} (O:LexOK B K mk) (ho:findIn K (.ref B.lx.C) n=some none) (e:lookIn n od=some (some v)):findObj K B.lx.C (some od) n=some (.value v):=by
 refine x1_2 (any_some O.cd) ?_; (try clear cd); intro cd hc hd
 unfold findObj
 rw [hc,ho]
 simp only [Option.bind_some]
 unfold ownOf
 rw [if_pos hd]; dsimp only; rw [e]; rfl
theorem lexI_is {i:Nat} {L:List Nat × Nat × Int × Nat} (e:lexI σ i=some L):σ[i]?=some (.lex L.1 L.2.1 L.2.2.1 L.2.2.2):=by
 refine x1_2 (bind_is e) ?_
 (try clear e)
 intro o q e
 cases o <;> (first | exact noS e | cases e)
 exact q
theorem lexAt (I:Inv B F σ s) {i:Nat} {text:List Nat} {a j:Nat} {line:Int} (e:σ[i]?=some (.lex text a line j)) :
  ∃ as la p x dx st sd gv cT cA,text.length≤maxLen∧Fat F i as∧Fat F a [la]∧Fat F j [p]∧LexH B s.heap as text la line p x dx st sd gv cT cA:=by
 obtain ⟨as,ef,b,la,p,x,dx,st,sd,gv,cT,cA,e1,e2,L⟩:=I.at1 e rfl
 exact ⟨as,la,p,x,dx,st,sd,gv,cT,cA,b,ef,e1,e2,L⟩
theorem lexVal (I:Inv B F σ s) {i:Nat} {L:List Nat × Nat × Int × Nat} {x:Value} (r:VR B.fa s.heap F (.ref i) x) (e:lexI σ i=some L):∃ x' dx od m st p,x=.ref x'∧InstAt s.heap x' (instO B.lx.C dx) B.lx.C (some od)∧LexN m L.2.2.1 st p∧Fat F L.2.2.2 [p]∧∀ n,lookIn n od=some (m n):=by
 refine x10_5 (lexAt I (lexI_is e)) fun as la p x' dx st sd gv cT cA hb ef e1 e2 L=>?_
 obtain ⟨od,eo,In,m,N,lk⟩:=L.at'
 exact ⟨x',dx,od,m,st,p,r.refAt (L.as_▸ef),In,N,e2,lk⟩
theorem att_ok (O:LexOK B K mk) (I:Inv B F σ s) {v:V} {x:Value} {t:At} {u:V} (r:VR B.fa s.heap F v x) (e:attrV t σ v=some u) {ex:Bool} {Q:Value→Shared→Prop} {E:Value→Shared→Prop}
  (hq:∀ y tk,VR B.fa s.heap F u y→Q y { s with toks:=tk }):wpAny (model B.prog B.w) A (getAttr x t.nm ex) Q E s:=by
 refine x1_2 (bind_is e) ?_
 (try clear e)
 intro i hv e
 refine x1_2 (bind_is e) ?_
 (try clear e)
 intro L hL e
 refine x6_5 (lexVal I (r.asRef hv) hL) fun x' dx od m st p hq_201 In N e2 lk=>?_
 apply q1 hq_201
 cases t with
 | lineno =>
  cases e
  refine x1_1 (N.line) fun tk el=>?_
  exact get_value (O.here I) In O.hga (own_find O O.o1 (by rw [lk,el])) rfl (hq _ _ (.int _ _))
 | pushback =>
  cases e
  exact get_value (O.here I) In O.hga (own_find O O.o3 (by rw [lk,N.push])) rfl (hq _ _ (.ref e2))
 | whitespace =>
  cases e
  refine x1_1 (N.white) fun tk el=>?_
  exact get_value (O.here I) In O.hga (own_find O O.o2 (by rw [lk,el])) rfl (hq _ _ (.str _ rfl (by decide)))
 | read_char=>exact noS e
theorem recv_lex {v:V} (hr:recv σ v=some 2):∃ i L,v=.ref i∧lexI σ i=some L:=by
 cases v with
 | ref i =>
  have hr:(match σ[i]? with
   | some (.list _)=>some 1
   | some (.lex ..)=>some 2
   | _=>none)=some 2:=hr
  cases q:σ[i]? with
  | none=>rw [q] at hr; exact noS hr
  | some o =>
   rw [q] at hr
   cases o with
   | lex=>exact ⟨i,_,rfl,by rw [lexI,q]; rfl⟩
   | _=>(first | exact noS hr | cases hr)
 | _=>(first | exact noS hr | cases hr)
theorem get_ok (O:LexOK B K mk) (I:Inv B F σ s) {v:V} {x:Value} {me:Me} (r:VR B.fa s.heap F v x) (hr:recv σ v=some 2) (hm:me=.get_token∨me=.push_token∨me=.read_char) {pl:Sem Bool} {Q:Value × List Value→Shared→Prop} {E:Value→Shared→Prop}
  (hq:Q (.ref (B.fa (mk me)),[x]) s):wpAny (model B.prog B.w) A (getMethod x me.nm pl) Q E s:=by
 refine x2_2 (recv_lex hr) fun i L hq_202 hL=>?_
 subst hq_202
 refine x6_5 (lexVal I r hL) fun x' dx od m st p hq_203 In N e2 lk=>?_
 subst hq_203
 have sh:∀ n,m n=none→shadowIn (some od) n=some false:=fun n hn=>by unfold shadowIn; dsimp only; rw [lk,hn]; rfl
 rcases hm with rfl | rfl | rfl
 ·exact method_fn (O.here I) In O.hga O.hk O.m1 O.t1 (sh _ N.no1) hq
 ·exact method_fn (O.here I) In O.hga O.hk O.m2 O.t2 (sh _ N.no2) hq
 ·exact method_fn (O.here I) In O.hga O.hk O.m3 O.t3 (sh _ N.no3) hq
end
end Mine
namespace Mine
open PySem PySem.W
section
variable {B:Base} {A:Around} {F:Lay} {σ:Sto} {s:Shared} {K:Frag} {mk:Me→Nat} {h:Heap} {m:Str→Option Value} {k:Nat} {a:Addr}
theorem second_ne {α:Type} {x y:α} {r:List α} (nd:(x :: y :: r).Nodup):∀ b∈x :: r,b≠y:=by
 intro b hb z
 rw [List.nodup_cons,List.nodup_cons] at nd
 rcases List.mem_cons.mp hb with q | q
 ·exact nd.1 (by rw [← q,z]; exact .head _)
 ·exact nd.2.1 (by rw [← z]; exact q)
theorem lexSet (O:LexOK B K mk) {x dx:Addr} {od:Obj} (X:K.In s.heap) (I:InstAt s.heap x (instO B.lx.C dx) B.lx.C (some od)) (n:NsL s.heap dx m k) (hk:k≤900) {name:Str} {v:Value} (ho:findIn K (.ref B.lx.C) name=some none) {Q:Unit→Shared→Prop} {E:Value→Shared→Prop}
  (h:∀ h' tk,NsL h' dx (fun x=>if x=name then some v else m x) (if (m name).isSome then k else k+1)→Heap.SameBut dx s.heap h'→Q () { s with heap:=h',toks:=tk }) :
  wpAny (model B.prog B.w) A (setAttr (.ref x) name v) Q E s:=by
 refine set_plain X I O.hs ?_
 refine x1_2 (any_some O.cd) ?_; (try clear cd); intro cd hc hd'
 refine osa_open (s:={ s with toks:=s.toks+1 }) X I O.po (r:=none) (by unfold takerIn; rw [ho]; rfl) fun b=>?_
 obtain ⟨hx,hcl,hn,-⟩:=I
 refine wpAny_bind (wpAny_pure (wpAny_bind (wpAny_bind (wpAny_loadPart hx (wpAny_bind ((looks_clsIn X hc).at ?_))))))
 rw [hd']
 refine wpAny_pure (a:=some dx) (wpAny_bind (wpAny_pure (wpAny_bind ?_)))
 refine wpAny_nsSetL n fun h' n' hs=>?_
 refine x4_4 (id n') fun d es ep sl e' ζ hz ζ=>?_
 refine wpAny_bind (wpAny_lookBehind e' (pastItsLine_dict (by rw [sizeLine_eq]; split at hz <;> (first | lia | omega))) ?_)
 exact wpAny_pure (h _ _ n' hs)
theorem LexH.set {as:List Addr} {text:List Nat} {la p x dx st sd gv cT cA:Addr} {line line':Int} {h':Heap} {tk:Tok} (L:LexH B h as text la line p x dx st sd gv cT cA) (nd:as.Nodup) (hs:Heap.SameBut dx h h') (N:LexN m line st p)
  (n':NsL h' dx (fun x=>if x=At.lineno.nm then some (.int line' tk) else m x) 4) {F G:Lay} (im:Mv F G h h'):LexH B h' as text la line' p x dx st sd gv cT cA:=by
 rw [L.as_] at nd
 have ne:∀ b,b∈[x,st,sd,gv,cT,cA]→∀ o,h.get? b=some o→h'.get? b=some o:=fun b hb o eb=>(hs.2 b (second_ne nd b hb)).trans eb
 simp only [List.forall_mem_cons,List.not_mem_nil,false_implies,implies_true,and_true] at ne
 exact ⟨L.as_,ne.1 _ L.inst,⟨_,n',⟨⟨tk,if_pos rfl⟩,N.stream,N.white,N.push,N.no1,N.no2,N.no3⟩⟩,let ⟨fd,sl,e⟩:=L.stream; ⟨fd,sl,ne.2.1 _ e⟩,let ⟨m,n,r⟩:=L.read; ⟨m,n.at' ne.2.2.1,r⟩,
  let ⟨cd,ct,e,r⟩:=L.give; ⟨cd,ct,ne.2.2.2.1 _ e,r.imk im⟩,let ⟨X,t,⟨o,e,r⟩,q⟩:=L.text; ⟨X,t,⟨o,ne.2.2.2.2.1 _ e,r⟩,q⟩,let ⟨o,e,r⟩:=L.at_; ⟨o,ne.2.2.2.2.2 _ e,r⟩⟩
theorem inc_ok (O:LexOK B K mk) (I:Inv B F σ s) {i:Nat} {x y:Value} {σ':Sto} {line:Int} (r:VR B.fa s.heap F (.ref i) x) (e:incC i σ=some σ') (hl:attrV .lineno σ (.ref i)=some (.int line)) (ry:VR B.fa s.heap F (.int (line+1)) y) :
  EvT B A F s (setAttr x At.lineno.nm y) (PU B σ'):=by
 refine x1_2 (map_is e) fun L hL hq_204=>?_
 apply q2 hq_204
 have hl:(lexI σ i).bind (attL .lineno)=some (.int line):=hl
 rw [hL] at hl
 cases hl
 refine x10_5 (lexAt I (lexI_is hL)) fun as la p x' dx st sd gv cT cA hb ef e1 e2 L=>?_
 rw [r.refAt (L.as_▸ef)]
 refine x1_1 (ry.int_is) fun t hq_205=>?_
 apply q1 hq_205
 refine x1_2 (L.names) fun m n N=>?_
 refine x1_3 (L.at') fun od eo In ζ=>?_
 refine lexSet O (O.here I) In n (by decide) O.o1 fun h' tk n' hs=>?_
 refine x1_1 (N.line) fun tl el=>?_
 rw [el] at n'
 have kp:Kept (·∈as) s.heap h':=(Kept.of_same hs).mono fun b w=>by apply q1 w; rw [L.as_]; exact .tail _ (.head _)
 have nd:as.Nodup:=(List.pairwise_flatten.mp I.nodup).1 as (List.mem_of_getElem? ef.2)
 exact ⟨[],.of_updO ef kp,by rw [List.append_nil]; exact I.updO ef kp fun im=>⟨hb,la,p,x',dx,st,sd,gv,cT,cA,e1,e2,L.set nd hs N n' im⟩⟩
end
end Mine
namespace Mine
open PySem PySem.W
theorem entry_iter:entryFor table "iter"=some Builtin.«iter»:=entryFor_of_tree (by kernel_rfl)
theorem kind_iter:builtinKind "iter"=none:=by decide +kernel
theorem plain_iter:plainId "iter"=true:=by decide +kernel
theorem args_iter2 (a b:Value):argsOk "iter" ⟨[a,b],[]⟩:=by unfold argsOk; kernel_rfl
section
variable {B:Base} {A:Around} {F:Lay} {σ:Sto} {s:Shared} {K:Frag} {mk:Me→Nat} {h:Heap} {m:Str→Option Value} {k:Nat} {a:Addr}
theorem bound_ok (O:LexOK B K mk) (X:K.In s.heap) {x dx:Addr} {od:Obj} (In:InstAt s.heap x (instO B.lx.C dx) B.lx.C (some od)) (hn:lookIn Me.read_char.nm od=some none) {ex:Bool} {Q:Value→Shared→Prop} {E:Value→Shared→Prop}
  (h:Q (.ref s.heap.objs.size) { s with heap:=s.heap.push { cls:=.type "method",data:=.fields #[.ref (B.fa B.lx.rd),.ref x] },toks:=s.toks+1 }) :
  wpAny (model B.prog B.w) A (getAttr (.ref x) Me.read_char.nm ex) Q E s:=by
 have g1:specialIn K (.ref (B.fa (mk .read_char))) "__get__"=some (some (.builtin "function.__get__")):=by
  unfold specialIn; rw [O.t3]; kernel_rfl
 have g2:takesIn K (.ref (B.fa (mk .read_char)))=some false:=by
  unfold takesIn specialIn; rw [O.t3]; kernel_rfl
 have hf:findObj K B.lx.C (some od) Me.read_char.nm=some (.bind (.builtin "function.__get__") (.ref (B.fa (mk .read_char)))):=by
  refine x1_2 (any_some O.cd) ?_; (try clear cd); intro cd hc hd
  unfold findObj
  rw [hc,O.m3]
  simp only [Option.bind_some]
  rw [g1,Option.bind_some]
  dsimp only
  rw [g2,Option.bind_some]
  dsimp only
  unfold ownOf
  rw [if_pos hd]; dsimp only; rw [hn,Option.bind_some]; rfl
 refine get_bind X In O.hga hf O.hk ?_
 refine wpAny_call (fn_get (s:={ s with toks:=s.toks+1 }) X O.t3 ?_)
 refine wpAny_of_eq (handedOut_of rfl) ?_
 rw [← O.rd] at h; exact h
theorem iter_body {A':Around} {bm:Addr} {o:Obj} {tk:Tok} {x:Str} (hb:s.heap.get? bm=some o) (hc:o.cls=.type "method") {Q:Fin→Shared→Prop} {E:Value→Shared→Prop}
  (h:Q (.done (.ret (.ref s.heap.objs.size))) { s with heap:=s.heap.push { cls:=.type "callable_iterator",data:=.fields #[.ref bm,.str x tk,.bool false] } }) :
  wpAny (model B.prog B.w) A' (Builtin.«iter» ⟨[.ref bm,.str x tk],[]⟩) Q E s:=by
 obtain ⟨hh,g,d,t,os⟩:=s
 have L0:Looks (model B.prog B.w) hh (typeOf (.ref bm)) (.type "method"):=by
  have:=(Looks.ld (M:=model B.prog B.w) (part:=none) hb).andThen (f:=fun o=>pure o.cls) .now
  rw [hc] at this; exact this
 have L1:Looks (model B.prog B.w) hh (specialOf (.ref bm) "__call__") (some (.builtin "method.__call__")):=by
  refine L0.andThen (Looks.of_pure ?_)
  rw [typeLookup_type,builtinLookup_eq_fast]; kernel_rfl
 unfold Builtin.«iter»
 refine wpAny_bind (wpAny_pure (wpAny_bind (L1.at ?_)))
 refine wpAny_bind (wpAny_rule (wpAny_bind ?_))
 exact wpAny_bind (wpAny_alloc (wpAny_pure (wpAny_pure h)))
end
end Mine
namespace Mine
open PySem PySem.W
theorem slot_fn_ga:Slot "function" "__getattribute__" "object.__getattribute__" :=
 .of (owner:="object") (n:="__getattribute__") (by rw [typeLookup_type,builtinLookup_eq_fast]; kernel_rfl) (by decide +kernel) (by decide +kernel) (by decide +kernel)
  (.inl (by decide +kernel)) (by rw [isSubtype_type]; kernel_rfl)
theorem entry_oga:entryFor table "object.__getattribute__"=some Builtin.«object.__getattribute__»:=entryFor_of_tree (by kernel_rfl)
theorem args_oga (a b:Value):argsOk "object.__getattribute__" ⟨[a,b],[]⟩:=by unfold argsOk; kernel_rfl
theorem lk_fn_ga:typeLookup (.type "function") "__getattribute__"=pure (some (.builtin "object.__getattribute__")):=by rw [typeLookup_type,builtinLookup_eq_fast]; kernel_rfl
theorem lk_fn_gh:typeLookup (.type "function") "__getattr__"=pure none:=by rw [typeLookup_type,builtinLookup_eq_fast]; kernel_rfl
theorem lk_fn_read:typeLookup (.type "function") "read"=pure none:=by rw [typeLookup_type,builtinLookup_eq_fast]; kernel_rfl
theorem canon_oga:(Manifest.canonical "object.__getattribute__" != "object.__getattribute__")=false:=by decide +kernel
section
variable {M:Model} {B:Base} {A:Around} {s:Shared} {m:Str→Option Value} {k:Nat}
theorem looks_cls {h:Heap} {a:Addr} {o:Obj} {c:Value} (e:h.get? a=some o) (hc:o.cls=c):Looks M h (typeOf (.ref a)) c:=by
 subst hc
 exact (Looks.ld (part:=none) e).andThen .now
theorem fn_object {h:Heap} {a:Addr} {o:Obj} (e:h.get? a=some o) (hc:o.cls=.type "function"):Looks M h (isInstance (.ref a) (.type "object")) true :=
 (looks_cls e hc).andThen (Looks.of_pure (by rw [isSubtype_type]; kernel_rfl))
theorem fnGet {st sd:Addr} {fd:FuncData} {sl:Array (Option Value)} {v:Value} (hst:s.heap.get? st=some { cls:=.type "function",dict:=some sd,data:=.func fd,slots:=sl }) (n:NsL s.heap sd m k) (hv:m (Str.ofString "read")=some v) (hh:handedIn v=true)
  {pl:Sem Bool} {Q:Value × List Value→Shared→Prop} {E:Value→Shared→Prop} (h:Q (v,[]) { s with toks:=s.toks+1 }) :
  wpAny (model B.prog B.w) A (getMethod (.ref st) (Str.ofString "read") pl) Q E s:=by
 have ty:Looks (model B.prog B.w) s.heap (typeOf (.ref st)) (.type "function"):=looks_cls hst rfl
 have u:wpAny (model B.prog B.w) A (do return (← getAttr (.ref st) (Str.ofString "read")  ,([]:List Value))) Q E s:=by
  refine wpAny_bind (wpAny_bind (wpAny_mkText (wpAny_holding (wpAny_bind (ty.at (wpAny_bind ?_))))))
  rw [lk_fn_ga]
  refine wpAny_pure ?_
  dsimp only
  rw [if_neg (by decide)]
  refine wpAny_bind (wpAny_pure (wpAny_bind (wpAny_attempt (wpAny_holding ?_))))
  unfold callGetattribute
  rw [show (false&&onTheHeap (Value.builtin "object.__getattribute__"))=false from rfl,if_neg (by decide)]
  unfold boundAndCalled
  rw [slot_fn_ga.bind]
  refine wpAny_bind (wpAny_pure ?_)
  show wpAny _ _ (call (.builtin "object.__getattribute__") [.ref st,.str (Str.ofString "read") s.toks]) _ _ _
  refine wpAny_call ?_
  refine codeAny_call_builtin slot_fn_ga.plain entry_oga ?_
  refine @check_slot (model B.prog B.w) _ _ { s with toks:=s.toks+1 } "object.__getattribute__" "object" "__getattribute__" (.ref st) [.str (Str.ofString "read") s.toks] [] _ (by decide +kernel) (by decide +kernel) (fn_object hst rfl) (args_oga (.ref st) (.str (Str.ofString "read") s.toks)) ?_
  unfold Builtin.«object.__getattribute__»
  refine wpAny_bind (wpAny_pure (wpAny_bind (wpAny_pure (wpAny_bind (ty.at (wpAny_bind ?_))))))
  unfold Builtin.ObjectAttr.find
  rw [lk_fn_read]
  refine x4_4 (n) fun d es ep sl' hsd hk hz hm=>?_
  refine wpAny_bind (wpAny_pure (wpAny_bind (wpAny_pure (wpAny_bind (wpAny_pure ?_)))))
  refine wpAny_bind ?_
  refine wpAny_bind (wpAny_bind (wpAny_loadPart hst (wpAny_bind (wpAny_loadPart hst (wpAny_pure ?_)))))
  refine wpAny_bind (wpAny_loadPart hsd ?_)
  rw [nsLook_of (NsL.look hk hm _),hv]
  refine wpAny_pure ?_
  refine wpAny_bind (wpAny_rule (wpAny_pure (wpAny_pure ?_)))
  refine wpAny_of_eq (handedOut_of hh) (wpAny_pure ?_)
  exact h
 unfold getMethod specialOf
 refine wpAny_bind (wpAny_bind (ty.here ?_))
 rw [lk_fn_ga]
 refine wpAny_pure ?_
 dsimp only
 rw [canon_oga,if_neg (by decide)]
 refine wpAny_bind (wpAny_bind (ty.here ?_))
 rw [lk_fn_gh]
 refine wpAny_pure ?_
 refine wpAny_bind (wpAny_bind (ty.here ?_))
 rw [lk_fn_read]
 refine wpAny_pure ?_
 exact u
end
end Mine
namespace Mine
open PySem
section
variable {B:Base} {A:Around} {F G:Lay} {σ σ':Sto} {s s':Shared} {d:Nat} {a b v:V} {x y:Value} {gt tb:List Str} {vis:List (Nat × Bool)} {wv gl:List Nat} {env:Env} {loc loc':Loc} {i:Nat} {I:Addr} {it:It}
theorem nx_mv {k:Nat} (r:ItR B s.heap F I k it) (nx:NxP B F σ s I s'):Mv F F s.heap s'.heap:=.of_kept nx.keep fun b o' q e'=>by
 refine x1_2 (r.live_) fun o eo no=>?_
 subst q; rw [eo] at e'; cases e'; exact .of no
theorem draw_ok (hh:A.handled=none) (hf:B.h0.get? I=none) (hI:I∉F.flatten) {vs:List V} (hv:∀ j,nextAt it j σ=some vs[j]?) (hle:∀ us,it=.items us→us.length=vs.length) {E:Value→Shared→Prop} :
  ∀ (n k:Nat) (s:Shared) (Q:List Value→Shared→Prop),Inv B F σ s→ItR B s.heap F I k it→k+n≤vs.length →
   (∀ xs s',NxP B F σ s I s'→ItR B s'.heap F I (k+n) it→VRs B.fa s'.heap F ((vs.drop k).take n) xs→Q xs s')→wpAny (model B.prog B.w) A (draw (.ref I) n) Q E s
 | 0,k,s,Q,Iv,r,_,h=>wpAny_pure (h [] s ⟨Iv,.refl _ _⟩ r (by rw [List.take_zero]; exact .nil))
 | n+1,k,s,Q,Iv,r,hk,h=>by
  show wpAny _ _ (pyNext (.ref I) >>= _) Q E s
  have hlt:k < vs.length:=Nat.lt_of_lt_of_le (Nat.lt_add_of_pos_right (Nat.succ_pos n)) hk
  refine wpAny_bind (next_ok hh Iv r hf hI ((hv k).trans (congrArg some (List.getElem?_eq_getElem hlt))) (fun e=>by cases e) (fun v x s₁ e nx r₁ rx=>?_) fun us e=>by rw [hle us e]; exact Nat.le_of_lt hlt)
  cases e
  refine wpAny_bind (wpAny_holding (draw_ok hh hf hI hv hle n (k+1) s₁ _ nx.inv r₁ (Nat.le_trans (Nat.le_of_eq (Nat.add_right_comm k 1 n)) hk) fun xs s₂ nx₂ r₂ rs=>wpAny_pure ?_))
  refine h (x :: xs) s₂ ⟨nx₂.inv,nx.keep.trans nx₂.keep⟩ ((Nat.add_right_comm k 1 n)▸r₂) ?_
  rw [List.drop_eq_getElem_cons hlt,List.take_succ_cons]
  exact .cons (rx.step (nx_mv r₁ nx₂)) rs
theorem items_iter (Iv:Inv B F σ s) (r:VR B.fa s.heap F a x) {vs:List V} (e:itemsOf σ a=some vs):∃ it,iterOf σ a=some (it,vs.length)∧(∀ j,nextAt it j σ=some vs[j]?)∧(∀ us,it=.items us→us.length=vs.length)∧∃ T id,s.TypeIs x T∧Slot T "__iter__" id:=by
 have hl:∀ {xs},lsV σ a=some xs→∃ T id,s.TypeIs x T∧Slot T "__iter__" id:=fun q=>by
  refine x2_3 (r.asList Iv q) fun a1 its1 hq_206 l1 ζ=>?_
  apply q1 hq_206
  exact ⟨_,_,l1.isList.typeIs,slot_list_iter⟩
 rcases or_is e with e | e
 ·cases a with
  | ref i =>
   have e':vlist σ i=some vs:=e
   exact ⟨.live i,by show (vlist σ i).map _=_; rw [e']; rfl,fun j=>by show (vlist σ i).map _=_; rw [e']; rfl,(fun us q=>by cases q),hl e⟩
  | lst us=>apply s1 e; exact ⟨_,rfl,fun j=>rfl,fun us q=>by cases q; rfl,hl rfl⟩
  | _=>exact noS e
 ·refine x3_3 (r.ofTup e) fun t items n hq_207 ht ζ=>?_
  apply q1 hq_207
  cases tupV_is e
  exact ⟨_,rfl,fun j=>rfl,fun us q=>by cases q; rfl,_,_,⟨_,ht,rfl⟩,PySem.F.slot_tuple_iter⟩
theorem unpack_ok (hh:A.handled=none) (Iv:Inv B F σ s) (r:VR B.fa s.heap F a x) {vs:List V} (e:itemsOf σ a=some vs) {E:Value→Shared→Prop} {Q:List Value→Shared→Prop}
  (h:∀ xs s',Inv B F σ s'→(∀ b o,s.heap.get? b=some o→s'.heap.get? b=some o)→VRs B.fa s'.heap F vs xs→Q xs s'):wpAny (model B.prog B.w) A (unpackItems x vs.length none) Q E s:=by
 obtain ⟨it,ei,hv,hle,T,id,hT,sl⟩:=items_iter Iv r e
 unfold unpackItems
 refine wpAny_bind ?_
 unfold notIterableAtAll
 refine wpAny_bind (wpAny_specialOf hT sl.lookup ?_)
 refine wpAny_pure ?_
 simp only [Bool.false_eq_true,if_false]
 refine wpAny_bind (wpAny_holding (iter_ok Iv r ei fun I s₁ p=>?_))
 have dd:=Iv.dead p.dead
 refine wpAny_bind (wpAny_holding (draw_ok hh dd.1 dd.2 hv hle vs.length 0 s₁ _ p.inv p.itr (Nat.le_of_eq (Nat.zero_add _)) fun xs s₂ nx r₂ rs=>?_))
 rw [List.drop_zero,List.take_length] at rs
 rw [if_neg (Nat.not_lt_of_le (Nat.le_of_eq rs.length))]
 rw [Nat.zero_add] at r₂
 refine wpAny_bind (wpAny_holding (next_ok hh nx.inv r₂ dd.1 dd.2 (hv vs.length) (fun ζ s₃ nx₃=>?_) (fun v x s₁ e=>by rw [List.getElem?_eq_none (Nat.le_refl _)] at e; cases e) fun us e=>by rw [hle us e]; exact Nat.le_refl _))
 simp only [Option.isSome_none,Bool.false_eq_true,if_false]
 refine wpAny_pure (h xs s₃ nx₃.inv (fun b o e=>?_) (rs.step (nx_mv r₂ nx₃)))
 have hb:b≠I:=fun q=>by subst q; rw [p.dead] at e; exact noS e
 exact nx₃.keep b o (nx.keep b o (p.keep b o e) hb) hb
noncomputable def setAll (loc:Loc) (ps:List (Nat × V)):Loc:=ps.foldl (fun l p=>l.set p.1 (some p.2)) loc
theorem stores_ok {ι:Type} {key:ι→Nat} (R:ER B gt tb vis wv gl env) (f:ι→Value→Sem Unit) (hf:∀ i x s Q E,wpAny (model B.prog B.w) A (storeName env (nmOf tb (key i)) x) Q E s→wpAny (model B.prog B.w) A (f i x) Q E s) {E:Value→Shared→Prop} :
  ∀ (ks:List ι) (vs:List V) (xs:List Value) (loc:Loc) (s:Shared) (Q:Unit→Shared→Prop),(∀ i∈ks.map key,i∈wv)→ks.length=vs.length→Inv B F σ s→LR B tb vis env F loc s.heap→VRs B.fa s.heap F vs xs →
   (∀ s',StP B tb vis wv env F σ (setAll loc ((ks.map key).zip vs)) s s'→Q () s')→wpAny (model B.prog B.w) A (assignInOrder (ks.map f) xs) Q E s
 | [],vs,xs,loc,s,Q,_,hl,Iv,L,rr,h=>by
  cases vs with
  | cons=>cases hl
  | nil=>rw [rr.nil_is]; exact wpAny_pure (h s (.refl Iv L))
 | k :: ks,vs,xs,loc,s,Q,hw,hl,Iv,L,rr,h=>by
  cases vs with
  | nil=>cases hl
  | cons v vs =>
  refine x2_3 (rr.cons_is) fun x xs hq_208 r rs=>?_
  apply q1 hq_208
  show wpAny _ _ (do holding xs (f k x); assignInOrder (ks.map f) xs) Q E s
  refine wpAny_bind (wpAny_holding (hf k x s _ _ (store_ok R Iv L (hw _ (.head _)) r fun s₁ p=>?_)))
  exact stores_ok R f hf ks vs xs _ s₁ Q (fun i hi=>hw i (.tail _ hi)) (Nat.succ.inj hl) p.inv p.lr (rs.step (p.imk Iv L)) fun s₂ p₂=>h s₂ (p.trans p₂)
theorem set_comm' (l:Loc) {i j:Nat} (h:i≠j) (a b:Option V):(l.set i a).set j b=(l.set j b).set i a:=List.set_comm a b h
theorem setAll_set (i:Nat) (v:V):∀ (ps:List (Nat × V)) (loc:Loc),(∀ p∈ps,p.1≠i)→setAll (loc.set i (some v)) ps=(setAll loc ps).set i (some v)
 | [],_,_=>rfl
 | p :: ps,loc,h=>by
  show setAll ((loc.set i (some v)).set p.1 (some p.2)) ps=(setAll (loc.set p.1 (some p.2)) ps).set i (some v)
  rw [set_comm' loc (fun q=>h p (.head _) q.symm),setAll_set i v ps _ fun q hq=>h q (.tail _ hq)]
theorem setAll_append (loc:Loc) (ps qs:List (Nat × V)):setAll loc (ps++qs)=setAll (setAll loc ps) qs:=List.foldl_append
theorem setAll_reverse:∀ (ps:List (Nat × V)) (loc:Loc),(ps.map (·.1)).Nodup→setAll loc ps.reverse=setAll loc ps
 | [],_,_=>rfl
 | p :: ps,loc,h=>by
  rw [List.map_cons,List.nodup_cons] at h
  rw [List.reverse_cons,setAll_append,setAll_reverse ps loc h.2]
  show (setAll loc ps).set p.1 (some p.2)=setAll (loc.set p.1 (some p.2)) ps
  rw [setAll_set p.1 p.2 ps loc fun q hq e=>h.1 (by rw [← e]; exact List.mem_map_of_mem hq)]
theorem fold_setAll:∀ (is:List (Nat × Pos)) (vs:List V) (loc:Loc),(is.zip vs).foldl (fun l x=>l.set x.1.1 (some x.2)) loc=setAll loc ((is.map (·.1)).zip vs)
 | [],_,_=>rfl
 | _ :: _,[],_=>rfl
 | p :: is,v :: vs,loc=>by
  rw [List.zip_cons_cons,List.foldl_cons,fold_setAll is vs,List.map_cons,List.zip_cons_cons]; rfl
noncomputable def tgSlots:Tg→List Nat
 | .name i _=>[i]
 | .tup is _=>is.map (·.1)
theorem each_names (tb:List Str) (env:Env):∀ is:List (Nat × Pos),assignEach (is.map fun x=>Expr.Name (nmOf tb x.1) x.2) env=is.map fun x=>(false,assign (.Name (nmOf tb x.1) x.2) env)
 | []=>rfl
 | p :: is=>by rw [List.map_cons,List.map_cons,← each_names tb env is]; rfl
theorem bind_ok (hh:A.handled=none) (R:ER B gt tb vis wv gl env) (Iv:Inv B F σ s) (L:LR B tb vis env F loc s.heap) {t:Tg} (ht:∀ i∈tgSlots t,i∈wv) (r:VR B.fa s.heap F v x) (e:bindT t v loc σ=some loc') {E:Value→Shared→Prop} {Q:Unit→Shared→Prop}
  (h:∀ s',StP B tb vis wv env F σ loc' s s'→Q () s'):wpAny (model B.prog B.w) A (assign (toTg tb t) env x) Q E s:=by
 cases t with
 | name i p =>
  refine x0_2 (ite_is e) fun ζ hq_209=>?_
  subst hq_209
  exact wpAny_assign_Name (store_ok R Iv L (ht i (.head _)) r h)
 | tup is p =>
  refine x1_2 (bind_is e) ?_
  (try clear e)
  intro vs q e
  refine x0_2 (ite_is e) fun hl hq_210=>?_
  subst hq_210
  rw [fold_setAll] at h
  rw [show toTg tb (.tup is p)=Expr.Tuple (is.map fun x=>.Name (nmOf tb x.1) x.2) 0 p from rfl,arm_assign_Tuple,each_names]
  refine wpAny_bind (wpAny_standAt ?_)
  unfold unpack
  rw [List.length_map,← hl,List.findIdx?_eq_none_iff.mpr (by intro z hz; refine x1_2 (List.mem_map.mp hz) fun ζ ζ hq_211=>?_; apply q2 hq_211; rfl),List.map_map]
  refine wpAny_bind (wpAny_holding (unpack_ok hh Iv r q fun xs s₁ Iv₁ k rs=>?_))
  have hs:∀ (i:Nat × Pos) (x:Value) (s:Shared) (Q:Unit→Shared→Prop) (E:Value→Shared→Prop),wpAny (model B.prog B.w) A (storeName env (nmOf tb i.1) x) Q E s→wpAny (model B.prog B.w) A (assign (.Name (nmOf tb i.1) i.2) env x) Q E s:=fun ζ ζ ζ ζ ζ h=>wpAny_assign_Name h
  show wpAny _ _ (assignInOrder (is.map fun x=>assign (.Name (nmOf tb x.1) x.2) env) xs) Q E s₁
  exact stores_ok (key:=Prod.fst) R (fun x=>assign (.Name (nmOf tb x.1) x.2) env) hs is vs xs loc s₁ Q ht hl.symm Iv₁ (L.keep (k _) (fun ζ ζ o ζ e=>k _ o e) (.of k) L.fl.1 fun n c e=>(L.fc n c e).1) rs fun s₂ p=>h s₂ ⟨p.inv,p.lr,fun b o e w=>p.keep b o (k b o e) w⟩
end
end Mine
namespace Mine
open PySem
theorem bA1 {a b:Bool} (h:(a&&b)=true):a=true∧b=true:=Bool.and_eq_true_iff.mp h
theorem bA2 {a b c:Bool} (h:(a&&b&&c)=true):(a=true∧b=true)∧c=true:=⟨bA1 (bA1 h).1,(bA1 h).2⟩
theorem bA3 {a b c d:Bool} (h:(a&&b&&c&&d)=true):((a=true∧b=true)∧c=true)∧d=true:=⟨bA2 (bA1 h).1,(bA1 h).2⟩
theorem bA4 {a b c d e:Bool} (h:(a&&b&&c&&d&&e)=true):(((a=true∧b=true)∧c=true)∧d=true)∧e=true:=⟨bA3 (bA1 h).1,(bA1 h).2⟩
theorem bB2 {a b c:Bool} {P:Prop} (h:(a&&b&&c)=true) (k:a=true→b=true→c=true→P):P:=k (bA2 h).1.1 (bA2 h).1.2 (bA2 h).2
theorem bB3 {a b c d:Bool} {P:Prop} (h:(a&&b&&c&&d)=true) (k:a=true→b=true→c=true→d=true→P):P:=k (bA3 h).1.1.1 (bA3 h).1.1.2 (bA3 h).1.2 (bA3 h).2
theorem bB4 {a b c d e:Bool} {P:Prop} (h:(a&&b&&c&&d&&e)=true) (k:a=true→b=true→c=true→d=true→e=true→P):P:=bB3 (bA1 h).1 fun p q r s=>k p q r s (bA1 h).2
theorem bB5 {a b c d e f:Bool} {P:Prop} (h:(a&&b&&c&&d&&e&&f)=true) (k:a=true→b=true→c=true→d=true→e=true→f=true→P):P:=bB4 (bA1 h).1 fun p q r s t=>k p q r s t (bA1 h).2
theorem bB6 {a b c d e f g:Bool} {P:Prop} (h:(a&&b&&c&&d&&e&&f&&g)=true) (k:a=true→b=true→c=true→d=true→e=true→f=true→g=true→P):P:=bB5 (bA1 h).1 fun p q r s t u=>k p q r s t u (bA1 h).2
structure StepW (W:Addr→Prop) (B:Base) (F:Lay) (s:Shared) (G:Lay) (s':Shared):Prop where
 kept:Kept (fun b=>Wr B F b∨W b) s.heap s'.heap
 fresh:∀ a∈G.flatten,s.heap.get? a=none
section
variable {α β:Type} {B:Base} {A:Around} {F G G':Lay} {σ σ':Sto} {s s' s'':Shared} {W W':Addr→Prop}
theorem Step.w (T:Step B F s G s'):StepW W B F s G s':=⟨T.kept.mono fun ζ=>.inl,T.fresh⟩
theorem StepW.refl (W:Addr→Prop) (B:Base) (F:Lay) (s:Shared):StepW W B F s [] s:=⟨.refl _ _,fun ζ h=>by simp at h⟩
theorem StepW.of_kept (k:Kept W s.heap s'.heap):StepW W B F s [] s':=⟨k.mono fun ζ=>.inr,fun ζ h=>by simp at h⟩
theorem StepW.mono (T:StepW W B F s G s') (i:∀ b,W b→W' b):StepW W' B F s G s':=⟨T.kept.mono fun b q=>q.imp id (i b),T.fresh⟩
theorem StepW.trans (x:StepW W B F s G s') (y:StepW W B (F++G) s' G' s'') (I:Inv B (F++G++G') σ s'') (hW:∀ a,W a→a∉G'.flatten):StepW W B F s (G++G') s'':=by
 refine ⟨fun b o e n=>y.kept b o (x.kept b o e n) ?_,fun a ha=>?_⟩
 ·rintro ((q | q) | q)
  ·rcases q.app with q | q
   ·exact n (.inl (.inl q))
   ·rw [x.fresh b q] at e; exact noS e
  ·exact n (.inl (.inr q))
  ·exact n (.inr q)
 ·rw [List.flatten_append,List.mem_append] at ha
  rcases ha with ha | ha
  ·exact x.fresh a ha
  ·cases e:s.heap.get? a with
   | none=>rfl
   | some o =>
    exfalso
    have d:=y.fresh a ha
    have nw:¬ (Wr B F a∨W a):=by
     rintro ((q | rfl) | q)
     ·have nd:=I.nodup
      rw [List.flatten_append,List.flatten_append,List.nodup_append] at nd
      exact nd.2.2 a (List.mem_append.mpr (.inl q.mem)) a ha rfl
     ·refine x1_1 (I.tabo) fun ps t=>?_
      have:=I.fresh B.tab (by rw [List.flatten_append]; exact List.mem_append.mpr (.inr ha))
      rw [t] at this; cases this
     ·exact hW a q ha
    rw [x.kept a o e nw] at d; cases d
theorem StepW.after (k:Kept W s.heap s'.heap) (y:StepW W B F s' G s'') (I:Inv B (F++G) σ s'') (hW:∀ a,W a→a∉G.flatten):StepW W B F s G s'':=by
 have:=(StepW.of_kept (B:=B) (F:=F) k).trans (G':=G) (s'':=s'') (σ:=σ) (by rw [List.append_nil]; exact y) (by rw [List.append_nil]; exact I) hW
 rw [List.nil_append] at this; exact this
theorem StepW.imk (I:Inv B F σ s) (T:StepW W B F s G s') (hW:∀ b o,W b→s.heap.get? b=some o→Mut F b o):Mv F (F++G) s.heap s'.heap:=(Mv.of_kept T.kept fun b o w e=>w.elim (fun w=>I.wr b o w e) fun w=>hW b o w e).add T.fresh
noncomputable def Cn (B:Base) (F:Lay) (s:Shared) (P:α→Lay→Shared→Prop):α→Shared→Prop:=fun a s'=>∃ G,Step B F s G s'∧P a (F++G) s'
noncomputable def HasInv (B:Base) (P:α→Lay→Shared→Prop):Prop:=∀ a F s,P a F s→∃ σ,Inv B F σ s
theorem hasE (B:Base) (σ:Sto) (v:V):HasInv B (PE B σ v):=fun ζ ζ ζ p=>⟨_,p.1⟩
theorem hasB (B:Base) (σ:Sto) (v:Bool):HasInv B (PB B σ v):=fun ζ ζ ζ p=>⟨_,p.1⟩
noncomputable def PEs (B:Base) (σ:Sto) (vs:List V) (xs:List Value) (F:Lay) (s:Shared):Prop:=Inv B F σ s∧VRs B.fa s.heap F vs xs
theorem hasEs (B:Base) (σ:Sto) (vs:List V):HasInv B (PEs B σ vs):=fun ζ ζ ζ p=>⟨_,p.1⟩
theorem Cn.back {P:α→Lay→Shared→Prop} (hi:HasInv B P) (T:Step B F s G s') {a:α} (h:Cn B (F++G) s' P a s''):Cn B F s P a s'':=by
 refine x1_2 (h) fun G' T' p=>?_
 refine x1_1 (hi _ _ _ p) fun σ' I=>?_
 exact ⟨G++G',T.trans T' I,by rw [← List.append_assoc]; exact p⟩
theorem seqK {P:α→Lay→Shared→Prop} {P':β→Lay→Shared→Prop} {t:Sem α} {u:α→Sem β} (hi:HasInv B P') (h:EvT B A F s t P) (k:∀ a G s',Step B F s G s'→P a (F++G) s'→wpAny (model B.prog B.w) A (u a) (Cn B (F++G) s' P') Bot s') :
  wpAny (model B.prog B.w) A t (fun a s'=>wpAny (model B.prog B.w) A (u a) (Cn B F s P') Bot s') Bot s :=
 wpAny_mono h (fun a s' ⟨G,T,p⟩=>wpAny_mono (k a G s' T p) (fun b s'' q=>q.back hi T) fun ζ ζ x=>x) fun ζ ζ x=>x
theorem evRet {v:V} {x:Value} (I:Inv B F σ s) (r:VR B.fa s.heap F v x):Cn B F s (PE B σ v) x s:=evTok s.toks I r
end
noncomputable def kwNm:Str:=Str.ofString "newline"
noncomputable def retR (Q:Value→Shared→Prop) (r:Result) (s':Shared):Prop:=match r with
 | .ok (.ret v)=>Q v s'
 | .ok _=>False
 | .error _=>False
theorem call_retR {B:Base} {A:Around} {f:Value} {xs:List Value} {kw:List (Str × Value)} {Q:Value→Shared→Prop} {s:Shared} (h:codeAny (model B.prog B.w) A (.call f ⟨xs,kw⟩) (retR Q) s):wpAny (model B.prog B.w) A (call f xs kw) Q Bot s :=
 wpAny_call (codeAny_mono h fun r s' z=>by rcases r with e | (v | _ | _ | _) <;> first | exact z | exact z.elim)
structure Kit (B:Base) (A:Around) (d:Nat) (Φ:Calls) (Λ:Lexer) (Gv:Nat→Option V) (gt:List Str) (mk:Me→Nat) (kws:Nat→Str→Bool):Prop where
 room:Room A d
 lex:∃ K,LexOK B K mk
 bok:BOk B
 gr:GR B gt Gv
 fn:∀ k as σ r,Φ k as σ=some r→∃ o fd,B.h0.get? (B.fa k)=some o∧o.cls≠.none∧o.data=.func fd
 phi:∀ A',Near A A'→∀ F σ s k as xs v σ',kws k kwNm=false→Inv B F σ s→VRs B.fa s.heap F as xs→Φ k as σ=some (v,σ')→codeAny (model B.prog B.w) A' (.call (.ref (B.fa k)) ⟨xs,[]⟩) (retR (Cn B F s (PE B σ' v))) s
 kw:∀ F σ s k as xs w y nm v σ',kws k nm=true→Inv B F σ s→VRs B.fa s.heap F as xs→VR B.fa s.heap F w y→Φ k (as++[w]) σ=some (v,σ')→EvT B A F s (call (.ref (B.fa k)) xs [(nm,y)]) (PE B σ' v)
 lam:∀ m as σ r,m.lex=true→Λ m as σ=some r→Φ (mk m) as σ=some r
 mkw:∀ m,kws (mk m) kwNm=false
 rdc:∀ a σ r,Λ .count [a] σ=some r→∃ i,a=.ref i∧readC i σ=some r
 give:∀ F σ s i v σ' as text la line p x dx st sd gv cT cA t,Inv B F σ s→Λ .count [.ref i] σ=some (v,σ')→Fat F i as→LexH B s.heap as text la line p x dx st sd gv cT cA→EvT B A F s (call (.ref gv) [.int 1 t]) (PE B σ' v)
noncomputable def EL.len:EL→Nat
 | .nil=>0
 | .cons _ r=>r.len+1
noncomputable def nodupB (l:List Str):Bool:=match l with
 | []=>true
 | x :: r=>!r.contains x&&nodupB r
noncomputable def plainNm (x:Str):Bool:=!(x==("__debug__":Str))&&!(x==("__classdict__":Str))
noncomputable def notSuper (gt:List Str):E→Bool
 | .call g _ _ _=>!(nmOf gt g==("super":Str))
 | .callkw ..=>false
 | .raw _=>false
 | _=>true
noncomputable def csOk (gt tb:List Str) (vis:List (Nat × Bool)) (cs:CS):Bool :=
 (cs.sc.kind==.function)&&cs.own.all (fun p=>cs.sc.names.lookup (nmOf tb p.1)==some (if p.2 then .cell else .local)) &&
 cs.fr.all (fun i=>cs.sc.names.lookup (nmOf tb i)==some .free&&vis.contains (i,true))&&cs.gl.all (fun g=>cs.sc.names.lookup (nmOf gt g)==some .globalImplicit&&plainNm (nmOf gt g)) &&
 nodupB ((cs.own.map (·.1)++cs.fr).map (nmOf tb))&&nodupB (cs.sc.names.map (·.1))&&cs.sc.names.all (fun x=>x.2 != .free||cs.fr.any fun i=>nmOf tb i==x.1) &&
 (cs.own.map (·.1)++cs.fr).all fun i=>plainNm (nmOf tb i)
noncomputable def CS.vis (cs:CS):List (Nat × Bool):=cs.own++cs.fr.map fun i=>(i,true)
noncomputable def CS.wv (cs:CS):List Nat:=cs.own.map (·.1)
noncomputable def disj (a b:List Nat):Bool:=a.all fun i=>!b.contains i
noncomputable def clSlots:CL→List Nat
 | .nil=>[]
 | .cons t _ _ r=>tgSlots t++clSlots r
section
variable (gt tb:List Str) (kws:Nat→Str→Bool) (Gv:Nat→Option V)
mutual
noncomputable def wfE (vis:List (Nat × Bool)) (gl:List Nat):E→Bool
 | .cnone _=>true
 | .cbool _ _=>true
 | .cint _ _=>true
 | .cstr s _=>decide (s.length≤maxLen)
 | .var i _=>vis.any (·.1==i)
 | .glob g _=>gl.contains g
 | .bin _ a b _=>wfE vis gl a&&wfE vis gl b
 | .neg a _=>wfE vis gl a
 | .cmp _ a b _=>wfE vis gl a&&wfE vis gl b
 | .cmp2 _ _ a b c _=>wfE vis gl a&&wfE vis gl b&&wfE vis gl c
 | .boolop _ es _=>wfEL vis gl es
 | .ife t a b _=>wfE vis gl t&&wfE vis gl a&&wfE vis gl b
 | .list _ es _=>wfEL vis gl es&&decide (es.len≤1000)
 | .tup es _=>wfEL vis gl es&&decide (es.len≤1000)
 | .sub a i _=>wfE vis gl a&&wfE vis gl i
 | .slice a lo hi st _ _=>wfE vis gl a&&wfO vis gl lo&&wfO vis gl hi&&wfO vis gl st
 | .call g _ es _=>gl.contains g&&wfEL vis gl es&&(match Gv g with
  | some (.fn f)=>!kws f kwNm
  | _=>true)
 | .callkw g _ es k e _ _=>gl.contains g&&wfEL vis gl es&&!es.isNil&&wfE vis gl e&&(match Gv g with
  | some (.fn f)=>kws f k
  | _=>false)
 | .meth o _ es q p=>wfE vis gl o&&wfEL vis gl es&&(q.endLine==p.line)&&decide (es.len < 29)&&notSuper gt o
 | .attr o _ _=>wfE vis gl o&&notSuper gt o
 | .fit g o _ _ _ _=>gl.contains g&&wfE vis gl o&&notSuper gt o
 | .readc o _ q2 _ p=>wfE vis gl o&&notSuper gt o&&(q2.endLine==p.line)
 | .comp _ e t it ifs r cs _=>wfE vis gl it&&csOk gt tb vis cs&&(tgSlots t).all (fun i=>cs.wv.contains i)&&disj (tgSlots t) (clSlots r)&&wfEL cs.vis cs.gl ifs&&wfCL cs.vis cs.gl cs.wv r&&wfE cs.vis cs.gl e
 | .shut i q p=>vis.any (·.1==i)&&((q.getD 2 p).endLine==(q.getD 5 p).line)&&((q.getD 6 p).endLine==(q.getD 9 p).line)
 | .tix i j _ _ q p=>vis.any (·.1==i)&&vis.any (·.1==j)&&(q.endLine==p.line)
 | _=>false
noncomputable def wfEL (vis:List (Nat × Bool)) (gl:List Nat):EL→Bool
 | .nil=>true
 | .cons e es=>wfE vis gl e&&wfEL vis gl es
noncomputable def wfO (vis:List (Nat × Bool)) (gl:List Nat):OE→Bool
 | .none=>true
 | .some e=>wfE vis gl e
noncomputable def wfCL (vis:List (Nat × Bool)) (gl:List Nat) (wv:List Nat):CL→Bool
 | .nil=>true
 | .cons t it ifs r=>wfE vis gl it&&(tgSlots t).all (fun i=>wv.contains i)&&disj (tgSlots t) (clSlots r)&&wfEL vis gl ifs&&wfCL vis gl wv r
end
end
end Mine
namespace Mine
open PySem
section
variable {B:Base} {A:Around} {F G:Lay} {σ σ':Sto} {s s':Shared} {d:Nat} {a b v:V} {x y:Value} {gt tb:List Str} {vis:List (Nat × Bool)} {wv gl:List Nat} {env:Env} {loc loc':Loc}
theorem star_cons (e:E) (h:∀ x,e≠.raw x) (r:List Expr):starEach (toE gt tb e :: r) env=(false,eval (toE gt tb e) env) :: starEach r env:=by
 cases e <;> first | rfl | exact absurd rfl (h _)
theorem wf_raw {kws:Nat→Str→Bool} {Gv:Nat→Option V} {e:E} (h:wfE gt tb kws Gv vis gl e=true):∀ x,e≠.raw x:=fun x q=>by subst q; exact noT h
theorem back_cons (pos:Pos) (t:Sem Value) (r:List (Bool × Sem Value)):backTo pos ((false,t) :: r)=(false,t) :: backTo pos r:=rfl
theorem wp_super {M:Model} {A:Around} {id:Str} {p q:Pos} {name:Str} {t:Sem Value} (hn:(id != ("super":Str))=true) {Q:Value→Shared→Prop} {E:Value→Shared→Prop} (h:wpAny M A t Q E s):wpAny M A (attributeBase (.Call (.Name id p) [] [] q) name env t) Q E s:=by
 unfold attributeBase
 simp only [hn,Bool.true_or,if_true]
 exact h
theorem base_ok {M:Model} {e:E} (hn:notSuper gt e=true) {name:Str} {Q:Value→Shared→Prop} {E:Value→Shared→Prop} (h:wpAny M A (eval (toE gt tb e) env) Q E s):wpAny M A (attributeBase (toE gt tb e) name env (eval (toE gt tb e) env)) Q E s:=by
 cases e with
 | call g p'' es p' =>
  cases es with
  | cons=>exact h
  | nil=>exact wp_super hn h
 | callkw=>exact noT hn
 | raw=>exact noT hn
 | _=>exact h
theorem all_plain {kws:Nat→Str→Bool} {Gv:Nat→Option V}:∀ {es:EL} {pos:Pos},wfEL gt tb kws Gv vis gl es=true→(backTo pos (starEach (toEL gt tb es) env)).all (fun x=>!x.1)=true∧(backTo pos (starEach (toEL gt tb es) env)).any (·.1)=false
 | .nil,_,_=>⟨rfl,rfl⟩
 | .cons e es,pos,h=>by
  have h:=bA1 h
  refine x0_2 (all_plain (pos:=pos) h.2) fun h1 h2=>?_
  show (backTo pos (starEach (toE gt tb e :: toEL gt tb es) env)).all _=true∧(backTo pos (starEach (toE gt tb e :: toEL gt tb es) env)).any _=false
  rw [star_cons e (wf_raw h.1),back_cons]
  exact ⟨by rw [List.all_cons,h1]; rfl,by rw [List.any_cons,h2]; rfl⟩
theorem toEL_len:∀ es:EL,(toEL gt tb es).length=es.len
 | .nil=>rfl
 | .cons e es=>by show (toE gt tb e :: toEL gt tb es).length=_; rw [List.length_cons,toEL_len es]; rfl
theorem meth_rule {kws:Nat→Str→Bool} {Gv:Nat→Option V} {e:E} {es:EL} {name:Str} {q p:Pos} (hn:notSuper gt e=true) (hw:wfEL gt tb kws Gv vis gl es=true) (hl:(q.endLine==p.line)=true) (h29:es.len < 29) {Q:Value→Shared→Prop} {E:Value→Shared→Prop}
  (h:wpAny (model B.prog B.w) A (eval (toE gt tb e) env) (fun ov s₁=>∀ pl,wpAny (model B.prog B.w) A (getMethod ov name pl) (fun fm s₂=>wpAny (model B.prog B.w) A (callWith p fm.1 fm.2 (backTo p (starEach (toEL gt tb es) env)) []) Q E s₂) E s₁) E s) :
  wpAny (model B.prog B.w) A (eval (.Call (.Attribute (toE gt tb e) name q) (toEL gt tb es) [] p) env) Q E s:=by
 rw [arm_eval_Call]
 refine wpAny_bind (base_ok hn (wpAny_mono h (fun ov s₁ h₁=>?_) fun ζ ζ e=>e))
 refine wpAny_bind (wpAny_standAt ?_)
 have hform:methodCallForm ((toEL gt tb es).length+([]:List Keyword).length) (backTo p (starEach (toEL gt tb es) env)) (backToKw p (keywordEach [] env))=true:=by
  unfold methodCallForm
  rw [(all_plain hw).1,toEL_len]
  show (true&&true&&decide (es.len+0+0 < 30))=true
  rw [decide_eq_true (by (first | lia | omega))]; rfl
 have hpos:methodCallPos true (toE gt tb e) env q p=pure p:=by unfold methodCallPos; simp [hl]
 unfold methodCall
 rw [hform]
 refine wpAny_bind (wpAny_holding ?_)
 unfold calleeOf
 rw [if_pos rfl]
 refine wpAny_mono (h₁ _) (fun fm s₂ h₂=>?_) fun ζ ζ z=>z
 exact wpAny_bind (wpAny_of_eq hpos h₂)
theorem evalArgs_any {kws:Nat→Str→Bool} {Gv:Nat→Option V} {f:Value} {es:EL} {pos:Pos} (hw:wfEL gt tb kws Gv vis gl es=true) {Q:Args→Shared→Prop} {E:Value→Shared→Prop} {M:Model}
  (h:wpAny M A (spliced (backTo pos (starEach (toEL gt tb es) env))) (fun vs s₁=>Q ⟨vs,[]⟩ s₁) E s):wpAny M A (evalArgs f true (backTo pos (starEach (toEL gt tb es) env)) []) Q E s:=by
 cases es with
 | nil =>
  unfold evalArgs
  show wpAny M A (spliced [] >>= _) Q E s
  refine wpAny_bind (wpAny_mono h (fun vs s' h'=>?_) fun ζ ζ x=>x)
  refine wpAny_holding ?_
  exact wpAny_bind (wpAny_pure (wpAny_bind (wpAny_pure (wpAny_pure h'))))
 | cons e es =>
  have hw:=bA1 hw
  have he:starEach (toEL gt tb (.cons e es)) env=(false,eval (toE gt tb e) env) :: starEach (toEL gt tb es) env:=star_cons e (wf_raw hw.1) _
  rw [he,back_cons] at h ⊢
  exact Calls.evalArgs_plain h
end
end Mine
namespace Mine
open PySem
theorem closure_loop (env:Env) (f:Str × NameKind→List (Str × Addr)→Sem (ForInStep (List (Str × Addr))))
  (hf:∀ name kind cs,f (name,kind) cs=if kind==.free then (do let a ← cellOf env name; pure (.yield ((name,a) :: cs))) else pure (.yield cs)) :
  ∀ (names:List (Str × NameKind)) (acc:List (Str × Addr)),(∀ x∈names,x.2=.free→∃ c,env.cells.lookup x.1=some c)→(∀ n c,acc.lookup n=some c→env.cells.lookup n=some c) →
   ∃ cl,forIn names acc f=pure cl∧(∀ n c,cl.lookup n=some c→env.cells.lookup n=some c)∧(∀ n,(acc.lookup n).isSome→cl.lookup n=env.cells.lookup n)∧(∀ x∈names,x.2=.free→cl.lookup x.1=env.cells.lookup x.1)∧∀ n c,cl.lookup n=some c→(acc.lookup n).isSome∨(n,NameKind.free)∈names
 | [],acc,_,ha=>⟨acc,by simp,ha,(fun n h=>by
   refine x1_1 (Option.isSome_iff_exists.mp h) fun c e=>?_
   rw [e,ha n c e]),(fun x hx=>by cases hx),fun n c e=>.inl (by rw [e]; rfl)⟩
 | (name,kind) :: r,acc,hn,ha=>by
  rw [List.forIn_cons,hf]
  by_cases hk:kind=.free
  ·subst hk
   refine x1_1 (hn (name,.free) (.head _) rfl) fun c e=>?_
   have ha':∀ n c',((name,c) :: acc).lookup n=some c'→env.cells.lookup n=some c':=fun n c' q=>by
    rw [List.lookup_cons] at q
    cases hb:n==name with
    | true=>rw [hb] at q; cases q; rw [eq_of_beq hb]; exact e
    | false=>rw [hb] at q; exact ha n c' q
   refine x1_5 (closure_loop env f hf r ((name,c) :: acc) (fun x hx=>hn x (.tail _ hx)) ha') fun cl h1 h2 h3 h4 h5=>?_
   have hs:(((name,c) :: acc).lookup name).isSome:=by rw [List.lookup_cons,beq_self_eq_true]; rfl
   refine ⟨cl,?_,h2,fun n hs'=>?_,fun x hx hf'=>?_,fun n c' e'=>?_⟩
   ·have ec:cellOf env name=pure c:=by unfold cellOf; rw [e]
    rw [ec]; exact h1
   ·refine h3 n ?_
    rw [List.lookup_cons]
    cases n==name with
    | true=>rfl
    | false=>exact hs'
   ·rcases List.mem_cons.mp hx with rfl | hx
    ·exact h3 name hs
    ·exact h4 x hx hf'
   ·rcases h5 n c' e' with q | q
    ·rw [List.lookup_cons] at q
     cases hb:n==name with
     | true=>exact .inr (by rw [eq_of_beq hb]; exact .head _)
     | false=>rw [hb] at q; exact .inl q
    ·exact .inr (.tail _ q)
  ·have hb:(kind==NameKind.free)=false:=by simpa using hk
   refine x1_5 (closure_loop env f hf r acc (fun x hx=>hn x (.tail _ hx)) ha) fun cl h1 h2 h3 h4 h5=>?_
   refine ⟨cl,?_,h2,h3,fun x hx hf'=>?_,fun n c e=>(h5 n c e).imp id (.tail _)⟩
   ·rw [hb]; exact h1
   ·rcases List.mem_cons.mp hx with rfl | hx
    ·exact absurd hf' hk
    ·exact h4 x hx hf'
theorem closure_ok {scope:Scope} {env:Env} (hn:∀ x∈scope.names,x.2=.free→∃ c,env.cells.lookup x.1=some c) :
  ∃ cl,closureFor scope env=pure cl∧(∀ n c,cl.lookup n=some c→env.cells.lookup n=some c)∧(∀ x∈scope.names,x.2=.free→cl.lookup x.1=env.cells.lookup x.1)∧∀ n c,cl.lookup n=some c→(n,NameKind.free)∈scope.names:=by
 refine x1_5 (closure_loop env (fun (x:Str × NameKind) r=>if x.2==.free then (do let a ← cellOf env x.1; pure (.yield ((x.1,a) :: r))) else pure (.yield r)) (fun ζ ζ ζ=>rfl) scope.names [] hn (fun n c e=>by cases e)) fun cl h1 h2 ζ h4 h5=>?_
 refine ⟨cl,?_,h2,h4,fun n c e=>(h5 n c e).elim (fun q=>by cases q) id⟩
 have e:closureFor scope env=(forIn scope.names ([]:List (Str × Addr)) (fun (x:Str × NameKind) r=>if x.2==.free then (do let a ← cellOf env x.1; pure (.yield ((x.1,a) :: r))) else pure (.yield r)) >>= fun cs=>pure cs):=rfl
 rw [e,h1]; rfl
theorem cells_ok:∀ (names:List (Str × NameKind)) (h:Heap) (acc:List (Str × Addr)),(names.map (·.1)).Nodup→(∀ n c,acc.lookup n=some c→c < h.objs.size)→(∀ n n' c,acc.lookup n=some c→acc.lookup n'=some c→n=n') →
  (∀ n,(n,NameKind.cell)∉names→(cellsFrom h.objs.size names acc).lookup n=acc.lookup n) ∧
  (∀ n,(n,NameKind.cell)∈names→∃ c,(cellsFrom h.objs.size names acc).lookup n=some c∧h.objs.size≤c∧(pushCells h names).IsCell c none) ∧
  (∀ n n' c,(cellsFrom h.objs.size names acc).lookup n=some c→(cellsFrom h.objs.size names acc).lookup n'=some c→n=n')
 | [],h,acc,_,_,inj=>⟨fun ζ ζ=>rfl,(fun ζ q=>by cases q),inj⟩
 | (name,kind) :: r,h,acc,nd,lt,inj=>by
  rw [List.map_cons,List.nodup_cons] at nd
  unfold cellsFrom pushCells
  by_cases hk:kind=.cell
  ·apply q1 hk
   simp only [beq_self_eq_true,if_true]
   have hsz:(h.push { cls:=.type "cell",data:=.cell none }).objs.size=h.objs.size+1:=Heap.size_push ..
   have ih:=cells_ok r (h.push { cls:=.type "cell",data:=.cell none }) ((name,h.objs.size) :: acc) nd.2 (fun n c q=>by
    rw [hsz]
    rw [List.lookup_cons] at q
    cases hb:n==name with
    | true=>rw [hb] at q; cases q; exact Nat.lt_succ_self _
    | false=>rw [hb] at q; exact Nat.lt_succ_of_lt (lt n c q)) (fun n n' c q q'=>by
    rw [List.lookup_cons] at q q'
    cases hb:n==name with
    | true =>
     rw [hb] at q; cases q
     cases hb':n'==name with
     | true=>rw [eq_of_beq hb,eq_of_beq hb']
     | false=>rw [hb'] at q'; exact absurd (lt n' _ q') (Nat.lt_irrefl _)
    | false =>
     rw [hb] at q
     cases hb':n'==name with
     | true=>rw [hb'] at q'; cases q'; exact absurd (lt n _ q) (Nat.lt_irrefl _)
     | false=>rw [hb'] at q'; exact inj n n' c q q')
   rw [hsz] at ih
   refine x0_3 (ih) fun h1 h2 h3=>?_
   refine ⟨fun n hn=>?_,fun n hn=>?_,h3⟩
   ·rw [h1 n (fun q=>hn (.tail _ q)),List.lookup_cons]
    have:(n==name)=false:=by
     rw [beq_eq_false_iff_ne]; rintro rfl; exact hn (.head _)
    rw [this]
   ·by_cases hr:(n,NameKind.cell)∈r
    ·refine x1_3 (h2 n hr) fun c e l q=>?_
     exact ⟨c,e,Nat.le_of_succ_le l,q⟩
    ·have:n=name:=by
      rcases List.mem_cons.mp hn with q | q
      ·cases q; rfl
      ·exact absurd q hr
     subst this
     refine ⟨h.objs.size,?_,Nat.le_refl _,?_⟩
     ·rw [h1 n hr,List.lookup_cons,beq_self_eq_true]
     ·exact ⟨_,pushCells_keeps r _ _ _ (Heap.get?_push_size _ rfl),rfl⟩
  ·have hb:(kind==NameKind.cell)=false:=by simpa using hk
   simp only [hb,Bool.false_eq_true,if_false]
   refine x0_3 (cells_ok r h acc nd.2 lt inj) fun h1 h2 h3=>?_
   refine ⟨fun n hn=>h1 n fun q=>hn (.tail _ q),fun n hn=>h2 n ?_,h3⟩
   rcases List.mem_cons.mp hn with q | q
   ·cases q; exact absurd rfl hk
   ·exact q
section
variable {M:Model} {A:Around} {E:Value→Shared→Prop} {s:Shared} {env:Env}
theorem compEnv_ok {scope:Scope} {cl:List (Str × Addr)} {Q:Env→Shared→Prop}
  (h:∀ cenv:Env,cenv.locals=s.heap.objs.size→cenv.globals=env.globals→cenv.builtins=env.builtins→cenv.cells=cellsFrom (s.heap.objs.size+1) scope.names cl →
   Q cenv { s with heap:=pushCells (s.heap.push { cls:=.type "dict",data:=.dict #[] }) scope.names }) :
  wpAny M A (newFunctionEnv scope env.globals cl [] env.qual none .none (some env)) Q E s:=by
 simp only [newFunctionEnv,Option.isSome_some,if_true]
 refine wpAny_bind (wpAny_alloc ?_)
 refine wpAny_bind (wpAny_layCells _ (fun name kind cells=>by cases hkc:kind==NameKind.cell <;> simp [hkc]) _ _ _ _ ?_)
 rw [show ({ s with heap:=s.heap.push { cls:=.type "dict",data:=.dict #[] } }:Shared).heap.objs.size=s.heap.objs.size+1 from Heap.size_push ..]
 simp only [List.forIn_nil]
 exact wpAny_bind (wpAny_pure (wpAny_pure (h _ rfl rfl rfl rfl)))
end
end Mine
namespace Mine
open PySem
noncomputable def ifsBody (env:Env) (c:Expr) (ok:Bool):Sem (ForInStep Bool):=if ok=true then do
  let ok ← PySem.isTrue c env (eval c env)
  pure (ForInStep.yield ok)
 else pure (ForInStep.yield ok)
section
variable {M:Model} {A:Around} {s:Shared} {env:Env}
noncomputable def Inner (M:Model) (A:Around) (elt:Expr) (gens:List Comprehension) (sc:Scope) (pos:Pos) (dp:Nat) (acc:Value) (env:Env) (K:Shared→Prop) (s:Shared):Prop:=match gens[dp+1]? with
 | none=>wpAny M A (eval elt env) (fun x s₄=>wpAny M A (call (.builtin "list.append") [acc,x]) (fun ζ s₅=>K s₅) Bot s₄) Bot s
 | some g'=>wpAny M A (eval g'.iter env) (fun x s₄=>wpAny M A (foldedSetIterable g'.iter env x) (fun x' s₅=>wpAny M A (pyIter x') (fun it' s₆ =>
   codeAny M A (.compStart (.ListComp elt gens sc pos) (dp+1) it' acc env) (fun r s₇=>match r with | .ok _=>K s₇ | .error _=>False) s₆) Bot s₅) Bot s₄) Bot s
theorem comp_turn {elt:Expr} {gens:List Comprehension} {sc:Scope} {pos:Pos} {it acc:Value} {dp:Nat} {target iter:Expr} {ifs:List Expr} (hg:gens[dp]?=some ⟨target,iter,ifs,0⟩) (hg':∀ g',gens[dp+1]?=some g'→g'.is_async=0)
  {D K:Shared→Prop} {R:PySem.Fin→Shared→Prop} (hD:∀ s',D s'→R (.done .next) s') (hK:∀ s',K s'→R (.again (.compLoop (.ListComp elt gens sc pos) dp it acc env)) s')
  (h:wpAny M A (pyNext it) (fun r s₁=>match r with
   | none=>D s₁
   | some v=>wpAny M A (letOwnedTupleGo target it v) (fun ζ s₂=>wpAny M A (assign target env v) (fun ζ s₃=>wpAny M A (forIn ifs true (ifsBody env)) (fun ok s₄=>if ok=true then Inner M A elt gens sc pos dp acc env K s₄ else K s₄) Bot s₃) Bot s₂) Bot s₁) Bot s) :
  wpAny M A (compTurn (.ListComp elt gens sc pos) dp it acc env) R Bot s:=by
 unfold compTurn
 dsimp only
 rw [hg]
 dsimp only
 refine wpAny_bind (wpAny_standAt ?_)
 rw [if_neg (by decide)]
 refine wpAny_bind (wpAny_mono h (fun r s₁ h₁=>?_) fun ζ ζ x=>x)
 cases r with
 | none=>exact wpAny_pure (hD _ h₁)
 | some v =>
  refine wpAny_bind (wpAny_mono h₁ (fun ζ s₂ h₂=>?_) fun ζ ζ x=>x)
  refine wpAny_bind (wpAny_mono h₂ (fun ζ s₃ h₃=>?_) fun ζ ζ x=>x)
  refine wpAny_bind (wpAny_mono h₃ (fun ok s₄ h₄=>?_) fun ζ ζ x=>x)
  cases ok with
  | false=>exact wpAny_pure (hK _ h₄)
  | true =>
   rw [if_pos rfl] at h₄ ⊢
   unfold Inner at h₄
   revert h₄
   cases hq:gens[dp+1]? with
   | none =>
    intro h₄
    refine wpAny_bind (wpAny_bind (wpAny_mono h₄ (fun x s₅ h₅=>wpAny_bind (wpAny_mono h₅ (fun ζ s₆ h₆=>wpAny_pure (wpAny_pure (hK _ h₆))) fun ζ ζ x=>x)) fun ζ ζ x=>x))
   | some g' =>
    intro h₄
    have ha:=hg' g' hq
    refine wpAny_bind (wpAny_mono h₄ (fun x s₅ h₅=>wpAny_bind (wpAny_standAt ?_)) fun ζ ζ x=>x)
    rw [if_neg (by rw [ha]; decide)]
    refine wpAny_bind (wpAny_mono h₅ (fun x' s₆ h₆=>?_) fun ζ ζ x=>x)
    rw [if_neg (by rw [ha]; decide)]
    refine wpAny_bind (wpAny_holding (wpAny_mono h₆ (fun it' s₇ h₇=>?_) fun ζ ζ x=>x))
    refine wpAny_bind (wpAny_runOwn (codeAny_mono h₇ fun r s' hr=>?_))
    cases r with
    | ok f=>exact wpAny_pure (hK _ hr)
    | error x=>exact hr.elim
end
section
variable {B:Base} {A:Around} {F G:Lay} {σ σ':Sto} {s s':Shared} {d:Nat} {a b v:V} {x y:Value} {gt tb:List Str} {vis:List (Nat × Bool)} {wv gl:List Nat} {env:Env} {loc loc':Loc} {I D:Addr} {k:Nat} {it:It} {acc:List V}
set_option tactic.hygienic true in
theorem go_ok {t:Tg} (r:ItR B s.heap F I k it) {E:Value→Shared→Prop} {Q:Unit→Shared→Prop} (h:Q () s):wpAny (model B.prog B.w) A (letOwnedTupleGo (toTg tb t) (.ref I) x) Q E s:=by
 cases t with
 | name i p=>exact wpAny_pure h
 | tup is p =>
  refine x1_3 (r.live') fun o e _ pl=>?_
  show wpAny _ _ (letOwnedTupleGo (.Tuple (is.map fun x=>.Name (nmOf tb x.1) x.2) 0 p) (.ref I) x) Q E s
  cases x with
  | ref a =>
   show wpAny _ _ (load I >>= _) Q E s
   refine wpAny_bind (wpAny_load e ?_)
   split
   ·rename_i n vs ec ed
    rw [pl n vs ec ed]
    exact wpAny_pure h
   ·exact wpAny_pure h
  | _=>exact wpAny_pure h
theorem folded_ok (e:E) (h:∀ x,e≠.raw x) (x:Value):foldedSetIterable (toE gt tb e) env x=pure x:=by
 cases e <;> first | rfl | exact absurd rfl (h _)
noncomputable def gh (D:Addr) (F:Lay):Lay:=match F with
 | []=>[]
 | as :: r=>(D :: as) :: r
theorem Inv.ne (I:Inv B F σ s):∃ as r,F=as :: r:=by
 cases F with
 | nil=>have:=I.len; have h:=I.size; rw [← this] at h; exact absurd h (Nat.lt_irrefl _)
 | cons as r=>exact ⟨as,r,rfl⟩
theorem gh_flat (h:∃ as r,F=as :: r):(gh D F).flatten=D :: F.flatten:=by refine x2_1 (h) fun as r hq_212=>?_; apply q1 hq_212; rfl
theorem gh_app (h:∃ as r,F=as :: r):gh D F++G=gh D (F++G):=by refine x2_1 (h) fun as r hq_213=>?_; apply q1 hq_213; rfl
theorem gh_fat {i:Nat} {as:List Addr}:Fat (gh D F) i as↔Fat F i as:=by
 unfold Fat
 refine and_congr_right fun h=>?_
 cases F with
 | nil=>rfl
 | cons x r=>cases i with
  | zero=>exact absurd h (Nat.lt_irrefl _)
  | succ i=>rfl
theorem Mv.drop (h:∃ as r,F=as :: r) (hp:Heap):Mv (gh D F) F hp hp:=⟨fun ζ ζ e ζ ζ=>e,fun ζ ζ e=>gh_fat.mp e,fun b ζ ζ ζ ζ n q=>n (by rw [gh_flat h]; exact .tail _ q)⟩
theorem Mv.ghost (ne:∃ as r,F=as :: r) {h h':Heap} (k:∀ b o,h.get? b=some o→h'.get? b=some o) (d:h.get? D=none):Mv F (gh D F) h h':=⟨fun b o e ζ ζ=>k b o e,fun ζ ζ e=>gh_fat.mpr e,fun b o e ζ ζ n q=>by
 rw [gh_flat ne] at q
 rcases List.mem_cons.mp q with rfl | q
 ·rw [d] at e; exact noS e
 ·exact n q⟩
theorem Inv.addG (I:Inv B F σ s) (I₁:Inv B F σ s') (k:∀ b o,s.heap.get? b=some o→s'.heap.get? b=some o) (d:s.heap.get? D=none) {items:Array Value} (hl:s'.heap.PlainList D items):Inv B (gh D F) σ s':=by
 have ne:=I.ne
 have m:=Mv.ghost (h':=s'.heap) ne k d
 refine ⟨I₁.old,I₁.lim,I₁.gens,I₁.os,?_,fun i o as eo e=>?_,?_,fun a h=>?_,I₁.tabs,I.tabo,I.tabc,I.low,I.zero⟩
 ·refine x2_1 (ne) fun as r hq_214=>?_; subst hq_214; exact I.len
 ·cases i with
  | zero =>
   refine x2_1 (I.zero) fun k' xs z=>?_
   rw [z] at eo; apply s1 eo
   refine x2_1 (ne) fun as' r hq_215=>?_
   subst hq_215
   cases e
   have q:=I₁.obj 0 _ _ z rfl
   refine ⟨fun a ha=>?_,q.2⟩
   rcases List.mem_cons.mp ha with rfl | ha
   ·refine x1_1 (hl) fun n el=>?_; exact ⟨_,el,fun ζ=>rfl⟩
   ·exact q.1 a ha
  | succ i =>
   have e':=(gh_fat.mp (show Fat (gh D F) (i+1) as from ⟨Nat.succ_pos i,e⟩)).2
   exact (I.obj _ o as eo e').mono (fun a ζ ob=>k a ob) m
 ·rw [gh_flat ne,List.nodup_cons]; exact ⟨(I.dead d).2,I.nodup⟩
 ·rw [gh_flat ne] at h
  rcases List.mem_cons.mp h with rfl | h
  ·exact (I.dead d).1
  ·exact I.fresh a h
theorem Inv.dropG (ne:∃ as r,F=as :: r) (I:Inv B (gh D F) σ s):Inv B F σ s:=by
 have fl:=gh_flat (D:=D) ne
 have nd:=I.nodup
 rw [fl,List.nodup_cons] at nd
 refine ⟨I.old,I.lim,I.gens,I.os,?_,fun i o as eo e=>?_,nd.2,fun a h=>I.fresh a (by rw [fl]; exact .tail _ h),I.tabs,I.tabo,I.tabc,I.low,I.zero⟩
 ·refine x2_1 (ne) fun as r hq_216=>?_; subst hq_216; exact I.len
 ·cases i with
  | zero =>
   refine x2_1 (I.zero) fun k' xs z=>?_
   rw [z] at eo; apply s1 eo
   refine x2_1 (ne) fun as' r hq_217=>?_
   subst hq_217
   cases e
   have q:=I.obj 0 _ (D :: as) z rfl
   exact ⟨fun a ha=>q.1 a (.tail _ ha),q.2⟩
  | succ i=>exact (I.obj _ o as eo (gh_fat.mpr ⟨Nat.succ_pos i,e⟩).2).mono (fun ζ ζ ζ e=>e) (.drop ne _)
theorem Inv.updG {h':Heap} {tk:Nat} {as:List Addr} {items:Array Value} (I:Inv B F σ s) (ef:F[0]?=some as) (hd:D∈as) (k:Kept (·=D) s.heap h') (hl:h'.PlainList D items):Inv B F σ { s with heap:=h',toks:=tk }:=by
 have hD:D∈F.flatten:=flat_mem ef hd
 have m:Mv F F s.heap h':=.of_kept k fun b o w e=>w▸I.mut hD _ (w▸e)
 refine x0_3 (I.rest k (fun b w=>by rw [w]; exact I.fresh D hD) m) fun q1 q2 q3=>?_
 refine ⟨q1,q2,I.gens,I.os,I.len,fun i o as' eo e=>?_,I.nodup,I.fresh,q3,I.tabo,I.tabc,I.low,I.zero⟩
 cases i with
 | zero =>
  refine x2_1 (I.zero) fun k' xs z=>?_
  rw [z] at eo; apply s1 eo
  have q:=I.obj 0 _ _ z e
  refine ⟨fun a ha=>?_,q.2⟩
  by_cases h:a=D
  ·refine x1_1 (hl) fun n el=>?_; rw [h]; exact ⟨_,el,fun ζ=>rfl⟩
  ·refine x1_2 (q.1 a ha) fun ob eo i=>?_; exact ⟨ob,k a ob eo h,i⟩
 | succ i=>exact (I.obj _ o as' eo e).mono (fun a ha ob eo=>k a ob eo fun w=>by subst w; cases flat_one I.nodup ef e hd ha) m
structure CInv (B:Base) (tb:List Str) (vis:List (Nat × Bool)) (env:Env) (D:Addr) (F:Lay) (σ:Sto) (loc:Loc) (acc:List V) (s:Shared):Prop where
 inv:Inv B F σ s
 lr:LR B tb vis env F loc s.heap
 al:∃ items,s.heap.PlainList D items∧VRs B.fa s.heap F acc items.toList
 dF:∃ as,F[0]?=some as∧D∈as
 len:acc.length≤maxLen
noncomputable def CW (tb:List Str) (wv:List Nat) (env:Env) (D:Addr) (b:Addr):Prop:=OwnA tb wv env b∨b=D
noncomputable def CPost (B:Base) (tb:List Str) (vis:List (Nat × Bool)) (wv:List Nat) (env:Env) (D:Addr) (F:Lay) (s:Shared) (W:Addr→Prop) (loc:Loc) (σ:Sto) (acc:List V) (s':Shared):Prop :=
 ∃ G,StepW (fun b=>CW tb wv env D b∨W b) B F s G s'∧CInv B tb vis env D (F++G) σ loc acc s'
noncomputable def Fr (env:Env) (b:Addr):Prop:=b=env.locals∨∃ n,env.cells.lookup n=some b
theorem OwnA.fr {b:Addr} (w:OwnA tb wv env b):Fr env b:=w.imp id fun ⟨i,_,e⟩=>⟨_,e⟩
theorem LR.fr {h:Heap} (L:LR B tb vis env F loc h) {b:Addr} (w:Fr env b):b∉F.flatten∧B.h0.get? b=none∧∃ o,h.get? b=some o∧¬ Imm o:=by
 rcases w with rfl | ⟨n,e⟩
 ·exact ⟨L.fl.1,L.fl.2,L.localsLive⟩
 ·exact ⟨(L.fc n b e).1,(L.fc n b e).2.1,L.cellLive e⟩
theorem LR.mv {h h':Heap} (L:LR B tb vis env F loc h) (k:∀ b o,Fr env b→h.get? b=some o→h'.get? b=some o) (m:Mv F G h h') (off:∀ b,Fr env b→b∉G.flatten):LR B tb vis env G loc h' :=
 L.keep (fun o e=>k _ o (.inl rfl) e) (fun n c o e eo=>k _ o (.inr ⟨n,e⟩) eo) m (off _ (.inl rfl)) fun n c e=>off c (.inr ⟨n,e⟩)
theorem LR.weak {h:Heap} (L:LR B tb vis env F loc h) (w:∀ (i:Nat) (v:V),loc'[i]?=some (some v)→loc[i]?=some (some v)):LR B tb vis env F loc' h :=
 ⟨let ⟨m,n,r⟩:=L.lcs; ⟨m,n,fun i v hi e=>r i v hi (w i v e)⟩,fun i hi=>let ⟨c',ov,e,q,r⟩:=L.cel i hi; ⟨c',ov,e,q,fun v e=>r v (w i v e)⟩,L.fl,L.fc,L.ap⟩
theorem CInv.weak (c:CInv B tb vis env D F σ loc acc s) (h:∀ (i:Nat) (v:V),loc'[i]?=some (some v)→loc[i]?=some (some v)):CInv B tb vis env D F σ loc' acc s:=⟨c.inv,c.lr.weak h,c.al,c.dF,c.len⟩
theorem own_mut (I:Inv B F σ s) (L:LR B tb vis env F loc s.heap):∀ b o,OwnA tb wv env b→s.heap.get? b=some o→Mut F b o:=fun ζ o w e=>.of ((own_ok I L w).2.2 o e)
theorem CInv.live (c:CInv B tb vis env D F σ loc acc s):∃ o,s.heap.get? D=some o:=let ⟨_,⟨_,q⟩,_⟩:=c.al; ⟨_,q⟩
theorem CInv.mem (c:CInv B tb vis env D F σ loc acc s):D∈F.flatten:=let ⟨_,e,h⟩:=c.dF; flat_mem e h
theorem CInv.off (c:CInv B tb vis env D F σ loc acc s):¬ Wr B F D:=by
 refine x1_2 (c.dF) fun as e h=>?_
 rintro (⟨i,bs,q,hb⟩ | q)
 ·exact absurd (flat_one c.inv.nodup e q.2 h hb) (Nat.ne_of_lt q.1)
 ·exact LR.notTab c.inv (c.inv.fresh D (flat_mem e h)) q
theorem CInv.own (c:CInv B tb vis env D F σ loc acc s):∀ b,Fr env b→b≠D:=fun b w z=>(c.lr.fr w).1 (z▸c.mem)
theorem CInv.cwMut (c:CInv B tb vis env D F σ loc acc s):∀ b o,CW tb wv env D b→s.heap.get? b=some o→Mut F b o:=fun b o w e=>w.elim (fun w=>own_mut c.inv c.lr b o w e) fun w=>c.inv.mut (w▸c.mem) o e
theorem CInv.step (c:CInv B tb vis env D F σ loc acc s) (T:Step B F s G s') (I':Inv B (F++G) σ' s'):CInv B tb vis env D (F++G) σ' loc acc s' :=
 let ⟨items,⟨n,q⟩,r⟩:=c.al
 let ⟨as,e,h⟩:=c.dF
 ⟨I',c.lr.step c.inv T,⟨items,⟨n,T.kept D _ q c.off⟩,r.step (T.imk c.inv)⟩,⟨as,by rw [List.getElem?_append_left (List.getElem?_eq_some_iff.mp e).1]; exact e,h⟩,c.len⟩
theorem CInv.store (c:CInv B tb vis env D F σ loc acc s) (p:StP B tb vis wv env F σ loc' s s'):CInv B tb vis env D F σ loc' acc s' :=
 let ⟨items,⟨n,q⟩,r⟩:=c.al
 ⟨p.inv,p.lr,⟨items,⟨n,p.keep D _ q fun w=>c.own D w.fr rfl⟩,r.step (p.imk c.inv c.lr)⟩,c.dF,c.len⟩
structure IOn (B:Base) (env:Env) (F:Lay) (h:Heap) (I:Addr) (k:Nat) (it:It):Prop where
 itr:ItR B h F I k it
 off:I∉F.flatten
 h0:B.h0.get? I=none
 own:∀ b,Fr env b→b≠I
 le:∀ vs,it=.items vs→k≤vs.length
theorem IOn.live (r:IOn B env F s.heap I k it):∃ o,s.heap.get? I=some o:=let ⟨o,e,_⟩:=r.itr.live_; ⟨o,e⟩
theorem IOn.move {h h':Heap} (r:IOn B env F h I k it) (kI:∀ o,h.get? I=some o→h'.get? I=some o) (m:Mv F G h h') (off:I∉G.flatten):IOn B env G h' I k it:=⟨r.itr.step kI m,off,r.h0,r.own,r.le⟩
theorem IOn.stepW {W:Addr→Prop} (r:IOn B env F s.heap I k it) (Iv:Inv B F σ s) (T:StepW W B F s G s') (hW:∀ b o,W b→s.heap.get? b=some o→Mut F b o) (nI:¬ W I):IOn B env (F++G) s'.heap I k it :=
 let ⟨o,e⟩:=r.live
 r.move (fun o e=>T.kept I o e fun w=>w.elim (fun w=>w.elim (fun w=>r.off w.mem) (LR.notTab Iv r.h0)) nI) (T.imk Iv hW) (not_new T.fresh e r.off)
theorem IOn.step (r:IOn B env F s.heap I k it) (Iv:Inv B F σ s) (T:Step B F s G s'):IOn B env (F++G) s'.heap I k it:=r.stepW (W:=fun ζ=>False) Iv T.w (fun ζ ζ w=>w.elim) id
theorem IOn.store (r:IOn B env F s.heap I k it) (Iv:Inv B F σ s) (L:LR B tb vis env F loc s.heap) (p:StP B tb vis wv env F σ loc' s s'):IOn B env F s'.heap I k it:=r.move (fun o e=>p.keep I o e fun w=>r.own I w.fr rfl) (p.imk Iv L) r.off
theorem LR.next (L:LR B tb vis env F loc s.heap) (r:IOn B env F s.heap I k it) (p:NxP B F σ s I s'):LR B tb vis env F loc s'.heap:=L.mv (fun b o w e=>p.keep b o e (r.own b w)) (nx_mv r.itr p) fun b w=>(L.fr w).1
theorem CInv.next (c:CInv B tb vis env D F σ loc acc s) (r:IOn B env F s.heap I k it) (p:NxP B F σ s I s'):CInv B tb vis env D F σ loc acc s' :=
 let ⟨items,⟨n,q⟩,rs⟩:=c.al
 ⟨p.inv,c.lr.next r p,⟨items,⟨n,p.keep D _ q fun z=>r.off (let ⟨as,e,h⟩:=c.dF; z▸flat_mem e h)⟩,rs.step (nx_mv r.itr p)⟩,c.dF,c.len⟩
theorem next_on (hh:A.handled=none) (Iv:Inv B F σ s) (r:IOn B env F s.heap I k it) {ov:Option V} (e:nextAt it k σ=some ov) {E:Value→Shared→Prop} {Q:Option Value→Shared→Prop}
  (h0:ov=none→∀ s',NxP B F σ s I s'→Q none s') (h1:∀ v x s',ov=some v→NxP B F σ s I s'→IOn B env F s'.heap I (k+1) it→VR B.fa s'.heap F v x→Q (some x) s'):wpAny (model B.prog B.w) A (pyNext (.ref I)) Q E s :=
 next_ok hh Iv r.itr r.h0 r.off e h0 (fun v x s' z p q rx=>h1 v x s' z p ⟨q,r.off,r.h0,r.own,fun vs w=>by
  subst w; subst z
  exact (List.getElem?_eq_some_iff.mp (Option.some.inj e)).1⟩ rx) r.le
noncomputable def NoneAt (loc:Loc) (is:List Nat):Prop:=∀ i∈is,∀ v,loc[i]?≠some (some v)
theorem setAll_get {i:Nat}:∀ (ps:List (Nat × V)) (loc:Loc),(∀ p∈ps,p.1≠i)→(setAll loc ps)[i]?=loc[i]?
 | [],_,_=>rfl
 | p :: ps,loc,h=>by
  show (setAll (loc.set p.1 (some p.2)) ps)[i]?=_
  rw [setAll_get ps _ fun z hz=>h z (.tail _ hz),List.getElem?_set_ne (h p (.head _))]
theorem bind_get {t:Tg} {v:V} (e:bindT t v loc σ=some loc') {i:Nat} (hi:i∉tgSlots t):loc'[i]?=loc[i]?:=by
 cases t with
 | name j p =>
  refine x0_2 (ite_is e) fun ζ hq_218=>?_
  apply q2 hq_218
  exact List.getElem?_set_ne fun z=>hi (by rw [← z]; exact .head _)
 | tup is p =>
  refine x1_2 (bind_is e) ?_
  (try clear e)
  intro vs q e
  refine x0_2 (ite_is e) fun hl hq_219=>?_
  apply q2 hq_219
  rw [fold_setAll]
  exact setAll_get _ _ fun z hz w=>hi (by rw [← w]; exact (List.of_mem_zip hz).1)
theorem bind_sub {t:Tg} {v:V} (e:bindT t v loc σ=some loc') (n:NoneAt loc (tgSlots t)):∀ (i:Nat) (u:V),loc[i]?=some (some u)→loc'[i]?=some (some u):=fun i u q=>(bind_get e fun h=>n i h u q).trans q
theorem bind_none {t:Tg} {v:V} {js:List Nat} (e:bindT t v loc σ=some loc') (hd:∀ i∈tgSlots t,i∉js) (n:NoneAt loc js):NoneAt loc' js:=fun i hi u q=>n i hi u ((bind_get e fun h=>hd i h hi).symm.trans q)
noncomputable def loopR (P:Shared→Prop):Result→Shared→Prop:=fun r s'=>match r with
 | .ok f=>f=.next∧P s'
 | .error _=>False
theorem CInv.cwOff {W:Addr→Prop} {s₁:Shared} (c:CInv B tb vis env D (F++G) σ loc acc s') (T:StepW (fun b=>CW tb wv env D b∨W b) B F s₁ G s') (c₀:∃ o,s₁.heap.get? D=some o) (hW:∀ a,W a→∃ o,s₁.heap.get? a=some o):∀ a,CW tb wv env D a∨W a→a∉G.flatten:=fun a w q=>by
 rcases w with (w | rfl) | w
 ·exact (c.lr.fr w.fr).1 (by rw [List.flatten_append]; exact List.mem_append.mpr (.inr q))
 ·refine x1_1 (c₀) fun o e=>?_; rw [T.fresh a q] at e; exact noS e
 ·refine x1_1 (hW a w) fun o e=>?_; rw [T.fresh a q] at e; exact noS e
theorem CPost.trans {W:Addr→Prop} {acc':List V} {loc₀:Loc} {σ₂:Sto} {s₁ s₂:Shared} (T:StepW (fun b=>CW tb wv env D b∨W b) B F s G s₁) (p:CPost B tb vis wv env D (F++G) s₁ W loc₀ σ₂ acc' s₂) (hD:∃ o,s₁.heap.get? D=some o) (hW:∀ a,W a→∃ o,s₁.heap.get? a=some o):CPost B tb vis wv env D F s W loc₀ σ₂ acc' s₂ :=
 let ⟨G',T',c⟩:=p
 ⟨G++G',T.trans T' c.inv (c.cwOff T' hD hW),by rw [← List.append_assoc]; exact c⟩
noncomputable def RestOk (B:Base) (A:Around) (tb:List Str) (vis:List (Nat × Bool)) (wv:List Nat) (env:Env) (D:Addr) (elt:Expr) (gens:List Comprehension) (sc:Scope) (pos:Pos) (dp:Nat) (js:List Nat) (k:Loc→Sto→List V→Option (List V × Sto)):Prop :=
 ∀ F σ s loc acc acc' σ',CInv B tb vis env D F σ loc acc s→NoneAt loc js→k loc σ acc=some (acc',σ') →
  Inner (model B.prog B.w) A elt gens sc pos dp (.ref D) env (CPost B tb vis wv env D F s (fun ζ=>False) loc σ' acc') s
noncomputable def IfsOk (B:Base) (A:Around) (tb:List Str) (vis:List (Nat × Bool)) (env:Env) (ifs:List Expr) (k:Loc→Sto→Option (Bool × Sto)):Prop :=
 ∀ F σ s loc b σ',Inv B F σ s→LR B tb vis env F loc s.heap→k loc σ=some (b,σ')→EvT B A F s (forIn ifs true (ifsBody env)) (PB B σ' b)
theorem inner_mono {M:Model} {elt:Expr} {gens:List Comprehension} {sc:Scope} {pos:Pos} {dp:Nat} {acc:Value} {K K':Shared→Prop} (hk:∀ s,K s→K' s) (h:Inner M A elt gens sc pos dp acc env K s):Inner M A elt gens sc pos dp acc env K' s:=by
 unfold Inner at h ⊢
 split at h
 ·exact wpAny_mono h (fun x s₁ h₁=>wpAny_mono h₁ (fun ζ s₂ h₂=>hk _ h₂) fun ζ ζ x=>x) fun ζ ζ x=>x
 ·exact wpAny_mono h (fun x s₁ h₁=>wpAny_mono h₁ (fun ζ s₂ h₂=>wpAny_mono h₂ (fun ζ s₃ h₃=>codeAny_mono h₃ fun r s₄ h₄=>by
   cases r with
   | ok f=>exact hk _ h₄
   | error e=>exact h₄) fun ζ ζ x=>x) fun ζ ζ x=>x) fun ζ ζ x=>x
noncomputable def compStep (t:Tg) (loc:Loc) (kI:Loc→Sto→Option (Bool × Sto)) (kR:Loc→Sto→List V→Option (List V × Sto)) (v:V) (acc:List V) (σ:Sto):Option (Bool × List V × Sto) :=
 (bindT t v loc σ).bind fun loc=>(kI loc σ).bind fun c=>if c.1 then (kR loc c.2 acc).map fun y=>(true,y) else some (true,acc,c.2)
theorem iterate_inv {α:Type} {step:V→α→Sto→Option (Bool × α × Sto)} {n:Nat} {a:α} {r:Bool × α × Sto} (e:iterate step it n k a σ=some r) :
  (nextAt it k σ=some none∧r=(true,a,σ))∨∃ m v y,n=m+1∧nextAt it k σ=some (some v)∧step v a σ=some y∧if y.1 then iterate step it m (k+1) y.2.1 y.2.2=some r else r=y:=by
 cases n with
 | zero =>
  refine x1_2 (bind_is e) ?_
  (try clear e)
  intro o q e
  refine x0_2 (ite_is e) fun h hq_220=>?_
  apply q2 hq_220
  cases o with
  | none=>exact .inl ⟨q,rfl⟩
  | some=>exact noT h
 | succ m =>
  refine x1_2 (bind_is e) ?_
  (try clear e)
  intro o q e
  cases o with
  | none=>apply s1 e; exact .inl ⟨q,rfl⟩
  | some v =>
   refine x1_2 (bind_is e) ?_
   (try clear e)
   intro y h e
   refine .inr ⟨m,v,y,rfl,q,h,?_⟩
   by_cases hy:y.1=true
   ·rw [if_pos hy] at e ⊢; exact e
   ·rw [if_neg hy] at e ⊢; exact (Option.some.inj e).symm
noncomputable def Turned (B:Base) (tb:List Str) (vis:List (Nat × Bool)) (wv:List Nat) (env:Env) (D I:Addr) (k:Nat) (it:It) (F:Lay) (s:Shared) (loc:Loc) (σ:Sto) (acc:List V) (s':Shared):Prop :=
 ∃ G,StepW (fun b=>CW tb wv env D b∨b=I) B F s G s'∧CInv B tb vis env D (F++G) σ loc acc s'∧IOn B env (F++G) s'.heap I k it
theorem Turned.inner {acc₁ acc₂:List V} {σ₂:Sto} {s₃ s₄:Shared} {loc₁ loc₀:Loc} (T:StepW (fun b=>CW tb wv env D b∨b=I) B F s G s₃) (c:CInv B tb vis env D (F++G) σ loc₁ acc₁ s₃) (r:IOn B env (F++G) s₃.heap I k it) (p:CPost B tb vis wv env D (F++G) s₃ (fun ζ=>False) loc₀ σ₂ acc₂ s₄) :
  Turned B tb vis wv env D I k it F s loc₀ σ₂ acc₂ s₄:=by
 refine x1_2 (p) fun G₂ T₂ c₂=>?_
 have nI:¬ (CW tb wv env D I∨False):=by
  rintro ((z | z) | z)
  ·exact r.own I z.fr rfl
  ·exact r.off (z▸c.mem)
  ·exact z
 have r₂:=r.stepW c.inv T₂ (fun b o w e=>w.elim (fun w=>c.cwMut b o w e) False.elim) nI
 have T₃:=T₂.mono (W':=fun b=>CW tb wv env D b∨b=I) fun b w=>w.imp id False.elim
 exact ⟨G++G₂,T.trans T₃ c₂.inv (CInv.cwOff c₂ T₃ c.live fun a w=>w▸r.live),by rw [← List.append_assoc]; exact c₂,by rw [← List.append_assoc]; exact r₂⟩
theorem comp_step (hh:A.handled=none) (R:ER B gt tb vis wv gl env) {elt:Expr} {gens:List Comprehension} {sc:Scope} {pos:Pos} {dp:Nat} {t:Tg} {iter:Expr} {ifs:List Expr} {js:List Nat} {kI:Loc→Sto→Option (Bool × Sto)} {kR:Loc→Sto→List V→Option (List V × Sto)}
  (hg:gens[dp]?=some ⟨toTg tb t,iter,ifs,0⟩) (hg':∀ g',gens[dp+1]?=some g'→g'.is_async=0) (ht:∀ i∈tgSlots t,i∈wv) (hj:∀ i∈tgSlots t,i∉js)
  (hI:IfsOk B A tb vis env ifs kI) (hR:RestOk B A tb vis wv env D elt gens sc pos dp js kR) (nt:NoneAt loc (tgSlots t)) (nj:NoneAt loc js)
  (c:CInv B tb vis env D F σ loc acc s) (r:IOn B env F s.heap I k it) {v:V} {y:Bool × List V × Sto} (q:nextAt it k σ=some (some v)) (e:compStep t loc kI kR v acc σ=some y) {R':PySem.Fin→Shared→Prop}
  (hK:∀ s',Turned B tb vis wv env D I (k+1) it F s loc y.2.2 y.2.1 s'→R' (.again (.compLoop (.ListComp elt gens sc pos) dp (.ref I) (.ref D) env)) s') :
  wpAny (model B.prog B.w) A (compTurn (.ListComp elt gens sc pos) dp (.ref I) (.ref D) env) R' Bot s:=by
 refine x2_3 (bin2_is e) ?_
 (try clear e)
 intro loc₁ b eb ei e
 refine comp_turn hg hg' (D:=fun ζ=>False) (fun s' h=>h.elim) hK ?_
 refine next_on hh c.inv r q (fun z=>by cases z) fun v' x s₁ z p₁ r₁ rx=>?_
 cases z
 have c₁:=c.next r p₁
 refine go_ok r₁.itr (bind_ok hh R c₁.inv c₁.lr ht rx eb fun s₂ p₂=>?_)
 have c₂:=c₁.store p₂
 have r₂:=r₁.store c₁.inv c₁.lr p₂
 refine (hI F σ s₂ loc₁ b.1 b.2 c₂.inv c₂.lr ei).seq fun ok G₁ s₃ T₃ p₃=>?_
 refine x0_2 (p₃) fun I₃ hq_221=>?_
 apply q1 hq_221
 have c₃:=c₂.step T₃ I₃
 have r₃:=r₂.step c₂.inv T₃
 have T:StepW (fun b=>CW tb wv env D b∨b=I) B F s G₁ s₃:=.after (s':=s₂) (fun a o eo nw=>p₂.keep a o (p₁.keep a o eo fun z=>nw (.inr z)) fun z=>nw (.inl (.inl z))) T₃.w I₃ (CInv.cwOff c₃ T₃.w c₂.live fun a w=>w▸r₂.live)
 by_cases hb:b.1=true
 ·rw [if_pos hb] at e ⊢
  refine x1_2 (map_is e) fun z er hq_222=>?_
  apply q2 hq_222
  exact inner_mono (fun s₄ h=>let ⟨G,x,y,z⟩:=Turned.inner T c₃ r₃ h; ⟨G,x,y.weak (bind_sub eb nt),z⟩) (hR (F++G₁) b.2 s₃ loc₁ acc z.1 z.2 c₃ (bind_none eb hj nj) er)
 ·rw [if_neg hb] at e ⊢
  apply s1 e
  exact ⟨G₁,T,c₃.weak (bind_sub eb nt),r₃⟩
theorem comp_loop (hh:A.handled=none) (R:ER B gt tb vis wv gl env) {elt:Expr} {gens:List Comprehension} {sc:Scope} {pos:Pos} {dp:Nat} {t:Tg} {iter:Expr} {ifs:List Expr} {js:List Nat} {kI:Loc→Sto→Option (Bool × Sto)} {kR:Loc→Sto→List V→Option (List V × Sto)}
  (hg:gens[dp]?=some ⟨toTg tb t,iter,ifs,0⟩) (hg':∀ g',gens[dp+1]?=some g'→g'.is_async=0) (ht:∀ i∈tgSlots t,i∈wv) (hj:∀ i∈tgSlots t,i∉js)
  (hI:IfsOk B A tb vis env ifs kI) (hR:RestOk B A tb vis wv env D elt gens sc pos dp js kR) (nt:NoneAt loc (tgSlots t)) (nj:NoneAt loc js) :
  ∀ (n k:Nat) (F:Lay) (σ:Sto) (s:Shared) (acc:List V) (y:Bool × List V × Sto),CInv B tb vis env D F σ loc acc s→IOn B env F s.heap I k it→iterate (compStep t loc kI kR) it n k acc σ=some y →
   codeAny (model B.prog B.w) A (.compLoop (.ListComp elt gens sc pos) dp (.ref I) (.ref D) env) (loopR (CPost B tb vis wv env D F s (·=I) loc y.2.2 y.2.1)) s:=by
 intro n
 induction n using Nat.strongRecOn with
 | _ n ih =>
 intro k F σ s acc y c r e
 refine codeAny_of_tree ?_
 show wpAny _ _ ((compTurn (.ListComp elt gens sc pos) dp (.ref I) (.ref D) env).onRaise (fun x=>do noteFrame x env; theTreesLotGoes x)) _ _ s
 refine wpAny_noted (wpAny_mono (E:=Bot) (Q:=fun fin s'=>match fin with | .done f=>loopR (CPost B tb vis wv env D F s (·=I) loc y.2.2 y.2.1) (.ok f) s' | .again c'=>c'.quiet=true∧codeAny (model B.prog B.w) A c' (loopR (CPost B tb vis wv env D F s (·=I) loc y.2.2 y.2.1)) s') ?_ (fun fin s' h=>by cases fin with | done f=>exact h | again c'=>exact h) fun ζ ζ x=>x.elim)
 rcases iterate_inv e with ⟨q,rfl⟩ | ⟨m,v,z,rfl,q,h,e⟩
 ·refine comp_turn hg hg' (D:=CPost B tb vis wv env D F s (·=I) loc σ acc) (K:=fun ζ=>False) (fun s' h=>⟨rfl,h⟩) (fun s' h=>h.elim) ?_
  exact next_on hh c.inv r q (fun ζ s' p=>⟨[],.of_kept (p.keep.mono fun b w=>.inr w),by rw [List.append_nil]; exact c.next r p⟩) (fun v x s' z=>by exact noS z)
 ·have hz:z.1=true:=by
   refine x2_3 (bin2_is h) ?_
   (try clear h)
   intro _ b _ _ h
   by_cases hb:b.1=true
   ·rw [if_pos hb] at h; refine x1_2 (map_is h) fun ζ ζ hq_223=>?_; apply q2 hq_223; rfl
   ·rw [if_neg hb] at h; cases h; rfl
  rw [if_pos hz] at e
  refine comp_step hh R hg hg' ht hj hI hR nt nj c r q h fun s' p=>⟨rfl,?_⟩
  refine x1_3 (p) fun G T c' r'=>?_
  refine codeAny_mono (ih m (Nat.lt_succ_self m) (k+1) (F++G) _ s' _ y c' r' e) fun rr s₅ h=>?_
  cases rr with
  | ok f=>exact ⟨h.1,h.2.trans T c'.live fun a w=>w▸r'.live⟩
  | error z=>exact h
end
end Mine
namespace Mine
open PySem
theorem nodup_of {l:List Str} (h:nodupB l=true):l.Nodup:=by
 induction l with
 | nil=>exact List.nodup_nil
 | cons x r ih =>
  unfold nodupB at h
  rw [Bool.and_eq_true,Bool.not_eq_true'] at h
  rw [List.nodup_cons]
  exact ⟨fun q=>by rw [List.contains_iff_mem.mpr q] at h; exact absurd h.1 (by decide),ih h.2⟩
theorem nodup_inj {α β:Type} {f:α→β}:∀ {l:List α},(l.map f).Nodup→∀ {x y:α},x∈l→y∈l→f x=f y→x=y
 | a :: l,h,x,y,hx,hy,e=>by
  rw [List.map_cons,List.nodup_cons] at h
  rcases List.mem_cons.mp hx with hx | hx <;> rcases List.mem_cons.mp hy with hy | hy
  ·rw [hx,hy]
  ·exact absurd (by rw [← hx,e]; exact List.mem_map_of_mem hy) h.1
  ·exact absurd (by rw [← hy,← e]; exact List.mem_map_of_mem hx) h.1
  ·exact nodup_inj h.2 hx hy e
theorem lookup_relabel {env:Env}:∀ {names:List (Str × NameKind)} {x:Str} {k:NameKind},names.lookup x=some k →
  (names.map fun (n,k)=>if (k==NameKind.free&&env.scope.kind==.function&&env.kindOf n==some .cell) then (n,NameKind.cell) else (n,k)).lookup x=some (if (k==NameKind.free&&env.scope.kind==.function&&env.kindOf x==some .cell) then .cell else k)
 | (n,k') :: r,x,k,h=>by
  show List.lookup x ((if (k'==NameKind.free&&env.scope.kind==.function&&env.kindOf n==some .cell)=true then (n,NameKind.cell) else (n,k')) :: _)=_
  cases hx:x==n with
  | true =>
   simp only [List.lookup_cons,hx] at h
   cases h
   rw [eq_of_beq hx]
   split
   ·simp [List.lookup_cons]
   ·simp [List.lookup_cons]
  | false =>
   simp only [List.lookup_cons,hx] at h
   have ih:=@lookup_relabel env r x k h
   split
   ·simp only [List.lookup_cons,hx]; exact ih
   ·simp only [List.lookup_cons,hx]; exact ih
theorem lookup_mem {α:Type} {l:List (Str × α)} {n:Str} {c:α} (h:l.lookup n=some c):(n,c)∈l:=mem_of_lookup h
theorem mem_lookup {α:Type}:∀ {l:List (Str × α)} {n:Str} {c:α},(l.map (·.1)).Nodup→(n,c)∈l→l.lookup n=some c
 | (k,v) :: r,n,c,nd,h=>by
  rw [List.map_cons,List.nodup_cons] at nd
  rw [List.lookup_cons]
  rcases List.mem_cons.mp h with q | q
  ·cases q; rw [beq_self_eq_true]
  ·have:(n==k)=false:=by
    rw [beq_eq_false_iff_ne]; rintro rfl; exact nd.1 (List.mem_map_of_mem (f:=(·.1)) q)
   rw [this]; exact mem_lookup nd.2 q
theorem clear_get (is:List Nat):∀ (loc:Loc) (i:Nat) (v:V),(clear is loc)[i]?=some (some v)→loc[i]?=some (some v)∧i∉is:=by
 induction is with
 | nil=>intro loc i v h; exact ⟨h,by simp⟩
 | cons j is ih =>
  intro loc i v h
  refine x0_2 (ih (loc.set j none) i v h) fun h1 h2=>?_
  rcases lt_set h1 with ⟨_,z⟩ | ⟨z,e⟩
  ·cases z
  ·exact ⟨e,by rw [List.mem_cons]; rintro (q | q); exact z q.symm; exact h2 q⟩
section
variable {B:Base} {A:Around} {F G:Lay} {σ σ':Sto} {s s':Shared} {d:Nat} {a b v:V} {x y:Value} {gt tb:List Str} {vis:List (Nat × Bool)} {wv gl:List Nat} {env:Env} {loc loc':Loc} {I D:Addr} {k:Nat} {it:It} {acc:List V}
theorem CInv.push {x:Value} {h':Heap} {tk:Nat} {items:Array Value} (c:CInv B tb vis env D F σ loc acc s) (hs:Heap.SameBut D s.heap h') (pl:s.heap.PlainList D items) (rs:VRs B.fa s.heap F acc items.toList) (hl:h'.PlainList D (items.push x)) (r:VR B.fa s.heap F v x) (hz:acc.length < maxLen) :
  CInv B tb vis env D F σ loc (acc++[v]) { s with heap:=h',toks:=tk }:=by
 have kp:Kept (·=D) s.heap h':=.of_same hs
 have m:Mv F F s.heap h':=.of_kept kp fun b o w e=>c.inv.mut (w▸c.mem) o e
 refine x1_2 (c.dF) fun as e h=>?_
 exact ⟨c.inv.updG e h kp hl,c.lr.mv (fun b o w e=>kp b o e (c.own b w)) m fun b w=>(c.lr.fr w).1,⟨_,hl,by rw [Array.toList_push]; exact (rs.step m).append (.one (r.step m))⟩,c.dF,by rw [List.length_append]; exact hz⟩
theorem rest_nil {elt:Expr} {gens:List Comprehension} {sc:Scope} {pos:Pos} {dp:Nat} {js:List Nat} {kE:Loc→Sto→Option (V × Sto)} (hg:gens[dp+1]?=none)
  (hE:∀ F σ s loc v σ',Inv B F σ s→LR B tb vis env F loc s.heap→kE loc σ=some (v,σ')→EvT B A F s (eval elt env) (PE B σ' v)) :
  RestOk B A tb vis wv env D elt gens sc pos dp js (fun loc σ acc=>(kE loc σ).bind fun v=>if acc.length < maxLen then some (acc++[v.1],v.2) else none):=by
 intro F σ s loc acc acc' σ' c _ e
 unfold Inner
 rw [hg]
 dsimp only
 refine x1_2 (bind_is e) ?_
 (try clear e)
 intro v ek e
 refine x0_2 (ite_is e) ?_
 (try clear e)
 intro hl e
 apply p2 e
 refine (hE F σ s loc v.1 v.2 c.inv c.lr ek).seq fun x G₁ s₁ T₁ p₁=>?_
 have c₁:=c.step T₁ p₁.1
 refine x1_2 (c₁.al) fun items pl rs=>?_
 have z1:acc.length=items.size:=rs.length.trans Array.length_toList
 exact wpAny_list_append_plain pl (fun h' hl' hs=>⟨G₁,⟨fun b o e nw=>(Kept.of_same hs) b o (T₁.kept b o e fun z=>nw (.inl z)) fun z=>nw (.inr (.inl (.inr z))),T₁.fresh⟩,c₁.push (tk:=s₁.toks) hs pl rs hl' p₁.2 hl⟩) (by rw [sizeLine_eq,← z1]; unfold maxLen at hl; (first | lia | omega))
theorem comp_start {elt:Expr} {gens:List Comprehension} {sc:Scope} {pos:Pos} {dp:Nat} {g:Comprehension} (hg:gens[dp]?=some g) (ha:g.is_async=0) {R:Result→Shared→Prop} {acc:Value} (hh:A.handled=none) (r:ItR B s.heap F I k it)
  (h:codeAny (model B.prog B.w) A (.compLoop (.ListComp elt gens sc pos) dp (.ref I) acc env) R s):codeAny (model B.prog B.w) A (.compStart (.ListComp elt gens sc pos) dp (.ref I) acc env) R s:=by
 refine codeAny_of_tree ?_
 show wpAny _ _ ((compStart (.ListComp elt gens sc pos) dp (.ref I) acc env).onRaise (fun x=>do noteFrame x env; standAt theWindowsPlace)) _ _ s
 refine wpAny_notedAt ?_
 unfold compStart
 have hc:clausesOf (.ListComp elt gens sc pos)=gens:=rfl
 rw [hc,hg]
 have h0:(Option.elim (some g) false fun x=>x.is_async != 0)=false:=by
  show (g.is_async != 0)=false; rw [ha]; rfl
 rw [h0]
 simp only [Bool.false_eq_true,if_false]
 refine wpAny_bind (wpAny_askSetting (wpAny_ite ?_))
 split
 ·exact wpAny_pure ⟨rfl,h⟩
 ·exact wpAny_bind (wpAny_rule (wpAny_bind (wpAny_standAt (wpAny_bind (self_ok r hh (wpAny_pure ⟨rfl,h⟩))))))
theorem CInv.all (c:CInv B tb vis env D F σ loc acc s) (Iv:Inv B F σ s') (k:∀ b o,s.heap.get? b=some o→s'.heap.get? b=some o):CInv B tb vis env D F σ loc acc s' :=
 let ⟨items,⟨n,pl⟩,rs⟩:=c.al
 ⟨Iv,c.lr.mv (fun b o ζ e=>k b o e) (.of k) fun b w=>(c.lr.fr w).1,⟨items,⟨n,k _ _ pl⟩,rs.step (.of k)⟩,c.dF,c.len⟩
theorem IOn.new (Iv:Inv B F σ s) (L:LR B tb vis env F loc s.heap) (p:ItP B F σ it s I s'):IOn B env F s'.heap I 0 it :=
 ⟨p.itr,(Iv.dead p.dead).2,(Iv.dead p.dead).1,fun b w z=>(by obtain ⟨_,_,o,e,_⟩:=L.fr w; rw [z,p.dead] at e; cases e),fun vs ζ=>Nat.zero_le _⟩
theorem rest_cons (hh:A.handled=none) (R:ER B gt tb vis wv gl env) {elt:Expr} {gens:List Comprehension} {sc:Scope} {pos:Pos} {dp:Nat} {t:Tg} {ie:E} {ifs:List Expr} {js:List Nat} {kE:Loc→Sto→Option (V × Sto)} {kI:Loc→Sto→Option (Bool × Sto)} {kR:Loc→Sto→List V→Option (List V × Sto)}
  (hg:gens[dp+1]?=some ⟨toTg tb t,toE gt tb ie,ifs,0⟩) (hg':∀ g',gens[dp+1+1]?=some g'→g'.is_async=0) (ht:∀ i∈tgSlots t,i∈wv) (hj:∀ i∈tgSlots t,i∉js) (hie:∀ x,ie≠.raw x)
  (hE:∀ F σ s loc v σ',Inv B F σ s→LR B tb vis env F loc s.heap→kE loc σ=some (v,σ')→EvT B A F s (eval (toE gt tb ie) env) (PE B σ' v))
  (hI:IfsOk B A tb vis env ifs kI) (hR:RestOk B A tb vis wv env D elt gens sc pos (dp+1) js kR) :
  RestOk B A tb vis wv env D elt gens sc pos dp (tgSlots t++js) (fun loc σ acc=>(kE loc σ).bind fun x=>(iterOf x.2 x.1).bind fun i=>(iterate (compStep t loc kI kR) i.1 i.2 0 acc x.2).map fun y=>y.2):=by
 intro F σ s loc acc acc' σ' c nj e
 unfold Inner
 rw [hg]
 dsimp only
 refine x2_3 (bin2_is e) ?_
 (try clear e)
 intro v i ek ei e
 refine x1_2 (map_is e) ?_
 (try clear e)
 intro y el e
 obtain ⟨ok,y⟩:=y
 apply p2 e
 refine (hE F σ s loc v.1 v.2 c.inv c.lr ek).seq fun x G₁ s₁ T₁ p₁=>?_
 have c₁:=c.step T₁ p₁.1
 refine wpAny_of_eq (folded_ok ie hie x) (iter_ok p₁.1 p₁.2 ei fun I s₂ p₂=>?_)
 refine comp_start hg rfl hh p₂.itr ?_
 refine codeAny_mono (comp_loop hh R hg hg' ht hj hI hR (fun i hi=>nj i (List.mem_append.mpr (.inl hi))) (fun i hi=>nj i (List.mem_append.mpr (.inr hi))) i.2 0 (F++G₁) v.2 s₂ acc _ (c₁.all p₂.inv p₂.keep) (.new p₁.1 c₁.lr p₂) el) fun rr s₃ h=>?_
 cases rr with
 | error z=>exact h
 | ok f =>
  obtain ⟨_,G₂,T₃,c₃⟩:=h
  have T₁₃:StepW (fun b=>CW tb wv env D b∨False) B (F++G₁) s₁ G₂ s₃:=by
   refine ⟨fun b o e nw=>T₃.kept b o (p₂.keep b o e) ?_,fun a ha=>?_⟩
   ·rintro (z | z | z)
    ·exact nw (.inl z)
    ·exact nw (.inr (.inl z))
    ·rw [z,p₂.dead] at e; exact noS e
   ·cases q:s₁.heap.get? a with
    | none=>rfl
    | some o=>have:=p₂.keep a o q; rw [T₃.fresh a ha] at this; exact noS this
  exact CPost.trans T₁.w ⟨G₂,T₁₃,c₃⟩ c₁.live fun ζ=>False.elim
end
end Mine
namespace Mine
open PySem
section
variable {B:Base} {A:Around} {F G:Lay} {σ σ':Sto} {s s':Shared} {d:Nat} {a b v:V} {x y:Value} {gt tb:List Str} {vis:List (Nat × Bool)} {wv gl:List Nat} {env:Env} {loc loc':Loc} {I D:Addr} {k:Nat} {it:It} {acc:List V}
structure CsP (gt tb:List Str) (vis:List (Nat × Bool)) (cs:CS):Prop where
 kind:cs.sc.kind=.function
 own:∀ p∈cs.own,cs.sc.names.lookup (nmOf tb p.1)=some (if p.2 then .cell else .local)
 fr:∀ i∈cs.fr,cs.sc.names.lookup (nmOf tb i)=some .free∧(i,true)∈vis
 gl:∀ g∈cs.gl,cs.sc.names.lookup (nmOf gt g)=some .globalImplicit∧plainNm (nmOf gt g)=true
 nd:((cs.own.map (·.1)++cs.fr).map (nmOf tb)).Nodup
 nds:(cs.sc.names.map (·.1)).Nodup
 free:∀ x∈cs.sc.names,x.2=.free→∃ i∈cs.fr,nmOf tb i=x.1
 plain:∀ i∈cs.own.map (·.1)++cs.fr,plainNm (nmOf tb i)=true
theorem csP_of {cs:CS} (h:csOk gt tb vis cs=true):CsP gt tb vis cs:=by
 unfold csOk at h
 simp only [Bool.and_eq_true] at h
 refine x0_2 (h) fun hw_224 h8=>?_
 refine x0_2 (hw_224) fun hw_225 h7=>?_
 refine x0_2 (hw_225) fun hw_226 h6=>?_
 refine x0_2 (hw_226) fun hw_227 h5=>?_
 refine x0_2 (hw_227) fun hw_228 h4=>?_
 obtain ⟨⟨h1,h2⟩,h3⟩:=hw_228
 refine ⟨eq_of_beq h1,fun p hp=>eq_of_beq (List.all_eq_true.mp h2 p hp),fun i hi=>?_,fun g hg=>?_,nodup_of h5,nodup_of h6,fun x hx e=>?_,fun i hi=>List.all_eq_true.mp h8 i hi⟩
 ·have:=List.all_eq_true.mp h3 i hi
  rw [Bool.and_eq_true] at this
  exact ⟨eq_of_beq this.1,List.contains_iff_mem.mp this.2⟩
 ·have:=List.all_eq_true.mp h4 g hg
  rw [Bool.and_eq_true] at this
  exact ⟨eq_of_beq this.1,this.2⟩
 ·have:=List.all_eq_true.mp h7 x hx
  rw [e] at this
  simp at this
  exact this
theorem cs_vis_nd {cs:CS} (c:CsP gt tb vis cs):(cs.vis.map fun x=>nmOf tb x.1).Nodup:=by
 have:=c.nd
 have e:(cs.vis.map fun x=>nmOf tb x.1)=(cs.own.map (·.1)++cs.fr).map (nmOf tb):=by
  unfold CS.vis
  simp [List.map_append,List.map_map,Function.comp_def]
 rw [e]; exact this
theorem comp_er {cs:CS} (c:CsP gt tb vis cs) (R:ER B gt tb vis wv gl env) {cenv:Env} (hg:cenv.globals=env.globals) (hb:cenv.builtins=env.builtins):ER B gt tb cs.vis cs.wv cs.gl { cenv with scope:=relabel cs.sc env }:=by
 have lk:∀ {n:Str} {k:NameKind},cs.sc.names.lookup n=some k→Env.kindOf { cenv with scope:=relabel cs.sc env } n=some (if (k==NameKind.free&&env.scope.kind==.function&&env.kindOf n==some .cell) then .cell else k):=fun h=>lookup_relabel h
 have mem:∀ i b,(i,b)∈cs.vis→(i,b)∈cs.own∨(i∈cs.fr∧b=true):=fun i b h=>by
  unfold CS.vis at h
  rcases List.mem_append.mp h with q | q
  ·exact .inl q
  ·refine x1_2 (List.mem_map.mp q) fun j hj e=>?_; apply p2 e; exact .inr ⟨hj,rfl⟩
 refine ⟨c.kind,by rw [← R.gA]; exact hg,by rw [← R.bA]; exact hb,fun i hi=>?_,fun i hi=>?_,fun i hi=>?_,fun g hg=>?_,fun i j b c' hi hj e=>?_,fun i b hi=>?_,fun g hg=>?_⟩
 ·rcases mem i _ hi with q | ⟨_,q⟩
  ·have:=lk (c.own _ q); simpa using this
  ·exact noT q
 ·rcases mem i _ hi with q | ⟨q,_⟩
  ·have:=lk (c.own _ q); exact .inl (by simpa using this)
  ·have:=lk (c.fr i q).1
   rw [this]
   split
   ·exact .inl rfl
   ·exact .inr rfl
 ·unfold CS.wv at hi
  refine xP1_2 (List.mem_map.mp hi) fun j b hj hq_229=>?_
  apply q2 hq_229
  have hv:(j,b)∈cs.vis:=List.mem_append.mpr (.inl hj)
  cases b with
  | false=>exact .inl hv
  | true=>exact .inr ⟨hv,by have:=lk (c.own _ hj); simpa using this⟩
 ·have:=lk (c.gl g hg).1; simpa using this
 ·have:=nodup_inj (cs_vis_nd c) hi hj e
  cases this; exact ⟨rfl,rfl⟩
 ·have hm:i∈cs.own.map (·.1)++cs.fr:=by
   rcases mem i _ hi with q | ⟨q,_⟩
   ·exact List.mem_append.mpr (.inl (List.mem_map_of_mem (f:=(·.1)) q))
   ·exact List.mem_append.mpr (.inr q)
  have:=c.plain i hm
  unfold plainNm at this
  rw [Bool.and_eq_true,Bool.not_eq_true',Bool.not_eq_true'] at this
  exact this
 ·have:=(c.gl g hg).2
  unfold plainNm at this
  rw [Bool.and_eq_true,Bool.not_eq_true',Bool.not_eq_true'] at this
  exact this.1
theorem comp_lr {cs:CS} (c:CsP gt tb vis cs) (Iv:Inv B F σ s) (L:LR B tb vis env F loc s.heap) {cl:List (Str × Addr)} (h1:∀ n c,cl.lookup n=some c→env.cells.lookup n=some c) (h2:∀ x∈cs.sc.names,x.2=.free→cl.lookup x.1=env.cells.lookup x.1) (h3:∀ n c,cl.lookup n=some c→(n,NameKind.free)∈cs.sc.names)
  {cenv:Env} (hl:cenv.locals=s.heap.objs.size) (hc:cenv.cells=cellsFrom (s.heap.objs.size+1) cs.sc.names cl) {sc:Scope} :
  LR B tb cs.vis { cenv with scope:=sc } F (clear cs.wv loc) (pushCells (s.heap.push { cls:=.type "dict",data:=.dict #[] }) cs.sc.names) ∧
  (∀ b,OwnA tb cs.wv { cenv with scope:=sc } b→s.heap.get? b=none)∧(∀ n c',cenv.cells.lookup n=some c'→s.heap.get? c'=none∨env.cells.lookup n=some c'):=by
 have kp:∀ b o,s.heap.get? b=some o→(pushCells (s.heap.push { cls:=.type "dict",data:=.dict #[] }) cs.sc.names).get? b=some o:=fun b o e=>pushCells_keeps _ _ b o (Heap.get?_push_of_some _ e)
 have im:Mv F F s.heap (pushCells (s.heap.push { cls:=.type "dict",data:=.dict #[] }) cs.sc.names):=.of kp
 have hsz:(s.heap.push { cls:=.type "dict",data:=.dict #[] }).objs.size=s.heap.objs.size+1:=Heap.size_push ..
 have ck:=cells_ok cs.sc.names (s.heap.push { cls:=.type "dict",data:=.dict #[] }) cl c.nds (fun n c' e=>by
  rw [hsz]
  refine x1_2 (L.cellLive (h1 n c' e)) fun o eo ζ=>?_
  exact Nat.lt_succ_of_lt (Heap.lt_size eo)) fun n n' c' e e'=>L.ap n n' c' (h1 n c' e) (h1 n' c' e')
 rw [hsz,← hc] at ck
 refine x0_3 (ck) fun k1 k2 k3=>?_
 have big:∀ c',s.heap.objs.size≤c'→s.heap.get? c'=none:=fun c' h=>by
  cases q:s.heap.get? c' with
  | none=>rfl
  | some o=>exact absurd (Heap.lt_size q) (Nat.not_lt_of_le h)
 have mem:∀ i b,(i,b)∈cs.vis→(i,b)∈cs.own∨(i∈cs.fr∧b=true):=fun i b h=>by
  unfold CS.vis at h
  rcases List.mem_append.mp h with q | q
  ·exact .inl q
  ·refine x1_2 (List.mem_map.mp q) fun j hj e=>?_; cases e; exact .inr ⟨hj,rfl⟩
 have nown:∀ i b v,(i,b)∈cs.own→(clear cs.wv loc)[i]?≠some (some v):=fun i b v h e=>(clear_get _ _ _ _ e).2 (List.mem_map_of_mem (f:=(·.1)) h)
 have hdl:s.heap.get? cenv.locals=none:=by rw [hl]; exact dead_size _
 have ddl:=Iv.dead hdl
 have hcell:∀ n c',cenv.cells.lookup n=some c'→(s.heap.get? c'=none∧(pushCells (s.heap.push { cls:=.type "dict",data:=.dict #[] }) cs.sc.names).IsCell c' none)∨env.cells.lookup n=some c':=fun n c' e=>by
  by_cases hm:(n,NameKind.cell)∈cs.sc.names
  ·refine x1_3 (k2 n hm) fun c'' e' l q=>?_
   rw [e] at e'; cases e'
   exact .inl ⟨big c' (Nat.le_of_succ_le l),q⟩
  ·rw [k1 n hm] at e; exact .inr (h1 n c' e)
 refine ⟨⟨⟨fun ζ=>none,?_,fun i v hi e=>?_⟩,fun i hi=>?_,⟨ddl.2,ddl.1⟩,fun n c' e=>?_,k3⟩,fun b w=>?_,fun n c' e=>(hcell n c' e).imp (·.1) id⟩
 ·show Heap.Ns _ cenv.locals _
  rw [hl]
  exact (Heap.Ns.new s.heap (.type "dict")).keeps (pushCells_keeps _ _)
 ·rcases mem i _ hi with q | ⟨_,q⟩
  ·exact absurd e (nown i _ v q)
  ·exact noT q
 ·rcases mem i _ hi with q | ⟨q,_⟩
  ·refine x1_3 (k2 (nmOf tb i) (lookup_mem (by have:=c.own _ q; simpa using this))) fun c' e ζ z=>?_
   exact ⟨c',none,e,z,fun v ev=>absurd ev (nown i _ v q)⟩
  ·refine x0_2 (c.fr i q) fun f1 f2=>?_
   refine x2_3 (L.cel i f2) fun c' ov e z r=>?_
   have hm:(nmOf tb i,NameKind.cell)∉cs.sc.names:=fun w=>by
    have:=mem_lookup c.nds w
    rw [f1] at this; cases this
   refine ⟨c',ov,?_,z.keeps kp,fun v ev=>?_⟩
   ·show cenv.cells.lookup _=_
    rw [k1 _ hm,h2 _ (lookup_mem f1) rfl]; exact e
   ·refine x1_2 (r v (clear_get _ _ _ _ ev).1) fun x q' r'=>?_
    exact ⟨x,q',r'.step im⟩
 ·rcases hcell n c' e with ⟨q1,q2⟩ | q
  ·have dd:=Iv.dead q1
   exact ⟨dd.2,dd.1,none,q2⟩
  ·obtain ⟨z1,z2,ov,z3⟩:=L.fc n c' q
   exact ⟨z1,z2,ov,z3.keeps kp⟩
 ·rcases w with rfl | ⟨i,hi,e⟩
  ·exact hdl
  ·unfold CS.wv at hi
   refine xP1_2 (List.mem_map.mp hi) fun j b' hj hq_230=>?_
   subst hq_230
   cases b' with
   | true =>
    refine x1_3 (k2 (nmOf tb j) (lookup_mem (by have:=c.own _ hj; simpa using this))) fun c' e' l ζ=>?_
    have e2:cenv.cells.lookup (nmOf tb j)=some b:=e
    rw [e2] at e'; cases e'
    exact big _ (Nat.le_of_succ_le l)
   | false =>
    exfalso
    have ho:cs.sc.names.lookup (nmOf tb j)=some .local:=by have:=c.own _ hj; simpa using this
    have hm:(nmOf tb j,NameKind.cell)∉cs.sc.names:=fun w=>by
     have:=mem_lookup c.nds w
     rw [ho] at this; cases this
    have e2:cenv.cells.lookup (nmOf tb j)=some b:=e
    rw [k1 _ hm] at e2
    have:=mem_lookup c.nds (h3 _ _ e2)
    rw [ho] at this; cases this
end
end Mine
namespace Mine
open PySem
structure CDone (B:Base) (F:Lay) (σ:Sto) (v:V) (s:Shared) (D C:Addr) (G:Lay) (s':Shared):Prop where
 step:Step B F s G s'
 pe:PE B σ v (.ref D) (F++G) s'
 ns:∃ m,s'.heap.Ns C m
 dead:s.heap.get? C=none
 off:C∉(F++G).flatten
 h0:B.h0.get? C=none
section
variable {B:Base} {A:Around} {F G:Lay} {σ σ':Sto} {s s':Shared} {d:Nat} {a b v:V} {x y:Value} {gt tb:List Str} {vis:List (Nat × Bool)} {wv gl:List Nat} {env:Env} {loc loc':Loc} {I D:Addr} {k:Nat} {it:It} {acc:List V}
theorem Inv.cellG (ne:∃ as r,F=as :: r) (I:Inv B (gh D F) σ s) {vs:List V} {items:Array Value} (hl:s.heap.PlainList D items) (hv:VRs B.fa s.heap (gh D F) vs items.toList) (hz:vs.length≤maxLen):Inv B (F++[[D]]) (σ++[.list vs]) s:=by
 have fl:=gh_flat (D:=D) ne
 have nd:=I.nodup
 rw [fl,List.nodup_cons] at nd
 have m:Mv (gh D F) (F++[[D]]) s.heap s.heap:=⟨fun ζ ζ e ζ ζ=>e,fun ζ ζ e=>app_get _ _ _ _ (gh_fat.mp e),fun b ζ ζ ζ ζ n q=>n (by
  rw [fl]
  rw [List.flatten_append,List.mem_append] at q
  exact q.elim (.tail _) fun q=>by simp at q; rw [q]; exact .head _)⟩
 have I₁:=I.dropG ne
 refine I₁.grow (fun i o as eo e=>?_) ⟨D,items,rfl,hl,hv.step m,hz⟩ (by simp) (fun a h=>by cases List.mem_singleton.mp h; exact nd.1) fun a h=>by cases List.mem_singleton.mp h; exact I.fresh D (by rw [fl]; exact .head _)
 cases i with
 | zero =>
  refine x2_1 (I.zero) fun k' xs z=>?_
  rw [z] at eo; apply s1 eo
  exact I₁.obj 0 _ as z e
 | succ i=>exact (I.obj _ o as eo (gh_fat.mpr ⟨Nat.succ_pos i,e⟩).2).mono (fun ζ ζ ζ e=>e) m
theorem gh_wr {b:Addr} (w:Wr B (gh D F) b):Wr B F b:=w.imp (fun ⟨i,as,e,h⟩=>⟨i,as,gh_fat.mp e,h⟩) id
theorem cdone_of (cell:Bool) {vs:List V} {C:Addr} {m:Str→Option Value} (Iv:Inv B F σ' s) (dD:s.heap.get? D=none) (c:CInv B tb vis env D (gh D F++G) σ loc vs s') (T:Step B F s G s') (hC:C=env.locals) (n:s'.heap.Ns C m) (dC:s.heap.get? C=none):∃ G',CDone B F (newL cell vs σ).2 (newL cell vs σ).1 s D C G' s':=by
 have ne:=Iv.ne
 refine x1_2 (c.al) fun items pl rs=>?_
 have e:=gh_app (D:=D) (G:=G) ne
 have ne':∃ as r,F++G=as :: r:=let ⟨as,r,q⟩:=ne; ⟨as,r++G,by rw [q]; rfl⟩
 have I₁:=c.inv
 rw [e] at I₁ rs
 have fl:=gh_flat (D:=D) ne'
 have nd:=I₁.nodup
 rw [fl,List.nodup_cons] at nd
 have oC:C∉(gh D (F++G)).flatten:=by rw [hC,← e]; exact c.lr.fl.1
 rw [fl] at oC
 cases cell with
 | false =>
  refine x1_1 (pl) ?_; (try clear pl); intro n' pl
  exact ⟨G,T,⟨I₁.dropG ne',.lst pl nd.1 (rs.step (.drop ne' _)) c.len⟩,⟨m,n⟩,dC,fun q=>oC (.tail _ q),hC▸c.lr.fl.2⟩
 | true =>
  have I₂:=I₁.cellG ne' pl rs c.len
  refine ⟨G++[[D]],⟨T.kept,fun a h=>?_⟩,⟨by rw [← List.append_assoc]; exact I₂,.ref (as:=[]) ⟨I₁.size,?_⟩⟩,⟨m,n⟩,dC,?_,hC▸c.lr.fl.2⟩
  ·rw [List.flatten_append,List.mem_append] at h
   exact h.elim (T.fresh a) fun h=>by simp at h; rw [h]; exact dD
  ·rw [← List.append_assoc,← (I₁.dropG ne').len,List.getElem?_concat_length]
  ·rw [← List.append_assoc,List.flatten_append,List.mem_append]
   exact fun q=>q.elim (fun q=>oC (.tail _ q)) fun q=>oC (by simp at q; rw [q]; exact .head _)
theorem comp_world {cs:CS} (c:CsP gt tb vis cs) (Iv:Inv B F σ s) (L:LR B tb vis env F loc s.heap) {s₂:Shared} (p:ItP B F σ it s I s₂) {cl:List (Str × Addr)} (h1:∀ n c,cl.lookup n=some c→env.cells.lookup n=some c) (h2:∀ x∈cs.sc.names,x.2=.free→cl.lookup x.1=env.cells.lookup x.1) (h3:∀ n c,cl.lookup n=some c→(n,NameKind.free)∈cs.sc.names)
  {cenv:Env} {sc:Scope} (hl:cenv.locals=(s₂.heap.push { cls:=.type "list",data:=.seq #[] }).objs.size) (hc:cenv.cells=cellsFrom ((s₂.heap.push { cls:=.type "list",data:=.seq #[] }).objs.size+1) cs.sc.names cl) {h₄:Heap} (e₄:h₄=pushCells ((s₂.heap.push { cls:=.type "list",data:=.seq #[] }).push { cls:=.type "dict",data:=.dict #[] }) cs.sc.names) :
  s.heap.get? s₂.heap.objs.size=none∧(∀ b o,s.heap.get? b=some o→h₄.get? b=some o)∧(∀ b,OwnA tb cs.wv { cenv with scope:=sc } b→s.heap.get? b=none)∧CInv B tb cs.vis { cenv with scope:=sc } s₂.heap.objs.size (gh s₂.heap.objs.size F) σ (clear cs.wv loc) [] { s₂ with heap:=h₄ }∧IOn B { cenv with scope:=sc } (gh s₂.heap.objs.size F) h₄ I 0 it:=by
 have ne:=Iv.ne
 have dD₂:s₂.heap.get? s₂.heap.objs.size=none:=dead_size _
 have k₃:∀ b o,s.heap.get? b=some o→(s₂.heap.push { cls:=.type "list",data:=.seq #[] }).get? b=some o:=fun b o e=>Heap.get?_push_of_some _ (p.keep b o e)
 have dD:s.heap.get? s₂.heap.objs.size=none:=by
  cases q:s.heap.get? s₂.heap.objs.size with
  | none=>rfl
  | some o=>have:=p.keep _ o q; rw [dD₂] at this; exact noS this
 have hD:(s₂.heap.push { cls:=.type "list",data:=.seq #[] }).get? s₂.heap.objs.size=some { cls:=.type "list",data:=.seq #[] }:=Heap.get?_push_size _ rfl
 have I₃:Inv B (gh s₂.heap.objs.size F) σ { s₂ with heap:=s₂.heap.push { cls:=.type "list",data:=.seq #[] } }:=Iv.addG (p.inv.push _ s₂.toks) k₃ dD ⟨0,hD⟩
 have L₃:LR B tb vis env (gh s₂.heap.objs.size F) loc (s₂.heap.push { cls:=.type "list",data:=.seq #[] }):=L.mv (fun b o ζ e=>k₃ b o e) (.ghost ne k₃ dD) fun b w q=>by
  obtain ⟨z,_,o,e,_⟩:=L.fr w
  rw [gh_flat ne] at q
  rcases List.mem_cons.mp q with rfl | q
  ·rw [dD] at e; exact noS e
  ·exact z q
 refine x0_3 (comp_lr c I₃ L₃ h1 h2 h3 (cenv:=cenv) hl hc (sc:=sc)) fun L₄ own₄ cel₄=>?_
 have k₄:∀ b o,(s₂.heap.push { cls:=.type "list",data:=.seq #[] }).get? b=some o→h₄.get? b=some o:=fun b o e=>e₄▸pushCells_keeps _ _ b o (Heap.get?_push_of_some _ e)
 refine x1_2 (p.itr.live_) fun oI eI ζ=>?_
 have eI₃:(s₂.heap.push { cls:=.type "list",data:=.seq #[] }).get? I=some oI:=Heap.get?_push_of_some _ eI
 refine ⟨dD,fun b o e=>k₄ b o (k₃ b o e),fun b w=>?_,⟨I₃.all k₄ s₂.toks,e₄▸L₄,⟨#[],⟨0,k₄ _ _ hD⟩,.nil⟩,?_,Nat.zero_le _⟩,p.itr.step (fun o e=>k₄ _ o (Heap.get?_push_of_some _ e)) (.ghost ne (fun b o e=>k₄ b o (Heap.get?_push_of_some _ e)) dD₂),fun q=>?_,(Iv.dead p.dead).1,fun b w z=>?_,fun vs ζ=>Nat.zero_le _⟩
 ·cases q:s.heap.get? b with
  | none=>rfl
  | some o =>
   have q':(s₂.heap.push { cls:=.type "list",data:=.seq #[] }).get? b=none:=own₄ b w
   rw [k₃ b o q] at q'; cases q'
 ·refine x2_1 (ne) fun as r hq_231=>?_; subst hq_231; exact ⟨_,rfl,.head _⟩
 ·rw [gh_flat ne] at q
  rcases List.mem_cons.mp q with q | q
  ·rw [q,dD₂] at eI; exact noS eI
  ·exact (Iv.dead p.dead).2 q
 ·subst z
  rcases w with w | ⟨n,w⟩
  ·have q':(s₂.heap.push { cls:=.type "list",data:=.seq #[] }).get? b=none:=own₄ b (.inl w)
   rw [q'] at eI₃; exact noS eI₃
  ·rcases cel₄ n b w with q | q
   ·have q':(s₂.heap.push { cls:=.type "list",data:=.seq #[] }).get? b=none:=q
    rw [q'] at eI₃; exact noS eI₃
   ·refine x1_2 (L.cellLive q) fun o eo ζ=>?_
    rw [p.dead] at eo; exact noS eo
theorem comp_core (cell:Bool) (hh:A.handled=none) (R:ER B gt tb vis wv gl env) {cs:CS} (c:CsP gt tb vis cs) (Iv:Inv B F σ s) (L:LR B tb vis env F loc s.heap) {elt:Expr} {pos p:Pos} {t:Tg} {ie:E} {ifs:List Expr} {gs:List Comprehension} {js:List Nat} {kI:Loc→Sto→Option (Bool × Sto)} {kR:Loc→Sto→List V→Option (List V × Sto)}
  {σ₁:Sto} {n:Nat} {z:Bool × List V × Sto} {use:Option (Value→Sem Unit)} {Q:Value→Shared→Prop} (hg':∀ g',gs[0]?=some g'→g'.is_async=0)
  (hie:∀ x,ie≠.raw x) (hE:EvT B A F s (eval (toE gt tb ie) env) (PE B σ₁ v)) (ei:iterOf σ₁ v=some (it,n)) (ht:∀ i∈tgSlots t,i∈cs.wv) (hj:∀ i∈tgSlots t,i∉js) (hjs:∀ i∈js,i∈cs.wv)
  (hI:∀ cenv:Env,ER B gt tb cs.vis cs.wv cs.gl cenv→IfsOk B A tb cs.vis cenv ifs kI)
  (hR:∀ (cenv:Env) D,ER B gt tb cs.vis cs.wv cs.gl cenv→RestOk B A tb cs.vis cs.wv cenv D elt (⟨toTg tb t,toE gt tb ie,ifs,0⟩ :: gs) cs.sc pos 0 js kR)
  (el:iterate (compStep t (clear cs.wv loc) kI kR) it n 0 [] σ₁=some z)
  (fin:∀ D C G s',CDone B F (newL cell z.2.1 z.2.2).2 (newL cell z.2.1 z.2.2).1 s D C G s'→compPost (model B.prog B.w) A Bot use Q (.ref D) C (.ok .next) s') :
  wpAny (model B.prog B.w) A (comprehension (.ListComp elt (⟨toTg tb t,toE gt tb ie,ifs,0⟩ :: gs) cs.sc pos) cs.sc env p (PySem.newList []) false (eval (toE gt tb ie) env) use) Q Bot s:=by
 obtain ⟨cl,hcl,h1,h2,h3⟩:=closure_ok (scope:=cs.sc) (env:=env) fun x hx e=>by
  refine x1_2 (c.free x hx e) fun i hi q=>?_
  refine x2_2 (L.cel i (c.fr i hi).2) fun c' ζ e' ζ=>?_
  exact ⟨c',by rw [← q]; exact e'⟩
 refine wpAny_comprehension_free rfl (fun x=>folded_ok ie hie x) hcl c.kind (fun x hx e=>mem_lookup c.nds (by rw [← e]; exact hx)) ?_
 refine hE.seq fun x G₁ s₁ T₁ p₁=>?_
 have L₁:=L.step Iv T₁
 refine iter_ok p₁.1 p₁.2 ei fun I s₂ p₂=>?_
 refine wpAny_newList (items:=[]) ?_ (Nat.zero_le _)
 refine compEnv_ok (s:={ s₂ with heap:=s₂.heap.push { cls:=.type "list",data:=.seq #[] } }) fun cenv hl hg hb hc=>?_
 have R₄:=comp_er c R (cenv:=cenv) hg hb
 refine x0_5 (comp_world c p₁.1 L₁ p₂ h1 h2 h3 (sc:=relabel cs.sc env) hl hc rfl) fun dD k₄ own₄ c₄ r₄=>?_
 refine comp_start (dp:=0) (g:=⟨toTg tb t,toE gt tb ie,ifs,0⟩) rfl rfl hh r₄.itr ?_
 refine codeAny_mono (comp_loop hh R₄ (dp:=0) rfl (fun g' e=>hg' g' e) ht hj (hI _ R₄) (hR _ s₂.heap.objs.size R₄) (fun i hi v e=>(clear_get _ _ _ _ e).2 (ht i hi)) (fun i hi v e=>(clear_get _ _ _ _ e).2 (hjs i hi)) n 0 _ σ₁ _ [] z c₄ r₄ el) fun rr s₅ h=>?_
 cases rr with
 | error z=>exact h.elim
 | ok f =>
  obtain ⟨hq_232,G₂,T₅,c₅⟩:=h
  apply q1 hq_232
  have T₁₅:Step B (F++G₁) s₁ G₂ s₅:=by
   refine ⟨fun b o e nw=>T₅.kept b o (k₄ b o e) ?_,fun a ha=>?_⟩
   ·rintro (z | ((z | z) | z))
    ·exact nw (gh_wr z)
    ·rw [own₄ b z] at e; exact noS e
    ·rw [z,dD] at e; exact noS e
    ·rw [z,p₂.dead] at e; exact noS e
   ·cases q:s₁.heap.get? a with
    | none=>rfl
    | some o=>have:=k₄ a o q; rw [T₅.fresh a ha] at this; exact noS this
  refine x1_2 (c₅.lr.lcs) fun m nm ζ=>?_
  refine x1_1 (cdone_of cell (C:=cenv.locals) p₁.1 dD c₅ T₁₅ rfl nm (own₄ _ (.inl rfl))) fun G' cd=>?_
  refine fin s₂.heap.objs.size cenv.locals (G₁++G') s₅ ⟨T₁.trans cd.step cd.pe.1,by rw [← List.append_assoc]; exact cd.pe,cd.ns,?_,by rw [← List.append_assoc]; exact cd.off,cd.h0⟩
  cases q:s.heap.get? cenv.locals with
  | none=>rfl
  | some o =>
   have h1:=cd.dead
   have nw:¬ Wr B F cenv.locals:=by
    rintro (z | z)
    ·have:=cd.off
     rw [List.append_assoc,List.flatten_append,List.mem_append] at this
     exact this (.inl z.mem)
    ·exact LR.notTab Iv cd.h0 z
   rw [T₁.kept _ o q nw] at h1; cases h1
end
end Mine
namespace Mine
open PySem
section
variable {Φ:Calls} {Λ:Lexer} {G:Nat→Option V} {loc loc':Loc} {σ σ':Sto} {p q q1 q2 q3:Pos}
noncomputable def getL (loc:Loc) (i:Nat) (σ:Sto):Option (V × Sto):=(loc[i]?).bind fun o=>o.map fun v=>(v,σ)
theorem getL_zero {v:V} {r:Loc}:getL (some v :: r) 0 σ=some (v,σ):=rfl
theorem getL_succ {o:Option V} {r:Loc} {i:Nat}:getL (o :: r) (i+1) σ=getL r i σ:=rfl
theorem ev_cnone:evM Φ Λ G (.cnone p) false loc σ=some (.none,σ):=rfl
theorem ev_cbool {b:Bool}:evM Φ Λ G (.cbool b p) false loc σ=some (.bool b,σ):=rfl
theorem ev_cint {i:Int}:evM Φ Λ G (.cint i p) false loc σ=some (.int i,σ):=rfl
theorem ev_cstr {l:List Nat}:evM Φ Λ G (.cstr l p) false loc σ=some (.str l,σ):=rfl
theorem ev_var {i:Nat}:evM Φ Λ G (.var i p) false loc σ=getL loc i σ:=rfl
theorem ev_glob {g:Nat}:evM Φ Λ G (.glob g p) false loc σ=(G g).map fun v=>(v,σ):=rfl
theorem ev_bin {op:Operator} {a b:E}:evM Φ Λ G (.bin op a b p) false loc σ=(evM Φ Λ G a false loc σ).bind fun x=>(evM Φ Λ G b false loc x.2).bind fun y=>binop op x.1 y.1 y.2:=rfl
theorem ev_neg {a:E}:evM Φ Λ G (.neg a p) false loc σ=(evM Φ Λ G a false loc σ).bind fun x=>(intV x.1).map fun i=>(.int (-i),x.2):=rfl
theorem ev_cmp {op:CmpOp} {a b:E}:evM Φ Λ G (.cmp op a b p) false loc σ=(evM Φ Λ G a false loc σ).bind fun x=>(evM Φ Λ G b false loc x.2).bind fun y=>(cmpop op x.1 y.1 y.2).map fun c=>(V.bool c,y.2):=rfl
theorem ev_list {c:Bool} {es:EL}:evM Φ Λ G (.list c es p) false loc σ=(evEL Φ Λ G es loc σ).bind fun r=>if r.1.length≤maxLen then some (newL c r.1 r.2) else none:=rfl
theorem ev_tup {es:EL}:evM Φ Λ G (.tup es p) false loc σ=(evEL Φ Λ G es loc σ).map fun r=>(.tup r.1,r.2):=rfl
theorem ev_sub {a i:E}:evM Φ Λ G (.sub a i p) false loc σ=(evM Φ Λ G a false loc σ).bind fun x=>(evM Φ Λ G i false loc x.2).bind fun y=>(subV x.1 y.1 y.2).map fun v=>(v,y.2):=rfl
theorem ev_slice {a:E} {lo hi st:OE}:evM Φ Λ G (.slice a lo hi st q p) false loc σ=(evM Φ Λ G a false loc σ).bind fun x=>(evO Φ Λ G lo loc x.2).bind fun l=>(evO Φ Λ G hi loc l.2).bind fun h=>(evO Φ Λ G st loc h.2).bind fun t=>sliceV x.1 l.1 h.1 t.1 t.2:=rfl
theorem evO_none:evO Φ Λ G .none loc σ=some (.none,σ):=rfl
theorem evO_some {e:E}:evO Φ Λ G (.some e) loc σ=evM Φ Λ G e false loc σ:=rfl
theorem ev_call {g:Nat} {es:EL}:evM Φ Λ G (.call g q es p) false loc σ=(G g).bind fun f=>(evEL Φ Λ G es loc σ).bind fun r=>callV Φ f r.1 r.2:=rfl
theorem ev_callkw {g:Nat} {es:EL} {k:Str} {e:E}:evM Φ Λ G (.callkw g q1 es k e q p) false loc σ=(G g).bind fun f=>(evEL Φ Λ G es loc σ).bind fun r=>(evM Φ Λ G e false loc r.2).bind fun w=>(fnV f).bind fun k=>Φ k (r.1++[w.1]) w.2:=rfl
noncomputable def methR (Λ:Lexer) (m:Me) (x:V) (k:Nat) (vs:List V) (σ:Sto):Option (V × Sto):=if k=2 then (if m.lex then Λ m (x :: vs) σ else none) else methV x m vs σ
theorem ev_meth {o:E} {m:Me} {es:EL}:evM Φ Λ G (.meth o m es q p) false loc σ=(evM Φ Λ G o false loc σ).bind fun x=>(recv x.2 x.1).bind fun k=>(evEL Φ Λ G es loc x.2).bind fun r=>methR Λ m x.1 k r.1 r.2:=rfl
theorem ev_attr {o:E} {t:At}:evM Φ Λ G (.attr o t p) false loc σ=(evM Φ Λ G o false loc σ).bind fun x=>(attrV t x.2 x.1).map fun v=>(v,x.2):=rfl
theorem ev_shut {i:Nat} {q:List Pos}:evM Φ Λ G (.shut i q p) false loc σ=(loc[i]?).bind fun o=>o.bind fun v=>(strV v).bind fun s=>if s.length≤1000 then some (.str (34 :: rep 34 [92,34] (rep 92 [92,92] s)++[34]),σ) else none:=rfl
theorem ev_tix {i j:Nat}:evM Φ Λ G (.tix i j q1 q2 q3 p) false loc σ=(loc[i]?).bind fun o=>o.bind fun u=>(tupV u).bind fun xs=>(loc[j]?).bind fun o=>o.bind fun v=>(indexL v xs).map fun k=>(.int (k:Nat),σ):=rfl
theorem ev_readc {o:E}:evM Φ Λ G (.readc o q1 q2 q3 p) false loc σ=(evM Φ Λ G o false loc σ).bind fun x=>Λ .count [x.1] x.2:=rfl
theorem ev_fit {o:E} {g:Nat}:evM Φ Λ G (.fit g o q1 q2 q3 p) false loc σ=(G g).bind fun f=>if isIter f then (evM Φ Λ G o false loc σ).bind fun x=>(refV x.1).bind fun i=>fitC i x.2 else none:=rfl
theorem evEL_nil:evEL Φ Λ G .nil loc σ=some ([],σ):=rfl
theorem evEL_cons {e:E} {es:EL}:evEL Φ Λ G (.cons e es) loc σ=(evM Φ Λ G e false loc σ).bind fun x=>(evEL Φ Λ G es loc x.2).map fun r=>(x.1 :: r.1,r.2):=rfl
theorem ev_comp {c:Bool} {e:E} {t:Tg} {it:E} {ifs:EL} {r:CL} {cs:CS}:evM Φ Λ G (.comp c e t it ifs r cs p) false loc σ=(evM Φ Λ G it false (clear (cs.own.map (·.1)) loc) σ).bind fun x=>(iterOf x.2 x.1).bind fun i=>(iterate (compStep t (clear (cs.own.map (·.1)) loc) (fun loc σ=>evIfs Φ Λ G ifs loc σ) (evC Φ Λ G r fun loc σ acc=>(evM Φ Λ G e false loc σ).bind fun v=>if acc.length < maxLen then some (acc++[v.1],v.2) else none)) i.1 i.2 0 [] x.2).map fun y=>newL c y.2.1 y.2.2:=rfl
theorem ev_ife {t a b:E}:evM Φ Λ G (.ife t a b p) false loc σ=(evT Φ Λ G t loc σ).bind fun r=>if r.1 then evM Φ Λ G a false loc r.2 else evM Φ Λ G b false loc r.2:=rfl
theorem evT_ife {t a b:E}:evT Φ Λ G (.ife t a b p) loc σ=asB ((evT Φ Λ G t loc σ).bind fun r=>if r.1 then evM Φ Λ G a true loc r.2 else evM Φ Λ G b true loc r.2):=rfl
theorem evT_cmp2 {op op':CmpOp} {a b c:E}:evM Φ Λ G (.cmp2 op op' a b c p) true loc σ=(evM Φ Λ G a false loc σ).bind fun x=>(evM Φ Λ G b false loc x.2).bind fun y=>(cmpop op x.1 y.1 y.2).bind fun r =>
   if r then (evM Φ Λ G c false loc y.2).bind fun z=>(cmpop op' y.1 z.1 z.2).map fun c=>(.bool c,z.2) else some (.bool false,y.2):=rfl
theorem evT_boolop {op:BoolOp} {es:EL}:evM Φ Λ G (.boolop op es p) true loc σ=(evB Φ Λ G op es loc σ).map fun r=>(V.bool r.1,r.2):=rfl
theorem evB_nil {op:BoolOp}:evB Φ Λ G op .nil loc σ=some (op==.And,σ):=rfl
theorem evB_cons {op:BoolOp} {e:E} {es:EL}:evB Φ Λ G op (.cons e es) loc σ=(evT Φ Λ G e loc σ).bind fun c=>if (op==.And)=c.1 then evB Φ Λ G op es loc c.2 else some c:=rfl
theorem evBV_cons {op:BoolOp} {e:E} {es:EL}:evBV Φ Λ G op (.cons e es) loc σ=(evM Φ Λ G e false loc σ).bind fun v=>if es.isNil then some v else (boolV v.1).bind fun b=>if (op==.And)=b then evBV Φ Λ G op es loc v.2 else some v:=rfl
theorem evIfs_cons {e:E} {es:EL}:evIfs Φ Λ G (.cons e es) loc σ=(evT Φ Λ G e loc σ).bind fun c=>if c.1 then evIfs Φ Λ G es loc c.2 else some c:=rfl
theorem callV_fn {k:Nat} {as:List V}:callV Φ (.fn k) as σ=Φ k as σ:=rfl
theorem callV_bi {b:Bi} {as:List V}:callV Φ (.bi b) as σ=callB b as σ:=rfl
theorem callV_ty {t:Ty} {as:List V}:callV Φ (.ty t) as σ=callT t as σ:=rfl
theorem es_nil:evSL Φ Λ G .nil loc σ=some (.next,loc,σ):=rfl
theorem es_cons {s:S} {r:SL}:evSL Φ Λ G (.cons s r) loc σ=(evS Φ Λ G s loc σ).bind (seqF fun loc σ=>evSL Φ Λ G r loc σ):=rfl
theorem es_assign {t:Tg} {e:E}:evS Φ Λ G (.assign t e p) loc σ=(evM Φ Λ G e false loc σ).bind fun x=>(bindT t x.1 loc x.2).map fun l=>(.next,l,x.2):=rfl
theorem es_assignSub {a i e:E}:evS Φ Λ G (.assignSub a i q e p) loc σ=(evM Φ Λ G e false loc σ).bind fun v=>(evM Φ Λ G a false loc v.2).bind fun x=>(evM Φ Λ G i false loc x.2).bind fun k=>(setV x.1 k.1 v.1 k.2).map fun s=>(.next,loc,s):=rfl
theorem es_aug {i:Nat} {op:Operator} {e:E}:evS Φ Λ G (.aug i q op e p) loc σ=(loc[i]?).bind fun o=>o.bind fun x=>(evM Φ Λ G e false loc σ).bind fun y=>(augop op x y.1 y.2).map fun v=>(.next,loc.set i (some v.1),v.2):=rfl
theorem es_augSub {a i e:E} {op:Operator}:evS Φ Λ G (.augSub a i q op e p) loc σ=(evM Φ Λ G a false loc σ).bind fun x=>(evM Φ Λ G i false loc x.2).bind fun k=>(subV x.1 k.1 k.2).bind fun old=>(evM Φ Λ G e false loc k.2).bind fun y=>(augop op old y.1 y.2).bind fun v=>(setV x.1 k.1 v.1 v.2).map fun s=>(.next,loc,s):=rfl
theorem es_expr {e:E}:evS Φ Λ G (.expr e p) loc σ=(evM Φ Λ G e false loc σ).map fun x=>(.next,loc,x.2):=rfl
theorem es_ret {e:E}:evS Φ Λ G (.ret e p) loc σ=(evM Φ Λ G e false loc σ).map fun x=>(.ret x.1,loc,x.2):=rfl
theorem es_cond {t:E} {a b:SL}:evS Φ Λ G (.cond t a b p) loc σ=(evT Φ Λ G t loc σ).bind fun r=>if r.1 then evSL Φ Λ G a loc r.2 else evSL Φ Λ G b loc r.2:=rfl
theorem es_loop {clr:List Nat} {t:Tg} {it:E} {a b:SL}:evS Φ Λ G (.loop clr t it a b p) loc σ=(evM Φ Λ G it false loc σ).bind fun x=>(iterOf x.2 x.1).bind fun i=>(iterate (loopStep Φ Λ G clr t a) i.1 i.2 0 (Fl.next,loc) x.2).bind (endF fun loc σ=>evSL Φ Λ G b loc σ):=rfl
theorem es_enum {clr:List Nat} {is:List (Nat × Pos)} {g:Nat} {it:E} {a b:SL}:evS Φ Λ G (.enum clr is q1 g q2 it a b q p) loc σ=(G g).bind fun f=>if isEnumT f then (evM Φ Λ G it false loc σ).bind fun x=>(tupV x.1).bind fun xs=>(iterate (loopStep Φ Λ G clr (.tup is q1) a) (.items (enumItems xs)) xs.length 0 (Fl.next,loc) x.2).bind (endF fun loc σ=>evSL Φ Λ G b loc σ) else none:=rfl
theorem es_fitr {fuel i:Nat} {it:E} {a b:SL}:evS Φ Λ G (.fitr fuel i q it a b p) loc σ=(evM Φ Λ G it false loc σ).bind fun x=>(refV x.1).bind fun j=>(fitN (fun v σ=>Λ .read_char [v] σ) (loopStep Φ Λ G [] (.name i q) a) j fuel (Fl.next,loc) x.2).bind (endF fun loc σ=>evSL Φ Λ G b loc σ):=rfl
theorem es_whil {fuel:Nat} {clr:List Nat} {t:E} {a:SL}:evS Φ Λ G (.whil fuel clr t a p) loc σ=whileN (fun loc σ=>evT Φ Λ G t loc σ) (fun loc σ=>(evSL Φ Λ G a loc σ).map (turn clr)) fuel loc σ:=rfl
theorem es_inc {o:E}:evS Φ Λ G (.inc o q1 q2 p) loc σ=(evM Φ Λ G o false loc σ).bind fun x=>(refV x.1).bind fun i=>(incC i x.2).map fun s=>(.next,loc,s):=rfl
theorem es_brk:evS Φ Λ G (.brk p) loc σ=some (.brk,loc,σ):=rfl
theorem es_cont:evS Φ Λ G (.cont p) loc σ=some (.cont,loc,σ):=rfl
theorem bind_name {i:Nat} {v:V}:bindT (.name i p) v loc σ=if i < loc.length then some (loc.set i (some v)) else none:=rfl
end
end Mine
namespace Mine
open PySem
section
variable {α:Type} {B:Base} {A:Around} {F G:Lay} {σ σ':Sto} {s s' s'':Shared} {d:Nat} {v:V} {x:Value} {gt tb:List Str} {env:Env}
theorem Cn.push {P:α→Lay→Shared→Prop} {o:Obj} {a:α} (h:Cn B F { s with heap:=s.heap.push o } P a s''):Cn B F s P a s'':=by
 refine x1_2 (h) fun G T p=>?_
 refine ⟨G,⟨fun b o' e n=>T.kept b o' (Heap.get?_push_of_some o e) n,fun b hb=>?_⟩,p⟩
 cases q:s.heap.get? b with
 | none=>rfl
 | some o' =>
  have:=Heap.get?_push_of_some o q
  rw [T.fresh b hb] at this; exact noS this
theorem up {α:Type} {P:α→Lay→Shared→Prop} {t:Sem α} {s₀:Shared} (hi:HasInv B P) (T:Step B F s G s') (h:wpAny (model B.prog B.w) A t (Cn B (F++G) s' P) Bot s₀):wpAny (model B.prog B.w) A t (Cn B F s P) Bot s₀:=wpAny_mono h (fun ζ ζ q=>q.back hi T) fun ζ ζ z=>z
theorem test_is {r:Option (V × Sto)} {b:Bool} (h:asB (fin true r)=some (b,σ')):∃ v,r=some (v,σ')∧truth σ' v=some b:=by
 refine x1_2 (bind_is h) ?_
 (try clear h)
 intro p h e
 refine x1_2 (bind_is (show (r.bind fun p=>(truth p.2 p.1).map fun b=>(V.bool b,p.2))=some p from h)) ?_
 (try clear h)
 intro q hq_233 h
 apply q1 hq_233
 refine x1_2 (map_is h) fun c et hq_234=>?_
 subst hq_234
 cases e
 exact ⟨q.1,rfl,et⟩
theorem test_def {e:Expr} {r:Option (V × Sto)} {b:Bool} (he:PySem.isTrue e env (eval e env)=(do let v ← eval e env; standAt e.pos; holding [v] (truthy v))) (h:∀ v σ',r=some (v,σ')→EvT B A F s (eval e env) (PE B σ' v))
  (hb:asB (fin true r)=some (b,σ')):EvT B A F s (PySem.isTrue e env (eval e env)) (PB B σ' b):=by
 refine x1_2 (test_is hb) fun v er et=>?_
 exact wpAny_isTrue_value (seqK (hasB _ _ _) (h v _ er) fun x G s₁ T p=>truth_ok p.1 p.2 et) he
end
section
variable {B:Base} {A:Around} {d:Nat} {Φ:Calls} {Λ:Lexer} {Gv:Nat→Option V} {gt:List Str} {mk:Me→Nat} {kws:Nat→Str→Bool} (K:Kit B A d Φ Λ Gv gt mk kws) (tb:List Str)
noncomputable def JE (B:Base) (A:Around) (Φ:Calls) (Λ:Lexer) (Gv:Nat→Option V) (gt tb:List Str) (kws:Nat→Str→Bool) (e:E):Prop :=
 ∀ vis wv gl env loc F σ s,wfE gt tb kws Gv vis gl e=true→ER B gt tb vis wv gl env→Inv B F σ s→LR B tb vis env F loc s.heap →
  (∀ v σ',evM Φ Λ Gv e false loc σ=some (v,σ')→EvT B A F s (eval (toE gt tb e) env) (PE B σ' v)) ∧
  (∀ b σ',asB (evM Φ Λ Gv e true loc σ)=some (b,σ')→EvT B A F s (PySem.isTrue (toE gt tb e) env (eval (toE gt tb e) env)) (PB B σ' b))
theorem JE.by {e:E} (hf:∀ loc σ m,evM Φ Λ Gv e m loc σ=fin m (evM Φ Λ Gv e false loc σ))
  (he:∀ env,PySem.isTrue (toE gt tb e) env (eval (toE gt tb e) env)=(do let v ← eval (toE gt tb e) env; standAt (toE gt tb e).pos; holding [v] (truthy v)))
  (h:∀ vis wv gl env loc F σ s,wfE gt tb kws Gv vis gl e=true→ER B gt tb vis wv gl env→Inv B F σ s→LR B tb vis env F loc s.heap→∀ v σ',evM Φ Λ Gv e false loc σ=some (v,σ')→EvT B A F s (eval (toE gt tb e) env) (PE B σ' v)) :
  JE B A Φ Λ Gv gt tb kws e:=fun vis wv gl env loc F σ s hw R I L =>
 ⟨h vis wv gl env loc F σ s hw R I L,fun b σ' q=>test_def (he env) (h vis wv gl env loc F σ s hw R I L) ((congrArg asB (hf loc σ true)).symm.trans q)⟩
noncomputable def JEL (B:Base) (A:Around) (Φ:Calls) (Λ:Lexer) (Gv:Nat→Option V) (gt tb:List Str) (kws:Nat→Str→Bool) (es:EL):Prop :=
 ∀ vis wv gl env loc F σ s,wfEL gt tb kws Gv vis gl es=true→ER B gt tb vis wv gl env→Inv B F σ s→LR B tb vis env F loc s.heap →
  (∀ pos vs σ',evEL Φ Λ Gv es loc σ=some (vs,σ')→EvT B A F s (spliced (backTo pos (starEach (toEL gt tb es) env))) (PEs B σ' vs)) ∧
  (∀ op b σ',evB Φ Λ Gv op es loc σ=some (b,σ')→EvT B A F s (allTrue op (toEL gt tb es) env) (PB B σ' b)) ∧
  (∀ pos op v σ',evBV Φ Λ Gv op es loc σ=some (v,σ')→EvT B A F s (boolOp pos op (evalEach (toEL gt tb es) env)) (PE B σ' v)) ∧
  (∀ b σ',evIfs Φ Λ Gv es loc σ=some (b,σ')→EvT B A F s (forIn (toEL gt tb es) true (ifsBody env)) (PB B σ' b))
noncomputable def JO (B:Base) (A:Around) (Φ:Calls) (Λ:Lexer) (Gv:Nat→Option V) (gt tb:List Str) (kws:Nat→Str→Bool) (o:OE):Prop :=
 ∀ vis wv gl env loc F σ s,wfO gt tb kws Gv vis gl o=true→ER B gt tb vis wv gl env→Inv B F σ s→LR B tb vis env F loc s.heap →
  ∀ v σ',evO Φ Λ Gv o loc σ=some (v,σ')→EvT B A F s (evalPart (toOE gt tb o) env) (PE B σ' v)
theorem vis_mem {vis:List (Nat × Bool)} {i:Nat} (h:vis.any (·.1==i)=true):∃ c,(i,c)∈vis:=by
 refine xP1_2 (List.any_eq_true.mp h) fun j c hm e=>?_
 have:j=i:=eq_of_beq e
 subst this; exact ⟨c,hm⟩
include K in
theorem je_var (i:Nat) (p:Pos):JE B A Φ Λ Gv gt tb kws (.var i p):=by
 refine .by tb (fun ζ ζ ζ=>rfl) (fun ζ=>rfl) ?_
 intro vis wv gl env loc F σ s hw R I L v σ' e
 refine x1_2 (bind_is (ev_var.symm.trans e)) ?_
 (try clear e)
 intro o q e
 refine x1_2 (map_is e) ?_
 (try clear e)
 intro u hq_235 e
 subst hq_235
 cases e
 refine x1_1 (vis_mem hw) fun c hc=>?_
 exact wpAny_Name (var_ok R L hc q fun x r=>evRet I r) (R.dbg i c hc).1
include K in
theorem je_glob (g:Nat) (p:Pos):JE B A Φ Λ Gv gt tb kws (.glob g p):=by
 refine .by tb (fun ζ ζ ζ=>rfl) (fun ζ=>rfl) ?_
 intro vis wv gl env loc F σ s hw R I L v σ' e
 have e:=ev_glob.symm.trans e
 refine x1_2 (map_is e) ?_
 (try clear e)
 intro u q e
 apply p2 e
 exact glob_ok K.bok K.gr I R (List.contains_iff_mem.mp hw) q fun x r=>evRet I r
include K in
theorem je_bin {a b:E} (ha:JE B A Φ Λ Gv gt tb kws a) (hb:JE B A Φ Λ Gv gt tb kws b) (op:Operator) (p:Pos):JE B A Φ Λ Gv gt tb kws (.bin op a b p):=by
 refine .by tb (fun ζ ζ ζ=>rfl) (fun ζ=>rfl) ?_
 intro vis wv gl env loc F σ s hw R I L v σ' e
 have e:=ev_bin.symm.trans e
 have hw:=bA1 hw
 refine xP1_2 (bind_is e) ?_; (try clear e); intro va σ₁ ea e
 refine xP1_2 (bind_is e) ?_; (try clear e); intro vb σ₂ eb e
 refine wpAny_BinOp (((ha vis wv gl env loc F σ s hw.1 R I L).1 va σ₁ ea).seq fun x G₁ s₁ T₁ p₁=>?_)
 refine ((hb vis wv gl env loc _ σ₁ s₁ hw.2 R p₁.1 (L.step I T₁)).1 vb σ₂ eb).seq fun y G₂ s₂ T₂ p₂=>?_
 exact up (hasE _ _ _) T₁ (up (hasE _ _ _) T₂ (bin_ok K.room p₂.1 (p₁.2.step (T₂.imk p₁.1)) p₂.2 e))
include K in
theorem je_neg {a:E} (ha:JE B A Φ Λ Gv gt tb kws a) (p:Pos):JE B A Φ Λ Gv gt tb kws (.neg a p):=by
 refine .by tb (fun ζ ζ ζ=>rfl) (fun ζ=>rfl) ?_
 intro vis wv gl env loc F σ s hw R I L v σ' e
 refine xP1_2 (bind_is (ev_neg.symm.trans e)) ?_; (try clear e); intro va σ₁ ea e
 refine x1_2 (map_is e) ?_
 (try clear e)
 intro i hi e
 apply p2 e
 refine wpAny_UnaryOp (seqK (hasE _ _ _) ((ha vis wv gl env loc F σ s hw R I L).1 _ _ ea) fun x G₁ s₁ T₁ p₁=>?_)
 refine x1_1 (p₁.2.ofInt hi) fun t hq_236=>?_
 apply q1 hq_236
 exact PySem.P.neg_int (evTok _ p₁.1 (.int _ _))
theorem cmp_test {B:Base} {A:Around} {F:Lay} {σ:Sto} {s:Shared} {c:Bool} {x:Value} (p:PE B σ (.bool c) x F s):EvT B A F s (truthy x) (PB B σ c):=truth_ok p.1 p.2 rfl
theorem no_marks {e:E} (h:∀ x,e≠.raw x) (op:CmpOp):behindInMarks op (toE gt tb e)=false:=by
 cases e <;> first | rfl | exact absurd rfl (h _)
include K in
theorem cmp_main {a b:E} (ha:JE B A Φ Λ Gv gt tb kws a) (hb:JE B A Φ Λ Gv gt tb kws b) {op:CmpOp} {p:Pos} {vis wv gl env loc F σ s} (hw:wfE gt tb kws Gv vis gl (.cmp op a b p)=true) (R:ER B gt tb vis wv gl env) (I:Inv B F σ s) (L:LR B tb vis env F loc s.heap) {v:V} {σ':Sto} (e:evM Φ Λ Gv (.cmp op a b p) false loc σ=some (v,σ')):(∃ c,v=.bool c) ∧
   wpAny (model B.prog B.w) A (eval (toE gt tb a) env) (fun x s₁=>wpAny (model B.prog B.w) A (eval (toE gt tb b) env) (fun y s₂=>wpAny (model B.prog B.w) A (compareOp op x y) (Cn B F s (PE B σ' v)) Bot s₂) Bot s₁) Bot s:=by
 have hw:=bA1 hw
 refine xP1_2 (bind_is (ev_cmp.symm.trans e)) ?_; (try clear e); intro va σ₁ ea e
 refine xP1_2 (bind_is e) ?_; (try clear e); intro vb σ₂ eb e
 refine x1_2 (map_is e) ?_
 (try clear e)
 intro c' ec e
 apply p2 e
 refine ⟨⟨_,rfl⟩,((ha vis wv gl env loc F σ s hw.1 R I L).1 va σ₁ ea).seq fun x G₁ s₁ T₁ p₁=>?_⟩
 refine ((hb vis wv gl env loc _ σ₁ s₁ hw.2 R p₁.1 (L.step I T₁)).1 vb _ eb).seq fun y G₂ s₂ T₂ p₂=>?_
 exact up (hasE _ _ _) T₁ (up (hasE _ _ _) T₂ (cmp_ok K.room p₂.1 (p₁.2.step (T₂.imk p₁.1)) p₂.2 ec))
include K in
theorem je_cmp {a b:E} (ha:JE B A Φ Λ Gv gt tb kws a) (hb:JE B A Φ Λ Gv gt tb kws b) (op:CmpOp) (p:Pos):JE B A Φ Λ Gv gt tb kws (.cmp op a b p):=by
 intro vis wv gl env loc F σ s hw R I L
 have hm:=no_marks (gt:=gt) tb (wf_raw (bA1 hw).2) op
 refine ⟨fun v σ' e=>?_,fun bb σ' e=>?_⟩
 ·exact wpAny_Compare1 (cmp_main K tb ha hb hw R I L e).2 hm
 ·refine x1_2 (test_is (r:=evM Φ Λ Gv (.cmp op a b p) false loc σ) e) fun v er et=>?_
  obtain ⟨⟨c,rfl⟩,h⟩:=cmp_main K tb ha hb hw R I L er
  apply s1 et
  refine wpAny_isTrue_Compare1 (wpAny_mono h (fun x s₁ h₁=>wpAny_mono h₁ (fun y s₂ h₂=>wpAny_mono h₂ (fun z s₃ ⟨G,T,q⟩=>?_) fun ζ ζ z=>z) fun ζ ζ z=>z) fun ζ ζ z=>z) hm
  exact up (hasB _ _ _) T (cmp_test q)
end
end Mine
namespace Mine
open PySem
section
variable {B:Base} {A:Around} {d:Nat} {Φ:Calls} {Λ:Lexer} {Gv:Nat→Option V} {gt:List Str} {mk:Me→Nat} {kws:Nat→Str→Bool} (K:Kit B A d Φ Λ Gv gt mk kws) (tb:List Str)
theorem bind_some {α β:Type} {o:Option α} {f:α→Option β} {x:α} {y:β} (h:o=some x) (e:f x=some y):o.bind f=some y:=by rw [h]; exact e
theorem Cn.here {α:Type} {F:Lay} {s:Shared} {P:α→Lay→Shared→Prop} {a:α} (p:P a F s):Cn B F s P a s:=⟨[],.refl _ _ _,by rw [List.append_nil]; exact p⟩
theorem je_cnone (p:Pos):JE B A Φ Λ Gv gt tb kws (.cnone p) :=
 .by tb (fun ζ ζ ζ=>rfl) (fun ζ=>rfl) fun vis wv gl env loc F σ s hw R I L v σ' e=>by
  apply s2 e; exact wpAny_Constant_none (evRet I .none)
theorem je_cbool (b:Bool) (p:Pos):JE B A Φ Λ Gv gt tb kws (.cbool b p) :=
 .by tb (fun ζ ζ ζ=>rfl) (fun ζ=>rfl) fun vis wv gl env loc F σ s hw R I L v σ' e=>by
  apply s2 e; exact wpAny_Constant_bool (evRet I (.bool b))
theorem je_cint (i:Int) (p:Pos):JE B A Φ Λ Gv gt tb kws (.cint i p) :=
 .by tb (fun ζ ζ ζ=>rfl) (fun ζ=>rfl) fun vis wv gl env loc F σ s hw R I L v σ' e=>by
  apply s2 e; exact wpAny_Constant_int (evTok _ I (.int i _))
theorem je_cstr (l:List Nat) (p:Pos):JE B A Φ Λ Gv gt tb kws (.cstr l p) :=
 .by tb (fun ζ ζ ζ=>rfl) (fun ζ=>rfl) fun vis wv gl env loc F σ s hw R I L v σ' e=>by
  apply s2 e; exact wpAny_Constant_str (evTok _ I (.str _ rfl (of_decide_eq_true hw)))
theorem JE.no {e:E} {x:Expr} (h:e=.raw x):JE B A Φ Λ Gv gt tb kws e:=by
 intro vis wv gl env loc F σ s hw
 exact absurd h (wf_raw hw x)
include K in
theorem je_cmp2 {a b c:E} (ha:JE B A Φ Λ Gv gt tb kws a) (hb:JE B A Φ Λ Gv gt tb kws b) (hc:JE B A Φ Λ Gv gt tb kws c) (op op':CmpOp) (p:Pos):JE B A Φ Λ Gv gt tb kws (.cmp2 op op' a b c p):=by
 intro vis wv gl env loc F σ s hw R I L
 refine ⟨fun v σ' e=>(by cases e),fun bb σ' e=>?_⟩
 have hw:=bA2 hw
 refine x1_2 (bind_is e) ?_
 (try clear e)
 intro w e ew
 refine xP1_2 (bind_is (evT_cmp2.symm.trans e)) ?_; (try clear e); intro va σ₁ ea e
 refine xP1_2 (bind_is e) ?_; (try clear e); intro vb σ₂ eb e
 refine x1_2 (bind_is e) ?_
 (try clear e)
 intro cc ec e
 refine PyProof.Rows.isTrue_chain (((ha vis wv gl env loc F σ s hw.1.1 R I L).1 va σ₁ ea).seq fun x G₁ s₁ T₁ p₁=>?_) (no_marks tb (wf_raw hw.2) op')
 have L₁:=L.step I T₁
 refine PyProof.Rows.test_link (((hb vis wv gl env loc _ σ₁ s₁ hw.1.2 R p₁.1 L₁).1 vb σ₂ eb).seq fun y G₂ s₂ T₂ p₂=>?_)
 refine (cmp_ok K.room p₂.1 (p₁.2.step (T₂.imk p₁.1)) p₂.2 ec).seq fun z G₃ s₃ T₃ p₃=>(cmp_test p₃).seq fun tt G₄ s₄ T₄ p₄=>?_
 have T₃₄:=T₃.trans T₄ p₄.1
 rw [p₄.2]
 have I₄:=p₄.1
 rw [List.append_assoc] at I₄
 cases cc with
 | false =>
  rw [if_neg (by decide)] at e ⊢
  cases e; cases ew
  exact (((Cn.here (P:=PB B _ false) ⟨I₄,rfl⟩).back (hasB _ _ _) T₃₄).back (hasB _ _ _) T₂).back (hasB _ _ _) T₁
 | true =>
  rw [if_pos rfl] at e ⊢
  refine xP1_2 (bind_is e) ?_; (try clear e); intro vz σ₃ ez e
  refine x1_2 (map_is e) fun u eu hq_237=>?_
  subst hq_237
  cases ew
  refine PyProof.Rows.test_last (((hc vis wv gl env loc _ σ₂ s₄ hw.2 R I₄ ((L₁.step p₁.1 T₂).step p₂.1 T₃₄)).1 vz _ ez).seq fun q G₅ s₅ T₅ p₅=>?_)
  refine (cmp_ok K.room p₅.1 ((p₂.2.step (T₃₄.imk p₂.1)).step (T₅.imk I₄)) p₅.2 eu).seq fun q G₆ s₆ T₆ p₆=>?_
  exact up (hasB _ _ _) T₁ (up (hasB _ _ _) T₂ (up (hasB _ _ _) T₃₄ (up (hasB _ _ _) T₅ (up (hasB _ _ _) T₆ (cmp_test p₆)))))
theorem je_boolop {es:EL} (hs:JEL B A Φ Λ Gv gt tb kws es) (op:BoolOp) (p:Pos):JE B A Φ Λ Gv gt tb kws (.boolop op es p):=by
 intro vis wv gl env loc F σ s hw R I L
 refine x0_4 (hs vis wv gl env loc F σ s hw R I L) fun ζ h2 h3 ζ=>?_
 refine ⟨fun v σ' e=>?_,fun bb σ' e=>?_⟩
 ·show EvT B A F s (eval (.BoolOp op (toEL gt tb es) p) env) _
  rw [arm_eval_BoolOp]
  exact h3 p op v σ' e
 ·refine x1_2 (bind_is e) ?_
  (try clear e)
  intro w e ew
  refine x1_2 (map_is (evT_boolop.symm.trans e)) fun c q hq_238=>?_
  subst hq_238
  cases ew
  exact wpAny_isTrue_BoolOp (h2 op _ _ q)
theorem je_ife {t a b:E} (ht:JE B A Φ Λ Gv gt tb kws t) (ha:JE B A Φ Λ Gv gt tb kws a) (hb:JE B A Φ Λ Gv gt tb kws b) (p:Pos):JE B A Φ Λ Gv gt tb kws (.ife t a b p):=by
 intro vis wv gl env loc F σ s hw R I L
 have hw:=bA2 hw
 refine ⟨fun v σ' e=>?_,fun bb σ' e=>?_⟩
 ·refine xP1_2 (bind_is (ev_ife.symm.trans e)) ?_; (try clear e); intro c σ₁ et e
  refine wpAny_IfExp (((ht vis wv gl env loc F σ s hw.1.1 R I L).2 c σ₁ et).seq fun c' G₁ s₁ T₁ p₁=>?_)
  refine x0_2 (p₁) fun I₁ hq_239=>?_
  subst hq_239
  cases c' with
  | true=>exact up (hasE _ _ _) T₁ ((ha vis wv gl env loc _ σ₁ s₁ hw.1.2 R I₁ (L.step I T₁)).1 v σ' e)
  | false=>exact up (hasE _ _ _) T₁ ((hb vis wv gl env loc _ σ₁ s₁ hw.2 R I₁ (L.step I T₁)).1 v σ' e)
 ·refine x1_2 (bind_is (evT_ife.symm.trans e)) ?_
  (try clear e)
  intro w e ew
  refine xP1_2 (bind_is e) ?_; (try clear e); intro c σ₁ et e
  show wpAny _ _ (PySem.isTrue (.IfExp (toE gt tb t) (toE gt tb a) (toE gt tb b) p) env _) _ _ _
  rw [arm_isTrue_IfExp]
  refine wpAny_bind (((ht vis wv gl env loc F σ s hw.1.1 R I L).2 c σ₁ et).seq fun c' G₁ s₁ T₁ p₁=>?_)
  refine x0_2 (p₁) fun I₁ hq_240=>?_
  subst hq_240
  cases c' with
  | true=>exact up (hasB _ _ _) T₁ ((ha vis wv gl env loc _ σ₁ s₁ hw.1.2 R I₁ (L.step I T₁)).2 bb σ' (bind_some e ew))
  | false=>exact up (hasB _ _ _) T₁ ((hb vis wv gl env loc _ σ₁ s₁ hw.2 R I₁ (L.step I T₁)).2 bb σ' (bind_some e ew))
theorem jel_nil:JEL B A Φ Λ Gv gt tb kws .nil:=by
 intro vis wv gl env loc F σ s hw R I L
 refine ⟨fun pos vs σ' e=>?_,fun op b σ' e=>?_,fun pos op v σ' e=>(by cases e),fun b σ' e=>?_⟩
 ·apply s2 e; exact Calls.spliced_nil (Cn.here (P:=PEs B _ []) ⟨I,.nil⟩)
 ·apply s2 e; exact wpAny_pure (Cn.here (P:=PB B _ _) ⟨I,rfl⟩)
 ·apply s2 e
  show wpAny _ _ (forIn [] true (ifsBody env)) _ _ s
  rw [List.forIn_nil]
  exact wpAny_pure (Cn.here (P:=PB B _ _) ⟨I,rfl⟩)
theorem ifs_false {M:Model} {s:Shared} {env:Env} {E:Value→Shared→Prop} {Q:Bool→Shared→Prop} (h:Q false s):∀ l:List Expr,wpAny M A (forIn l false (ifsBody env)) Q E s
 | []=>by rw [List.forIn_nil]; exact wpAny_pure h
 | c :: l=>by
  rw [List.forIn_cons]
  unfold ifsBody
  rw [if_neg (by decide)]
  exact wpAny_bind (wpAny_pure (ifs_false h l))
theorem all_cons {M:Model} {s:Shared} {env:Env} {E:Value→Shared→Prop} {op:BoolOp} {x:Expr} {r:List Expr} {Q:Bool→Shared→Prop} (h:wpAny M A (PySem.isTrue x env (eval x env)) (fun c s₁=>if (op==.And)=c then wpAny M A (allTrue op r env) Q E s₁ else Q c s₁) E s):wpAny M A (allTrue op (x :: r) env) Q E s:=by
 cases op with
 | And=>exact wpAny_allTrue_And_cons (wpAny_mono h (fun c s₁ h=>by cases c <;> exact h) fun ζ ζ z=>z)
 | Or=>exact wpAny_allTrue_Or_cons (wpAny_mono h (fun c s₁ h=>by cases c <;> exact h) fun ζ ζ z=>z)
theorem bool_cons {M:Model} {s:Shared} {E:Value→Shared→Prop} {op:BoolOp} {pos:Pos} {t t':Sem Value} {r:List (Sem Value)} {Q:Value→Shared→Prop} (h:wpAny M A t (fun x s₁=>wpAny M A (truthy x) (fun c s₂=>if (op==.And)=c then wpAny M A (boolOp pos op (t' :: r)) Q E s₂ else Q x s₂) E s₁) E s):wpAny M A (boolOp pos op (t :: t' :: r)) Q E s:=by
 show wpAny M A (do
  let v ← t
  standAt pos
  let t ← holding [v] (truthy v)
  match op,t with
  | .And,false | .Or,true=>pure v
  | _,_=>boolOp pos op (t' :: r)) Q E s
 refine wpAny_bind (wpAny_mono h (fun x s₁ h₁=>wpAny_bind (wpAny_standAt (wpAny_bind (wpAny_holding (wpAny_mono h₁ (fun c s₂ h₂=>?_) fun ζ ζ z=>z))))) fun ζ ζ z=>z)
 cases op <;> cases c <;> first | exact h₂ | exact wpAny_pure h₂
theorem jel_cons {a:E} {es:EL} (ha:JE B A Φ Λ Gv gt tb kws a) (hs:JEL B A Φ Λ Gv gt tb kws es):JEL B A Φ Λ Gv gt tb kws (.cons a es):=by
 intro vis wv gl env loc F σ s hw R I L
 have hw:=bA1 hw
 have hA:=ha vis wv gl env loc F σ s hw.1 R I L
 have hS:=fun {G σ₁ s₁} (T:Step B F s G s₁) (I₁:Inv B (F++G) σ₁ s₁)=>hs vis wv gl env loc (F++G) σ₁ s₁ hw.2 R I₁ (L.step I T)
 refine ⟨fun pos vs σ' e=>?_,fun op b σ' e=>?_,fun pos op v σ' e=>?_,fun b σ' e=>?_⟩
 ·refine xP1_2 (bind_is (evEL_cons.symm.trans e)) ?_; (try clear e); intro va σ₁ ea e
  refine xP1_2 (map_is e) ?_; (try clear e); intro vs' σ₂ es' e
  apply p2 e
  show EvT B A F s (spliced (backTo pos (starEach (toE gt tb a :: toEL gt tb es) env))) _
  rw [star_cons a (wf_raw hw.1),back_cons]
  refine Calls.spliced_cons ((hA.1 va σ₁ ea).seq fun x G₁ s₁ T₁ p₁=>((hS T₁ p₁.1).1 pos vs' _ es').seq fun xs G₂ s₂ T₂ p₂=>?_)
  exact ((Cn.here (P:=PEs B _ (va :: vs')) ⟨p₂.1,.cons (p₁.2.step (T₂.imk p₁.1)) p₂.2⟩).back (hasEs _ _ _) T₂).back (hasEs _ _ _) T₁
 ·refine xP1_2 (bind_is (evB_cons.symm.trans e)) ?_; (try clear e); intro c σ₁ ea e
  refine all_cons ((hA.2 c σ₁ ea).seq fun c' G₁ s₁ T₁ p₁=>?_)
  rw [p₁.2]
  by_cases hc:(op==.And)=c
  ·rw [if_pos hc] at e ⊢
   exact up (hasB _ _ _) T₁ ((hS T₁ p₁.1).2.1 op b σ' e)
  ·rw [if_neg hc] at e ⊢
   apply s2 e; exact ⟨G₁,T₁,p₁.1,rfl⟩
 ·refine xP1_2 (bind_is (evBV_cons.symm.trans e)) ?_; (try clear e); intro va σ₁ ea e
  cases es with
  | nil=>apply s2 e; exact hA.1 _ _ ea
  | cons a2 es2 =>
   refine x1_2 (bind_is (show ((boolV va).bind fun b=>if (op==.And)=b then evBV Φ Λ Gv op (.cons a2 es2) loc σ₁ else some (va,σ₁))=some (v,σ') from e)) ?_
   (try clear e)
   intro c hc e
   have hv:=boolV_is hc
   subst hv
   refine bool_cons ((hA.1 _ σ₁ ea).seq fun x G₁ s₁ T₁ p₁=>(cmp_test p₁).seq fun tt G₂ s₂ T₂ p₂=>?_)
   have T:=T₁.trans T₂ p₂.1
   have I₂:=p₂.1
   rw [List.append_assoc] at I₂
   rw [p₂.2]
   by_cases hc:(op==.And)=c
   ·rw [if_pos hc] at e ⊢
    exact up (hasE _ _ _) T ((hS T I₂).2.2.1 pos op v σ' e)
   ·rw [if_neg hc] at e ⊢
    apply s2 e
    exact ((Cn.here (P:=PE B _ (.bool c)) ⟨p₂.1,p₁.2.step (T₂.imk p₁.1)⟩).back (hasE _ _ _) T₂).back (hasE _ _ _) T₁
 ·refine xP1_2 (bind_is (evIfs_cons.symm.trans e)) ?_; (try clear e); intro c σ₁ ea e
  show wpAny _ _ (forIn (toE gt tb a :: toEL gt tb es) true (ifsBody env)) _ _ s
  rw [List.forIn_cons]
  unfold ifsBody
  rw [if_pos rfl]
  refine wpAny_bind (wpAny_bind ((hA.2 c σ₁ ea).seq fun c' G₁ s₁ T₁ p₁=>wpAny_pure ?_))
  rw [p₁.2]
  cases c with
  | true=>exact up (hasB _ _ _) T₁ ((hS T₁ p₁.1).2.2.2 b σ' e)
  | false=>apply s2 e; exact ifs_false ⟨G₁,T₁,p₁.1,rfl⟩ _
end
end Mine
namespace Mine
open PySem
theorem evEL_len {Φ:Calls} {Λ:Lexer} {Gv:Nat→Option V}:∀ {es:EL} {loc:Loc} {σ σ':Sto} {vs:List V},evEL Φ Λ Gv es loc σ=some (vs,σ')→vs.length=es.len
 | .nil,_,_,_,_,e=>by cases e; rfl
 | .cons a es,loc,σ,σ',vs,e=>by
  refine x1_2 (bind_is (evEL_cons.symm.trans e)) ?_
  (try clear e)
  intro p _ e
  refine x1_2 (map_is e) ?_
  (try clear e)
  intro q h e
  apply p2 e
  exact congrArg Nat.succ (evEL_len h)
section
variable {B:Base} {A:Around} {d:Nat} {Φ:Calls} {Λ:Lexer} {Gv:Nat→Option V} {gt:List Str} {mk:Me→Nat} {kws:Nat→Str→Bool} (K:Kit B A d Φ Λ Gv gt mk kws) (tb:List Str)
theorem VR.along {F G:Lay} {σ:Sto} {s s':Shared} {v:V} {x:Value} (r:VR B.fa s.heap F v x) (I:Inv B F σ s) (T:Step B F s G s'):VR B.fa s'.heap (F++G) v x:=r.step (T.imk I)
theorem VRs.along {F G:Lay} {σ:Sto} {s s':Shared} {v:List V} {x:List Value} (r:VRs B.fa s.heap F v x) (I:Inv B F σ s) (T:Step B F s G s'):VRs B.fa s'.heap (F++G) v x:=r.step (T.imk I)
theorem je_list (cell:Bool) {es:EL} (hs:JEL B A Φ Λ Gv gt tb kws es) (p:Pos):JE B A Φ Λ Gv gt tb kws (.list cell es p):=by
 refine .by tb (fun ζ ζ ζ=>rfl) (fun ζ=>rfl) ?_
 intro vis wv gl env loc F σ s hw R I L v σ' e
 refine xP1_2 (bind_is (ev_list.symm.trans e)) ?_; (try clear e); intro vs σ₁ es' e
 refine x0_2 (ite_is e) ?_
 (try clear e)
 intro hz e
 have hv:v=(newL cell vs σ₁).1:=congrArg Prod.fst e.symm
 have hs':σ'=(newL cell vs σ₁).2:=congrArg Prod.snd e.symm
 rw [hv,hs']
 exact wpAny_List_spliced (((hs vis wv gl env loc F σ s (bA1 hw).1 R I L).1 p vs _ es').seq fun xs G₁ s₁ T₁ p₁=>⟨by rw [← p₁.2.length]; exact len_line hz,Cn.back (hasE _ _ _) T₁ (evNew cell (items:=xs.toArray) (tk:=s₁.toks) p₁.1 p₁.2 hz)⟩)
theorem je_tup {es:EL} (hs:JEL B A Φ Λ Gv gt tb kws es) (p:Pos):JE B A Φ Λ Gv gt tb kws (.tup es p):=by
 refine .by tb (fun ζ ζ ζ=>rfl) (fun ζ=>rfl) ?_
 intro vis wv gl env loc F σ s hw R I L v σ' e
 have e:=ev_tup.symm.trans e
 have hw:_∧_:=⟨(bA1 hw).1,of_decide_eq_true (bA1 hw).2⟩
 refine xP1_2 (map_is e) ?_; (try clear e); intro vs σ₁ es' e
 apply p2 e
 have hl:=evEL_len es'
 refine wpAny_Tuple_spliced (((hs vis wv gl env loc F σ s hw.1 R I L).1 p vs _ es').seq fun xs G₁ s₁ T₁ p₁=>⟨?_,?_⟩)
 ·rw [← p₁.2.length,hl]; exact Nat.le_trans hw.2 (by decide)
 ·refine Cn.back (hasE _ _ _) T₁ ?_
  exact evPush (tk:=s₁.toks) p₁.1 (.tup (items:=xs.toArray) (n:=0) (Heap.get?_push_size _ rfl) (p₁.2.step (.push _ _ _)) (by rw [hl]; exact Nat.le_trans hw.2 (by decide)))
theorem VR.ofIter {fa:Nat→Addr} {h:Heap} {F:Lay} {v:V} {x:Value} (r:VR fa h F v x) (e:isIter v=true):x=.builtin "iter":=by
 cases v with
 | bi b=>cases b <;> first | exact r.bi_is | exact noT e
 | _=>exact noT e
theorem no_slice {b:E} (h:∀ x,b≠.raw x) (x y:Value):subscripted (toE gt tb b) false x y=operate [x,y] (getItem x y):=by
 cases b <;> first | rfl | exact absurd rfl (h _)
theorem je_sub {a b:E} (ha:JE B A Φ Λ Gv gt tb kws a) (hb:JE B A Φ Λ Gv gt tb kws b) (p:Pos):JE B A Φ Λ Gv gt tb kws (.sub a b p):=by
 refine .by tb (fun ζ ζ ζ=>rfl) (fun ζ=>rfl) ?_
 intro vis wv gl env loc F σ s hw R I L v σ' e
 have e:=ev_sub.symm.trans e
 have hw:=bA1 hw
 refine xP1_2 (bind_is e) ?_; (try clear e); intro va σ₁ ea e
 refine xP1_2 (bind_is e) ?_; (try clear e); intro vb σ₂ eb e
 refine x1_2 (map_is e) ?_
 (try clear e)
 intro u ec e
 apply p2 e
 refine PyProof.Rows.Subscript_ (((ha vis wv gl env loc F σ s hw.1 R I L).1 va σ₁ ea).seq fun x G₁ s₁ T₁ p₁=>?_)
 refine ((hb vis wv gl env loc _ σ₁ s₁ hw.2 R p₁.1 (L.step I T₁)).1 vb _ eb).seq fun y G₂ s₂ T₂ p₂=>?_
 obtain ⟨h1,T,id,hT,hl⟩:=sub_ok (A:=A) p₂.1 (p₁.2.step (T₂.imk p₁.1)) p₂.2 ec
 refine PyProof.Rows.tail_any (ops:=[x,y]) hT hl (up (hasE _ _ _) T₁ (up (hasE _ _ _) T₂ h1)) (no_slice tb (wf_raw hw.2) x y)
theorem jo_none:JO B A Φ Λ Gv gt tb kws .none:=by
 intro vis wv gl env loc F σ s hw R I L v σ' e
 apply s2 e
 exact wpAny_evalPart_none (evRet I .none)
theorem jo_some {a:E} (ha:JE B A Φ Λ Gv gt tb kws a):JO B A Φ Λ Gv gt tb kws (.some a):=by
 intro vis wv gl env loc F σ s hw R I L v σ' e
 exact wpAny_evalPart_some ((ha vis wv gl env loc F σ s hw R I L).1 v σ' e)
theorem je_slice {a:E} {lo hi st:OE} (ha:JE B A Φ Λ Gv gt tb kws a) (hl:JO B A Φ Λ Gv gt tb kws lo) (hh:JO B A Φ Λ Gv gt tb kws hi) (ht:JO B A Φ Λ Gv gt tb kws st) (q p:Pos):JE B A Φ Λ Gv gt tb kws (.slice a lo hi st q p):=by
 refine .by tb (fun ζ ζ ζ=>rfl) (fun ζ=>rfl) ?_
 intro vis wv gl env loc F σ s hw R I L v σ' e
 have e:=ev_slice.symm.trans e
 have hw:=bA3 hw
 refine xP1_2 (bind_is e) ?_; (try clear e); intro va σ₁ ea e
 refine xP1_2 (bind_is e) ?_; (try clear e); intro vl σ₂ el e
 refine xP1_2 (bind_is e) ?_; (try clear e); intro vh σ₃ eh e
 refine xP1_2 (bind_is e) ?_; (try clear e); intro vt σ₄ et e
 refine PyProof.Rows.Subscript_ (((ha vis wv gl env loc F σ s hw.1.1.1 R I L).1 va σ₁ ea).seq fun x G₁ s₁ T₁ p₁=>?_)
 have L₁:=L.step I T₁
 refine wpAny_Slice ((hl vis wv gl env loc _ σ₁ s₁ hw.1.1.2 R p₁.1 L₁ vl σ₂ el).seq fun xl G₂ s₂ T₂ p₂=>?_)
 have L₂:=L₁.step p₁.1 T₂
 refine (hh vis wv gl env loc _ σ₂ s₂ hw.1.2 R p₂.1 L₂ vh σ₃ eh).seq fun xh G₃ s₃ T₃ p₃=>?_
 have L₃:=L₂.step p₂.1 T₃
 refine (ht vis wv gl env loc _ σ₃ s₃ hw.2 R p₃.1 L₃ vt σ₄ et).seq fun xt G₄ s₄ T₄ p₄=>?_
 have ps:=fun (o:Obj)=>Mv.push (F++G₁++G₂++G₃++G₄) s₄.heap o
 have ra:=((p₁.2.along p₁.1 T₂).along p₂.1 T₃).along p₃.1 T₄
 have rl:=(p₂.2.along p₂.1 T₃).along p₃.1 T₄
 have rh:=p₃.2.along p₃.1 T₄
 obtain ⟨h1,T,id,hT,hlk⟩:=slice_ok (A:=A) (p₄.1.push { cls:=.type "slice",data:=.fields #[xl,xh,xt] } s₄.toks) (ra.step (ps _)) (rl.step (ps _)) (rh.step (ps _)) (p₄.2.step (ps _)) e (Heap.get?_push_size _ rfl)
 have fin:=up (hasE _ _ _) T₁ (up (hasE _ _ _) T₂ (up (hasE _ _ _) T₃ (up (hasE _ _ _) T₄ (wpAny_mono h1 (fun ζ ζ z=>Cn.push (o:={ cls:=.type "slice",data:=.fields #[xl,xh,xt] }) z) fun ζ ζ z=>z))))
 cases st with
 | none=>exact PyProof.Rows.tail_any (ops:=[.ref s₄.heap.objs.size,x]) hT hlk fin rfl
 | some st=>exact PyProof.Rows.tail_any (ops:=[x,.ref s₄.heap.objs.size]) hT hlk fin rfl
theorem no_kw {g k:Nat} (eg:Gv g=some (.fn k)) (h:(match Gv g with
  | some (.fn f)=>!kws f kwNm
  | _=>true)=true):kws k kwNm=false:=by
 rw [eg] at h
 exact (Bool.not_eq_true' _).mp h
theorem is_kw {g:Nat} {f:V} {nm:Str} (eg:Gv g=some f) (h:(match Gv g with
  | some (.fn f)=>kws f nm
  | _=>false)=true):∃ k,f=.fn k∧kws k nm=true:=by
 rw [eg] at h
 cases f with
 | fn k=>exact ⟨k,rfl,h⟩
 | _=>exact noT h
include K in
theorem je_call {g:Nat} {es:EL} {q:Pos} (hs:JEL B A Φ Λ Gv gt tb kws es) (p:Pos):JE B A Φ Λ Gv gt tb kws (.call g q es p):=by
 refine .by tb (fun ζ ζ ζ=>rfl) (fun ζ=>rfl) ?_
 intro vis wv gl env loc F σ s hw R I L v σ' e
 refine bB2 hw fun hg hes hkw=>?_
 refine x1_2 (bind_is (ev_call.symm.trans e)) ?_
 clear e
 intro f eg e
 refine xP1_2 (bind_is e) ?_
 clear e
 intro vs σ₁ es' e
 have hargs:=fun pos=>(hs vis wv gl env loc F σ s hes R I L).1 pos vs σ₁ es'
 refine PyProof.Rows.Call_Name rfl (glob_ok K.bok K.gr I R (List.contains_iff_mem.mp hg) eg fun x r=>?_)
 cases f with
 | fn k =>
  rw [r.fn_is]
  refine x2_3 (K.fn k vs σ₁ _ e) fun o fd h1 h2 h3=>?_
  refine Calls.callWith_function (o:=o) (fd:=fd) (evalArgs_any hes ((hargs p).seq fun xs G₁ s₁ T₁ p₁=>⟨⟨p₁.1.old.get_of_cls h1 h2,h3⟩,?_⟩))
  exact up (hasE _ _ _) T₁ (call_retR (K.phi _ (.refl _) _ _ _ _ _ _ _ _ (no_kw eg hkw) p₁.1 p₁.2 e))
 | bi b =>
  rw [r.bi_is]
  exact Calls.callWith_builtin (all_plain hes).2 (evalArgs_any hes ((hargs p).seq fun xs G₁ s₁ T₁ p₁=>up (hasE _ _ _) T₁ (callB_ok K.room p₁.1 p₁.2 e)))
 | ty t =>
  rw [r.ty_is]
  exact PyProof.Rows.callWith_type (all_plain hes).2 (evalArgs_any hes ((hargs p).seq fun xs G₁ s₁ T₁ p₁=>up (hasE _ _ _) T₁ (callT_ok K.room p₁.1 p₁.2 e)))
 | _=>exact noS e
include K in
theorem je_callkw {g:Nat} {es:EL} {a:E} {q:Pos} (hs:JEL B A Φ Λ Gv gt tb kws es) (ha:JE B A Φ Λ Gv gt tb kws a) (nm:Str) (q' p:Pos):JE B A Φ Λ Gv gt tb kws (.callkw g q es nm a q' p):=by
 refine .by tb (fun ζ ζ ζ=>rfl) (fun ζ=>rfl) ?_
 intro vis wv gl env loc F σ s hw R I L v σ' e
 refine bB4 hw fun hg hes hn hwa hk=>?_
 refine x1_2 (bind_is (ev_callkw.symm.trans e)) ?_
 clear e
 intro f eg e
 refine x1_2 (is_kw eg hk) ?_
 clear hk
 intro k hq hk
 subst hq
 refine xP1_2 (bind_is e) ?_
 clear e
 intro vs σ₁ es' e1
 refine xP1_2 (bind_is e1) ?_
 clear e1
 intro w σ₂ ea e2
 cases es with
 | nil=>exact noT hn
 | cons a1 es1 =>
  refine x2_3 (K.fn k (vs++[w]) σ₂ _ e2) fun o fd h1 h2 h3=>?_
  refine wpAny_Call_Name_kw (glob_ok K.bok K.gr I R (List.contains_iff_mem.mp hg) eg fun x r=>?_)
  rw [r.fn_is]
  refine PySem.callWith_function_kw (o:=o) (fd:=fd) ?_
  refine PyProof.Rows.evalArgs_kw2 (e:=toE gt tb a1) (rest:=toEL gt tb es1) rfl (((hs vis wv gl env loc F σ s hes R I L).1 p vs σ₁ es').seq fun xs G₁ s₁ T₁ p₁=>?_) (star_cons a1 (wf_raw (bA1 hes).1) _)
  refine PyProof.Rows.kwAll_cons (((ha vis wv gl env loc _ σ₁ s₁ hwa R p₁.1 (L.step I T₁)).1 w σ₂ ea).seq fun y G₂ s₂ T₂ p₂=>PyProof.Rows.kwAll_nil ⟨⟨p₂.1.old.get_of_cls h1 h2,h3⟩,?_⟩)
  exact up (hasE _ _ _) T₁ (up (hasE _ _ _) T₂ (K.kw _ _ _ _ _ _ _ _ _ _ _ hk p₂.1 (p₁.2.along p₁.1 T₂) p₂.2 e2))
theorem lex_cases {m:Me} (h:m.lex=true):m=.get_token∨m=.push_token∨m=.read_char:=by
 cases m <;> first | exact .inl rfl | exact .inr (.inl rfl) | exact .inr (.inr rfl) | exact noT h
include K in
theorem je_meth {a:E} {es:EL} (ha:JE B A Φ Λ Gv gt tb kws a) (hs:JEL B A Φ Λ Gv gt tb kws es) (m:Me) (q p:Pos):JE B A Φ Λ Gv gt tb kws (.meth a m es q p):=by
 refine .by tb (fun ζ ζ ζ=>rfl) (fun ζ=>rfl) ?_
 intro vis wv gl env loc F σ s hw R I L v σ' e
 have e:=ev_meth.symm.trans e
 refine x0_2 (bA4 hw) fun hw_244 hn=>?_
 refine x0_2 (hw_244) fun hw_245 h29=>?_
 obtain ⟨⟨hwa,hes⟩,hl⟩:=hw_245
 have h29:=of_decide_eq_true h29
 refine xP1_2 (bind_is e) ?_; (try clear e); intro va σ₁ ea e
 refine x1_2 (bind_is e) ?_
 (try clear e)
 intro k er e
 refine xP1_2 (bind_is e) ?_; (try clear e); intro vs σ₂ es' e
 refine meth_rule hn hes hl h29 (((ha vis wv gl env loc F σ s hwa R I L).1 va σ₁ ea).seq fun x G₁ s₁ T₁ p₁=>fun pl=>?_)
 have hargs:=fun pos=>(hs vis wv gl env loc _ σ₁ s₁ hes R p₁.1 (L.step I T₁)).1 pos vs σ₂ es'
 by_cases h2:k=2
 ·subst h2
  have e:(if m.lex then Λ m (va :: vs) σ₂ else none)=some (v,σ'):=e
  refine x0_2 (ite_of e) ?_
  (try clear e)
  intro hml e
  refine x1_1 (K.lex) fun KL OL=>?_
  refine get_ok OL p₁.1 p₁.2 er (lex_cases hml) ?_
  have eΦ:=K.lam _ _ _ _ hml e
  refine x2_3 (K.fn _ _ _ _ eΦ) fun o fd h1 h2 h3=>?_
  refine Calls.callWith_function (o:=o) (fd:=fd) (evalArgs_any hes ((hargs p).seq fun xs G₂ s₂ T₂ p₂=>⟨⟨p₂.1.old.get_of_cls h1 h2,h3⟩,?_⟩))
  exact up (hasE _ _ _) T₁ (up (hasE _ _ _) T₂ (call_retR (K.phi _ (.refl _) _ _ _ _ _ _ _ _ (K.mkw _) p₂.1 (.cons (p₁.2.along p₁.1 T₂) p₂.2) eΦ)))
 ·have e:methV va m vs σ₂=some (v,σ'):=(if_neg h2).symm.trans e
  refine x0_3 (recv_ok p₁.1 p₁.2 er h2) fun pa hT hd=>?_
  refine x0_3 (recv_now er h2 e) fun hr sl ty=>?_
  refine getMethod_builtin hT pa sl ty hd ?_
  refine Calls.callWith_builtin (all_plain hes).2 (evalArgs_any hes ((hargs p).seq fun xs G₂ s₂ T₂ p₂=>?_))
  exact up (hasE _ _ _) T₁ (up (hasE _ _ _) T₂ (meth_ok K.room p₂.1 (p₁.2.along p₁.1 T₂) p₂.2 hr e))
include K in
theorem je_attr {a:E} (ha:JE B A Φ Λ Gv gt tb kws a) (t:At) (p:Pos):JE B A Φ Λ Gv gt tb kws (.attr a t p):=by
 refine .by tb (fun ζ ζ ζ=>rfl) (fun ζ=>rfl) ?_
 intro vis wv gl env loc F σ s hw R I L v σ' e
 have e:=ev_attr.symm.trans e
 have hw:=bA1 hw
 refine xP1_2 (bind_is e) ?_; (try clear e); intro va σ₁ ea e
 refine x1_2 (map_is e) ?_
 (try clear e)
 intro u et e
 apply p2 e
 show wpAny _ _ (eval (.Attribute (toE gt tb a) t.nm p) env) _ _ _
 rw [arm_eval_Attribute]
 refine wpAny_bind (base_ok hw.2 (((ha vis wv gl env loc F σ s hw.1 R I L).1 va _ ea).seq fun x G₁ s₁ T₁ p₁=>?_))
 refine wpAny_bind (wpAny_standAt (wpAny_bind (wpAny_holding ?_)))
 refine x1_1 (K.lex) fun KL OL=>?_
 refine att_ok OL p₁.1 p₁.2 et fun y tk r=>?_
 exact wpAny_bind (wpAny_letTemporaryGo (wpAny_pure ⟨G₁,T₁.toks tk,p₁.1.toks tk,r⟩))
theorem fit_new {F:Lay} {σ:Sto} {s s':Shared} {i:Nat} {x:Addr} {xs:List Addr} {it bm:Addr} {tk:Tok} (I:Inv B F σ s) (I':Inv B F σ s') (k:∀ b o,s.heap.get? b=some o→s'.heap.get? b=some o) (ef:Fat F i (x :: xs)) (d1:s.heap.get? it=none) (d2:s.heap.get? bm=none) (ne:it≠bm)
  (h1:s'.heap.get? it=some { cls:=.type "callable_iterator",data:=.fields (citF false bm tk) }) (h2:s'.heap.get? bm=some { cls:=.type "method",data:=.fields #[.ref (B.fa B.lx.rd),.ref x] }):Cn B F s (PE B (σ++[.cit i false]) (.ref σ.length)) (.ref it) s':=by
 have d:∀ a∈[it,bm],s.heap.get? a=none:=by
  simp only [List.forall_mem_cons,List.not_mem_nil,false_implies,implies_true,and_true]; exact ⟨d1,d2⟩
 refine ⟨[[it,bm]],⟨.all k,fun a h=>d a (by simpa using h)⟩,I.newO I' (.of k) (fun a ζ ob e=>k a ob e) d (by simpa using ne) fun m=>⟨it,bm,x,xs,tk,rfl,m.kf _ _ ef,h1,h2⟩,.ref (as:=[bm]) ⟨I.size,?_⟩⟩
 rw [← I.len,List.getElem?_concat_length]
include K in
theorem je_fit {g:Nat} {a:E} (ha:JE B A Φ Λ Gv gt tb kws a) (q1 q2 q3 p:Pos):JE B A Φ Λ Gv gt tb kws (.fit g a q1 q2 q3 p):=by
 refine .by tb (fun ζ ζ ζ=>rfl) (fun ζ=>rfl) ?_
 intro vis wv gl env loc F σ s hw R I L v σ' e
 obtain ⟨⟨hg,hwa⟩,hn⟩:=bA2 hw
 refine x1_2 (bind_is (ev_fit.symm.trans e)) ?_
 (try clear e)
 intro f eg e
 refine x0_2 (ite_of e) ?_
 (try clear e)
 intro hf e
 refine xP1_2 (bind_is e) ?_; (try clear e); intro va σ₁ ea e
 refine x1_2 (bind_is e) ?_
 (try clear e)
 intro i hi e
 refine x1_2 (map_is e) ?_
 (try clear e)
 intro LL hL e
 apply p2 e
 refine PyProof.Rows.Call_Name rfl (glob_ok K.bok K.gr I R (List.contains_iff_mem.mp hg) eg fun x r=>?_)
 rw [r.ofIter hf]
 refine Calls.callWith_builtin rfl (Calls.evalArgs_plain (Calls.spliced_cons ?_))
 rw [arm_eval_Attribute]
 refine wpAny_bind (base_ok hn (((ha vis wv gl env loc F σ s hwa R I L).1 _ _ ea).seq fun x G₁ s₁ T₁ p₁=>wpAny_bind (wpAny_standAt (wpAny_bind (wpAny_holding ?_)))))
 refine x1_1 (K.lex) fun KL OL=>?_
 refine x10_5 (lexAt p₁.1 (lexI_is hL)) fun as la p' x' dx st sd gv cT cA hb ef e1 e2 LH=>?_
 rw [LH.as_] at ef
 rw [(p₁.2.asRef hi).refAt ef]
 obtain ⟨od,eo,In,m,N,lk⟩:=LH.at'
 refine bound_ok OL (OL.here p₁.1) In (by rw [lk,N.no3]) (wpAny_bind (wpAny_letTemporaryGo (wpAny_pure (Calls.spliced_cons (wpAny_Constant_str (k:=0) (pos:=q3) (Calls.spliced_nil ?_))))))
 refine Calls.call_function_entry kind_iter plain_iter entry_iter (args_iter2 _ _) (iter_body (Heap.get?_push_size _ rfl) rfl ⟨_,rfl,Cn.back (hasE _ _ _) T₁ ?_⟩)
 have k:∀ b o,s₁.heap.get? b=some o→((s₁.heap.push { cls:=.type "method",data:=.fields #[.ref (B.fa B.lx.rd),.ref x'] }).push { cls:=.type "callable_iterator",data:=.fields (citF false s₁.heap.objs.size (s₁.toks+1)) }).get? b=some o:=fun b o e=>Heap.get?_push_of_some _ (Heap.get?_push_of_some _ e)
 have sz:(s₁.heap.push { cls:=.type "method",data:=.fields #[.ref (B.fa B.lx.rd),.ref x'] }).objs.size=s₁.heap.objs.size+1:=Heap.size_push ..
 refine fit_new (tk:=s₁.toks+1) p₁.1 (p₁.1.all k _) k ef ?_ (dead_size _) (by rw [sz]; exact Nat.succ_ne_self _) (Heap.get?_push_size _ rfl) (Heap.get?_push_of_some _ (Heap.get?_push_size _ rfl))
 cases q:s₁.heap.get? (s₁.heap.push { cls:=.type "method",data:=.fields #[.ref (B.fa B.lx.rd),.ref x'] }).objs.size with
 | none=>rfl
 | some o=>exact absurd (Heap.lt_size q) (by rw [sz]; exact Nat.not_lt_of_le (Nat.le_succ _))
theorem meth_rule2 {oe:Expr} {name:Str} {q p q3:Pos} {env:Env} (hbase:∀ t:Sem Value,attributeBase oe name env t=t) (hl:(q.endLine==p.line)=true) {Q:Value→Shared→Prop} {E:Value→Shared→Prop} {s:Shared}
  (h:wpAny (model B.prog B.w) A (eval oe env) (fun ov s₁=>∀ pl,wpAny (model B.prog B.w) A (getMethod ov name pl) (fun fm s₂=>wpAny (model B.prog B.w) A (callWith p fm.1 fm.2 (backTo p (starEach [.Constant (.int 1) 0 q3] env)) []) Q E s₂) E s₁) E s) :
  wpAny (model B.prog B.w) A (eval (.Call (.Attribute oe name q) [.Constant (.int 1) 0 q3] [] p) env) Q E s:=by
 rw [arm_eval_Call,hbase]
 refine wpAny_bind (wpAny_mono h (fun ov s₁ h₁=>?_) fun ζ ζ e=>e)
 refine wpAny_bind (wpAny_standAt ?_)
 have hform:methodCallForm (([.Constant (.int 1) 0 q3]:List Expr).length+([]:List Keyword).length) (backTo p (starEach [.Constant (.int 1) 0 q3] env)) (backToKw p (keywordEach [] env))=true:=rfl
 have hpos:methodCallPos true oe env q p=pure p:=by unfold methodCallPos; simp [hl]
 unfold methodCall
 rw [hform]
 refine wpAny_bind (wpAny_holding ?_)
 unfold calleeOf
 rw [if_pos rfl]
 refine wpAny_mono (h₁ _) (fun fm s₂ h₂=>?_) fun ζ ζ z=>z
 exact wpAny_bind (wpAny_of_eq hpos h₂)
include K in
theorem je_readc {a:E} (ha:JE B A Φ Λ Gv gt tb kws a) (q1 q2 q3 p:Pos):JE B A Φ Λ Gv gt tb kws (.readc a q1 q2 q3 p):=by
 refine .by tb (fun ζ ζ ζ=>rfl) (fun ζ=>rfl) ?_
 intro vis wv gl env loc F σ s hw R I L v σ' e
 obtain ⟨⟨hwa,hn⟩,hl⟩:=bA2 hw
 refine xP1_2 (bind_is (ev_readc.symm.trans e)) ?_; (try clear e); intro va σ₁ ea e
 refine meth_rule2 (fun ζ=>rfl) hl ?_
 rw [arm_eval_Attribute]
 refine wpAny_bind (base_ok hn (((ha vis wv gl env loc F σ s hwa R I L).1 _ _ ea).seq fun x G₁ s₁ T₁ p₁=>wpAny_bind (wpAny_standAt (wpAny_bind (wpAny_holding ?_)))))
 refine x1_2 (K.rdc _ _ _ e) fun i hq_246 hr=>?_
 subst hq_246
 refine x1_1 (K.lex) fun KL OL=>?_
 refine x1_2 (bind_is hr) fun LL hL ζ=>?_
 refine x10_5 (lexAt p₁.1 (lexI_is hL)) fun as la p' x' dx st sd gv cT cA hb ef e1 e2 LH=>?_
 rw [p₁.2.refAt (LH.as_▸ef)]
 obtain ⟨od,eo,In,m,N,lk⟩:=LH.at'
 refine W.get_value (OL.here p₁.1) In OL.hga (own_find OL OL.o4 (by rw [lk,N.stream])) rfl (wpAny_bind (wpAny_letTemporaryGo (wpAny_pure fun pl=>?_)))
 refine x2_1 (LH.stream) fun fd sl hst=>?_
 refine x1_2 (LH.read) fun ms ns hrd=>?_
 refine fnGet (s:={ s₁ with toks:=s₁.toks+1 }) hst ns hrd rfl ?_
 refine x2_2 (id LH.give) fun cd ct hgv ζ=>?_
 refine W.callWith_F ⟨_,_,_,_,hgv⟩ ?_
 show wpAny _ _ (spliced [(false,eval (.Constant (.int 1) 0 q3) env)]) _ _ _
 refine Calls.spliced_cons (wpAny_Constant_int (k:=0) (pos:=q3) (Calls.spliced_nil ⟨⟨_,_,_,_,hgv⟩,?_⟩))
 exact up (hasE _ _ _) (T₁.toks _) (K.give _ _ _ _ _ _ _ _ _ _ _ _ _ _ _ _ _ _ _ (p₁.1.toks _) e ef LH)
end
end Mine
namespace Mine
open PySem PySem.W
theorem rep_none {c:Nat} {z:List Nat}:∀ {l:List Nat},c∉l→rep c z l=l
 | [],_=>rfl
 | d :: l,h=>by
  rw [List.mem_cons,not_or] at h
  show (if d=c then z else [d])++rep c z l=_
  rw [if_neg fun e=>h.1 e.symm,rep_none h.2]; rfl
theorem rep_app {c:Nat} {z l m:List Nat}:rep c z (l++m)=rep c z l++rep c z m:=List.flatMap_append
theorem rep_join {c:Nat} {z:List Nat}:∀ {ps:List (List Nat)},(∀ p∈ps,c∉p)→rep c z (joinL [c] ps)=joinL z ps
 | [],_=>rfl
 | [p],h=>rep_none (h p (.head _))
 | p :: q :: r,h=>by
  show rep c z (p++[c]++joinL [c] (q :: r))=p++z++joinL z (q :: r)
  rw [rep_app,rep_app,rep_none (h p (.head _)),rep_join (ps:=q :: r) fun x hx=>h x (.tail _ hx)]
  show p++((if c=c then z else [c])++[])++_=_
  rw [if_pos rfl,List.append_nil]
theorem join_count {c:Nat}:∀ {ps:List (List Nat)},ps≠[]→(joinL [c] ps).count c+1=(ps.map (·.count c)).sum+ps.length
 | [],h=>absurd rfl h
 | [p],_=>rfl
 | p :: q :: r,_=>by
  have ih:=join_count (c:=c) (ps:=q :: r) (by simp)
  show (p++[c]++joinL [c] (q :: r)).count c+1=_
  rw [List.count_append,List.count_append,List.map_cons,List.sum_cons,List.length_cons]
  have:[c].count c=1:=by simp
  (first | lia | omega)
theorem none_of {c:Nat}:∀ {ps:List (List Nat)},(ps.map (·.count c)).sum=0→∀ p∈ps,c∉p
 | [],_,_,h=>(List.not_mem_nil h).elim
 | q :: ps,h,p,hp=>by
  rw [List.map_cons,List.sum_cons] at h
  rcases List.mem_cons.mp hp with rfl | hp
  ·exact List.count_eq_zero.mp (by (first | lia | omega))
  ·exact none_of (by (first | lia | omega)) p hp
theorem glued_cps (sep:Str) (ps:List Str):(Builtin.Str.glued sep ps).cps.toList=joinL sep.cps.toList (ps.map (·.cps.toList)):=join_cps sep ps
open Builtin.Str in
theorem rep_ok {x y z:Str} {l m:List Nat} {c:Nat} (h1:x.cps.toList=l) (h2:y.cps.toList=[c]) (h3:z.cps.toList=m):(Txt.replace x y z).cps.toList=rep c m l:=by
 have hc:=count_ok h1 h2
 have hc:(((occurrences x y 0 x.length (x.length+1)).length:Nat):Int)=((l.count c:Nat):Int):=hc
 have hj:=StrLaws.glued_between_self x y (x.length+1)
 have hl:(partsBetween x (occurrences x y 0 x.length (x.length+1)) y.length).length=(occurrences x y 0 x.length (x.length+1)).length+1:=by simp [partsBetween]
 have hg:=glued_cps y (partsBetween x (occurrences x y 0 x.length (x.length+1)) y.length)
 have hz:=glued_cps z (partsBetween x (occurrences x y 0 x.length (x.length+1)) y.length)
 rw [hj,h1,h2] at hg
 rw [h3] at hz
 have hy:y.length=1:=by rw [str_len h2]; rfl
 unfold Txt.replace
 cases he:(occurrences x y 0 x.length (x.length+1)).isEmpty with
 | true =>
  rw [Bool.true_or,if_pos rfl,h1,rep_none]
  have:(occurrences x y 0 x.length (x.length+1)).length=0:=by rw [List.isEmpty_iff.mp he]; rfl
  exact List.count_eq_zero.mp (by (first | lia | omega))
 | false =>
  rw [hy,Bool.false_or,if_neg (by simp)]
  rw [hy] at hl hg hz
  generalize partsBetween x (occurrences x y 0 x.length (x.length+1)) 1=P at hl hg hz ⊢
  generalize (occurrences x y 0 x.length (x.length+1)).length=k at hl hc
  rw [hz,hg]
  have hne:P.map (·.cps.toList)≠[]:=by
   intro e
   have:=congrArg List.length e
   rw [List.length_map,hl] at this
   exact absurd this (Nat.succ_ne_zero _)
  have hs:=join_count (c:=c) hne
  rw [← hg,List.length_map,hl] at hs
  exact (rep_join (none_of (by (first | lia | omega)))).symm
theorem rep_call {prog:Program} {w:World} {A:Around} {E:Value→Shared→Prop} {s:Shared} {x y z:Str} {t u v:Tok} {Q:Value→Shared→Prop} (hu:u≠0) (hv:v≠0) (huv:u≠v) (hyz:(y==z)=false) (hb:x.length+(x.length+1)*z.length≤16777216)
  (hq:∀ t' k,s.toks≤k→Q (.str (Txt.replace x y z) t') { s with toks:=k }):wpAny (model prog w) A (call (.builtin "str.replace") [.str x t,.str y u,.str z v]) Q E s:=by
 have hl:Builtin.Str.tooLong (x.length+(Builtin.Str.occurrences x y 0 x.length (x.length+1)).length*z.length)=false:=by
  have h1:=StrLaws.occ_length_le x y 0 x.length (x.length+1)
  have h2:(Builtin.Str.occurrences x y 0 x.length (x.length+1)).length*z.length≤(x.length+1)*z.length:=Nat.mul_le_mul_right _ h1
  unfold Builtin.Str.tooLong
  exact decide_eq_false (by rw [sizeLine_eq]; (first | lia | omega))
 refine wpAny_call (codeAny_call_builtin F.slot_str_replace.plain F.entry_str_replace (F.slot_str_replace.check _ _ _ _ _ _ _ _ (typeIs_str _ _ _) (F.args_str_replace_3 _ _ _) ?_))
 show wpAny _ _ (if ((Builtin.Str.occurrences x y 0 x.length (x.length+1)).isEmpty||(y.length==0&&z.length==0))=true then (do rule "str.replace.nothing"; ret (.str x t)) else
     (do
       let same ← isSame (.str y u) (.str z v)
       if same=true then (do rule "str.replace.old-is-new"; ret (.str x t)) else
       if Builtin.Str.tooLong (x.length+(Builtin.Str.occurrences x y 0 x.length (x.length+1)).length*z.length)=true then unsupported "str.replace:memory" else
       retStr (Builtin.Str.glued z (Builtin.Str.partsBetween x (Builtin.Str.occurrences x y 0 x.length (x.length+1)) y.length)))) _ _ _
 unfold Txt.replace at hq
 cases hc:((Builtin.Str.occurrences x y 0 x.length (x.length+1)).isEmpty||(y.length==0&&z.length==0))
 ·rw [hc] at hq
  rw [isSame_str_other y z u v (by simp [hu,hv]) (by simp [huv]) hyz,hl]
  refine wpAny_bind (wpAny_pure ?_)
  show wpAny _ _ (retStr (Builtin.Str.glued z (Builtin.Str.partsBetween x (Builtin.Str.occurrences x y 0 x.length (x.length+1)) y.length))) _ _ _
  exact wpAny_bind (wpAny_mkStr (wpAny_pure (hq _ _ (Nat.le_succ _))) (fits_replaced y hb))
 ·rw [hc] at hq
  exact wpAny_bind (wpAny_rule (wpAny_pure (hq t s.toks (Nat.le_refl _))))
section
variable {B:Base} {A:Around} {d:Nat} {Φ:Calls} {Λ:Lexer} {Gv:Nat→Option V} {gt:List Str} {mk:Me→Nat} {kws:Nat→Str→Bool} (K:Kit B A d Φ Λ Gv gt mk kws) (tb:List Str)
variable {vis:List (Nat × Bool)} {wv gl:List Nat} {env:Env}
theorem rp_len {c:Nat} {z:List Nat} (hz:z.length=2):∀ {l:List Nat},(rep c z l).length≤2*l.length
 | []=>Nat.le_refl _
 | x :: l=>by
  have ih:=rp_len (c:=c) hz (l:=l)
  show ((if x=c then z else [x])++rep c z l).length≤_
  rw [List.length_append,List.length_cons]
  split
  ·rw [hz]; (first | lia | omega)
  ·show 1+_≤_; (first | lia | omega)
theorem rep_meth {E:Value→Shared→Prop} {s:Shared} {Q:Value→Shared→Prop} {X:Str} {t:Tok} {l:List Nat} {c a:Nat} {q3 q4 p:Pos} {pl:Sem Bool} (hX:X.cps.toList=l) (hl:l.length≤2000) (h0:0 < s.toks)
  (hq:∀ (Y:Str) t' k,0 < k→Y.cps.toList=rep c [a,c] l→Q (.str Y t') { s with toks:=k }) :
  wpAny (model B.prog B.w) A (getMethod (.str X t) Me.replace.nm pl) (fun fm s₂=>wpAny (model B.prog B.w) A (callWith p fm.1 fm.2 (backTo p (starEach (toEL gt tb (.cons (.cstr [c] q3) (.cons (.cstr [a,c] q4) .nil))) env)) []) Q E s₂) E s:=by
 have hw:wfEL gt tb (fun ζ ζ=>false) (fun ζ=>none) [] [] (.cons (.cstr [c] q3) (.cons (.cstr [a,c] q4) .nil))=true:=rfl
 refine getMethod_builtin (typeIs_str _ _ _) PySem.F.plainAttrs_str PySem.F.slot_str_replace PySem.F.type_str_replace (fun ζ q=>nomatch q) ?_
 refine Calls.callWith_builtin (all_plain hw).2 (evalArgs_any hw ?_)
 show wpAny _ _ (spliced [(false,eval (.Constant (.str ⟨#[c]⟩) 0 q3) env),(false,eval (.Constant (.str ⟨#[a,c]⟩) 0 q4) env)]) _ _ _
 refine Calls.spliced_cons (wpAny_Constant_str (Calls.spliced_cons (wpAny_Constant_str (Calls.spliced_nil ?_))))
 refine rep_call (Nat.pos_iff_ne_zero.mp h0) (Nat.succ_ne_zero _) (Nat.ne_of_lt (Nat.lt_succ_self _)) (by
  rw [beq_eq_false_iff_ne]
  exact fun e=>absurd (congrArg (fun s:Str=>s.cps.size) e) (by show 1≠2; decide)) (by rw [str_len hX]; show _+_*2≤_; (first | lia | omega)) fun t' k hk=>?_
 exact hq _ _ _ (Nat.lt_of_lt_of_le (Nat.succ_pos _) hk) (rep_ok (m:=[a,c]) hX rfl rfl)
theorem je_shut (i:Nat) (q:List Pos) (p:Pos):JE B A Φ Λ Gv gt tb kws (.shut i q p):=by
 refine .by tb (fun ζ ζ ζ=>rfl) (fun ζ=>rfl) ?_
 intro vis wv gl env loc F σ s hw R I L v σ' e
 have hw:(vis.any (·.1==i)&&((q.getD 2 p).endLine==(q.getD 5 p).line)&&((q.getD 6 p).endLine==(q.getD 9 p).line))=true:=hw
 rw [Bool.and_eq_true,Bool.and_eq_true] at hw
 refine x1_2 (bind_is (ev_shut.symm.trans e)) ?_
 clear e
 intro o q0 e
 refine x1_2 (bind_is e) ?_
 clear e
 intro u hu e
 refine x1_2 (bind_is e) ?_
 clear e
 intro l hv e
 refine x0_2 (ite_is e) ?_
 clear e
 intro hl e
 apply p2 e
 subst hu
 have hu:=strV_is hv
 subst hu
 obtain ⟨c,hc⟩:=vis_mem hw.1.1
 refine wpAny_BinOp (wpAny_BinOp (wpAny_Constant_str ?_))
 have hw1:∀ {a b:Pos},wfEL gt tb kws Gv vis gl (.cons (.cstr [92] a) (.cons (.cstr [92,92] b) .nil))=true:=rfl
 have hw2:∀ {a b:Pos},wfEL gt tb kws Gv vis gl (.cons (.cstr [34] a) (.cons (.cstr [92,34] b) .nil))=true:=rfl
 refine meth_rule (e:=.meth (.var i (q.getD 1 p)) .replace (.cons (.cstr [92] (q.getD 3 p)) (.cons (.cstr [92,92] (q.getD 4 p)) .nil)) (q.getD 2 p) (q.getD 5 p)) (es:=.cons (.cstr [34] (q.getD 7 p)) (.cons (.cstr [92,34] (q.getD 8 p)) .nil)) rfl hw2 hw.2 (show 2 < 29 by decide) ?_
 refine meth_rule (e:=.var i (q.getD 1 p)) (es:=.cons (.cstr [92] (q.getD 3 p)) (.cons (.cstr [92,92] (q.getD 4 p)) .nil)) rfl hw1 hw.1.2 (show 2 < 29 by decide) ?_
 refine wpAny_Name (var_ok (s:={ s with toks:=s.toks+1 }) R L hc q0 fun x r=>?_) (R.dbg i c hc).1
 obtain ⟨X,t,hx,hX,hb⟩:=r.str_is
 subst hx
 intro pl
 refine rep_meth tb hX (by (first | lia | omega)) (Nat.succ_pos _) fun Y t' k hk hY pl'=>?_
 have hlen:=rp_len (c:=92) (z:=[92,92]) rfl (l:=l)
 refine rep_meth tb hY (by (first | lia | omega)) hk fun Z t2 k2 ζ hZ=>?_
 have hlen2:=rp_len (c:=34) (z:=[92,34]) rfl (l:=rep 92 [92,92] l)
 have hM:maxLen=1048576:=rfl
 refine (ss_ok (I.toks k2) (x:=⟨#[34]⟩) rfl hZ (by rw [hM]; show (rep 34 [92,34] (rep 92 [92,92] l)).length+1≤_; (first | lia | omega))).seq fun w G₁ s₁ T₁ p₁=>?_
 obtain ⟨W,tw,hw',hW,_⟩:=p₁.2.str_is
 subst hw'
 refine wpAny_Constant_str ?_
 have T₂:Step B F s G₁ { s₁ with toks:=s₁.toks+1 }:={ kept:=T₁.kept,fresh:=T₁.fresh }
 exact up (hasE _ _ _) T₂ (ss_ok (p₁.1.toks _) hW rfl (by rw [hM,List.length_append]; show (rep 34 [92,34] (rep 92 [92,92] l)).length+1+1≤_; (first | lia | omega)))
end
end Mine
namespace Mine
open PySem PySem.W PySem.SeqAt
open AutoSeq1 (wpAny_loadPart')
theorem tuple_indexAt (l:Addr) (items:Array Value) (n:Nat) (x:Value) (e:Value→Bool) (j:Nat) (hj:j < items.size)
  (hit:e items[j]=true) (hno:∀ m (hm:m < items.size),m < j→e items[m]=false) :
  Meets (Builtin.«tuple.index» ⟨[.ref l,x],[]⟩)
   (fun A R s=>s.heap.get? l=some { cls:=.type "tuple",data:=.seq items n }∧(∀ y,y∈items→EqAt A.in1 s y x (e y))∧R (.ok (.ret (.int j s.toks))) { s with toks:=s.toks+1 }) :=
 .of_wp fun prog w A R s h=>by
  obtain ⟨hp,g,d,tk,os⟩:=s; obtain ⟨hl,he,h⟩:=h
  unfold Builtin.«tuple.index»
  simp only [Std.Legacy.Range.forIn_eq_forIn_range']
  wp_walk using wpAny_loadPart' hl,wpAny_forIn_list _ (fun rest b s'=>b.1=none∧s'=⟨hp,g,d,tk,os⟩∧∃ k,k≤j∧rest=List.range' k (items.size - k)) _
  case turn =>
   rintro k' rest b s' ⟨hb,rfl,k,hk,hl'⟩
   obtain ⟨m,hm⟩:∃ m,items.size - k=m+1:=⟨items.size - k - 1,by (first | lia | omega)⟩
   rw [hm,List.range'_succ] at hl'
   obtain ⟨rfl,rfl⟩:=List.cons.inj hl'
   have hks:k' < items.size:=by (first | lia | omega)
   rw [Array.getElem?_eq_getElem hks]
   refine wpAny_bind (he _ (Array.getElem_mem hks) prog w _ _ ?_)
   rcases Nat.lt_or_ge k' j with hlt | hge
   ·rw [hno k' hks hlt]
    wp_walk
    exact ⟨rfl,rfl,k'+1,hlt,by congr 1; (first | lia | omega)⟩
   ·have:k'=j:=by (first | lia | omega)
    subst this
    rw [hit]
    wp_walk
    exact ⟨_,rfl,h⟩
  case fin =>
   rintro ⟨b1,b2⟩ s' ⟨hb,rfl,k,hk,hl'⟩
   have:=congrArg List.length hl'
   rw [List.length_range'] at this
   have:0=items.size - k:=this
   (first | lia | omega)
  case h =>
   exact ⟨rfl,rfl,0,Nat.zero_le _,by congr 1; simp [Std.Legacy.Range.size]⟩
section
variable {B:Base} {A:Around} {d:Nat} {Φ:Calls} {Λ:Lexer} {Gv:Nat→Option V} {gt:List Str} {kws:Nat→Str→Bool} (tb:List Str)
theorem je_tix (i j:Nat) (pa pb q p:Pos):JE B A Φ Λ Gv gt tb kws (.tix i j pa pb q p):=by
 refine .by tb (fun ζ ζ ζ=>rfl) (fun ζ=>rfl) ?_
 intro vis wv gl env loc F σ s hw R I L v σ' e
 have hw:(vis.any (·.1==i)&&vis.any (·.1==j)&&(q.endLine==p.line))=true:=hw
 rw [Bool.and_eq_true,Bool.and_eq_true] at hw
 refine x1_2 (bind_is (ev_tix.symm.trans e)) ?_
 clear e
 intro o e0 e
 refine x1_2 (bind_is e) ?_
 clear e
 intro u hu e
 refine x1_2 (bind_is e) ?_
 clear e
 intro xs hx e
 refine x1_2 (bind_is e) ?_
 clear e
 intro o2 e2 e
 refine x1_2 (bind_is e) ?_
 clear e
 intro w hv e
 refine x1_2 (map_is e) ?_
 clear e
 intro n q2 e
 apply p2 e
 subst hu
 subst hv
 obtain ⟨c,hc⟩:=vis_mem hw.1.1
 obtain ⟨c',hc'⟩:=vis_mem hw.1.2
 have hu:=tupV_is hx
 subst hu
 have hw1:wfEL gt tb kws Gv vis gl (.cons (.var j pb) .nil)=true:=by
  show (vis.any (·.1==j)&&true)=true
  rw [hw.1.2]; rfl
 refine meth_rule (e:=.var i pa) (es:=.cons (.var j pb) .nil) rfl hw1 hw.2 (show 1 < 29 by decide) ?_
 refine wpAny_Name (var_ok R L hc e0 fun x r=>?_) (R.dbg i c hc).1
 obtain ⟨a1,its,n1,hx,l1,v1,bd⟩:=r.tup_is
 subst hx
 intro pl
 refine getMethod_builtin ⟨_,l1,rfl⟩ PySem.F.plainAttrs_tuple PySem.F.slot_tuple_index PySem.F.type_tuple_index (fun b z=>⟨_,Value.ref.inj z▸l1,rfl⟩) ?_
 refine Calls.callWith_builtin (all_plain hw1).2 (evalArgs_any hw1 ?_)
 show wpAny _ _ (spliced [(false,eval (.Name (nmOf tb j) pb) env)]) _ _ _
 refine Calls.spliced_cons (wpAny_Name (var_ok R L hc' e2 fun y r1=>Calls.spliced_nil ?_) (R.dbg j c' hc').1)
 have z1:xs.length=its.size:=v1.length.trans Array.length_toList
 refine x1_2 (bind_is q2) fun c q3 q4=>?_
 refine x0_2 (ite_of q4) ?_
 clear q4
 intro hc q4
 subst hc
 refine x1_3 (first_ok r1 v1 q3 q4) fun m hnm hw' hn=>?_
 refine x1_2 hw' fun p' hp hq=>?_
 rw [Nat.zero_add] at hnm
 subst hnm
 rw [Array.getElem?_toList] at hp
 obtain ⟨hj,hpj⟩:=Array.getElem?_eq_some_iff.mp hp
 have hin:=(inL_ok r1 v1 q3).1
 exact call_meets PySem.F.slot_tuple_index ⟨_,l1,rfl⟩ PySem.F.entry_tuple_index (PySem.F.args_tuple_index_2 _ _) (tuple_indexAt a1 its n1 y (fun p=>eqC p y) n hj (by rw [hpj]; exact hq) fun m hm hmj=>hn m _ hmj (by rw [Array.getElem?_toList,Array.getElem?_eq_getElem hm])) ⟨l1,fun z hz=>hin z (Array.mem_toList_iff.mpr hz) _ _,evTok _ I (.int _ _)⟩
end
end Mine
namespace Mine
open PySem
section
variable {B:Base} {A:Around} {d:Nat} {Φ:Calls} {Λ:Lexer} {Gv:Nat→Option V} {gt:List Str} {mk:Me→Nat} {kws:Nat→Str→Bool} (K:Kit B A d Φ Λ Gv gt mk kws) (tb:List Str)
noncomputable def emit (Φ:Calls) (Λ:Lexer) (Gv:Nat→Option V) (e:E) (loc:Loc) (σ:Sto) (acc:List V):Option (List V × Sto):=(evM Φ Λ Gv e false loc σ).bind fun v=>if acc.length < maxLen then some (acc++[v.1],v.2) else none
noncomputable def JC (B:Base) (A:Around) (Φ:Calls) (Λ:Lexer) (Gv:Nat→Option V) (gt tb:List Str) (kws:Nat→Str→Bool) (r:CL):Prop :=
 ∀ vis wv gl env e gens sc pos dp D,wfCL gt tb kws Gv vis gl wv r=true→wfE gt tb kws Gv vis gl e=true→JE B A Φ Λ Gv gt tb kws e→ER B gt tb vis wv gl env→List.drop (dp+1) gens=toCL gt tb r →
  RestOk B A tb vis wv env D (toE gt tb e) gens sc pos dp (clSlots r) (evC Φ Λ Gv r (emit Φ Λ Gv e))
theorem drop_get {α:Type} {l:List α} {n:Nat}:(List.drop n l)[0]?=l[n]?:=by simp
theorem drop_get1 {α:Type} {l:List α} {n:Nat} {a:α} {r:List α} (h:List.drop n l=a :: r):l[n]?=some a∧List.drop (n+1) l=r:=by
 constructor
 ·rw [← drop_get,h]; rfl
 ·rw [← List.drop_drop,h]; rfl
theorem cl_async:∀ {r:CL} {g':Comprehension},(toCL gt tb r)[0]?=some g'→g'.is_async=0
 | .nil,_,h=>by exact noS h
 | .cons t it ifs r,g',h=>by cases h; rfl
theorem jc_nil:JC B A Φ Λ Gv gt tb kws .nil:=by
 intro vis wv gl env e gens sc pos dp D hw he hE R hd
 refine rest_nil (kE:=fun loc σ=>evM Φ Λ Gv e false loc σ) ?_ fun F σ s loc v σ' I L q=>(hE vis wv gl env loc F σ s he R I L).1 v σ' q
 rw [← drop_get,hd]; rfl
include K in
theorem jc_cons {t:Tg} {it:E} {ifs:EL} {r:CL} (hit:JE B A Φ Λ Gv gt tb kws it) (hifs:JEL B A Φ Λ Gv gt tb kws ifs) (hr:JC B A Φ Λ Gv gt tb kws r):JC B A Φ Λ Gv gt tb kws (.cons t it ifs r):=by
 intro vis wv gl env e gens sc pos dp D hw he hE R hd
 refine x0_2 (bA4 hw) fun hw_247 h5=>?_
 refine x0_2 (hw_247) fun hw_248 h4=>?_
 obtain ⟨⟨h1,h2⟩,h3⟩:=hw_248
 refine x0_2 (drop_get1 (hd:List.drop (dp+1) gens=⟨toTg tb t,toE gt tb it,toEL gt tb ifs,0⟩ :: toCL gt tb r)) fun hg hd'=>?_
 refine rest_cons (kE:=fun loc σ=>evM Φ Λ Gv it false loc σ) (kI:=fun loc σ=>evIfs Φ Λ Gv ifs loc σ) (kR:=evC Φ Λ Gv r (emit Φ Λ Gv e)) K.room.handled R hg ?_ (fun i hi=>List.contains_iff_mem.mp (List.all_eq_true.mp h2 i hi)) (fun i hi q=>?_) (wf_raw h1)
  (fun F σ s loc v σ' I L q=>(hit vis wv gl env loc F σ s h1 R I L).1 v σ' q) (fun F σ s loc b σ' I L q=>(hifs vis wv gl env loc F σ s h4 R I L).2.2.2 b σ' q) (hr vis wv gl env e gens sc pos (dp+1) D h5 he hE R hd')
 ·intro g' q
  rw [← drop_get,hd'] at q
  exact cl_async tb q
 ·have:=List.all_eq_true.mp h3 i hi
  rw [Bool.not_eq_true'] at this
  rw [List.contains_iff_mem.mpr q] at this; cases this
theorem cl_wv {vis:List (Nat × Bool)} {wv gl:List Nat}:∀ {r:CL},wfCL gt tb kws Gv vis gl wv r=true→∀ i∈clSlots r,i∈wv
 | .nil,_,i,hi=>by cases hi
 | .cons t it ifs r,h,i,hi=>by
  have h:=bA4 h
  rcases List.mem_append.mp hi with q | q
  ·exact List.contains_iff_mem.mp (List.all_eq_true.mp h.1.1.1.2 i q)
  ·exact cl_wv h.2 i q
include K in
theorem comp_use {cell:Bool} {e it:E} {t:Tg} {ifs:EL} {r:CL} {cs:CS} {pos p:Pos} (hit:JE B A Φ Λ Gv gt tb kws it) (hifs:JEL B A Φ Λ Gv gt tb kws ifs) (hr:JC B A Φ Λ Gv gt tb kws r) (he:JE B A Φ Λ Gv gt tb kws e)
  {vis:List (Nat × Bool)} {wv gl:List Nat} {env:Env} {loc:Loc} {F:Lay} {σ:Sto} {s:Shared} (hw:wfE gt tb kws Gv vis gl (.comp cell e t it ifs r cs pos)=true) (R:ER B gt tb vis wv gl env) (I:Inv B F σ s) (L:LR B tb vis env F loc s.heap)
  {v:V} {σ':Sto} (ev:evM Φ Λ Gv (.comp cell e t it ifs r cs pos) false loc σ=some (v,σ')) {use:Option (Value→Sem Unit)} {Q:Value→Shared→Prop}
  (fin:∀ D C G s',CDone B F σ' v s D C G s'→compPost (model B.prog B.w) A Bot use Q (.ref D) C (.ok .next) s') :
  wpAny (model B.prog B.w) A (comprehension (.ListComp (toE gt tb e) (toCL gt tb (.cons t it ifs r)) cs.sc pos) cs.sc env p (PySem.newList []) false (eval (toE gt tb it) env) use) Q Bot s:=by
 refine bB6 hw fun h1 h2 h3 h4 h5 h6 h7=>?_
 refine xP1_2 (bind_is (ev_comp.symm.trans ev)) ?_
 clear ev
 intro vi σ₁ ei ec
 refine xP1_2 (bind_is ec) ?_
 clear ec
 intro i n en ec
 refine x1_2 (map_is ec) fun y el e'=>?_
 have hv:v=(newL cell y.2.1 y.2.2).1:=congrArg Prod.fst e'.symm
 have hs':σ'=(newL cell y.2.1 y.2.2).2:=congrArg Prod.snd e'.symm
 refine comp_core cell K.room.handled R (csP_of h2) I L (js:=clSlots r) (kI:=fun loc σ=>evIfs Φ Λ Gv ifs loc σ) (kR:=evC Φ Λ Gv r (emit Φ Λ Gv e)) (fun g' q=>cl_async tb q) (wf_raw h1) ((hit vis wv gl env _ F σ s h1 R I (L.weak fun i v e=>(clear_get _ _ _ _ e).1)).1 vi σ₁ ei) en (fun i hi=>List.contains_iff_mem.mp (List.all_eq_true.mp h3 i hi)) (fun i hi q=>?_) (cl_wv tb h6)
  (fun cenv R' F σ s loc b σ' I L q=>(hifs cs.vis cs.wv cs.gl cenv loc F σ s h5 R' I L).2.2.2 b σ' q) (fun cenv D R'=>hr cs.vis cs.wv cs.gl cenv e _ cs.sc pos 0 D h6 h7 he R' rfl) el fun D C G s' cd=>fin D C G s' (by rw [hv,hs']; exact cd)
 have:=List.all_eq_true.mp h4 i hi
 rw [Bool.not_eq_true'] at this
 rw [List.contains_iff_mem.mpr q] at this; cases this
theorem cdone_end {F:Lay} {σ:Sto} {v:V} {s s':Shared} {D C:Addr} {G:Lay} (c:CDone B F σ v s D C G s') {h':Heap} (hs:Heap.SameBut C s'.heap h'):Cn B F s (PE B σ v) (.ref D) { s' with heap:=h' }:=by
 refine x1_1 (c.ns) fun m nm=>?_
 have kp:Kept (·=C) s'.heap h':=.of_same hs
 have nn:∀ b o,b=C→s'.heap.get? b=some o→B.h0.get? b=none∧b∉(F++G).flatten∧¬ Imm o:=fun b o w e=>by subst w; exact ⟨c.h0,c.off,ns_not_imm nm e⟩
 refine ⟨G,⟨fun b o e nw=>kp b o (c.step.kept b o e nw) fun z=>?_,c.step.fresh⟩,c.pe.1.keep (tk:=s'.toks) kp nn,c.pe.2.step (.of_kept kp fun b o w e=>.of (nn b o w e).2.2)⟩
 rw [z,c.dead] at e; exact noS e
include K in
theorem je_comp (cell:Bool) {e it:E} {t:Tg} {ifs:EL} {r:CL} {cs:CS} {pos:Pos} (hit:JE B A Φ Λ Gv gt tb kws it) (hifs:JEL B A Φ Λ Gv gt tb kws ifs) (hr:JC B A Φ Λ Gv gt tb kws r) (he:JE B A Φ Λ Gv gt tb kws e):JE B A Φ Λ Gv gt tb kws (.comp cell e t it ifs r cs pos):=by
 refine .by tb (fun ζ ζ ζ=>rfl) (fun ζ=>rfl) ?_
 intro vis wv gl env loc F σ s hw R I L v σ' ev
 show wpAny _ _ (eval (.ListComp (toE gt tb e) (toCL gt tb (.cons t it ifs r)) cs.sc pos) env) _ _ s
 rw [eval_ListComp]
 exact comp_use K tb hit hifs hr he hw R I L ev fun D C G s' c=>let ⟨m,nm⟩:=c.ns; ⟨m,nm,fun h' hs=>cdone_end c hs⟩
include K in
mutual
theorem okE:∀ e:E,JE B A Φ Λ Gv gt tb kws e
 | .cnone p=>je_cnone tb p
 | .cbool b p=>je_cbool tb b p
 | .cint i p=>je_cint tb i p
 | .cstr s p=>je_cstr tb s p
 | .var i p=>je_var K tb i p
 | .glob g p=>je_glob K tb g p
 | .bin op a b p=>je_bin K tb (okE a) (okE b) op p
 | .neg a p=>je_neg K tb (okE a) p
 | .cmp op a b p=>je_cmp K tb (okE a) (okE b) op p
 | .cmp2 op op' a b c p=>je_cmp2 K tb (okE a) (okE b) (okE c) op op' p
 | .boolop op es p=>je_boolop tb (okEL es) op p
 | .ife t a b p=>je_ife tb (okE t) (okE a) (okE b) p
 | .list c es p=>je_list tb c (okEL es) p
 | .tup es p=>je_tup tb (okEL es) p
 | .sub a i p=>je_sub tb (okE a) (okE i) p
 | .slice a lo hi st q p=>je_slice tb (okE a) (okO lo) (okO hi) (okO st) q p
 | .call g q es p=>je_call K tb (okEL es) p
 | .callkw g q0 es k e q p=>je_callkw K tb (okEL es) (okE e) k q p
 | .meth o m es q p=>je_meth K tb (okE o) (okEL es) m q p
 | .attr o a p=>je_attr K tb (okE o) a p
 | .comp c e t it ifs r cs p=>je_comp K tb c (okE it) (okEL ifs) (okC r) (okE e)
 | .fit g a q1 q2 q3 p=>je_fit K tb (okE a) q1 q2 q3 p
 | .readc a q1 q2 q3 p=>je_readc K tb (okE a) q1 q2 q3 p
 | .shut i q p=>je_shut tb i q p
 | .tix i j q1 q2 q p=>je_tix tb i j q1 q2 q p
 | .raw x=>.no tb rfl
theorem okEL:∀ es:EL,JEL B A Φ Λ Gv gt tb kws es
 | .nil=>jel_nil tb
 | .cons e es=>jel_cons tb (okE e) (okEL es)
theorem okO:∀ o:OE,JO B A Φ Λ Gv gt tb kws o
 | .none=>jo_none tb
 | .some e=>jo_some tb (okE e)
theorem okC:∀ r:CL,JC B A Φ Λ Gv gt tb kws r
 | .nil=>jc_nil tb
 | .cons t it ifs r=>jc_cons K tb (okE it) (okEL ifs) (okC r)
end
end
end Mine
namespace Mine
open PySem
structure Lw (n:Nat) (F H:Lay):Prop where
 kf:∀ i x,i < n→Fat F i x→Fat H i x
 sub:∀ a∈H.flatten,a∈F.flatten
section
variable {fa:Nat→Addr} {h:Heap} {F G H:Lay} {n:Nat}
theorem flat_left {F G:Lay} {a:Addr} (h:a∈F.flatten):a∈(F++G).flatten:=by rw [List.flatten_append]; exact List.mem_append.mpr (.inl h)
theorem VR.low (w:Lw n F H) {v:V} {x:Value} (r:VR fa h F v x):v.low n=true→VR fa h H v x :=
 VR.rec (motive_1:=fun v x ζ=>v.low n=true→VR fa h H v x) (motive_2:=fun vs xs ζ=>lowL n vs=true→VRs fa h H vs xs) (fun ζ=>.none) (fun b ζ=>.bool b) (fun i t ζ=>.int i t) (fun t e b ζ=>.str t e b) (fun t e b ζ=>.bytes t e b) (fun e l=>.ref (w.kf _ _ (of_decide_eq_true l) e)) (fun e ζ b r l=>.tup e (r l) b) (fun e q ζ b r l=>.lst e (fun z=>q (w.sub _ z)) (r l) b) (fun e ζ=>.rng e) (fun f ζ=>.fn f) (fun b ζ=>.bi b) (fun t ζ=>.ty t) (fun ζ=>.nil) (fun ζ ζ a r l=>.cons (a (Bool.and_eq_true_iff.mp l).1) (r (Bool.and_eq_true_iff.mp l).2)) r
theorem VRs.low (w:Lw n F H) {vs:List V} {xs:List Value} (r:VRs fa h F vs xs):lowL n vs=true→VRs fa h H vs xs :=
 VRs.rec (motive_1:=fun v x ζ=>v.low n=true→VR fa h H v x) (motive_2:=fun vs xs ζ=>lowL n vs=true→VRs fa h H vs xs) (fun ζ=>.none) (fun b ζ=>.bool b) (fun i t ζ=>.int i t) (fun t e b ζ=>.str t e b) (fun t e b ζ=>.bytes t e b) (fun e l=>.ref (w.kf _ _ (of_decide_eq_true l) e)) (fun e ζ b r l=>.tup e (r l) b) (fun e q ζ b r l=>.lst e (fun z=>q (w.sub _ z)) (r l) b) (fun e ζ=>.rng e) (fun f ζ=>.fn f) (fun b ζ=>.bi b) (fun t ζ=>.ty t) (fun ζ=>.nil) (fun ζ ζ a r l=>.cons (a (Bool.and_eq_true_iff.mp l).1) (r (Bool.and_eq_true_iff.mp l).2)) r
theorem Lw.left:Lw F.length (F++G) F:=⟨fun ζ ζ l e=>⟨e.1,(List.getElem?_append_left l).symm.trans e.2⟩,fun ζ=>flat_left⟩
theorem Lw.one {as:List Addr} (h:∀ a∈as,a∈G.flatten):Lw F.length (F++G) (F++[as]) :=
 ⟨fun ζ ζ l e=>⟨e.1,(List.getElem?_append_left l).trans ((List.getElem?_append_left l).symm.trans e.2)⟩,fun a q=>by
  rw [List.flatten_append,List.mem_append] at q ⊢
  exact q.imp id fun q=>h a (by simpa using q)⟩
end
section
variable {B:Base} {A:Around} {F G H:Lay} {σ σ':Sto} {s s':Shared} {v:V} {x:Value} {gt tb:List Str} {vis:List (Nat × Bool)} {wv gl:List Nat} {env:Env} {loc loc':Loc} {W:Addr→Prop} {n:Nat}
theorem OR.low (w:Lw n F H) {o:O} {as:List Addr} (r:OR B s.heap F o as) (l:o.low n=true):OR B s.heap H o as:=by
 cases o with
 | list xs =>
  refine x2_4 (r) fun a items e p q z=>?_
  exact ⟨a,items,e,p,q.low w l,z⟩
 | lex text i line j =>
  obtain ⟨b,la,p,x,dx,st,sd,gv,cT,cA,e1,e2,L⟩:=r
  have l:=Bool.and_eq_true_iff.mp l
  exact ⟨b,la,p,x,dx,st,sd,gv,cT,cA,w.kf _ _ (of_decide_eq_true l.1) e1,w.kf _ _ (of_decide_eq_true l.2) e2,L⟩
 | cit l' fin =>
  refine x5_3 (r) fun it bm x xs tk q e e1=>?_
  exact ⟨it,bm,x,xs,tk,q,w.kf _ _ (of_decide_eq_true l) e,e1⟩
 | scr k xs=>exact r
theorem take_obj (I:Inv B (F++G) σ s) (w:Lw F.length (F++G) H) (l:stoLow F.length (σ.take F.length)=true):∀ (i:Nat) (o:O) (as:List Addr),(σ.take F.length)[i]?=some o→F[i]?=some as→OR B s.heap H o as:=fun i o as eo ef=>by
 have hi:i < F.length:=(List.getElem?_eq_some_iff.mp ef).1
 have eo':σ[i]?=some o:=by rw [List.getElem?_take_of_lt hi] at eo; exact eo
 exact (I.obj i o as eo' ((List.getElem?_append_left hi).trans ef)).low w (List.all_eq_true.mp l o (List.mem_of_getElem? eo))
theorem Inv.take (I:Inv B (F++G) σ s) (h0:0 < F.length) (l:stoLow F.length (σ.take F.length)=true):Inv B F (σ.take F.length) s:=by
 have hl:F.length≤σ.length:=by rw [← I.len,List.length_append]; exact Nat.le_add_right _ _
 have nd:=I.nodup
 rw [List.flatten_append,List.nodup_append] at nd
 exact ⟨I.old,I.lim,I.gens,I.os,by rw [List.length_take,Nat.min_eq_left hl],take_obj I .left l,nd.1,fun a ha=>I.fresh a (flat_left ha),I.tabs,I.tabo,I.tabc,I.low,by rw [List.getElem?_take_of_lt h0]; exact I.zero⟩
noncomputable def FlR (B:Base) (h:Heap) (F:Lay):Fl→Flow→Prop
 | .next,.next=>True
 | .brk,.brk=>True
 | .cont,.cont=>True
 | .ret v,.ret x=>VR B.fa h F v x
 | _,_=>False
noncomputable def SPost (B:Base) (tb:List Str) (vis:List (Nat × Bool)) (W:Addr→Prop) (env:Env) (F:Lay) (s:Shared) (fl:Fl) (loc:Loc) (σ:Sto) (f:Flow) (s':Shared):Prop :=
 ∃ G,StepW W B F s G s'∧Inv B (F++G) σ s'∧LR B tb vis env (F++G) loc s'.heap∧FlR B s'.heap (F++G) fl f
theorem SPost.back {f:Flow} {s₁ s₂:Shared} {fl:Fl} (T:StepW W B F s G s₁) (p:SPost B tb vis W env (F++G) s₁ fl loc σ f s₂) (hW:∀ a,W a→∃ o,s₁.heap.get? a=some o):SPost B tb vis W env F s fl loc σ f s₂:=by
 refine x1_4 (p) fun G' T' I L q=>?_
 refine ⟨G++G',T.trans T' I fun a w z=>?_,by rw [← List.append_assoc]; exact ⟨I,L,q⟩⟩
 refine x1_1 (hW a w) fun o e=>?_
 rw [T'.fresh a z] at e; exact noS e
theorem own_live {h:Heap} (L:LR B tb vis env F loc h):∀ a,OwnA tb wv env a→∃ o,h.get? a=some o:=fun ζ w=>let ⟨_,_,o,e,_⟩:=L.fr w.fr; ⟨o,e⟩
end
end Mine
namespace Mine
open PySem
noncomputable def E.isComp:E→Bool
 | .comp ..=>true
 | _=>false
noncomputable def E.isTup:E→Option EL
 | .tup es _=>some es
 | _=>none
section
variable (gt tb:List Str) (kws:Nat→Str→Bool) (Gv:Nat→Option V) (vis:List (Nat × Bool)) (wv gl:List Nat)
noncomputable def wfTg (t:Tg):Bool:=(tgSlots t).all (fun i=>wv.contains i)&&decide (tgSlots t).Nodup
mutual
noncomputable def wfS:S→Bool
 | .assign t e _=>wfE gt tb kws Gv vis gl e&&wfTg wv t&&(match e.isTup with
  | some es=>!((toEL gt tb es).all (constantsAlone 8))
  | none=>true)
 | .assignSub a i _ e _=>wfE gt tb kws Gv vis gl a&&wfE gt tb kws Gv vis gl i&&wfE gt tb kws Gv vis gl e
 | .aug i _ _ e _=>wv.contains i&&wfE gt tb kws Gv vis gl e
 | .augSub a i _ _ e _=>wfE gt tb kws Gv vis gl a&&wfE gt tb kws Gv vis gl i&&wfE gt tb kws Gv vis gl e
 | .expr e _=>wfE gt tb kws Gv vis gl e&&!e.isComp
 | .ret e _=>wfE gt tb kws Gv vis gl e
 | .cond t a b _=>wfE gt tb kws Gv vis gl t&&wfSL a&&wfSL b
 | .whil _ _ t a _=>wfE gt tb kws Gv vis gl t&&wfSL a
 | .loop _ t it a b _=>wfE gt tb kws Gv vis gl it&&wfTg wv t&&wfSL a&&wfSL b
 | .enum _ is tp g _ it a b _ _=>gl.contains g&&wfE gt tb kws Gv vis gl it&&wfTg wv (.tup is tp)&&wfSL a&&wfSL b
 | .inc o _ _ _=>wfE gt tb kws Gv vis gl o
 | .fitr _ i tp it a b _=>wfE gt tb kws Gv vis gl it&&wfTg wv (.name i tp)&&wfSL a&&wfSL b
 | .brk _=>true
 | .cont _=>true
 | .raw _=>true
noncomputable def wfSL:SL→Bool
 | .nil=>true
 | .cons s r=>wfS s&&wfSL r
end
end
section
variable {B:Base} {A:Around} {d:Nat} {Φ:Calls} {Λ:Lexer} {Gv:Nat→Option V} {gt:List Str} {mk:Me→Nat} {kws:Nat→Str→Bool} (K:Kit B A d Φ Λ Gv gt mk kws) (tb:List Str)
noncomputable def JS (B:Base) (A:Around) (Φ:Calls) (Λ:Lexer) (Gv:Nat→Option V) (gt tb:List Str) (kws:Nat→Str→Bool) (st:S):Prop :=
 ∀ vis wv gl env loc F σ s fl loc' σ',wfS gt tb kws Gv vis wv gl st=true→ER B gt tb vis wv gl env→Inv B F σ s→LR B tb vis env F loc s.heap→evS Φ Λ Gv st loc σ=some (fl,loc',σ') →
  wpAny (model B.prog B.w) A (exec (toS gt tb st) env) (SPost B tb vis (OwnA tb wv env) env F s fl loc' σ') Bot s
noncomputable def JSL (B:Base) (A:Around) (Φ:Calls) (Λ:Lexer) (Gv:Nat→Option V) (gt tb:List Str) (kws:Nat→Str→Bool) (st:SL):Prop :=
 ∀ vis wv gl env loc F σ s fl loc' σ',wfSL gt tb kws Gv vis wv gl st=true→ER B gt tb vis wv gl env→Inv B F σ s→LR B tb vis env F loc s.heap→evSL Φ Λ Gv st loc σ=some (fl,loc',σ') →
  wpAny (model B.prog B.w) A (execs (toSL gt tb st) env) (SPost B tb vis (OwnA tb wv env) env F s fl loc' σ') Bot s
variable {F G:Lay} {σ:Sto} {s s₁ s₂:Shared} {vis:List (Nat × Bool)} {wv gl:List Nat} {env:Env} {loc loc':Loc}
theorem sp_here (I:Inv B F σ s) (L:LR B tb vis env F loc s.heap) {fl:Fl} {f:Flow} {W:Addr→Prop} (h:FlR B s.heap F fl f):SPost B tb vis W env F s fl loc σ f s:=⟨[],.refl _ _ _ _,by rw [List.append_nil]; exact I,by rw [List.append_nil]; exact L,by rw [List.append_nil]; exact h⟩
theorem sp_step {σ₀:Sto} (I₀:Inv B F σ₀ s) (L₀:LR B tb vis env F loc s.heap) (T:Step B F s G s₁) (I:Inv B (F++G) σ s₁) {fl:Fl} {f:Flow} {W:Addr→Prop} (h:FlR B s₁.heap (F++G) fl f):SPost B tb vis W env F s fl loc σ f s₁:=⟨G,T.w,I,L₀.step I₀ T,h⟩
theorem sp_store {σ₀:Sto} (I₀:Inv B F σ₀ s) (L₀:LR B tb vis env F loc s.heap) (T:Step B F s G s₁) (p:StP B tb vis wv env (F++G) σ loc' s₁ s₂) {fl:Fl} {f:Flow} (h:FlR B s₂.heap (F++G) fl f):SPost B tb vis (OwnA tb wv env) env F s fl loc' σ f s₂:=by
 refine ⟨G,⟨fun b o e n=>p.keep b o (T.kept b o e fun z=>n (.inl z)) fun z=>n (.inr z),T.fresh⟩,p.inv,p.lr,h⟩
theorem js_brk (p:Pos):JS B A Φ Λ Gv gt tb kws (.brk p):=by
 intro vis wv gl env loc F σ s fl loc' σ' hw R I L e
 apply s3 e
 exact wpAny_Break (sp_here tb I L trivial)
theorem js_cont (p:Pos):JS B A Φ Λ Gv gt tb kws (.cont p):=by
 intro vis wv gl env loc F σ s fl loc' σ' hw R I L e
 apply s3 e
 exact wpAny_Continue (sp_here tb I L trivial)
include K in
theorem js_ret (a:E) (p:Pos):JS B A Φ Λ Gv gt tb kws (.ret a p):=by
 intro vis wv gl env loc F σ s fl loc' σ' hw R I L e
 refine x1_2 (map_is (es_ret.symm.trans e)) ?_
 (try clear e)
 intro ra ea e
 apply p3 e
 exact wpAny_Return_some (((okE K tb a vis wv gl env loc F σ s hw R I L).1 _ _ ea).seq fun x G s₁ T q=>sp_step tb I L T q.1 q.2)
theorem not_swap {a:E} (hr:∀ x,a≠.raw x) (hc:a.isComp=false) (t:Option Expr) (l:Nat):swapsWith (toE gt tb a) t l env=pure false:=by
 cases a <;> first | rfl | exact absurd rfl (hr _) | cases hc
include K in
theorem js_expr (a:E) (p:Pos):JS B A Φ Λ Gv gt tb kws (.expr a p):=by
 intro vis wv gl env loc F σ s fl loc' σ' hw R I L e
 refine x0_2 (bA1 hw) ?_
 (try clear hw)
 intro hw hc
 refine x1_2 (map_is (es_expr.symm.trans e)) ?_
 (try clear e)
 intro ra ea e
 apply p3 e
 exact wpAny_Expr_any (((okE K tb a vis wv gl env loc F σ s hw R I L).1 _ _ ea).seq fun x G s₁ T q=>sp_step tb I L T q.1 trivial) (by unfold interactive; rw [R.fn]; rfl) (not_swap tb (wf_raw hw) ((Bool.not_eq_true' _).mp hc) _ _)
theorem js_cond (K:Kit B A d Φ Λ Gv gt mk kws) {t:E} {a b:SL} (ha:JSL B A Φ Λ Gv gt tb kws a) (hb:JSL B A Φ Λ Gv gt tb kws b) (p:Pos):JS B A Φ Λ Gv gt tb kws (.cond t a b p):=by
 intro vis wv gl env loc F σ s fl loc' σ' hw R I L e
 have hw:=bA2 hw
 refine xP1_2 (bind_is (es_cond.symm.trans e)) ?_; (try clear e); intro c σ₁ et e
 refine wpAny_If (((okE K tb t vis wv gl env loc F σ s hw.1.1 R I L).2 _ _ et).seq fun x G s₁ T q=>?_)
 have L₁:=L.step I T
 rw [q.2]
 cases c with
 | true=>exact wpAny_mono (ha vis wv gl env loc _ σ₁ s₁ fl loc' σ' hw.1.2 R q.1 L₁ e) (fun f s₂ p=>p.back T.w (own_live L₁)) fun ζ ζ z=>z
 | false=>exact wpAny_mono (hb vis wv gl env loc _ σ₁ s₁ fl loc' σ' hw.2 R q.1 L₁ e) (fun f s₂ p=>p.back T.w (own_live L₁)) fun ζ ζ z=>z
theorem jsl_nil:JSL B A Φ Λ Gv gt tb kws .nil:=by
 intro vis wv gl env loc F σ s fl loc' σ' hw R I L e
 apply s3 e
 exact wpAny_execs_nil (sp_here tb I L trivial)
theorem sole_sub {e:E} (h:∀ x,e≠.raw x) {a i:Expr} {q:Pos} {l:Nat}:swapsWith (toE gt tb e) (some (.Subscript a i q)) l env=pure false:=by
 cases e <;> first | rfl | exact absurd rfl (h _)
theorem jsl_cons {a:S} {r:SL} (ha:JS B A Φ Λ Gv gt tb kws a) (hr:JSL B A Φ Λ Gv gt tb kws r):JSL B A Φ Λ Gv gt tb kws (.cons a r):=by
 intro vis wv gl env loc F σ s fl loc' σ' hw R I L e
 have hw:=bA1 hw
 refine x1_2 (bind_is (es_cons.symm.trans e)) ?_
 (try clear e)
 intro hw_254 ea e
 obtain ⟨fa,loc₁,σ₁⟩:=hw_254
 refine wpAny_execs_cons (wpAny_mono (ha vis wv gl env loc F σ s fa loc₁ σ₁ hw.1 R I L ea) (fun f s₁ p=>?_) fun ζ ζ z=>z)
 refine x1_4 (id p) fun G T I₁ L₁ q=>?_
 cases fa with
 | next =>
  cases f <;> first | exact q.elim | skip
  exact wpAny_mono (hr vis wv gl env loc₁ _ σ₁ s₁ fl loc' σ' hw.2 R I₁ L₁ e) (fun f s₂ p=>p.back T (own_live L₁)) fun ζ ζ z=>z
 | _=>apply s3 e; cases f <;> first | exact p | exact q.elim
include K in
theorem js_assignSub (a i:E) (q:Pos) (e:E) (p:Pos):JS B A Φ Λ Gv gt tb kws (.assignSub a i q e p):=by
 intro vis wv gl env loc F σ s fl loc' σ' hw R I L ev
 have hw:=bA2 hw
 refine xP1_2 (bind_is (es_assignSub.symm.trans ev)) fun ve σ₁ ee e1=>?_
 refine xP1_2 (bind_is e1) fun va σ₂ ea e2=>?_
 refine xP1_2 (bind_is e2) fun vi σ₃ ei e3=>?_
 refine x1_2 (map_is e3) fun σ₄ es e4=>?_
 apply p3 e4
 refine wpAny_Assign_Subscript (((okE K tb e vis wv gl env loc F σ s hw.2 R I L).1 _ _ ee).seq fun xe G₁ s₁ T₁ p₁=>?_) (sole_sub tb (wf_raw hw.2))
 have L₁:=L.step I T₁
 refine ((okE K tb a vis wv gl env loc _ σ₁ s₁ hw.1.1 R p₁.1 L₁).1 _ _ ea).seq fun xa G₂ s₂ T₂ p₂=>?_
 have L₂:=L₁.step p₁.1 T₂
 refine ((okE K tb i vis wv gl env loc _ σ₂ s₂ hw.1.2 R p₂.1 L₂).1 _ _ ei).seq fun xi G₃ s₃ T₃ p₃=>?_
 have L₃:=L₂.step p₂.1 T₃
 refine (set_ok (A:=A) p₃.1 (p₂.2.along p₂.1 T₃) p₃.2 ((p₁.2.along p₁.1 T₂).along p₂.1 T₃) es).seq fun ζ G₄ s₄ T₄ p₄=>?_
 exact (((sp_step tb p₃.1 L₃ T₄ p₄ (f:=.next) (fl:=.next) trivial).back T₃.w (own_live L₃)).back T₂.w (own_live L₂)).back T₁.w (own_live L₁)
end
end Mine
namespace Mine
open PySem
section
variable {B:Base} {A:Around} {d:Nat} {Φ:Calls} {Λ:Lexer} {Gv:Nat→Option V} {gt:List Str} {mk:Me→Nat} {kws:Nat→Str→Bool} (K:Kit B A d Φ Λ Gv gt mk kws) (tb:List Str)
variable {F G:Lay} {σ:Sto} {s s₁ s₂:Shared} {vis:List (Nat × Bool)} {wv gl:List Nat} {env:Env} {loc loc':Loc}
theorem wv_vis (R:ER B gt tb vis wv gl env) {i:Nat} (hi:i∈wv):∃ c,(i,c)∈vis:=by
 rcases R.wr i hi with q | ⟨q,_⟩
 ·exact ⟨_,q⟩
 ·exact ⟨_,q⟩
include K in
theorem js_aug (i:Nat) (q:Pos) (op:Operator) (e:E) (p:Pos):JS B A Φ Λ Gv gt tb kws (.aug i q op e p):=by
 intro vis wv gl env loc F σ s fl loc' σ' hw R I L ev
 have hw:=bA1 hw
 have hi:=List.contains_iff_mem.mp hw.1
 refine x1_2 (bind_is (es_aug.symm.trans ev)) fun o hu e1=>?_
 refine x1_2 (bind_is e1) fun u hq_255 e2=>?_
 subst hq_255
 refine xP1_2 (bind_is e2) fun ve σ₁ ee e3=>?_
 refine xP1_2 (map_is e3) fun vo σ₂ eo e4=>?_
 cases e4
 refine x1_1 (wv_vis tb R hi) fun c hc=>?_
 refine wpAny_AugAssign_Name (var_ok R L hc hu fun x rx=>?_)
 refine ((okE K tb e vis wv gl env loc F σ s hw.2 R I L).1 _ _ ee).seq fun y G₁ s₁ T₁ p₁=>?_
 have L₁:=L.step I T₁
 refine (aug_ok K.room p₁.1 (rx.along I T₁) p₁.2 eo).seq fun z G₂ s₂ T₂ p₂=>?_
 refine store_ok R p₂.1 (L₁.step p₁.1 T₂) hi p₂.2 fun s₃ p₃=>?_
 exact (sp_store tb p₁.1 L₁ T₂ p₃ (fl:=.next) (f:=.next) trivial).back T₁.w (own_live L₁)
include K in
theorem js_augSub (a i:E) (q:Pos) (op:Operator) (e:E) (p:Pos):JS B A Φ Λ Gv gt tb kws (.augSub a i q op e p):=by
 intro vis wv gl env loc F σ s fl loc' σ' hw R I L ev
 have hw:=bA2 hw
 refine xP1_2 (bind_is (es_augSub.symm.trans ev)) fun va σ₁ ea e1=>?_
 refine xP1_2 (bind_is e1) fun vi σ₂ ei e2=>?_
 refine x1_2 (bind_is e2) fun old eo e3=>?_
 refine xP1_2 (bind_is e3) fun ve σ₃ ee e4=>?_
 refine xP1_2 (bind_is e4) fun vn σ₄ en e5=>?_
 refine x1_2 (map_is e5) fun σ₅ es e6=>?_
 apply p3 e6
 refine wpAny_AugAssign_SubscriptAny (((okE K tb a vis wv gl env loc F σ s hw.1.1 R I L).1 _ _ ea).seq fun xa G₁ s₁ T₁ p₁=>?_) (by
  have:=wf_raw hw.1.2
  cases i <;> first | (intros; rfl) | exact absurd rfl (this _))
 have L₁:=L.step I T₁
 refine ((okE K tb i vis wv gl env loc _ σ₁ s₁ hw.1.2 R p₁.1 L₁).1 _ _ ei).seq fun xi G₂ s₂ T₂ p₂=>?_
 have L₂:=L₁.step p₁.1 T₂
 have ra:=p₁.2.along p₁.1 T₂
 refine (sub_ok (A:=A) p₂.1 ra p₂.2 eo).1.seq fun xo G₃ s₃ T₃ p₃=>?_
 have L₃:=L₂.step p₂.1 T₃
 refine ((okE K tb e vis wv gl env loc _ σ₂ s₃ hw.2 R p₃.1 L₃).1 _ _ ee).seq fun xe G₄ s₄ T₄ p₄=>?_
 have L₄:=L₃.step p₃.1 T₄
 refine (aug_ok K.room p₄.1 (p₃.2.along p₃.1 T₄) p₄.2 en).seq fun xn G₅ s₅ T₅ p₅=>?_
 have L₅:=L₄.step p₄.1 T₅
 refine (set_ok (A:=A) p₅.1 (((ra.along p₂.1 T₃).along p₃.1 T₄).along p₄.1 T₅) (((p₂.2.along p₂.1 T₃).along p₃.1 T₄).along p₄.1 T₅) p₅.2 es).seq fun ζ G₆ s₆ T₆ p₆=>?_
 exact (((((sp_step tb p₅.1 L₅ T₆ p₆ (f:=.next) (fl:=.next) trivial).back T₅.w (own_live L₅)).back T₄.w (own_live L₄)).back T₃.w (own_live L₃)).back T₂.w (own_live L₂)).back T₁.w (own_live L₁)
theorem E.isComp_is {e:E} (h:e.isComp=true):∃ c e₀ t it ifs r cs pos,e=.comp c e₀ t it ifs r cs pos:=by
 cases e <;> first | exact ⟨_,_,_,_,_,_,_,_,rfl⟩ | exact noT h
theorem sp_drop {v:V} {D C:Addr} {s':Shared} {h':Heap} (c:CDone B F σ v s D C G s') (L:LR B tb vis env F loc s.heap) (p:StP B tb vis wv env (F++G) σ loc' s' s₂) (hs:Heap.SameBut C s₂.heap h'):SPost B tb vis (OwnA tb wv env) env F s .next loc' σ .next { s₂ with heap:=h' }:=by
 refine x1_1 (c.ns) fun m nm=>?_
 have nF:∀ b,Fr env b→b≠C:=fun b w z=>by
  obtain ⟨_,_,o,e,_⟩:=L.fr w
  rw [z,c.dead] at e; exact noS e
 have kp:Kept (·=C) s₂.heap h':=.of_same hs
 have nm₂:s₂.heap.Ns C m:=nm.at' fun o eo=>p.keep C o eo fun w=>nF C w.fr rfl
 have nn:∀ b o,b=C→s₂.heap.get? b=some o→B.h0.get? b=none∧b∉(F++G).flatten∧¬ Imm o:=fun b o w eo=>by
  subst w; exact ⟨c.h0,c.off,ns_not_imm nm₂ eo⟩
 refine ⟨G,⟨fun b o eo n=>kp b o (p.keep b o (c.step.kept b o eo fun z=>n (.inl z)) fun z=>n (.inr z)) fun z=>?_,c.step.fresh⟩,p.inv.keep (tk:=s₂.toks) kp nn,p.lr.mv (fun b o w eo=>kp b o eo (nF b w)) (.of_kept kp fun b o w e=>.of (nn b o w e).2.2) fun b w=>(p.lr.fr w).1,trivial⟩
 rw [z,c.dead] at eo; exact noS eo
include K in
theorem js_assignName (i:Nat) (q:Pos) (e:E) (p:Pos):JS B A Φ Λ Gv gt tb kws (.assign (.name i q) e p):=by
 intro vis wv gl env loc F σ s fl loc' σ' hw R I L ev
 obtain ⟨⟨hwe,hwt⟩,_⟩:=bA2 hw
 have hi:i∈wv:=List.contains_iff_mem.mp (List.all_eq_true.mp (bA1 hwt).1 i (.head _))
 refine xP1_2 (bind_is (es_assign.symm.trans ev)) fun ve σ₁ ee e1=>?_
 refine x1_2 (map_is e1) fun loc₁ eb e2=>?_
 cases e2
 refine x0_2 (ite_is eb) fun ζ hq_256=>?_
 subst hq_256
 have plain:swapsWith (toE gt tb e) (some (.Name (nmOf tb i) q)) p.line env=pure false→wpAny (model B.prog B.w) A (exec (.Assign [.Name (nmOf tb i) q] (toE gt tb e) p) env) (SPost B tb vis (OwnA tb wv env) env F s .next (loc.set i (some ve)) σ₁) Bot s:=fun hs =>
  wpAny_Assign_Name (((okE K tb e vis wv gl env loc F σ s hwe R I L).1 _ _ ee).seq fun x G₁ s₁ T₁ p₁=>store_ok R p₁.1 (L.step I T₁) hi p₁.2 fun s₂ p₂=>sp_store tb I L T₁ p₂ trivial) hs
 cases hc:e.isComp with
 | false=>exact plain (not_swap tb (wf_raw hwe) hc _ _)
 | true =>
  refine x8_1 (E.isComp_is hc) fun cell e₀ t it ifs r cs pos hq=>?_
  subst hq
  show wpAny _ _ (exec (.Assign [.Name (nmOf tb i) q] (.ListComp (toE gt tb e₀) (toCL gt tb (.cons t it ifs r)) cs.sc pos) p) env) _ _ _
  obtain ⟨b,hb⟩:∃ b:Bool,swapsWith (.ListComp (toE gt tb e₀) (toCL gt tb (.cons t it ifs r)) cs.sc pos) (some (.Name (nmOf tb i) q)) p.line env=pure b:=⟨_,rfl⟩
  cases b with
  | false=>exact plain hb
  | true =>
   rw [exec_Assign_Name_used _ _ _ _ hb]
   refine wpAny_bind (wpAny_standAt (wpAny_bind ?_))
   show wpAny _ _ (comprehension _ _ _ _ _ _ _ _ >>= _) _ _ _
   refine wpAny_bind (comp_use K tb (okE K tb it) (okEL K tb ifs) (okC K tb r) (okE K tb e₀) hwe R I L ee fun D C G s' c=>?_)
   show wpAny _ _ (assign (.Name (nmOf tb i) q) env (.ref D)) _ _ s'
   refine wpAny_assign_Name (store_ok R c.pe.1 (L.step I c.step) hi c.pe.2 fun s₂ p₂=>?_)
   refine x1_1 (c.ns) fun m nm=>?_
   exact ⟨m,nm.at' fun o eo=>p₂.keep C o eo fun w=>(by refine x1_1 (own_live (wv:=wv) L C w) fun o eo=>?_; rw [c.dead] at eo; cases eo),fun h' hs=>wpAny_pure (wpAny_pure (sp_drop tb c L p₂ hs))⟩
end
end Mine
namespace Mine
open PySem
theorem fm_full {α β:Type} {f:α→Option β} {g:α→β} (hg:∀ a b,f a=some b→b=g a):∀ {l:List α},(l.filterMap f).length=l.length→l.filterMap f=l.map g
 | [],_=>rfl
 | a :: l,h=>by
  rw [List.filterMap_cons] at h ⊢
  cases q:f a with
  | none =>
   rw [q] at h
   have:=List.length_filterMap_le f l
   simp only [List.length_cons] at h
   (first | lia | omega)
  | some b =>
   rw [q] at h
   simp only [List.length_cons,Nat.add_right_cancel_iff] at h
   simp only [List.map_cons]
   rw [fm_full hg h,hg a b q]
theorem zip_rev {α β:Type}:∀ {l:List α} {m:List β},l.length=m.length→l.reverse.zip m.reverse=(l.zip m).reverse
 | [],[],_=>rfl
 | a :: l,b :: m,h=>by
  simp only [List.length_cons,Nat.add_right_cancel_iff] at h
  rw [List.reverse_cons,List.reverse_cons,List.zip_cons_cons,List.reverse_cons,List.zip_append (by simp [h]),zip_rev h]
  rfl
theorem VRs.reverse {fa:Nat→Addr} {h:Heap} {F:Lay} {vs:List V}:∀ {xs:List Value},VRs fa h F vs xs→VRs fa h F vs.reverse xs.reverse:=by
 induction vs with
 | nil=>intro xs r; rw [r.nil_is]; exact .nil
 | cons v vs ih =>
  intro xs r
  refine x2_3 (r.cons_is) ?_; (try clear r); intro x ys hq_258 a r
  apply q1 hq_258
  rw [List.reverse_cons,List.reverse_cons]
  exact (ih r).append (.one a)
section
variable {B:Base} {A:Around} {d:Nat} {Φ:Calls} {Λ:Lexer} {Gv:Nat→Option V} {gt:List Str} {mk:Me→Nat} {kws:Nat→Str→Bool} (K:Kit B A d Φ Λ Gv gt mk kws) (tb:List Str)
variable {F G:Lay} {σ:Sto} {s s₁ s₂:Shared} {vis:List (Nat × Bool)} {wv gl:List Nat} {env:Env} {loc loc':Loc}
set_option tactic.hygienic true in
theorem swap_cases (is:List (Nat × Pos)) (vs:List Expr) (p q:Pos) (hc:vs.all (constantsAlone 8)=false) :
  swappedStores [.Tuple (is.map fun x=>.Name (nmOf tb x.1) x.2) 0 p] (.Tuple vs 0 q) env=pure none∨swappedStores [.Tuple (is.map fun x=>.Name (nmOf tb x.1) x.2) 0 p] (.Tuple vs 0 q) env=pure (some (is.map fun x=>nmOf tb x.1)):=by
 unfold swappedStores
 dsimp only
 split
 ·exact .inl rfl
 ·split
  ·exact .inl rfl
  ·split
   ·exact .inl rfl
   ·rename_i h
    split
    ·exact .inl rfl
    ·rw [hc]
     refine .inr ?_
     simp only [Bool.false_eq_true,if_false]
     rw [Bool.or_eq_true,not_or] at h
     have h1:=Decidable.not_not.mp fun z=>h.1 (bne_iff_ne.mpr z)
     rw [fm_full (g:=fun e=>match e with | .Name id _=>id | _=>Str.empty) (fun a b q=>?_) h1,List.map_map]
     ·rfl
     ·split at q
      ·split at q
       ·cases q; rfl
       ·exact noS q
      ·exact noS q
theorem E.isTup_is {e:E} {es:EL} (h:e.isTup=some es):∃ p,e=.tup es p:=by
 cases e <;> first | (cases h; exact ⟨_,rfl⟩) | exact noS h
theorem sole_not (is:List (Nat × Pos)) (q:Pos) {e:E} (h:∀ x,e≠.raw x) (n:Nat):swapsWithSole [toTg tb (.tup is q)] (toE gt tb e) n env=pure false:=by
 cases e <;> first | rfl | exact absurd rfl (h _)
theorem stores_not (is:List (Nat × Pos)) (q:Pos) {e:E} (h:∀ x,e≠.raw x) (hc:e.isTup=none):swappedStores [.Tuple (is.map fun x=>.Name (nmOf tb x.1) x.2) 0 q] (toE gt tb e) env=pure none:=by
 cases e <;> first | rfl | exact absurd rfl (h _) | cases hc
include K in
theorem js_assignTup (is:List (Nat × Pos)) (q:Pos) (e:E) (p:Pos):JS B A Φ Λ Gv gt tb kws (.assign (.tup is q) e p):=by
 intro vis wv gl env loc F σ s fl loc' σ' hw R I L ev
 rw [show toS gt tb (.assign (.tup is q) e p)=Stmt.Assign [Expr.Tuple (is.map fun x=>.Name (nmOf tb x.1) x.2) 0 q] (toE gt tb e) p from rfl]
 obtain ⟨⟨hwe,hwt⟩,hwc⟩:=bA2 hw
 have hwt:=bA1 hwt
 have ht:∀ i∈tgSlots (.tup is q),i∈wv:=fun i hi=>List.contains_iff_mem.mp (List.all_eq_true.mp hwt.1 i hi)
 refine xP1_2 (bind_is (es_assign.symm.trans ev)) fun ve σ₁ ee e1=>?_
 refine x1_2 (map_is e1) fun loc₁ eb e2=>?_
 cases e2
 have hs:swapsWithSole [Expr.Tuple (is.map fun x=>.Name (nmOf tb x.1) x.2) 0 q] (toE gt tb e) p.line env=pure false:=sole_not tb is q (wf_raw hwe) _
 have main:wpAny (model B.prog B.w) A (eval (toE gt tb e) env) (fun v s₁=>wpAny (model B.prog B.w) A (assign (Expr.Tuple (is.map fun x=>.Name (nmOf tb x.1) x.2) 0 q) env v) (fun ζ=>SPost B tb vis (OwnA tb wv env) env F s .next loc' σ₁ .next) Bot s₁) Bot s :=
  ((okE K tb e vis wv gl env loc F σ s hwe R I L).1 _ _ ee).seq fun x G₁ s₁ T₁ p₁=>bind_ok K.room.handled R p₁.1 (L.step I T₁) (t:=.tup is q) ht p₁.2 eb fun s₂ p₂=>sp_store tb I L T₁ p₂ trivial
 cases hc:e.isTup with
 | none=>exact PyProof.Rows.Assign_Tuple main hs (stores_not tb is q (wf_raw hwe) hc)
 | some es =>
  refine x1_1 (E.isTup_is hc) fun p' hq_259=>?_
  subst hq_259
  rw [show (E.tup es p').isTup=some es from rfl] at hwc
  dsimp only at hwc
  rw [Bool.not_eq_true'] at hwc
  rcases swap_cases tb (env:=env) is (toEL gt tb es) q p' hwc with hsw | hsw
  ·exact PyProof.Rows.Assign_Tuple main hs hsw
  ·refine x1_2 (bind_is eb) ?_
   (try clear eb)
   intro vs hv eb
   refine x0_2 (ite_is eb) fun hl hq_260=>?_
   apply q2 hq_260
   refine PyProof.Rows.Assign_Tuple_swapped (((okE K tb (.tup es p') vis wv gl env loc F σ s hwe R I L).1 _ _ ee).seq fun x G₁ s₁ T₁ p₁=>?_) hs hsw
   have L₁:=L.step I T₁
   have hl':(is.map (·.1)).length=vs.length:=by rw [List.length_map,hl]
   rw [show (is.map fun x=>nmOf tb x.1).length=vs.length by rw [List.length_map,hl]]
   refine unpack_ok K.room.handled p₁.1 p₁.2 hv fun xs s₂ I₂ k₂ rs=>?_
   have em:((is.map fun x=>nmOf tb x.1).reverse.map fun n=>bindName env n)=((is.map (·.1)).reverse.map fun i=>bindName env (nmOf tb i)):=by
    rw [← List.map_reverse,← List.map_reverse,List.map_map,List.map_map]; rfl
   rw [em]
   refine stores_ok (key:=id) R (fun i=>bindName env (nmOf tb i)) (fun i x s Q E h=>wpAny_bindName h) _ vs.reverse xs.reverse loc s₂ _ (fun i hi=>ht i (List.mem_reverse.mp (by rw [List.map_id] at hi; exact hi))) (by rw [List.length_reverse,List.length_reverse]; exact hl') I₂ (L₁.mv (fun b o ζ e=>k₂ b o e) (.of k₂) fun b w=>(L₁.fr w).1) rs.reverse fun s₃ p₃=>?_
   rw [List.map_id,zip_rev hl',setAll_reverse _ _ (by rw [List.map_fst_zip (Nat.le_of_eq hl')]; exact of_decide_eq_true hwt.2),← fold_setAll] at p₃
   exact sp_store tb I L T₁ ⟨p₃.inv,p₃.lr,fun b o e w=>p₃.keep b o (k₂ b o e) w⟩ trivial
end
end Mine
namespace Mine
open PySem
section
variable {B:Base} {A:Around} {d:Nat} {Φ:Calls} {Λ:Lexer} {Gv:Nat→Option V} {gt:List Str} {mk:Me→Nat} {kws:Nat→Str→Bool} (K:Kit B A d Φ Λ Gv gt mk kws) (tb:List Str)
noncomputable def stR (P:Flow→Shared→Prop):Result→Shared→Prop:=fun r s'=>match r with
 | .ok f=>P f s'
 | .error _=>False
noncomputable def BodyQ (P:Flow→Shared→Prop) (n:Nat) (J:Nat→Shared→Prop) (f:Flow) (s₃:Shared):Prop:=match f with
 | .next | .cont=>∃ m,m < n∧J m s₃
 | .brk=>stR P (.ok .next) s₃
 | .ret v=>stR P (.ok (.ret v)) s₃
noncomputable def Rest (V:Loc→Sto→Option (Fl × Loc × Sto)) (r:Fl × Loc × Sto) (y:Bool × (Fl × Loc) × Sto):Prop:=if y.1 then V y.2.1.2 y.2.2=some r else (y.2.1.1,y.2.1.2,y.2.2)=r
theorem whileN_is {t:Loc→Sto→Option (Bool × Sto)} {b:Loc→Sto→Option (Bool × (Fl × Loc) × Sto)} {n:Nat} {loc:Loc} {σ:Sto} {r:Fl × Loc × Sto} (e:whileN t b n loc σ=some r):∃ m c,n=m+1∧t loc σ=some c∧if c.1 then ∃ y,b loc c.2=some y∧Rest (whileN t b m) r y else (Fl.next,loc,c.2)=r:=by
 cases n with
 | zero=>exact noS e
 | succ m =>
  refine x1_2 (bind_is e) ?_
  (try clear e)
  intro c et e
  refine ⟨m,c,rfl,et,?_⟩
  by_cases hc:c.1=true
  ·rw [if_pos hc] at e ⊢
   refine x1_2 (bind_is e) ?_
   (try clear e)
   intro y eb e
   refine ⟨y,eb,?_⟩
   unfold Rest
   by_cases hy:y.1=true
   ·rw [if_pos hy] at e ⊢; exact e
   ·rw [if_neg hy] at e ⊢; exact Option.some.inj e
  ·rw [if_neg hc] at e ⊢; exact Option.some.inj e
section
variable {vis:List (Nat × Bool)} {wv gl:List Nat} {W:Addr→Prop} {env:Env} {F:Lay} {σ:Sto} {loc:Loc} {s s₃:Shared} {r:Fl × Loc × Sto} {clr:List Nat}
noncomputable def LoopX (B:Base) (tb:List Str) (vis:List (Nat × Bool)) (W:Addr→Prop) (env:Env) (F:Lay) (s:Shared) (S:Nat→Lay→Sto→Heap→Prop) (P:Nat→Loc→Sto→Prop) (s₁:Shared):Prop :=
 ∃ G k loc σ,StepW W B F s G s₁∧Inv B (F++G) σ s₁∧LR B tb vis env (F++G) loc s₁.heap∧S k (F++G) σ s₁.heap∧P k loc σ
theorem body_end {V:Loc→Sto→Option (Fl × Loc × Sto)} {x:Fl × Loc × Sto} {f:Flow} {m n:Nat} {J:Nat→Shared→Prop} {P:Flow→Shared→Prop} (p:SPost B tb vis W env F s x.1 x.2.1 x.2.2 f s₃) (e:Rest V r (turn clr x)) (hm:m < n) (hP:∀ f,SPost B tb vis W env F s r.1 r.2.1 r.2.2 f s₃→P f s₃)
  (hJ:∀ G loc,StepW W B F s G s₃→Inv B (F++G) x.2.2 s₃→LR B tb vis env (F++G) loc s₃.heap→V loc x.2.2=some r→J m s₃):BodyQ P n J f s₃:=by
 refine x1_4 (p) fun G T I L q=>?_
 obtain ⟨fb,l2,σ₃⟩:=x
 have L':=L.weak (loc':=clear clr l2) fun i v e=>(clear_get _ _ _ _ e).1
 cases fb with
 | next=>cases f <;> first | exact q.elim | exact ⟨m,hm,hJ G _ T I L' e⟩
 | cont=>cases f <;> first | exact q.elim | exact ⟨m,hm,hJ G _ T I L' e⟩
 | brk=>cases e; cases f <;> first | exact q.elim | exact hP _ ⟨G,T,I,L,trivial⟩
 | ret v=>cases e; cases f <;> first | exact q.elim | exact hP _ ⟨G,T,I,L,q⟩
theorem SPost.backP {G:Lay} {s₁:Shared} (I:Inv B (F++G) σ s₁) (L:LR B tb vis env (F++G) loc s₁.heap) (T:StepW (OwnA tb wv env) B F s G s₁):∀ f,SPost B tb vis (OwnA tb wv env) env (F++G) s₁ r.1 r.2.1 r.2.2 f s₃→SPost B tb vis (OwnA tb wv env) env F s r.1 r.2.1 r.2.2 f s₃:=fun ζ p=>p.back T (own_live L)
theorem StepW.own {G G':Lay} {s₁:Shared} (T:StepW (OwnA tb wv env) B F s G s₁) (L:LR B tb vis env (F++G) loc s₁.heap) (T':StepW (OwnA tb wv env) B (F++G) s₁ G' s₃) (I:Inv B (F++G++G') σ s₃):StepW (OwnA tb wv env) B F s (G++G') s₃:=T.trans T' I fun a w z=>by
 refine x1_1 (own_live L a w) fun o eo=>?_
 rw [T'.fresh a z] at eo; exact noS eo
theorem LoopX.on {S:Nat→Lay→Sto→Heap→Prop} {P:Nat→Loc→Sto→Prop} {G G':Lay} {s₁:Shared} {loc':Loc} {σ':Sto} {k:Nat} (T:StepW (OwnA tb wv env) B F s G s₁) (L:LR B tb vis env (F++G) loc s₁.heap) (T':StepW (OwnA tb wv env) B (F++G) s₁ G' s₃) (I:Inv B (F++G++G') σ' s₃) (L':LR B tb vis env (F++G++G') loc' s₃.heap) (hS:S k (F++G++G') σ' s₃.heap) (hP:P k loc' σ'):LoopX B tb vis (OwnA tb wv env) env F s S P s₃ :=
 ⟨G++G',k,loc',σ',StepW.own tb T L T' I,by rw [← List.append_assoc]; exact ⟨I,L',hS,hP⟩⟩
theorem LoopX.start {S:Nat→Lay→Sto→Heap→Prop} {P:Nat→Loc→Sto→Prop} {k:Nat} {s':Shared} (I:Inv B F σ s') (L:LR B tb vis env F loc s'.heap) (kp:∀ b o,s.heap.get? b=some o→s'.heap.get? b=some o) (hS:S k F σ s'.heap) (hP:P k loc σ):LoopX B tb vis W env F s S P s' :=
 ⟨[],k,loc,σ,⟨fun b o e ζ=>kp b o e,fun ζ h=>by cases h⟩,by rw [List.append_nil]; exact ⟨I,L,hS,hP⟩⟩
end
theorem whil_turn (K:Kit B A d Φ Λ Gv gt mk kws) {clr:List Nat} {t:E} {a:SL} (ha:JSL B A Φ Λ Gv gt tb kws a) {vis:List (Nat × Bool)} {wv gl:List Nat} {env:Env} {F:Lay} {s:Shared} (hwt:wfE gt tb kws Gv vis gl t=true) (hwa:wfSL gt tb kws Gv vis wv gl a=true) (R:ER B gt tb vis wv gl env) {r:Fl × Loc × Sto} {n:Nat} {s₁:Shared} {J:Nat→Shared→Prop}
  (hJ:∀ m s',LoopX B tb vis (OwnA tb wv env) env F s (fun ζ ζ ζ ζ=>True) (fun ζ l σ=>whileN (fun loc σ=>evT Φ Λ Gv t loc σ) (fun loc σ=>(evSL Φ Λ Gv a loc σ).map (turn clr)) m l σ=some r) s'→J m s')
  (h:LoopX B tb vis (OwnA tb wv env) env F s (fun ζ ζ ζ ζ=>True) (fun ζ l σ=>whileN (fun loc σ=>evT Φ Λ Gv t loc σ) (fun loc σ=>(evSL Φ Λ Gv a loc σ).map (turn clr)) n l σ=some r) s₁) {E:Value→Shared→Prop} :
  wpAny (model B.prog B.w) A (PySem.isTrue (toE gt tb t) env (eval (toE gt tb t) env)) (fun b s₂=>if b then wpAny (model B.prog B.w) A (execs (toSL gt tb a) env) (BodyQ (SPost B tb vis (OwnA tb wv env) env F s r.1 r.2.1 r.2.2) n J) E s₂ else wpAny (model B.prog B.w) A (execs [] env) (fun f s₃=>stR (SPost B tb vis (OwnA tb wv env) env F s r.1 r.2.1 r.2.2) (.ok f) s₃) E s₂) E s₁:=by
 refine x4_5 (h) fun G ζ loc₁ σ₁ T I₁ L₁ ζ e=>?_
 refine x2_3 (whileN_is e) ?_
 (try clear e)
 intro m c hq_261 et e
 apply q1 hq_261
 refine wpAny_mono ((okE K tb t vis wv gl env loc₁ _ σ₁ s₁ hwt R I₁ L₁).2 c.1 c.2 et) (fun b s₂ ⟨G₂,T₂,I₂,hb⟩=>?_) fun ζ ζ z=>z.elim
 have L₂:=L₁.step I₁ T₂
 have T₃:=StepW.own tb T L₁ T₂.w I₂
 rw [List.append_assoc] at L₂ I₂
 rw [hb]
 by_cases hc:c.1=true
 ·rw [if_pos hc] at e ⊢
  refine x1_2 (e) ?_; (try clear e); intro y eb e
  refine x1_2 (map_is eb) fun x ex hq_262=>?_
  subst hq_262
  exact wpAny_mono (ha vis wv gl env loc₁ _ c.2 s₂ x.1 x.2.1 x.2.2 hwa R I₂ L₂ ex) (fun f s₃ p₃=>body_end tb p₃ e (Nat.lt_succ_self m) (SPost.backP tb I₂ L₂ T₃) fun G' loc' T' I' L' e'=>hJ m s₃ (.on (k:=0) tb T₃ L₂ T' I' L' trivial e')) fun ζ ζ z=>z.elim
 ·rw [if_neg hc] at e ⊢
  apply q2 e
  exact wpAny_execs_nil ⟨G++G₂,T₃,I₂,L₂,trivial⟩
theorem js_whil (K:Kit B A d Φ Λ Gv gt mk kws) {fuel:Nat} {clr:List Nat} {t:E} {a:SL} (ha:JSL B A Φ Λ Gv gt tb kws a) (p:Pos):JS B A Φ Λ Gv gt tb kws (.whil fuel clr t a p):=by
 intro vis wv gl env loc F σ s fl loc' σ' hw R I L ev
 have hw:=bA1 hw
 refine wpAny_While (codeAny_mono (codeAny_whileLoop (R:=stR (SPost B tb vis (OwnA tb wv env) env F s fl loc' σ')) (fun n=>LoopX B tb vis (OwnA tb wv env) env F s (fun ζ ζ ζ ζ=>True) (fun ζ l σ=>whileN (fun loc σ=>evT Φ Λ Gv t loc σ) (fun loc σ=>(evSL Φ Λ Gv a loc σ).map (turn clr)) n l σ=some (fl,loc',σ')))
  (fun n s₁ h=>whil_turn (r:=(fl,loc',σ')) tb K ha hw.1 hw.2 R (fun ζ ζ h=>h) h) fuel (.start tb (k:=0) I L (fun ζ ζ e=>e) trivial (es_whil.symm.trans ev))) fun r s' h=>?_)
 cases r with
 | ok f=>exact h
 | error z=>exact h.elim
end
end Mine
namespace Mine
open PySem
section
variable {B:Base} {A:Around} {d:Nat} {Φ:Calls} {Λ:Lexer} {Gv:Nat→Option V} {gt:List Str} {mk:Me→Nat} {kws:Nat→Str→Bool} (K:Kit B A d Φ Λ Gv gt mk kws) (tb:List Str)
theorem turn_on {clr:List Nat} {x:Fl × Loc × Sto} (h:(turn clr x).1=true):(turn clr x).2.1=(.next,(turn clr x).2.1.2):=by
 obtain ⟨fb,l,σ⟩:=x
 cases fb <;> first | rfl | exact noT h
theorem rest_of {clr:List Nat} {x:Fl × Loc × Sto} {r:Fl × Loc × Sto} {go:Fl × Loc→Sto→Option (Bool × (Fl × Loc) × Sto)} {K:Loc→Sto→Option (Fl × Loc × Sto)} {z:Bool × (Fl × Loc) × Sto} (e:if (turn clr x).1 then go (turn clr x).2.1 (turn clr x).2.2=some z else z=turn clr x) (hz:endF K z=some r):Rest (fun l s=>(go (.next,l) s).bind (endF K)) r (turn clr x):=by
 unfold Rest
 by_cases h:(turn clr x).1=true
 ·rw [if_pos h] at e ⊢
  rw [turn_on h] at e
  exact Option.bind_eq_some_iff.mpr ⟨z,e,hz⟩
 ·rw [if_neg h] at e ⊢
  subst e
  unfold endF at hz
  rw [if_neg h] at hz
  exact Option.some.inj hz
theorem loop_is {clr:List Nat} {t:Tg} {a:SL} {n k:Nat} {it:It} {loc:Loc} {σ:Sto} {r:Fl × Loc × Sto} {K:Loc→Sto→Option (Fl × Loc × Sto)} (e:(iterate (loopStep Φ Λ Gv clr t a) it n k (Fl.next,loc) σ).bind (endF K)=some r) :
  (nextAt it k σ=some none∧K loc σ=some r)∨∃ m v loc₁ x,n=m+1∧nextAt it k σ=some (some v)∧bindT t v loc σ=some loc₁∧evSL Φ Λ Gv a loc₁ σ=some x∧Rest (fun l s=>(iterate (loopStep Φ Λ Gv clr t a) it m (k+1) (Fl.next,l) s).bind (endF K)) r (turn clr x):=by
 refine x1_2 (bind_is e) fun z h hz=>?_
 (try clear e)
 rcases iterate_inv h with ⟨q,rfl⟩ | ⟨m,v,y,rfl,q,hs,h'⟩
 ·exact .inl ⟨q,hz⟩
 ·refine x2_3 (map2_is hs) fun loc₁ x eb ea hq_263=>?_
  subst hq_263
  exact .inr ⟨m,v,loc₁,x,rfl,q,eb,ea,rest_of (go:=iterate (loopStep Φ Λ Gv clr t a) it m (k+1)) h' hz⟩
noncomputable def NextQ (B:Base) (A:Around) (gt tb:List Str) (t:Tg) (a b:SL) (env:Env) (I:Addr) (P:Flow→Shared→Prop) (n:Nat) (J:Nat→Shared→Prop) (E:Value→Shared→Prop) (r:Option Value) (s₄:Shared):Prop:=match r with
 | none=>wpAny (model B.prog B.w) A (execs (toSL gt tb b) env) (fun f s₃=>stR P (.ok f) s₃) E s₄
 | some v=>wpAny (model B.prog B.w) A (letOwnedTupleGo (toTg tb t) (.ref I) v) (fun ζ s₁'=>wpAny (model B.prog B.w) A (assign (toTg tb t) env v) (fun ζ s₂=>wpAny (model B.prog B.w) A (execs (toSL gt tb a) env) (BodyQ P n J) E s₂) E s₁') E s₄
section
variable {vis:List (Nat × Bool)} {wv gl:List Nat} {env:Env} {F G:Lay} {s s₄ s₅ s₆:Shared} {r:Fl × Loc × Sto} {clr:List Nat} {σ:Sto} {loc:Loc}
theorem turn_ok (K:Kit B A d Φ Λ Gv gt mk kws) {t:Tg} {a:SL} (ha:JSL B A Φ Λ Gv gt tb kws a) (hwa:wfSL gt tb kws Gv vis wv gl a=true) (ht:∀ i∈tgSlots t,i∈wv) (R:ER B gt tb vis wv gl env) {loc₅:Loc} {v:V} {x:Value} {y:Fl × Loc × Sto} {V':Loc→Sto→Option (Fl × Loc × Sto)} {m n:Nat} {J:Nat→Shared→Prop} {P:Flow→Shared→Prop}
  (I₄:Inv B F σ s₄) (L₄:LR B tb vis env F loc s₄.heap) (rx:VR B.fa s₄.heap F v x) (eb:bindT t v loc σ=some loc₅) (ea:evSL Φ Λ Gv a loc₅ σ=some y) (e:Rest V' r (turn clr y)) (hm:m < n)
  (hP:∀ f s₆,SPost B tb vis (OwnA tb wv env) env F s₄ r.1 r.2.1 r.2.2 f s₆→P f s₆)
  (hJ:∀ G loc s₆,StepW (OwnA tb wv env) B F s₄ G s₆→Inv B (F++G) y.2.2 s₆→LR B tb vis env (F++G) loc s₆.heap→V' loc y.2.2=some r→J m s₆) {E E':Value→Shared→Prop} :
  wpAny (model B.prog B.w) A (assign (toTg tb t) env x) (fun ζ s₂=>wpAny (model B.prog B.w) A (execs (toSL gt tb a) env) (BodyQ P n J) E s₂) E' s₄:=by
 refine bind_ok K.room.handled R I₄ L₄ ht rx eb fun s₅ p₅=>?_
 have T₅:StepW (OwnA tb wv env) B F s₄ [] s₅:=.of_kept p₅.keep
 have I₅:Inv B (F++[]) σ s₅:=by rw [List.append_nil]; exact p₅.inv
 have L₅:LR B tb vis env (F++[]) loc₅ s₅.heap:=by rw [List.append_nil]; exact p₅.lr
 refine wpAny_mono (ha vis wv gl env loc₅ _ σ s₅ y.1 y.2.1 y.2.2 hwa R I₅ L₅ ea) (fun f s₆ p₆=>?_) fun ζ ζ z=>z.elim
 exact body_end tb (p₆.back T₅ (own_live L₅)) e hm (fun f p=>hP f s₆ p) fun G loc T I L e=>hJ G loc s₆ T I L e
theorem else_ok {b:SL} {P:Flow→Shared→Prop} (hb:JSL B A Φ Λ Gv gt tb kws b) (hwb:wfSL gt tb kws Gv vis wv gl b=true) (R:ER B gt tb vis wv gl env) (hP:∀ f s',SPost B tb vis (OwnA tb wv env) env F s r.1 r.2.1 r.2.2 f s'→P f s') (T:StepW (OwnA tb wv env) B F s G s₄) (I:Inv B (F++G) σ s₄) (L:LR B tb vis env (F++G) loc s₄.heap) (e:evSL Φ Λ Gv b loc σ=some r) {E:Value→Shared→Prop}:wpAny (model B.prog B.w) A (execs (toSL gt tb b) env) (fun f s₃=>stR P (.ok f) s₃) E s₄ :=
 wpAny_mono (hb vis wv gl env loc _ σ s₄ r.1 r.2.1 r.2.2 hwb R I L e) (fun f s₅ p=>hP _ _ (p.back T (own_live L))) fun ζ ζ z=>z.elim
theorem StepW.draw {W:Addr→Prop} (T:StepW (OwnA tb wv env) B F s G s₄) (kp:Kept W s₄.heap s₅.heap) (d:∀ b,W b→s.heap.get? b=none):StepW (OwnA tb wv env) B F s G s₅:=⟨fun b o e n=>kp b o (T.kept b o e n) fun z=>(by rw [d b z] at e; cases e),T.fresh⟩
end
theorem loop_turn (K:Kit B A d Φ Λ Gv gt mk kws) {clr:List Nat} {t:Tg} {a b:SL} (ha:JSL B A Φ Λ Gv gt tb kws a) (hb:JSL B A Φ Λ Gv gt tb kws b) {vis:List (Nat × Bool)} {wv gl:List Nat} {env:Env} {F:Lay} {s:Shared} (hwa:wfSL gt tb kws Gv vis wv gl a=true) (hwb:wfSL gt tb kws Gv vis wv gl b=true) (ht:∀ i∈tgSlots t,i∈wv) (R:ER B gt tb vis wv gl env) {I:Addr} (hF:s.heap.get? I=none) {it:It} {r:Fl × Loc × Sto} {n:Nat} {s₃:Shared} {P:Flow→Shared→Prop} {J:Nat→Shared→Prop} (hP:∀ f s',SPost B tb vis (OwnA tb wv env) env F s r.1 r.2.1 r.2.2 f s'→P f s')
  (hJ:∀ n s',LoopX B tb vis (OwnA tb wv env) env F s (fun k F ζ h=>IOn B env F h I k it) (fun k l σ=>(iterate (loopStep Φ Λ Gv clr t a) it n k (Fl.next,l) σ).bind (endF fun loc σ=>evSL Φ Λ Gv b loc σ)=some r) s'→J n s')
  (h:LoopX B tb vis (OwnA tb wv env) env F s (fun k F ζ h=>IOn B env F h I k it) (fun k l σ=>(iterate (loopStep Φ Λ Gv clr t a) it n k (Fl.next,l) σ).bind (endF fun loc σ=>evSL Φ Λ Gv b loc σ)=some r) s₃) {E:Value→Shared→Prop} :
  wpAny (model B.prog B.w) A (pyNext (.ref I)) (NextQ B A gt tb t a b env I P n J E) E s₃:=by
 refine x4_5 (h) fun G k loc₃ σ₃ T I₃ L₃ r₃ e=>?_
 rcases loop_is e with ⟨q,e⟩ | ⟨m,v,loc₁,x,rfl,q,eb,ea,e⟩
 ·exact next_on K.room.handled I₃ r₃ q (fun ζ s₄ nx=>else_ok tb hb hwb R hP (T.draw tb nx.keep fun b z=>z▸hF) nx.inv (L₃.next r₃ nx) e) fun v x s₄ z=>nomatch z
 ·refine next_on K.room.handled I₃ r₃ q (fun z=>nomatch z) fun v' y s₄ z nx r₄ rx=>?_
  cases z
  have T₄:=T.draw tb nx.keep fun b z=>z▸hF
  have L₄:=L₃.next r₃ nx
  refine go_ok r₄.itr (turn_ok tb K ha hwa ht R nx.inv L₄ rx eb ea e (Nat.lt_succ_self m) (fun f s₆ p=>hP _ _ (SPost.backP tb nx.inv L₄ T₄ f p)) fun G' loc' s₆ T' I' L' e'=>?_)
  exact hJ _ _ (.on (k:=k+1) tb T₄ L₄ T' I' L' (r₄.stepW nx.inv T' (own_mut nx.inv L₄) fun w=>r₄.own I w.fr rfl) e')
theorem js_loop (K:Kit B A d Φ Λ Gv gt mk kws) {clr:List Nat} {t:Tg} {ie:E} {a b:SL} (ha:JSL B A Φ Λ Gv gt tb kws a) (hb:JSL B A Φ Λ Gv gt tb kws b) (p:Pos):JS B A Φ Λ Gv gt tb kws (.loop clr t ie a b p):=by
 intro vis wv gl env loc F σ s fl loc' σ' hw R Iv L ev
 refine x0_2 (bA3 hw) fun hw_264 hwb=>?_
 obtain ⟨⟨hwi,hwt⟩,hwa⟩:=hw_264
 have ht:∀ i∈tgSlots t,i∈wv:=fun i hi=>List.contains_iff_mem.mp (List.all_eq_true.mp (bA1 hwt).1 i hi)
 refine xP1_2 (bind_is (es_loop.symm.trans ev)) fun vi σ₁ ei e1=>?_
 refine xP1_2 (bind_is e1) fun it n en e2=>?_
 refine wpAny_For (((okE K tb ie vis wv gl env loc F σ s hwi R Iv L).1 _ _ ei).seq fun x G₁ s₁ T₁ p₁=>?_) (folded_ok ie (wf_raw hwi))
 have L₁:=L.step Iv T₁
 refine iter_ok p₁.1 p₁.2 en fun I s₂ p₂=>?_
 refine codeAny_mono (codeAny_forLoop_any (R:=stR (SPost B tb vis (OwnA tb wv env) env (F++G₁) s₁ fl loc' σ'))
  (fun n=>LoopX B tb vis (OwnA tb wv env) env (F++G₁) s₁ (fun k F ζ h=>IOn B env F h I k it) (fun k l σ=>(iterate (loopStep Φ Λ Gv clr t a) it n k (Fl.next,l) σ).bind (endF fun loc σ=>evSL Φ Λ Gv b loc σ)=some (fl,loc',σ')))
  (fun n s₃ h=>loop_turn (r:=(fl,loc',σ')) tb K ha hb hwa hwb ht R p₂.dead (fun ζ ζ h=>h) (fun ζ ζ h=>h) h) n (.start tb (k:=0) p₂.inv (L₁.mv (fun b o ζ e=>p₂.keep b o e) (.of p₂.keep) fun b w=>(L₁.fr w).1) p₂.keep (.new p₁.1 L₁ p₂) e2)) fun r s' h=>?_
 cases r with
 | error z=>exact h.elim
 | ok f=>exact h.back T₁.w (own_live L₁)
end
end Mine
namespace Mine
open PySem
open AutoSeq1 (wpAny_loadPart')
theorem meets_enum_tuple (l:Addr) (items:Array Value) (n:Nat) :
  Meets (Builtin.«enumerate.__new__» ⟨[.type "enumerate",.ref l],[]⟩) (fun ζ R s=>s.heap.get? l=some { cls:=.type "tuple",dict:=none,data:=.seq items n,slots:=#[] } ∧
   R (.ok (.ret (.ref (s.heap.push { cls:=.type "tuple_iterator",data:=.fields #[.ref l,.int 0 0] }).objs.size)))
    { s with heap:=(s.heap.push { cls:=.type "tuple_iterator",data:=.fields #[.ref l,.int 0 0] }).push { cls:=.type "enumerate",data:=.fields #[.none,.bool false,.ref s.heap.objs.size,rawInt 0,.none,.none] } }) :=
 .of_wp fun prog w A R s h=>by
  obtain ⟨hp,g,d,tk,os⟩:=s; (refine x0_2 (h) ?_; (try clear h); intro hl h)
  have hsub:=sub_enumerate
  have hL:Heap.IsTuple (Shared.heap ⟨hp,g,d,tk,os⟩) l items:=⟨_,hl,rfl,n,rfl⟩
  wp_walk using wpAny_loadPart' hl
  refine wpAny_stack_any fun st=>wpAny_pure ?_
  generalize PySem.Builtin.SmallTypes.calledThroughType.match_1 _ _ _ _=b
  cases b
  ·wp_walk using wpAny_loadPart' hl,wpAny_pyIter_tuple hL
   exact ⟨_,rfl,h⟩
  ·wp_walk using wpAny_loadPart' hl,wpAny_pyIter_tuple hL
   exact ⟨_,rfl,h⟩
section
variable {prog:Program} {w:World} {A:Around} {E:Value→Shared→Prop} {s:Shared}
theorem nextOf_tuple_item {it l:Addr} {i:Nat} {items} {x:Value} {Q:Value→Shared→Prop} (hit:s.heap.IsTupleIter it l i)
  (hl:s.heap.IsTuple l items) (hx:items[i]?=some x)
  (hQ:∀ h',h'.IsTupleIter it l (i+1)→Heap.SameBut it s.heap h'→Q x { s with heap:=h' }) :
  wpAny (model prog w) A (Builtin.SmallTypes.nextOf (.ref it)) Q E s:=by
 refine x1_3 (id hit) fun o ho hc hd=>?_
 obtain ⟨ol,hol,_,nl,hdl⟩:=hl
 unfold Builtin.SmallTypes.nextOf
 refine wpAny_bind (wpAny_callSpecial?_slot (name:=Str.ofString "__next__") hit.typeIs PySem.F.slot_tuple_iterator_next
  (wpAny_call_entry PySem.F.slot_tuple_iterator_next hit.typeIs PySem.F.entry_tuple_iterator_next ?_ (PySem.F.args_tuple_iterator_next_1 _)))
 show wpAny _ _ (field (.ref it) 0 >>= _) _ _ s
 refine wpAny_bind (wpAny_field ho hd (x:=.ref l) rfl ?_)
 show wpAny _ _ (if (Value.ref l==Value.none)=true then _ else _) _ _ s
 rw [if_neg (show ¬ ((Value.ref l==Value.none)=true) from Bool.false_ne_true)]
 show wpAny _ _ (field (.ref it) 1 >>= _) _ _ s
 refine wpAny_bind (wpAny_field ho hd (x:=.int i 0) rfl ?_)
 show wpAny _ _ (seqItems? (.ref l) >>= _) _ _ s
 refine wpAny_bind (wpAny_seqItems hol hdl ?_)
 simp only [Int.toNat_natCast,hx]
 refine wpAny_bind (wpAny_setField ho hd (by simp) (wpAny_pure ⟨x,rfl,wpAny_pure (hQ _ ?_ (Heap.SameBut.update ..))⟩))
 exact ⟨_,Heap.get?_update_self _ ho (Obj.isFreed_of_fields (Obj.data_mapFields hd _)),(Obj.cls_mapFields ..).trans hc,by
  rw [Obj.data_mapFields hd]; simp [rawInt]⟩
theorem nextOf_tuple_end {it l:Addr} {i:Nat} {items} {Q:Value→Shared→Prop} (hh:A.handled=none)
  (hit:s.heap.IsTupleIter it l i) (hl:s.heap.IsTuple l items) (hx:items[i]?=none)
  (hE:∀ h' e,Heap.ExtBut it s.heap h'→(∃ o,h'.get? e=some o∧o.cls=.type "StopIteration")→E (.ref e) { s with heap:=h' }) :
  wpAny (model prog w) A (Builtin.SmallTypes.nextOf (.ref it)) Q E s:=by
 refine x1_3 (id hit) fun o ho hc hd=>?_
 obtain ⟨ol,hol,_,nl,hdl⟩:=hl
 unfold Builtin.SmallTypes.nextOf
 refine wpAny_bind (wpAny_callSpecial?_slot (name:=Str.ofString "__next__") hit.typeIs PySem.F.slot_tuple_iterator_next
  (wpAny_call_entry PySem.F.slot_tuple_iterator_next hit.typeIs PySem.F.entry_tuple_iterator_next ?_ (PySem.F.args_tuple_iterator_next_1 _)))
 show wpAny _ _ (field (.ref it) 0 >>= _) _ _ s
 refine wpAny_bind (wpAny_field ho hd (x:=.ref l) rfl ?_)
 show wpAny _ _ (if (Value.ref l==Value.none)=true then _ else _) _ _ s
 rw [if_neg (show ¬ ((Value.ref l==Value.none)=true) from Bool.false_ne_true)]
 show wpAny _ _ (field (.ref it) 1 >>= _) _ _ s
 refine wpAny_bind (wpAny_field ho hd (x:=.int i 0) rfl ?_)
 show wpAny _ _ (seqItems? (.ref l) >>= _) _ _ s
 refine wpAny_bind (wpAny_seqItems hol hdl ?_)
 simp only [Int.toNat_natCast,hx]
 refine wpAny_bind (wpAny_rule (wpAny_bind (wpAny_setField ho hd (by simp) ?_)))
 show wpAny _ _ (newExc (.type "StopIteration") [] >>= _) _ _ _
 refine wpAny_bind ?_
 simp only [newExc,newTuple]
 refine wpAny_bind (wpAny_newObj_type ?_ (by size_fits))
 refine wpAny_bind (m:=firstArgMember _ _) (wpAny_of_eq (a:=Value.none) (by first | rfl | (simp only [firstArgMember]; rfl)) ?_)
 refine wpAny_newObj_type ?_ (by size_fits)
 simp only [raiseNew]
 refine wpAny_bind (wpAny_handled ?_)
 first | rw [show A.in1.handled=none from hh] | rw [hh]
 refine wpAny_bind (wpAny_pure (wpAny_throw ?_))
 exact hE _ _ (((Heap.SameBut.update ..).extBut.push _).push _) ⟨_,Heap.get?_push_size _ rfl,rfl⟩
theorem enumT_next_item {e it l:Addr} {i:Nat} {items:Array Value} {x old:Value} {Q:Value→Shared→Prop}
  (he:IsEnum s.heap e it i old) (hit:s.heap.IsTupleIter it l i) (hl:s.heap.IsTuple l items) (hx:items[i]?=some x) (hne:e≠it)
  (hQ:∀ h',IsEnumOut h' e it ((i:Int)+1) x s.heap.objs.size→h'.IsTupleIter it l (i+1) →
   h'.get? s.heap.objs.size=some { cls:=.type "tuple",data:=.seq #[.int i s.toks,x] }→h'.objs.size=s.heap.objs.size+1 →
   (∀ b o,b≠e→b≠it→s.heap.get? b=some o→h'.get? b=some o)→Q (.ref s.heap.objs.size) { s with heap:=h',toks:=s.toks+1 }) :
  wpAny (model prog w) A (Builtin.«enumerate.__next__» ⟨[.ref e],[]⟩) (fun fin s'=>∃ v,fin=.done (.ret v)∧Q v s') E s:=by
 obtain ⟨hp,g,d,tk,os⟩:=s
 show wpAny _ _ (field (.ref e) 2 >>= _) _ _ _
 refine wpAny_bind (wpAny_field he rfl (x:=.ref it) rfl ?_)
 refine wpAny_bind (nextOf_tuple_item hit hl hx fun h₁ hit₁ hs₁=>?_)
 replace hs₁:Heap.SameBut it hp h₁:=hs₁
 have he₁:IsEnum h₁ e it i old:=(hs₁.2 e hne).trans he
 show wpAny _ _ (field (.ref e) 3 >>= _) _ _ ⟨h₁,g,d,tk,os⟩
 refine wpAny_bind (wpAny_field he₁ rfl (x:=rawInt i) rfl ?_)
 show wpAny _ _ (field (.ref e) 4 >>= _) _ _ ⟨h₁,g,d,tk,os⟩
 refine wpAny_bind (wpAny_field he₁ rfl (x:=.none) rfl ?_)
 show wpAny _ _ (mkInt i >>= _) _ _ ⟨h₁,g,d,tk,os⟩
 refine wpAny_bind (wpAny_mkInt ?_)
 show wpAny _ _ (setField (.ref e) 3 (rawInt ((i:Int)+1)) >>= _) _ _ ⟨h₁,g,d,tk+1,os⟩
 refine wpAny_bind (wpAny_setField_rec he₁ (by simp) fun h₂ he₂ hs₂=>?_)
 replace hs₂:Heap.SameBut e h₁ h₂:=hs₂
 replace he₂:IsEnum h₂ e it ((i:Int)+1) old:=he₂
 show wpAny _ _ (setField (.ref e) 4 .none >>= _) _ _ ⟨h₂,g,d,tk+1,os⟩
 refine wpAny_bind (wpAny_setField_rec he₂ (by simp) fun h₃ he₃ hs₃=>?_)
 replace hs₃:Heap.SameBut e h₂ h₃:=hs₃
 replace he₃:IsEnum h₃ e it ((i:Int)+1) old:=he₃
 show wpAny _ _ (newTuple [.int i tk,x] >>= _) _ _ ⟨h₃,g,d,tk+1,os⟩
 refine wpAny_bind (wpAny_newTuple ?_)
 have he₄:IsEnum (h₃.push { cls:=.type "tuple",data:=.seq #[.int i tk,x] }) e it ((i:Int)+1) old:=Heap.get?_push_of_some _ he₃
 generalize hh₄:h₃.push { cls:=.type "tuple",data:=.seq #[.int i tk,x] }=h₄ at he₄
 have hsz:h₃.objs.size=hp.objs.size:=by rw [hs₃.1,hs₂.1,hs₁.1]
 have hel:e < hp.objs.size:=Heap.lt_size he
 have ht₄:h₄.get? hp.objs.size=some { cls:=.type "tuple",data:=.seq #[.int i tk,x] }:=by rw [← hh₄,← hsz]; exact Heap.get?_push_size _ rfl
 have hz₄:h₄.objs.size=hp.objs.size+1:=by rw [← hh₄,Heap.size_push,hsz]
 have hk₄:∀ b o,b≠e→b≠it→hp.get? b=some o→h₄.get? b=some o:=fun b o hbe hbi hb=>by
  rw [← hh₄]; exact Heap.get?_push_of_some _ (hs₃.extBut b o hbe (hs₂.extBut b o hbe (hs₁.extBut b o hbi hb)))
 have hit₄:h₄.IsTupleIter it l (i+1):=by
  rw [← hh₄]; refine x1_2 ((hit₁.extBut hs₂.extBut (Ne.symm hne)).extBut hs₃.extBut (Ne.symm hne)) fun o ho r=>?_; exact ⟨o,Heap.get?_push_of_some _ ho,r⟩
 show wpAny _ _ (Builtin.SmallTypes.ownedTupleIsFree (.ref e) >>= _) _ _ ⟨h₄,g,d,tk+1,os⟩
 rw [hsz]
 clear hh₄ he₃ hs₃ he₂ hs₂ he₁ hs₁ hit₁ hsz h₃ h₂ h₁
 refine wpAny_bind ?_
 ·unfold Builtin.SmallTypes.ownedTupleIsFree
  refine wpAny_bind (wpAny_field he₄ rfl (x:=.none) rfl (wpAny_pure ?_))
  simp only [if_true]
  refine wpAny_bind (wpAny_rule ?_)
  refine wpAny_bind (wpAny_field he₄ rfl (x:=old) rfl ?_)
  refine wpAny_bind (wpAny_setField_rec he₄ (by simp) fun h₅ he₅ hs₅=>?_)
  replace hs₅:Heap.SameBut e h₄ h₅:=hs₅
  replace he₅:IsEnum h₅ e it ((i:Int)+1) x:=he₅
  show wpAny _ _ (Builtin.SmallTypes.ownedTupleHandOut (.ref e) (.ref hp.objs.size) >>= _) _ _ ⟨h₅,g,d,tk+1,os⟩
  refine wpAny_bind ?_
  ·unfold Builtin.SmallTypes.ownedTupleHandOut
   refine wpAny_bind (wpAny_setField_rec he₅ (by simp) fun h₆ he₆ hs₆=>?_)
   replace hs₆:Heap.SameBut e h₅ h₆:=hs₆
   replace he₆:IsEnumOut h₆ e it ((i:Int)+1) x hp.objs.size:=he₆
   refine wpAny_setField_rec he₆ (by simp) fun h₇ he₇ hs₇=>?_
   replace hs₇:Heap.SameBut e h₆ h₇:=hs₇
   replace he₇:IsEnumOut h₇ e it ((i:Int)+1) x hp.objs.size:=he₇
   refine wpAny_bind (wpAny_letGo (wpAny_pure ⟨_,rfl,hQ h₇ he₇ ?_ ?_ ?_ ?_⟩))
   ·exact ((hit₄.extBut hs₅.extBut (Ne.symm hne)).extBut hs₆.extBut (Ne.symm hne)).extBut hs₇.extBut (Ne.symm hne)
   ·exact hs₇.extBut _ _ (Nat.ne_of_gt hel) (hs₆.extBut _ _ (Nat.ne_of_gt hel) (hs₅.extBut _ _ (Nat.ne_of_gt hel) ht₄))
   ·rw [hs₇.1,hs₆.1,hs₅.1,hz₄]
   ·exact fun b o hbe hbi hb=>hs₇.extBut b o hbe (hs₆.extBut b o hbe (hs₅.extBut b o hbe (hk₄ b o hbe hbi hb)))
theorem pyNext_enumT_item {e it l:Addr} {i:Nat} {items:Array Value} {x old:Value} {Q:Option Value→Shared→Prop}
  (he:IsEnum s.heap e it i old) (hit:s.heap.IsTupleIter it l i) (hl:s.heap.IsTuple l items) (hx:items[i]?=some x) (hne:e≠it)
  (hQ:∀ h',IsEnumOut h' e it ((i:Int)+1) x s.heap.objs.size→h'.IsTupleIter it l (i+1) →
   h'.get? s.heap.objs.size=some { cls:=.type "tuple",data:=.seq #[.int i s.toks,x] }→h'.objs.size=s.heap.objs.size+1 →
   (∀ b o,b≠e→b≠it→s.heap.get? b=some o→h'.get? b=some o)→Q (some (.ref s.heap.objs.size)) { s with heap:=h',toks:=s.toks+1 }) :
  wpAny (model prog w) A (pyNext (.ref e)) Q E s:=by
 have hT:s.TypeIs (.ref e) "enumerate":=⟨_,he,rfl⟩
 unfold pyNext
 exact wpAny_bind (wpAny_attempt (wpAny_callSpecial?_slot (name:=Str.ofString "__next__") hT PySem.F.slot_enumerate_next
  (wpAny_call_entry PySem.F.slot_enumerate_next hT PySem.F.entry_enumerate_next
   (enumT_next_item he hit hl hx hne fun h' a b c d k=>wpAny_pure (hQ h' a b c d k)) (PySem.F.args_enumerate_next_1 _))))
theorem pyNext_enumT_end {e it l:Addr} {i:Nat} {items:Array Value} {old:Value} {Q:Option Value→Shared→Prop} (hh:A.handled=none)
  (he:IsEnum s.heap e it i old) (hit:s.heap.IsTupleIter it l i) (hl:s.heap.IsTuple l items) (hx:items[i]?=none)
  (hQ:∀ h',Heap.ExtBut it s.heap h'→Q none { s with heap:=h' }):wpAny (model prog w) A (pyNext (.ref e)) Q E s:=by
 have hT:s.TypeIs (.ref e) "enumerate":=⟨_,he,rfl⟩
 unfold pyNext
 refine wpAny_bind (wpAny_attempt (wpAny_callSpecial?_slot (name:=Str.ofString "__next__") hT PySem.F.slot_enumerate_next
  (wpAny_call_entry PySem.F.slot_enumerate_next hT PySem.F.entry_enumerate_next ?_ (PySem.F.args_enumerate_next_1 _))))
 show wpAny _ _ (field (.ref e) 2 >>= _) _ _ _
 refine wpAny_bind (wpAny_field he rfl (x:=.ref it) rfl ?_)
 refine wpAny_bind (nextOf_tuple_end hh hit hl hx fun h' x he' hx'=>?_)
 refine x1_2 (hx') fun o ho hc=>?_
 refine wpAny_bind (wpAny_isInstance (T:="StopIteration") (b:=true) ⟨o,ho,hc⟩ isSubtype_stop ?_)
 exact wpAny_pure (hQ _ he')
theorem call_enumT {l:Addr} {items:Array Value} {n:Nat} {Q:Value→Shared→Prop}
  (hl:s.heap.get? l=some { cls:=.type "tuple",dict:=none,data:=.seq items n,slots:=#[] })
  (h:∀ h',IsEnum h' (s.heap.objs.size+1) s.heap.objs.size 0 .none→h'.IsTupleIter s.heap.objs.size l 0→h'.objs.size=s.heap.objs.size+2 →
   (∀ b o,s.heap.get? b=some o→h'.get? b=some o)→Q (.ref (s.heap.objs.size+1)) { s with heap:=h' }) :
  wpAny (model prog w) A (call (.type "enumerate") [.ref l]) Q E s:=by
 refine callType_new PySem.F.called_enumerate (by decide) (PySem.F.typeCall_enumerate_1 _) (PySem.F.newCall_enumerate_1 _) (fun obj=>PySem.F.args_object_init_2 obj _) PySem.F.entry_enumerate_new
  (meets_enum_tuple l items n) ⟨hl,?_⟩
 have hz:(s.heap.push { cls:=.type "tuple_iterator",data:=.fields #[.ref l,.int 0 0] }).objs.size=s.heap.objs.size+1:=Heap.size_push ..
 show _∧_
 rw [hz]
 have he:IsEnum ((s.heap.push { cls:=.type "tuple_iterator",data:=.fields #[.ref l,.int 0 0] }).push
   { cls:=.type "enumerate",data:=.fields #[.none,.bool false,.ref s.heap.objs.size,rawInt 0,.none,.none] }) (s.heap.objs.size+1) s.heap.objs.size 0 .none:=by
  have:=Heap.get?_push_size (s.heap.push { cls:=.type "tuple_iterator",data:=.fields #[.ref l,.int 0 0] })
   (o:={ cls:=.type "enumerate",data:=.fields #[.none,.bool false,.ref s.heap.objs.size,rawInt 0,.none,.none] }) rfl
  rw [hz] at this; exact this
 refine ⟨⟨_,he,rfl⟩,h _ he ⟨_,Heap.get?_push_of_some _ (Heap.get?_push_size _ rfl),rfl,rfl⟩ (by rw [Heap.size_push,hz]) fun b o x=>Heap.get?_push_of_some _ (Heap.get?_push_of_some _ x)⟩
end
end Mine
namespace Mine
open PySem
section
variable {B:Base} {A:Around} {d:Nat} {Φ:Calls} {Λ:Lexer} {Gv:Nat→Option V} {gt:List Str} {mk:Me→Nat} {kws:Nat→Str→Bool} (K:Kit B A d Φ Λ Gv gt mk kws) (tb:List Str)
theorem VR.ofEnum {fa:Nat→Addr} {h:Heap} {F:Lay} {v:V} {x:Value} (r:VR fa h F v x) (e:isEnumT v=true):x=.type "enumerate":=by
 cases v with
 | ty t=>cases t <;> first | exact r.ty_is | exact noT e
 | _=>exact noT e
theorem enum_get (xs:List V) (k:Nat):(enumItems xs)[k]?=xs[k]?.map fun x=>.tup [.int (k:Nat),x]:=by
 unfold enumItems
 rw [List.getElem?_map,List.getElem?_zipIdx]
 cases xs[k]? <;> simp
structure Off (B:Base) (env:Env) (F:Lay) (b:Addr):Prop where
 off:b∉F.flatten
 h0:B.h0.get? b=none
 own:∀ x,Fr env x→x≠b
section
variable {vis:List (Nat × Bool)} {wv gl:List Nat} {env:Env} {F G:Lay} {s s':Shared} {σ:Sto} {loc:Loc} {b:Addr} {o:Obj} {W:Addr→Prop} {h':Heap} {tk:Nat}
theorem Off.new (I:Inv B F σ s) (L:LR B tb vis env F loc s.heap) (d:s.heap.get? b=none):Off B env F b:=⟨(I.dead d).2,(I.dead d).1,fun x w z=>by obtain ⟨_,_,o,e,_⟩:=L.fr w; rw [z,d] at e; cases e⟩
theorem Off.stepW (f:Off B env F b) (I:Inv B F σ s) (T:StepW (OwnA tb wv env) B F s G s') (e:s.heap.get? b=some o):s'.heap.get? b=some o∧Off B env (F++G) b :=
 ⟨T.kept b o e fun w=>w.elim (fun w=>w.elim (fun w=>f.off w.mem) (LR.notTab I f.h0)) fun w=>f.own b w.fr rfl,not_new T.fresh e f.off,f.h0,f.own⟩
theorem off_keep (I:Inv B F σ s) (L:LR B tb vis env F loc s.heap) (kp:Kept W s.heap h') (hW:∀ b,W b→Off B env F b∧∀ o,s.heap.get? b=some o→¬ Imm o):Inv B F σ { s with heap:=h',toks:=tk }∧LR B tb vis env F loc h'∧Mv F F s.heap h':=by
 have m:Mv F F s.heap h':=.of_kept kp fun b o w e=>.of ((hW b w).2 o e)
 exact ⟨I.keep kp fun b o w e=>⟨(hW b w).1.h0,(hW b w).1.off,(hW b w).2 o e⟩,L.mv (fun x o w e=>kp x o e fun z=>(hW x z).1.own x w rfl) m fun x w=>(L.fr w).1,m⟩
end
noncomputable def EnS (B:Base) (env:Env) (eA iA tl:Addr) (m:Nat) (k:Nat) (F:Lay) (_:Sto) (h:Heap):Prop:=(∃ old,IsEnum h eA iA (k:Nat) old)∧h.IsTupleIter iA tl k∧k≤m∧∀ b,b=eA∨b=iA→Off B env F b
theorem enum_not {h:Heap} {eA iA tl:Addr} {k:Nat} {i:Int} {old:Value} (h1:IsEnum h eA iA i old) (h2:h.IsTupleIter iA tl k):∀ b,b=eA∨b=iA→∀ o,h.get? b=some o→¬ Imm o:=by
 intro b w o eo
 rcases w with rfl | rfl
 ·rw [h1] at eo; apply s1 eo; exact no_cls rfl rfl
 ·refine x1_3 (h2) ?_; (try clear h2); intro o2 h2 c2 _
  rw [h2] at eo; apply s1 eo; exact no_cls c2 rfl
theorem enum_turn (K:Kit B A d Φ Λ Gv gt mk kws) {clr:List Nat} {is:List (Nat × Pos)} {p':Pos} {a b:SL} (ha:JSL B A Φ Λ Gv gt tb kws a) (hb:JSL B A Φ Λ Gv gt tb kws b) {vis:List (Nat × Bool)} {wv gl:List Nat} {env:Env} {F:Lay} {s:Shared} {σ:Sto} {loc:Loc} (hwa:wfSL gt tb kws Gv vis wv gl a=true) (hwb:wfSL gt tb kws Gv vis wv gl b=true) (ht:∀ i∈tgSlots (.tup is p'),i∈wv) (R:ER B gt tb vis wv gl env) (Iv:Inv B F σ s) (L:LR B tb vis env F loc s.heap) {eA iA tl:Addr} {items:Array Value} {nn:Nat} {xs:List V}
  (htl:s.heap.get? tl=some { cls:=.type "tuple",data:=.seq items nn }) (rs:VRs B.fa s.heap F xs items.toList) (dE:∀ b,b=eA∨b=iA→s.heap.get? b=none) (hne:eA≠iA) {r:Fl × Loc × Sto} {n:Nat} {s₃:Shared} {P:Flow→Shared→Prop} {J:Nat→Shared→Prop} (hP:∀ f s',SPost B tb vis (OwnA tb wv env) env F s r.1 r.2.1 r.2.2 f s'→P f s')
  (hJ:∀ n s',LoopX B tb vis (OwnA tb wv env) env F s (EnS B env eA iA tl xs.length) (fun k l σ=>(iterate (loopStep Φ Λ Gv clr (.tup is p') a) (.items (enumItems xs)) n k (Fl.next,l) σ).bind (endF fun loc σ=>evSL Φ Λ Gv b loc σ)=some r) s'→J n s')
  (h:LoopX B tb vis (OwnA tb wv env) env F s (EnS B env eA iA tl xs.length) (fun k l σ=>(iterate (loopStep Φ Λ Gv clr (.tup is p') a) (.items (enumItems xs)) n k (Fl.next,l) σ).bind (endF fun loc σ=>evSL Φ Λ Gv b loc σ)=some r) s₃) {E:Value→Shared→Prop} :
  wpAny (model B.prog B.w) A (pyNext (.ref eA)) (NextQ B A gt tb (.tup is p') a b env eA P n J E) E s₃:=by
 refine x4_5 (h) fun G k loc₃ σ₃ T I₃ L₃ hw_265 e=>?_
 obtain ⟨⟨old,he₃⟩,hit₃,hle,of₃⟩:=hw_265
 have m₃:=T.imk Iv (own_mut Iv L)
 have hTup:s₃.heap.IsTuple tl items:=⟨_,m₃.im _ _ htl imTup fun l=>(lsNo rfl (by decide) l).elim,rfl,_,rfl⟩
 have hW:∀ b,b=eA∨b=iA→Off B env (F++G) b∧∀ o,s₃.heap.get? b=some o→¬ Imm o:=fun b w=>⟨of₃ b w,enum_not he₃ hit₃ b w⟩
 rcases loop_is e with ⟨q,e⟩ | ⟨m,v,loc₁,x,rfl,q,eb,ea,e⟩
 ·have q:(enumItems xs)[k]?=none:=Option.some.inj q
  rw [enum_get,Option.map_eq_none_iff] at q
  refine pyNext_enumT_end K.room.handled he₃ hit₃ hTup (Array.getElem?_eq_none_iff.mpr (by rw [← Array.length_toList,← rs.length]; exact List.getElem?_eq_none_iff.mp q)) fun h₄ hx₄=>?_
  have kp:Kept (fun b=>b=eA∨b=iA) s₃.heap h₄:=fun b o eo n=>hx₄ b o (fun z=>n (.inr z)) eo
  refine x0_3 (off_keep tb (tk:=s₃.toks) I₃ L₃ kp hW) fun I₄ L₄ ζ=>?_
  exact else_ok tb hb hwb R hP (T.draw tb (s₅:={ s₃ with heap:=h₄ }) kp dE) I₄ L₄ e
 ·have q:(enumItems xs)[k]?=some v:=Option.some.inj q
  rw [enum_get] at q
  refine x1_2 (map_is q) fun u hx hq_266=>?_
  subst hq_266
  refine x1_2 (rs.get hx) fun xu exu rxu=>?_
  refine pyNext_enumT_item he₃ hit₃ hTup (by rw [← Array.getElem?_toList]; exact exu) hne fun h₄ ho₄ hit₄ hT₄ hz₄ k₄=>?_
  refine wpAny_letOwnedTupleGo_enum ho₄ fun h₅ he₅ hs₅=>?_
  have kp:Kept (fun b=>b=eA∨b=iA) s₃.heap h₅:=fun b o eo n=>hs₅.extBut b o (fun z=>n (.inl z)) (k₄ b o (fun z=>n (.inl z)) (fun z=>n (.inr z)) eo)
  refine x0_3 (off_keep tb (tk:=s₃.toks+1) I₃ L₃ kp hW) fun I₅ L₅ m₅=>?_
  have neS:s₃.heap.objs.size≠eA:=fun z=>absurd (z▸Heap.lt_size he₃) (Nat.lt_irrefl _)
  have rv:VR B.fa h₅ (F++G) (.tup [.int (k:Nat),u]) (.ref s₃.heap.objs.size):=.tup (hs₅.extBut _ _ neS hT₄) (.cons (.int _ _) (.cons (rxu.step (m₃.trans m₅)) .nil)) (by show 2≤1048576; decide)
  refine x1_2 (hit₄) fun oi ei ri=>?_
  have ei₅:=hs₅.extBut _ _ hne.symm ei
  have T₅:=T.draw tb (s₅:={ s₃ with heap:=h₅,toks:=s₃.toks+1 }) kp dE
  refine turn_ok tb K ha hwa ht R I₅ L₅ rv eb ea e (Nat.lt_succ_self m) (fun f s₆ p=>hP _ _ (SPost.backP tb I₅ L₅ T₅ f p)) fun G' loc' s₆ T' I' L' e'=>?_
  have aE:=(of₃ eA (.inl rfl)).stepW tb I₅ T' he₅
  have aI:=(of₃ iA (.inr rfl)).stepW tb I₅ T' ei₅
  exact hJ _ _ (.on (k:=k+1) tb T₅ L₅ T' I' L' ⟨⟨xu,aE.1⟩,⟨oi,aI.1,ri⟩,(List.getElem?_eq_some_iff.mp hx).1,fun b w=>by rcases w with rfl | rfl; exact aE.2; exact aI.2⟩ e')
theorem enum_for (K:Kit B A d Φ Λ Gv gt mk kws) {clr:List Nat} {is:List (Nat × Pos)} {p':Pos} {a b:SL} (ha:JSL B A Φ Λ Gv gt tb kws a) (hb:JSL B A Φ Λ Gv gt tb kws b) {vis:List (Nat × Bool)} {wv gl:List Nat} {env:Env} {F:Lay} {s:Shared} {σ:Sto} {loc:Loc} (hwa:wfSL gt tb kws Gv vis wv gl a=true) (hwb:wfSL gt tb kws Gv vis wv gl b=true) (ht:∀ i∈tgSlots (.tup is p'),i∈wv) (R:ER B gt tb vis wv gl env) (I:Inv B F σ s) (L:LR B tb vis env F loc s.heap) {tl:Addr} {items:Array Value} {nn:Nat} {xs:List V}
  (ht':s.heap.get? tl=some { cls:=.type "tuple",data:=.seq items nn }) (rs:VRs B.fa s.heap F xs items.toList) {r:Fl × Loc × Sto} (e:(iterate (loopStep Φ Λ Gv clr (.tup is p') a) (.items (enumItems xs)) xs.length 0 (Fl.next,loc) σ).bind (endF fun loc σ=>evSL Φ Λ Gv b loc σ)=some r) {R':Result→Shared→Prop} (hP:∀ f s',SPost B tb vis (OwnA tb wv env) env F s r.1 r.2.1 r.2.2 f s'→R' (.ok f) s') :
  wpAny (model B.prog B.w) A (call (.type "enumerate") [.ref tl]) (fun v s₁=>wpAny (model B.prog B.w) A (pyIter v) (fun it s₂=>codeAny (model B.prog B.w) A (.forLoop (toTg tb (.tup is p')) it (toSL gt tb a) (toSL gt tb b) env) R' s₂) Bot s₁) Bot s:=by
 refine call_enumT ht' fun h₂ he₂ hit₂ ζ k₂=>wpAny_pyIter_enum he₂ ?_
 have dE:∀ b,b=s.heap.objs.size+1∨b=s.heap.objs.size→s.heap.get? b=none:=fun b w=>by
  rcases w with rfl | rfl
  ·cases z:s.heap.get? (s.heap.objs.size+1) with
   | none=>rfl
   | some o=>exact absurd (Heap.lt_size z) (Nat.not_lt_of_le (Nat.le_succ _))
  ·exact dead_size _
 refine codeAny_mono (codeAny_forLoop_any (R:=stR (SPost B tb vis (OwnA tb wv env) env F s r.1 r.2.1 r.2.2))
  (fun n=>LoopX B tb vis (OwnA tb wv env) env F s (EnS B env (s.heap.objs.size+1) s.heap.objs.size tl xs.length) (fun k l σ=>(iterate (loopStep Φ Λ Gv clr (.tup is p') a) (.items (enumItems xs)) n k (Fl.next,l) σ).bind (endF fun loc σ=>evSL Φ Λ Gv b loc σ)=some r))
  (fun n s₃ h=>enum_turn (r:=r) tb K ha hb hwa hwb ht R I L ht' rs dE (Nat.succ_ne_self _) (fun ζ ζ h=>h) (fun ζ ζ h=>h) h) xs.length (.start tb (k:=0) (s':={ s with heap:=h₂ }) (I.all k₂ s.toks) (L.mv (fun b o ζ e=>k₂ b o e) (.of k₂) fun b w=>(L.fr w).1) k₂ ⟨⟨_,he₂⟩,hit₂,Nat.zero_le _,fun b w=>.new tb I L (dE b w)⟩ e)) fun r s' h=>?_
 cases r with
 | error z=>exact h.elim
 | ok f=>exact hP f s' h
theorem js_enum (K:Kit B A d Φ Λ Gv gt mk kws) {clr:List Nat} {is:List (Nat × Pos)} {p':Pos} {g:Nat} {q':Pos} {ie:E} {a b:SL} (ha:JSL B A Φ Λ Gv gt tb kws a) (hb:JSL B A Φ Λ Gv gt tb kws b) (q p:Pos):JS B A Φ Λ Gv gt tb kws (.enum clr is p' g q' ie a b q p):=by
 intro vis wv gl env loc F σ s fl loc' σ' hw R Iv L ev
 refine bB4 hw fun hwf hwi hwt hwa hwb=>?_
 have ht:∀ i∈tgSlots (.tup is p'),i∈wv:=fun i hi=>List.contains_iff_mem.mp (List.all_eq_true.mp (bA1 hwt).1 i hi)
 refine x1_2 (bind_is (es_enum.symm.trans ev)) ?_
 clear ev
 intro fv eg e1
 refine x0_2 (ite_of e1) ?_
 clear e1
 intro hfe e2
 refine xP1_2 (bind_is e2) ?_
 clear e2
 intro vi σ₁ ei e3
 refine x1_2 (bind_is e3) ?_
 clear e3
 intro xs hvi e4
 have hwl:wfEL gt tb kws Gv vis gl (.cons ie .nil)=true:=Bool.and_eq_true_iff.mpr ⟨hwi,rfl⟩
 have hargs:=(okEL K tb (.cons ie .nil) vis wv gl env loc F σ s hwl R Iv L).1 q [vi] σ₁ (by rw [evEL_cons]; exact bind_some ei rfl)
 refine wpAny_For (iter:=.Call (.Name (nmOf gt g) q') (toEL gt tb (.cons ie .nil)) [] q) (PyProof.Rows.Call_Name rfl (glob_ok K.bok K.gr Iv R (List.contains_iff_mem.mp hwf) eg fun x r=>?_)) (fun ζ=>rfl)
 rw [r.ofEnum hfe]
 refine PyProof.Rows.callWith_type (all_plain hwl).2 (evalArgs_any hwl (hargs.seq fun xv G₁ s₁ T₁ p₁=>?_))
 refine x1_2 (p₁.2.inv1) fun xt hq r1=>?_
 apply q1 hq
 refine x3_4 (r1.ofTup hvi) fun tl items nn hq ht' rs ζ=>?_
 apply q1 hq
 exact enum_for tb K ha hb hwa hwb ht R p₁.1 (L.step Iv T₁) ht' rs e4 fun f s' h=>h.back T₁.w (own_live (L.step Iv T₁))
end
end Mine
namespace Mine
open PySem PySem.W
theorem bor_eq (f:Value) (pos:List Value):callBorrowed f pos=(call f pos).keep [borrowed]:=by
 unfold callBorrowed call runValue
 show Sem.call _ _ _ _ _=Sem.call _ _ _ ([borrowed]++[]) _
 refine congrArg (Sem.call _ _ _ _) ?_
 funext r
 rcases r with e | (v | _ | _ | _) <;> rfl
theorem slot_ci_next:Slot "callable_iterator" "__next__" "callable_iterator.__next__" :=
 .of (owner:="callable_iterator") (n:="__next__") (by rw [typeLookup_type,builtinLookup_eq_fast]; kernel_rfl) (by decide +kernel) (by decide +kernel) (by decide +kernel)
  (by first | exact .inl (by decide +kernel) | exact .inr (by decide +kernel)) (by rw [isSubtype_type]; kernel_rfl)
theorem slot_ci_iter:Slot "callable_iterator" "__iter__" "callable_iterator.__iter__" :=
 .of (owner:="callable_iterator") (n:="__iter__") (by rw [typeLookup_type,builtinLookup_eq_fast]; kernel_rfl) (by decide +kernel) (by decide +kernel) (by decide +kernel)
  (by first | exact .inl (by decide +kernel) | exact .inr (by decide +kernel)) (by rw [isSubtype_type]; kernel_rfl)
theorem entry_ci_next:entryFor table "callable_iterator.__next__"=some Builtin.«callable_iterator.__next__»:=entryFor_of_tree (by kernel_rfl)
theorem entry_ci_iter:entryFor table "callable_iterator.__iter__"=some Builtin.«dict_keyiterator.__iter__» :=
 entryFor_alias (id':="dict_keyiterator.__iter__") (by kernel_rfl) (by first | rfl | decide +kernel) (by decide +kernel) (by kernel_rfl)
theorem args_ci_next (a:Value):argsOk "callable_iterator.__next__" ⟨[a],[]⟩:=by unfold argsOk; kernel_rfl
theorem args_ci_iter (a:Value):argsOk "callable_iterator.__iter__" ⟨[a],[]⟩:=by unfold argsOk; kernel_rfl
section
variable {M:Model} {B:Base} {A:Around} {s:Shared} {it bm f x:Addr} {fs:Array Value} {tk:Tok}
noncomputable abbrev citOb (fs:Array Value):Obj:={ cls:=.type "callable_iterator",data:=.fields fs }
theorem cit_iter (hit:s.heap.get? it=some (citOb fs)) {E:Value→Shared→Prop} {Q:Value→Shared→Prop} (h:Q (.ref it) s):wpAny (model B.prog B.w) A (pyIter (.ref it)) Q E s:=by
 have hT:s.TypeIs (.ref it) "callable_iterator":=⟨_,hit,rfl⟩
 refine wpAny_pyIter_slot hT slot_ci_iter (wpAny_call_entry slot_ci_iter hT entry_ci_iter ?_ (args_ci_iter _))
 show wpAny _ _ (ret (.ref it)) _ _ s
 exact wpAny_pure ⟨_,rfl,"callable_iterator",_,hT,slot_ci_next.lookup,h⟩
theorem stop_ok {A:Around} {s:Shared} (hh:A.handled=none) {α:Type} {Q:α→Shared→Prop} {E:Value→Shared→Prop} (h:∀ h' e,(∀ b o,s.heap.get? b=some o→h'.get? b=some o)→(∃ o,h'.get? e=some o∧o.cls=.type "StopIteration")→E (.ref e) { s with heap:=h' }) :
  wpAny M A (Builtin.SmallTypes.stopIteration:Sem α) Q E s:=by
 show wpAny _ _ (newExc (.type "StopIteration") [] >>= _) _ _ _
 refine wpAny_bind ?_
 simp only [newExc,newTuple]
 refine wpAny_bind (wpAny_newObj_type ?_ (by size_fits))
 refine wpAny_bind (m:=firstArgMember _ _) (wpAny_of_eq (a:=Value.none) (by first | rfl | (simp only [firstArgMember]; rfl)) ?_)
 refine wpAny_newObj_type ?_ (by size_fits)
 simp only [raiseNew]
 refine wpAny_bind (wpAny_handled ?_)
 rw [hh]
 refine wpAny_bind (wpAny_pure (wpAny_throw ?_))
 exact h _ _ (fun b o e=>Heap.get?_push_of_some _ (Heap.get?_push_of_some _ e)) ⟨_,Heap.get?_push_size _ rfl,rfl⟩
theorem cit_over (hh:A.handled=none) (hit:s.heap.get? it=some (citOb #[.none,.none,.bool true])) {E:Value→Shared→Prop} {Q:Option Value→Shared→Prop} (h:∀ h',(∀ b o,s.heap.get? b=some o→h'.get? b=some o)→Q none { s with heap:=h' }) :
  wpAny (model B.prog B.w) A (pyNext (.ref it)) Q E s:=by
 have hT:s.TypeIs (.ref it) "callable_iterator":=⟨_,hit,rfl⟩
 unfold pyNext
 refine wpAny_bind (wpAny_attempt (wpAny_callSpecial?_slot (name:=Str.ofString "__next__") hT slot_ci_next
  (wpAny_call_entry slot_ci_next hT entry_ci_next ?_ (args_ci_next _))))
 show wpAny _ _ (field (.ref it) 2 >>= _) _ _ s
 refine wpAny_bind (wpAny_field hit rfl (x:=.bool true) rfl ?_)
 rw [if_pos (by decide)]
 refine wpAny_bind (wpAny_rule ?_)
 refine wpAny_bind (stop_ok (A:=A.in1) hh fun h' e k he=>?_)
 refine x1_2 (he) fun o ho hc=>?_
 refine wpAny_bind (wpAny_isInstance (T:="StopIteration") (b:=true) ⟨o,ho,hc⟩ isSubtype_stop ?_)
 exact wpAny_pure (h _ k)
theorem bor_of {h:Heap} {o:Obj} {fd:FuncData} (hbm:h.get? bm=some { cls:=.type "method",data:=.fields #[.ref f,.ref x] }) (hf:h.get? f=some o) (hd:o.data=.func fd):Looks M h (borrowsExactly (.ref bm)) true:=by
 unfold borrowsExactly
 refine (Looks.ld (part:=none) hbm).andThen ?_
 dsimp only
 rw [if_pos (by decide)]
 refine (Looks.ld (part:=none) hf).andThen ?_
 rw [hd]; exact .now
theorem cit_step {o:Obj} {fd:FuncData} (hh:A.handled=none) (hit:s.heap.get? it=some (citOb #[.ref bm,.str ⟨#[]⟩ tk,.bool false])) (hbm:s.heap.get? bm=some { cls:=.type "method",data:=.fields #[.ref f,.ref x] })
  (hf:s.heap.get? f=some o) (hd:o.data=.func fd) {E:Value→Shared→Prop} {Q:Option Value→Shared→Prop}
  (h:codeAny (model B.prog B.w) A.in1 (.call (.ref f) ⟨[.ref x],[]⟩) (retR fun v s'=>∃ X t tk',v=.str X t∧s'.heap.get? it=some (citOb #[.ref bm,.str ⟨#[]⟩ tk',.bool false])∧s'.heap.get? bm=some { cls:=.type "method",data:=.fields #[.ref f,.ref x] }∧(∃ o fd,s'.heap.get? f=some o∧o.data=.func fd) ∧
   (X≠⟨#[]⟩→Q (some (.str X t)) s')∧(X=⟨#[]⟩→∀ h',h'.get? it=some (citOb #[.none,.none,.bool true])→(∀ b o,b≠it→s'.heap.get? b=some o→h'.get? b=some o)→Q none { s' with heap:=h' })) s) :
  wpAny (model B.prog B.w) A (pyNext (.ref it)) Q E s:=by
 have hT:s.TypeIs (.ref it) "callable_iterator":=⟨_,hit,rfl⟩
 unfold pyNext
 refine wpAny_bind (wpAny_attempt (wpAny_callSpecial?_slot (name:=Str.ofString "__next__") hT slot_ci_next
  (wpAny_call_entry slot_ci_next hT entry_ci_next ?_ (args_ci_next _))))
 show wpAny _ _ (field (.ref it) 2 >>= _) _ _ s
 refine wpAny_bind (wpAny_field hit rfl (x:=.bool false) rfl ?_)
 rw [if_neg (by decide)]
 refine wpAny_bind (wpAny_field hit rfl (x:=.ref bm) rfl ?_)
 refine wpAny_bind (wpAny_attempt ?_)
 unfold callOutOfASlot
 refine wpAny_bind ((bor_of hbm hf hd).here ?_)
 rw [if_pos rfl,bor_eq]
 refine Calls.wpAny_keep (wpAny_call (method_call hbm (codeAny_mono h fun r s' z=>?_)))
 rcases r with e | (v | _ | _ | _) <;> first | exact z.elim | skip
 refine x3_6 (z) fun X t tk' hq_275 hit' hbm' hw_276 q1 q2=>?_
 subst hq_275
 refine x2_2 (hw_276) fun o' fd' hf' hd'=>?_
 refine wpAny_bind (wpAny_field hit' rfl (x:=.bool false) rfl ?_)
 rw [if_neg (by decide)]
 refine wpAny_bind (wpAny_field hit' rfl (x:=.str ⟨#[]⟩ tk') rfl ?_)
 refine wpAny_bind (wpAny_holding (wpAny_eqBool_str ?_))
 by_cases hX:X=⟨#[]⟩
 ·subst hX
  rw [decide_eq_true rfl,if_neg (by decide)]
  refine wpAny_bind (wpAny_rule (wpAny_bind ?_))
  refine wpAny_bind (wpAny_field hit' rfl (x:=.ref bm) rfl ?_)
  refine wpAny_bind (wpAny_bind ((bor_of hbm' hf' hd').here ?_))
  refine wpAny_pure ?_
  refine wpAny_bind (wpAny_setField_rec hit' (by simp) fun h1 e1 k1=>?_)
  refine wpAny_bind (wpAny_setField_rec e1 (by simp) fun h2 e2 k2=>?_)
  refine wpAny_setField_rec e2 (by simp) fun h3 e3 k3=>?_
  refine stop_ok (A:=A.in1) hh fun h' e k he=>?_
  refine x1_2 (he) fun o ho hc=>?_
  refine wpAny_bind (wpAny_isInstance (T:="StopIteration") (b:=true) ⟨o,ho,hc⟩ isSubtype_stop ?_)
  exact wpAny_pure (q2 rfl h' (k _ _ e3) fun b ob ne eb=>k b ob ((k3.2 b ne).trans ((k2.2 b ne).trans ((k1.2 b ne).trans eb))))
 ·rw [decide_eq_false (fun z=>hX z.symm),if_pos (by decide)]
  exact wpAny_pure ⟨_,rfl,wpAny_pure (q1 hX)⟩
end
end Mine
namespace Mine
open PySem
section
variable {B:Base} {A:Around} {d:Nat} {Φ:Calls} {Λ:Lexer} {Gv:Nat→Option V} {gt:List Str} {mk:Me→Nat} {kws:Nat→Str→Bool} (K:Kit B A d Φ Λ Gv gt mk kws) (tb:List Str)
include K in
theorem js_inc (a:E) (q1 q2 p:Pos):JS B A Φ Λ Gv gt tb kws (.inc a q1 q2 p):=by
 intro vis wv gl env loc F σ s fl loc' σ' hw R I L e
 refine xP1_2 (bind_is (es_inc.symm.trans e)) fun va σ₁ ea e1=>?_
 refine x1_2 (bind_is e1) fun i hi e2=>?_
 refine x1_2 (map_is e2) fun σ₂ ei e3=>?_
 apply p3 e3
 refine x1_1 (K.lex) fun KL OL=>?_
 refine wpAny_AugAssign_AttributeAny (((okE K tb a vis wv gl env loc F σ s hw R I L).1 _ _ ea).seq fun x G₁ s₁ T₁ p₁=>?_)
 refine x1_2 (map_is ei) fun LL hL ζ=>?_
 have el:attrV .lineno σ₁ (.ref i)=some (.int LL.2.2.1):=bind_some (o:=refV (.ref i)) rfl (bind_some hL rfl)
 have rx:=p₁.2.asRef hi
 refine att_ok OL p₁.1 rx el fun y tk ry=>wpAny_Constant_int (k:=0) (pos:=q2) ?_
 refine (aug_ok K.room (p₁.1.toks (tk+1)) ry (.int 1 _) (op:=.Add) (v:=.int (LL.2.2.1+1)) (σ':=σ₁) rfl).seq fun z G₄ s₄ T₄ p₄=>?_
 refine (inc_ok OL p₄.1 (rx.step (T₄.imk (p₁.1.toks (tk+1)))) ei el p₄.2).seq fun ζ G₅ s₅ T₅ p₅=>?_
 have L₁:=L.step I (T₁.toks (tk+1))
 have L₄:=L₁.step (p₁.1.toks (tk+1)) T₄
 exact ((sp_step tb p₄.1 L₄ T₅ p₅ (fl:=.next) (f:=.next) trivial).back T₄.w (own_live L₄)).back (T₁.toks (tk+1)).w (own_live L₁)
theorem citI_is {σ:Sto} {j:Nat} {c:Nat × Bool} (e:citI σ j=some c):σ[j]?=some (.cit c.1 c.2):=by
 refine x1_2 (bind_is e) ?_
 (try clear e)
 intro o q e
 cases o <;> (first | exact noS e | cases e)
 exact q
theorem citAt {B:Base} {F:Lay} {σ:Sto} {s:Shared} (I:Inv B F σ s) {j l:Nat} {fin:Bool} (e:σ[j]?=some (.cit l fin)) :
  ∃ it bm x xs tk,Fat F j [it,bm]∧Fat F l (x :: xs)∧s.heap.get? it=some { cls:=.type "callable_iterator",data:=.fields (citF fin bm tk) }∧s.heap.get? bm=some { cls:=.type "method",data:=.fields #[.ref (B.fa B.lx.rd),.ref x] }:=by
 obtain ⟨as,ef,it,bm,x,xs,tk,hq_277,e1,e2,e3⟩:=I.at1 e rfl
 subst hq_277
 exact ⟨it,bm,x,xs,tk,ef,e1,e2,e3⟩
theorem fitNext_is {rd:V→Sto→Option (V × Sto)} {j:Nat} {σ:Sto} {o:Option (List Nat) × Sto} (e:fitNext rd j σ=some o):∃ l,(σ[j]?=some (.cit l true)∧o=(none,σ)) ∨
  (σ[j]?=some (.cit l false)∧∃ c σ₄,rd (.ref l) σ=some (.str c,σ₄)∧σ₄[j]?=some (.cit l false)∧((c=[]∧o=(none,σ₄.set j (.cit l true)))∨(c≠[]∧o=(some c,σ₄)))):=by
 refine xP1_2 (bind_is e) ?_; (try clear e); intro l fin q e
 refine ⟨l,?_⟩
 cases fin with
 | true=>apply s1 e; exact .inl ⟨citI_is q,rfl⟩
 | false =>
  dsimp only at e
  rw [if_neg (by decide)] at e
  refine xP1_2 (bind_is e) fun v σ₄ er e1=>?_
  refine x1_2 (bind_is e1) fun c hc e2=>?_
  refine x1_2 (bind_is e2) fun c' q' e3=>?_
  refine x0_2 (ite_of e3) fun hcc e4=>?_
  (try clear e e1 e2 e3)
  subst hcc
  have hv:=strV_is hc
  subst hv
  refine .inr ⟨citI_is q,c,σ₄,er,citI_is q',?_⟩
  cases c with
  | nil=>apply s1 e4; exact .inl ⟨rfl,rfl⟩
  | cons=>apply s1 e4; exact .inr ⟨nofun,rfl⟩
theorem fitN_is {t:Tg} {a:SL} {j n:Nat} {loc:Loc} {σ:Sto} {r:Fl × Loc × Sto} {rd:V→Sto→Option (V × Sto)} {K:Loc→Sto→Option (Fl × Loc × Sto)} (e:(fitN rd (loopStep Φ Λ Gv [] t a) j n (Fl.next,loc) σ).bind (endF K)=some r):∃ m o,n=m+1∧fitNext rd j σ=some o∧((o.1=none∧K loc o.2=some r) ∨
  ∃ c loc₁ x,o.1=some c∧bindT t (.str c) loc o.2=some loc₁∧evSL Φ Λ Gv a loc₁ o.2=some x∧Rest (fun l s=>(fitN rd (loopStep Φ Λ Gv [] t a) j m (Fl.next,l) s).bind (endF K)) r (turn [] x)):=by
 refine x1_2 (bind_is e) fun z h hz=>?_
 (try clear e)
 cases n with
 | zero=>exact noS h
 | succ m =>
  refine xP1_2 (bind_is h) ?_; (try clear h); intro oc σ₄ q h
  refine ⟨m,_,rfl,q,?_⟩
  cases oc with
  | none=>cases h; exact .inl ⟨rfl,hz⟩
  | some c =>
   refine x1_2 (bind_is h) ?_
   (try clear h)
   intro y hs h
   refine x2_3 (map2_is hs) fun loc₁ x eb ea hq_278=>?_
   subst hq_278
   refine .inr ⟨c,loc₁,x,rfl,eb,ea,rest_of (go:=fitN rd (loopStep Φ Λ Gv [] t a) j m) (z:=z) ?_ hz⟩
   by_cases hy:(turn [] x).1=true
   ·rw [if_pos hy] at h ⊢; exact h
   ·rw [if_neg hy] at h ⊢; exact (Option.some.inj h).symm
theorem str_nil {X:Str} {c:List Nat} (e:X.cps.toList=c):X=⟨#[]⟩↔c=[]:=by
 constructor
 ·rintro rfl; exact e.symm
 ·rintro rfl
  obtain ⟨hw_279⟩:=X
  obtain ⟨l⟩:=hw_279
  have:l=[]:=e
  rw [this]
theorem fit_turn (K:Kit B A d Φ Λ Gv gt mk kws) {t:Tg} {i:Nat} {p':Pos} (hti:t=.name i p') {a b:SL} (ha:JSL B A Φ Λ Gv gt tb kws a) (hb:JSL B A Φ Λ Gv gt tb kws b) {vis:List (Nat × Bool)} {wv gl:List Nat} {env:Env} {F:Lay} {s:Shared} (hwa:wfSL gt tb kws Gv vis wv gl a=true) (hwb:wfSL gt tb kws Gv vis wv gl b=true) (ht:∀ x∈tgSlots t,x∈wv) (R:ER B gt tb vis wv gl env) {it bm:Addr} {j n:Nat} {r:Fl × Loc × Sto} {s₃:Shared} {P:Flow→Shared→Prop} {J:Nat→Shared→Prop} (hP:∀ f s',SPost B tb vis (OwnA tb wv env) env F s r.1 r.2.1 r.2.2 f s'→P f s')
  (hJ:∀ n s',LoopX B tb vis (OwnA tb wv env) env F s (fun ζ F ζ ζ=>Fat F j [it,bm]) (fun ζ l σ=>(fitN (fun v σ=>Λ .read_char [v] σ) (loopStep Φ Λ Gv [] t a) j n (Fl.next,l) σ).bind (endF fun loc σ=>evSL Φ Λ Gv b loc σ)=some r) s'→J n s')
  (h:LoopX B tb vis (OwnA tb wv env) env F s (fun ζ F ζ ζ=>Fat F j [it,bm]) (fun ζ l σ=>(fitN (fun v σ=>Λ .read_char [v] σ) (loopStep Φ Λ Gv [] t a) j n (Fl.next,l) σ).bind (endF fun loc σ=>evSL Φ Λ Gv b loc σ)=some r) s₃) {E:Value→Shared→Prop} :
  wpAny (model B.prog B.w) A (pyNext (.ref it)) (NextQ B A gt tb t a b env it P n J E) E s₃:=by
 refine x4_5 (h) fun G k loc₃ σ₃ T I₃ L₃ ef e=>?_
 refine x2_3 (fitN_is e) ?_
 (try clear e)
 intro m o hq_280 hn e
 apply q1 hq_280
 obtain ⟨l,⟨q,rfl⟩ | ⟨q,c,σ₄,er,q',ho⟩⟩:=fitNext_is hn
 ·refine x5_4 (citAt I₃ q) fun it' bm' x' xs' tk' ef' ζ hit ζ=>?_
  cases ef.2.symm.trans ef'.2
  rcases e with ⟨_,e⟩ | ⟨_,_,_,z,_⟩
  ·exact cit_over K.room.handled hit fun h' k=>else_ok tb hb hwb R hP (T.draw tb (W:=fun ζ=>False) (s₅:={ s₃ with heap:=h' }) (.all k) fun ζ=>False.elim) (I₃.all k _) (L₃.mv (fun b o ζ e=>k b o e) (.of k) fun b w=>(L₃.fr w).1) e
  ·exact noS z
 ·refine x1_1 (K.lex) fun KL OL=>?_
  refine x5_4 (citAt I₃ q) fun it' bm' x' xs' tk' ef' el' hit hbm=>?_
  cases ef.2.symm.trans ef'.2
  have eΦ:=K.lam _ _ _ _ rfl er
  refine x2_3 (K.fn _ _ _ _ eΦ) fun o' fd h1 h2 h3=>?_
  rw [OL.rd] at h1
  have c₀:=K.phi A.in1 ⟨fun h=>h,Nat.le_refl _,Nat.add_le_add_left (by decide) _⟩ _ _ s₃ _ _ [.ref x'] _ _ (K.mkw _) I₃ (.cons (.ref el') .nil) eΦ
  rw [OL.rd] at c₀
  refine cit_step K.room.handled hit hbm (I₃.old.get_of_cls h1 h2) h3 (codeAny_mono c₀ fun r' s₄ z=>?_)
  rcases r' with z' | (v | _ | _ | _) <;> first | exact z | skip
  refine x1_3 (z) fun G₄ T₄ I₄ r₄=>?_
  refine x2_3 (r₄.str_is) fun X tX hq_281 eX bX=>?_
  apply q1 hq_281
  refine x5_4 (citAt I₄ q') fun it' bm' x'' xs'' tk'' ef' el'' hit' hbm'=>?_
  have ef₄:=app_get _ G₄ _ _ ef
  cases ef₄.2.symm.trans ef'.2
  cases (app_get _ G₄ _ _ el').2.symm.trans el''.2
  have L₄:=L₃.step I₃ T₄
  have T₃₄:=StepW.own tb T L₃ T₄.w I₄
  rw [List.append_assoc] at I₄ L₄ ef₄ el''
  refine ⟨X,tX,tk'',rfl,hit',hbm',⟨o',fd,I₄.old.get_of_cls h1 h2,h3⟩,fun hX=>?_,fun hX h' e1 k=>?_⟩
  ·rcases ho with ⟨hc,_⟩ | ⟨_,rfl⟩
   ·exact absurd ((str_nil eX).mpr hc) hX
   rcases e with ⟨z,_⟩ | ⟨c',loc₁,x,hc',eb,ea,e⟩
   ·cases z
   cases hc'
   subst hti
   exact wpAny_pure (turn_ok tb K ha hwa ht R I₄ L₄ (.str tX eX bX) eb ea e (Nat.lt_succ_self m) (fun f s₆ p=>hP _ _ (SPost.backP tb I₄ L₄ T₃₄ f p)) fun G' loc' s₆ T' I' L' e'=>hJ _ _ (.on (k:=k) tb T₃₄ L₄ T' I' L' (app_get _ G' _ _ ef₄) e'))
  ·rcases ho with ⟨rfl,rfl⟩ | ⟨hc,_⟩
   rotate_left
   ·exact absurd ((str_nil eX).mp hX) hc
   rcases e with ⟨_,e⟩ | ⟨_,_,_,z,_⟩
   rotate_left
   ·exact noS z
   have hne:bm≠it:=fun z=>by
    rw [z,hit'] at hbm'
    have:=congrArg Obj.cls (Option.some.inj hbm')
    simp at this
   have kp:Kept (·∈[it,bm]) s₄.heap h':=fun b o eb n=>k b o (fun z=>n (by rw [z]; exact .head _)) eb
   have I₅:=I₄.updO (o':=.cit l true) (tk:=s₄.toks) ef₄ kp fun im=>⟨it,bm,x',xs',tk'',rfl,el'',e1,k _ _ hne hbm'⟩
   have T₅:Step B (F++(G++G₄)) s₄ [] { s₄ with heap:=h' }:=.of_updO ef₄ kp
   have L₅:=L₄.step I₄ T₅
   rw [List.append_nil] at L₅
   have T₃₅:=StepW.own tb T₃₄ L₄ T₅.w (by rw [List.append_nil]; exact I₅)
   rw [List.append_nil] at T₃₅
   exact else_ok tb hb hwb R hP T₃₅ I₅ L₅ e
theorem js_fitr (K:Kit B A d Φ Λ Gv gt mk kws) {fuel i:Nat} {p':Pos} {ie:E} {a b:SL} (ha:JSL B A Φ Λ Gv gt tb kws a) (hb:JSL B A Φ Λ Gv gt tb kws b) (p:Pos):JS B A Φ Λ Gv gt tb kws (.fitr fuel i p' ie a b p):=by
 intro vis wv gl env loc F σ s fl loc' σ' hw R Iv L ev
 refine bB3 hw fun hwi hwt hwa hwb=>?_
 have ht:∀ x∈tgSlots (.name i p'),x∈wv:=fun x hx=>List.contains_iff_mem.mp (List.all_eq_true.mp (bA1 hwt).1 x hx)
 refine xP1_2 (bind_is (es_fitr.symm.trans ev)) ?_
 clear ev
 intro vi σ₁ ei e1
 refine x1_2 (bind_is e1) fun j hj e2=>?_
 refine wpAny_For (((okE K tb ie vis wv gl env loc F σ s hwi R Iv L).1 _ _ ei).seq fun x G₁ s₁ T₁ p₁=>?_) (folded_ok ie (wf_raw hwi))
 obtain ⟨l₀,fin₀,q₀⟩:∃ l fin,σ₁[j]?=some (.cit l fin):=by
  refine x2_3 (fitN_is e2) fun ζ o ζ hn ζ=>?_
  obtain ⟨l,⟨q,_⟩ | ⟨q,_⟩⟩:=fitNext_is hn
  ·exact ⟨_,_,q⟩
  ·exact ⟨_,_,q⟩
 refine x5_4 (citAt p₁.1 q₀) fun it bm x₀ xs₀ tk₀ ef ζ hit₀ ζ=>?_
 rw [(p₁.2.asRef hj).refAt ef]
 refine cit_iter hit₀ ?_
 have L₁:=L.step Iv T₁
 refine codeAny_mono (codeAny_forLoop_any (R:=stR (SPost B tb vis (OwnA tb wv env) env (F++G₁) s₁ fl loc' σ'))
  (fun n=>LoopX B tb vis (OwnA tb wv env) env (F++G₁) s₁ (fun ζ F ζ ζ=>Fat F j [it,bm]) (fun ζ l σ=>(fitN (fun v σ=>Λ .read_char [v] σ) (loopStep Φ Λ Gv [] (.name i p') a) j n (Fl.next,l) σ).bind (endF fun loc σ=>evSL Φ Λ Gv b loc σ)=some (fl,loc',σ')))
  (fun n s₃ h=>fit_turn (r:=(fl,loc',σ')) tb K rfl ha hb hwa hwb ht R (fun ζ ζ h=>h) (fun ζ ζ h=>h) h) fuel (.start tb (k:=0) p₁.1 L₁ (fun ζ ζ e=>e) ef e2)) fun r s' h=>?_
 cases r with
 | error z=>exact h.elim
 | ok f=>exact h.back T₁.w (own_live L₁)
end
end Mine
namespace Mine
open PySem
section
variable {B:Base} {A:Around} {d:Nat} {Φ:Calls} {Λ:Lexer} {Gv:Nat→Option V} {gt:List Str} {mk:Me→Nat} {kws:Nat→Str→Bool} (K:Kit B A d Φ Λ Gv gt mk kws) (tb:List Str)
include K in
mutual
theorem okS:∀ st:S,JS B A Φ Λ Gv gt tb kws st
 | .assign (.name i q) e p=>js_assignName K tb i q e p
 | .assign (.tup is q) e p=>js_assignTup K tb is q e p
 | .assignSub a i q e p=>js_assignSub K tb a i q e p
 | .aug i q op e p=>js_aug K tb i q op e p
 | .augSub a i q op e p=>js_augSub K tb a i q op e p
 | .expr e p=>js_expr K tb e p
 | .ret e p=>js_ret K tb e p
 | .cond t a b p=>js_cond tb K (okSL a) (okSL b) p
 | .whil n clr t a p=>js_whil tb K (okSL a) p
 | .loop clr t it a b p=>js_loop tb K (okSL a) (okSL b) p
 | .enum clr is tp g gp it a b q p=>js_enum tb K (okSL a) (okSL b) q p
 | .inc o q1 q2 p=>js_inc K tb o q1 q2 p
 | .fitr n i tp it a b p=>js_fitr tb K (okSL a) (okSL b) p
 | .brk p=>js_brk tb p
 | .cont p=>js_cont tb p
 | .raw x=>by intro vis wv gl env loc F σ s fl loc' σ' hw R I L e; exact noS e
theorem okSL:∀ st:SL,JSL B A Φ Λ Gv gt tb kws st
 | .nil=>jsl_nil tb
 | .cons s r=>jsl_cons tb (okS s) (okSL r)
end
end
end Mine
namespace Mine
open PySem
section
variable {B:Base} {A:Around} {F G:Lay} {σ σ':Sto} {s s':Shared} {v v':V} {x:Value}
theorem nodup_apart {F G:Lay} {i:Nat} {as:List Addr} (nd:(F++G).flatten.Nodup) (hi:F.length≤i) (e:(F++G)[i]?=some as):as.Nodup∧(∀ a∈as,a∉F.flatten)∧∀ a∈as,a∈G.flatten:=by
 rw [List.getElem?_append_right hi] at e
 rw [List.flatten_append,List.nodup_append] at nd
 have hm:∀ a∈as,a∈G.flatten:=fun a ha=>flat_mem e ha
 refine ⟨?_,fun a ha q=>nd.2.2 a q a (hm a ha) rfl,hm⟩
 have:=nd.2.1
 exact (List.pairwise_flatten.mp this).1 as (List.mem_of_getElem? e)
theorem leave_at {i:Nat} {o:O} {fz:Bool} (T:Step B F s G s') (I:Inv B (F++G) σ s') (h0:0 < F.length) (l:stoLow F.length (σ.take F.length)=true) (hi:F.length≤i) (r:VR B.fa s'.heap (F++G) (.ref i) x) (ho:σ[i]?=some o) (ol:o.low F.length=true):Cn B F s (PE B (hand fz F.length σ o).2 (hand fz F.length σ o).1) x s':=by
 have It:=I.take h0 l
 refine x2_2 (r.ref_is) fun a as hq_272 er=>?_
 apply q1 hq_272
 have na:=nodup_apart I.nodup hi er.2
 have hor:=I.obj i o _ ho er.2
 have cell:Cn B F s (PE B (σ.take F.length++[o]) (.ref F.length)) (.ref a) s':=by
  refine ⟨[a :: as],⟨T.kept,fun b hb=>T.fresh b (na.2.2 b (by simpa using hb))⟩,It.grow (take_obj I (.one na.2.2) l) (hor.low (.one na.2.2) ol) na.1 na.2.1 fun b hb=>I.fresh b (flat_mem er.2 hb),.ref (as:=as) ⟨h0,by rw [List.getElem?_concat_length]⟩⟩
 cases o with
 | list xs =>
  cases fz with
  | false=>exact cell
  | true =>
   refine x2_4 (hor.low .left ol) fun a' items e hw_273 q z=>?_
   refine x1_1 (hw_273) fun n p=>?_
   cases e
   exact ⟨[],⟨T.kept,fun ζ h=>by cases h⟩,by rw [List.append_nil]; exact ⟨It,.lst p (na.2.1 a (.head _)) q z⟩⟩
 | _=>exact cell
theorem leave_ok (fz:Bool) (T:Step B F s G s') (I:Inv B (F++G) σ s') (h0:0 < F.length) (r:VR B.fa s'.heap (F++G) v x):Cn B F s (PE B (leave fz F.length v σ).2 (leave fz F.length v σ).1) x s':=by
 have all:Cn B F s (PE B σ v) x s':=⟨G,T,I,r⟩
 unfold leave
 by_cases q:(stoLow F.length (σ.take F.length)&&decide (F.length≤σ.length))=true
 ·rw [if_pos q]
  have q:=Bool.and_eq_true_iff.mp q
  by_cases hl:v.low F.length=true
  ·rw [if_pos hl]
   exact ⟨[],⟨T.kept,fun ζ h=>by cases h⟩,by rw [List.append_nil]; exact ⟨I.take h0 q.1,r.low .left hl⟩⟩
  ·rw [if_neg hl]
   cases e:(refV v).bind fun i=>(σ[i]?).bind fun o=>if o.low F.length then some (hand fz F.length σ o) else none with
   | none=>exact all
   | some y =>
    refine x2_3 (bin2_is e) ?_
    (try clear e)
    intro i o hv ho e
    refine x0_2 (ite_is e) fun ol hq_274=>?_
    apply q2 hq_274
    have hv:=refV_is hv
    subst hv
    exact leave_at T I h0 q.1 (Nat.not_lt.mp fun z=>hl (decide_eq_true z)) r ho ol
 ·rw [if_neg q]; exact all
end
end Mine
namespace Mine
open PySem
structure Fn where
 tb:List Str
 vis:List (Nat × Bool)
 wv:List Nat
 gl:List Nat
 n:Nat
 np:Nat
 fz:Bool
 body:SL
noncomputable def Fn.okB (gt:List Str) (kws:Nat→Str→Bool) (Gv:Nat→Option V) (f:Fn) (sc:Scope):Bool :=
 (sc.kind==.function)&&!sc.isCoroutine&&!sc.isGenerator &&
 f.vis.all (fun p=>sc.names.lookup (nmOf f.tb p.1)==some (if p.2 then .cell else .local)) &&
 f.gl.all (fun g=>sc.names.lookup (nmOf gt g)==some .globalImplicit&&plainNm (nmOf gt g)) &&
 nodupB (f.vis.map fun p=>nmOf f.tb p.1) &&
 nodupB (sc.names.map (·.1)) &&
 f.vis.all (fun p=>plainNm (nmOf f.tb p.1)) &&
 f.wv.all (fun i=>f.vis.any (·.1==i)) &&
 (List.range f.np).all (fun i=>f.vis.any (·.1==i)) &&
 nodupB ((List.range f.np).map (nmOf f.tb)) &&
 wfSL gt f.tb kws Gv f.vis f.wv f.gl f.body
structure FnP (gt:List Str) (kws:Nat→Str→Bool) (Gv:Nat→Option V) (f:Fn) (sc:Scope):Prop where
 kind:sc.kind=.function
 co:sc.isCoroutine=false
 gen:sc.isGenerator=false
 nm:∀ p∈f.vis,sc.names.lookup (nmOf f.tb p.1)=some (if p.2 then .cell else .local)
 gl:∀ g∈f.gl,sc.names.lookup (nmOf gt g)=some .globalImplicit∧plainNm (nmOf gt g)=true
 nd:(f.vis.map fun p=>nmOf f.tb p.1).Nodup
 nds:(sc.names.map (·.1)).Nodup
 plain:∀ p∈f.vis,plainNm (nmOf f.tb p.1)=true
 wv:∀ i∈f.wv,∃ b,(i,b)∈f.vis
 par:∀ i,i < f.np→∃ b,(i,b)∈f.vis
 ndp:((List.range f.np).map (nmOf f.tb)).Nodup
 wf:wfSL gt f.tb kws Gv f.vis f.wv f.gl f.body=true
theorem any_of {vis:List (Nat × Bool)} {i:Nat} (h:vis.any (·.1==i)=true):∃ b,(i,b)∈vis:=by
 refine xP1_2 (List.any_eq_true.mp h) fun j b m e=>?_
 have e:(j==i)=true:=e
 cases eq_of_beq e
 exact ⟨b,m⟩
theorem fnP_of {gt:List Str} {kws:Nat→Str→Bool} {Gv:Nat→Option V} {f:Fn} {sc:Scope} (h:f.okB gt kws Gv sc=true):FnP gt kws Gv f sc:=by
 unfold Fn.okB at h
 simp only [Bool.and_eq_true] at h
 refine x0_2 (h) fun hw_284 h12=>?_
 refine x0_2 (hw_284) fun hw_285 h11=>?_
 refine x0_2 (hw_285) fun hw_286 h10=>?_
 refine x0_2 (hw_286) fun hw_287 h9=>?_
 refine x0_2 (hw_287) fun hw_288 h8=>?_
 refine x0_2 (hw_288) fun hw_289 h7=>?_
 refine x0_2 (hw_289) fun hw_290 h6=>?_
 refine x0_2 (hw_290) fun hw_291 h5=>?_
 refine x0_2 (hw_291) fun hw_292 h4=>?_
 obtain ⟨⟨h1,h2⟩,h3⟩:=hw_292
 refine ⟨eq_of_beq h1,by simpa using h2,by simpa using h3,fun p hp=>eq_of_beq (List.all_eq_true.mp h4 p hp),fun g hg=>?_,nodup_of h6,nodup_of h7,fun p hp=>List.all_eq_true.mp h8 p hp,fun i hi=>any_of (List.all_eq_true.mp h9 i hi),fun i hi=>any_of (List.all_eq_true.mp h10 i (List.mem_range.mpr hi)),nodup_of h11,h12⟩
 have:=List.all_eq_true.mp h5 g hg
 rw [Bool.and_eq_true] at this
 exact ⟨eq_of_beq this.1,this.2⟩
theorem bindL_off {kindOf:Str→Option NameKind} {n:Str}:∀ {names:List Str} {xs:List Value} {m:Str→Option Value},n∉names→bindL kindOf (names.zip xs) m n=m n
 | [],xs,m,_=>by cases xs <;> rfl
 | a :: names,[],m,_=>rfl
 | a :: names,x :: xs,m,h=>by
  rw [List.mem_cons,not_or] at h
  show bindL kindOf (names.zip xs) _ n=_
  rw [bindL_off h.2]
  split
  ·show (if n=a then some x else m n)=m n
   rw [if_neg h.1]
  ·rfl
theorem bindL_at {kindOf:Str→Option NameKind} {n:Str}:∀ {names:List Str} {xs:List Value} {m:Str→Option Value} {i:Nat} {x:Value},names.Nodup→names[i]?=some n→xs[i]?=some x→kindOf n=some .local→bindL kindOf (names.zip xs) m n=some x
 | [],xs,m,i,x,_,e,_,_=>by exact noS e
 | a :: names,[],m,i,x,_,_,e,_=>by exact noS e
 | a :: names,y :: xs,m,0,x,nd,e,e',k=>by
  cases e; cases e'
  show bindL kindOf (names.zip xs) _ _=_
  rw [bindL_off (List.nodup_cons.mp nd).1,if_pos k]
  exact if_pos rfl
 | a :: names,y :: xs,m,i+1,x,nd,e,e',k=>by
  show bindL kindOf (names.zip xs) _ n=_
  exact bindL_at (List.nodup_cons.mp nd).2 e e' k
theorem bindC_off {kindOf:Str→Option NameKind} {n:Str}:∀ {names:List Str} {xs:List Value} {m:Str→Option Value},n∉names→bindC kindOf (names.zip xs) m n=m n
 | [],xs,m,_=>by cases xs <;> rfl
 | a :: names,[],m,_=>rfl
 | a :: names,x :: xs,m,h=>by
  rw [List.mem_cons,not_or] at h
  show bindC kindOf (names.zip xs) _ n=_
  rw [bindC_off h.2]
  split
  ·rfl
  ·show (if n=a then some x else m n)=m n
   rw [if_neg h.1]
theorem bindC_at {kindOf:Str→Option NameKind} {n:Str}:∀ {names:List Str} {xs:List Value} {m:Str→Option Value} {i:Nat} {x:Value},names.Nodup→names[i]?=some n→xs[i]?=some x→kindOf n=some .cell→bindC kindOf (names.zip xs) m n=some x
 | [],xs,m,i,x,_,e,_,_=>by exact noS e
 | a :: names,[],m,i,x,_,_,e,_=>by exact noS e
 | a :: names,y :: xs,m,0,x,nd,e,e',k=>by
  cases e; cases e'
  show bindC kindOf (names.zip xs) _ _=_
  rw [bindC_off (List.nodup_cons.mp nd).1,if_neg (by rw [k]; decide)]
  exact if_pos rfl
 | a :: names,y :: xs,m,i+1,x,nd,e,e',k=>by
  show bindC kindOf (names.zip xs) _ n=_
  exact bindC_at (List.nodup_cons.mp nd).2 e e' k
theorem plain_of {x:Str} (h:plainNm x=true):(x==("__debug__":Str))=false∧(x==("__classdict__":Str))=false:=by
 unfold plainNm at h
 rw [Bool.and_eq_true,Bool.not_eq_true',Bool.not_eq_true'] at h
 exact h
section
variable {B:Base} {A:Around} {F:Lay} {σ σ':Sto} {s:Shared} {d:Nat} {v:V} {gt:List Str} {Φ:Calls} {Λ:Lexer} {Gv:Nat→Option V} {mk:Me→Nat} {kws:Nat→Str→Bool}
theorem call_ok {f:Fn} {fd:FuncData} {a:Addr} {o:Obj} {as:List V} {xs xs':List Value} {kw:List (Str × Value)} {A₀:Around} (K:∀ A',Room A' d→Kit B A' d Φ Λ Gv gt mk kws) (R:Room A₀ (d+1)) (Nr:Near A₀ A)
  (I:Inv B F σ s) (r:VRs B.fa s.heap F as xs) (hnp:as.length=f.np)
  (ho:B.h0.get? a=some o) (hc:o.cls≠.none) (hd:o.data=.func fd) (hb:fd.body=.stmts (toSL gt f.tb f.body)) (hcl:fd.closure=[]) (hg:fd.globals=B.gA) (hbu:fd.builtins=B.bA)
  (hcd:s.heap.CodeRec fd.code fd.qualname) (ok:FnP gt kws Gv f fd.scope)
  (bind:BindsTo s fd ⟨xs',kw⟩ (((List.range f.np).map (nmOf f.tb)).zip xs)) (e:runF Φ Λ Gv f.fz f.n f.body as σ=some (v,σ')) :
  codeAny (model B.prog B.w) A (.call (.ref a) ⟨xs',kw⟩) (retR (Cn B F s (PE B σ' v))) s:=by
 have ho':s.heap.get? a=some o:=I.old.get_of_cls ho hc
 refine codeAny_call_function (by have:=R.depth; have:=Nr.depth; show A.depth < 1000; (first | lia | omega)) ho' hd ok.co ok.gen hb hcd (bind _ _ _ _ ?_)
 rw [hcl]
 have hkind:∀ x∈((List.range f.np).map (nmOf f.tb)).zip xs,fd.scope.names.lookup x.1=some .local∨(fd.scope.names.lookup x.1=some .cell∧((cellsFrom (s.heap.objs.size+1) fd.scope.names []).lookup x.1).isSome=true):=by
  rintro ⟨n,y⟩ hx
  have hn:=(List.of_mem_zip hx).1
  refine x1_2 (List.mem_map.mp hn) fun i hi hq_293=>?_
  apply q2 hq_293
  refine x1_1 (ok.par i (List.mem_range.mp hi)) fun b hb=>?_
  have:=ok.nm _ hb
  cases b with
  | false=>exact .inl this
  | true =>
   refine .inr ⟨this,?_⟩
   have q:=cells_ok fd.scope.names (s.heap.push { cls:=.type "frame",data:=.dict #[] }) [] ok.nds (fun n c e=>by cases e) (fun n n' c e=>by exact noS e)
   rw [show (s.heap.push { cls:=.type "frame",data:=.dict #[] }).objs.size=s.heap.objs.size+1 from Heap.size_push ..] at q
   refine x1_2 (q.2.1 _ (mem_of_lookup this)) fun c ec ζ=>?_
   show ((cellsFrom (s.heap.objs.size+1) fd.scope.names []).lookup (nmOf f.tb i)).isSome=true
   rw [ec]; rfl
 refine wpAny_newFunctionEnv_cells ok.kind hkind fun env he s₁ x'=>?_
 have hL:env.locals=s.heap.objs.size:=by rw [he]; rfl
 have hsc:env.scope=fd.scope:=by rw [he]; rfl
 have hcs:env.cells=cellsFrom (s.heap.objs.size+1) fd.scope.names []:=by rw [he]; rfl
 have kn:∀ n,env.kindOf n=fd.scope.names.lookup n:=fun n=>by unfold Env.kindOf; rw [hsc]
 have hk₁:=x'.toInCall.keep
 refine x2_2 (x'.done) fun h₁ tk e₁ ζ=>?_
 have im₁:Mv F F s.heap s₁.heap:=.of hk₁
 have I₁:Inv B F σ s₁:=by rw [e₁]; exact I.all (by rw [e₁] at hk₁; exact hk₁) tk
 have r₁:VRs B.fa s₁.heap F as xs:=r.step im₁
 refine ⟨I₁.lim,codeAny_func ?_⟩
 have fresh:∀ b,s.heap.objs.size≤b→s.heap.get? b=none:=fun b hb=>by
  cases e:s.heap.get? b with
  | none=>rfl
  | some o=>exact absurd (Heap.lt_size e) (Nat.not_lt.mpr hb)
 have er:ER B gt f.tb f.vis f.wv f.gl env:=by
  refine ⟨by rw [hsc]; exact ok.kind,by rw [he]; exact hg,by rw [he]; exact hbu,fun i hi=>by rw [kn]; exact ok.nm _ hi,fun i hi=>.inl (by rw [kn]; exact ok.nm _ hi),fun i hi=>?_,fun g h=>by rw [kn]; exact (ok.gl g h).1,fun i j b c hi hj e=>?_,fun i b hi=>plain_of (ok.plain _ hi),fun g h=>(plain_of (ok.gl g h).2).1⟩
  ·refine x1_1 (ok.wv i hi) fun b hb=>?_
   cases b with
   | false=>exact .inl hb
   | true=>exact .inr ⟨hb,by rw [kn]; exact ok.nm _ hb⟩
  ·have:=nodup_inj ok.nd hi hj e
   exact ⟨congrArg (·.1) this,congrArg (·.2) this⟩
 have len:=r.length
 have lr:LR B f.tb f.vis env F (as.map some++List.replicate (f.n - as.length) none) s₁.heap:=by
  have at_:∀ (i:Nat) (v:V),(as.map some++List.replicate (f.n - as.length) none)[i]?=some (some v)→as[i]?=some v∧i < f.np:=fun i v e=>by
   by_cases hi:i < as.length
   ·rw [List.getElem?_append_left (by rw [List.length_map]; exact hi),List.getElem?_map] at e
    cases q:as[i]? with
    | none=>rw [q] at e; exact noS e
    | some u=>rw [q] at e; cases e; exact ⟨rfl,hnp▸hi⟩
   ·rw [List.getElem?_append_right (by rw [List.length_map]; (first | lia | omega)),List.getElem?_replicate] at e
    split at e <;> (first | exact noS e | cases e)
  have nm_:∀ i,i < f.np→((List.range f.np).map (nmOf f.tb))[i]?=some (nmOf f.tb i):=fun i hi=>by
   rw [List.getElem?_map,List.getElem?_range hi]; rfl
  refine ⟨⟨_,x'.toInCall.ns,fun i v hi e=>?_⟩,fun i hi=>?_,⟨?_,?_⟩,fun n c e=>⟨?_,?_,_,x'.cell n c e⟩,fun n n' c e e'=>?_⟩
  ·refine x0_2 (at_ i v e) ?_
   (try clear e)
   intro e hi'
   refine x1_2 (r₁.get e) fun y ey ry=>?_
   exact ⟨y,bindL_at ok.ndp (nm_ i hi') ey (by rw [kn]; exact ok.nm _ hi),ry⟩
  ·have q:=cells_ok fd.scope.names (s.heap.push { cls:=.type "frame",data:=.dict #[] }) [] ok.nds (fun n c e=>by cases e) (fun n n' c e=>by exact noS e)
   rw [show (s.heap.push { cls:=.type "frame",data:=.dict #[] }).objs.size=s.heap.objs.size+1 from Heap.size_push ..] at q
   refine x1_2 (q.2.1 _ (mem_of_lookup (ok.nm _ hi))) fun c ec ζ=>?_
   rw [← hcs] at ec
   refine ⟨c,_,ec,x'.cell _ c ec,fun v e=>?_⟩
   refine x0_2 (at_ i v e) ?_
   (try clear e)
   intro e hi'
   refine x1_2 (r₁.get e) fun y ey ry=>?_
   exact ⟨y,bindC_at ok.ndp (nm_ i hi') ey (by rw [kn]; exact ok.nm _ hi),ry⟩
  ·rw [hL]; exact (I.dead (fresh _ (Nat.le_refl _))).2
  ·rw [hL]; exact (I.dead (fresh _ (Nat.le_refl _))).1
  ·have:=x'.above n c (mem_of_lookup e)
   rw [hL] at this
   exact (I.dead (fresh _ (Nat.le_of_lt this))).2
  ·have:=x'.above n c (mem_of_lookup e)
   rw [hL] at this
   exact (I.dead (fresh _ (Nat.le_of_lt this))).1
  ·exact name_of_addr x'.apart (mem_of_lookup e) (mem_of_lookup e')
 have room:Room (A.deeper env) d:=⟨Nr.handled R.handled,by have:=R.depth; have:=Nr.depth; show A.depth+1+d≤800; (first | lia | omega),by have:=R.units; have:=Nr.units; rw [Around.deeper_units]; (first | lia | omega)⟩
 refine x1_2 (bind_is e) ?_
 (try clear e)
 intro x ex e
 refine x1_2 (map_is e) ?_
 (try clear e)
 intro u eu e
 refine wpAny_mono (okSL (K _ room) f.tb f.body f.vis f.wv f.gl env _ F σ s₁ _ _ _ ok.wf er I₁ lr ex) (fun fw s' p=>?_) fun ζ ζ z=>z.elim
 refine x1_4 (p) fun G T I' ζ q=>?_
 have T':Step B F s G s':=by
  refine ⟨fun b o e n=>T.kept b o (hk₁ b o e) ?_,fun b hb=>?_⟩
  ·rintro (q | q)
   ·exact n q
   ·have:s.heap.objs.size≤b:=by
     rcases q with rfl | ⟨i,_,q⟩
     ·rw [hL]; exact Nat.le_refl _
     ·have:=x'.above _ _ (mem_of_lookup q); rw [hL] at this; exact Nat.le_of_lt this
    rw [fresh b this] at e; exact noS e
  ·cases e:s.heap.get? b with
   | none=>rfl
   | some o=>have:=T.fresh b hb; rw [hk₁ b o e] at this; cases this
 have done:∀ {y:Value},VR B.fa s'.heap (F++G) u y→Cn B F s (PE B σ' v) y s':=fun {y} hv=>by
  have:=leave_ok f.fz T' I' (by rw [I.len]; exact I.size) hv
  rw [I.len,e] at this; exact this
 obtain ⟨fl,loc',σ₂⟩:=x
 cases fl with
 | ret w=>cases eu; cases fw <;> first | exact q.elim | exact done q
 | next=>cases eu; cases fw <;> first | exact q.elim | exact done .none
 | _=>exact noS eu
end
end Mine
namespace Mine
open PySem
noncomputable def giveVis:List (Nat × Bool):=[(0,false),(1,true),(2,true),(3,false)]
noncomputable def giveB (gt:List Str) (kws:Nat→Str→Bool) (Gv:Nat→Option V) (f:Fn) (sc:Scope):Bool :=
 (sc.kind==.function)&&!sc.isCoroutine&&!sc.isGenerator &&
 sc.names.all (fun x=>x.2 != .cell) &&
 (sc.names.lookup (nmOf f.tb 0)==some .local)&&(sc.names.lookup (nmOf f.tb 3)==some .local)&&(sc.names.lookup (nmOf f.tb 1)==some .free)&&(sc.names.lookup (nmOf f.tb 2)==some .free) &&
 (nmOf f.tb 1==Str.ofString "text")&&(nmOf f.tb 2==Str.ofString "at") &&
 f.gl.all (fun g=>sc.names.lookup (nmOf gt g)==some .globalImplicit&&plainNm (nmOf gt g)) &&
 nodupB (giveVis.map fun p=>nmOf f.tb p.1)&&giveVis.all (fun p=>plainNm (nmOf f.tb p.1)) &&
 wfSL gt f.tb kws Gv giveVis [3] f.gl f.body
structure GiveP (B:Base) (gt:List Str) (kws:Nat→Str→Bool) (Gv:Nat→Option V) (f:Fn) (sc:Scope):Prop where
 bd:∀ cl cd ct,(B.lx.gv cl cd ct).body=.stmts (toSL gt f.tb f.body)
 cl:∀ cl cd ct,(B.lx.gv cl cd ct).closure=cl
 gl:∀ cl cd ct,(B.lx.gv cl cd ct).globals=B.gA
 bu:∀ cl cd ct,(B.lx.gv cl cd ct).builtins=B.bA
 code:∀ cl cd ct,(B.lx.gv cl cd ct).code=cd
 qn:∀ cl cd ct,(B.lx.gv cl cd ct).qualname=B.lx.q2
 scp:∀ cl cd ct,(B.lx.gv cl cd ct).scope=sc
 bind:∀ cl cd ct v,bindArgs (B.lx.gv cl cd ct) ⟨[v],[]⟩=pure [(nmOf f.tb 0,v)]
 ok:giveB gt kws Gv f sc=true
 ev:∀ Φ Λ text (k:Int) σ a,0≤k→vlist σ a=some [.int k]→∃ loc',evSL Φ Λ Gv f.body [some (.int 1),some (.str text),some (.ref a),none] σ=some (.ret (.str (pieceAt text k)),loc',σ.set a (.list [.int (k+(pieceAt text k).length)]))
section
variable {B:Base} {A:Around} {F:Lay} {σ σ':Sto} {s:Shared} {d:Nat} {v:V} {gt:List Str} {Φ:Calls} {Λ:Lexer} {Gv:Nat→Option V} {mk:Me→Nat} {kws:Nat→Str→Bool}
theorem look2 {n1 n2 n:Str} {c1 c2 c:Addr} (e:([(n1,c1),(n2,c2)]:List (Str × Addr)).lookup n=some c):(n=n1∧c=c1)∨(n=n2∧c=c2):=by
 have:=mem_of_lookup e
 rw [List.mem_cons,List.mem_singleton] at this
 rcases this with z | z
 ·cases z; exact .inl ⟨rfl,rfl⟩
 ·cases z; exact .inr ⟨rfl,rfl⟩
theorem vis0 {i:Nat} (h:(i,false)∈giveVis):i=0∨i=3:=by simpa [giveVis] using h
theorem vis1 {i:Nat} (h:(i,true)∈giveVis):i=1∨i=2:=by simpa [giveVis] using h
theorem lookup_one (n:Str) (v:Value):([(n,v)]:List (Str × Value)).reverse.lookup n=some v:=by
 show List.lookup n [(n,v)]=_
 rw [List.lookup_cons,beq_self_eq_true]
theorem give_lr {f:Fn} {env:Env} {h:Heap} {m:Str→Option Value} {a:Nat} {text:List Nat} {la cT cA:Addr} {t:Tok} (h9:nmOf f.tb 1=Str.ofString "text") (h10:nmOf f.tb 2=Str.ofString "at") (eC:env.cells=[(Str.ofString "text",cT),(Str.ofString "at",cA)]) (hns:h.Ns env.locals m) (hm:m (nmOf f.tb 0)=some (.int 1 t)) (ea:Fat F a [la])
  (hT:∃ X t,h.IsCell cT (some (.str X t))∧X.cps.toList=text) (hA:h.IsCell cA (some (.ref la))) (hb:text.length≤maxLen) (hL:env.locals∉F.flatten∧B.h0.get? env.locals=none) (oT:cT∉F.flatten∧B.h0.get? cT=none) (oA:cA∉F.flatten∧B.h0.get? cA=none) (hne:cT≠cA):LR B f.tb giveVis env F [some (.int 1),some (.str text),some (.ref a),none] h:=by
 refine x2_2 (hT) fun X tX cellT hX=>?_
 refine ⟨⟨m,hns,fun i v hi e=>?_⟩,fun i hi=>?_,hL,fun n c e=>?_,fun n n' c e e'=>?_⟩
 ·rcases vis0 hi with rfl | rfl
  ·cases e; exact ⟨_,hm,.int _ _⟩
  ·cases e
 ·rcases vis1 hi with rfl | rfl
  ·exact ⟨cT,_,by rw [eC,h9]; rfl,cellT,fun v e=>by cases e; exact ⟨_,rfl,.str tX hX hb⟩⟩
  ·exact ⟨cA,_,by rw [eC,h10]; rfl,hA,fun v e=>by cases e; exact ⟨_,rfl,.ref ea⟩⟩
 ·rw [eC] at e
  rcases look2 e with ⟨rfl,rfl⟩ | ⟨rfl,rfl⟩
  ·exact ⟨oT.1,oT.2,_,cellT⟩
  ·exact ⟨oA.1,oA.2,_,hA⟩
 ·rw [eC] at e e'
  rcases look2 e with ⟨rfl,rfl⟩ | ⟨rfl,rfl⟩ <;> rcases look2 e' with ⟨rfl,z⟩ | ⟨rfl,z⟩
  ·rfl
  ·exact (hne z).elim
  ·exact (hne z.symm).elim
  ·rfl
structure GiveK (gt:List Str) (kws:Nat→Str→Bool) (Gv:Nat→Option V) (f:Fn) (sc:Scope):Prop where
 kind:sc.kind=.function
 co:sc.isCoroutine=false
 gen:sc.isGenerator=false
 cell:∀ x∈sc.names,x.2≠.cell
 l0:sc.names.lookup (nmOf f.tb 0)=some .local
 l3:sc.names.lookup (nmOf f.tb 3)=some .local
 f1:sc.names.lookup (nmOf f.tb 1)=some .free
 f2:sc.names.lookup (nmOf f.tb 2)=some .free
 n1:nmOf f.tb 1=Str.ofString "text"
 n2:nmOf f.tb 2=Str.ofString "at"
 gl:∀ g∈f.gl,sc.names.lookup (nmOf gt g)=some .globalImplicit∧plainNm (nmOf gt g)=true
 nd:(giveVis.map fun p=>nmOf f.tb p.1).Nodup
 plain:∀ p∈giveVis,plainNm (nmOf f.tb p.1)=true
 wf:wfSL gt f.tb kws Gv giveVis [3] f.gl f.body=true
theorem giveK {f:Fn} {sc:Scope} (ok:giveB gt kws Gv f sc=true):GiveK gt kws Gv f sc:=by
 unfold giveB at ok
 simp only [Bool.and_eq_true] at ok
 refine x0_2 (ok) fun hw_294 h14=>?_
 refine x0_2 (hw_294) fun hw_295 h13=>?_
 refine x0_2 (hw_295) fun hw_296 h12=>?_
 refine x0_2 (hw_296) fun hw_297 h11=>?_
 refine x0_2 (hw_297) fun hw_298 h10=>?_
 refine x0_2 (hw_298) fun hw_299 h9=>?_
 refine x0_2 (hw_299) fun hw_300 h8=>?_
 refine x0_2 (hw_300) fun hw_301 h7=>?_
 refine x0_2 (hw_301) fun hw_302 h6=>?_
 refine x0_2 (hw_302) fun hw_303 h5=>?_
 refine x0_2 (hw_303) fun hw_304 h4=>?_
 obtain ⟨⟨h1,h2⟩,h3⟩:=hw_304
 exact ⟨eq_of_beq h1,(Bool.not_eq_true' _).mp h2,(Bool.not_eq_true' _).mp h3,fun y hy=>bne_iff_ne.mp (List.all_eq_true.mp h4 y hy),eq_of_beq h5,eq_of_beq h6,eq_of_beq h7,eq_of_beq h8,eq_of_beq h9,eq_of_beq h10,fun g hg=>let z:=bA1 (List.all_eq_true.mp h11 g hg); ⟨eq_of_beq z.1,z.2⟩,nodup_of h12,fun p hp=>List.all_eq_true.mp h13 p hp,h14⟩
theorem give_er {f:Fn} {sc:Scope} {env:Env} (k:GiveK gt kws Gv f sc) (eS:env.scope=sc) (eG:env.globals=B.gA) (eB:env.builtins=B.bA):ER B gt f.tb giveVis [3] f.gl env:=by
 have kn:∀ n,env.kindOf n=sc.names.lookup n:=fun n=>by unfold Env.kindOf; rw [eS]
 refine ⟨by rw [eS]; exact k.kind,eG,eB,fun i hi=>?_,fun i hi=>.inr ?_,fun i hi=>.inl ?_,fun g hg=>by rw [kn]; exact (k.gl g hg).1,fun i j b c hi hj e=>?_,fun i b hi=>plain_of (k.plain _ hi),fun g hg=>(plain_of (k.gl g hg).2).1⟩
 ·rw [kn]
  rcases vis0 hi with rfl | rfl
  ·exact k.l0
  ·exact k.l3
 ·rw [kn]
  rcases vis1 hi with rfl | rfl
  ·exact k.f1
  ·exact k.f2
 ·cases List.mem_singleton.mp hi; simp [giveVis]
 ·have:=nodup_inj k.nd hi hj e
  exact ⟨congrArg (·.1) this,congrArg (·.2) this⟩
theorem LexH.two {h:Heap} {as:List Addr} {text:List Nat} {la p x dx st sd gv cT cA:Addr} {line:Int} (L:LexH B h as text la line p x dx st sd gv cT cA) (nd:as.Nodup):cT∈as∧cA∈as∧cT≠cA:=by
 have e:=L.as_
 subst e
 refine ⟨by simp,by simp,fun z=>?_⟩
 subst z
 simp at nd
theorem Inv.small (I:Inv B F σ s) {a:Nat} {k:Int} {la:Addr} (hk:vlist σ a=some [.int k]) (ef:Fat F a [la]):∃ o,Inv B [[],[la]] [o,.list [.int k]] s:=by
 refine x2_1 (I.zero) fun k0 xs0 z=>?_
 refine x1_2 (I.at z) fun ζ e0 r0=>?_
 refine x2_4 (I.listAt hk) fun la' items ea' hl hv hz=>?_
 cases ef.2.symm.trans ea'.2
 refine ⟨.scr k0 xs0,I.old,I.lim,I.gens,I.os,rfl,fun i o as eo e'=>?_,by simp,fun b hb=>?_,I.tabs,I.tabo,I.tabc,I.low,_,_,rfl⟩
 ·cases i with
  | zero=>apply s1 eo; apply s1 e'; exact ⟨nofun,r0.2⟩
  | succ i=>cases i with
   | zero =>
    apply s1 eo; apply s1 e'
    refine x2_3 (hv.cons_is) fun x ys e rx ry=>?_
    refine x1_1 (rx.int_is) fun t hq_305=>?_
    subst hq_305
    exact ⟨la,items,rfl,hl,by rw [e,ry.nil_is]; exact .cons (.int _ _) .nil,hz⟩
   | succ i=>exact noS eo
 ·exact I.fresh b (flat_mem ef.2 (by simpa using hb))
theorem Inv.large {σ₂:Sto} {F₂:Lay} {s':Shared} {a:Nat} {k:Int} {la:Addr} (I:Inv B F σ s) (I₂:Inv B F₂ σ₂ s') (ef:Fat F a [la]) (e₂:F₂[1]?=some [la]) (eσ:σ₂[1]?=some (.list [.int k])) (kp:∀ b o,s.heap.get? b=some o→b≠la→b≠B.tab→s'.heap.get? b=some o):Inv B F (σ.set a (.list [.int k])) s':=by
 have m:Mv F F s.heap s'.heap:=.of_kept (W:=fun b=>b=la∨b=B.tab) (fun b o e n=>kp b o e (fun z=>n (.inl z)) fun z=>n (.inr z)) fun b o w e=>I.wr b o (w.imp (fun (z:b=la)=>⟨a,[la],ef,by rw [z]; exact .head _⟩) id) e
 refine ⟨I₂.old,I₂.lim,I₂.gens,I₂.os,by rw [List.length_set]; exact I.len,fun j o as eo e=>?_,I.nodup,I.fresh,I₂.tabs,I.tabo,I.tabc,I.low,by rw [List.getElem?_set_ne (Nat.ne_of_gt ef.1)]; exact I.zero⟩
 rcases set_get eo with ⟨rfl,rfl⟩ | ⟨n,q⟩
 ·cases ef.2.symm.trans e
  refine x2_4 (I₂.obj 1 _ _ eσ e₂) fun b its' z pl vr hz'=>?_
  cases z
  refine x2_3 (vr.cons_is) fun x ys e rx ry=>?_
  refine x1_1 (rx.int_is) fun t hq_306=>?_
  subst hq_306
  exact ⟨la,its',rfl,pl,by rw [e,ry.nil_is]; exact .cons (.int _ _) .nil,hz'⟩
 ·exact (I.obj j o as q e).mono (fun b hb ob eb=>kp b ob eb (fun z=>n (flat_one I.nodup ef.2 e (b:=la) (.head _) (z▸hb))) fun z=>LR.notTab I (I.fresh b (flat_mem e hb)) z) m
theorem give_ok {f:Fn} {sc:Scope} {A₀:Around} (G:GiveP B gt kws Gv f sc) (K:∀ A',Room A' 0→Kit B A' 0 (fun ζ ζ ζ=>none) (fun ζ ζ ζ=>none) Gv gt mk kws) (R:Room A₀ (d+1)) (Nr:Near A₀ A)
  (I:Inv B F σ s) {i a j:Nat} {text:List Nat} {line:Int} {as:List Addr} {la p x dx st sd gv cT cA:Addr} {t:Tok} (q:σ[i]?=some (.lex text a line j)) (ef:Fat F i as) (ea:Fat F a [la]) (hb:text.length≤maxLen)
  (L:LexH B s.heap as text la line p x dx st sd gv cT cA) {k:Int} (hk:vlist σ a=some [.int k]) (h0:0≤k) :
  EvT B A F s (call (.ref gv) [.int 1 t]) (PE B (σ.set a (.list [.int (k+(pieceAt text k).length)])) (.str (pieceAt text k))):=by
 have ok:=giveK G.ok
 refine x2_2 (L.give) fun cd ct hgv hcd=>?_
 refine x0_3 (L.two ((List.pairwise_flatten.mp I.nodup).1 as (List.mem_of_getElem? ef.2))) fun mT mA hTA=>?_
 have hia:i≠a:=fun z=>by rw [z,vlist_is hk] at q; cases q
 have off:∀ b∈as,b∉([[],[la]]:Lay).flatten∧B.h0.get? b=none:=fun b hb=>⟨fun z=>hia (flat_one I.nodup ef.2 ea.2 (b:=b) hb (by simpa using z)),I.fresh b (flat_mem ef.2 hb)⟩
 refine wpAny_call (codeAny_call_function (fd:=B.lx.gv [(Str.ofString "text",cT),(Str.ofString "at",cA)] (.ref cd) ct) (by have:=R.depth; have:=Nr.depth; show A.depth < 1000; (first | lia | omega)) hgv rfl (by rw [G.scp]; exact ok.co) (by rw [G.scp]; exact ok.gen) (G.bd ..) (by rw [G.code,G.qn]; exact hcd.rec) ?_)
 rw [G.bind]
 refine wpAny_pure ?_
 rw [G.cl]
 refine wpAny_newFunctionEnv (by rw [G.scp]; exact fun y hy=>ok.cell y hy) (by intro y hy; cases List.mem_singleton.mp hy; rw [G.scp]; exact ok.l0) (fun h' hns hsb=>?_) (by rw [G.scp]; exact ok.kind)
 have hk₁:∀ b o,s.heap.get? b=some o→h'.get? b=some o:=fun b o e=>hsb.extBut b o (Nat.ne_of_lt (Heap.lt_size e)) (Heap.get?_push_of_some _ e)
 have I₁:Inv B F σ { s with heap:=h',toks:=s.toks+1 }:=I.all hk₁ _
 refine ⟨I₁.lim,codeAny_func ?_⟩
 generalize henv:newEnv _ _ _ _ _ _ _ _ _=env
 have eL:env.locals=s.heap.objs.size:=by rw [← henv]; rfl
 have eC:env.cells=[(Str.ofString "text",cT),(Str.ofString "at",cA)]:=by rw [← henv]; rfl
 have er:ER B gt f.tb giveVis [3] f.gl env:=give_er ok (by rw [← henv]; exact G.scp ..) (by rw [← henv]; exact G.gl ..) (by rw [← henv]; exact G.bu ..)
 have dL:=dead_size s.heap
 rw [← eL] at dL hns
 refine x2_2 (L.text) fun X tX hw_307 hX=>?_
 refine x1_2 (hw_307) fun oT eT dT=>?_
 refine x1_2 (L.at_) fun oA eA dA=>?_
 refine x1_1 (I₁.small hk ea) fun o0 Is=>?_
 have lr:LR B f.tb giveVis env [[],[la]] [some (.int 1),some (.str text),some (.ref 1),none] h' :=
  give_lr ok.n1 ok.n2 eC hns (lookup_one _ _) ⟨Nat.one_pos,rfl⟩ ⟨X,tX,⟨oT,hk₁ _ _ eT,dT⟩,hX⟩ ⟨oA,hk₁ _ _ eA,dA⟩ hb ⟨fun z=>(I.dead dL).2 (flat_mem ea.2 (by simpa using z)),(I.dead dL).1⟩ (off _ mT) (off _ mA) hTA
 have room:Room (A.deeper env) 0:=⟨Nr.handled R.handled,by have:=R.depth; have:=Nr.depth; show A.depth+1+0≤800; (first | lia | omega),by have:=R.units; have:=Nr.units; rw [Around.deeper_units]; (first | lia | omega)⟩
 refine x1_1 (G.ev (fun ζ ζ ζ=>none) (fun ζ ζ ζ=>none) text k [o0,.list [.int k]] 1 h0 rfl) ?_
 (try clear ev)
 intro loc' ev
 refine wpAny_mono (okSL (K _ room) f.tb f.body giveVis [3] f.gl env _ _ _ _ _ _ _ ok.wf er Is lr ev) (fun fw s' P=>?_) fun ζ ζ z=>z.elim
 refine x1_4 (P) fun G' T Is' ζ fr=>?_
 have own:∀ b,OwnA f.tb [3] env b→b=env.locals:=fun b w=>by
  rcases w with w | ⟨i,hi,e⟩
  ·exact w
  ·cases List.mem_singleton.mp hi
   exfalso
   have l3:=ok.l3
   rw [eC] at e
   rcases look2 e with ⟨z,_⟩ | ⟨z,_⟩
   ·rw [z,← ok.n1,ok.f1] at l3; cases l3
   ·rw [z,← ok.n2,ok.f2] at l3; cases l3
 have kp:∀ b o,s.heap.get? b=some o→b≠la→b≠B.tab→s'.heap.get? b=some o:=fun b o e n1 n2=>T.kept b o (hk₁ b o e) (by
  rintro ((z | z) | z)
  ·exact n1 (by simpa using z.mem)
  ·exact n2 z
  ·rw [own b z,dL] at e; exact noS e)
 have I':Inv B F (σ.set a (.list [.int (k+(pieceAt text k).length)])) s':=I.large Is' ea rfl rfl kp
 have T':Step B F s [] s':=⟨fun b o e n=>kp b o e (fun z=>n (.inl ⟨a,_,ea,z▸.head _⟩)) fun z=>n (.inr z),fun ζ h=>by cases h⟩
 cases fw <;> first | exact fr.elim | skip
 refine x2_3 (VR.str_is fr) fun S tS hq_308 eS bS=>?_
 apply q1 hq_308
 exact ⟨[],T',by rw [List.append_nil]; exact ⟨I',.str tS eS bS⟩⟩
end
end Mine
namespace Mine
open PySem PySem.W
noncomputable def fdX (name qual:Str) (params:Arguments) (fb:FuncBody) (scope:Scope) (clos:List (Str × Addr)) (pm cv ctv:Value):FuncData :=
 { name,qualname:=qual,params,body:=fb,scope,globals:=mainGlobals,closure:=clos,defaults:=.none,kwdefaults:=.none,doc:=.none,pyModule:=pm,annotations:=none,code:=cv,closureTuple:=ctv,builtins:=builtinsNs }
noncomputable def noDoc:FuncBody→Bool
 | .stmts b=>(docOf b).isNone
 | .expr _=>true
section
variable {M:Model} {A:Around} {E:Value→Shared→Prop} {s:Shared} {name qual:Str} {params:Arguments} {fb:FuncBody} {scope:Scope} {env:Env} {c P:Addr} {ps:Array Value} {pos:Pos} {firstLine:Nat} {mg:Str→Option Value}
 {clos:List (Str × Addr)} {Q:Value→Shared→Prop}
theorem codeX (hcode:env.code=.ref c) (C:CodeHd s.heap c P) (hP:s.heap.get? P=some (tabObj ps)) (ht:TriplesOk ps.toList) (hc:codeAmong pos ps.toList=none∨∃ c',codeAmong pos ps.toList=some (.ref c')∧CodeI s.heap c' qual)
  (h:∀ c' h' tk ps',Heap.ExtBut P s.heap h'→s.heap.objs.size≤h'.objs.size→CodeI h' c' qual→h'.get? P=some (tabObj ps')→((ps'=ps∧codeAmong pos ps.toList=some (.ref c'))∨(codeAmong pos ps.toList=none∧ps'=ps++#[rawInt pos.line,rawInt pos.col,.ref c']))→Q (.ref c') { s with heap:=h',toks:=tk }) :
  wpAny M A (functionCode env pos firstLine name qual params scope fb) Q E s:=by
 rcases hc with hnf | ⟨c',hf,hi⟩
 ·refine wpAny_functionCodeX hcode (C.code hP ht) (C.tab hP) hnf fun c' h' tk hx hge hlt ζ hrec htb ht'=>?_
  refine x1_4 (ht') fun P' ζ ζ hw_309 ζ=>?_
  refine x2_4 (hw_309) fun o vs e1 e2 e3 ζ=>?_
  refine x4_4 (hrec) fun c₂ o₂ vs₂ t z e4 e5 e6=>?_
  cases z
  rw [e1] at e4; cases e4
  rw [e3] at e5; cases e5
  exact h c' h' tk _ hx (Nat.le_of_lt (Nat.lt_of_le_of_lt hge hlt)) ⟨o,vs,t,e1,e2,e3,e6⟩ htb.2 (.inr ⟨hnf,rfl⟩)
 ·exact wpAny_functionCode_hit hcode (C.code hP ht) hf (h c' s.heap s.toks ps (fun b o ζ e=>e) (Nat.le_refl _) hi hP (.inl ⟨rfl,hf⟩))
theorem mkFn (hcl:closureFor scope env=pure clos) (hge0:env.globals=mainGlobals) (hg:s.heap.Ns mainGlobals mg) (hcode:env.code=.ref c) (C:CodeHd s.heap c P) (hP:s.heap.get? P=some (tabObj ps)) (ht:TriplesOk ps.toList)
  (hgP:mainGlobals≠P) (hb:s.heap.BuiltinsAt mg P) (hd:noDoc fb=true) (hc:codeAmong pos ps.toList=none∨∃ c',codeAmong pos ps.toList=some (.ref c')∧CodeI s.heap c' qual)
  (h:∀ c' ctv h' tk ps',Heap.ExtBut P s.heap h'→s.heap.objs.size≤h'.objs.size→CodeI h' c' qual→h'.get? P=some (tabObj ps')→((ps'=ps∧codeAmong pos ps.toList=some (.ref c'))∨(codeAmong pos ps.toList=none∧ps'=ps++#[rawInt pos.line,rawInt pos.col,.ref c'])) →
   Q (.ref h'.objs.size) { s with heap:=h'.push { cls:=.type "function",data:=.func (fdX name qual params fb scope clos ((mg "__name__").getD .none) (.ref c') ctv) },toks:=tk }) :
  wpAny M A (makeFunction name qual params fb scope env [] [] [] pos firstLine) Q E s:=by
 rw [makeFunction_eq]
 simp only [List.zip_nil_right,List.filterMap_nil,List.isEmpty_nil,if_true,pure_bind]
 refine x2_8 (hb) fun bm ob hbm hne0 ζ hneP hbo hcls hdict hdata=>?_
 unfold makeTail
 rw [hcl,hge0]
 refine wpAny_bind (wpAny_pure ?_)
 have hdn:∀ b,fb=.stmts b→docOf b=none:=fun b z=>by
  subst z
  unfold noDoc at hd
  dsimp only at hd
  cases q:docOf b with
  | none=>rfl
  | some t=>rw [q] at hd; exact noT hd
 cases clos with
 | nil =>
  simp only [List.isEmpty_nil,if_true]
  refine wpAny_bind (wpAny_pure ?_)
  refine wpAny_bind (codeX hcode C hP ht hc fun c' h' tk ps' hx hsz hi htb hw=>?_)
  have hg':=hg.extBut hx hgP
  refine wpAny_bind (wpAny_builtinsFor hg' hbm hne0 (hx _ _ hneP hbo) hcls hdict hdata ?_)
  refine wpAny_bind (wpAny_nsGet hg' ?_)
  cases fb with
  | expr e=>exact wpAny_bind (wpAny_pure (wpAny_newObj_type (h c' .none h' tk ps' hx hsz hi htb hw) (by size_fits)))
  | stmts b =>
   dsimp only
   rw [hdn b rfl]
   exact wpAny_bind (wpAny_pure (wpAny_newObj_type (h c' .none h' tk ps' hx hsz hi htb hw) (by size_fits)))
 | cons q r =>
  simp only [List.isEmpty_cons,Bool.false_eq_true,if_false]
  refine wpAny_bind (wpAny_newTextTuple ?_)
  refine wpAny_bind (codeX hcode (C.keeps fun b o e=>Heap.get?_push_of_some _ e) (Heap.get?_push_of_some _ hP) ht (hc.imp id fun ⟨c',z,i⟩=>⟨c',z,i.imk (.push [] _ _)⟩) fun c' h' tk ps' hx hsz hi htb hw=>?_)
  have hg':=(hg.push _).extBut hx hgP
  have hx':Heap.ExtBut P s.heap h':=fun b o hb' e=>hx b o hb' (Heap.get?_push_of_some _ e)
  have hsz':s.heap.objs.size≤h'.objs.size:=Nat.le_trans (by rw [Heap.size_push]; (first | lia | omega)) hsz
  refine wpAny_bind (wpAny_builtinsFor hg' hbm hne0 (hx' _ _ hneP hbo) hcls hdict hdata ?_)
  refine wpAny_bind (wpAny_nsGet hg' ?_)
  cases fb with
  | expr e=>exact wpAny_bind (wpAny_pure (wpAny_newObj_type (h c' (.ref s.heap.objs.size) h' tk ps' hx' hsz' hi htb hw) (by size_fits)))
  | stmts b =>
   dsimp only
   rw [hdn b rfl]
   exact wpAny_bind (wpAny_pure (wpAny_newObj_type (h c' (.ref s.heap.objs.size) h' tk ps' hx' hsz' hi htb hw) (by size_fits)))
end
end Mine
namespace Mine
open PySem PySem.W
theorem slot_fn_sa:Slot "function" "__setattr__" "object.__setattr__" :=
 .of (owner:="object") (n:="__setattr__") (by rw [typeLookup_type,builtinLookup_eq_fast]; kernel_rfl) (by decide +kernel) (by decide +kernel) (by decide +kernel)
  (by first | exact .inl (by decide +kernel) | exact .inr (by decide +kernel)) (by rw [isSubtype_type]; kernel_rfl)
theorem lk_fn_sa:typeLookup (.type "function") "__setattr__"=pure (some (.builtin "object.__setattr__")):=by rw [typeLookup_type,builtinLookup_eq_fast]; kernel_rfl
theorem fn_refuse (self:Value) (M:Model) (h:Heap) (hT:Looks M h (typeOf self) (.type "function")):Looks M h (Builtin.ObjectAttr.refuseIfOverridden self "__setattr__") ():=by
 rw [refuse_eq]
 refine hT.andThen (Looks.of_pure ?_)
 kernel_rfl
theorem fn_dictMade (a d:Addr):dictMade (.type "function") a d=pure (some d):=by
 unfold dictMade
 dsimp only
 rw [show finalisedInACycleAlone "function"=false from by decide +kernel]
 rfl
section
variable {B:Base} {A:Around} {s:Shared} {st:Addr} {fd:FuncData} {v:Value}
theorem fnSet (hst:s.heap.get? st=some { cls:=.type "function",data:=.func fd }) {Q:Unit→Shared→Prop} {E:Value→Shared→Prop}
  (h:∀ h' tk,(∀ b o,b≠st→s.heap.get? b=some o→h'.get? b=some o)→h'.get? st=some { cls:=.type "function",dict:=some s.heap.objs.size,data:=.func fd }→NsL h' s.heap.objs.size (fun x=>if x=Str.ofString "read" then some v else none) 1→Q () { s with heap:=h',toks:=tk }) :
  wpAny (model B.prog B.w) A (setAttr (.ref st) (Str.ofString "read") v) Q E s:=by
 have ty:Looks (model B.prog B.w) s.heap (typeOf (.ref st)) (.type "function"):=looks_cls hst rfl
 have SF:=PySem.F.store_object
 refine wpAny_bind (wpAny_mkText (wpAny_bind (wpAny_bind (wpAny_bind (ty.at ?_)))))
 rw [lk_fn_sa]
 refine wpAny_pure (wpAny_holding ?_)
 rw [slot_fn_sa.bind]
 refine wpAny_bind (wpAny_pure (wpAny_bind (wpAny_call ?_)))
 refine codeAny_call_builtin SF.slot.plain SF.entry (@check_slot (model B.prog B.w) _ _ { s with toks:=s.toks+1 } "object.__setattr__" "object" "__setattr__" (.ref st) [.str (Str.ofString "read") s.toks,v] [] _ SF.kind SF.split (fn_object hst rfl) (SF.args (.ref st) (.str (Str.ofString "read") s.toks) v) ?_)
 show wpAny _ _ (Builtin.«object.__setattr__» ⟨[.ref st,.str (Str.ofString "read") s.toks,v],[]⟩) _ _ _
 rw [osa_eq]
 refine wpAny_bind ((fn_refuse (.ref st) _ _ ty).at ?_)
 refine wpAny_bind (ty.at ?_)
 rw [lk_fn_read]
 refine wpAny_bind (wpAny_pure (wpAny_bind (wpAny_pure ?_)))
 show wpAny _ _ (Builtin.ObjectAttr.storeInOwnDict _ _ _ _ _ _) _ _ _
 refine wpAny_bind (wpAny_pure ?_)
 refine wpAny_bind (wpAny_bind (wpAny_loadPart hst ?_))
 dsimp only
 rw [if_neg (by decide +kernel)]
 refine wpAny_bind (wpAny_alloc ?_)
 have hst₁:=Heap.get?_push_of_some { cls:=.type "dict",data:=.dict #[] } hst
 refine wpAny_bind (wpAny_update hst₁ ?_)
 have hne:st≠s.heap.objs.size:=Nat.ne_of_lt (Heap.lt_size hst)
 generalize hh2:(s.heap.push { cls:=.type "dict",data:=.dict #[] }).update st _=h2
 have hs2:Heap.SameBut st (s.heap.push { cls:=.type "dict",data:=.dict #[] }) h2:=by rw [← hh2]; exact Heap.SameBut.update ..
 have e2:h2.get? st=some { cls:=.type "function",dict:=some s.heap.objs.size,data:=.func fd }:=by rw [← hh2]; exact Heap.get?_update_self _ hst₁ rfl
 have d2:NsL h2 s.heap.objs.size (fun ζ=>none) 0:=⟨none,#[],0,#[],(hs2.2 _ hne.symm).trans (Heap.get?_push_size _ rfl),fun e he=>by simp at he,Nat.le_refl _,fun ζ=>rfl⟩
 refine wpAny_of_eq (fn_dictMade _ _) ?_
 show wpAny _ _ (Builtin.ObjectAttr.storeInDict s.heap.objs.size _ _ _) _ _ _
 refine wpAny_bind (wpAny_pure (wpAny_bind (wpAny_nsSetL d2 fun h3 n3 hs3=>?_)))
 refine x4_4 (id n3) fun d es ep sl e3 ζ hz ζ=>?_
 refine wpAny_bind (wpAny_lookBehind e3 (pastItsLine_dict (by rw [sizeLine_eq]; simp at hz; (first | lia | omega))) ?_)
 refine wpAny_pure (wpAny_pure (wpAny_pure (h h3 _ (fun b o nb eb=>?_) ?_ n3)))
 ·have hb:b≠s.heap.objs.size:=Nat.ne_of_lt (Heap.lt_size eb)
  exact (hs3.2 b hb).trans ((hs2.2 b nb).trans (Heap.get?_push_of_some _ eb))
 ·exact (hs3.2 _ hne).trans e2
end
end Mine
namespace Mine
open PySem PySem.W
noncomputable def noArgs (as:List Arg):Arguments:={ posonlyargs:=[],args:=as,vararg:=none,kwonlyargs:=[],kw_defaults:=[],kwarg:=none,defaults:=[] }
noncomputable def fnScope (ns:List (Str × NameKind)):Scope:={ kind:=.function,names:=ns,isGenerator:=false,isCoroutine:=false,more:=[] }
noncomputable def nS (x:String):Str:=Str.ofString x
noncomputable def lamScope:Scope:=fnScope []
noncomputable def giveScope:Scope:=fnScope [(nS "size",.local),(nS "piece",.local),(nS "at",.free),(nS "text",.free),(nS "len",.globalImplicit)]
noncomputable def giveArgs (n:Nat):Arguments:=noArgs [{ arg:=nS "size",annotation:=none,pos:=⟨n+3,18,n+3,22⟩ }]
noncomputable def giveTb:List Str:=[nS "size",nS "text",nS "at",nS "piece"]
noncomputable def giveIR (n:Nat):SL :=
 .cons (.assign (.name 3 ⟨n+4,8,n+4,13⟩) (.slice (.var 1 ⟨n+4,16,n+4,20⟩) (.some (.sub (.var 2 ⟨n+4,21,n+4,23⟩) (.cint 0 ⟨n+4,24,n+4,25⟩) ⟨n+4,21,n+4,26⟩))
  (.some (.bin .Add (.sub (.var 2 ⟨n+4,27,n+4,29⟩) (.cint 0 ⟨n+4,30,n+4,31⟩) ⟨n+4,27,n+4,32⟩) (.var 0 ⟨n+4,35,n+4,39⟩) ⟨n+4,27,n+4,39⟩)) .none ⟨n+4,21,n+4,39⟩ ⟨n+4,16,n+4,40⟩) ⟨n+4,8,n+4,40⟩)
 (.cons (.augSub (.var 2 ⟨n+5,8,n+5,10⟩) (.cint 0 ⟨n+5,11,n+5,12⟩) ⟨n+5,8,n+5,13⟩ .Add (.call 0 ⟨n+5,17,n+5,20⟩ (.cons (.var 3 ⟨n+5,21,n+5,26⟩) .nil) ⟨n+5,17,n+5,27⟩) ⟨n+5,8,n+5,27⟩)
 (.cons (.ret (.var 3 ⟨n+6,15,n+6,20⟩) ⟨n+6,8,n+6,20⟩) .nil))
noncomputable def giveFn (n:Nat):Fn:={ tb:=giveTb,vis:=giveVis,wv:=[3],gl:=[0],n:=4,np:=1,fz:=true,body:=giveIR n }
noncomputable def lexScope:Scope:=fnScope [(nS "text",.cell),(nS "at",.cell),(nS "stream",.local),(nS "_law_give",.local),(nS "_netrclex",.globalImplicit)]
noncomputable def lamP (n:Nat):Pos:=⟨n+1,13,n+1,25⟩
noncomputable def defP (n:Nat):Pos:=⟨n+3,4,n+6,20⟩
noncomputable def lexBody (gt:List Str) (n:Nat):List Stmt:=[
 .Assign [.Name (nS "stream") ⟨n+1,4,n+1,10⟩] (.Lambda (noArgs []) (.Constant .none 0 ⟨n+1,21,n+1,25⟩) lamScope (lamP n)) ⟨n+1,4,n+1,25⟩,
 .FunctionDef (nS "_law_give") (giveArgs n) (toSL gt giveTb (giveIR n)) [] none [] giveScope none (nS "_law_give") (defP n),
 .Assign [.Attribute (.Name (nS "stream") ⟨n+7,4,n+7,10⟩) (nS "read") ⟨n+7,4,n+7,15⟩] (.Name (nS "_law_give") ⟨n+7,18,n+7,27⟩) ⟨n+7,4,n+7,27⟩,
 .Return (some (.Call (.Name (nS "_netrclex") ⟨n+8,11,n+8,20⟩) [.Name (nS "stream") ⟨n+8,21,n+8,27⟩] [] ⟨n+8,11,n+8,28⟩)) ⟨n+8,4,n+8,28⟩]
noncomputable def initScope:Scope:=fnScope [(nS "self",.local),(nS "fp",.local)]
noncomputable def initBody (n:Nat):List Stmt:=[
 .Assign [.Attribute (.Name (nS "self") ⟨n+1,8,n+1,12⟩) (nS "lineno") ⟨n+1,8,n+1,19⟩] (.Constant (.int 1) 0 ⟨n+1,22,n+1,23⟩) ⟨n+1,8,n+1,23⟩,
 .Assign [.Attribute (.Name (nS "self") ⟨n+2,8,n+2,12⟩) (nS "instream") ⟨n+2,8,n+2,21⟩] (.Name (nS "fp") ⟨n+2,24,n+2,26⟩) ⟨n+2,8,n+2,26⟩,
 .Assign [.Attribute (.Name (nS "self") ⟨n+3,8,n+3,12⟩) (nS "whitespace") ⟨n+3,8,n+3,23⟩] (.Constant (.str wsS) 0 ⟨n+3,26,n+3,35⟩) ⟨n+3,8,n+3,35⟩,
 .Assign [.Attribute (.Name (nS "self") ⟨n+4,8,n+4,12⟩) (nS "pushback") ⟨n+4,8,n+4,21⟩] (.List [] ⟨n+4,24,n+4,26⟩) ⟨n+4,8,n+4,26⟩]
noncomputable def lexQ:Str:=nS "_law_lexer"
structure MakeP (B:Base) (K:Frag) (mk:Me→Nat) (gt:List Str) (n m:Nat) (lA iA c bm:Addr):Prop where
 gA:B.gA=mainGlobals
 bA:B.bA=builtinsNs
 q1:B.lx.q1=lexQ++".<locals>."++"<lambda>"
 q2:B.lx.q2=lexQ++".<locals>."++nS "_law_give"
 p1:B.lx.p1=lamP n
 p2:B.lx.p2=defP n
 gv:∀ cl cd ct,B.lx.gv cl cd ct=fdX (nS "_law_give") B.lx.q2 (giveArgs n) (.stmts (toSL gt giveTb (giveIR n))) giveScope cl ((B.mg "__name__").getD .none) cd ct
 lex:∃ o fd,B.h0.get? lA=some o∧o.cls≠.none∧o.data=.func fd∧fd.body=.stmts (lexBody gt n)∧fd.scope=lexScope∧fd.closure=[]∧fd.globals=mainGlobals∧fd.builtins=builtinsNs∧fd.qualname=lexQ∧fd.code=.ref c ∧
  (∀ x y,bindArgs fd ⟨[x,y],[]⟩=pure [(nS "text",x),(nS "at",y)])
 code:CodeHd B.h0 c B.tab
 crec:CodeI B.h0 c lexQ
 init:∃ o fd,B.h0.get? iA=some o∧o.cls≠.none∧o.data=.func fd∧fd.body=.stmts (initBody m)∧fd.scope=initScope∧fd.closure=[]∧fd.globals=mainGlobals∧fd.builtins=builtinsNs ∧
  (∀ x y,bindArgs fd ⟨[x,y],[]⟩=pure [(nS "self",x),(nS "fp",y)])∧∃ c',fd.code=.ref c'∧CodeI B.h0 c' fd.qualname
 makes:makesIn K B.lx.C=true
 kp:keepIn K (.ref B.lx.C)=true
 fi:findIn K (.ref B.lx.C) "__init__"=some (some (.ref iA))
 ti:typeIn K (.ref iA)=some (.type "function")
 net:B.mg (nS "_netrclex")=some (.ref B.lx.C)
 bm_:B.mg "__builtins__"=some (.ref bm)∧bm≠builtinsNs∧bm≠mainGlobals∧bm≠B.tab
 bmo:∃ o,B.h0.get? bm=some o∧o.cls=.type "module"∧o.dict=some builtinsNs∧o.data=.plain
 tab:B.h0.get? B.tab=some (tabObj #[])∧isCodeTable B.h0 B.tab
 gP:mainGlobals≠B.tab
theorem NsL.up {h:Heap} {a:Addr} {m:Str→Option Value} {k:Nat} {p:Prop} [Decidable p] (n:NsL h a m (if p then k else k+1)):NsL h a m (k+1):=by
 refine x4_4 (n) fun d es ep sl e hk hz hm=>?_
 exact ⟨d,es,ep,sl,e,hk,by split at hz <;> omega,hm⟩
section
variable {B:Base} {A:Around} {s:Shared} {K:Frag} {mk:Me→Nat}
theorem init_ok {gt:List Str} {n m':Nat} {lA iA c bm:Addr} (O:LexOK B K mk) (P:MakeP B K mk gt n m' lA iA c bm) (hh:A.depth < 900) (X:K.In s.heap) (hlim:s.heap.NoLimit) (hkeep:∀ b o,B.h0.get? b=some o→o.cls≠.none→s.heap.get? b=some o)
  {x dx:Addr} {v:Value} (hdx:B.h0.get? dx=none) (hx:s.heap.get? x=some (instO B.lx.C dx)) (hd:NsL s.heap dx (fun ζ=>none) 0) {R:Result→Shared→Prop}
  (h:∀ h' tk p t1 t2,(∀ b o,b≠dx→s.heap.get? b=some o→h'.get? b=some o)→s.heap.objs.size≤p→h'.PlainList p #[] →
   NsL h' dx (fun y=>if y=nS "pushback" then some (.ref p) else if y=nS "whitespace" then some (.str wsS t2) else if y=nS "instream" then some v else if y=nS "lineno" then some (.int 1 t1) else none) 4→R (.ok (.ret .none)) { s with heap:=h',toks:=tk }) :
  codeAny (model B.prog B.w) A (.call (.ref iA) ⟨[.ref x,v],[]⟩) R s:=by
 obtain ⟨o,fd,e1,e2,e3,e4,e5,e6,e7,e8,e9,c',e10,e11⟩:=P.init
 have him:CodeI s.heap c' fd.qualname:=by
  refine x3_4 (e11) fun o' vs t q1 q2 q3 q4=>?_
  exact ⟨o',vs,t,hkeep _ _ q1 (by rw [q2]; simp),q2,q3,q4⟩
 refine codeAny_call_plain (Nat.lt_trans hh (by decide)) (hkeep _ _ e1 e2) e3 hlim (by rw [e10]; exact him.rec) e4 (e9 _ _) (by rw [e5]; decide) (fun y hy=>by rw [e5]; simp only [List.mem_cons,List.not_mem_nil,or_false] at hy; rcases hy with rfl | rfl <;> rfl) (fun h₀ hns hk₀=>?_) (by rw [e5]; rfl) (by rw [e5]; rfl) (by rw [e5]; rfl)
 have hkL:(callEnv fd s.heap.objs.size iA).scope.kind=.function:=by show fd.scope.kind=_; rw [e5]; rfl
 have hk:fd.scope.kind=.function:=by rw [e5]; rfl
 have lk:∀ y k,initScope.names.lookup y=some k→(callEnv fd s.heap.objs.size iA).kindOf y=some k:=fun y k e=>by
  show fd.scope.names.lookup y=some k
  rw [e5]; exact e
 refine x4_2 (id hd) fun d0 es0 ep0 sl0 ed0 ζ=>?_
 have hLd:s.heap.objs.size≠dx:=Nat.ne_of_gt (Heap.lt_size ed0)
 have hxd:x≠dx:=fun z=>by
  rw [z,ed0] at hx
  have:=congrArg Obj.cls (Option.some.inj hx)
  simp [instO] at this
 have IA:∀ (h1:Heap) (m1:Str→Option Value) (k1:Nat),h1.get? x=some (instO B.lx.C dx)→NsL h1 dx m1 k1→∃ od,InstAt h1 x (instO B.lx.C dx) B.lx.C (some od):=fun h1 m1 k1 hx1 n1=>by
  refine x4_2 (n1) fun d1 es1 ep1 sl1 ed1 ζ=>?_
  exact ⟨_,hx1,rfl,rfl,ed1⟩
 have ld:∀ {A':Around} {E':Value→Shared→Prop} (s1:Shared) (y:Str) (u:Value) (pos:Pos) (Q':Value→Shared→Prop),s1.heap.Ns s.heap.objs.size (fun x'=>([(nS "self",Value.ref x),(nS "fp",v)].reverse.lookup x'))→initScope.names.lookup y=some .local→([(nS "self",Value.ref x),(nS "fp",v)].reverse.lookup y)=some u→(y==("__debug__":Str))=false→Q' u s1 →
   wpAny (model B.prog B.w) A' (eval (.Name y pos) (callEnv fd s.heap.objs.size iA)) Q' E' s1:=fun s1 y u pos Q' hn hl hv hd q=>ldc hk (lk y _ hl) hn hv q hd
 have hx0:=hk₀ _ _ hx
 have hd0:NsL h₀ dx (fun ζ=>none) 0:=hd.at' fun o e=>hk₀ _ o e
 refine wpAny_execs_cons (plainObj_wpAny_Assign_Attribute (wpAny_Constant_int (ld _ _ (.ref x) _ _ hns rfl rfl (by decide) ?_)))
 refine x1_1 (IA _ _ _ hx0 hd0) fun od1 I1=>?_
 refine lexSet O (X.keeps hk₀) I1 hd0 (by decide) O.o1 fun h1 tk1 n1 k1=>?_
 replace n1:=n1.up
 obtain ⟨t1,n1⟩:∃ t,NsL h1 dx (fun y=>if y=nS "lineno" then some (.int 1 t) else none) 1:=⟨_,n1⟩
 have kk1:∀ b o,b≠dx→s.heap.get? b=some o→h1.get? b=some o:=fun b o nb e=>(k1.2 b nb).trans (hk₀ b o e)
 have XK:∀ (h':Heap),(∀ b o,b≠dx→s.heap.get? b=some o→h'.get? b=some o)→K.In h':=fun h' k b o e=>k b o (fun z=>by
  have:=X b o e
  rw [z,ed0] at this
  have q:=O.X b o e
  rw [z,hdx] at q; cases q) (X b o e)
 have nsk:∀ (h1 h2:Heap) m,h1.Ns s.heap.objs.size m→Heap.SameBut dx h1 h2→h2.Ns s.heap.objs.size m:=fun h1 h2 m n k=>n.sameBut k hLd
 have ns1:=nsk _ _ _ hns k1
 have hx1:h1.get? x=some (instO B.lx.C dx):=kk1 x _ hxd hx
 refine wpAny_execs_cons (plainObj_wpAny_Assign_Attribute (ld { s with heap:=h1,toks:=tk1 } _ v _ _ ns1 rfl rfl (by decide) (ld { s with heap:=h1,toks:=tk1 } _ (.ref x) _ _ ns1 rfl rfl (by decide) ?_)))
 refine x1_1 (IA _ _ _ hx1 n1) fun od2 I2=>?_
 refine lexSet O (XK _ kk1) I2 n1 (by decide) O.o4 fun h2 tk2 n2 k2=>?_
 replace n2:=n2.up
 have kk2:∀ b o,b≠dx→s.heap.get? b=some o→h2.get? b=some o:=fun b o nb e=>(k2.2 b nb).trans (kk1 b o nb e)
 have ns2:=nsk _ _ _ ns1 k2
 have hx2:h2.get? x=some (instO B.lx.C dx):=kk2 x _ hxd hx
 refine wpAny_execs_cons (plainObj_wpAny_Assign_Attribute (wpAny_Constant_str (ld { s with heap:=h2,toks:=tk2+1 } _ (.ref x) _ _ ns2 rfl rfl (by decide) ?_)))
 refine x1_1 (IA _ _ _ hx2 n2) fun od3 I3=>?_
 refine lexSet (s:={ s with heap:=h2,toks:=tk2+1 }) O (XK _ kk2) I3 n2 (by decide) O.o2 fun h3 tk3 n3 k3=>?_
 replace n3:=n3.up
 obtain ⟨t2,n3⟩:∃ t,NsL h3 dx (fun y=>if y=nS "whitespace" then some (.str wsS t) else if y=nS "instream" then some v else if y=nS "lineno" then some (.int 1 t1) else none) 3:=⟨_,n3⟩
 have kk3:∀ b o,b≠dx→s.heap.get? b=some o→h3.get? b=some o:=fun b o nb e=>(k3.2 b nb).trans (kk2 b o nb e)
 have ns3:=nsk _ _ _ ns2 k3
 have hx3:h3.get? x=some (instO B.lx.C dx):=kk3 x _ hxd hx
 refine wpAny_execs_cons (plainObj_wpAny_Assign_Attribute (wpAny_List_spliced (Calls.spliced_nil ⟨by decide,?_⟩)))
 have hsz:s.heap.objs.size≤h3.objs.size:=by
  have:=hns.lt
  rw [k3.1,k2.1,k1.1]; exact Nat.le_of_lt this
 refine ld _ _ (.ref x) _ _ (ns3.push _) rfl rfl (by decide) ?_
 refine x1_1 (IA _ _ _ (Heap.get?_push_of_some { cls:=.type "list",data:=.seq #[] } hx3) (n3.at' fun o e=>Heap.get?_push_of_some _ e)) fun od4 I4=>?_
 refine lexSet O (XK _ fun b o nb e=>Heap.get?_push_of_some _ (kk3 b o nb e)) I4 (n3.at' fun o e=>Heap.get?_push_of_some _ e) (by decide) O.o3 fun h4 tk4 n4 k4=>?_
 replace n4:=n4.up
 refine wpAny_execs_nil ?_
 have hpd:h3.objs.size≠dx:=fun z=>by
  refine x4_2 (n3) fun ζ ζ ζ ζ e ζ=>?_
  rw [← z] at e
  exact Nat.lt_irrefl _ (Heap.lt_size e)
 refine h h4 tk4 h3.objs.size t1 t2 (fun b o nb e=>(k4.2 b nb).trans (Heap.get?_push_of_some _ (kk3 b o nb e))) hsz ⟨_,(k4.2 _ hpd).trans (Heap.get?_push_size _ rfl)⟩ ?_
 exact n4
end
end Mine
namespace Mine
open PySem PySem.W
section
variable {B:Base} {A:Around} {F:Lay} {σ:Sto} {s:Shared} {K:Frag} {mk:Me→Nat} {gt:List Str} {n m:Nat} {lA iA c bm:Addr}
theorem Inv.tabKeep (I:Inv B F σ s) {h':Heap} {tk:Nat} (k:∀ b o,s.heap.get? b=some o→b≠B.tab→h'.get? b=some o) (t:TabOK B h') (t0:B.h0.get? B.tab=some (tabObj #[])) (tc:isCodeTable B.h0 B.tab):Inv B F σ { s with heap:=h',toks:=tk }:=by
 have im:Mv F F s.heap h':=.of_kept (W:=(·=B.tab)) (fun b o e n=>k b o e n) fun b o w e=>I.wr b o (.inr w) e
 have tabv:∃ ps,h'.get? B.tab=some (tabObj ps):=by
  rcases t with t | ⟨c1,c2,t,_⟩
  ·exact ⟨_,t⟩
  ·exact ⟨_,t⟩
 have nt:∀ b,b∈F.flatten→b≠B.tab:=fun b hb z=>by
  have:=I.fresh b hb
  rw [z,t0] at this; cases this
 have ks:∀ o,s.heap.get? cStatics=some o→h'.get? cStatics=some o:=fun o e=>k _ o e I.tabc.symm
 refine ⟨⟨fun b o e=>?_,fun b o e=>?_⟩,?_,I.gens,I.os,I.len,fun i o as eo e=>(I.obj i o as eo e).mono (fun a ha ob ea=>k a ob ea (nt a (flat_mem e ha))) im,I.nodup,I.fresh,t,I.tabo,I.tabc,I.low,I.zero⟩
 ·by_cases hb:b=B.tab
  ·subst hb
   rw [t0] at e; cases e
   refine x1_1 (tabv) fun ps hp=>?_
   exact .inr (.inl ⟨tc,rfl,#[],ps,rfl,by rw [Array.empty_append]; exact hp⟩)
  ·rcases I.old.old b o e with x | ⟨t',c',vs,more,d,x⟩ | ⟨rfl,c',⟨o',es,n,x,r⟩,z⟩
   ·exact .inl (k b _ x hb)
   ·exact .inr (.inl ⟨t',c',vs,more,d,k b _ x hb⟩)
   ·refine .inr (.inr ⟨rfl,c',⟨o',es,n,ks _ x,r⟩,fun key=>?_⟩)
    rw [OldK.staticOf_congr ((ks _ x).trans x.symm) key]
    exact z key
 ·by_cases hb:b=B.tab
  ·refine x1_1 (tabv) fun ps hp=>?_
   exact ⟨_,by rw [hb]; exact hp⟩
  ·refine x1_1 (I.old.there b o e) fun o' e'=>?_
   exact ⟨o',k b o' e' hb⟩
 ·refine x1_2 (I.lim) fun mc hw_310 q=>?_
  refine x3_2 (hw_310) fun o es ep eo r=>?_
  exact ⟨mc,⟨o,es,ep,ks o eo,r⟩,q⟩
noncomputable def two (p1 p2:Pos) (c1 c2:Addr):Array Value:=#[rawInt p1.line,rawInt p1.col,.ref c1,rawInt p2.line,rawInt p2.col,.ref c2]
theorem am_hit {p:Pos} {c:Value} {r:List Value}:codeAmong p (rawInt p.line :: rawInt p.col :: c :: r)=some c:=by
 show (if ((p.line:Int)==p.line&&(p.col:Int)==p.col)=true then some c else codeAmong p r)=some c
 rw [if_pos (by simp)]
theorem am_miss {p q:Pos} (h:q.line≠p.line) {c:Value} {r:List Value}:codeAmong p (rawInt q.line :: rawInt q.col :: c :: r)=codeAmong p r:=by
 show (if ((q.line:Int)==p.line&&(q.col:Int)==p.col)=true then some c else codeAmong p r)=_
 rw [if_neg]
 intro z
 rw [Bool.and_eq_true,beq_iff_eq] at z
 exact h (by (first | lia | omega))
theorem lines (n:Nat):(lamP n).line≠(defP n).line:=by show n+1≠n+3; omega
end
end Mine
namespace Mine
open PySem PySem.W
section
variable {B:Base} {A:Around} {F:Lay} {σ:Sto} {s:Shared} {K:Frag} {mk:Me→Nat} {gt:List Str} {n m:Nat} {lA iA c bm:Addr}
structure LxE (B:Base) (env:Env) (L cT cA c:Addr):Prop where
 loc:env.locals=L
 sc:env.scope=lexScope
 gl:env.globals=mainGlobals
 bu:env.builtins=builtinsNs
 cells:env.cells=[(nS "at",cA),(nS "text",cT)]
 qual:env.qual=lexQ++".<locals>."
 code:env.code=.ref c
theorem LxE.lam {env:Env}:closureFor lamScope env=pure []:=rfl
theorem LxE.give {env:Env} {L cT cA c:Addr} (X:LxE B env L cT cA c):closureFor giveScope env=pure [(nS "text",cT),(nS "at",cA)]:=by
 have h1:cellOf env (nS "at")=pure cA:=by unfold cellOf; rw [X.cells]; rfl
 have h2:cellOf env (nS "text")=pure cT:=by unfold cellOf; rw [X.cells]; rfl
 unfold closureFor giveScope fnScope
 simp only [List.forIn_cons,List.forIn_nil,h1,h2]
 rfl
theorem weight_made (C:Addr) (xs:List Value):Code.weight (.builtin "type.__call__" ⟨.ref C :: xs,[]⟩)≤2:=by
 have h:Code.isGuard (.builtin "type.__call__" ⟨.ref C :: xs,[]⟩)=false:=by show guardIds.contains "type.__call__"=false; decide +kernel
 unfold Code.weight
 rw [h]
 show 0+1+0+0≤2
 decide
theorem seven (a b c d e f g:Nat) (h1:a < b) (h2:b < c) (h3:c < d) (h4:d < e) (h5:e < f) (h6:f < g):([g,f,c,e,d,a,b]:List Nat).Nodup:=by
 simp
 omega
theorem Mv.but {h h':Heap} {a:Addr} (k:∀ b o,b≠a→h.get? b=some o→h'.get? b=some o) (n:∀ o,h.get? a=some o→¬ Imm o):Mv [] [] h h':=.of_kept (W:=(·=a)) (fun b o e z=>k b o z e) fun b o w e=>.of (n o (w▸e))
theorem tab_no {ps:Array Value}:¬ Imm (tabObj ps):=fun i=>by rcases i.1 with q | q | q | q <;> cases q
theorem made_end {s':Shared} {text:List Nat} {i:Nat} {la p x dx st sd gv cT cA:Addr} (I:Inv B F σ s) (k:∀ b o,s.heap.get? b=some o→b≠B.tab→s'.heap.get? b=some o) (I':Inv B F σ s') (ef:Fat F i [la]) (hp:(F++[[p]])[σ.length]?=some [p]) (bX:text.length≤maxLen) (pl:s'.heap.PlainList p #[])
  (LX:LexH B s'.heap [x,dx,st,sd,gv,cT,cA] text la 1 p x dx st sd gv cT cA) (nd:([x,dx,st,sd,gv,cT,cA]:List Addr).Nodup) (d:∀ b∈[x,dx,st,sd,gv,cT,cA],s.heap.get? b=none) (np:∀ b∈[x,dx,st,sd,gv,cT,cA],b≠p) (dp:s.heap.get? p=none) :
  Cn B F s (PE B (σ++[.list [],.lex text i 1 σ.length]) (.ref (σ.length+1))) (.ref x) s':=by
 have m₀:Mv F F s.heap s'.heap:=.of_kept (W:=(·=B.tab)) (fun b o e n=>k b o e n) fun b o w e=>I.wr b o (.inr w) e
 have nt:∀ b,b∈F.flatten→b≠B.tab:=fun b hb=>LR.notTab I (I.fresh b hb)
 have one:∀ {G:Lay},(∀ a∈G.flatten,s.heap.get? a=none)→∀ (j:Nat) (o:O) (as:List Addr),σ[j]?=some o→F[j]?=some as→OR B s'.heap (F++G) o as:=fun d j o as eo e=>(I.obj j o as eo e).mono (fun a ha ob ea=>k a ob ea (nt a (flat_mem e ha))) (m₀.add d)
 have nil:∀ G,OR B s'.heap G (.list []) [p]:=fun G=>⟨p,#[],rfl,pl,.nil,Nat.zero_le _⟩
 have d2:∀ b∈([[p],[x,dx,st,sd,gv,cT,cA]]:Lay).flatten,s.heap.get? b=none:=fun b hb=>by
  have:b=p∨b∈[x,dx,st,sd,gv,cT,cA]:=by simpa using hb
  rcases this with rfl | h
  ·exact dp
  ·exact d b h
 have d1:∀ a∈([[p]]:Lay).flatten,s.heap.get? a=none:=fun a ha=>by cases List.mem_singleton.mp ha; exact dp
 have I₈:Inv B (F++[[p]]) (σ++[.list []]) s':=I'.grow (one d1) (nil _) (by simp) (fun a h=>by cases List.mem_singleton.mp h; exact (I.dead dp).2) fun a h=>by cases List.mem_singleton.mp h; exact (I.dead dp).1
 have hp0:Fat (F++[[p]]) σ.length [p]:=⟨I.size,hp⟩
 have I₉:Inv B (F++[[p]]++[[x,dx,st,sd,gv,cT,cA]]) (σ++[.list []]++[.lex text i 1 σ.length]) s':=by
  refine I₈.grow (fun j o as eo e=>?_) ⟨bX,la,p,x,dx,st,sd,gv,cT,cA,app_get _ _ _ _ (app_get _ _ _ _ ef),app_get _ _ _ _ hp0,LX⟩ nd (fun b hb z=>?_) fun b hb=>(I.dead (d b hb)).1
  ·rcases cat_get eo with eo | ⟨rfl,rfl⟩
   ·rcases cat_get e with e | ⟨rfl,_⟩
    ·rw [List.append_assoc]; exact one d2 j o as eo e
    ·rw [I.len] at eo; exact absurd (List.getElem?_eq_some_iff.mp eo).1 (Nat.lt_irrefl _)
   ·cases hp.symm.trans e; exact nil _
  ·rw [List.flatten_append,List.mem_append] at z
   exact z.elim (I.dead (d b hb)).2 fun z=>np b hb (by simpa using z)
 rw [List.append_assoc,List.append_assoc] at I₉
 refine ⟨[[p],[x,dx,st,sd,gv,cT,cA]],⟨fun b o e nw=>k b o e fun z=>nw (.inr z),d2⟩,I₉,.ref (as:=[dx,st,sd,gv,cT,cA]) ⟨Nat.succ_pos _,?_⟩⟩
 rw [← I.len,List.getElem?_append_right (Nat.le_succ _),Nat.succ_sub (Nat.le_refl _),Nat.sub_self]; rfl
theorem made_at (O:LexOK B K mk) (P:MakeP B K mk gt n m lA iA c bm) {A₀:Around} {d:Nat} (R:Room A₀ (d+1)) (Nr:Near A₀ A) (BO:BOk B) (I:Inv B F σ s) {text:List Nat} {i:Nat} {x y:Value} (rx:VR B.fa s.heap F (.str text) x) {la:Addr} (ef:Fat F i [la]) (ry:VR B.fa s.heap F (.ref i) y) :
  codeAny (model B.prog B.w) A (.call (.ref lA) ⟨[x,y],[]⟩) (retR (Cn B F s (PE B (σ++[.list [],.lex text i 1 σ.length]) (.ref (σ.length+1))))) s:=by
 refine x2_11 (P.lex) fun o fd e1 e2 e3 e4 e5 e6 e7 e8 e9 e10 e11=>?_
 cases ry.refAt ef
 refine x2_3 (rx.str_is) fun X tX hq_311 eX bX=>?_
 apply q1 hq_311
 have keepc:∀ (h:Heap),(∀ b o,s.heap.get? b=some o→b≠B.tab→h.get? b=some o)→∀ b o,B.h0.get? b=some o→o.cls≠.none→h.get? b=some o:=fun h k b o e hc=>k b o (I.old.get_of_cls e hc) fun z=>by
  rw [z,P.tab.1] at e; cases e; exact hc rfl
 have codeHd:∀ (h:Heap),(∀ b o,s.heap.get? b=some o→b≠B.tab→h.get? b=some o)→CodeHd h c B.tab:=fun h k=>by
  refine x9_3 (P.code) fun o vs file tf flags tg inF text tt q1 q2 r=>?_
  exact ⟨o,vs,file,tf,flags,tg,inF,text,tt,keepc h k _ _ q1 (by rw [q2]; simp),q2,r⟩
 have crec:CodeI s.heap c lexQ:=by
  refine x3_4 (P.crec) fun o' vs t q1 q2 q3 q4=>?_
  exact ⟨o',vs,t,I.old.get_of_cls q1 (by rw [q2]; simp),q2,q3,q4⟩
 have hdepth:A.depth < 850:=by have:=R.depth; have:=Nr.depth; (first | lia | omega)
 refine codeAny_call_cells (Nat.lt_trans hdepth (by decide)) (I.old.get_of_cls e1 e2) e3 I.lim (by rw [e10,e9]; exact crec.rec) e4 (e11 _ _) e6 (fun z hz=>by
   rw [e5]
   simp only [List.mem_cons,List.not_mem_nil,or_false] at hz
   rcases hz with rfl | rfl
   ·exact .inr ⟨rfl,rfl⟩
   ·exact .inr ⟨rfl,rfl⟩) (fun s₁ x₁=>?_) (by rw [e5]; rfl) (by rw [e5]; rfl) (by rw [e5]; rfl)
 generalize henv:callEnvC fd s.heap.objs.size lA=env at x₁ ⊢
 have XE:LxE B env s.heap.objs.size (s.heap.objs.size+1) (s.heap.objs.size+1+1) c:=by
  refine ⟨by rw [← henv]; rfl,by rw [← henv]; exact e5,by rw [← henv]; exact e7,by rw [← henv]; exact e8,?_,by rw [← henv]; show fd.qualname++_=_; rw [e9],by rw [← henv]; exact e10⟩
  rw [← henv]
  show cellsFrom (s.heap.objs.size+1) fd.scope.names []=_
  rw [e5]; rfl
 have k1:=x₁.toInCall.keep
 have kn:∀ y,env.kindOf y=lexScope.names.lookup y:=fun y=>by unfold Env.kindOf; rw [XE.sc]
 have ns1:=x₁.toInCall.ns
 have cT1:s₁.heap.IsCell (s.heap.objs.size+1) (some (.str X tX)):=by
  have:=x₁.cell (nS "text") (s.heap.objs.size+1) (by rw [XE.cells]; rfl)
  rwa [show bindC env.kindOf [(nS "text",Value.str X tX),(nS "at",Value.ref la)] (fun ζ=>none) (nS "text")=some (.str X tX) from bindC_at (names:=[nS "text",nS "at"]) (xs:=[.str X tX,.ref la]) (i:=0) (by decide) rfl rfl (by rw [kn]; rfl)] at this
 have cA1:s₁.heap.IsCell (s.heap.objs.size+1+1) (some (.ref la)):=by
  have:=x₁.cell (nS "at") (s.heap.objs.size+1+1) (by rw [XE.cells]; rfl)
  rwa [show bindC env.kindOf [(nS "text",Value.str X tX),(nS "at",Value.ref la)] (fun ζ=>none) (nS "at")=some (.ref la) from bindC_at (names:=[nS "text",nS "at"]) (xs:=[.str X tX,.ref la]) (i:=1) (by decide) rfl rfl (by rw [kn]; rfl)] at this
 refine x2_2 (x₁.done) fun h₁ tk₁ hq_312 ζ=>?_
 subst hq_312
 rw [XE.loc] at ns1
 generalize bindL env.kindOf _ _=ml at ns1
 clear x₁
 dsimp only at k1 ns1 cT1 cA1
 generalize hL:s.heap.objs.size=L at ns1 cT1 cA1 XE
 have deadL:∀ b,L≤b→s.heap.get? b=none:=fun b hb=>by
  cases e:s.heap.get? b with
  | none=>rfl
  | some o=>exact absurd (Heap.lt_size e) (Nat.not_lt.mpr (by rw [hL]; exact hb))
 have tabL:B.tab < L:=by
  refine x1_2 (I.tabLive) fun o e ζ=>?_
  rw [← hL]; exact Heap.lt_size e
 have oldL:∀ b o,s.heap.get? b=some o→b < L:=fun b o e=>by rw [← hL]; exact Heap.lt_size e
 have hgl:∀ h:Heap,(∀ b o,s.heap.get? b=some o→b≠B.tab→h.get? b=some o)→h.Ns mainGlobals B.mg:=fun h k=>by
  have:=BO.ns
  rw [P.gA] at this
  exact this.at' fun o e=>k _ o (ns_kept I.old this (by rw [← P.gA]; exact BO.gc) o e) P.gP
 have hbi:∀ h:Heap,(∀ b o,s.heap.get? b=some o→b≠B.tab→h.get? b=some o)→h.BuiltinsAt B.mg B.tab:=fun h k=>by
  refine x1_4 (P.bmo) fun o' q1 q2 q3 q4=>?_
  refine x0_4 (P.bm_) fun p1 p2 p3 p4=>?_
  exact ⟨bm,o',p1,p2,p3,p4,keepc h k _ _ q1 (by rw [q2]; simp),q2,q3,q4⟩
 obtain ⟨ps,hP,hT,hW⟩:∃ ps,h₁.get? B.tab=some (tabObj ps)∧TriplesOk ps.toList∧(ps=#[]∨∃ c1 c2,ps=two (lamP n) (defP n) c1 c2∧CodeI h₁ c1 B.lx.q1∧CodeI h₁ c2 B.lx.q2):=by
  have im:Mv [] [] s.heap h₁:=.of k1
  rcases I.tabs with t | ⟨c1,c2,t,q1,q2⟩
  ·exact ⟨#[],k1 _ _ t,trivial,.inl rfl⟩
  ·rw [P.p1,P.p2] at t
   exact ⟨_,k1 _ _ t,trivial,.inr ⟨c1,c2,rfl,q1.imk im,q2.imk im⟩⟩
 have kk1:∀ b o,s.heap.get? b=some o→b≠B.tab→h₁.get? b=some o:=fun b o e ζ=>k1 b o e
 refine wpAny_execs_cons (wpAny_Assign_Name (kla_eval rfl (mkFn (s:={ s with heap:=h₁,toks:=tk₁ }) LxE.lam XE.gl (hgl _ kk1) XE.code (codeHd _ kk1) hP hT P.gP (hbi _ kk1) rfl ?_ fun c1 ctv h₂ tk₂ ps₂ hx₂ hz₂ hi₂ ht₂ hw₂=>?_)))
 ·rcases hW with rfl | ⟨c1,c2,rfl,q1,_⟩
  ·exact .inl rfl
  ·exact .inr ⟨c1,am_hit,by rw [XE.qual,← P.q1]; exact q1⟩
 have kk2:∀ b o,s.heap.get? b=some o→b≠B.tab→h₂.get? b=some o:=fun b o e nb=>hx₂ b o nb (k1 b o e)
 have im2:Mv [] [] h₁ h₂:=.but hx₂ fun o e=>by rw [hP] at e; apply s1 e; exact tab_no
 have hz1:L < h₁.objs.size:=ns1.lt
 have hw₂':TriplesOk ps₂.toList∧((∃ c1,ps₂=#[rawInt (lamP n).line,rawInt (lamP n).col,.ref c1]∧CodeI h₂ c1 B.lx.q1)∨∃ c1 c2,ps₂=two (lamP n) (defP n) c1 c2∧CodeI h₂ c1 B.lx.q1∧CodeI h₂ c2 B.lx.q2):=by
  have hi₂':CodeI h₂ c1 B.lx.q1:=by rw [XE.qual,← P.q1] at hi₂; exact hi₂
  rcases hw₂ with ⟨rfl,ham⟩ | ⟨ham,rfl⟩
  ·rcases hW with rfl | ⟨d1,d2,rfl,q1,q2⟩
   ·exact noS ham
   ·exact ⟨hT,.inr ⟨d1,d2,rfl,q1.imk im2,q2.imk im2⟩⟩
  ·rcases hW with rfl | ⟨d1,d2,rfl,q1,q2⟩
   ·exact ⟨trivial,.inl ⟨c1,rfl,hi₂'⟩⟩
   ·rw [show codeAmong (lamP n) (two (lamP n) (defP n) d1 d2).toList=some (.ref d1) from am_hit] at ham; cases ham
 clear hW hw₂ hi₂
 refine x0_2 (hw₂') fun hT₂ hW₂=>?_
 generalize hst:h₂.objs.size=st
 have stL:L < st:=by rw [← hst]; exact Nat.lt_of_lt_of_le hz1 hz₂
 have live2:∀ b o,h₂.get? b=some o→b≠st:=fun b o e z=>by rw [z,← hst] at e; exact Nat.lt_irrefl _ (Heap.lt_size e)
 have ns2:=(ns1.extBut hx₂ (Nat.ne_of_gt tabL)).push { cls:=.type "function",data:=.func (fdX (Str.ofString "<lambda>") (env.qual++Str.ofString "<lambda>") (noArgs []) (.expr (.Constant .none 0 ⟨n+1,21,n+1,25⟩)) lamScope [] ((B.mg (Str.ofString "__name__")).getD .none) (.ref c1) ctv) }
 generalize hfo:({ cls:=.type "function",data:=.func (fdX (Str.ofString "<lambda>") (env.qual++Str.ofString "<lambda>") (noArgs []) (.expr (.Constant .none 0 ⟨n+1,21,n+1,25⟩)) lamScope [] ((B.mg (Str.ofString "__name__")).getD .none) (.ref c1) ctv) }:Obj)=fo at ns2 ⊢
 refine wpAny_storeName_local (by rw [kn]; rfl) (by rw [XE.loc]; exact ns2) (fun h₃ ns3 hs₃=>?_) (by rw [XE.sc]; rfl)
 rw [XE.loc] at ns3 hs₃
 have keep3:∀ b o,b≠L→h₂.get? b=some o→h₃.get? b=some o:=fun b o nb e=>(hs₃.2 b nb).trans (Heap.get?_push_of_some _ e)
 have kk3:∀ b o,s.heap.get? b=some o→b≠B.tab→h₃.get? b=some o:=fun b o e nb=>keep3 b o (Nat.ne_of_lt (oldL b o e)) (kk2 b o e nb)
 have ns2':=ns1.extBut hx₂ (Nat.ne_of_gt tabL)
 have im3:Mv [] [] h₂ h₃:=.but keep3 fun o e=>ns_not_imm ns2' e
 have st3:h₃.get? st=some fo:=(hs₃.2 st (Nat.ne_of_gt stL)).trans (by rw [← hst]; exact Heap.get?_push_size _ (by rw [← hfo]; rfl))
 have tab3:h₃.get? B.tab=some (tabObj ps₂):=keep3 _ _ (Nat.ne_of_lt tabL) ht₂
 have cell3:∀ c' v,L < c'→h₁.IsCell c' v→h₃.IsCell c' v:=fun c' v hc ⟨o,e,d⟩=>⟨o,keep3 _ _ (Nat.ne_of_gt hc) (hx₂ _ _ (Nat.ne_of_gt (Nat.lt_trans tabL hc)) e),d⟩
 have cT3:=cell3 _ _ (Nat.lt_succ_self L) cT1
 have cA3:=cell3 _ _ (Nat.lt_succ_of_lt (Nat.lt_succ_self L)) cA1
 have ltst:L+1+1 < st:=by
  refine x1_2 (cA1) fun o e ζ=>?_
  rw [← hst]; exact Nat.lt_of_lt_of_le (Heap.lt_size e) hz₂
 clear cT1 cA1
 replace hW₂:(∃ c1,ps₂=#[rawInt (lamP n).line,rawInt (lamP n).col,.ref c1]∧CodeI h₃ c1 B.lx.q1)∨∃ c1 c2,ps₂=two (lamP n) (defP n) c1 c2∧CodeI h₃ c1 B.lx.q1∧CodeI h₃ c2 B.lx.q2:=by
  rcases hW₂ with ⟨c1,z,q⟩ | ⟨c1,c2,z,q,r⟩
  ·exact .inl ⟨c1,z,q.imk im3⟩
  ·exact .inr ⟨c1,c2,z,q.imk im3,r.imk im3⟩
 have hqual:qualnameIn env (nS "_law_give") (nS "_law_give")=B.lx.q2:=by
  unfold qualnameIn
  rw [kn,if_neg (by decide),XE.qual,← P.q2]
 refine wpAny_execs_cons (nestDef_K rfl rfl rfl ?_)
 rw [hqual]
 refine mkFn (s:={ s with heap:=h₃,toks:=tk₂+1 }) XE.give XE.gl (hgl _ kk3) XE.code (codeHd _ kk3) tab3 hT₂ P.gP (hbi _ kk3) rfl ?_ fun c2 ctv₂ h₄ tk₄ ps₄ hx₄ hz₄ hi₄ ht₄ hw₄=>?_
 ·rcases hW₂ with ⟨c1,rfl,_⟩ | ⟨c1,c2,rfl,_,q2⟩
  ·refine .inl ?_
   rw [show (#[rawInt (lamP n).line,rawInt (lamP n).col,Value.ref c1]:Array Value).toList=[rawInt (lamP n).line,rawInt (lamP n).col,.ref c1] from rfl,am_miss (lines n)]; rfl
  ·refine .inr ⟨c2,?_,q2⟩
   rw [show (two (lamP n) (defP n) c1 c2).toList=[rawInt (lamP n).line,rawInt (lamP n).col,.ref c1,rawInt (defP n).line,rawInt (defP n).col,.ref c2] from rfl,am_miss (lines n),am_hit]
 have im4:Mv [] [] h₃ h₄:=.but hx₄ fun o e=>by rw [tab3] at e; apply s1 e; exact tab_no
 have hw₄':∃ c1 c2,ps₄=two (lamP n) (defP n) c1 c2∧CodeI h₄ c1 B.lx.q1∧CodeI h₄ c2 B.lx.q2:=by
  rcases hw₄ with ⟨rfl,ham⟩ | ⟨ham,rfl⟩
  ·rcases hW₂ with ⟨d1,rfl,q⟩ | ⟨d1,d2,rfl,q1,q2⟩
   ·rw [show (#[rawInt (lamP n).line,rawInt (lamP n).col,Value.ref d1]:Array Value).toList=[rawInt (lamP n).line,rawInt (lamP n).col,.ref d1] from rfl,am_miss (lines n)] at ham; exact noS ham
   ·exact ⟨d1,d2,rfl,q1.imk im4,q2.imk im4⟩
  ·rcases hW₂ with ⟨d1,rfl,q⟩ | ⟨d1,d2,rfl,q1,q2⟩
   ·exact ⟨d1,c2,rfl,q.imk im4,hi₄⟩
   ·rw [show (two (lamP n) (defP n) d1 d2).toList=[rawInt (lamP n).line,rawInt (lamP n).col,.ref d1,rawInt (defP n).line,rawInt (defP n).col,.ref d2] from rfl,am_miss (lines n),am_hit] at ham; cases ham
 clear hW₂ hw₄
 refine x2_3 (hw₄') fun w1 w2 hq_313 wq1 wq2=>?_
 subst hq_313
 generalize hgv:h₄.objs.size=gv
 have ns4:=ns3.extBut hx₄ (Nat.ne_of_gt tabL)
 have gvL:L < gv:=by rw [← hgv]; exact ns4.lt
 have stgv:st≠gv:=fun z=>by
  have:=hx₄ _ _ (Nat.ne_of_gt (Nat.lt_trans tabL stL)) st3
  rw [z,← hgv] at this; exact Nat.lt_irrefl _ (Heap.lt_size this)
 rw [← P.gv]
 generalize hgo:({ cls:=.type "function",data:=.func (B.lx.gv [(nS "text",L+1),(nS "at",L+1+1)] (.ref c2) ctv₂) }:Obj)=go
 refine wpAny_storeName_local (by rw [kn]; rfl) (by rw [XE.loc]; exact ns4.push go) (fun h₅ ns5 hs₅=>?_) (by rw [XE.sc]; rfl)
 rw [XE.loc] at ns5 hs₅
 have keep5:∀ b o,b≠L→h₄.get? b=some o→h₅.get? b=some o:=fun b o nb e=>(hs₅.2 b nb).trans (Heap.get?_push_of_some _ e)
 have kk5:∀ b o,s.heap.get? b=some o→b≠B.tab→h₅.get? b=some o:=fun b o e nb=>keep5 b o (Nat.ne_of_lt (oldL b o e)) (hx₄ b o nb (kk3 b o e nb))
 have im5:Mv [] [] h₄ h₅:=.but keep5 fun o e=>ns_not_imm ns4 e
 have up5:∀ b o,L < b→h₃.get? b=some o→h₅.get? b=some o:=fun b o hb e=>keep5 b o (Nat.ne_of_gt hb) (hx₄ b o (Nat.ne_of_gt (Nat.lt_trans tabL hb)) e)
 have st5:=up5 _ _ stL st3
 have gv5:h₅.get? gv=some go:=(hs₅.2 gv (Nat.ne_of_gt gvL)).trans (by rw [← hgv]; exact Heap.get?_push_size _ (by rw [← hgo]; rfl))
 have tab5:h₅.get? B.tab=some (tabObj (two (lamP n) (defP n) w1 w2)):=keep5 _ _ (Nat.ne_of_lt tabL) ht₄
 have cell5:∀ c' v,L < c'→h₃.IsCell c' v→h₅.IsCell c' v:=fun c' v hc ⟨o,e,d⟩=>⟨o,up5 _ _ hc e,d⟩
 have cT5:=cell5 _ _ (Nat.lt_succ_self L) cT3
 have cA5:=cell5 _ _ (Nat.lt_succ_of_lt (Nat.lt_succ_self L)) cA3
 have hkf:env.scope.kind=.function:=by rw [XE.sc]; rfl
 have hloc:∀ y k,lexScope.names.lookup y=some k→env.kindOf y=some k:=fun y k e=>by rw [kn]; exact e
 refine wpAny_execs_cons (plainObj_wpAny_Assign_Attribute (wpAny_Name (wpAny_loadName_local hkf (hloc _ _ rfl) (by rw [XE.loc]; exact ns5) (if_pos rfl) ?_) (by decide)))
 refine wpAny_Name (wpAny_loadName_local hkf (hloc _ _ rfl) (by rw [XE.loc]; exact ns5) (v:=.ref st) (by rw [if_neg (by decide),if_pos rfl]) ?_) (by decide)
 rw [← hfo] at st5
 refine fnSet st5 fun h₆ tk₆ k₆ st₆ n₆=>?_
 dsimp only at k₆ st₆ n₆ ⊢
 generalize hsd:h₅.objs.size=sd at st₆ n₆
 have gvsd:gv < sd:=by rw [← hsd]; exact Heap.lt_size gv5
 have kk6:∀ b o,s.heap.get? b=some o→b≠B.tab→h₆.get? b=some o:=fun b o e nb=>k₆ b o (Nat.ne_of_lt (Nat.lt_trans (oldL b o e) stL)) (kk5 b o e nb)
 have ns6:h₆.Ns L _:=ns5.at' fun o e=>k₆ L o (Nat.ne_of_lt stL) e
 have Xk:K.In h₆:=fun b o e=>keepc _ kk6 b o (O.X b o e) (O.cls b o e)
 have tab6:=k₆ _ _ (Nat.ne_of_lt (Nat.lt_trans tabL stL)) tab5
 have im6:Mv [] [] h₅ h₆:=.but k₆ fun o e=>by rw [st5] at e; apply s1 e; exact no_cls rfl rfl
 have gv6:=k₆ _ _ stgv.symm gv5
 have cT6:h₆.IsCell (L+1) _:=Heap_IsCell_at cT5 fun o e=>k₆ _ o (Nat.ne_of_lt (Nat.lt_trans (Nat.lt_succ_self _) ltst)) e
 have cA6:h₆.IsCell (L+1+1) _:=Heap_IsCell_at cA5 fun o e=>k₆ _ o (Nat.ne_of_lt ltst) e
 refine wpAny_execs_cons (wpAny_Return_some (PyProof.Rows.Call_Name rfl ?_))
 refine Calls.Name_function_global hkf (hloc _ _ rfl) ?_ (by decide)
 refine Calls.loadGlobal_global (by rw [XE.gl]; exact hgl _ kk6) P.net ?_
 refine callWith_K (K:=K) (h₀:=B.h0) O.X P.kp ?_
 show wpAny _ _ (spliced [(false,eval (.Name (nS "stream") ⟨n+8,21,n+8,27⟩) env)]) _ _ _
 refine Calls.spliced_cons (wpAny_Name (wpAny_loadName_local hkf (hloc _ _ rfl) (by rw [XE.loc]; exact ns6) (v:=.ref st) (by rw [if_neg (by decide),if_pos rfl]) ?_) (by decide))
 refine Calls.spliced_nil ⟨Xk,wpAny_call ?_⟩
 show codeAny _ _ (.call (.ref B.lx.C) ⟨[.ref st],[]⟩) _ (⟨h₆,s.gens,s.drawn,tk₆,s.os⟩:Shared)
 refine make_core (makes_of Xk P.makes) (looks_findIn Xk P.fi) (fun self=>bind_fn Xk self P.ti) (.inl rfl) ?_
 generalize hdx:h₆.objs.size=dx
 have sddx:sd < dx:=by
  refine x4_2 (n₆) fun ζ ζ ζ ζ e ζ=>?_
  rw [← hdx]; exact Heap.lt_size e
 have dead6:∀ b,dx≤b→B.h0.get? b=none∧b∉F.flatten:=fun b hb=>I.dead (deadL b (Nat.le_trans (Nat.le_of_lt (Nat.lt_trans stL (Nat.lt_trans (by
   have:st < gv:=by
    rw [← hgv]; exact Heap.lt_size (hx₄ _ _ (Nat.ne_of_gt (Nat.lt_trans tabL stL)) st3)
   exact this) (Nat.lt_trans gvsd sddx)))) hb))
 have push6:∀ b o,h₆.get? b=some o→((h₆.push emptyDict).push (instObj B.lx.C dx)).get? b=some o:=fun b o e=>Heap.get?_push_of_some _ (Heap.get?_push_of_some _ e)
 have kk6':∀ b o,s.heap.get? b=some o→b≠B.tab→((h₆.push emptyDict).push (instObj B.lx.C dx)).get? b=some o:=fun b o e nb=>push6 b o (kk6 b o e nb)
 have hxx:((h₆.push emptyDict).push (instObj B.lx.C dx)).get? (dx+1)=some (instO B.lx.C dx):=by
  have:dx+1=(h₆.push emptyDict).objs.size:=by rw [Heap.size_push,hdx]
  rw [this]; exact Heap.get?_push_size _ rfl
 have hdd:NsL ((h₆.push emptyDict).push (instObj B.lx.C dx)) dx (fun ζ=>none) 0:=⟨none,#[],0,#[],by
  rw [← hdx]; exact Heap.get?_push_of_some _ (Heap.get?_push_size _ rfl),fun e he=>by simp at he,Nat.le_refl _,fun ζ=>rfl⟩
 have lim6:((h₆.push emptyDict).push (instObj B.lx.C dx)).NoLimit:=by
  refine x1_2 (I.lim) fun mc hw_314 q=>?_
  refine x3_2 (hw_314) fun o es ep eo r=>?_
  exact ⟨mc,⟨o,es,ep,kk6' _ _ eo I.tabc.symm,r⟩,q⟩
 refine init_ok (gt:=gt) (s:=⟨(h₆.push emptyDict).push (instObj B.lx.C dx),s.gens,s.drawn,tk₆,s.os⟩) O P ?_ (Xk.keeps push6) lim6 (keepc _ kk6') (dead6 dx (Nat.le_refl _)).1 hxx hdd fun h₇ tk₇ p t1 t2 k₇ hp pl n₇=>?_
 ·show A.depth+1+Code.weight _ < 900
  have:Code.weight (.builtin "type.__call__" ⟨[.ref B.lx.C,.ref st],[]⟩)≤2:=weight_made _ _
  (first | lia | omega)
 refine ⟨rfl,?_⟩
 have keep7:∀ b o,b≠dx→h₆.get? b=some o→h₇.get? b=some o:=fun b o nb e=>k₇ b o nb (push6 b o e)
 have stgv':st < gv:=by rw [← hgv]; exact Heap.lt_size (hx₄ _ _ (Nat.ne_of_gt (Nat.lt_trans tabL stL)) st3)
 have stdx:st < dx:=Nat.lt_trans stgv' (Nat.lt_trans gvsd sddx)
 have kk7:∀ b o,s.heap.get? b=some o→b≠B.tab→h₇.get? b=some o:=fun b o e nb=>keep7 b o (Nat.ne_of_lt (Nat.lt_trans (oldL b o e) (Nat.lt_trans stL stdx))) (kk6 b o e nb)
 have im47:Mv [] [] h₄ h₇:=(im5.trans im6).trans (.but keep7 fun o e=>by rw [← hdx] at e; exact absurd (Heap.lt_size e) (Nat.lt_irrefl _))
 have tab7:TabOK B h₇:=by
  refine .inr ⟨w1,w2,?_,wq1.imk im47,wq2.imk im47⟩
  rw [P.p1,P.p2]
  exact keep7 _ _ (Nat.ne_of_lt (Nat.lt_trans tabL (Nat.lt_trans stL stdx))) tab6
 have xp:dx+1 < p:=by
  have:dx+1+1≤p:=by
   have:=hp
   rw [Heap.size_push,Heap.size_push,hdx] at this
   exact this
  exact this
 have I₇:Inv B F σ { s with heap:=h₇,toks:=tk₇ }:=I.tabKeep kk7 tab7 P.tab.1 P.tab.2
 have deadAll:∀ b,L≤b→B.h0.get? b=none∧b∉F.flatten:=fun b hb=>I.dead (deadL b hb)
 have dLst:=Nat.le_of_lt stL
 have dLgv:=Nat.le_of_lt gvL
 have dLsd:=Nat.le_of_lt (Nat.lt_trans gvL gvsd)
 have dLdx:=Nat.le_of_lt (Nat.lt_trans gvL (Nat.lt_trans gvsd sddx))
 have allL:∀ b,b∈[dx+1,dx,st,sd,gv,L+1,L+1+1]→L≤b∧b≠p:=fun b hb=>by
  simp only [List.mem_cons,List.not_mem_nil,or_false] at hb
  have hxp:dx < p:=Nat.lt_trans (Nat.lt_succ_self dx) xp
  rcases hb with rfl | rfl | rfl | rfl | rfl | rfl | rfl
  ·exact ⟨Nat.le_succ_of_le dLdx,Nat.ne_of_lt xp⟩
  ·exact ⟨dLdx,Nat.ne_of_lt hxp⟩
  ·exact ⟨dLst,Nat.ne_of_lt (Nat.lt_trans stdx hxp)⟩
  ·exact ⟨dLsd,Nat.ne_of_lt (Nat.lt_trans sddx hxp)⟩
  ·exact ⟨dLgv,Nat.ne_of_lt (Nat.lt_trans gvsd (Nat.lt_trans sddx hxp))⟩
  ·exact ⟨Nat.le_succ L,Nat.ne_of_lt (Nat.lt_trans (Nat.lt_succ_self _) (Nat.lt_trans ltst (Nat.lt_trans stdx hxp)))⟩
  ·exact ⟨Nat.le_succ_of_le (Nat.le_succ L),Nat.ne_of_lt (Nat.lt_trans ltst (Nat.lt_trans stdx hxp))⟩
 have hp8:(F++[[p]])[σ.length]?=some [p]:=by rw [← I.len,List.getElem?_concat_length]
 have LX:LexH B h₇ [dx+1,dx,st,sd,gv,L+1,L+1+1] text la 1 p (dx+1) dx st sd gv (L+1) (L+1+1):=by
  refine ⟨rfl,k₇ _ _ (Nat.succ_ne_self dx) hxx,⟨_,n₇,?_⟩,⟨_,_,keep7 _ _ (Nat.ne_of_lt stdx) st₆⟩,⟨_,n₆.at' fun o e=>keep7 _ o (Nat.ne_of_lt sddx) e,if_pos rfl⟩,⟨c2,ctv₂,?_,hi₄.imk im47⟩,⟨X,tX,Heap_IsCell_at cT6 fun o e=>keep7 _ o (Nat.ne_of_lt (Nat.lt_trans (Nat.lt_succ_self _) (Nat.lt_trans ltst stdx))) e,eX⟩,Heap_IsCell_at cA6 fun o e=>keep7 _ o (Nat.ne_of_lt (Nat.lt_trans ltst stdx)) e⟩
  ·refine ⟨⟨t1,?_⟩,?_,⟨t2,?_⟩,?_,?_,?_,?_⟩
   ·show (if nS "lineno"=nS "pushback" then _ else if nS "lineno"=nS "whitespace" then _ else if nS "lineno"=nS "instream" then _ else if nS "lineno"=nS "lineno" then _ else _)=_
    rw [if_neg (by decide),if_neg (by decide),if_neg (by decide),if_pos rfl]
   ·show (if nS "instream"=nS "pushback" then _ else if nS "instream"=nS "whitespace" then _ else if nS "instream"=nS "instream" then _ else _)=_
    rw [if_neg (by decide),if_neg (by decide),if_pos rfl]
   ·show (if nS "whitespace"=nS "pushback" then _ else if nS "whitespace"=nS "whitespace" then _ else _)=_
    rw [if_neg (by decide),if_pos rfl]
   ·exact if_pos rfl
   ·show (if nS "get_token"=nS "pushback" then _ else if nS "get_token"=nS "whitespace" then _ else if nS "get_token"=nS "instream" then _ else if nS "get_token"=nS "lineno" then _ else _)=_
    rw [if_neg (by decide),if_neg (by decide),if_neg (by decide),if_neg (by decide)]
   ·show (if nS "push_token"=nS "pushback" then _ else if nS "push_token"=nS "whitespace" then _ else if nS "push_token"=nS "instream" then _ else if nS "push_token"=nS "lineno" then _ else _)=_
    rw [if_neg (by decide),if_neg (by decide),if_neg (by decide),if_neg (by decide)]
   ·show (if nS "_read_char"=nS "pushback" then _ else if nS "_read_char"=nS "whitespace" then _ else if nS "_read_char"=nS "instream" then _ else if nS "_read_char"=nS "lineno" then _ else _)=_
    rw [if_neg (by decide),if_neg (by decide),if_neg (by decide),if_neg (by decide)]
  ·have:=keep7 _ _ (Nat.ne_of_lt (Nat.lt_trans gvsd sddx)) gv6
   rw [← hgo] at this
   exact this
 have nd7:([dx+1,dx,st,sd,gv,L+1,L+1+1]:List Addr).Nodup:=seven (L+1) (L+1+1) st gv sd dx (dx+1) (Nat.lt_succ_self _) ltst stgv' gvsd sddx (Nat.lt_succ_self _)
 exact made_end I kk7 I₇ ef hp8 bX pl LX nd7 (fun b hb=>deadL b (allL b hb).1) (fun b hb=>(allL b hb).2) (deadL p (Nat.le_trans dLdx (Nat.le_of_lt (Nat.lt_trans (Nat.lt_succ_self dx) xp))))
end
end Mine
namespace Mine
open PySem PySem.W
structure Tab where
 gt:List Str
 fns:Nat→Option Fn
 pad:Nat→List V
 lx:Nat
 me:Me→Nat
 kws:Nat→Str→Bool
 G:Nat→Option V
noncomputable def newLex (as:List V) (σ:Sto):Option (V × Sto):=arg2 as fun v w=>(strV v).bind fun text=>(refV w).bind fun i=>(vlist σ i).map fun ζ=>(.ref (σ.length+1),σ++[.list [],.lex text i 1 σ.length])
noncomputable def lamOf (mk:Me→Nat) (Φ:Calls):Lexer:=fun m as σ=>match m with
 | .count=>arg1 as fun v=>(refV v).bind fun i=>readC i σ
 | m=>if m.lex then Φ (mk m) as σ else none
noncomputable def padded (T:Tab) (k np:Nat) (as:List V):Option (List V):=if as.length=np then some as else if as.length+(T.pad k).length=np then some (as++T.pad k) else none
noncomputable def lamL (me:Me→Nat) (n:Nat) (Φ:Calls):Lexer:=match n with
 | 0=>fun ζ ζ ζ=>none
 | _+1=>lamOf me Φ
noncomputable def phi (T:Tab):Nat→Calls
 | 0=>fun ζ ζ ζ=>none
 | n+1=>fun k as σ=>if k=T.lx then newLex as σ else (T.fns k).bind fun f=>(padded T k f.np as).bind fun as'=>runF (phi T n) (lamL T.me n (phi T n)) T.G f.fz f.n f.body as' σ
noncomputable abbrev lamN (T:Tab) (n:Nat):Lexer:=lamL T.me n (phi T n)
noncomputable def Sees (B:Base) (h:Heap):Prop:=∀ a o,B.h0.get? a=some o→o.cls≠.none→h.get? a=some o
noncomputable def Fn.names (f:Fn):List Str:=(List.range f.np).map (nmOf f.tb)
structure FnK (B:Base) (T:Tab) (k:Nat) (f:Fn) (fd:FuncData):Prop where
 at_:∃ o,B.h0.get? (B.fa k)=some o∧o.cls≠.none∧o.data=.func fd
 body:fd.body=.stmts (toSL T.gt f.tb f.body)
 clo:fd.closure=[]
 gl:fd.globals=B.gA
 bu:fd.builtins=B.bA
 code:∃ c,fd.code=.ref c∧CodeI B.h0 c fd.qualname
 ok:f.okB T.gt T.kws T.G fd.scope=true
 b1:T.kws k kwNm=false→∀ s:Shared,Sees B s.heap→∀ xs:List Value,xs.length=f.np→BindsTo s fd ⟨xs,[]⟩ (f.names.zip xs)
 b2:T.kws k kwNm=false→∃ pv,(∀ h F,VRs B.fa h F (T.pad k) pv)∧∀ s:Shared,Sees B s.heap→∀ xs:List Value,xs.length≠f.np→xs.length+pv.length=f.np→BindsTo s fd ⟨xs,[]⟩ (f.names.zip (xs++pv))
 b3:∀ nm,T.kws k nm=true→∀ s:Shared,Sees B s.heap→∀ (xs:List Value) y,xs.length+1=f.np→BindsTo s fd ⟨xs,[(nm,y)]⟩ (f.names.zip (xs++[y]))
structure TabOk (B:Base) (T:Tab):Prop where
 bok:BOk B
 gr:GR B T.gt T.G
 fns:∀ k f,T.fns k=some f→k≠T.lx→∃ fd,FnK B T k f fd
 lex:∃ K n m iA c bm,LexOK B K T.me∧MakeP B K T.me T.gt n m (B.fa T.lx) iA c bm∧∃ f sc,GiveP B T.gt T.kws T.G f sc
 kwl:∀ nm,T.kws T.lx nm=false
 kwm:∀ m,T.kws (T.me m) kwNm=false
 kwp:∀ k nm,T.kws k nm=true→T.pad k=[]
section
variable {B:Base} {T:Tab}
theorem kit_zero (O:TabOk B T):∀ A,Room A 0→Kit B A 0 (fun ζ ζ ζ=>none) (fun ζ ζ ζ=>none) T.G T.gt T.me T.kws:=fun A R=>by
 refine x6_2 (O.lex) fun K n m iA c bm OL ζ=>?_
 exact ⟨R,⟨K,OL⟩,O.bok,O.gr,fun k as σ r e=>(by cases e),fun A' ζ F σ s k as xs v σ' ζ ζ ζ e=>(by cases e),fun F σ s k as xs w y nm v σ' ζ ζ ζ ζ e=>(by cases e),fun m as σ r ζ e=>(by cases e),O.kwm,fun a σ r e=>(by cases e),fun F σ s i v σ' as text la line p x dx st sd gv cT cA t ζ e=>(by cases e)⟩
theorem sees {F:Lay} {σ:Sto} {s:Shared} (I:Inv B F σ s):Sees B s.heap:=fun ζ ζ e h=>I.old.get_of_cls e h
theorem code_sees {h:Heap} (S:Sees B h) {c:Addr} {q:Str} (x:CodeI B.h0 c q):CodeI h c q:=by
 refine x3_4 (x) fun o vs t e hc hd hv=>?_
 exact ⟨o,vs,t,S _ _ e (by rw [hc]; simp),hc,hd,hv⟩
theorem phi_is {n k:Nat} {as:List V} {σ:Sto} {r:V × Sto} (e:phi T (n+1) k as σ=some r):(k=T.lx∧newLex as σ=some r)∨(k≠T.lx∧∃ f as',T.fns k=some f∧padded T k f.np as=some as'∧runF (phi T n) (lamN T n) T.G f.fz f.n f.body as' σ=some r):=by
 have e:(if k=T.lx then newLex as σ else (T.fns k).bind fun f=>(padded T k f.np as).bind fun as'=>runF (phi T n) (lamN T n) T.G f.fz f.n f.body as' σ)=some r:=e
 by_cases h:k=T.lx
 ·rw [if_pos h] at e; exact .inl ⟨h,e⟩
 ·rw [if_neg h] at e
  refine x2_3 (bin2_is e) ?_
  (try clear e)
  intro f as' ef ea e
  exact .inr ⟨h,f,as',ef,ea,e⟩
theorem padded_is {k np:Nat} {as as':List V} (e:padded T k np as=some as'):(as.length=np∧as'=as)∨(as.length≠np∧as.length+(T.pad k).length=np∧as'=as++T.pad k):=by
 unfold padded at e
 by_cases h:as.length=np
 ·rw [if_pos h] at e; apply s1 e; exact .inl ⟨h,rfl⟩
 ·rw [if_neg h] at e
  refine x0_2 (ite_is e) fun q hq_315=>?_
  apply q2 hq_315
  exact .inr ⟨h,q,rfl⟩
section
variable {n:Nat} {A A':Around} {F:Lay} {σ σ':Sto} {s:Shared} {k:Nat} {as:List V} {xs:List Value} {v:V}
theorem kit_new {K:Frag} {ln lm:Nat} {lA iA c bm:Addr} (OL:LexOK B K T.me) (MP:MakeP B K T.me T.gt ln lm lA iA c bm) (BO:BOk B) (R:Room A (n+1)) (Nr:Near A A') (I:Inv B F σ s) (r:VRs B.fa s.heap F as xs) (e:newLex as σ=some (v,σ')):codeAny (model B.prog B.w) A' (.call (.ref lA) ⟨xs,[]⟩) (retR (Cn B F s (PE B σ' v))) s:=by
 refine x2_2 (two_is e) ?_
 (try clear e)
 intro u w hq_316 e
 subst hq_316
 refine x2_3 (bin2_is e) ?_
 (try clear e)
 intro text i ht hi e
 refine x1_2 (map_is e) ?_
 (try clear e)
 intro ls q e
 cases e
 have ht:=strV_is ht
 have hi:=refV_is hi
 subst ht hi
 refine x2_2 (I.listAt q) fun a1 its1 f1 ζ=>?_
 refine x2_3 (r.inv2) fun x1 x2 hq_317 r1 r2=>?_
 apply q1 hq_317
 exact made_at OL MP R Nr BO I r1 f1 r2
theorem kit_fn (ih:∀ A,Room A n→Kit B A n (phi T n) (lamN T n) T.G T.gt T.me T.kws) {f:Fn} {fd:FuncData} {xs':List Value} {kw:List (Str × Value)} (FK:FnK B T k f fd) (R:Room A (n+1)) (Nr:Near A A') (I:Inv B F σ s) (r:VRs B.fa s.heap F as xs) (hl:as.length=f.np) (hb:BindsTo s fd ⟨xs',kw⟩ (f.names.zip xs)) (er:runF (phi T n) (lamN T n) T.G f.fz f.n f.body as σ=some (v,σ')):codeAny (model B.prog B.w) A' (.call (.ref (B.fa k)) ⟨xs',kw⟩) (retR (Cn B F s (PE B σ' v))) s:=by
 refine x1_3 (FK.at_) fun o h1 h2 h3=>?_
 refine x1_2 (FK.code) fun cc hc hci=>?_
 exact call_ok ih R Nr I r hl h1 h2 h3 FK.body FK.clo FK.gl FK.bu (by rw [hc]; exact (code_sees (sees I) hci).rec) (fnP_of FK.ok) hb er
theorem kit_phi (ih:∀ A,Room A n→Kit B A n (phi T n) (lamN T n) T.G T.gt T.me T.kws) {f:Fn} {fd:FuncData} {as':List V} (FK:FnK B T k f fd) (hkw:T.kws k kwNm=false) (R:Room A (n+1)) (Nr:Near A A') (I:Inv B F σ s) (r:VRs B.fa s.heap F as xs) (ep:padded T k f.np as=some as') (er:runF (phi T n) (lamN T n) T.G f.fz f.n f.body as' σ=some (v,σ')):codeAny (model B.prog B.w) A' (.call (.ref (B.fa k)) ⟨xs,[]⟩) (retR (Cn B F s (PE B σ' v))) s:=by
 have S:=sees I
 rcases padded_is ep with ⟨hl,rfl⟩ | ⟨hl,hl',rfl⟩
 ·exact kit_fn ih FK R Nr I r hl (FK.b1 hkw s S xs (by rw [← r.length]; exact hl)) er
 ·refine x1_2 (FK.b2 hkw) fun pv hpv hb=>?_
  exact kit_fn ih FK R Nr I (r.append (hpv _ _)) (by rw [List.length_append]; exact hl') (hb s S xs (by rw [← r.length]; exact hl) (by rw [← r.length,← (hpv s.heap F).length]; exact hl')) er
theorem kit_give {f:Fn} {sc:Scope} (GP:GiveP B T.gt T.kws T.G f sc) (O:TabOk B T) (R:Room A (n+1)) (I:Inv B F σ s) {i:Nat} {ys:List Addr} {text:List Nat} {la p x dx st sd gv cT cA:Addr} {line:Int} {t:Tok} (e:readC i σ=some (v,σ')) (ef:Fat F i ys) (L:LexH B s.heap ys text la line p x dx st sd gv cT cA):EvT B A F s (call (.ref gv) [.int 1 t]) (PE B σ' v):=by
 refine x1_2 (bind_is e) ?_
 (try clear e)
 intro LL hL e
 refine x1_2 (bind_is e) ?_
 (try clear e)
 intro us hus e
 refine x1_2 (one_is e) ?_
 (try clear e)
 intro u hq_318 e
 subst hq_318
 refine x1_2 (bind_is e) ?_
 (try clear e)
 intro k hk e
 refine x0_2 (ite_is e) ?_
 (try clear e)
 intro h0 e
 cases e
 have hk:=intV_is hk
 subst hk
 have q:=lexI_is hL
 refine x10_5 (lexAt I q) fun as₂ la₂ p₂ x₂ dx₂ st₂ sd₂ gv₂ cT₂ cA₂ hb ef₂ ea₂ ej₂ L₂=>?_
 cases ef.2.symm.trans ef₂.2
 have hq:=L.as_
 rw [L₂.as_] at hq
 cases hq
 exact give_ok GP (kit_zero O) R (.refl _) I q ef ea₂ hb L₂ hus h0
end
theorem kit_of (O:TabOk B T):∀ n A,Room A n→Kit B A n (phi T n) (lamN T n) T.G T.gt T.me T.kws:=by
 intro n
 induction n with
 | zero=>exact kit_zero O
 | succ n ih =>
  intro A R
  obtain ⟨K,ln,lm,iA,c,bm,OL,MP,gf,gsc,GP⟩:=O.lex
  refine ⟨R,⟨K,OL⟩,O.bok,O.gr,fun k as σ r e=>?_,fun A' Nr F σ s k as xs v σ' hkw I r e=>?_,fun F σ s k as xs w y nm v σ' hk I r rw_ e=>?_,fun m as σ r hm e=>?_,O.kwm,fun a σ r e=>?_,fun F σ s i v σ' as text la line p x dx st sd gv cT cA t I e ef L=>?_⟩
  ·rcases phi_is e with ⟨rfl,_⟩ | ⟨hk,f,as',ef,_⟩
   ·refine x2_4 (MP.lex) fun o fd h1 h2 h3 ζ=>?_
    exact ⟨o,fd,h1,h2,h3⟩
   ·refine x1_1 (O.fns k f ef hk) fun fd FK=>?_
    refine x1_3 (FK.at_) fun o h1 h2 h3=>?_
    exact ⟨o,fd,h1,h2,h3⟩
  ·rcases phi_is e with ⟨rfl,en⟩ | ⟨hk,f,as',ef,ep,er⟩
   ·exact kit_new OL MP O.bok R Nr I r en
   ·refine x1_1 (O.fns k f ef hk) fun fd FK=>?_
    exact kit_phi ih FK hkw R Nr I r ep er
  ·rcases phi_is e with ⟨rfl,en⟩ | ⟨hk',f,as',ef,ep,er⟩
   ·rw [O.kwl] at hk; exact noT hk
   ·refine x1_1 (O.fns k f ef hk') fun fd FK=>?_
    have hl:(as++[w]).length=f.np∧as'=as++[w]:=by
     rcases padded_is ep with q | ⟨q,q',_⟩
     ·exact q
     ·rw [O.kwp k nm hk] at q'; exact absurd q' q
    rw [hl.2] at er
    have hl':xs.length+1=f.np:=by rw [← hl.1,List.length_append,r.length]; rfl
    exact call_retR (kit_fn ih FK R (.refl _) I (r.append (.one rw_)) hl.1 (FK.b3 nm hk s (sees I) xs y hl') er)
  ·have e':lamOf T.me (phi T (n+1)) m as σ=some r:=e
   unfold lamOf at e'
   cases m <;> first | exact e' | exact noT hm
  ·refine x1_2 (one_is (show (arg1 [a] fun v=>(refV v).bind fun i=>readC i σ)=some r from e)) fun u hu e'=>?_
   cases hu
   refine x1_2 (bind_is e') ?_
   (try clear e')
   intro i hi e'
   exact ⟨i,refV_is hi,e'⟩
  ·refine x1_2 (one_is (show (arg1 [V.ref i] fun v=>(refV v).bind fun i=>readC i σ)=some (v,σ') from e)) fun u hu e'=>?_
   cases hu
   exact kit_give GP O R I (show readC i σ=some (v,σ') from e') ef L
end
end Mine
namespace Mine
open PySem PySem.W
noncomputable def frag (h:Heap) (p:Obj→Bool) (as:List Addr):Frag:=as.filterMap fun a=>((h.get? a).filter p).map fun o=>(a,o)
theorem frag_get {h:Heap} {p:Obj→Bool} {a:Addr} {o:Obj}:∀ {as:List Addr},(frag h p as).lookup a=some o→h.get? a=some o∧p o=true
 | [],e=>nomatch e
 | b :: r,e=>by
  unfold frag at e
  rw [List.filterMap_cons] at e
  cases q:(h.get? b).filter p with
  | none=>rw [q] at e; exact frag_get e
  | some x =>
   rw [q] at e
   have e:((b,x) :: frag h p r).lookup a=some o:=e
   rw [List.lookup_cons] at e
   cases z:a==b with
   | false=>rw [z] at e; exact frag_get e
   | true=>rw [z] at e; rw [eq_of_beq z,← Option.some.inj e]; exact Option.filter_eq_some_iff.mp q
noncomputable def fdOf (K:Frag) (a:Addr):FuncData:=match K.lookup a with
 | some ⟨_,_,.func fd,_⟩=>fd
 | _=>{ name:=Str.empty,qualname:=Str.empty,params:=noArgs [],body:=.stmts [],scope:=fnScope [],globals:=0,closure:=[],defaults:=.none,kwdefaults:=.none }
noncomputable def isFnB (K:Frag) (a:Addr):Bool:=match K.lookup a with
 | some ⟨c,_,.func _,_⟩=>c==.type "function"
 | _=>false
noncomputable def codeB (K:Frag) (c:Addr) (q:Str):Bool:=match K.lookup c with
 | some ⟨cl,_,.fields vs,_⟩=>cl==.type "code"&&(match (vs[1]?:Option Value) with
  | some (.str x _)=>x==q
  | _=>false)
 | _=>false
noncomputable def codeQ (K:Frag) (v:Value) (q:Str):Bool:=match v with
 | .ref c=>codeB K c q
 | _=>false
noncomputable def envB (fd:FuncData):Bool:=fd.closure.isEmpty&&fd.globals==mainGlobals&&fd.builtins==builtinsNs
theorem env_is {fd:FuncData} (e:envB fd=true):fd.closure=[]∧fd.globals=mainGlobals∧fd.builtins=builtinsNs:=by
 unfold envB at e
 rw [Bool.and_eq_true,Bool.and_eq_true] at e
 exact ⟨List.isEmpty_iff.mp e.1.1,eq_of_beq e.1.2,eq_of_beq e.2⟩
set_option tactic.hygienic true in
theorem fnB_at {K:Frag} {h:Heap} (X:K.In h) {a:Addr} (e:isFnB K a=true):∃ o,h.get? a=some o∧o.cls≠.none∧o.data=.func (fdOf K a):=by
 unfold isFnB at e
 split at e
 ·rename_i c d fd sl q
  refine ⟨_,X _ _ q,?_,?_⟩
  ·have:=eq_of_beq e
   rw [this]; simp
  ·unfold fdOf
   rw [q]
 ·exact noT e
set_option tactic.hygienic true in
theorem code_at {K:Frag} {h:Heap} (X:K.In h) {c:Addr} {q:Str} (e:codeB K c q=true):CodeI h c q:=by
 unfold codeB at e
 split at e
 ·rename_i cl d vs sl hq
  rw [Bool.and_eq_true] at e
  refine x0_2 e fun e1 e2=>?_
  split at e2
  ·rename_i x t hv
   refine ⟨_,vs,t,X _ _ hq,eq_of_beq e1,rfl,?_⟩
   rw [hv,eq_of_beq e2]
  ·exact noT e2
 ·exact noT e
theorem code_of {K:Frag} {h:Heap} (X:K.In h) {v:Value} {q:Str} (e:codeQ K v q=true):∃ c,v=.ref c∧CodeI h c q:=by
 unfold codeQ at e
 split at e
 ·exact ⟨_,rfl,code_at X e⟩
 ·exact noT e
noncomputable def fnB (K:Frag) (T:Tab) (a:Addr) (f:Fn):Bool:=isFnB K a&&envB (fdOf K a)&&codeQ K (fdOf K a).code (fdOf K a).qualname&&f.okB T.gt T.kws T.G (fdOf K a).scope
noncomputable def upTo (n:Nat) (a b c d:Value):List Value:=[a,b,c,d].take n
theorem upTo_is:∀ {n:Nat} {xs:List Value},xs.length=n→n≤4→∃ a b c d,xs=upTo n a b c d
 | _,[],rfl,_=>⟨.none,.none,.none,.none,rfl⟩
 | _,[a],rfl,_=>⟨a,.none,.none,.none,rfl⟩
 | _,[a,b],rfl,_=>⟨a,b,.none,.none,rfl⟩
 | _,[a,b,c],rfl,_=>⟨a,b,c,.none,rfl⟩
 | _,[a,b,c,d],rfl,_=>⟨a,b,c,d,rfl⟩
 | _,_ :: _ :: _ :: _ :: _ :: _,e,h=>by subst e; exact absurd h (by simp)
section
variable {B:Base} {T:Tab} {K:Frag} {k:Nat} {f:Fn}
theorem fnK (X:K.In B.h0) (gA:B.gA=mainGlobals) (bA:B.bA=builtinsNs) (e:fnB K T (B.fa k) f=true) (eb:(fdOf K (B.fa k)).body=.stmts (toSL T.gt f.tb f.body))
  (b1:T.kws k kwNm=false→∀ s:Shared,Sees B s.heap→∀ xs:List Value,xs.length=f.np→BindsTo s (fdOf K (B.fa k)) ⟨xs,[]⟩ (f.names.zip xs))
  (b2:T.kws k kwNm=false→∃ pv,(∀ h F,VRs B.fa h F (T.pad k) pv)∧∀ s:Shared,Sees B s.heap→∀ xs:List Value,xs.length≠f.np→xs.length+pv.length=f.np→BindsTo s (fdOf K (B.fa k)) ⟨xs,[]⟩ (f.names.zip (xs++pv)))
  (b3:∀ nm,T.kws k nm=true→∀ s:Shared,Sees B s.heap→∀ (xs:List Value) y,xs.length+1=f.np→BindsTo s (fdOf K (B.fa k)) ⟨xs,[(nm,y)]⟩ (f.names.zip (xs++[y]))):∃ fd,FnK B T k f fd:=by
 unfold fnB at e
 rw [Bool.and_eq_true,Bool.and_eq_true,Bool.and_eq_true] at e
 refine x0_3 (env_is e.1.1.2) fun e1 e2 e3=>?_
 exact ⟨_,fnB_at X e.1.1.1,eb,e1,by rw [gA]; exact e2,by rw [bA]; exact e3,code_of X e.1.2,e.2,b1,b2,b3⟩
theorem fnK_plain (X:K.In B.h0) (gA:B.gA=mainGlobals) (bA:B.bA=builtinsNs) (e:fnB K T (B.fa k) f=true) (eb:(fdOf K (B.fa k)).body=.stmts (toSL T.gt f.tb f.body)) (hp:T.pad k=[]) (hkw:∀ nm,T.kws k nm=false)
  (hn:f.np≤4) (hb:(fun a b c d=>bindArgs (fdOf K (B.fa k)) ⟨upTo f.np a b c d,[]⟩)=fun a b c d=>pure (f.names.zip (upTo f.np a b c d))):∃ fd,FnK B T k f fd:=by
 refine fnK X gA bA e eb (fun ζ s ζ xs hl=>?_) (fun ζ=>⟨[],fun h F=>by rw [hp]; exact .nil,fun s ζ xs h1 h2=>(h1 h2).elim⟩) fun nm h=>by rw [hkw] at h; exact noT h
 refine x4_1 (upTo_is hl hn) fun a b c d q=>?_
 rw [q]
 exact .of_eq (congrFun (congrFun (congrFun (congrFun hb a) b) c) d)
noncomputable def P64 (p q:Pos) (d:List Expr):Arguments:=⟨[],[⟨nS "s",none,p⟩,⟨nS "altchars",none,q⟩],none,[],[],none,d⟩
noncomputable def n64:List Str:=[nS "s",nS "altchars"]
theorem bind64 {p q:Pos} {d:List Expr} {fd:FuncData} (h:fd.params=P64 p q d) :
  (∃ k':Value→Value→Option (Array Value)→Sem (List (Str × Value)),∀ a b,bindArgs fd ⟨[a,b],[]⟩=seqItems? fd.defaults >>= k' a b∧k' a b (some #[.none])=pure (n64.zip [a,b])) ∧
  ∃ k':Value→Option (Array Value)→Sem (List (Str × Value)),∀ a,bindArgs fd ⟨[a],[]⟩=seqItems? fd.defaults >>= k' a∧k' a (some #[.none])=pure (n64.zip [a,.none]):=by
 cases fd
 cases h
 exact ⟨⟨_,fun a b=>⟨rfl,rfl⟩⟩,⟨_,fun a=>⟨rfl,rfl⟩⟩⟩
noncomputable def tup1:Obj:={ cls:=.type "tuple",data:=.seq #[.none] }
theorem fnK_none1 (X:K.In B.h0) (gA:B.gA=mainGlobals) (bA:B.bA=builtinsNs) (e:fnB K T (B.fa k) f=true) (eb:(fdOf K (B.fa k)).body=.stmts (toSL T.gt f.tb f.body)) (hp:T.pad k=[.none]) (hkw:∀ nm,T.kws k nm=false)
  (hn:f.names=n64) (hm:f.np=2) {Tp:Addr} (hd:(fdOf K (B.fa k)).defaults=.ref Tp) (hT:K.lookup Tp=some tup1) {p q:Pos} {d:List Expr} (h:(fdOf K (B.fa k)).params=P64 p q d):∃ fd,FnK B T k f fd:=by
 have ht:∀ h,Sees B h→h.get? Tp=some tup1:=fun h S=>S _ _ (X _ _ hT) (by simp [tup1])
 refine x0_2 (bind64 h) fun q1 q2=>?_
 refine fnK X gA bA e eb (fun ζ s S xs hl=>?_) (fun ζ=>⟨[.none],fun h F=>by rw [hp]; exact .cons .none .nil,fun s S xs h1 h2=>?_⟩) fun nm h=>by rw [hkw] at h; exact noT h
 ·rw [hm] at hl
  rw [hn]
  refine x1_1 q1 fun k' q=>?_
  exact (len2 hl).elim fun a e=>e.elim fun b e=>e▸.of_defaults hd (ht _ S) rfl (q a b).1 (q a b).2
 ·rw [hm] at h2
  rw [hn]
  refine x1_1 q2 fun k' q=>?_
  exact (len1 (Nat.succ.inj h2)).elim fun a e=>e▸.of_defaults hd (ht _ S) rfl (q a).1 (q a).2
theorem fnK_key1 (X:K.In B.h0) (gA:B.gA=mainGlobals) (bA:B.bA=builtinsNs) (e:fnB K T (B.fa k) f=true) (eb:(fdOf K (B.fa k)).body=.stmts (toSL T.gt f.tb f.body)) (hp:∀ nm,T.kws k nm=(nm==kwNm)) (hm:f.np=2)
  (hb:(fun a b=>bindArgs (fdOf K (B.fa k)) ⟨[a],[(kwNm,b)]⟩)=fun a b=>pure (f.names.zip [a,b])):∃ fd,FnK B T k f fd:=by
 have no:T.kws k kwNm=false→False:=fun h=>by rw [hp,beq_self_eq_true] at h; cases h
 refine fnK X gA bA e eb (fun h=>(no h).elim) (fun h=>(no h).elim) fun nm h s ζ xs y hl=>?_
 rw [hp] at h
 rw [eq_of_beq h]
 rw [hm] at hl
 exact (len1 (Nat.succ.inj hl)).elim fun a e=>e▸.of_eq (congrFun (congrFun hb a) y)
end
end Mine
namespace Mine
open PySem PySem.W
theorem give_ev {Gv:Nat→Option V} (h:Gv 0=some (.bi .len)) (n:Nat) (Φ:Calls) (Λ:Lexer) (text:List Nat) (k:Int) (σ:Sto) (a:Nat) (hk:0≤k) (ha:vlist σ a=some [.int k]) :
  ∃ loc',evSL Φ Λ Gv (giveIR n) [some (.int 1),some (.str text),some (.ref a),none] σ=some (.ret (.str (pieceAt text k)),loc',σ.set a (.list [.int (k+(pieceAt text k).length)])):=by
 have e1:clip text.length 0 (.int k)=some (min k.toNat text.length):=congrArg some (if_pos hk)
 have e2:clip text.length text.length (.int (k+1))=some (min (k.toNat+1) text.length):=by
  refine (congrArg some (if_pos (Int.le_trans hk (Int.le_of_lt (Int.lt_succ k))))).trans ?_
  rw [Int.toNat_add hk (by decide)]; rfl
 have hs:sliceV (.str text) (.int k) (.int (k+1)) .none σ=some (.str (pieceAt text k),σ):=by
  show orO ((clip text.length 0 (.int k)).bind fun l=>(clip text.length text.length (.int (k+1))).map fun h=>(V.str (cut text l h),σ)) _=_
  rw [e1,e2]; rfl
 have sb:subV (.ref a) (.int 0) σ=some (.int k):=by
  show orO ((vlist σ a).bind fun xs=>pick xs 0) _=_
  rw [ha]; rfl
 have st:setV (.ref a) (.int 0) (.int (k+(pieceAt text k).length)) σ=some (σ.set a (.list [.int (k+(pieceAt text k).length)])):=by
  show (vlist σ a).bind _=_
  rw [ha]; rfl
 refine ⟨[some (.int 1),some (.str text),some (.ref a),some (.str (pieceAt text k))],?_⟩
 unfold giveIR
 rw [es_cons,es_assign,ev_slice]
 simp only [ev_var,getL,evO_some,evO_none,ev_sub,ev_bin,ev_cint,List.getElem?_cons_zero,List.getElem?_cons_succ,Option.bind_some,Option.map_some,sb]
 rw [show binop .Add (.int k) (.int 1) σ=some (.int (k+1),σ) from rfl]
 simp only [Option.bind_some,hs]
 show (evSL Φ Λ Gv (.cons _ _) [some (.int 1),some (.str text),some (.ref a),some (.str (pieceAt text k))] σ)=_
 rw [es_cons,es_augSub]
 simp only [ev_var,getL,ev_cint,ev_call,ev_glob,evEL_cons,evEL_nil,List.getElem?_cons_zero,List.getElem?_cons_succ,Option.bind_some,Option.map_some,sb,h]
 rw [show callV Φ (.bi .len) [.str (pieceAt text k)] σ=some (.int ((pieceAt text k).length:Nat),σ) from rfl]
 simp only [Option.bind_some]
 rw [show augop .Add (.int k) (.int ((pieceAt text k).length:Nat)) σ=some (.int (k+(pieceAt text k).length),σ) from rfl]
 simp only [Option.bind_some,st,Option.map_some]
 rfl
mutual
noncomputable def vB (fa:Nat→Addr) (K:Frag):V→Value→Bool
 | .int i,x=>(match x with
  | .int j _=>i==j
  | _=>false)
 | .str s,x=>(match x with
  | .str x _=>x.cps.toList==s&&decide (s.length≤maxLen)
  | _=>false)
 | .bytes l,x=>(match x with
  | .bytes b _=>b.toList.map UInt8.toNat==l&&decide (l.length≤maxLen)
  | _=>false)
 | .tup vs,x=>(match x with
  | .ref a=>(match K.lookup a with
   | some o=>(match o.data with
    | .seq items n=>o.cls==.type "tuple"&&o.dict.isNone&&o.slots.isEmpty&&decide (vs.length≤maxLen)&&vsB fa K vs items.toList
    | _=>false)
   | none=>false)
  | _=>false)
 | .fn k,x=>(match x with
  | .ref a=>fa k==a
  | _=>false)
 | .bi b,x=>(match x with
  | .builtin i=>b.id==i
  | _=>false)
 | .ty t,x=>(match x with
  | .type n=>t.nm==n
  | _=>false)
 | _,_=>false
noncomputable def vsB (fa:Nat→Addr) (K:Frag):List V→List Value→Bool
 | [],xs=>xs.isEmpty
 | v :: vs,xs=>(match xs with
  | []=>false
  | x :: xs=>vB fa K v x&&vsB fa K vs xs)
end
theorem tup_obj {fa:Nat→Addr} {K:Frag} {h:Heap} (X:K.In h) {vs:List V} {a:Addr} {o:Obj} (q:K.lookup a=some o) (go:∀ xs,vsB fa K vs xs=true→VRs fa h [] vs xs) (e:(match o.data with
    | .seq items n=>o.cls==.type "tuple"&&o.dict.isNone&&o.slots.isEmpty&&decide (vs.length≤maxLen)&&vsB fa K vs items.toList
    | _=>false)=true):VR fa h [] (.tup vs) (.ref a):=by
 obtain ⟨cl,di,da,sl⟩:=o
 cases da with
 | seq items n =>
  have e:(cl==.type "tuple"&&di.isNone&&sl.isEmpty&&decide (vs.length≤maxLen)&&vsB fa K vs items.toList)=true:=e
  rw [Bool.and_eq_true,Bool.and_eq_true,Bool.and_eq_true,Bool.and_eq_true,decide_eq_true_eq] at e
  refine x0_2 (e) fun hw_319 e4=>?_
  refine x0_2 (hw_319) fun hw_320 e3=>?_
  obtain ⟨⟨e1,e0⟩,e2⟩:=hw_320
  have h1:=X _ _ q
  rw [eq_of_beq e1,Option.isNone_iff_eq_none.mp e0,Array.isEmpty_iff.mp e2] at h1
  exact .tup h1 (go _ e4) e3
 | _=>exact noT e
mutual
theorem vB_ok {fa:Nat→Addr} {K:Frag} {h:Heap} (X:K.In h):∀ (v:V) (x:Value),vB fa K v x=true→VR fa h [] v x
 | .none,x,e=>by exact noT e
 | .bool b,x,e=>by exact noT e
 | .ref i,x,e=>by exact noT e
 | .rng ..,x,e=>by exact noT e
 | .int i,x,e=>by
  cases x with
  | int j t=>rw [eq_of_beq (show (i==j)=true from e)]; exact .int _ _
  | _=>exact noT e
 | .str s,x,e=>by
  cases x with
  | str p t =>
   refine x0_2 (Bool.and_eq_true_iff.mp (show (p.cps.toList==s&&decide (s.length≤maxLen))=true from e)) fun e1 e2=>?_
   exact .str _ (eq_of_beq e1) (of_decide_eq_true e2)
  | _=>exact noT e
 | .bytes s,x,e=>by
  cases x with
  | bytes p t =>
   refine x0_2 (Bool.and_eq_true_iff.mp (show (p.toList.map UInt8.toNat==s&&decide (s.length≤maxLen))=true from e)) fun e1 e2=>?_
   exact .bytes _ (eq_of_beq e1) (of_decide_eq_true e2)
  | _=>exact noT e
 | .tup vs,x,e=>by
  cases x with
  | ref a =>
   cases q:K.lookup a with
   | none =>
    have e:(match K.lookup a with
     | some o=>(match o.data with
      | .seq items n=>o.cls==.type "tuple"&&o.dict.isNone&&o.slots.isEmpty&&decide (vs.length≤maxLen)&&vsB fa K vs items.toList
      | _=>false)
     | none=>false)=true:=e
    rw [q] at e; exact noT e
   | some o =>
    have e:(match K.lookup a with
     | some o=>(match o.data with
      | .seq items n=>o.cls==.type "tuple"&&o.dict.isNone&&o.slots.isEmpty&&decide (vs.length≤maxLen)&&vsB fa K vs items.toList
      | _=>false)
     | none=>false)=true:=e
    rw [q] at e
    exact tup_obj X q (fun xs=>vsB_ok X vs xs) e
  | _=>exact noT e
 | .fn k,x,e=>by
  cases x with
  | ref a=>rw [← eq_of_beq (show (fa k==a)=true from e)]; exact .fn _
  | _=>exact noT e
 | .bi b,x,e=>by
  cases x with
  | builtin a=>rw [← eq_of_beq (show (b.id==a)=true from e)]; exact .bi _
  | _=>exact noT e
 | .ty t,x,e=>by
  cases x with
  | type a=>rw [← eq_of_beq (show (t.nm==a)=true from e)]; exact .ty _
  | _=>exact noT e
theorem vsB_ok {fa:Nat→Addr} {K:Frag} {h:Heap} (X:K.In h):∀ (vs:List V) (xs:List Value),vsB fa K vs xs=true→VRs fa h [] vs xs
 | [],xs,e=>by rw [List.isEmpty_iff.mp e]; exact .nil
 | v :: vs,xs,e=>by
  cases xs with
  | nil=>exact noT e
  | cons x xs =>
   refine x0_2 (Bool.and_eq_true_iff.mp (show (vB fa K v x&&vsB fa K vs xs)=true from e)) fun e1 e2=>?_
   exact .cons (vB_ok X v x e1) (vsB_ok X vs xs e2)
end
end Mine
namespace Mine
open PySem PySem.W
noncomputable def mgOf (K:Frag):Str→Option Value:=match K.lookup mainGlobals with
 | some ⟨_,_,.dict es _,_⟩=>fun x=>nsFind es x
 | _=>fun ζ=>none
noncomputable def lexBase (K:Frag) (C:Addr) (rd ln:Nat) (gt:List Str):LexB :=
 { C,rd,p1:=lamP ln,p2:=defP ln,q1:=lexQ++".<locals>."++"<lambda>",q2:=lexQ++".<locals>."++nS "_law_give",gv:=fun cl cd ct=>fdX (nS "_law_give") (lexQ++".<locals>."++nS "_law_give") (giveArgs ln) (.stmts (toSL gt giveTb (giveIR ln))) giveScope cl ((mgOf K "__name__").getD .none) cd ct }
noncomputable def baseOf (prog:Program) (w:World) (s₁:Shared) (K:Frag) (mb:Str→Option Value) (fa:Nat→Addr) (C tab:Addr) (rd ln:Nat) (gt:List Str):Base :=
 { lx:=lexBase K C rd ln gt,prog,w,h0:=s₁.heap,os:=s₁.os,fa,tab,gA:=mainGlobals,bA:=builtinsNs,mg:=mgOf K,mb }
noncomputable def grB (fa:Nat→Addr) (K:Frag) (gt:List Str) (G:Nat→Option V):Bool:=(List.range gt.length).all fun g=>match G g with
 | none=>true
 | some v=>match mgOf K (nmOf gt g) with
  | some x=>vB fa K v x
  | none=>!(nmOf gt g==("__name__":Str))&&(match bootBuiltins (nmOf gt g) with
   | some x=>vB fa K v x
   | none=>false)
noncomputable def headB (K:Frag) (c P:Addr):Bool:=match K.lookup c with
 | some ⟨cl,_,.fields vs,_⟩=>cl==.type "code"&&(vs[11]?==some (.ref P))&&(vs.getD 11 .none==.ref P)&&(match vs.getD 18 .none with | .str _ _=>true | _=>false) &&
  (match vs.getD 7 .none with | .int _ _=>true | _=>false)&&(match vs.getD 9 .none with | .bool _=>true | _=>false)&&(match vs.getD 10 .none with | .int _ _=>true | _=>false)&&!(c==P)
 | _=>false
set_option tactic.hygienic true in
theorem head_ok {K:Frag} {h:Heap} (X:K.In h) {c P:Addr} (e:headB K c P=true):CodeHd h c P:=by
 unfold headB at e
 split at e
 ·rename_i cl d vs sl q
  simp only [Bool.and_eq_true] at e
  refine x0_2 (e) fun hw_321 e8=>?_
  refine x0_2 (hw_321) fun hw_322 e7=>?_
  refine x0_2 (hw_322) fun hw_323 e6=>?_
  refine x0_2 (hw_323) fun hw_324 e5=>?_
  refine x0_2 (hw_324) fun hw_325 e4=>?_
  obtain ⟨⟨e1,e2⟩,e3⟩:=hw_325
  split at e4
  ·rename_i file tf h4
   split at e5
   ·rename_i fl tg h5
    split at e6
    ·rename_i b h6
     split at e7
     ·rename_i tx tt h7
      exact ⟨_,vs,file,tf,fl,tg,b,tx,tt,X _ _ q,eq_of_beq e1,rfl,eq_of_beq e2,eq_of_beq e3,h4,h5,h6,h7,by simpa using e8⟩
     ·exact noT e7
    ·exact noT e6
   ·exact noT e5
  ·exact noT e4
 ·exact noT e
noncomputable def lexNm:List Str:=["__getattribute__","__getattr__",At.lineno.nm,At.whitespace.nm,At.pushback.nm,Str.ofString "instream",Me.get_token.nm,Me.push_token.nm,Me.read_char.nm,"__setattr__","__init__"]
noncomputable abbrev Bd:Type:=Value→Value→Value→Value→Sem (List (Str × Value))
section
variable (T:Tab) (fa:Nat→Addr) (C tab lA iA c bm Tp aw:Addr) (ln lm n ba b2 N:Nat) (pp qq:Pos) (dd:List Expr)
noncomputable def lexFd:List (Option (Option Value)):=[some (some (.builtin "object.__getattribute__")),some none,some none,some none,some none,some none,some (some (.ref (fa (T.me .get_token)))),some (some (.ref (fa (T.me .push_token)))),some (some (.ref (fa (T.me .read_char)))),
 some (some (.builtin "object.__setattr__")),some (some (.ref iA))]
noncomputable def lexAs:List Value:=[.ref (fa (T.me .get_token)),.ref (fa (T.me .push_token)),.ref (fa (T.me .read_char)),.ref iA]
noncomputable def fnT:Option Value:=some (.type "function")
noncomputable def obsB (K KC:Frag):Bool:=grB fa K T.gt T.G&&((clsIn KC C).any (·.hasDict)&&(plainOver KC C&&(isFnB K lA&&(envB (fdOf K lA)&&((fdOf K lA).qualname==lexQ&&(headB K c tab&&(codeB K c lexQ&&(isFnB K iA&&(envB (fdOf K iA)&&(codeQ K (fdOf K iA).code (fdOf K iA).qualname &&
 (makesIn KC C&&(keepIn KC (.ref C)&&(List.range n).all fun k=>(T.fns k).all fun f=>fnB K T (fa k) f))))))))))))
noncomputable def argK (k:Nat) (f:Fn) (a b c d:Value):Args:=if T.kws k kwNm then ⟨[a],[(kwNm,b)]⟩ else ⟨upTo f.np a b c d,[]⟩
noncomputable def valK (k:Nat) (f:Fn) (a b c d:Value):List Value:=if T.kws k kwNm then [a,b] else upTo f.np a b c d
noncomputable def obsA (K:Frag) (k:Nat):Option Bd:=(T.fns k).bind fun f=>if (T.pad k).isEmpty then some fun a b c d=>bindArgs (fdOf K (fa k)) (argK T k f a b c d) else none
noncomputable def expA (k:Nat):Option Bd:=(T.fns k).bind fun f=>if (T.pad k).isEmpty then some fun a b c d=>pure (f.names.zip (valK T k f a b c d)) else none
noncomputable def obsL (K:Frag) (a:Addr):FuncBody × Scope × (Value→Value→Sem (List (Str × Value))):=((fdOf K a).body,(fdOf K a).scope,fun x y=>bindArgs (fdOf K a) ⟨[x,y],[]⟩)
noncomputable abbrev Ob:Type:=Bool × List (Option (Option Value)) × List (Option Value) × List (Option Value) × List (Option Obj) × List (Option FuncBody) × List (Option Bd) × List (FuncBody × Scope × (Value→Value→Sem (List (Str × Value)))) × Arguments
noncomputable def obsK (K KC:Frag):Ob :=
 (obsB T fa C tab lA iA c n K KC,lexNm.map (findIn KC (.ref C)),(lexAs T fa iA).map (typeIn KC),[mgOf K "_netrclex",mgOf K "__builtins__",some (fdOf K lA).code,some (fdOf K (fa ba)).defaults,mgOf K "law"],[K.lookup bm,K.lookup tab,K.lookup Tp],
  (List.range n).map (fun k=>(T.fns k).map fun ζ=>(fdOf K (fa k)).body),(List.range n).map (obsA T fa K),[obsL K lA,obsL K iA],(fdOf K (fa ba)).params)
noncomputable def expK:Ob :=
 (true,lexFd T fa iA,[fnT,fnT,fnT,fnT],[some (.ref C),some (.ref bm),some (.ref c),some (.ref Tp),some (.ref aw)],[some { cls:=.type "module",dict:=some builtinsNs,data:=.plain },some { cls:=.none,data:=.fields #[] },some tup1],
  (List.range n).map (fun k=>(T.fns k).map fun f=>.stmts (toSL T.gt f.tb f.body)),(List.range n).map (expA T),
  [(.stmts (lexBody T.gt ln),lexScope,fun x y=>pure [(nS "text",x),(nS "at",y)]),(.stmts (initBody lm),initScope,fun x y=>pure [(nS "self",x),(nS "fp",y)])],P64 pp qq dd)
structure Stat:Prop where
 gr:∀ g,T.gt.length≤g→T.G g=none
 g0:T.G 0=some (.bi .len)
 lx:fa T.lx=lA
 bmn:bm≠builtinsNs∧bm≠mainGlobals∧bm≠tab∧tab≠mainGlobals∧tab≠cStatics
 give:giveB T.gt T.kws T.G (giveFn ln) giveScope=true
 kw:∀ k nm,T.kws k nm=(k==b2&&nm==kwNm)
 kwm:∀ m,T.me m≠b2
 kwl:T.lx≠b2
 pad:∀ k,T.pad k=if k=ba then [.none] else []
 ab:ba≠b2
 fns:∀ k f,T.fns k=some f→k < n∧f.np≤4∧(k=ba→f.names=n64∧f.np=2)∧(k=b2→f.np=2)
end
section
variable {prog:Program} {w:World} {s₁:Shared} {K KC:Frag} {mg mb:Str→Option Value} {fa:Nat→Addr} {T:Tab} {C tab lA iA c bm Tp aw:Addr} {ln lm n ba b2:Nat} {pp qq:Pos} {dd:List Expr}
set_option tactic.hygienic true in
theorem mg_is {h:Heap} (X:K.In h) (hg:h.Ns mainGlobals mg) (e:(mgOf K "__builtins__").isSome=true):h.Ns mainGlobals (mgOf K):=by
 unfold mgOf at e ⊢
 split at e
 ·rename_i c d es n sl q
  refine x3_4 hg fun o es' ep e1 e2 e3 e4=>?_
  have:=X _ _ q
  rw [e1] at this
  cases this
  cases e2
  exact ⟨_,es,n,e1,rfl,e3,fun _=>rfl⟩
 ·exact noT e
theorem ns_one {h:Heap} {a:Addr} {m m':Str→Option Value} (h1:h.Ns a m) (h2:h.Ns a m') (x:Str):m x=m' x:=by
 refine x3_4 h1 fun o es n e1 e2 ζ e4=>?_
 refine x3_4 h2 fun o' es' n' f1 f2 ζ f4=>?_
 rw [e1] at f1
 cases f1
 rw [e2] at f2
 cases f2
 rw [← e4,← f4]
theorem map_at {α:Type} {f g:Nat→α} {n:Nat} (e:(List.range n).map f=(List.range n).map g) {k:Nat} (h:k < n):f k=g k:=List.map_inj_left.mp e k (List.mem_range.mpr h)
theorem fns_of (X:K.In s₁.heap) (S:Stat T fa tab lA bm ln n ba b2) (e1:((List.range n).all fun k=>(T.fns k).all fun f=>fnB K T (fa k) f)=true)
  (e2:(List.range n).map (fun k=>(T.fns k).map fun ζ=>(fdOf K (fa k)).body)=(List.range n).map (fun k=>(T.fns k).map fun f=>.stmts (toSL T.gt f.tb f.body))) (e3:(List.range n).map (obsA T fa K)=(List.range n).map (expA T))
  (e4:(fdOf K (fa ba)).defaults=.ref Tp) (e5:K.lookup Tp=some tup1) (e6:(fdOf K (fa ba)).params=P64 pp qq dd) (k:Nat) (f:Fn) (ef:T.fns k=some f):∃ fd,FnK (baseOf prog w s₁ K mb fa C tab (T.me .read_char) ln T.gt) T k f fd:=by
 refine x0_4 (S.fns k f ef) fun hn np h1 h2=>?_
 have b:=map_at e2 hn
 rw [ef] at b
 have fb:=List.all_eq_true.mp e1 k (List.mem_range.mpr hn)
 rw [ef] at fb
 have a:=map_at e3 hn
 unfold obsA expA at a
 rw [ef] at a
 have a:=a
 by_cases hk:k=b2
 ·have hp:(T.pad k).isEmpty=true:=by rw [S.pad,if_neg (fun z=>S.ab (z.symm.trans hk))]; rfl
  have kt:T.kws k kwNm=true:=by rw [S.kw,hk]; simp
  have a:(if (T.pad k).isEmpty then some fun a b c d=>bindArgs (fdOf K (fa k)) (argK T k f a b c d) else none)=(if (T.pad k).isEmpty then some fun a b c d=>pure (f.names.zip (valK T k f a b c d)) else none):=a
  rw [if_pos hp,if_pos hp] at a
  refine fnK_key1 X rfl rfl fb (Option.some.inj b) (fun nm=>by rw [S.kw,hk]; simp) (h2 hk) (funext fun x=>funext fun y=>?_)
  have:=congrFun (congrFun (congrFun (congrFun (Option.some.inj a) x) y) x) x
  unfold argK valK at this
  rw [if_pos kt,if_pos kt] at this
  exact this
 ·have kf:∀ nm,T.kws k nm=false:=fun nm=>by rw [S.kw,beq_false_of_ne hk]; rfl
  by_cases hb:k=ba
  ·refine fnK_none1 X rfl rfl fb (Option.some.inj b) (by rw [S.pad,if_pos hb]) kf (h1 hb).1 (h1 hb).2 (Tp:=Tp) ?_ e5 (p:=pp) (q:=qq) (d:=dd) ?_
   ·rw [hb]; exact e4
   ·rw [hb]; exact e6
  ·have hp:T.pad k=[]:=by rw [S.pad,if_neg hb]
   have a:(if (T.pad k).isEmpty then some fun a b c d=>bindArgs (fdOf K (fa k)) (argK T k f a b c d) else none)=(if (T.pad k).isEmpty then some fun a b c d=>pure (f.names.zip (valK T k f a b c d)) else none):=a
   rw [hp] at a
   refine fnK_plain X rfl rfl fb (Option.some.inj b) hp kf np (funext fun x=>funext fun y=>funext fun z=>funext fun u=>?_)
   have:=congrFun (congrFun (congrFun (congrFun (Option.some.inj a) x) y) z) u
   unfold argK valK at this
   rw [if_neg (by rw [kf]; decide),if_neg (by rw [kf]; decide)] at this
   exact this
set_option tactic.hygienic true in
theorem tabOk_of (X:K.In s₁.heap) (XC:∀ a o,KC.lookup a=some o→s₁.heap.get? a=some o∧o.cls≠.none) (hg:s₁.heap.Ns mainGlobals mg) (hb:s₁.heap.Ns builtinsNs mb) (hbi:∀ x:Str,x≠"__name__"→mb x=bootBuiltins x) (S:Stat T fa tab lA bm ln n ba b2)
  (y:obsK T fa C tab lA iA c bm Tp n ba K KC=expK T fa C iA c bm Tp aw ln lm n pp qq dd):TabOk (baseOf prog w s₁ K mb fa C tab (T.me .read_char) ln T.gt) T∧K.lookup tab=some { cls:=.none,data:=.fields #[] }∧mg "law"=some (.ref aw):=by
 unfold obsK expK at y
 refine Prod.mk.inj y |>.elim fun yB y=>?_
 refine Prod.mk.inj y |>.elim fun yF y=>?_
 refine Prod.mk.inj y |>.elim fun yT y=>?_
 refine Prod.mk.inj y |>.elim fun yM y=>?_
 refine Prod.mk.inj y |>.elim fun yO y=>?_
 refine Prod.mk.inj y |>.elim fun yD y=>?_
 refine Prod.mk.inj y |>.elim fun yA y=>?_
 refine Prod.mk.inj y |>.elim fun yL yP=>?_
 unfold obsB at yB
 simp only [Bool.and_eq_true] at yB
 have F:∀ i,(lexNm.map (findIn KC (.ref C))).getD i none=(lexFd T fa iA).getD i none:=fun i=>by rw [yF]
 have Ty:∀ i,((lexAs T fa iA).map (typeIn KC)).getD i none=[fnT,fnT,fnT,fnT].getD i none:=fun i=>by rw [yT]
 clear yF yT
 refine List.cons.inj yM |>.elim fun m1 yM=>?_
 refine List.cons.inj yM |>.elim fun m2 yM=>?_
 refine List.cons.inj yM |>.elim fun m3 yM=>?_
 refine List.cons.inj yM |>.elim fun m4 yM=>?_
 refine List.cons.inj yM |>.elim fun m5 yM=>?_
 clear yM
 refine List.cons.inj yO |>.elim fun o1 yO=>?_
 refine List.cons.inj yO |>.elim fun o2 yO=>?_
 refine List.cons.inj yO |>.elim fun o3 yO=>?_
 clear yO
 refine List.cons.inj yL |>.elim fun lL yL=>?_
 refine List.cons.inj yL |>.elim fun iL yL=>?_
 clear yL
 have mi:=mg_is X hg (by rw [m2]; rfl)
 refine ⟨?_,o2,(ns_one hg mi _).trans m5⟩
 have XC':KC.In s₁.heap:=fun a o e=>(XC a o e).1
 have OL:LexOK (baseOf prog w s₁ K mb fa C tab (T.me .read_char) ln T.gt) KC T.me :=
  ⟨XC',fun a o e=>(XC a o e).2,F 0,F 1,yB.2.1,F 2,F 3,F 4,F 5,F 6,F 7,F 8,Ty 0,Ty 1,Ty 2,rfl,F 9,yB.2.2.1⟩
 refine x1_3 (fnB_at X yB.2.2.2.1) fun lo l1 l2 l3=>?_
 refine x1_3 (fnB_at X yB.2.2.2.2.2.2.2.2.1) fun io i1 i2 i3=>?_
 refine x0_3 (env_is yB.2.2.2.2.1) fun l5 l6 l7=>?_
 refine x0_3 (env_is yB.2.2.2.2.2.2.2.2.2.1) fun i5 i6 i7=>?_
 refine x0_5 (S.bmn) fun n1 n2 n3 n4 n5=>?_
 have hd:=head_ok X yB.2.2.2.2.2.2.1
 have MP:MakeP (baseOf prog w s₁ K mb fa C tab (T.me .read_char) ln T.gt) KC T.me T.gt ln lm ((baseOf prog w s₁ K mb fa C tab (T.me .read_char) ln T.gt).fa T.lx) iA c bm:=by
  refine ⟨rfl,rfl,rfl,rfl,rfl,rfl,fun _ _ _=>rfl,⟨lo,fdOf K lA,?_,l2,l3,congrArg (·.1) lL,congrArg (·.2.1) lL,l5,l6,l7,eq_of_beq yB.2.2.2.2.2.1,Option.some.inj m3,fun x y=>congrFun (congrFun (congrArg (·.2.2) lL) x) y⟩,hd,code_at X yB.2.2.2.2.2.2.2.1,
   ⟨io,fdOf K iA,i1,i2,i3,congrArg (·.1) iL,congrArg (·.2.1) iL,i5,i6,i7,fun x y=>congrFun (congrFun (congrArg (·.2.2) iL) x) y,code_of X yB.2.2.2.2.2.2.2.2.2.2.1⟩,
   yB.2.2.2.2.2.2.2.2.2.2.2.1,yB.2.2.2.2.2.2.2.2.2.2.2.2.1,F 10,Ty 3,m1,⟨m2,n1,n2,n3⟩,⟨_,X _ _ o1,rfl,rfl,rfl⟩,⟨X _ _ o2,?_⟩,fun z=>n4 z.symm⟩
  ·show s₁.heap.get? (fa T.lx)=_
   rw [S.lx]; exact l1
  ·refine x9_5 hd fun o vs _ _ _ _ _ _ _ q1 q2 q3 q4 _=>?_
   exact ⟨c,o,vs,q1,q2,q3,q4⟩
 refine ⟨⟨mi,hb,(by show mainGlobals≠cStatics; decide),(by show builtinsNs≠cStatics; decide)⟩,fun g v hgv=>?_,fun k f e _=>fns_of X S yB.2.2.2.2.2.2.2.2.2.2.2.2.2 yD yA (Option.some.inj m4) o3 yP k f e,
  ⟨KC,ln,lm,iA,c,bm,OL,MP,giveFn ln,giveScope,⟨fun _ _ _=>rfl,fun _ _ _=>rfl,fun _ _ _=>rfl,fun _ _ _=>rfl,fun _ _ _=>rfl,fun _ _ _=>rfl,fun _ _ _=>rfl,fun _ _ _ _=>rfl,S.give,give_ev S.g0 ln⟩⟩,
  fun nm=>by rw [S.kw,beq_false_of_ne S.kwl]; rfl,fun m=>by rw [S.kw,beq_false_of_ne (S.kwm m)]; rfl,fun k nm e=>?_⟩
 ·by_cases hlt:g < T.gt.length
  ·have:=List.all_eq_true.mp yB.1 g (List.mem_range.mpr hlt)
   rw [hgv] at this
   dsimp only at this
   split at this
   ·rename_i x q
    exact ⟨x,.inl q,vB_ok X _ _ this⟩
   ·rename_i q
    rw [Bool.and_eq_true,Bool.not_eq_true'] at this
    refine x0_2 this fun t1 t2=>?_
    split at t2
    ·rename_i x q2
     refine ⟨x,.inr ⟨q,?_⟩,vB_ok X _ _ t2⟩
     show mb _=_
     rw [hbi _ (fun z=>by rw [z] at t1; simp at t1),q2]
    ·exact noT t2
  ·rw [S.gr g (Nat.le_of_not_lt hlt)] at hgv; exact noS hgv
 ·rw [S.kw,Bool.and_eq_true] at e
  rw [S.pad,if_neg (fun z=>S.ab (z.symm.trans (eq_of_beq e.1)))]
end
end Mine
namespace Mine
open PySem PySem.W PyProof.Rows
noncomputable def SCI:Nat:=100
theorem vrs_ints {fa:Nat→Addr} {h:Heap} {F:Lay}:∀ {vs:List Value} {ns:List Int},IntsAre vs ns→VRs fa h F (ns.map .int) vs
 | _,_,.nil=>.nil
 | _,_,.cons n t r=>.cons (.int n t) (vrs_ints r)
section
variable {prog:Program} {w:World} {s₁:Shared} {K:Frag} {mb:Str→Option Value} {fa:Nat→Addr} {T:Tab} {C tab:Addr} {rd ln:Nat}
theorem law_call (O:TabOk (baseOf prog w s₁ K mb fa C tab rd ln T.gt) T) (hlim:s₁.heap.NoLimit) (hg:s₁.gens=#[]) (htab:s₁.heap.get? tab=some (tabObj #[])) (htc:tab≠cStatics)
  {sa:Addr} {vs:List Value} {ns:List Int} {m:Nat} (hsc:s₁.heap.get? sa=some { cls:=.type "list",data:=.seq vs.toArray m }) (hi:IntsAre vs ns) (hl:ns.length≤63) (hfa:fa SCI=sa)
  {n law:Nat} {lawA:Addr} (hfl:fa law=lawA) (hkw:T.kws law kwNm=false) (hn:n≤20) (ev:∃ σ',phi T n law [.fn SCI] [.scr SCI ns]=some (.bool true,σ'))
  {Q:Value→Shared→Prop} {E:Value→Shared→Prop} (hq:∀ s',OldK s₁.heap s'.heap→s'.os=s₁.os→s'.gens=#[]→Q (.bool true) s') :
  wpAny (model prog w) callerA (call (.ref lawA) [.ref sa]) Q E s₁:=by
 refine x1_1 (ev) ?_
 (try clear ev)
 intro σ' ev
 have R:Room callerA n:=by
  refine ⟨rfl,?_,?_⟩
  ·show (1+claimMargin)+n≤800
   have:claimMargin≤700:=by decide
   (first | lia | omega)
  ·show 4+10*n+100≤9900
   (first | lia | omega)
 have K':=kit_of O n callerA R
 have I:Inv (baseOf prog w s₁ K mb fa C tab rd ln T.gt) [[]] [.scr SCI ns] s₁:=by
  refine ⟨OldK.refl _,hlim,hg,rfl,rfl,fun i o as eo e=>?_,by simp,fun a ha=>by simp at ha,.inl htab,⟨_,htab⟩,htc,?_,_,_,rfl⟩
  ·cases i with
   | succ i=>exact noS eo
   | zero =>
    apply s1 eo; apply s1 e
    refine ⟨nofun,Nat.le_trans hl (by decide),vs.toArray,⟨m,?_⟩,by simpa using vrs_ints hi⟩
    show s₁.heap.get? (fa SCI)=_
    rw [hfa]; exact hsc
  ·refine x1_2 (hlim) fun mc hw_326 q=>?_
   refine x3_2 (hw_326) fun o es ep eo r=>?_
   exact ⟨o,eo⟩
 have r1:VRs (baseOf prog w s₁ K mb fa C tab rd ln T.gt).fa s₁.heap [[]] [.fn SCI] [.ref sa]:=by
  rw [← hfa]; exact .one (.fn SCI)
 have c:=K'.phi callerA (.refl _) [[]] _ s₁ law [.fn SCI] [.ref sa] _ _ hkw I r1 ev
 have hfl':(baseOf prog w s₁ K mb fa C tab rd ln T.gt).fa law=lawA:=hfl
 rw [hfl'] at c
 refine wpAny_mono (call_retR (B:=baseOf prog w s₁ K mb fa C tab rd ln T.gt) c) (fun v s' z=>?_) fun ζ ζ z=>z.elim
 refine x1_3 (z) fun G T' I' r'=>?_
 generalize hb:V.bool true=bv at r'
 cases hb
 cases r'
 exact hq s' I'.old I'.os I'.gens
end
noncomputable def hasCls (o:Obj):Bool:=!(o.cls==.none)
section
variable {prog:Program} {w:World} {s₀ s₁:Shared} {mg mb:Str→Option Value} {fa:Nat→Addr} {T:Tab} {C tab lA iA c bm Tp lawA:Addr} {ln lm n ba b2 N:Nat} {pp qq:Pos} {dd:List Expr}
theorem law_of (hg:s₁.heap.Ns mainGlobals mg) (hb:s₁.heap.Ns builtinsNs mb) (hbi:∀ x:Str,x≠"__name__"→mb x=bootBuiltins x) (hlim:s₁.heap.NoLimit) (hgens:s₁.gens=#[]) (kp:∀ b o,s₀.heap.get? b=some o→s₁.heap.get? b=some o) (S:Stat T fa tab lA bm ln n ba b2)
  (y:obsK T fa C tab lA iA c bm Tp n ba (frag s₀.heap (fun ζ=>true) (List.range N)) (frag s₀.heap hasCls (List.range N))=expK T fa C iA c bm Tp lawA ln lm n pp qq dd)
  {sa:Addr} {vs:List Value} {ns:List Int} {m:Nat} (hsc:s₁.heap.get? sa=some { cls:=.type "list",data:=.seq vs.toArray m }) (hi:IntsAre vs ns) (hl:ns.length≤63) (hfa:fa SCI=sa)
  {k law:Nat} {lawB:Addr} (hm:mg "law"=some (.ref lawB)) (hfl:fa law=lawA) (hlw:law≠b2) (hn:k≤20) (ev:∃ σ',phi T k law [.fn SCI] [.scr SCI ns]=some (.bool true,σ'))
  {Q:Value→Shared→Prop} {E:Value→Shared→Prop} (hq:∀ s',OldK s₁.heap s'.heap→s'.os=s₁.os→s'.gens=#[]→Q (.bool true) s') :
  wpAny (model prog w) callerA (call (.ref lawB) [.ref sa]) Q E s₁:=by
 have X:(frag s₀.heap (fun ζ=>true) (List.range N)).In s₁.heap:=fun a o e=>kp a o (frag_get e).1
 have O:=tabOk_of (prog:=prog) (w:=w) X (fun a o e=>⟨kp a o (frag_get e).1,fun z=>by have:=(frag_get e).2; unfold hasCls at this; rw [z] at this; simp at this⟩) hg hb hbi S y
 rw [O.2.2] at hm
 cases hm
 exact law_call O.1 hlim hgens (X _ _ O.2.1) S.bmn.2.2.2.2 hsc hi hl hfa hfl (by rw [S.kw,beq_false_of_ne hlw]; rfl) hn ev hq
end
end Mine
namespace Mine
open PySem
section
variable {Φ:Calls} {Λ:Lexer} {G:Nat→Option V} {loc loc':Loc} {σ σ1 σ2 σ3 σ4:Sto} {p q q1 q2 q3:Pos} {a b d e:E} {es:EL} {v x y z w:V} {vs:List V} {r:V × Sto} {c c':Bool}
theorem bnd {α β:Type} {o:Option α} {x:α} {f:α→Option β} {r:Option β} (h:o=some x) (h':f x=r):o.bind f=r:=by rw [h]; exact h'
theorem mpd {α β:Type} {o:Option α} {x:α} {f:α→β} (h:o=some x):o.map f=some (f x):=by rw [h]; rfl
theorem r_bin {op:Operator} (ha:evM Φ Λ G a false loc σ=some (x,σ1)) (hb:evM Φ Λ G b false loc σ1=some (y,σ2)) (ho:binop op x y σ2=some r):evM Φ Λ G (.bin op a b p) false loc σ=some r:=bnd ha (bnd hb ho)
theorem r_cmp {op:CmpOp} (ha:evM Φ Λ G a false loc σ=some (x,σ1)) (hb:evM Φ Λ G b false loc σ1=some (y,σ2)) (ho:cmpop op x y σ2=some c):evM Φ Λ G (.cmp op a b p) false loc σ=some (.bool c,σ2):=bnd ha (bnd hb (mpd ho))
theorem r_neg {i:Int} (ha:evM Φ Λ G a false loc σ=some (.int i,σ1)):evM Φ Λ G (.neg a p) false loc σ=some (.int (-i),σ1):=bnd ha rfl
theorem r_nil:evEL Φ Λ G .nil loc σ=some ([],σ):=rfl
theorem r_cons (he:evM Φ Λ G e false loc σ=some (x,σ1)) (hs:evEL Φ Λ G es loc σ1=some (vs,σ2)):evEL Φ Λ G (.cons e es) loc σ=some (x :: vs,σ2):=bnd he (mpd hs)
theorem r_one (he:evM Φ Λ G e false loc σ=some (x,σ1)):evEL Φ Λ G (.cons e .nil) loc σ=some ([x],σ1):=r_cons he r_nil
theorem r_two (ha:evM Φ Λ G a false loc σ=some (x,σ1)) (hb:evM Φ Λ G b false loc σ1=some (y,σ2)):evEL Φ Λ G (.cons a (.cons b .nil)) loc σ=some ([x,y],σ2):=r_cons ha (r_one hb)
theorem r_list {k:Bool} (hs:evEL Φ Λ G es loc σ=some (vs,σ1)) (hl:vs.length≤maxLen):evM Φ Λ G (.list k es p) false loc σ=some (newL k vs σ1):=bnd hs (if_pos hl)
theorem r_tup (hs:evEL Φ Λ G es loc σ=some (vs,σ1)):evM Φ Λ G (.tup es p) false loc σ=some (.tup vs,σ1):=mpd hs
theorem r_sub (ha:evM Φ Λ G a false loc σ=some (x,σ1)) (hb:evM Φ Λ G b false loc σ1=some (y,σ2)) (ho:subV x y σ2=some v):evM Φ Λ G (.sub a b p) false loc σ=some (v,σ2):=bnd ha (bnd hb (mpd ho))
theorem r_slice {lo hi st:OE} (ha:evM Φ Λ G a false loc σ=some (x,σ1)) (hl:evO Φ Λ G lo loc σ1=some (y,σ2)) (hh:evO Φ Λ G hi loc σ2=some (z,σ3)) (ht:evO Φ Λ G st loc σ3=some (w,σ4)) (ho:sliceV x y z w σ4=some r):evM Φ Λ G (.slice a lo hi st q p) false loc σ=some r:=bnd ha (bnd hl (bnd hh (bnd ht ho)))
theorem r_fn {g k:Nat} (hg:G g=some (.fn k)) (hs:evEL Φ Λ G es loc σ=some (vs,σ1)) (h:Φ k vs σ1=some r):evM Φ Λ G (.call g q es p) false loc σ=some r:=bnd hg (bnd hs h)
theorem r_bi {g:Nat} {k:Bi} (hg:G g=some (.bi k)) (hs:evEL Φ Λ G es loc σ=some (vs,σ1)) (h:callB k vs σ1=some r):evM Φ Λ G (.call g q es p) false loc σ=some r:=bnd hg (bnd hs h)
theorem r_ty {g:Nat} {k:Ty} (hg:G g=some (.ty k)) (hs:evEL Φ Λ G es loc σ=some (vs,σ1)) (h:callT k vs σ1=some r):evM Φ Λ G (.call g q es p) false loc σ=some r:=bnd hg (bnd hs h)
theorem r_kw {g k:Nat} {nm:Str} (hg:G g=some (.fn k)) (hs:evEL Φ Λ G es loc σ=some (vs,σ1)) (he:evM Φ Λ G e false loc σ1=some (w,σ2)) (h:Φ k (vs++[w]) σ2=some r):evM Φ Λ G (.callkw g q1 es nm e q p) false loc σ=some r:=bnd hg (bnd hs (bnd he h))
theorem r_meth {m:Me} {k:Nat} (ho:evM Φ Λ G a false loc σ=some (x,σ1)) (hk:recv σ1 x=some k) (hs:evEL Φ Λ G es loc σ1=some (vs,σ2)) (h:methR Λ m x k vs σ2=some r):evM Φ Λ G (.meth a m es q p) false loc σ=some r:=bnd ho (bnd hk (bnd hs h))
theorem r_attr {t:At} (ho:evM Φ Λ G a false loc σ=some (x,σ1)) (h:attrV t σ1 x=some v):evM Φ Λ G (.attr a t p) false loc σ=some (v,σ1):=bnd ho (mpd h)
theorem r_ife (ht:evT Φ Λ G a loc σ=some (c,σ1)) (h:(if c then evM Φ Λ G b false loc σ1 else evM Φ Λ G d false loc σ1)=some r):evM Φ Λ G (.ife a b d p) false loc σ=some r:=bnd ht h
theorem t_of (hf:evM Φ Λ G e true loc σ=fin true (evM Φ Λ G e false loc σ)) (h:evM Φ Λ G e false loc σ=some (v,σ1)) (ht:truth σ1 v=some c):evT Φ Λ G e loc σ=some (c,σ1):=by
 show asB (evM Φ Λ G e true loc σ)=_
 rw [hf,h]
 show asB ((truth σ1 v).map _)=_
 rw [ht]; rfl
theorem t_cmp {op:CmpOp} (ha:evM Φ Λ G a false loc σ=some (x,σ1)) (hb:evM Φ Λ G b false loc σ1=some (y,σ2)) (ho:cmpop op x y σ2=some c):evT Φ Λ G (.cmp op a b p) loc σ=some (c,σ2):=t_of rfl (r_cmp ha hb ho) rfl
theorem b_next {op:BoolOp} (h:evT Φ Λ G e loc σ=some (c,σ1)) (hc:((op==.And)=c)=True) {R:Option (Bool × Sto)} (h':evB Φ Λ G op es loc σ1=R):evB Φ Λ G op (.cons e es) loc σ=R:=bnd h ((if_pos (of_eq_true hc)).trans h')
theorem b_stop {op:BoolOp} (h:evT Φ Λ G e loc σ=some (c,σ1)) (hc:((op==.And)=c)=False):evB Φ Λ G op (.cons e es) loc σ=some (c,σ1):=bnd h (if_neg (of_eq_false hc))
theorem t_bool {op:BoolOp} (h:evB Φ Λ G op es loc σ=some (c,σ1)):evT Φ Λ G (.boolop op es p) loc σ=some (c,σ1):=by
 show asB ((evB Φ Λ G op es loc σ).map fun r=>(V.bool r.1,r.2))=_
 rw [h]; rfl
variable {t:Tg} {s:S} {rs A B:SL} {R:Option (Fl × Loc × Sto)} {fl:Fl}
theorem s_assign (he:evM Φ Λ G e false loc σ=some (v,σ1)) (hb:bindT t v loc σ1=some loc'):evS Φ Λ G (.assign t e p) loc σ=some (.next,loc',σ1):=bnd he (mpd hb)
theorem s_put (he:evM Φ Λ G e false loc σ=some (v,σ1)) (ha:evM Φ Λ G a false loc σ1=some (x,σ2)) (hb:evM Φ Λ G b false loc σ2=some (y,σ3)) (h:setV x y v σ3=some σ4):evS Φ Λ G (.assignSub a b q e p) loc σ=some (.next,loc,σ4):=bnd he (bnd ha (bnd hb (mpd h)))
theorem s_aug {op:Operator} {i:Nat} (hv:loc[i]?=some (some x)) (he:evM Φ Λ G e false loc σ=some (v,σ1)) (h:augop op x v σ1=some r):evS Φ Λ G (.aug i q op e p) loc σ=some (.next,loc.set i (some r.1),r.2):=bnd hv (bnd rfl (bnd he (mpd h)))
theorem s_augSub {op:Operator} {old:V} (ha:evM Φ Λ G a false loc σ=some (x,σ1)) (hb:evM Φ Λ G b false loc σ1=some (y,σ2)) (ho:subV x y σ2=some old) (he:evM Φ Λ G e false loc σ2=some (v,σ3)) (hv:augop op old v σ3=some r) (h:setV x y r.1 r.2=some σ4):evS Φ Λ G (.augSub a b q op e p) loc σ=some (.next,loc,σ4) :=
 bnd ha (bnd hb (bnd ho (bnd he (bnd hv (mpd h)))))
theorem s_expr (he:evM Φ Λ G e false loc σ=some (v,σ1)):evS Φ Λ G (.expr e p) loc σ=some (.next,loc,σ1):=mpd he
theorem s_ret (he:evM Φ Λ G e false loc σ=some (v,σ1)):evS Φ Λ G (.ret e p) loc σ=some (.ret v,loc,σ1):=mpd he
theorem s_cond (ht:evT Φ Λ G e loc σ=some (c,σ1)) (h:(if c then evSL Φ Λ G A loc σ1 else evSL Φ Λ G B loc σ1)=R):evS Φ Λ G (.cond e A B p) loc σ=R:=bnd ht h
theorem s_yes (ht:evT Φ Λ G e loc σ=some (true,σ1)) (h:evSL Φ Λ G A loc σ1=R):evS Φ Λ G (.cond e A B p) loc σ=R:=s_cond ht h
theorem s_no (ht:evT Φ Λ G e loc σ=some (false,σ1)) (h:evSL Φ Λ G B loc σ1=R):evS Φ Λ G (.cond e A B p) loc σ=R:=s_cond ht h
theorem l_cons (h:evS Φ Λ G s loc σ=some (.next,loc',σ1)) (h':evSL Φ Λ G rs loc' σ1=R):evSL Φ Λ G (.cons s rs) loc σ=R:=bnd h h'
theorem l_one (h:evS Φ Λ G s loc σ=some (fl,loc',σ1)):evSL Φ Λ G (.cons s .nil) loc σ=some (fl,loc',σ1):=bnd h (by cases fl <;> rfl)
theorem l_stop (h:evS Φ Λ G s loc σ=some (fl,loc',σ1)) (hf:seqF (fun loc σ=>evSL Φ Λ G rs loc σ) (fl,loc',σ1)=some (fl,loc',σ1)):evSL Φ Λ G (.cons s rs) loc σ=some (fl,loc',σ1):=bnd h hf
noncomputable def over {α:Type} (step:V→α→Sto→Option (Bool × α × Sto)):List V→α→Sto→Option (Bool × α × Sto)
 | [],a,σ=>some (true,a,σ)
 | v :: vs,a,σ=>(step v a σ).bind fun y=>if y.1 then over step vs y.2.1 y.2.2 else some y
variable {α:Type} {step:V→α→Sto→Option (Bool × α × Sto)}
theorem over_cons {u u':α} {Q:Option (Bool × α × Sto)} (h:step v u σ=some (true,u',σ1)) (h':over step vs u' σ1=Q):over step (v :: vs) u σ=Q:=bnd h h'
theorem over_stop {u u':α} (h:step v u σ=some (false,u',σ1)):over step (v :: vs) u σ=some (false,u',σ1):=bnd h rfl
theorem iter_over:∀ (n k:Nat) (vs:List V) (u:α) (σ:Sto),vs.length=k+n→iterate step (.items vs) n k u σ=over step (vs.drop k) u σ
 | 0,k,vs,u,σ,h=>by
  have h:vs.length≤k:=Nat.le_of_eq h
  rw [List.drop_eq_nil_of_le h]
  refine bnd (x:=none) ?_ rfl
  show some vs[k]?=_
  rw [List.getElem?_eq_none h]
 | n+1,k,vs,u,σ,h=>by
  have hk:k < vs.length:=by rw [h]; (first | lia | omega)
  rw [List.drop_eq_getElem_cons hk]
  refine bnd (x:=some vs[k]) ?_ ?_
  ·show some vs[k]?=_
   rw [List.getElem?_eq_getElem hk]
  ·show ((step vs[k] u σ).bind fun y=>if y.1 then iterate step (.items vs) n (k+1) y.2.1 y.2.2 else some y)=(step vs[k] u σ).bind fun y=>if y.1 then over step (vs.drop (k+1)) y.2.1 y.2.2 else some y
   congr 1
   funext y
   rw [iter_over n (k+1) vs y.2.1 y.2.2 (by rw [h]; (first | lia | omega))]
theorem iter_all {u:α}:iterate step (.items vs) vs.length 0 u σ=over step vs u σ:=(iter_over vs.length 0 vs u σ (Nat.zero_add _).symm).trans (by rw [List.drop_zero])
variable {clr:List Nat} {it:E}
theorem s_loop {y:Bool × (Fl × Loc) × Sto} (hi:evM Φ Λ G it false loc σ=some (x,σ1)) (hit:iterOf σ1 x=some (.items vs,vs.length)) (ho:over (loopStep Φ Λ G clr t A) vs (.next,loc) σ1=some y) (h:endF (fun loc σ=>evSL Φ Λ G B loc σ) y=R):evS Φ Λ G (.loop clr t it A B p) loc σ=R :=
 es_loop.trans (bnd hi (bnd hit (bnd (iter_all.trans ho) h)))
theorem u_turn {l1:Loc} (hb:bindT t v loc σ=some l1) (hs:evSL Φ Λ G A l1 σ=some (fl,loc',σ1)):loopStep Φ Λ G clr t A v (.next,loc) σ=some (turn clr (fl,loc',σ1)):=bnd hb (mpd hs)
theorem u_next {l1 l2:Loc} (hb:bindT t v loc σ=some l1) (hs:evSL Φ Λ G A l1 σ=some (.next,loc',σ1)) (hc:clear clr loc'=l2):loopStep Φ Λ G clr t A v (.next,loc) σ=some (true,(.next,l2),σ1):=(u_turn hb hs).trans (by rw [← hc]; rfl)
theorem u_cont {l1 l2:Loc} (hb:bindT t v loc σ=some l1) (hs:evSL Φ Λ G A l1 σ=some (.cont,loc',σ1)) (hc:clear clr loc'=l2):loopStep Φ Λ G clr t A v (.next,loc) σ=some (true,(.next,l2),σ1):=(u_turn hb hs).trans (by rw [← hc]; rfl)
theorem u_brk {l1:Loc} (hb:bindT t v loc σ=some l1) (hs:evSL Φ Λ G A l1 σ=some (.brk,loc',σ1)):loopStep Φ Λ G clr t A v (.next,loc) σ=some (false,(.next,loc'),σ1):=u_turn hb hs
theorem u_ret {l1:Loc} (hb:bindT t v loc σ=some l1) (hs:evSL Φ Λ G A l1 σ=some (.ret w,loc',σ1)):loopStep Φ Λ G clr t A v (.next,loc) σ=some (false,(.ret w,loc'),σ1):=u_turn hb hs
variable {lc:Loc} {ifs:EL} {cs:CS} {k:Bool} {cl:CL}
theorem r_comp {y:Bool × List V × Sto} (hi:evM Φ Λ G it false (clear (cs.own.map (·.1)) loc) σ=some (x,σ1)) (hit:iterOf σ1 x=some (.items vs,vs.length))
  (ho:over (compStep t (clear (cs.own.map (·.1)) loc) (fun loc σ=>evIfs Φ Λ G ifs loc σ) (evC Φ Λ G cl fun loc σ acc=>(evM Φ Λ G e false loc σ).bind fun v=>if acc.length < maxLen then some (acc++[v.1],v.2) else none)) vs [] σ1=some y):evM Φ Λ G (.comp k e t it ifs cl cs p) false loc σ=some (newL k y.2.1 y.2.2) :=
 ev_comp.trans ((bnd hi (bnd hit (mpd (iter_all.trans ho)))))
theorem u_add {acc:List V} {l1:Loc} (hb:bindT t v lc σ=some l1) (he:evM Φ Λ G e false l1 σ=some (w,σ1)) (hl:acc.length < maxLen) :
  compStep t lc (fun loc σ=>evIfs Φ Λ G .nil loc σ) (evC Φ Λ G .nil fun loc σ acc=>(evM Φ Λ G e false loc σ).bind fun v=>if acc.length < maxLen then some (acc++[v.1],v.2) else none) v acc σ=some (true,acc++[w],σ1):=by
 refine bnd hb (bnd (x:=(true,σ)) rfl ?_)
 show ((evM Φ Λ G e false l1 σ).bind _).map _=_
 rw [he]
 exact mpd (if_pos hl)
theorem u_if {acc:List V} {l1:Loc} (hb:bindT t v lc σ=some l1) (ht:evT Φ Λ G a l1 σ=some (c,σ)) (he:c=true→evM Φ Λ G e false l1 σ=some (w,σ)) (hl:acc.length < maxLen) :
  compStep t lc (fun loc σ=>evIfs Φ Λ G (.cons a .nil) loc σ) (evC Φ Λ G .nil fun loc σ acc=>(evM Φ Λ G e false loc σ).bind fun v=>if acc.length < maxLen then some (acc++[v.1],v.2) else none) v acc σ=some (true,if c then acc++[w] else acc,σ):=by
 refine bnd hb ?_
 cases c with
 | false=>exact bnd (x:=(false,σ)) (bnd ht rfl) rfl
 | true =>
  refine bnd (x:=(true,σ)) (bnd ht rfl) ?_
  show ((evM Φ Λ G e false l1 σ).bind _).map _=_
  rw [he rfl]
  exact mpd (if_pos hl)
theorem over_add {β:Type} {cstep:V→List V→Sto→Option (Bool × List V × Sto)} {f:β→V} {g:β→List V} (hg:∀ x,(g x).length≤1):∀ {xs:List β} {acc:List V},acc.length+xs.length≤maxLen→(∀ x∈xs,∀ acc:List V,acc.length < maxLen→cstep (f x) acc σ=some (true,acc++g x,σ)) →
  over cstep (xs.map f) acc σ=some (true,acc++(xs.map g).flatten,σ)
 | [],acc,_,_=>by rw [List.map_nil,List.map_nil,List.flatten_nil,List.append_nil]; rfl
 | x :: xs,acc,hl,h=>by
  rw [List.length_cons] at hl
  have:=hg x
  refine over_cons (h x (.head _) acc (by (first | lia | omega))) ?_
  rw [over_add hg (by rw [List.length_append]; (first | lia | omega)) fun y hy=>h y (.tail _ hy),List.append_assoc]
  rfl
theorem map_one {β:Type} {g:β→V}:∀ xs:List β,(xs.map fun x=>[g x]).flatten=xs.map g
 | []=>rfl
 | x :: xs=>congrArg (g x :: ·) (map_one xs)
theorem r_map {β:Type} {f:β→V} {g:β→V} {xs:List β} (hi:evM Φ Λ G it false (clear (cs.own.map (·.1)) loc) σ=some (x,σ)) (hit:iterOf σ x=some (.items (xs.map f),(xs.map f).length)) (hl:xs.length≤maxLen)
  (h:∀ x∈xs,∃ l,bindT t (f x) (clear (cs.own.map (·.1)) loc) σ=some l∧evM Φ Λ G e false l σ=some (g x,σ)):evM Φ Λ G (.comp k e t it .nil .nil cs p) false loc σ=some (newL k (xs.map g) σ) :=
 (r_comp hi hit (over_add (g:=fun x=>[g x]) (fun ζ=>Nat.le_refl _) (acc:=[]) (by rw [List.length_nil,Nat.zero_add]; exact hl) fun x hx acc ha=>(h x hx).elim fun ζ hh=>u_add hh.1 hh.2 ha)).trans (by rw [map_one]; rfl)
theorem map_if {β:Type} {g:β→V} {c:β→Bool}:∀ xs:List β,(xs.map fun x=>if c x then [g x] else []).flatten=(xs.filter c).map g
 | []=>rfl
 | x :: xs=>by
  rw [List.filter_cons,List.map_cons,List.flatten_cons,map_if xs]
  cases c x <;> rfl
theorem take_self {n:Nat} (h:σ.length=n):σ.take n=σ:=List.take_of_length_le (Nat.le_of_eq h)
theorem leave_same {fz:Bool} {n:Nat} (h:σ.length=n) (hv:v.low n=true):leave fz n v σ=(v,σ):=by
 unfold leave
 rw [if_pos hv,take_self h]
 split <;> rfl
noncomputable abbrev Low (σ:Sto):Prop:=stoLow σ.length σ=true
theorem leave_on {fz:Bool} {n:Nat} {τ:Sto} (hn:σ.length=n) (h:Low σ):leave fz n v (σ++τ)=if v.low n then (v,σ) else ((refV v).bind fun i=>((σ++τ)[i]?).bind fun o=>if o.low n then some (hand fz n (σ++τ) o) else none).getD (v,σ++τ):=by
 subst hn
 unfold leave
 rw [List.take_left,if_pos]
 unfold Low at h
 rw [h,List.length_append,decide_eq_true (Nat.le_add_right ..)]; rfl
theorem leave_cut {fz:Bool} {n:Nat} {τ:Sto} (hn:σ.length=n) (h:Low σ) (hv:v.low n=true):leave fz n v (σ++τ)=(v,σ):=(leave_on hn h).trans (if_pos hv)
theorem get_at {k:Nat} {τ:Sto}:(σ++τ)[σ.length+k]?=τ[k]?:=by
 rw [List.getElem?_append_right (Nat.le_add_right ..),Nat.add_sub_cancel_left]
theorem leave_list {n k:Nat} {τ:Sto} {xs:List V} (hn:σ.length=n) (h:Low σ) (hk:τ[k]?=some (.list xs)) (hx:lowL n xs=true):leave true n (.ref (n+k)) (σ++τ)=(.lst xs,σ):=by
 have e:V.low n (.ref (n+k))=false:=decide_eq_false (Nat.not_lt.mpr (Nat.le_add_right ..))
 rw [leave_on hn h,e,if_neg (by decide)]
 subst hn
 show (((σ++τ)[σ.length+k]?).bind _).getD _=_
 rw [get_at,hk]
 show (if lowL σ.length xs=true then some (V.lst xs,(σ++τ).take σ.length) else none).getD _=_
 rw [if_pos hx,List.take_left]; rfl
theorem f_call {T:Tab} {k n:Nat} {f:Fn} {as:List V} (hk:(k==T.lx)=false) (hf:T.fns k=some f) (ha:as.length=f.np) (hb:evSL (phi T n) (lamN T n) T.G f.body (as.map some++List.replicate (f.n - as.length) none) σ=some (fl,loc',σ1)) {v:V} (hv:retV fl=some v)
  {r:V × Sto} (h:leave f.fz σ.length v σ1=r):phi T (n+1) k as σ=some r:=by
 show (if k=T.lx then _ else _)=_
 rw [if_neg (ne_of_beq_false hk)]
 exact bnd hf (bnd (x:=as) (if_pos ha) (bnd hb ((mpd hv).trans (congrArg some h))))
end
end Mine
namespace Mine
open PySem
noncomputable def SL.get:SL→Nat→S
 | .cons s _,0=>s
 | .cons _ r,k+1=>r.get k
 | .nil,_=>.raw default
noncomputable def S.a:S→SL
 | .cond _ a _ _=>a
 | .whil _ _ _ a _=>a
 | .loop _ _ _ a _ _=>a
 | .enum _ _ _ _ _ _ a _ _ _=>a
 | .fitr _ _ _ _ a _ _=>a
 | _=>.nil
noncomputable def S.b:S→SL
 | .cond _ _ b _=>b
 | _=>.nil
noncomputable def S.t:S→Tg
 | .loop _ t _ _ _ _=>t
 | .enum _ is tp _ _ _ _ _ _ _=>.tup is tp
 | .fitr _ i tp _ _ _ _=>.name i tp
 | _=>.tup [] default
section
variable {Φ:Calls} {Λ:Lexer} {G:Nat→Option V} {loc loc':Loc} {σ σ1:Sto} {p q q1 q2 q3:Pos} {e it:E} {v x:V} {vs xs:List V} {n i:Nat} {clr:List Nat} {is:List (Nat × Pos)} {A B:SL} {R:Option (Fl × Loc × Sto)}
theorem enum_len:(enumItems xs).length=xs.length:=by unfold enumItems; rw [List.length_map,List.length_zipIdx]
theorem s_enum {g:Nat} {y:Bool × (Fl × Loc) × Sto} (hg:G g=some (.ty .enumerate)) (hi:evM Φ Λ G it false loc σ=some (.tup xs,σ1)) (ho:over (loopStep Φ Λ G clr (.tup is q1) A) (enumItems xs) (.next,loc) σ1=some y) (h:endF (fun loc σ=>evSL Φ Λ G B loc σ) y=R):evS Φ Λ G (.enum clr is q1 g q2 it A B q p) loc σ=R :=
 es_enum.trans (bnd hg (bnd hi (bnd rfl (bnd ((iter_over xs.length 0 _ _ _ (enum_len.trans (Nat.zero_add _).symm)).trans ho) h))))
theorem over_find {α β:Type} {step:V→α→Sto→Option (Bool × α × Sto)} {f:β→V} {p:β→Bool} {a:α} {g:β→α × Sto} (h1:∀ x,p x=true→step (f x) a σ=some (false,g x)) (h0:∀ x,p x=false→step (f x) a σ=some (true,a,σ)):∀ xs:List β,over step (xs.map f) a σ=some (match xs.find? p with
  | some x=>(false,g x)
  | none=>(true,a,σ))
 | []=>rfl
 | x :: xs=>by
  rw [List.find?_cons]
  cases h:p x with
  | true=>exact over_stop (h1 x h)
  | false=>exact over_cons (h0 x h) (over_find h1 h0 xs)
theorem vlist_at (hn:σ.length=n):vlist (σ++[.list xs]) n=some xs:=by
 subst hn
 show (match (σ++[O.list xs])[σ.length]? with
  | some (.list xs)=>some xs
  | _=>none)=_
 rw [List.getElem?_append_right (Nat.le_refl _),Nat.sub_self]; rfl
theorem set_at (hn:σ.length=n) {o o':O}:(σ++[o]).set n o'=σ++[o']:=by
 subst hn
 rw [List.set_append_right _ _ (Nat.le_refl _),Nat.sub_self]; rfl
set_option tactic.hygienic true in
theorem recv_c (h:vlist σ n=some xs):recv σ (.ref n)=some 1:=by
 unfold vlist at h
 show (match σ[n]? with
  | some (.list _)=>some 1
  | some (.lex ..)=>some 2
  | _=>none)=_
 split at h
 ·rename_i q; rw [q]
 ·cases h
theorem s_append (hv:loc[i]?=some (some (.ref n))) (he:evM Φ Λ G e false loc σ=some (v,σ)) (h:vlist σ n=some xs) (hl:xs.length < maxLen):evS Φ Λ G (.expr (.meth (.var i q1) .append (.cons e .nil) q2 q3) p) loc σ=some (.next,loc,σ.set n (.list (xs++[v]))) :=
 s_expr (r_meth (x:=.ref n) (bnd hv rfl) (recv_c h) (r_one he) (bnd h (if_pos hl)))
theorem s_push (hv:loc[i]?=some (some (.ref n))) (hn:σ.length=n) (he:evM Φ Λ G e false loc (σ++[.list xs])=some (v,σ++[.list xs])) (hl:xs.length < maxLen):evS Φ Λ G (.expr (.meth (.var i q1) .append (.cons e .nil) q2 q3) p) loc (σ++[.list xs])=some (.next,loc,σ++[.list (xs++[v])]) :=
 (s_append hv he (vlist_at hn) hl).trans (by rw [set_at hn])
theorem q_int {x y:Int} {b:Bool} (h:(x==y)=b):cmpop .Eq (.int x) (.int y) σ=some b:=congrArg some h
theorem q_str {x y:List Nat} {b:Bool} (h:(x==y)=b):cmpop .Eq (.str x) (.str y) σ=some b:=congrArg some h
noncomputable def nts (l:List Nat):List V:=l.map fun c=>.int (c:Nat)
noncomputable def zts (l:List Int):List V:=l.map .int
noncomputable def chrs (l:List Nat):List V:=l.map fun c=>.str [c]
theorem lowL_map {β:Type} {f:β→V} (h:∀ x,(f x).low n=true):∀ {l:List β},lowL n (l.map f)=true
 | []=>rfl
 | x :: _=>Bool.and_eq_true_iff.mpr ⟨h x,lowL_map h⟩
theorem strsOf_map {β:Type} {f:β→List Nat}:∀ {l:List β},strsOf (l.map fun x=>V.str (f x))=some (l.map f)
 | []=>rfl
 | x :: l=>(congrArg (Option.map (f x :: ·)) (strsOf_map (f:=f) (l:=l))).trans rfl
theorem joinL_nil:∀ {l:List (List Nat)},joinL [] l=l.flatten
 | []=>rfl
 | [x]=>(List.append_nil x).symm
 | x :: y :: r=>by
  show x++[]++joinL [] (y :: r)=x++(y :: r).flatten
  rw [joinL_nil,List.append_nil]
theorem flatten_one:∀ {l:List Nat},(l.map fun c=>[c]).flatten=l
 | []=>rfl
 | c :: _=>congrArg (c :: ·) flatten_one
theorem j_chrs {l:List Nat} (h:lsV σ v=some (chrs l)) (hl:l.length≤maxLen):methR Λ .join (.str []) 0 [v] σ=some (.str l,σ):=by
 refine bnd h (bnd strsOf_map ?_)
 rw [joinL_nil,flatten_one]
 exact if_pos hl
theorem j_cell {l:List Nat} (h:vlist σ i=some (chrs l)) (hl:l.length≤maxLen):methR Λ .join (.str []) 0 [.ref i] σ=some (.str l,σ):=j_chrs (v:=.ref i) h hl
end
end Mine
namespace Mine
open PySem
theorem bAnd (a b:Nat):Builtin.bitAnd (a:Int) (b:Int)=((a &&& b:Nat):Int):=by
 unfold Builtin.bitAnd
 rw [decide_eq_true (Int.natCast_nonneg a),decide_eq_true (Int.natCast_nonneg b)]
 rfl
theorem bOr (a b:Nat):Builtin.bitOr (a:Int) (b:Int)=((a ||| b:Nat):Int):=by
 unfold Builtin.bitOr
 have h:Builtin.bitAnd (Builtin.bitNot a) (Builtin.bitNot b)=Builtin.bitNot ((a ||| b:Nat):Int):=by
  have h (x:Nat):decide ((0:Int)≤Builtin.bitNot x)=false∧(Builtin.bitNot (Builtin.bitNot x)).toNat=x:=by
   rw [decide_eq_false_iff_not]; unfold Builtin.bitNot; (first | lia | omega)
  unfold Builtin.bitAnd
  rw [(h a).1,(h b).1]
  show Builtin.bitNot _=_
  rw [(h a).2,(h b).2]
 rw [h]
 unfold Builtin.bitNot
 (first | lia | omega)
theorem fdivN (a b:Nat):(a:Int).fdiv b=((a / b:Nat):Int):=Int.fdiv_eq_ediv_of_nonneg _ (Int.natCast_nonneg b)
theorem fmodN (a b:Nat):(a:Int).fmod b=((a % b:Nat):Int):=Int.fmod_eq_emod_of_nonneg _ (Int.natCast_nonneg b)
theorem cpow (a:Nat):∀ k:Nat,((a ^ k:Nat):Int)=(a:Int) ^ k
 | 0=>rfl
 | k+1=>by rw [Nat.pow_succ,Int.pow_succ,Int.natCast_mul,cpow a k]
section
variable {σ:Sto} {x y z:Int} {a b:Nat}
theorem iv {i:Int} (h:x=i):some (V.int x,σ)=some (V.int i,σ):=h▸rfl
theorem o_and:binop .BitAnd (.int (a:Nat)) (.int (b:Nat)) σ=some (.int ((a &&& b:Nat):Int),σ):=iv (bAnd a b)
theorem o_or:binop .BitOr (.int (a:Nat)) (.int (b:Nat)) σ=some (.int ((a ||| b:Nat):Int),σ):=iv (bOr a b)
theorem o_if {c:Bool} {r:Option (V × Sto)} {i:Int} (hc:c=true) (h:x=i):orO (if c then some (V.int x,σ) else none) r=some (.int i,σ):=by rw [hc,h]; rfl
theorem o_mul (hy:small y=true) (h:x*y=z):binop .Mult (.int x) (.int y) σ=some (.int z,σ):=o_if hy h
theorem smallN (h:a < 18446744073709551616):small (a:Int)=true:=decide_eq_true h
theorem o_mulN {c:Nat} (hb:b < 18446744073709551616) (h:a*b=c):binop .Mult (.int (a:Nat)) (.int (b:Nat)) σ=some (.int (c:Nat),σ):=o_mul (smallN hb) (by rw [← h,Int.natCast_mul])
theorem o_div (hy:(y=0||!small y)=false) (h:x.fdiv y=z):binop .FloorDiv (.int x) (.int y) σ=some (.int z,σ):=by
 show orO (if (y=0||!small y)=true then none else some (V.int (x.fdiv y),σ)) _=_
 rw [hy,h]; rfl
theorem o_divN {c:Nat} (hy:((b:Int)=0||!small b)=false) (h:a / b=c):binop .FloorDiv (.int (a:Nat)) (.int (b:Nat)) σ=some (.int (c:Nat),σ):=o_div hy (by rw [fdivN,h])
theorem o_mod (hy:y≠0) (h:x.fmod y=z):binop .Mod (.int x) (.int y) σ=some (.int z,σ):=by
 show orO (if y=0 then none else some (V.int (x.fmod y),σ)) _=_
 rw [if_neg hy,h]; rfl
theorem o_modN {c:Nat} (hy:b≠0) (h:a % b=c):binop .Mod (.int (a:Nat)) (.int (b:Nat)) σ=some (.int (c:Nat),σ):=o_mod (by (first | lia | omega)) (by rw [fmodN,h])
theorem o_pow (hx:small x=true) (hb:b≤1000) (h:x ^ b=z):binop .Pow (.int x) (.int (b:Nat)) σ=some (.int z,σ):=o_if (by rw [hx,decide_eq_true (Int.natCast_nonneg b),decide_eq_true (by (first | lia | omega))]; rfl) h
theorem o_shl {c:Nat} (ha:a < 18446744073709551616) (hb:b≤1000) (h:a*2 ^ b=c):binop .LShift (.int (a:Nat)) (.int (b:Nat)) σ=some (.int (c:Nat),σ) :=
 o_if (by rw [smallN ha,decide_eq_true (Int.natCast_nonneg b),decide_eq_true (by (first | lia | omega))]; rfl) (by rw [← h,Int.natCast_mul,cpow]; rfl)
theorem o_shr {c:Nat} (h:a / 2 ^ b=c):binop .RShift (.int (a:Nat)) (.int (b:Nat)) σ=some (.int (c:Nat),σ):=by
 show orO (if (0:Int)≤b then some (V.int ((a:Int).fdiv (2 ^ (b:Int).toNat)),σ) else none) _=_
 rw [if_pos (Int.natCast_nonneg b),← h,← fdivN,cpow]; rfl
theorem o_str {s t:List Nat} (h:(s++t).length≤maxLen):binop .Add (.str s) (.str t) σ=some (.str (s++t),σ):=by
 show orO (mkStr (s++t) σ) _=_
 rw [show mkStr (s++t) σ=some (.str (s++t),σ) from if_pos h]; rfl
theorem o_is {s t:Ty} {c:Bool} (h:(s.nm==t.nm)=c):cmpop .Is (.ty s) (.ty t) σ=some c:=congrArg some h
section
variable {Φ:Calls} {Λ:Lexer} {G:Nat→Option V} {loc:Loc} {σ1:Sto} {p:Pos} {es:EL} {vs:List V}
theorem r_lst (hs:evEL Φ Λ G es loc σ=some (vs,σ1)) (hl:vs.length≤maxLen):evM Φ Λ G (.list false es p) false loc σ=some (.lst vs,σ1):=r_list hs hl
theorem r_cell (hs:evEL Φ Λ G es loc σ=some (vs,σ1)) (hl:vs.length≤maxLen):evM Φ Λ G (.list true es p) false loc σ=some (.ref σ1.length,σ1++[.list vs]):=r_list hs hl
theorem r_mapl {t:Tg} {it e:E} {x:V} {cs:CS} {β:Type} {f g:β→V} {xs:List β} (hi:evM Φ Λ G it false (clear (cs.own.map (·.1)) loc) σ=some (x,σ)) (hit:iterOf σ x=some (.items (xs.map f),(xs.map f).length)) (hl:xs.length≤maxLen)
  (h:∀ x∈xs,∃ l,bindT t (f x) (clear (cs.own.map (·.1)) loc) σ=some l∧evM Φ Λ G e false l σ=some (g x,σ)):evM Φ Λ G (.comp false e t it .nil .nil cs p) false loc σ=some (.lst (xs.map g),σ):=r_map hi hit hl h
theorem r_compl {t:Tg} {it e:E} {x:V} {cs:CS} {ifs:EL} {cl:CL} {σ2:Sto} {vs ys:List V} {b:Bool} (hi:evM Φ Λ G it false (clear (cs.own.map (·.1)) loc) σ=some (x,σ1)) (hit:iterOf σ1 x=some (.items vs,vs.length))
  (ho:over (compStep t (clear (cs.own.map (·.1)) loc) (fun loc σ=>evIfs Φ Λ G ifs loc σ) (evC Φ Λ G cl fun loc σ acc=>(evM Φ Λ G e false loc σ).bind fun v=>if acc.length < maxLen then some (acc++[v.1],v.2) else none)) vs [] σ1=some (b,ys,σ2)):evM Φ Λ G (.comp false e t it ifs cl cs p) false loc σ=some (.lst ys,σ2):=r_comp hi hit ho
theorem r_var {i:Nat} {v:V} (h:loc[i]?=some (some v)):evM Φ Λ G (.var i p) false loc σ=some (v,σ):=bnd h rfl
theorem r_int {i:Int}:evM Φ Λ G (.cint i p) false loc σ=some (.int i,σ):=rfl
theorem r_str {s:List Nat}:evM Φ Λ G (.cstr s p) false loc σ=some (.str s,σ):=rfl
theorem r_at {i:Nat} {k:Int} {v w:V} {q1 q2:Pos} (h:loc[i]?=some (some v)) (hs:subV v (.int k) σ=some w):evM Φ Λ G (.sub (.var i q1) (.cint k q2) p) false loc σ=some (w,σ):=r_sub (r_var h) r_int hs
theorem e_some {e:E} {r:V × Sto} (h:evM Φ Λ G e false loc σ=some r):evO Φ Λ G (.some e) loc σ=some r:=h
theorem o_addN {v w:V} (hv:v=.int (a:Nat)) (hw:w=.int (b:Nat)):binop .Add v w σ=some (.int ((a+b:Nat):Int),σ):=hv▸hw▸rfl
end
theorem idx_nat {m k:Nat} (h:k < m):idx m (k:Int)=some k:=by
 unfold idx
 rw [if_pos (Int.natCast_nonneg _),if_pos (by (first | lia | omega))]; rfl
theorem pick_at {l:List V} {k:Nat} {v:V} (h:l[k]?=some v):pick l (k:Int)=some v:=by
 have hk:k < l.length:=by
  rcases Nat.lt_or_ge k l.length with h' | h'
  ·exact h'
  ·rw [List.getElem?_eq_none h'] at h; cases h
 unfold pick
 rw [idx_nat hk]; exact h
theorem f_run {T:Tab} {k n:Nat} {f:Fn} {as:List V} {l0 loc':Loc} {fl:Fl} {σ1:Sto} (hk:(k==T.lx)=false) (hf:T.fns k=some f) (ha:as.length=f.np) (h0:as.map some++List.replicate (f.n - as.length) none=l0) (hb:evSL (phi T n) (lamN T n) T.G f.body l0 σ=some (fl,loc',σ1)) {v:V} (hv:retV fl=some v)
  {r:V × Sto} (h:leave f.fz σ.length v σ1=r):phi T (n+1) k as σ=some r:=f_call hk hf ha (h0▸hb) hv h
theorem sub_lst {l:List V} {k:Nat} {v:V} (h:l[k]?=some v):subV (.lst l) (.int (k:Nat)) σ=some v:=(congrArg (orO · _) (pick_at h)).trans rfl
theorem get_map {β γ:Type} {g:β→γ} {d:β} {l:List β} {k:Nat} (h:k < l.length):(l.map g)[k]?=some (g (l.getD k d)):=by
 rw [List.getElem?_map,List.getD_eq_getElem?_getD,List.getElem?_eq_getElem h]; rfl
theorem j_strs {Λ:Lexer} {β:Type} {f:β→List Nat} {xs:List β} (h:(xs.map f).flatten.length≤maxLen):methR Λ .join (.str []) 0 [.lst (xs.map fun x=>.str (f x))] σ=some (.str (xs.map f).flatten,σ):=by
 show (strsOf (xs.map fun x=>V.str (f x))).bind (fun ss=>if (joinL [] ss).length≤maxLen then some (V.str (joinL [] ss),σ) else none)=_
 rw [strsOf_map]
 show (if (joinL [] (xs.map f)).length≤maxLen then some (V.str (joinL [] (xs.map f)),σ) else none)=_
 rw [joinL_nil,if_pos h]
theorem eqL_strs:∀ {l:List (List Nat)},eqL (l.map .str) (l.map .str)=some true
 | []=>rfl
 | x :: l=>by
  show (some (x==x)).bind (fun a=>(eqL (l.map .str) (l.map .str)).map fun b=>a&&b)=_
  rw [eqL_strs,beq_self_eq_true]; rfl
theorem f_pad {T:Tab} {k n:Nat} {f:Fn} {as as':List V} {loc':Loc} {fl:Fl} {σ1:Sto} (hk:(k==T.lx)=false) (hf:T.fns k=some f) (ha:padded T k f.np as=some as') (hb:evSL (phi T n) (lamN T n) T.G f.body (as'.map some++List.replicate (f.n - as'.length) none) σ=some (fl,loc',σ1)) {v:V} (hv:retV fl=some v)
  {r:V × Sto} (h:leave f.fz σ.length v σ1=r):phi T (n+1) k as σ=some r:=by
 show (if k=T.lx then _ else _)=_
 rw [if_neg (ne_of_beq_false hk)]
 exact bnd hf (bnd ha (bnd hb ((mpd hv).trans (congrArg some h))))
mutual
theorem vlow_up {n m:Nat} (h:n≤m):∀ {v:V},v.low n=true→v.low m=true
 | .ref _,e=>decide_eq_true (Nat.lt_of_lt_of_le (of_decide_eq_true e) h)
 | .tup _,e=>lowL_up h e
 | .lst _,e=>lowL_up h e
 | .none,_ | .bool _,_ | .int _,_ | .str _,_ | .bytes _,_ | .rng ..,_ | .fn _,_ | .bi _,_ | .ty _,_=>rfl
theorem lowL_up {n m:Nat} (h:n≤m):∀ {vs:List V},lowL n vs=true→lowL m vs=true
 | [],_=>rfl
 | _ :: _,e=>Bool.and_eq_true_iff.mpr ⟨vlow_up h (Bool.and_eq_true_iff.mp e).1,lowL_up h (Bool.and_eq_true_iff.mp e).2⟩
end
theorem olow_up {n m:Nat} (h:n≤m):∀ {o:O},o.low n=true→o.low m=true
 | .list _,e=>lowL_up h e
 | .lex ..,e=>Bool.and_eq_true_iff.mpr ⟨decide_eq_true (Nat.lt_of_lt_of_le (of_decide_eq_true (Bool.and_eq_true_iff.mp e).1) h),decide_eq_true (Nat.lt_of_lt_of_le (of_decide_eq_true (Bool.and_eq_true_iff.mp e).2) h)⟩
 | .cit ..,e=>decide_eq_true (Nat.lt_of_lt_of_le (of_decide_eq_true e) h)
 | .scr ..,_=>rfl
variable {Φ:Calls} {Λ:Lexer} {G:Nat→Option V} {loc l2:Loc} {p:Pos} {σ1 σ2:Sto} {n:Nat} {R:Option (Fl × Loc × Sto)} {t:E} {A:SL} {clr:List Nat} {fl:Fl}
noncomputable abbrev whl (Φ:Calls) (Λ:Lexer) (G:Nat→Option V) (t:E) (clr:List Nat) (A:SL) (n:Nat) (loc:Loc) (σ:Sto):Option (Fl × Loc × Sto):=whileN (fun loc σ=>evT Φ Λ G t loc σ) (fun loc σ=>(evSL Φ Λ G A loc σ).map (turn clr)) n loc σ
theorem w_stop (ht:evT Φ Λ G t loc σ=some (false,σ1)):whl Φ Λ G t clr A (n+1) loc σ=some (.next,loc,σ1):=bnd ht rfl
theorem w_turn {l3:Loc} (ht:evT Φ Λ G t loc σ=some (true,σ1)) (hb:evSL Φ Λ G A loc σ1=some (.next,l3,σ2)) (hc:clear clr l3=l2) (h:whl Φ Λ G t clr A n l2 σ2=R):whl Φ Λ G t clr A (n+1) loc σ=R:=by
 subst hc
 exact bnd ht (bnd (mpd hb) h)
theorem range_is:rangeL 0 (b:Int) 1=(List.range b).map fun i:Nat=>(i:Int):=by
 unfold rangeL
 have h:(Builtin.Range.rangeSize 0 (b:Int) 1).toNat=b:=by
  unfold Builtin.Range.rangeSize
  rw [if_pos (by decide)]
  split <;> (first | lia | omega)
 rw [h]
 refine List.map_congr_left fun i ζ=>?_
 rw [Int.mul_one,Int.zero_add]
theorem small_r (h:b≤1048576):smallR (b:Int)=true:=decide_eq_true h
theorem i_range (h:b≤1048576):iterOf σ (.rng 0 (b:Int) 1)=some (.items (nts (List.range b)),(nts (List.range b)).length):=by
 show (if (smallR 0&&smallR (b:Int)&&smallR 1&&(1:Int) != 0)=true then some (It.items ((rangeL 0 (b:Int) 1).map .int),(rangeL 0 (b:Int) 1).length) else none)=_
 rw [small_r h,if_pos (by decide),range_is,List.map_map,nts,List.length_map,List.length_map]; rfl
theorem c_range (h:b≤1048576):callT .range [.int (b:Int)] σ=some (.rng 0 b 1,σ):=by
 show (if smallR (b:Int)=true then some (V.rng 0 b 1) else none).map _=_
 rw [small_r h]; rfl
end
end Mine
namespace Mine
open PySem
section
variable {σ τ:Sto} {text:List Nat} {x pa pb k k':Nat} {l l':Int} {c:Nat} {r:List Nat}
noncomputable def put (text:List Nat) (x pa pb:Nat) (σ:Sto) (k:Nat) (line:Int):Sto:=(σ.set pa (.list [.int (k:Nat)])).set x (.lex text pa line pb)
structure Lx (x pa pb:Nat) (σ:Sto):Prop where
 low:Low σ
 hx:x < σ.length
 ha:pa < σ.length
 hb:pb < σ.length
 ne:pa≠x
 nb:pa≠pb
 nx:x≠pb
theorem put_len:(put text x pa pb σ k l).length=σ.length:=by unfold put; rw [List.length_set,List.length_set]
theorem set_app {i:Nat} {o:O} (h:i < σ.length):(σ++τ).set i o=σ.set i o++τ:=List.set_append_left _ _ h
theorem get_app {i:Nat} (h:i < σ.length):(σ++τ)[i]?=σ[i]?:=List.getElem?_append_left h
theorem get_x (L:Lx x pa pb σ):(put text x pa pb σ k l++τ)[x]?=some (.lex text pa l pb):=by
 rw [get_app (by rw [put_len]; exact L.hx),put,List.getElem?_set_self (by rw [List.length_set]; exact L.hx)]
theorem put_x (L:Lx x pa pb σ):lexI (put text x pa pb σ k l++τ) x=some (text,pa,l,pb):=by unfold lexI; rw [get_x L]; rfl
theorem put_a (L:Lx x pa pb σ):vlist (put text x pa pb σ k l++τ) pa=some [.int (k:Nat)]:=by
 unfold vlist
 rw [get_app (by rw [put_len]; exact L.ha),put,List.getElem?_set_ne L.ne.symm,List.getElem?_set_self L.ha]
theorem put_b (L:Lx x pa pb σ):vlist (put text x pa pb σ k l++τ) pb=vlist σ pb:=by
 unfold vlist
 rw [get_app (by rw [put_len]; exact L.hb),put,List.getElem?_set_ne L.nx,List.getElem?_set_ne L.nb]
theorem put_x0 (L:Lx x pa pb σ):lexI (put text x pa pb σ k l) x=some (text,pa,l,pb):=(congrArg (lexI · x) (List.append_nil _)).symm.trans (put_x L)
theorem put_b0 (L:Lx x pa pb σ):vlist (put text x pa pb σ k l) pb=vlist σ pb:=(congrArg (vlist · pb) (List.append_nil _)).symm.trans (put_b L)
theorem stoLow_set {m i:Nat} {o:O} (h:stoLow m σ=true) (ho:o.low m=true):stoLow m (σ.set i o)=true:=by
 unfold stoLow at *
 rw [List.all_eq_true] at *
 exact fun y hy=>(List.mem_or_eq_of_mem_set hy).elim (h y) fun e=>e▸ho
theorem put_low (L:Lx x pa pb σ):Low (put text x pa pb σ k l):=by
 unfold Low
 rw [put_len]
 exact stoLow_set (stoLow_set L.low rfl) (Bool.and_eq_true_iff.mpr ⟨decide_eq_true L.ha,decide_eq_true L.hb⟩)
theorem put_next (L:Lx x pa pb σ) {v:V} (hv:v=.int (k':Nat)):(put text x pa pb σ k l++τ).set pa (.list [v])=put text x pa pb σ k' l++τ:=by
 rw [set_app (by rw [put_len]; exact L.ha),hv]
 unfold put
 rw [List.set_comm _ _ L.ne.symm,List.set_set]
theorem put_line (L:Lx x pa pb σ):(put text x pa pb σ k l++τ).set x (.lex text pa l' pb)=put text x pa pb σ k l'++τ:=by
 rw [set_app (by rw [put_len]; exact L.hx)]
 unfold put
 rw [List.set_set]
theorem put_wait (L:Lx x pa pb σ) {o:O}:(put text x pa pb σ k l).set pb o=put text x pa pb (σ.set pb o) k l:=by
 unfold put
 rw [List.set_comm _ _ L.nb.symm,List.set_comm _ _ L.nx.symm]
theorem m_append {Λ:Lexer} {i:Nat} {v:V} {xs:List V} (h:vlist σ i=some xs) (hl:xs.length < maxLen):methR Λ .append (.ref i) 1 [v] σ=some (.none,σ.set i (.list (xs++[v]))):=bnd h (if_pos hl)
theorem m_pop {Λ:Lexer} {i:Nat} {v:V} {xs:List V} (h:vlist σ i=some (v :: xs)):methR Λ .pop (.ref i) 1 [.int 0] σ=some (v,σ.set i (.list xs)):=bnd h rfl
noncomputable def cnt (r:List Nat):Int:=((r.count 10:Nat):Int)
theorem cnt_10:cnt (10 :: r)=cnt r+1:=by unfold cnt; rw [List.count_cons_self]; rfl
theorem cnt_ne (h:c≠10):cnt (c :: r)=cnt r:=by unfold cnt; rw [List.count_cons_of_ne h]
noncomputable abbrev atR (text:List Nat) (x pa pb:Nat) (σ:Sto) (r:List Nat):Sto:=put text x pa pb σ (text.length - r.length) (1+cnt text - cnt r)
theorem suf_tail (h:c :: r <:+ text):r <:+ text:=List.IsSuffix.trans (List.suffix_cons c r) h
theorem suf_app:∀ {u:List Nat},u++r <:+ text→r <:+ text
 | [],h=>h
 | _ :: _,h=>suf_app (suf_tail h)
theorem read_cons (L:Lx x pa pb σ) (h:c :: r <:+ text):readC x (put text x pa pb σ (text.length - (c :: r).length) l++τ)=some (.str [c],put text x pa pb σ (text.length - r.length) l++τ):=by
 have hl:=h.length_le
 rw [List.length_cons] at hl
 have hd:text.drop (text.length - (c :: r).length)=c :: r:=(List.suffix_iff_eq_drop.mp h).symm
 have hk:text.length - (c :: r).length+1=text.length - r.length:=by rw [List.length_cons]; (first | lia | omega)
 have hp:pieceAt text ((text.length - (c :: r).length:Nat):Int)=[c]:=by
  unfold pieceAt cut
  rw [Int.toNat_natCast,Nat.min_eq_left (Nat.sub_le ..),hk,Nat.min_eq_left (Nat.sub_le ..),List.drop_take,hd,List.length_cons,show text.length - r.length - (text.length - (r.length+1))=1 by (first | lia | omega)]; rfl
 refine bnd (put_x L) (bnd (put_a L) ((if_pos (e:=none) (Int.natCast_nonneg (text.length - (c :: r).length))).trans ?_))
 show some (V.str (pieceAt text ((text.length - (c :: r).length:Nat):Int)),_)=_
 rw [hp,put_next L (congrArg V.int (show _=((text.length - r.length:Nat):Int) by rw [← hk]; rfl))]
theorem read_nil (L:Lx x pa pb σ):readC x (put text x pa pb σ text.length l++τ)=some (.str [],put text x pa pb σ text.length l++τ):=by
 have hp:pieceAt text (text.length:Int)=[]:=by
  unfold pieceAt cut
  rw [Int.toNat_natCast,Nat.min_self,Nat.min_eq_right (Nat.le_succ _),List.take_length,List.drop_length]
 refine bnd (put_x L) (bnd (put_a L) ((if_pos (e:=none) (Int.natCast_nonneg text.length)).trans ?_))
 show some (V.str (pieceAt text (text.length:Int)),_)=_
 rw [hp]
 exact congrArg (fun s=>some (V.str [],s)) (put_next L (congrArg V.int (Int.add_zero _)))
end
end Mine
namespace Mine
open PySem PySem.W
noncomputable abbrev PW:Program:=PySem.Challenge.pw_oy0095_02
noncomputable def bodyOf (p:Program) (n:String):List Stmt:=match p.main.body.find? (fun s=>match s with
  | .FunctionDef m ..=>m==nS n
  | _=>false) with
 | some (.FunctionDef _ _ b _ _ _ _ _ _ _)=>b
 | _=>[]
noncomputable def rawGo:List Nat→Stmt→Stmt
 | 0 :: i :: r,.If _ a _ _=>rawGo r (a.getD i (.Pass ⟨0,0,0,0⟩))
 | 1 :: i :: r,.If _ _ b _=>rawGo r (b.getD i (.Pass ⟨0,0,0,0⟩))
 | _,s=>s
noncomputable def rawAt (p:Program) (n:String):List Nat→Stmt
 | i :: r=>rawGo r ((bodyOf p n).getD i (.Pass ⟨0,0,0,0⟩))
 | []=>.Pass ⟨0,0,0,0⟩
noncomputable def gt:List Str:=[nS "len",nS "iter",nS "type",nS "bytes",nS "bytearray",nS "_wall",nS "bool",nS "int",nS "float",nS "complex",nS "str",nS "list",nS "tuple",nS "dict",nS "set",nS "frozenset",nS "range",nS "_buffer",nS "_truth",nS "_B64",nS "b2a_base64",nS "enumerate",nS "_filemode_table",nS "S_IFMT",nS "S_IMODE",nS "b64encode",nS "chr",nS "min",nS "_law_by_row",nS "_law_numbers",nS "_law_writing",nS "_law_wishes",nS "filemode",nS "_law_written",nS "_law_shut",nS "_law_lexer",nS "sum",nS "_law_run",nS "sorted",nS "_law_by_signs",nS "_law_best"]
noncomputable def b__read_char:SL :=
 (.cons (.assign (.name 1 ⟨14,8,14,10⟩) (.readc (.var 0 ⟨14,13,14,17⟩) ⟨14,13,14,26⟩ ⟨14,13,14,31⟩ ⟨14,32,14,33⟩ ⟨14,13,14,34⟩) ⟨14,8,14,34⟩)
 (.cons (.cond (.cmp .Eq (.var 1 ⟨15,11,15,13⟩) (.cstr [10] ⟨15,17,15,21⟩) ⟨15,11,15,21⟩)
 (.cons (.inc (.var 0 ⟨16,12,16,16⟩) ⟨16,12,16,23⟩ ⟨16,27,16,28⟩ ⟨16,12,16,28⟩)
 .nil)
 .nil ⟨15,8,16,28⟩)
 (.cons (.ret (.var 1 ⟨17,15,17,17⟩) ⟨17,8,17,17⟩)
 .nil)))
noncomputable def f__read_char:Fn:={ tb:=[nS "self",nS "ch"],vis:=[(0,false),(1,false)],wv:=[0,1],gl:=[],n:=2,np:=1,fz:=true,body:=b__read_char }
noncomputable def b_get_token:SL :=
 (.cons (.cond (.attr (.var 0 ⟨20,11,20,15⟩) .pushback ⟨20,11,20,24⟩)
 (.cons (.ret (.meth (.attr (.var 0 ⟨21,19,21,23⟩) .pushback ⟨21,19,21,32⟩) .pop (.cons (.cint 0 ⟨21,37,21,38⟩) .nil) ⟨21,19,21,36⟩ ⟨21,19,21,39⟩) ⟨21,12,21,39⟩)
 .nil)
 .nil ⟨20,8,21,39⟩)
 (.cons (.assign (.name 1 ⟨22,8,22,13⟩) (.cstr [] ⟨22,16,22,18⟩) ⟨22,8,22,18⟩)
 (.cons (.assign (.name 2 ⟨23,8,23,13⟩) (.fit 1 (.var 0 ⟨23,21,23,25⟩) ⟨23,16,23,20⟩ ⟨23,21,23,36⟩ ⟨23,38,23,40⟩ ⟨23,16,23,41⟩) ⟨23,8,23,41⟩)
 (.cons (.fitr 1000000 3 ⟨24,12,24,14⟩ (.var 2 ⟨24,18,24,23⟩)
 (.cons (.cond (.cmp .In (.var 3 ⟨25,15,25,17⟩) (.attr (.var 0 ⟨25,21,25,25⟩) .whitespace ⟨25,21,25,36⟩) ⟨25,15,25,36⟩)
 (.cons (.cont ⟨26,16,26,24⟩)
 .nil)
 .nil ⟨25,12,26,24⟩)
 (.cons (.cond (.cmp .Eq (.var 3 ⟨27,15,27,17⟩) (.cstr [34] ⟨27,21,27,24⟩) ⟨27,15,27,24⟩)
 (.cons (.fitr 1000000 3 ⟨28,20,28,22⟩ (.var 2 ⟨28,26,28,31⟩)
 (.cons (.cond (.cmp .Eq (.var 3 ⟨29,23,29,25⟩) (.cstr [34] ⟨29,29,29,32⟩) ⟨29,23,29,32⟩)
 (.cons (.ret (.var 1 ⟨30,31,30,36⟩) ⟨30,24,30,36⟩)
 .nil)
 (.cons (.cond (.cmp .Eq (.var 3 ⟨31,25,31,27⟩) (.cstr [92] ⟨31,31,31,35⟩) ⟨31,25,31,35⟩)
 (.cons (.assign (.name 3 ⟨32,24,32,26⟩) (.meth (.var 0 ⟨32,29,32,33⟩) .read_char .nil ⟨32,29,32,44⟩ ⟨32,29,32,46⟩) ⟨32,24,32,46⟩)
 .nil)
 .nil ⟨31,20,32,46⟩)
 .nil) ⟨29,20,32,46⟩)
 (.cons (.aug 1 ⟨33,20,33,25⟩ .Add (.var 3 ⟨33,29,33,31⟩) ⟨33,20,33,31⟩)
 .nil))
 .nil ⟨28,16,33,31⟩)
 .nil)
 (.cons (.cond (.cmp .Eq (.var 3 ⟨35,19,35,21⟩) (.cstr [92] ⟨35,25,35,29⟩) ⟨35,19,35,29⟩)
 (.cons (.assign (.name 3 ⟨36,20,36,22⟩) (.meth (.var 0 ⟨36,25,36,29⟩) .read_char .nil ⟨36,25,36,40⟩ ⟨36,25,36,42⟩) ⟨36,20,36,42⟩)
 .nil)
 .nil ⟨35,16,36,42⟩)
 (.cons (.aug 1 ⟨37,16,37,21⟩ .Add (.var 3 ⟨37,25,37,27⟩) ⟨37,16,37,27⟩)
 (.cons (.fitr 1000000 3 ⟨38,20,38,22⟩ (.var 2 ⟨38,26,38,31⟩)
 (.cons (.cond (.cmp .In (.var 3 ⟨39,23,39,25⟩) (.attr (.var 0 ⟨39,29,39,33⟩) .whitespace ⟨39,29,39,44⟩) ⟨39,23,39,44⟩)
 (.cons (.ret (.var 1 ⟨40,31,40,36⟩) ⟨40,24,40,36⟩)
 .nil)
 (.cons (.cond (.cmp .Eq (.var 3 ⟨41,25,41,27⟩) (.cstr [92] ⟨41,31,41,35⟩) ⟨41,25,41,35⟩)
 (.cons (.assign (.name 3 ⟨42,24,42,26⟩) (.meth (.var 0 ⟨42,29,42,33⟩) .read_char .nil ⟨42,29,42,44⟩ ⟨42,29,42,46⟩) ⟨42,24,42,46⟩)
 .nil)
 .nil ⟨41,20,42,46⟩)
 .nil) ⟨39,20,42,46⟩)
 (.cons (.aug 1 ⟨43,20,43,25⟩ .Add (.var 3 ⟨43,29,43,31⟩) ⟨43,20,43,31⟩)
 .nil))
 .nil ⟨38,16,43,31⟩)
 .nil))) ⟨27,12,43,31⟩)
 .nil))
 .nil ⟨24,8,43,31⟩)
 (.cons (.ret (.var 1 ⟨44,15,44,20⟩) ⟨44,8,44,20⟩)
 .nil)))))
noncomputable def f_get_token:Fn:={ tb:=[nS "self",nS "token",nS "fiter",nS "ch"],vis:=[(0,false),(1,false),(2,false),(3,false)],wv:=[0,1,2,3],gl:=[1],n:=4,np:=1,fz:=true,body:=b_get_token }
noncomputable def b_push_token:SL :=
 (.cons (.expr (.meth (.attr (.var 0 ⟨47,8,47,12⟩) .pushback ⟨47,8,47,21⟩) .append (.cons (.var 1 ⟨47,29,47,34⟩) .nil) ⟨47,8,47,28⟩ ⟨47,8,47,35⟩) ⟨47,8,47,35⟩)
 .nil)
noncomputable def f_push_token:Fn:={ tb:=[nS "self",nS "token"],vis:=[(0,false),(1,false)],wv:=[0,1],gl:=[],n:=2,np:=2,fz:=true,body:=b_push_token }
noncomputable def b__buffer:SL :=
 (.cons (.assign (.name 1 ⟨50,4,50,5⟩) (.call 2 ⟨50,8,50,12⟩ (.cons (.var 0 ⟨50,13,50,17⟩) .nil) ⟨50,8,50,18⟩) ⟨50,4,50,18⟩)
 (.cons (.cond (.cmp .Is (.var 1 ⟨51,7,51,8⟩) (.glob 3 ⟨51,12,51,17⟩) ⟨51,7,51,17⟩)
 (.cons (.ret (.var 0 ⟨52,15,52,19⟩) ⟨52,8,52,19⟩)
 .nil)
 .nil ⟨51,4,52,19⟩)
 (.cons (.cond (.cmp .Is (.var 1 ⟨53,7,53,8⟩) (.glob 4 ⟨53,12,53,21⟩) ⟨53,7,53,21⟩)
 (.cons (.ret (.call 3 ⟨54,15,54,20⟩ (.cons (.var 0 ⟨54,21,54,25⟩) .nil) ⟨54,15,54,26⟩) ⟨54,8,54,26⟩)
 .nil)
 .nil ⟨53,4,54,26⟩)
 (.cons (.expr (.call 5 ⟨55,4,55,9⟩ (.cons (.cint 0 ⟨55,10,55,11⟩) .nil) ⟨55,4,55,12⟩) ⟨55,4,55,12⟩)
 .nil))))
noncomputable def f__buffer:Fn:={ tb:=[nS "data",nS "t"],vis:=[(0,false),(1,false)],wv:=[0,1],gl:=[2,3,4,5],n:=2,np:=1,fz:=true,body:=b__buffer }
noncomputable def b__truth:SL :=
 (.cons (.assign (.name 1 ⟨57,4,57,5⟩) (.call 2 ⟨57,8,57,12⟩ (.cons (.var 0 ⟨57,13,57,14⟩) .nil) ⟨57,8,57,15⟩) ⟨57,4,57,15⟩)
 (.cons (.cond (.boolop .Or (.cons (.cmp .Is (.var 0 ⟨58,7,58,8⟩) (.cnone ⟨58,12,58,16⟩) ⟨58,7,58,16⟩) (.cons (.cmp .Is (.var 1 ⟨58,20,58,21⟩) (.glob 6 ⟨58,25,58,29⟩) ⟨58,20,58,29⟩) (.cons (.cmp .Is (.var 1 ⟨58,33,58,34⟩) (.glob 7 ⟨58,38,58,41⟩) ⟨58,33,58,41⟩) (.cons (.cmp .Is (.var 1 ⟨58,46,58,47⟩) (.glob 8 ⟨58,51,58,56⟩) ⟨58,46,58,56⟩) (.cons (.cmp .Is (.var 1 ⟨58,62,58,63⟩) (.glob 9 ⟨58,67,58,74⟩) ⟨58,62,58,74⟩) (.cons (.cmp .Is (.var 1 ⟨58,80,58,81⟩) (.glob 10 ⟨58,85,58,88⟩) ⟨58,80,58,88⟩) (.cons (.cmp .Is (.var 1 ⟨58,94,58,95⟩) (.glob 3 ⟨58,99,58,104⟩) ⟨58,94,58,104⟩) (.cons (.cmp .Is (.var 1 ⟨58,110,58,111⟩) (.glob 4 ⟨58,115,58,124⟩) ⟨58,110,58,124⟩) (.cons (.cmp .Is (.var 1 ⟨58,130,58,131⟩) (.glob 11 ⟨58,135,58,139⟩) ⟨58,130,58,139⟩) (.cons (.cmp .Is (.var 1 ⟨58,145,58,146⟩) (.glob 12 ⟨58,150,58,155⟩) ⟨58,145,58,155⟩) (.cons (.cmp .Is (.var 1 ⟨58,161,58,162⟩) (.glob 13 ⟨58,166,58,170⟩) ⟨58,161,58,170⟩) (.cons (.cmp .Is (.var 1 ⟨58,176,58,177⟩) (.glob 14 ⟨58,181,58,184⟩) ⟨58,176,58,184⟩) (.cons (.cmp .Is (.var 1 ⟨58,190,58,191⟩) (.glob 15 ⟨58,195,58,204⟩) ⟨58,190,58,204⟩) (.cons (.cmp .Is (.var 1 ⟨58,210,58,211⟩) (.glob 16 ⟨58,215,58,220⟩) ⟨58,210,58,220⟩) .nil)))))))))))))) ⟨58,7,58,221⟩)
 (.cons (.ret (.ife (.var 0 ⟨59,23,59,24⟩) (.cbool true ⟨59,15,59,19⟩) (.cbool false ⟨59,30,59,35⟩) ⟨59,15,59,35⟩) ⟨59,8,59,35⟩)
 .nil)
 .nil ⟨58,4,59,35⟩)
 (.cons (.expr (.call 5 ⟨60,4,60,9⟩ (.cons (.cint 1 ⟨60,10,60,11⟩) .nil) ⟨60,4,60,12⟩) ⟨60,4,60,12⟩)
 .nil)))
noncomputable def f__truth:Fn:={ tb:=[nS "x",nS "t"],vis:=[(0,false),(1,false)],wv:=[0,1],gl:=[2,6,7,8,9,10,3,4,11,12,13,14,15,16,5],n:=2,np:=1,fz:=true,body:=b__truth }
noncomputable def b_b2a_base64:SL :=
 (.cons (.assign (.name 2 ⟨63,4,63,12⟩) (.call 17 ⟨63,15,63,22⟩ (.cons (.var 0 ⟨63,23,63,27⟩) .nil) ⟨63,15,63,28⟩) ⟨63,4,63,28⟩)
 (.cons (.assign (.name 1 ⟨64,4,64,11⟩) (.call 18 ⟨64,14,64,20⟩ (.cons (.var 1 ⟨64,21,64,28⟩) .nil) ⟨64,14,64,29⟩) ⟨64,4,64,29⟩)
 (.cons (.assign (.name 3 ⟨65,4,65,7⟩) (.list true .nil ⟨65,10,65,12⟩) ⟨65,4,65,12⟩)
 (.cons (.assign (.name 4 ⟨66,4,66,12⟩) (.cint 0 ⟨66,15,66,16⟩) ⟨66,4,66,16⟩)
 (.cons (.assign (.name 5 ⟨67,4,67,12⟩) (.cint 0 ⟨67,15,67,16⟩) ⟨67,4,67,16⟩)
 (.cons (.loop [6] (.name 6 ⟨68,8,68,9⟩) (.var 2 ⟨68,13,68,21⟩)
 (.cons (.assign (.name 5 ⟨69,8,69,16⟩) (.bin .BitAnd (.bin .BitOr (.bin .LShift (.var 5 ⟨69,20,69,28⟩) (.cint 8 ⟨69,32,69,33⟩) ⟨69,20,69,33⟩) (.var 6 ⟨69,36,69,37⟩) ⟨69,20,69,37⟩) (.cint 65535 ⟨69,41,69,46⟩) ⟨69,19,69,46⟩) ⟨69,8,69,46⟩)
 (.cons (.assign (.name 4 ⟨70,8,70,16⟩) (.bin .Add (.var 4 ⟨70,19,70,27⟩) (.cint 8 ⟨70,30,70,31⟩) ⟨70,19,70,31⟩) ⟨70,8,70,31⟩)
 (.cons (.whil 1000000 [] (.cmp .GtE (.var 4 ⟨71,14,71,22⟩) (.cint 6 ⟨71,26,71,27⟩) ⟨71,14,71,27⟩)
 (.cons (.expr (.meth (.var 3 ⟨72,12,72,15⟩) .append (.cons (.sub (.glob 19 ⟨72,23,72,27⟩) (.bin .BitAnd (.bin .RShift (.var 5 ⟨72,28,72,36⟩) (.bin .Sub (.var 4 ⟨72,40,72,48⟩) (.cint 6 ⟨72,51,72,52⟩) ⟨72,40,72,52⟩) ⟨72,28,72,52⟩) (.cint 63 ⟨72,55,72,57⟩) ⟨72,28,72,57⟩) ⟨72,23,72,58⟩) .nil) ⟨72,12,72,22⟩ ⟨72,12,72,59⟩) ⟨72,12,72,59⟩)
 (.cons (.assign (.name 4 ⟨73,12,73,20⟩) (.bin .Sub (.var 4 ⟨73,23,73,31⟩) (.cint 6 ⟨73,34,73,35⟩) ⟨73,23,73,35⟩) ⟨73,12,73,35⟩)
 .nil)) ⟨71,8,73,35⟩)
 .nil)))
 .nil ⟨68,4,73,35⟩)
 (.cons (.cond (.cmp .Eq (.var 4 ⟨74,7,74,15⟩) (.cint 2 ⟨74,19,74,20⟩) ⟨74,7,74,20⟩)
 (.cons (.expr (.meth (.var 3 ⟨75,8,75,11⟩) .append (.cons (.sub (.glob 19 ⟨75,19,75,23⟩) (.bin .LShift (.bin .BitAnd (.var 5 ⟨75,25,75,33⟩) (.cint 3 ⟨75,36,75,37⟩) ⟨75,25,75,37⟩) (.cint 4 ⟨75,42,75,43⟩) ⟨75,24,75,43⟩) ⟨75,19,75,44⟩) .nil) ⟨75,8,75,18⟩ ⟨75,8,75,45⟩) ⟨75,8,75,45⟩)
 (.cons (.expr (.meth (.var 3 ⟨76,8,76,11⟩) .append (.cons (.cint 61 ⟨76,19,76,21⟩) .nil) ⟨76,8,76,18⟩ ⟨76,8,76,22⟩) ⟨76,8,76,22⟩)
 (.cons (.expr (.meth (.var 3 ⟨77,8,77,11⟩) .append (.cons (.cint 61 ⟨77,19,77,21⟩) .nil) ⟨77,8,77,18⟩ ⟨77,8,77,22⟩) ⟨77,8,77,22⟩)
 .nil)))
 (.cons (.cond (.cmp .Eq (.var 4 ⟨78,9,78,17⟩) (.cint 4 ⟨78,21,78,22⟩) ⟨78,9,78,22⟩)
 (.cons (.expr (.meth (.var 3 ⟨79,8,79,11⟩) .append (.cons (.sub (.glob 19 ⟨79,19,79,23⟩) (.bin .LShift (.bin .BitAnd (.var 5 ⟨79,25,79,33⟩) (.cint 15 ⟨79,36,79,38⟩) ⟨79,25,79,38⟩) (.cint 2 ⟨79,43,79,44⟩) ⟨79,24,79,44⟩) ⟨79,19,79,45⟩) .nil) ⟨79,8,79,18⟩ ⟨79,8,79,46⟩) ⟨79,8,79,46⟩)
 (.cons (.expr (.meth (.var 3 ⟨80,8,80,11⟩) .append (.cons (.cint 61 ⟨80,19,80,21⟩) .nil) ⟨80,8,80,18⟩ ⟨80,8,80,22⟩) ⟨80,8,80,22⟩)
 .nil))
 .nil ⟨78,4,80,22⟩)
 .nil) ⟨74,4,80,22⟩)
 (.cons (.cond (.var 1 ⟨81,7,81,14⟩)
 (.cons (.expr (.meth (.var 3 ⟨82,8,82,11⟩) .append (.cons (.cint 10 ⟨82,19,82,21⟩) .nil) ⟨82,8,82,18⟩ ⟨82,8,82,22⟩) ⟨82,8,82,22⟩)
 .nil)
 .nil ⟨81,4,82,22⟩)
 (.cons (.ret (.call 3 ⟨83,11,83,16⟩ (.cons (.var 3 ⟨83,17,83,20⟩) .nil) ⟨83,11,83,21⟩) ⟨83,4,83,21⟩)
 .nil)))))))))
noncomputable def f_b2a_base64:Fn:={ tb:=[nS "data",nS "newline",nS "bin_data",nS "out",nS "leftbits",nS "leftchar",nS "b"],vis:=[(0,false),(1,false),(2,false),(3,false),(4,false),(5,false),(6,false)],wv:=[0,1,2,3,4,5,6],gl:=[17,18,19,3],n:=7,np:=2,fz:=true,body:=b_b2a_base64 }
noncomputable def b_b64encode:SL :=
 (.cons (.assign (.name 2 ⟨86,4,86,11⟩) (.callkw 20 ⟨86,14,86,24⟩ (.cons (.var 0 ⟨86,25,86,26⟩) .nil) (nS "newline") (.cbool false ⟨86,36,86,41⟩) ⟨86,28,86,41⟩ ⟨86,14,86,42⟩) ⟨86,4,86,42⟩)
 (.cons (.cond (.cmp .IsNot (.var 1 ⟨87,7,87,15⟩) (.cnone ⟨87,23,87,27⟩) ⟨87,7,87,27⟩)
 (.cons (.raw (rawAt PW "b64encode" [1,0,0]))
 (.cons (.raw (rawAt PW "b64encode" [1,0,1]))
 .nil))
 .nil ⟨87,4,89,66⟩)
 (.cons (.ret (.var 2 ⟨90,11,90,18⟩) ⟨90,4,90,18⟩)
 .nil)))
noncomputable def f_b64encode:Fn:={ tb:=[nS "s",nS "altchars",nS "encoded"],vis:=[(0,false),(1,false),(2,false)],wv:=[0,1,2],gl:=[20],n:=3,np:=2,fz:=true,body:=b_b64encode }
noncomputable def b_S_IMODE:SL :=
 (.cons (.ret (.bin .BitAnd (.var 0 ⟨93,11,93,15⟩) (.cint 4095 ⟨93,18,93,22⟩) ⟨93,11,93,22⟩) ⟨93,4,93,22⟩)
 .nil)
noncomputable def f_S_IMODE:Fn:={ tb:=[nS "mode"],vis:=[(0,false)],wv:=[0],gl:=[],n:=1,np:=1,fz:=true,body:=b_S_IMODE }
noncomputable def b_S_IFMT:SL :=
 (.cons (.ret (.bin .BitAnd (.var 0 ⟨95,11,95,15⟩) (.cint 61440 ⟨95,18,95,23⟩) ⟨95,11,95,23⟩) ⟨95,4,95,23⟩)
 .nil)
noncomputable def f_S_IFMT:Fn:={ tb:=[nS "mode"],vis:=[(0,false)],wv:=[0],gl:=[],n:=1,np:=1,fz:=true,body:=b_S_IFMT }
noncomputable def b_filemode:SL :=
 (.cons (.assign (.name 1 ⟨117,4,117,8⟩) (.list true .nil ⟨117,11,117,13⟩) ⟨117,4,117,13⟩)
 (.cons (.enum [2,3,4,5] [(2,⟨118,8,118,13⟩),(3,⟨118,15,118,20⟩)] ⟨118,8,118,20⟩ 21 ⟨118,24,118,33⟩ (.glob 22 ⟨118,34,118,49⟩)
 (.cons (.loop [4,5] (.tup [(4,⟨119,12,119,15⟩),(5,⟨119,17,119,21⟩)] ⟨119,12,119,21⟩) (.var 3 ⟨119,25,119,30⟩)
 (.cons (.cond (.cmp .Eq (.var 2 ⟨120,15,120,20⟩) (.cint 0 ⟨120,24,120,25⟩) ⟨120,15,120,25⟩)
 (.cons (.cond (.cmp .Eq (.call 23 ⟨121,19,121,25⟩ (.cons (.var 0 ⟨121,26,121,30⟩) .nil) ⟨121,19,121,31⟩) (.var 4 ⟨121,35,121,38⟩) ⟨121,19,121,38⟩)
 (.cons (.expr (.meth (.var 1 ⟨122,20,122,24⟩) .append (.cons (.var 5 ⟨122,32,122,36⟩) .nil) ⟨122,20,122,31⟩ ⟨122,20,122,37⟩) ⟨122,20,122,37⟩)
 (.cons (.brk ⟨123,20,123,25⟩)
 .nil))
 .nil ⟨121,16,123,25⟩)
 .nil)
 (.cons (.cond (.cmp .Eq (.bin .BitAnd (.var 0 ⟨124,17,124,21⟩) (.var 4 ⟨124,24,124,27⟩) ⟨124,17,124,27⟩) (.var 4 ⟨124,31,124,34⟩) ⟨124,17,124,34⟩)
 (.cons (.expr (.meth (.var 1 ⟨125,16,125,20⟩) .append (.cons (.var 5 ⟨125,28,125,32⟩) .nil) ⟨125,16,125,27⟩ ⟨125,16,125,33⟩) ⟨125,16,125,33⟩)
 (.cons (.brk ⟨126,16,126,21⟩)
 .nil))
 .nil ⟨124,12,126,21⟩)
 .nil) ⟨120,12,126,21⟩)
 .nil)
 (.cons (.cond (.cmp .Eq (.var 2 ⟨128,15,128,20⟩) (.cint 0 ⟨128,24,128,25⟩) ⟨128,15,128,25⟩)
 (.cons (.expr (.meth (.var 1 ⟨129,16,129,20⟩) .append (.cons (.cstr [63] ⟨129,28,129,31⟩) .nil) ⟨129,16,129,27⟩ ⟨129,16,129,32⟩) ⟨129,16,129,32⟩)
 .nil)
 (.cons (.expr (.meth (.var 1 ⟨131,16,131,20⟩) .append (.cons (.cstr [45] ⟨131,28,131,31⟩) .nil) ⟨131,16,131,27⟩ ⟨131,16,131,32⟩) ⟨131,16,131,32⟩)
 .nil) ⟨128,12,131,32⟩)
 .nil) ⟨119,8,131,32⟩)
 .nil)
 .nil ⟨118,24,118,50⟩ ⟨118,4,131,32⟩)
 (.cons (.ret (.meth (.cstr [] ⟨132,11,132,13⟩) .join (.cons (.var 1 ⟨132,19,132,23⟩) .nil) ⟨132,11,132,18⟩ ⟨132,11,132,24⟩) ⟨132,4,132,24⟩)
 .nil)))
noncomputable def f_filemode:Fn:={ tb:=[nS "mode",nS "perm",nS "index",nS "table",nS "bit",nS "char"],vis:=[(0,false),(1,false),(2,false),(3,false),(4,false),(5,false)],wv:=[0,1,2,3,4,5],gl:=[21,22,23],n:=6,np:=1,fz:=true,body:=b_filemode }
noncomputable def b__law_numbers:SL :=
 (.cons (.assign (.name 1 ⟨135,4,135,11⟩) (.list true (.cons (.cint 3572669 ⟨135,15,135,22⟩) (.cons (.cint 7293928 ⟨135,24,135,31⟩) (.cons (.cint 17605728 ⟨135,33,135,41⟩) (.cons (.cint 2828372 ⟨135,43,135,50⟩) .nil)))) ⟨135,14,135,51⟩) ⟨135,4,135,51⟩)
 (.cons (.loop [2] (.name 2 ⟨136,8,136,9⟩) (.call 16 ⟨136,13,136,18⟩ (.cons (.call 0 ⟨136,19,136,22⟩ (.cons (.var 0 ⟨136,23,136,29⟩) .nil) ⟨136,19,136,30⟩) .nil) ⟨136,13,136,31⟩)
 (.cons (.augSub (.var 1 ⟨137,8,137,15⟩) (.bin .Mod (.var 2 ⟨137,16,137,17⟩) (.cint 4 ⟨137,20,137,21⟩) ⟨137,16,137,21⟩) ⟨137,8,137,22⟩ .Add (.sub (.var 0 ⟨137,26,137,32⟩) (.var 2 ⟨137,33,137,34⟩) ⟨137,26,137,35⟩) ⟨137,8,137,35⟩)
 .nil)
 .nil ⟨136,4,137,35⟩)
 (.cons (.ret (.var 1 ⟨138,11,138,18⟩) ⟨138,4,138,18⟩)
 .nil)))
noncomputable def f__law_numbers:Fn:={ tb:=[nS "script",nS "numbers",nS "k"],vis:=[(0,false),(1,false),(2,false)],wv:=[0,1,2],gl:=[16,0],n:=3,np:=1,fz:=true,body:=b__law_numbers }
noncomputable def b__law_writing:SL :=
 (.cons (.assign (.name 1 ⟨140,4,140,9⟩) (.cint 0 ⟨140,12,140,13⟩) ⟨140,4,140,13⟩)
 (.cons (.loop [2] (.name 2 ⟨141,8,141,12⟩) (.var 0 ⟨141,16,141,21⟩)
 (.cons (.assign (.name 1 ⟨142,8,142,13⟩) (.bin .Add (.bin .Mult (.var 1 ⟨142,16,142,21⟩) (.cint 4096 ⟨142,24,142,28⟩) ⟨142,16,142,28⟩) (.call 24 ⟨142,31,142,38⟩ (.cons (.var 2 ⟨142,39,142,43⟩) .nil) ⟨142,31,142,44⟩) ⟨142,16,142,44⟩) ⟨142,8,142,44⟩)
 .nil)
 .nil ⟨141,4,142,44⟩)
 (.cons (.assign (.name 3 ⟨143,4,143,10⟩) (.call 25 ⟨143,13,143,22⟩ (.cons (.call 3 ⟨143,23,143,28⟩ (.cons (.comp false (.bin .Mod (.bin .FloorDiv (.var 1 ⟨143,30,143,35⟩) (.bin .Pow (.cint 256 ⟨143,39,143,42⟩) (.bin .Sub (.cint 5 ⟨143,47,143,48⟩) (.var 4 ⟨143,51,143,52⟩) ⟨143,47,143,52⟩) ⟨143,39,143,53⟩) ⟨143,30,143,53⟩) (.cint 256 ⟨143,56,143,59⟩) ⟨143,30,143,59⟩) (.name 4 ⟨143,64,143,65⟩) (.call 16 ⟨143,69,143,74⟩ (.cons (.cint 6 ⟨143,75,143,76⟩) .nil) ⟨143,69,143,77⟩) .nil .nil ⟨{ kind:=.function,names:=[(nS ".0",.local),(nS "i",.local),(nS "total",.free)],isGenerator:=false,isCoroutine:=false,more:=[] },[(4,false)],[1],[]⟩ ⟨143,29,143,78⟩) .nil) ⟨143,23,143,79⟩) .nil) ⟨143,13,143,80⟩) ⟨143,4,143,80⟩)
 (.cons (.ret (.meth (.cstr [] ⟨144,11,144,13⟩) .join (.cons (.comp false (.call 26 ⟨144,20,144,23⟩ (.cons (.var 5 ⟨144,24,144,29⟩) .nil) ⟨144,20,144,30⟩) (.name 5 ⟨144,35,144,40⟩) (.var 3 ⟨144,44,144,50⟩) .nil .nil ⟨{ kind:=.function,names:=[(nS ".0",.local),(nS "octet",.local),(nS "chr",.globalImplicit)],isGenerator:=false,isCoroutine:=false,more:=[] },[(5,false)],[],[26]⟩ ⟨144,19,144,51⟩) .nil) ⟨144,11,144,18⟩ ⟨144,11,144,52⟩) ⟨144,4,144,52⟩)
 .nil))))
noncomputable def f__law_writing:Fn:={ tb:=[nS "modes",nS "total",nS "mode",nS "octets",nS "i",nS "octet"],vis:=[(0,false),(1,true),(2,false),(3,false)],wv:=[0,1,2,3],gl:=[24,25,3,16],n:=6,np:=1,fz:=true,body:=b__law_writing }
noncomputable def b__law_wishes:SL :=
 (.cons (.assign (.name 1 ⟨146,4,146,10⟩) (.list true .nil ⟨146,13,146,15⟩) ⟨146,4,146,15⟩)
 (.cons (.loop [2,3,4] (.name 2 ⟨147,8,147,9⟩) (.call 16 ⟨147,13,147,18⟩ (.cons (.cint 3 ⟨147,19,147,20⟩) .nil) ⟨147,13,147,21⟩)
 (.cons (.assign (.name 3 ⟨148,8,148,12⟩) (.sub (.sub (.tup (.cons (.cstr [117,103,111] ⟨148,16,148,21⟩) (.cons (.cstr [117,111,103] ⟨148,23,148,28⟩) (.cons (.cstr [103,117,111] ⟨148,30,148,35⟩) (.cons (.cstr [103,111,117] ⟨148,37,148,42⟩) (.cons (.cstr [111,117,103] ⟨148,44,148,49⟩) (.cons (.cstr [111,103,117] ⟨148,51,148,56⟩) .nil)))))) ⟨148,15,148,57⟩) (.bin .Mod (.var 0 ⟨148,58,148,62⟩) (.cint 6 ⟨148,65,148,66⟩) ⟨148,58,148,66⟩) ⟨148,15,148,67⟩) (.var 2 ⟨148,68,148,69⟩) ⟨148,15,148,70⟩) ⟨148,8,148,70⟩)
 (.cons (.assign (.name 4 ⟨149,8,149,14⟩) (.bin .Mod (.bin .FloorDiv (.bin .FloorDiv (.var 0 ⟨149,17,149,21⟩) (.cint 6 ⟨149,25,149,26⟩) ⟨149,17,149,26⟩) (.bin .Pow (.cint 4 ⟨149,30,149,31⟩) (.var 2 ⟨149,35,149,36⟩) ⟨149,30,149,36⟩) ⟨149,17,149,36⟩) (.cint 4 ⟨149,39,149,40⟩) ⟨149,17,149,40⟩) ⟨149,8,149,40⟩)
 (.cons (.expr (.meth (.var 1 ⟨150,8,150,14⟩) .append (.cons (.sub (.tup (.cons (.bin .Add (.var 3 ⟨150,23,150,27⟩) (.cstr [32] ⟨150,30,150,33⟩) ⟨150,23,150,33⟩) (.cons (.bin .Add (.bin .Add (.cstr [92] ⟨150,35,150,39⟩) (.var 3 ⟨150,42,150,46⟩) ⟨150,35,150,46⟩) (.cstr [10] ⟨150,49,150,53⟩) ⟨150,35,150,53⟩) (.cons (.bin .Add (.bin .Add (.cstr [34] ⟨150,55,150,58⟩) (.var 3 ⟨150,61,150,65⟩) ⟨150,55,150,65⟩) (.cstr [34] ⟨150,68,150,71⟩) ⟨150,55,150,71⟩) (.cons (.bin .Add (.var 3 ⟨150,73,150,77⟩) (.cstr [9] ⟨150,80,150,84⟩) ⟨150,73,150,84⟩) .nil)))) ⟨150,22,150,85⟩) (.var 4 ⟨150,86,150,92⟩) ⟨150,22,150,93⟩) .nil) ⟨150,8,150,21⟩ ⟨150,8,150,94⟩) ⟨150,8,150,94⟩)
 .nil)))
 .nil ⟨147,4,150,94⟩)
 (.cons (.ret (.var 1 ⟨151,11,151,17⟩) ⟨151,4,151,17⟩)
 .nil)))
noncomputable def f__law_wishes:Fn:={ tb:=[nS "rest",nS "pieces",nS "i",nS "name",nS "manner"],vis:=[(0,false),(1,false),(2,false),(3,false),(4,false)],wv:=[0,1,2,3,4],gl:=[16],n:=5,np:=1,fz:=true,body:=b__law_wishes }
noncomputable def b__law_written:SL :=
 (.cons (.assign (.name 2 ⟨153,4,153,9⟩) (.bin .FloorDiv (.var 1 ⟨153,12,153,18⟩) (.cint 4 ⟨153,22,153,23⟩) ⟨153,12,153,23⟩) ⟨153,4,153,23⟩)
 (.cons (.assign (.name 3 ⟨154,4,154,9⟩) (.bin .Add (.bin .Add (.slice (.var 0 ⟨154,12,154,16⟩) .none (.some (.var 2 ⟨154,18,154,23⟩)) .none ⟨154,17,154,23⟩ ⟨154,12,154,24⟩) (.cstr [92] ⟨154,27,154,31⟩) ⟨154,12,154,31⟩) (.slice (.var 0 ⟨154,34,154,38⟩) (.some (.var 2 ⟨154,39,154,44⟩)) .none .none ⟨154,39,154,45⟩ ⟨154,34,154,46⟩) ⟨154,12,154,46⟩) ⟨154,4,154,46⟩)
 (.cons (.cond (.cmp .Eq (.bin .Mod (.var 1 ⟨155,7,155,13⟩) (.cint 4 ⟨155,16,155,17⟩) ⟨155,7,155,17⟩) (.cint 3 ⟨155,21,155,22⟩) ⟨155,7,155,22⟩)
 (.cons (.ret (.bin .Add (.bin .Add (.cstr [34] ⟨156,15,156,18⟩) (.var 3 ⟨156,21,156,26⟩) ⟨156,15,156,26⟩) (.cstr [34] ⟨156,29,156,32⟩) ⟨156,15,156,32⟩) ⟨156,8,156,32⟩)
 .nil)
 .nil ⟨155,4,156,32⟩)
 (.cons (.ret (.bin .Add (.var 3 ⟨157,11,157,16⟩) (.sub (.cstr [10,9,32] ⟨157,19,157,26⟩) (.bin .Mod (.var 1 ⟨157,27,157,33⟩) (.cint 4 ⟨157,36,157,37⟩) ⟨157,27,157,37⟩) ⟨157,19,157,38⟩) ⟨157,11,157,38⟩) ⟨157,4,157,38⟩)
 .nil))))
noncomputable def f__law_written:Fn:={ tb:=[nS "word",nS "manner",nS "place",nS "piece"],vis:=[(0,false),(1,false),(2,false),(3,false)],wv:=[0,1,2,3],gl:=[],n:=4,np:=2,fz:=true,body:=b__law_written }
noncomputable def b__law_shut:SL :=
 (.cons (.ret (.shut 0 [⟨159,11,159,14⟩,⟨159,17,159,21⟩,⟨159,17,159,29⟩,⟨159,30,159,34⟩,⟨159,36,159,42⟩,⟨159,17,159,43⟩,⟨159,17,159,51⟩,⟨159,52,159,55⟩,⟨159,57,159,62⟩,⟨159,17,159,63⟩,⟨159,11,159,63⟩,⟨159,66,159,69⟩] ⟨159,11,159,69⟩) ⟨159,4,159,69⟩)
 .nil)
noncomputable def f__law_shut:Fn:={ tb:=[nS "text"],vis:=[(0,false)],wv:=[0],gl:=[],n:=1,np:=1,fz:=true,body:=b__law_shut }
noncomputable def b__law_by_row:SL :=
 (.cons (.assign (.name 2 ⟨170,4,170,9⟩) (.slice (.var 0 ⟨170,12,170,15⟩) (.some (.bin .Add (.cint 1 ⟨170,16,170,17⟩) (.bin .Mult (.cint 3 ⟨170,20,170,21⟩) (.var 1 ⟨170,24,170,25⟩) ⟨170,20,170,25⟩) ⟨170,16,170,25⟩)) (.some (.bin .Add (.cint 4 ⟨170,26,170,27⟩) (.bin .Mult (.cint 3 ⟨170,30,170,31⟩) (.var 1 ⟨170,34,170,35⟩) ⟨170,30,170,35⟩) ⟨170,26,170,35⟩)) .none ⟨170,16,170,35⟩ ⟨170,12,170,36⟩) ⟨170,4,170,36⟩)
 (.cons (.assign (.name 3 ⟨171,4,171,8⟩) (.meth (.ife (.cmp .Eq (.var 1 ⟨171,22,171,23⟩) (.cint 2 ⟨171,27,171,28⟩) ⟨171,22,171,28⟩) (.cstr [45,120,84,116] ⟨171,12,171,18⟩) (.cstr [45,120,83,115] ⟨171,34,171,40⟩) ⟨171,12,171,40⟩) .index (.cons (.sub (.var 2 ⟨171,48,171,53⟩) (.cint 2 ⟨171,54,171,55⟩) ⟨171,48,171,56⟩) .nil) ⟨171,11,171,47⟩ ⟨171,11,171,57⟩) ⟨171,4,171,57⟩)
 (.cons (.ret (.bin .Add (.bin .Add (.bin .Add (.bin .Mult (.meth (.cstr [45,114] ⟨172,11,172,15⟩) .index (.cons (.sub (.var 2 ⟨172,22,172,27⟩) (.cint 0 ⟨172,28,172,29⟩) ⟨172,22,172,30⟩) .nil) ⟨172,11,172,21⟩ ⟨172,11,172,31⟩) (.cint 4 ⟨172,34,172,35⟩) ⟨172,11,172,35⟩) (.bin .Mult (.meth (.cstr [45,119] ⟨172,38,172,42⟩) .index (.cons (.sub (.var 2 ⟨172,49,172,54⟩) (.cint 1 ⟨172,55,172,56⟩) ⟨172,49,172,57⟩) .nil) ⟨172,38,172,48⟩ ⟨172,38,172,58⟩) (.cint 2 ⟨172,61,172,62⟩) ⟨172,38,172,62⟩) ⟨172,11,172,62⟩) (.bin .Mod (.var 3 ⟨172,65,172,69⟩) (.cint 2 ⟨172,72,172,73⟩) ⟨172,65,172,73⟩) ⟨172,11,172,73⟩) (.bin .Mult (.bin .FloorDiv (.var 3 ⟨172,76,172,80⟩) (.cint 2 ⟨172,84,172,85⟩) ⟨172,76,172,85⟩) (.cint 8 ⟨172,88,172,89⟩) ⟨172,76,172,89⟩) ⟨172,11,172,89⟩) ⟨172,4,172,89⟩)
 .nil)))
noncomputable def f__law_by_row:Fn:={ tb:=[nS "row",nS "c",nS "signs",nS "last"],vis:=[(0,false),(1,false),(2,false),(3,false)],wv:=[0,1,2,3],gl:=[],n:=4,np:=2,fz:=true,body:=b__law_by_row }
noncomputable def b__law_by_signs:SL :=
 (.cons (.assign (.name 3 ⟨174,4,174,12⟩) (.cstr [65,66,67,68,69,70,71,72,73,74,75,76,77,78,79,80,81,82,83,84,85,86,87,88,89,90,97,98,99,100,101,102,103,104,105,106,107,108,109,110,111,112,113,114,115,116,117,118,119,120,121,122,48,49,50,51,52,53,54,55,56,57,43,47] ⟨174,15,174,81⟩) ⟨174,4,174,81⟩)
 (.cons (.assign (.tup [(4,⟨175,4,175,9⟩),(5,⟨175,11,175,17⟩)] ⟨175,4,175,17⟩) (.tup (.cons (.meth (.var 3 ⟨175,21,175,29⟩) .index (.cons (.sub (.var 0 ⟨175,36,175,43⟩) (.bin .Mult (.cint 2 ⟨175,44,175,45⟩) (.var 1 ⟨175,48,175,49⟩) ⟨175,44,175,49⟩) ⟨175,36,175,50⟩) .nil) ⟨175,21,175,35⟩ ⟨175,21,175,51⟩) (.cons (.meth (.var 3 ⟨175,53,175,61⟩) .index (.cons (.sub (.var 0 ⟨175,68,175,75⟩) (.bin .Add (.bin .Mult (.cint 2 ⟨175,76,175,77⟩) (.var 1 ⟨175,80,175,81⟩) ⟨175,76,175,81⟩) (.cint 1 ⟨175,84,175,85⟩) ⟨175,76,175,85⟩) ⟨175,68,175,86⟩) .nil) ⟨175,53,175,67⟩ ⟨175,53,175,87⟩) .nil)) ⟨175,20,175,88⟩) ⟨175,4,175,88⟩)
 (.cons (.ret (.bin .Add (.sub (.tup (.cons (.bin .Mod (.var 4 ⟨176,12,176,17⟩) (.cint 8 ⟨176,20,176,21⟩) ⟨176,12,176,21⟩) (.cons (.bin .FloorDiv (.var 5 ⟨176,23,176,29⟩) (.cint 8 ⟨176,33,176,34⟩) ⟨176,23,176,34⟩) (.cons (.bin .Mod (.var 5 ⟨176,36,176,42⟩) (.cint 8 ⟨176,45,176,46⟩) ⟨176,36,176,46⟩) .nil))) ⟨176,11,176,47⟩) (.var 2 ⟨176,48,176,49⟩) ⟨176,11,176,50⟩) (.bin .Mult (.bin .Mod (.bin .FloorDiv (.var 4 ⟨176,53,176,58⟩) (.sub (.tup (.cons (.cint 32 ⟨176,63,176,65⟩) (.cons (.cint 16 ⟨176,67,176,69⟩) (.cons (.cint 8 ⟨176,71,176,72⟩) .nil))) ⟨176,62,176,73⟩) (.var 2 ⟨176,74,176,75⟩) ⟨176,62,176,76⟩) ⟨176,53,176,76⟩) (.cint 2 ⟨176,79,176,80⟩) ⟨176,53,176,80⟩) (.cint 8 ⟨176,83,176,84⟩) ⟨176,53,176,84⟩) ⟨176,11,176,84⟩) ⟨176,4,176,84⟩)
 .nil)))
noncomputable def f__law_by_signs:Fn:={ tb:=[nS "writing",nS "k",nS "c",nS "alphabet",nS "first",nS "second"],vis:=[(0,false),(1,false),(2,false),(3,false),(4,false),(5,false)],wv:=[0,1,2,3,4,5],gl:=[],n:=6,np:=3,fz:=true,body:=b__law_by_signs }
noncomputable def b__law_best:SL :=
 (.cons (.assign (.name 2 ⟨178,4,178,8⟩) (.bin .Mult (.list false (.cons (.cint 3 ⟨178,12,178,13⟩) .nil) ⟨178,11,178,14⟩) (.cint 4 ⟨178,17,178,18⟩) ⟨178,11,178,18⟩) ⟨178,4,178,18⟩)
 (.cons (.loop [3,4,5,6,7,8] (.tup [(3,⟨179,8,179,9⟩),(4,⟨179,11,179,12⟩),(5,⟨179,14,179,15⟩)] ⟨179,8,179,15⟩) (.comp false (.tup (.cons (.bin .FloorDiv (.var 9 ⟨179,21,179,22⟩) (.cint 16 ⟨179,26,179,28⟩) ⟨179,21,179,28⟩) (.cons (.bin .Mod (.bin .FloorDiv (.var 9 ⟨179,30,179,31⟩) (.cint 4 ⟨179,35,179,36⟩) ⟨179,30,179,36⟩) (.cint 4 ⟨179,39,179,40⟩) ⟨179,30,179,40⟩) (.cons (.bin .Mod (.var 9 ⟨179,42,179,43⟩) (.cint 4 ⟨179,46,179,47⟩) ⟨179,42,179,47⟩) .nil))) ⟨179,20,179,48⟩) (.name 9 ⟨179,53,179,54⟩) (.call 16 ⟨179,58,179,63⟩ (.cons (.cint 64 ⟨179,64,179,66⟩) .nil) ⟨179,58,179,67⟩) .nil .nil ⟨{ kind:=.function,names:=[(nS ".0",.local),(nS "i",.local)],isGenerator:=false,isCoroutine:=false,more:=[] },[(9,false)],[],[]⟩ ⟨179,19,179,68⟩)
 (.cons (.cond (.boolop .And (.cons (.cmp .NotEq (.var 3 ⟨180,11,180,12⟩) (.var 4 ⟨180,16,180,17⟩) ⟨180,11,180,17⟩) (.cons (.cmp .NotEq (.var 3 ⟨180,22,180,23⟩) (.var 5 ⟨180,27,180,28⟩) ⟨180,22,180,28⟩) (.cons (.cmp .NotEq (.var 4 ⟨180,34,180,35⟩) (.var 5 ⟨180,39,180,40⟩) ⟨180,34,180,40⟩) .nil))) ⟨180,11,180,41⟩)
 (.cons (.assign (.name 6 ⟨181,12,181,16⟩) (.tup (.cons (.var 3 ⟨181,20,181,21⟩) (.cons (.var 4 ⟨181,23,181,24⟩) (.cons (.var 5 ⟨181,26,181,27⟩) .nil))) ⟨181,19,181,28⟩) ⟨181,12,181,28⟩)
 (.cons (.assign (.name 7 ⟨182,12,182,16⟩) (.comp false (.ife (.cmp .In (.var 10 ⟨182,47,182,48⟩) (.var 6 ⟨182,52,182,56⟩) ⟨182,47,182,56⟩) (.sub (.sub (.var 0 ⟨182,20,182,25⟩) (.var 10 ⟨182,26,182,27⟩) ⟨182,20,182,28⟩) (.tix 6 10 ⟨182,29,182,33⟩ ⟨182,40,182,41⟩ ⟨182,29,182,39⟩ ⟨182,29,182,42⟩) ⟨182,20,182,43⟩) (.cint 3 ⟨182,62,182,63⟩) ⟨182,20,182,63⟩) (.name 10 ⟨182,68,182,69⟩) (.call 16 ⟨182,73,182,78⟩ (.cons (.cint 4 ⟨182,79,182,80⟩) .nil) ⟨182,73,182,81⟩) .nil .nil ⟨{ kind:=.function,names:=[(nS ".0",.local),(nS "k",.local),(nS "held",.free),(nS "ranks",.free)],isGenerator:=false,isCoroutine:=false,more:=[] },[(10,false)],[6,0],[]⟩ ⟨182,19,182,82⟩) ⟨182,12,182,82⟩)
 (.cons (.assign (.name 8 ⟨183,12,183,17⟩) (.comp false (.var 11 ⟨183,21,183,22⟩) (.name 11 ⟨183,27,183,28⟩) (.call 16 ⟨183,32,183,37⟩ (.cons (.cint 4 ⟨183,38,183,39⟩) .nil) ⟨183,32,183,40⟩) .nil (.cons (.name 12 ⟨183,45,183,46⟩) (.call 16 ⟨183,50,183,55⟩ (.cons (.cint 3 ⟨183,56,183,57⟩) .nil) ⟨183,50,183,58⟩) (.cons (.boolop .And (.cons (.cmp .Lt (.sub (.sub (.var 0 ⟨183,62,183,67⟩) (.var 11 ⟨183,68,183,69⟩) ⟨183,62,183,70⟩) (.var 12 ⟨183,71,183,72⟩) ⟨183,62,183,73⟩) (.sub (.var 7 ⟨183,76,183,80⟩) (.var 11 ⟨183,81,183,82⟩) ⟨183,76,183,83⟩) ⟨183,62,183,83⟩) (.cons (.cmp .Gt (.sub (.sub (.var 1 ⟨183,88,183,93⟩) (.var 12 ⟨183,94,183,95⟩) ⟨183,88,183,96⟩) (.var 11 ⟨183,97,183,98⟩) ⟨183,88,183,99⟩) (.sub (.sub (.var 1 ⟨183,102,183,107⟩) (.var 12 ⟨183,108,183,109⟩) ⟨183,102,183,110⟩) (.sub (.var 6 ⟨183,111,183,115⟩) (.var 12 ⟨183,116,183,117⟩) ⟨183,111,183,118⟩) ⟨183,102,183,119⟩) ⟨183,88,183,119⟩) .nil)) ⟨183,62,183,119⟩) .nil) .nil) ⟨{ kind:=.function,names:=[(nS ".0",.local),(nS "k",.local),(nS "d",.local),(nS "range",.globalImplicit),(nS "have",.free),(nS "held",.free),(nS "likes",.free),(nS "ranks",.free)],isGenerator:=false,isCoroutine:=false,more:=[] },[(11,false),(12,false)],[7,6,1,0],[16]⟩ ⟨183,20,183,120⟩) ⟨183,12,183,120⟩)
 (.cons (.cond (.cmp .Eq (.var 8 ⟨184,15,184,20⟩) (.list false .nil ⟨184,24,184,26⟩) ⟨184,15,184,26⟩)
 (.cons (.assign (.name 2 ⟨185,16,185,20⟩) (.comp false (.call 27 ⟨185,24,185,27⟩ (.cons (.sub (.var 2 ⟨185,28,185,32⟩) (.var 13 ⟨185,33,185,34⟩) ⟨185,28,185,35⟩) (.cons (.sub (.var 7 ⟨185,37,185,41⟩) (.var 13 ⟨185,42,185,43⟩) ⟨185,37,185,44⟩) .nil)) ⟨185,24,185,45⟩) (.name 13 ⟨185,50,185,51⟩) (.call 16 ⟨185,55,185,60⟩ (.cons (.cint 4 ⟨185,61,185,62⟩) .nil) ⟨185,55,185,63⟩) .nil .nil ⟨{ kind:=.function,names:=[(nS ".0",.local),(nS "k",.local),(nS "min",.globalImplicit),(nS "best",.free),(nS "have",.free)],isGenerator:=false,isCoroutine:=false,more:=[] },[(13,false)],[2,7],[27]⟩ ⟨185,23,185,64⟩) ⟨185,16,185,64⟩)
 .nil)
 .nil ⟨184,12,185,64⟩)
 .nil))))
 .nil ⟨180,8,185,64⟩)
 .nil)
 .nil ⟨179,4,185,64⟩)
 (.cons (.ret (.var 2 ⟨186,11,186,15⟩) ⟨186,4,186,15⟩)
 .nil)))
noncomputable def f__law_best:Fn:={ tb:=[nS "ranks",nS "likes",nS "best",nS "a",nS "b",nS "c",nS "held",nS "have",nS "upset",nS "i",nS "k",nS "k",nS "d",nS "k"],vis:=[(0,true),(1,true),(2,true),(3,false),(4,false),(5,false),(6,true),(7,true),(8,false)],wv:=[0,1,2,3,4,5,6,7,8],gl:=[16],n:=14,np:=2,fz:=true,body:=b__law_best }
noncomputable def b__law_run:SL :=
 (.cons (.assign (.name 4 ⟨188,4,188,8⟩) (.list true (.cons (.cnone ⟨188,12,188,16⟩) (.cons (.cnone ⟨188,18,188,22⟩) (.cons (.cnone ⟨188,24,188,28⟩) .nil))) ⟨188,11,188,29⟩) ⟨188,4,188,29⟩)
 (.cons (.assign (.name 6 ⟨189,4,189,7⟩) (.comp true (.call 10 ⟨189,11,189,14⟩ (.cons (.var 13 ⟨189,15,189,16⟩) .nil) ⟨189,11,189,17⟩) (.name 13 ⟨189,22,189,23⟩) (.var 1 ⟨189,27,189,32⟩) .nil .nil ⟨{ kind:=.function,names:=[(nS ".0",.local),(nS "k",.local),(nS "str",.globalImplicit)],isGenerator:=false,isCoroutine:=false,more:=[] },[(13,false)],[],[10]⟩ ⟨189,10,189,33⟩) ⟨189,4,189,33⟩)
 (.cons (.loop [7] (.name 7 ⟨190,8,190,12⟩) (.var 6 ⟨190,16,190,19⟩)
 (.cons (.expr (.meth (.var 0 ⟨191,8,191,11⟩) .push_token (.cons (.var 7 ⟨191,23,191,27⟩) .nil) ⟨191,8,191,22⟩ ⟨191,8,191,28⟩) ⟨191,8,191,28⟩)
 .nil)
 .nil ⟨190,4,191,28⟩)
 (.cons (.assign (.name 8 ⟨192,4,192,7⟩) (.list true .nil ⟨192,10,192,12⟩) ⟨192,4,192,12⟩)
 (.cons (.assign (.name 7 ⟨193,4,193,8⟩) (.meth (.var 0 ⟨193,11,193,14⟩) .get_token .nil ⟨193,11,193,24⟩ ⟨193,11,193,26⟩) ⟨193,4,193,26⟩)
 (.cons (.whil 1000000 [5,9,10,11,12] (.cmp .NotIn (.var 7 ⟨194,10,194,14⟩) (.tup (.cons (.cstr [] ⟨194,23,194,25⟩) (.cons (.cstr [46] ⟨194,27,194,30⟩) .nil)) ⟨194,22,194,31⟩) ⟨194,10,194,31⟩)
 (.cons (.expr (.meth (.var 8 ⟨195,8,195,11⟩) .append (.cons (.var 7 ⟨195,19,195,23⟩) .nil) ⟨195,8,195,18⟩ ⟨195,8,195,24⟩) ⟨195,8,195,24⟩)
 (.cons (.assign (.name 5 ⟨196,8,196,9⟩) (.call 7 ⟨196,12,196,15⟩ (.cons (.var 7 ⟨196,16,196,20⟩) .nil) ⟨196,12,196,21⟩) ⟨196,8,196,21⟩)
 (.cons (.assign (.name 9 ⟨197,8,197,12⟩) (.meth (.sub (.var 2 ⟨197,15,197,18⟩) (.var 5 ⟨197,19,197,20⟩) ⟨197,15,197,21⟩) .get_token .nil ⟨197,15,197,31⟩ ⟨197,15,197,33⟩) ⟨197,8,197,33⟩)
 (.cons (.cond (.cmp .NotEq (.var 9 ⟨198,11,198,15⟩) (.cstr [] ⟨198,19,198,21⟩) ⟨198,11,198,21⟩)
 (.cons (.assign (.name 10 ⟨199,12,199,13⟩) (.meth (.cstr [117,103,111] ⟨199,16,199,21⟩) .index (.cons (.var 9 ⟨199,28,199,32⟩) .nil) ⟨199,16,199,27⟩ ⟨199,16,199,33⟩) ⟨199,12,199,33⟩)
 (.cons (.assign (.name 11 ⟨200,12,200,17⟩) (.sub (.var 4 ⟨200,20,200,24⟩) (.var 10 ⟨200,25,200,26⟩) ⟨200,20,200,27⟩) ⟨200,12,200,27⟩)
 (.cons (.cond (.cmp .Is (.var 11 ⟨201,15,201,20⟩) (.cnone ⟨201,24,201,28⟩) ⟨201,15,201,28⟩)
 (.cons (.assignSub (.var 4 ⟨202,16,202,20⟩) (.var 10 ⟨202,21,202,22⟩) ⟨202,16,202,23⟩ (.var 5 ⟨202,26,202,27⟩) ⟨202,16,202,27⟩)
 .nil)
 (.cons (.assign (.name 12 ⟨204,16,204,21⟩) (.comp false (.bin .Sub (.bin .Mult (.cint 16 ⟨204,25,204,27⟩) (.call 28 ⟨204,30,204,41⟩ (.cons (.sub (.var 3 ⟨204,42,204,46⟩) (.var 14 ⟨204,47,204,51⟩) ⟨204,42,204,52⟩) (.cons (.var 10 ⟨204,54,204,55⟩) .nil)) ⟨204,30,204,56⟩) ⟨204,25,204,56⟩) (.var 14 ⟨204,59,204,63⟩) ⟨204,25,204,63⟩) (.name 14 ⟨204,68,204,72⟩) (.tup (.cons (.var 5 ⟨204,77,204,78⟩) (.cons (.var 11 ⟨204,80,204,85⟩) .nil)) ⟨204,76,204,86⟩) .nil .nil ⟨{ kind:=.function,names:=[(nS ".0",.local),(nS "file",.local),(nS "_law_by_row",.globalImplicit),(nS "c",.free),(nS "rows",.free)],isGenerator:=false,isCoroutine:=false,more:=[] },[(14,false)],[10,3],[28]⟩ ⟨204,24,204,87⟩) ⟨204,16,204,87⟩)
 (.cons (.assignSub (.var 4 ⟨205,16,205,20⟩) (.var 10 ⟨205,21,205,22⟩) ⟨205,16,205,23⟩ (.ife (.cmp .Gt (.sub (.var 12 ⟨205,31,205,36⟩) (.cint 0 ⟨205,37,205,38⟩) ⟨205,31,205,39⟩) (.sub (.var 12 ⟨205,42,205,47⟩) (.cint 1 ⟨205,48,205,49⟩) ⟨205,42,205,50⟩) ⟨205,31,205,50⟩) (.var 5 ⟨205,26,205,27⟩) (.var 11 ⟨205,56,205,61⟩) ⟨205,26,205,61⟩) ⟨205,16,205,61⟩)
 (.cons (.expr (.meth (.var 6 ⟨206,16,206,19⟩) .append (.cons (.call 10 ⟨206,27,206,30⟩ (.cons (.ife (.cmp .Eq (.sub (.var 4 ⟨206,40,206,44⟩) (.var 10 ⟨206,45,206,46⟩) ⟨206,40,206,47⟩) (.var 5 ⟨206,51,206,52⟩) ⟨206,40,206,52⟩) (.var 11 ⟨206,31,206,36⟩) (.var 5 ⟨206,58,206,59⟩) ⟨206,31,206,59⟩) .nil) ⟨206,27,206,60⟩) .nil) ⟨206,16,206,26⟩ ⟨206,16,206,61⟩) ⟨206,16,206,61⟩)
 (.cons (.expr (.meth (.var 0 ⟨207,16,207,19⟩) .push_token (.cons (.sub (.var 6 ⟨207,31,207,34⟩) (.neg (.cint 1 ⟨207,36,207,37⟩) ⟨207,35,207,37⟩) ⟨207,31,207,38⟩) .nil) ⟨207,16,207,30⟩ ⟨207,16,207,39⟩) ⟨207,16,207,39⟩)
 .nil)))) ⟨201,12,207,39⟩)
 .nil)))
 .nil ⟨198,8,207,39⟩)
 (.cons (.assign (.name 7 ⟨208,8,208,12⟩) (.meth (.var 0 ⟨208,15,208,18⟩) .get_token .nil ⟨208,15,208,28⟩ ⟨208,15,208,30⟩) ⟨208,8,208,30⟩)
 .nil))))) ⟨194,4,208,30⟩)
 (.cons (.ret (.tup (.cons (.var 4 ⟨209,12,209,16⟩) (.cons (.cmp .Eq (.var 8 ⟨209,18,209,21⟩) (.var 6 ⟨209,25,209,28⟩) ⟨209,18,209,28⟩) .nil)) ⟨209,11,209,29⟩) ⟨209,4,209,29⟩)
 .nil)))))))
noncomputable def f__law_run:Fn:={ tb:=[nS "lex",nS "order",nS "own",nS "rows",nS "held",nS "k",nS "put",nS "word",nS "got",nS "wish",nS "c",nS "other",nS "worth",nS "k",nS "file"],vis:=[(0,false),(1,false),(2,false),(3,true),(4,false),(5,false),(6,false),(7,false),(8,false),(9,false),(10,true),(11,false),(12,false)],wv:=[0,1,2,3,4,5,6,7,8,9,10,11,12],gl:=[7,10],n:=15,np:=4,fz:=true,body:=b__law_run }
noncomputable def b_law:SL :=
 (.cons (.assign (.name 1 ⟨211,4,211,11⟩) (.call 29 ⟨211,14,211,26⟩ (.cons (.var 0 ⟨211,27,211,33⟩) .nil) ⟨211,14,211,34⟩) ⟨211,4,211,34⟩)
 (.cons (.assign (.name 2 ⟨212,4,212,9⟩) (.comp false (.bin .Mod (.var 20 ⟨212,13,212,19⟩) (.cint 65536 ⟨212,22,212,27⟩) ⟨212,13,212,27⟩) (.name 20 ⟨212,32,212,38⟩) (.var 1 ⟨212,42,212,49⟩) .nil .nil ⟨{ kind:=.function,names:=[(nS ".0",.local),(nS "number",.local)],isGenerator:=false,isCoroutine:=false,more:=[] },[(20,false)],[],[]⟩ ⟨212,12,212,50⟩) ⟨212,4,212,50⟩)
 (.cons (.assign (.name 3 ⟨213,4,213,11⟩) (.call 30 ⟨213,14,213,26⟩ (.cons (.var 2 ⟨213,27,213,32⟩) .nil) ⟨213,14,213,33⟩) ⟨213,4,213,33⟩)
 (.cons (.assign (.name 4 ⟨214,4,214,10⟩) (.comp false (.call 31 ⟨214,14,214,25⟩ (.cons (.bin .FloorDiv (.var 21 ⟨214,26,214,32⟩) (.cint 65536 ⟨214,36,214,41⟩) ⟨214,26,214,41⟩) .nil) ⟨214,14,214,42⟩) (.name 21 ⟨214,47,214,53⟩) (.var 1 ⟨214,57,214,64⟩) .nil .nil ⟨{ kind:=.function,names:=[(nS ".0",.local),(nS "number",.local),(nS "_law_wishes",.globalImplicit)],isGenerator:=false,isCoroutine:=false,more:=[] },[(21,false)],[],[31]⟩ ⟨214,13,214,65⟩) ⟨214,4,214,65⟩)
 (.cons (.assign (.name 5 ⟨215,4,215,9⟩) (.list true .nil ⟨215,12,215,14⟩) ⟨215,4,215,14⟩)
 (.cons (.assign (.name 6 ⟨216,4,216,8⟩) (.cstr [] ⟨216,11,216,13⟩) ⟨216,4,216,13⟩)
 (.cons (.loop [7] (.name 7 ⟨217,8,217,9⟩) (.call 16 ⟨217,13,217,18⟩ (.cons (.cint 4 ⟨217,19,217,20⟩) .nil) ⟨217,13,217,21⟩)
 (.cons (.expr (.meth (.var 5 ⟨218,8,218,13⟩) .extend (.cons (.list false (.cons (.call 32 ⟨218,22,218,30⟩ (.cons (.sub (.var 2 ⟨218,31,218,36⟩) (.var 7 ⟨218,37,218,38⟩) ⟨218,31,218,39⟩) .nil) ⟨218,22,218,40⟩) (.cons (.meth (.cstr [] ⟨218,42,218,44⟩) .join (.cons (.sub (.var 4 ⟨218,50,218,56⟩) (.var 7 ⟨218,57,218,58⟩) ⟨218,50,218,59⟩) .nil) ⟨218,42,218,49⟩ ⟨218,42,218,60⟩) .nil)) ⟨218,21,218,61⟩) .nil) ⟨218,8,218,20⟩ ⟨218,8,218,62⟩) ⟨218,8,218,62⟩)
 (.cons (.aug 6 ⟨219,8,219,12⟩ .Add (.bin .Add (.call 33 ⟨219,16,219,28⟩ (.cons (.sub (.var 5 ⟨219,29,219,34⟩) (.neg (.cint 2 ⟨219,36,219,37⟩) ⟨219,35,219,37⟩) ⟨219,29,219,38⟩) (.cons (.bin .Mod (.bin .FloorDiv (.sub (.var 1 ⟨219,40,219,47⟩) (.var 7 ⟨219,48,219,49⟩) ⟨219,40,219,50⟩) (.cint 65536 ⟨219,54,219,59⟩) ⟨219,40,219,59⟩) (.cint 40 ⟨219,62,219,64⟩) ⟨219,40,219,64⟩) .nil)) ⟨219,16,219,65⟩) (.call 34 ⟨219,68,219,77⟩ (.cons (.sub (.var 5 ⟨219,78,219,83⟩) (.neg (.cint 1 ⟨219,85,219,86⟩) ⟨219,84,219,86⟩) ⟨219,78,219,87⟩) .nil) ⟨219,68,219,88⟩) ⟨219,16,219,88⟩) ⟨219,8,219,88⟩)
 .nil))
 .nil ⟨217,4,219,88⟩)
 (.cons (.aug 6 ⟨220,4,220,8⟩ .Add (.cstr [13,32,46] ⟨220,12,220,18⟩) ⟨220,4,220,18⟩)
 (.cons (.assign (.name 8 ⟨221,4,221,6⟩) (.list true (.cons (.cint 0 ⟨221,10,221,11⟩) .nil) ⟨221,9,221,12⟩) ⟨221,4,221,12⟩)
 (.cons (.assign (.name 9 ⟨222,4,222,7⟩) (.call 35 ⟨222,10,222,20⟩ (.cons (.var 6 ⟨222,21,222,25⟩) (.cons (.var 8 ⟨222,27,222,29⟩) .nil)) ⟨222,10,222,30⟩) ⟨222,4,222,30⟩)
 (.cons (.assign (.name 10 ⟨223,4,223,8⟩) (.comp false (.meth (.var 9 ⟨223,12,223,15⟩) .get_token .nil ⟨223,12,223,25⟩ ⟨223,12,223,27⟩) (.name 22 ⟨223,32,223,36⟩) (.var 5 ⟨223,40,223,45⟩) .nil .nil ⟨{ kind:=.function,names:=[(nS ".0",.local),(nS "word",.local),(nS "lex",.free)],isGenerator:=false,isCoroutine:=false,more:=[] },[(22,false)],[9],[]⟩ ⟨223,11,223,46⟩) ⟨223,4,223,46⟩)
 (.cons (.cond (.cmp .NotEq (.var 10 ⟨224,7,224,11⟩) (.var 5 ⟨224,15,224,20⟩) ⟨224,7,224,20⟩)
 (.cons (.ret (.cbool false ⟨225,15,225,20⟩) ⟨225,8,225,20⟩)
 .nil)
 .nil ⟨224,4,225,20⟩)
 (.cons (.assign (.name 11 ⟨226,4,226,10⟩) (.call 36 ⟨226,13,226,16⟩ (.cons (.var 0 ⟨226,17,226,23⟩) .nil) ⟨226,13,226,24⟩) ⟨226,4,226,24⟩)
 (.cons (.assign (.name 12 ⟨227,4,227,9⟩) (.comp false (.bin .Mod (.bin .Add (.var 11 ⟨227,14,227,20⟩) (.bin .Mult (.var 23 ⟨227,23,227,24⟩) (.bin .Add (.cint 1 ⟨227,28,227,29⟩) (.bin .Mult (.bin .Mod (.bin .FloorDiv (.var 11 ⟨227,32,227,38⟩) (.cint 4 ⟨227,42,227,43⟩) ⟨227,32,227,43⟩) (.cint 2 ⟨227,46,227,47⟩) ⟨227,32,227,47⟩) (.cint 2 ⟨227,50,227,51⟩) ⟨227,32,227,51⟩) ⟨227,28,227,51⟩) ⟨227,23,227,52⟩) ⟨227,14,227,52⟩) (.cint 4 ⟨227,56,227,57⟩) ⟨227,13,227,57⟩) (.name 23 ⟨227,62,227,63⟩) (.call 16 ⟨227,67,227,72⟩ (.cons (.cint 4 ⟨227,73,227,74⟩) .nil) ⟨227,67,227,75⟩) .nil .nil ⟨{ kind:=.function,names:=[(nS ".0",.local),(nS "k",.local),(nS "turned",.free)],isGenerator:=false,isCoroutine:=false,more:=[] },[(23,false)],[11],[]⟩ ⟨227,12,227,76⟩) ⟨227,4,227,76⟩)
 (.cons (.assign (.name 13 ⟨228,4,228,10⟩) (.comp false (.list true (.cons (.cint 0 ⟨228,15,228,16⟩) .nil) ⟨228,14,228,17⟩) (.name 24 ⟨228,22,228,23⟩) (.call 16 ⟨228,27,228,32⟩ (.cons (.cint 4 ⟨228,33,228,34⟩) .nil) ⟨228,27,228,35⟩) .nil .nil ⟨{ kind:=.function,names:=[(nS ".0",.local),(nS "k",.local)],isGenerator:=false,isCoroutine:=false,more:=[] },[(24,false)],[],[]⟩ ⟨228,13,228,36⟩) ⟨228,4,228,36⟩)
 (.cons (.assign (.name 14 ⟨229,4,229,7⟩) (.comp false (.call 35 ⟨229,11,229,21⟩ (.cons (.sub (.var 10 ⟨229,22,229,26⟩) (.bin .Add (.bin .Mult (.cint 2 ⟨229,27,229,28⟩) (.var 25 ⟨229,31,229,32⟩) ⟨229,27,229,32⟩) (.cint 1 ⟨229,35,229,36⟩) ⟨229,27,229,36⟩) ⟨229,22,229,37⟩) (.cons (.sub (.var 13 ⟨229,39,229,45⟩) (.var 25 ⟨229,46,229,47⟩) ⟨229,39,229,48⟩) .nil)) ⟨229,11,229,49⟩) (.name 25 ⟨229,54,229,55⟩) (.call 16 ⟨229,59,229,64⟩ (.cons (.cint 4 ⟨229,65,229,66⟩) .nil) ⟨229,59,229,67⟩) .nil .nil ⟨{ kind:=.function,names:=[(nS ".0",.local),(nS "k",.local),(nS "_law_lexer",.globalImplicit),(nS "places",.free),(nS "told",.free)],isGenerator:=false,isCoroutine:=false,more:=[] },[(25,false)],[13,10],[35]⟩ ⟨229,10,229,68⟩) ⟨229,4,229,68⟩)
 (.cons (.assign (.tup [(15,⟨230,4,230,8⟩),(16,⟨230,10,230,17⟩)] ⟨230,4,230,17⟩) (.call 37 ⟨230,20,230,28⟩ (.cons (.var 9 ⟨230,29,230,32⟩) (.cons (.var 12 ⟨230,34,230,39⟩) (.cons (.var 14 ⟨230,41,230,44⟩) (.cons (.slice (.var 10 ⟨230,46,230,50⟩) .none .none (.some (.cint 2 ⟨230,53,230,54⟩)) ⟨230,51,230,54⟩ ⟨230,46,230,55⟩) .nil)))) ⟨230,20,230,56⟩) ⟨230,4,230,56⟩)
 (.cons (.cond (.cmp .NotEq (.tup (.cons (.var 16 ⟨231,8,231,15⟩) (.cons (.meth (.var 9 ⟨231,17,231,20⟩) .get_token .nil ⟨231,17,231,30⟩ ⟨231,17,231,32⟩) (.cons (.sub (.var 8 ⟨231,34,231,36⟩) (.cint 0 ⟨231,37,231,38⟩) ⟨231,34,231,39⟩) (.cons (.attr (.var 9 ⟨231,41,231,44⟩) .lineno ⟨231,41,231,51⟩) .nil)))) ⟨231,7,231,52⟩) (.tup (.cons (.cbool true ⟨231,57,231,61⟩) (.cons (.cstr [] ⟨231,63,231,65⟩) (.cons (.call 0 ⟨231,67,231,70⟩ (.cons (.var 6 ⟨231,71,231,75⟩) .nil) ⟨231,67,231,76⟩) (.cons (.bin .Add (.cint 1 ⟨231,78,231,79⟩) (.meth (.var 6 ⟨231,82,231,86⟩) .count (.cons (.cstr [10] ⟨231,93,231,97⟩) .nil) ⟨231,82,231,92⟩ ⟨231,82,231,98⟩) ⟨231,78,231,98⟩) .nil)))) ⟨231,56,231,99⟩) ⟨231,7,231,99⟩)
 (.cons (.ret (.cbool false ⟨232,15,232,20⟩) ⟨232,8,232,20⟩)
 .nil)
 .nil ⟨231,4,232,20⟩)
 (.cons (.assign (.name 17 ⟨233,4,233,9⟩) (.comp false (.comp false (.meth (.meth (.cstr [] ⟨233,14,233,16⟩) .join (.cons (.var 26 ⟨233,22,233,25⟩) .nil) ⟨233,14,233,21⟩ ⟨233,14,233,26⟩) .index (.cons (.var 27 ⟨233,33,233,37⟩) .nil) ⟨233,14,233,32⟩ ⟨233,14,233,38⟩) (.name 27 ⟨233,43,233,47⟩) (.cstr [117,103,111] ⟨233,51,233,56⟩) .nil .nil ⟨{ kind:=.function,names:=[(nS ".0",.local),(nS "name",.local),(nS "row",.free)],isGenerator:=false,isCoroutine:=false,more:=[] },[(27,false)],[26],[]⟩ ⟨233,13,233,57⟩) (.name 26 ⟨233,62,233,65⟩) (.var 4 ⟨233,69,233,75⟩) .nil .nil ⟨{ kind:=.function,names:=[(nS ".0",.local),(nS "row",.cell)],isGenerator:=false,isCoroutine:=false,more:=[] },[(26,true)],[],[]⟩ ⟨233,12,233,76⟩) ⟨233,4,233,76⟩)
 (.cons (.assign (.name 17 ⟨234,4,234,9⟩) (.comp false (.comp false (.meth (.call 38 ⟨234,14,234,20⟩ (.cons (.var 28 ⟨234,21,234,24⟩) .nil) ⟨234,14,234,25⟩) .index (.cons (.var 29 ⟨234,32,234,37⟩) .nil) ⟨234,14,234,31⟩ ⟨234,14,234,38⟩) (.name 29 ⟨234,43,234,48⟩) (.var 28 ⟨234,52,234,55⟩) .nil .nil ⟨{ kind:=.function,names:=[(nS ".0",.local),(nS "place",.local),(nS "sorted",.globalImplicit),(nS "row",.free)],isGenerator:=false,isCoroutine:=false,more:=[] },[(29,false)],[28],[38]⟩ ⟨234,13,234,56⟩) (.name 28 ⟨234,61,234,64⟩) (.var 17 ⟨234,68,234,73⟩) .nil .nil ⟨{ kind:=.function,names:=[(nS ".0",.local),(nS "row",.cell)],isGenerator:=false,isCoroutine:=false,more:=[] },[(28,true)],[],[]⟩ ⟨234,12,234,74⟩) ⟨234,4,234,74⟩)
 (.cons (.assign (.name 18 ⟨235,4,235,9⟩) (.comp false (.comp false (.bin .Sub (.bin .Mult (.cint 16 ⟨235,14,235,16⟩) (.call 39 ⟨235,19,235,32⟩ (.cons (.var 3 ⟨235,33,235,40⟩) (.cons (.var 31 ⟨235,42,235,43⟩) (.cons (.var 30 ⟨235,45,235,46⟩) .nil))) ⟨235,19,235,47⟩) ⟨235,14,235,47⟩) (.var 31 ⟨235,50,235,51⟩) ⟨235,14,235,51⟩) (.name 31 ⟨235,56,235,57⟩) (.call 16 ⟨235,61,235,66⟩ (.cons (.cint 4 ⟨235,67,235,68⟩) .nil) ⟨235,61,235,69⟩) .nil .nil ⟨{ kind:=.function,names:=[(nS ".0",.local),(nS "k",.local),(nS "_law_by_signs",.globalImplicit),(nS "c",.free),(nS "writing",.free)],isGenerator:=false,isCoroutine:=false,more:=[] },[(31,false)],[30,3],[39]⟩ ⟨235,13,235,70⟩) (.name 30 ⟨235,75,235,76⟩) (.call 16 ⟨235,80,235,85⟩ (.cons (.cint 3 ⟨235,86,235,87⟩) .nil) ⟨235,80,235,88⟩) .nil .nil ⟨{ kind:=.function,names:=[(nS ".0",.local),(nS "c",.cell),(nS "range",.globalImplicit),(nS "writing",.free)],isGenerator:=false,isCoroutine:=false,more:=[] },[(30,true)],[3],[16]⟩ ⟨235,12,235,89⟩) ⟨235,4,235,89⟩)
 (.cons (.assign (.name 19 ⟨236,4,236,8⟩) (.call 40 ⟨236,11,236,20⟩ (.cons (.var 17 ⟨236,21,236,26⟩) (.cons (.var 18 ⟨236,28,236,33⟩) .nil)) ⟨236,11,236,34⟩) ⟨236,4,236,34⟩)
 (.cons (.cond (.cmp .NotEq (.comp false (.ife (.cmp .In (.var 32 ⟨237,35,237,36⟩) (.var 15 ⟨237,40,237,44⟩) ⟨237,35,237,44⟩) (.sub (.sub (.var 17 ⟨237,8,237,13⟩) (.var 32 ⟨237,14,237,15⟩) ⟨237,8,237,16⟩) (.meth (.var 15 ⟨237,17,237,21⟩) .index (.cons (.var 32 ⟨237,28,237,29⟩) .nil) ⟨237,17,237,27⟩ ⟨237,17,237,30⟩) ⟨237,8,237,31⟩) (.cint 3 ⟨237,50,237,51⟩) ⟨237,8,237,51⟩) (.name 32 ⟨237,56,237,57⟩) (.call 16 ⟨237,61,237,66⟩ (.cons (.cint 4 ⟨237,67,237,68⟩) .nil) ⟨237,61,237,69⟩) .nil .nil ⟨{ kind:=.function,names:=[(nS ".0",.local),(nS "k",.local),(nS "held",.free),(nS "ranks",.free)],isGenerator:=false,isCoroutine:=false,more:=[] },[(32,false)],[15,17],[]⟩ ⟨237,7,237,70⟩) (.var 19 ⟨237,74,237,78⟩) ⟨237,7,237,78⟩)
 (.cons (.ret (.cbool false ⟨238,15,238,20⟩) ⟨238,8,238,20⟩)
 .nil)
 .nil ⟨237,4,238,20⟩)
 (.cons (.ret (.cmp .Eq (.comp false (.sub (.var 33 ⟨239,12,239,17⟩) (.cint 0 ⟨239,18,239,19⟩) ⟨239,12,239,20⟩) (.name 33 ⟨239,25,239,30⟩) (.var 13 ⟨239,34,239,40⟩) .nil .nil ⟨{ kind:=.function,names:=[(nS ".0",.local),(nS "place",.local)],isGenerator:=false,isCoroutine:=false,more:=[] },[(33,false)],[],[]⟩ ⟨239,11,239,41⟩) (.comp false (.call 0 ⟨239,46,239,49⟩ (.cons (.meth (.cstr [] ⟨239,50,239,52⟩) .join (.cons (.slice (.sub (.var 4 ⟨239,58,239,64⟩) (.var 34 ⟨239,65,239,66⟩) ⟨239,58,239,67⟩) .none (.some (.bin .Add (.sub (.var 19 ⟨239,69,239,73⟩) (.var 34 ⟨239,74,239,75⟩) ⟨239,69,239,76⟩) (.cint 1 ⟨239,79,239,80⟩) ⟨239,69,239,80⟩)) .none ⟨239,68,239,80⟩ ⟨239,58,239,81⟩) .nil) ⟨239,50,239,57⟩ ⟨239,50,239,82⟩) .nil) ⟨239,46,239,83⟩) (.name 34 ⟨239,88,239,89⟩) (.call 16 ⟨239,93,239,98⟩ (.cons (.cint 4 ⟨239,99,239,100⟩) .nil) ⟨239,93,239,101⟩) .nil .nil ⟨{ kind:=.function,names:=[(nS ".0",.local),(nS "k",.local),(nS "len",.globalImplicit),(nS "best",.free),(nS "pieces",.free)],isGenerator:=false,isCoroutine:=false,more:=[] },[(34,false)],[19,4],[0]⟩ ⟨239,45,239,102⟩) ⟨239,11,239,102⟩) ⟨239,4,239,102⟩)
 .nil))))))))))))))))))))))))
noncomputable def f_law:Fn:={ tb:=[nS "script",nS "numbers",nS "modes",nS "writing",nS "pieces",nS "words",nS "text",nS "k",nS "at",nS "lex",nS "told",nS "turned",nS "order",nS "places",nS "own",nS "held",nS "ordered",nS "ranks",nS "likes",nS "best",nS "number",nS "number",nS "word",nS "k",nS "k",nS "k",nS "row",nS "name",nS "row",nS "place",nS "c",nS "k",nS "k",nS "place",nS "k"],vis:=[(0,false),(1,false),(2,false),(3,true),(4,true),(5,false),(6,false),(7,false),(8,false),(9,true),(10,true),(11,true),(12,false),(13,true),(14,false),(15,true),(16,false),(17,true),(18,false),(19,true)],wv:=[0,1,2,3,4,5,6,7,8,9,10,11,12,13,14,15,16,17,18,19],gl:=[29,30,16,32,33,34,35,36,37,0,40],n:=35,np:=1,fz:=true,body:=b_law }
noncomputable def fnsL:List (Option Fn):=[some f__read_char,some f_get_token,some f_push_token,some f__buffer,some f__truth,some f_b2a_base64,some f_b64encode,some f_S_IMODE,some f_S_IFMT,some f_filemode,some f__law_numbers,some f__law_writing,some f__law_wishes,some f__law_written,some f__law_shut,none,some f__law_by_row,some f__law_by_signs,some f__law_best,some f__law_run,some f_law]
noncomputable abbrev i__read_char:Nat:=0
noncomputable abbrev i_get_token:Nat:=1
noncomputable abbrev i_push_token:Nat:=2
noncomputable abbrev i__buffer:Nat:=3
noncomputable abbrev i__truth:Nat:=4
noncomputable abbrev i_b2a_base64:Nat:=5
noncomputable abbrev i_b64encode:Nat:=6
noncomputable abbrev i_S_IMODE:Nat:=7
noncomputable abbrev i_S_IFMT:Nat:=8
noncomputable abbrev i_filemode:Nat:=9
noncomputable abbrev i__law_numbers:Nat:=10
noncomputable abbrev i__law_writing:Nat:=11
noncomputable abbrev i__law_wishes:Nat:=12
noncomputable abbrev i__law_written:Nat:=13
noncomputable abbrev i__law_shut:Nat:=14
noncomputable abbrev i__law_lexer:Nat:=15
noncomputable abbrev i__law_by_row:Nat:=16
noncomputable abbrev i__law_by_signs:Nat:=17
noncomputable abbrev i__law_best:Nat:=18
noncomputable abbrev i__law_run:Nat:=19
noncomputable abbrev i_law:Nat:=20
noncomputable def addrL:List Nat:=[42,49,56,70,77,85,93,100,107,147,154,159,166,173,180,187,194,201,206,211,216]
noncomputable def fa (k:Nat):Addr:=if k=100 then 217 else addrL.getD k 0
noncomputable def gL:List (Option V):=[some (.bi .len),some (.bi .iter),some (.ty .type),some (.ty .bytes),some (.ty .bytearray),none,some (.ty .bool),some (.ty .int),none,none,some (.ty .str),none,none,none,none,none,some (.ty .range),some (.fn 3),some (.fn 4),some (.bytes [65,66,67,68,69,70,71,72,73,74,75,76,77,78,79,80,81,82,83,84,85,86,87,88,89,90,97,98,99,100,101,102,103,104,105,106,107,108,109,110,111,112,113,114,115,116,117,118,119,120,121,122,48,49,50,51,52,53,54,55,56,57,43,47]),some (.fn 5),some (.ty .enumerate),some (.tup [.tup [.tup [.int 40960,.str [108]],.tup [.int 49152,.str [115]],.tup [.int 32768,.str [45]],.tup [.int 24576,.str [98]],.tup [.int 16384,.str [100]],.tup [.int 8192,.str [99]],.tup [.int 4096,.str [112]]],.tup [.tup [.int 256,.str [114]]],.tup [.tup [.int 128,.str [119]]],.tup [.tup [.int 2112,.str [115]],.tup [.int 2048,.str [83]],.tup [.int 64,.str [120]]],.tup [.tup [.int 32,.str [114]]],.tup [.tup [.int 16,.str [119]]],.tup [.tup [.int 1032,.str [115]],.tup [.int 1024,.str [83]],.tup [.int 8,.str [120]]],.tup [.tup [.int 4,.str [114]]],.tup [.tup [.int 2,.str [119]]],.tup [.tup [.int 513,.str [116]],.tup [.int 512,.str [84]],.tup [.int 1,.str [120]]]]),some (.fn 8),some (.fn 7),some (.fn 6),some (.bi .chr),some (.bi .min),some (.fn 16),some (.fn 10),some (.fn 11),some (.fn 12),some (.fn 9),some (.fn 13),some (.fn 14),some (.fn 15),some (.bi .sum),some (.fn 19),some (.bi .sorted),some (.fn 17),some (.fn 18)]
noncomputable def TT:Tab:={ gt,fns:=fun k=>(fnsL[k]?).join,pad:=fun k=>if k=6 then [.none] else [],lx:=15,me:=fun | .get_token=>1 | .push_token=>2 | .read_char=>0 | _=>1000,kws:=fun k nm=>k==5&&nm==kwNm,G:=fun g=>(gL[g]?).join }
end Mine
namespace Mine
open PySem
section
variable {n:Nat} {σ:Sto} {m:Int}
theorem x_S_IMODE:phi TT (n+1) i_S_IMODE [.int m] σ=some (.int (Builtin.bitAnd m 4095),σ) :=
 f_call rfl rfl rfl (l_one (s_ret (r_bin rfl rfl rfl))) rfl (leave_same rfl rfl)
theorem x_S_IFMT:phi TT (n+1) i_S_IFMT [.int m] σ=some (.int (Builtin.bitAnd m 61440),σ) :=
 f_call rfl rfl rfl (l_one (s_ret (r_bin rfl rfl rfl))) rfl (leave_same rfl rfl)
noncomputable abbrev Row:Type:=Int × Nat
noncomputable def ftab0:List Row:=[(40960,108),(49152,115),(32768,45),(24576,98),(16384,100),(8192,99),(4096,112)]
noncomputable def ftabs:List (List Row):=[[(256,114)],[(128,119)],[(2112,115),(2048,83),(64,120)],[(32,114)],[(16,119)],[(1032,115),(1024,83),(8,120)],[(4,114)],[(2,119)],[(513,116),(512,84),(1,120)]]
noncomputable def rowV (x:Row):V:=.tup [.int x.1,.str [x.2]]
noncomputable def tabV (tb:List Row):V:=.tup (tb.map rowV)
noncomputable def hit0 (m:Int) (x:Row):Bool:=Builtin.bitAnd m 61440==x.1
noncomputable def hit1 (m:Int) (x:Row):Bool:=Builtin.bitAnd m x.1==x.1
noncomputable abbrev fmS:S:=b_filemode.get 1
noncomputable abbrev fmI:S:=fmS.a.get 0
noncomputable abbrev Lf (m i:Int) (k:Nat) (tb:List Row):Loc:=[some (.int m),some (.ref k),some (.int i),some (tabV tb),none,none]
noncomputable abbrev Lg (m i:Int) (k:Nat) (tb:List Row) (x:Row):Loc:=[some (.int m),some (.ref k),some (.int i),some (tabV tb),some (.int x.1),some (.str [x.2])]
variable {i:Int} {k:Nat} {tb:List Row} {acc:List V} {x:Row}
noncomputable abbrev inr (n:Nat):=loopStep (phi TT (n+1)) (lamN TT (n+1)) TT.G [4,5] fmI.t fmI.a
theorem add_x {Φ:Calls} {Λ:Lexer} (hk:σ.length=k) (hl:acc.length < 100):evS Φ Λ TT.G ((((fmI.a.get 0).a.get 0).a).get 0) (Lg m i k tb x) (σ++[.list acc])=some (.next,Lg m i k tb x,σ++[.list (acc++[.str [x.2]])]) :=
 s_push rfl hk rfl (Nat.lt_trans hl (by decide))
theorem row0 (hk:σ.length=k) (hl:acc.length < 100) {b:Bool} (h:hit0 m x=b):inr n (rowV x) (.next,Lf m 0 k tb) (σ++[.list acc])=some (if b then (false,(.next,Lg m 0 k tb x),σ++[.list (acc++[.str [x.2]])]) else (true,(.next,Lf m 0 k tb),σ++[.list acc])):=by
 cases b with
 | true=>exact u_brk (t:=fmI.t) rfl (l_one (s_yes (t_cmp rfl rfl rfl) (l_one (s_yes (t_cmp (r_fn rfl (r_one rfl) x_S_IFMT) rfl (q_int h)) (l_cons (add_x hk hl) (l_one rfl))))))
 | false=>exact u_next (t:=fmI.t) rfl (l_one (s_yes (t_cmp rfl rfl rfl) (l_one (s_no (t_cmp (r_fn rfl (r_one rfl) x_S_IFMT) rfl (q_int h)) rfl)))) rfl
theorem row1 (hk:σ.length=k) (hl:acc.length < 100) {j:Nat} {b:Bool} (h:hit1 m x=b):inr n (rowV x) (.next,Lf m ((j+1:Nat):Int) k tb) (σ++[.list acc])=some (if b then (false,(.next,Lg m ((j+1:Nat):Int) k tb x),σ++[.list (acc++[.str [x.2]])]) else (true,(.next,Lf m ((j+1:Nat):Int) k tb),σ++[.list acc])):=by
 cases b with
 | true=>exact u_brk (t:=fmI.t) rfl (l_one (s_no (t_cmp rfl rfl rfl) (l_one (s_yes (t_cmp (r_bin rfl rfl rfl) rfl (q_int h)) (l_cons (add_x hk hl) (l_one rfl))))))
 | false=>exact u_next (t:=fmI.t) rfl (l_one (s_no (t_cmp rfl rfl rfl) (l_one (s_no (t_cmp (r_bin rfl rfl rfl) rfl (q_int h)) rfl)))) rfl
noncomputable abbrev otr (n:Nat):=loopStep (phi TT (n+1)) (lamN TT (n+1)) TT.G [2,3,4,5] fmS.t fmS.a
noncomputable abbrev L0 (m:Int) (k:Nat):Loc:=[some (.int m),some (.ref k),none,none,none,none]
noncomputable def sgT (h:Row→Bool) (d:Nat) (tb:List Row):Nat:=match tb.find? h with
 | some x=>x.2
 | none=>d
theorem tab_of {h:Row→Bool} {d:Nat} (hr:∀ x b,h x=b→inr n (rowV x) (.next,Lf m i k tb) (σ++[.list acc])=some (if b then (false,(.next,Lg m i k tb x),σ++[.list (acc++[.str [x.2]])]) else (true,(.next,Lf m i k tb),σ++[.list acc])))
  (hd:evSL (phi TT (n+1)) (lamN TT (n+1)) TT.G (.cons ((match fmI with | .loop _ _ _ _ b _=>b | _=>.nil).get 0) .nil) (Lf m i k tb) (σ++[.list acc])=some (.next,Lf m i k tb,σ++[.list (acc++[.str [d]])])) :
  otr n (.tup [.int i,tabV tb]) (.next,L0 m k) (σ++[.list acc])=some (true,(.next,L0 m k),σ++[.list (acc++[.str [sgT h d tb]])]):=by
 have o:=over_find (f:=rowV) (p:=h) (g:=fun x=>((Fl.next,Lg m i k tb x),σ++[.list (acc++[.str [x.2]])])) (fun x e=>hr x true e) (fun x e=>hr x false e) tb
 unfold sgT
 cases hf:tb.find? h with
 | some x =>
  rw [hf] at o
  exact u_next (t:=fmS.t) rfl (l_one (s_loop rfl rfl o rfl)) rfl
 | none =>
  rw [hf] at o
  exact u_next (t:=fmS.t) rfl (l_one (s_loop rfl rfl o hd)) rfl
theorem tab0 (hk:σ.length=k) (hl:acc.length < 100):otr n (.tup [.int 0,tabV tb]) (.next,L0 m k) (σ++[.list acc])=some (true,(.next,L0 m k),σ++[.list (acc++[.str [sgT (hit0 m) 63 tb]])]) :=
 tab_of (fun ζ ζ h=>row0 hk hl h) (l_one (s_yes (t_cmp rfl rfl rfl) (l_one (s_push rfl hk rfl (Nat.lt_trans hl (by decide))))))
theorem tab1 (hk:σ.length=k) (hl:acc.length < 100) {j:Nat}:otr n (.tup [.int ((j+1:Nat):Int),tabV tb]) (.next,L0 m k) (σ++[.list acc])=some (true,(.next,L0 m k),σ++[.list (acc++[.str [sgT (hit1 m) 45 tb]])]) :=
 tab_of (fun ζ ζ h=>row1 hk hl h) (l_one (s_no (t_cmp rfl rfl rfl) (l_one (s_push rfl hk rfl (Nat.lt_trans hl (by decide))))))
theorem tabs (hk:σ.length=k):∀ (tbs:List (List Row)) (j:Nat) (acc:List V),acc.length+tbs.length < 100→over (otr n) (((tbs.map tabV).zipIdx (j+1)).map fun x=>.tup [.int (x.2:Nat),x.1]) (.next,L0 m k) (σ++[.list acc])=some (true,(.next,L0 m k),σ++[.list (acc++tbs.map fun tb=>.str [sgT (hit1 m) 45 tb])])
 | [],_,acc,_=>congrArg (fun l=>some (true,(Fl.next,L0 m k),σ++[O.list l])) (List.append_nil acc).symm
 | tb :: tbs,j,acc,hl=>by
  rw [List.length_cons] at hl
  refine over_cons (tab1 hk (by (first | lia | omega))) ?_
  rw [tabs hk tbs (j+1) _ (by rw [List.length_append,List.length_singleton]; (first | lia | omega)),List.append_assoc]; rfl
noncomputable def fmode (m:Int):List Nat:=sgT (hit0 m) 63 ftab0 :: ftabs.map (sgT (hit1 m) 45)
theorem fmode_length:(fmode m).length=10:=by unfold fmode; rw [List.length_cons,List.length_map]; rfl
theorem x_filemode (h:Low σ):phi TT (n+2) i_filemode [.int m] σ=some (.str (fmode m),σ):=by
 refine f_call rfl rfl rfl (l_cons (s_assign (r_list r_nil (by decide)) rfl) (l_cons (s_enum (xs:=tabV ftab0 :: ftabs.map tabV) rfl rfl (over_cons (tab0 (n:=n) (m:=m) (σ:=σ) rfl (by decide)) (tabs rfl ftabs 0 _ (Nat.le_of_ble_eq_true rfl))) rfl) (l_one (s_ret (r_meth rfl rfl (r_one rfl) (j_cell (l:=fmode m) (vlist_at rfl) (by rw [fmode_length]; decide))))))) rfl (leave_cut rfl h rfl)
end
end Mine
namespace Mine
open PySem
section
variable {n k:Nat} {σ:Sto} {v w:V} {l:List Nat}
theorem x_buffer:phi TT (n+1) i__buffer [.bytes l] σ=some (.bytes l,σ) :=
 f_call rfl rfl rfl (l_cons (s_assign (r_ty rfl (r_one rfl) rfl) rfl) (l_stop (s_yes (t_cmp rfl rfl (o_is (by decide +kernel))) (l_one (s_ret rfl))) rfl)) rfl (leave_same rfl rfl)
theorem x_truth:phi TT (n+1) i__truth [.bool false] σ=some (.bool false,σ) :=
 f_call rfl rfl rfl (l_cons (s_assign (r_ty rfl (r_one rfl) rfl) rfl) (l_stop (s_yes (t_bool (b_next (t_cmp rfl rfl rfl) (by decide) (b_stop (t_cmp rfl rfl (o_is (by decide +kernel))) (by decide)))) (l_one (s_ret rfl))) rfl)) rfl (leave_same rfl rfl)
noncomputable abbrev B64:List Nat:=[65,66,67,68,69,70,71,72,73,74,75,76,77,78,79,80,81,82,83,84,85,86,87,88,89,90,97,98,99,100,101,102,103,104,105,106,107,108,109,110,111,112,113,114,115,116,117,118,119,120,121,122,48,49,50,51,52,53,54,55,56,57,43,47]
noncomputable def sgn (k:Nat):Nat:=B64.getD k 0
theorem and63 {a:Nat}:a &&& 63=a % 64:=Nat.and_two_pow_sub_one_eq_mod a 6
theorem sub64 {a:Nat} (h:a < 64):subV (.bytes B64) (.int (a:Nat)) σ=some (.int (sgn a:Nat)):=by
 show orO ((idx B64.length (a:Int)).bind fun j=>(B64[j]?).map fun c=>V.int (c:Nat)) _=_
 rw [idx_nat (m:=B64.length) h]
 show orO ((B64[a]?).map _) _=_
 unfold sgn
 rw [List.getD_eq_getElem?_getD,List.getElem?_eq_getElem h]
 rfl
theorem sub63 {a:Nat}:subV (.bytes B64) (.int ((a &&& 63:Nat):Int)) σ=some (.int (sgn (a % 64):Nat)):=by
 rw [and63]; exact sub64 (Nat.mod_lt a (by decide))
noncomputable abbrev b2L:S:=b_b2a_base64.get 5
noncomputable abbrev b2W:S:=b2L.a.get 2
structure W64 where
 out:List Nat
 lb:Nat
 lc:Nat
noncomputable abbrev wl (l:List Nat) (k:Nat) (L:Int) (lc:Nat) (b:Option V):Loc:=[some (.bytes l),some (.bool false),some (.bytes l),some (.ref k),some (.int L),some (.int lc),b]
noncomputable abbrev ws (σ:Sto) (out:List Nat):Sto:=σ++[.list (nts out)]
theorem nts_snoc {l:List Nat} {c:Nat}:nts l++[.int (c:Nat)]=nts (l++[c]):=(List.map_append (l₂:=[c])).symm
theorem put64 {Φ:Calls} {Λ:Lexer} {G:Nat→Option V} {loc:Loc} {i:Nat} {e:E} {q1 q2 q3 p:Pos} {out:List Nat} {c:Nat} (hv:loc[i]?=some (some (.ref k))) (hk:σ.length=k) (he:evM Φ Λ G e false loc (ws σ out)=some (.int (c:Nat),ws σ out)) (hl:out.length < 1000000):evS Φ Λ G (.expr (.meth (.var i q1) .append (.cons e .nil) q2 q3) p) loc (ws σ out)=some (.next,loc,ws σ (out++[c])) :=
 (s_push hv hk he (by unfold nts maxLen; rw [List.length_map]; (first | lia | omega))).trans (by rw [nts_snoc])
theorem emit64 {L:Int} {s lc:Nat} {b:Option V} {out:List Nat} (hk:σ.length=k) (hL:L - 6=(s:Int)) (hl:out.length < 1000000) :
  evSL (phi TT n) (lamN TT n) TT.G b2W.a (wl l k L lc b) (ws σ (out.map sgn))=some (.next,wl l k (s:Nat) lc b,ws σ ((out++[lc / 2 ^ s % 64]).map sgn)):=by
 rw [List.map_append]
 exact l_cons (put64 rfl hk (r_sub rfl (r_bin (r_bin rfl (r_bin rfl rfl (iv hL)) (o_shr rfl)) rfl (o_and (b:=63))) sub63) (by rw [List.length_map]; exact hl)) (l_one (s_assign (r_bin rfl rfl (iv hL)) rfl))
noncomputable def b64byte (s:W64) (b:Nat):W64 :=
 let lc:=s.lc % 256*256+b
 if s.lb=4 then ⟨s.out++[lc / 2 ^ 6 % 64]++[lc / 2 ^ 0 % 64],0,lc⟩ else ⟨s.out++[lc / 2 ^ (s.lb+2) % 64],s.lb+2,lc⟩
noncomputable def W64.ok (s:W64):Prop:=(s.lb=0∨s.lb=2∨s.lb=4)∧s.lc < 65536
theorem b64byte_ok {s:W64} {b:Nat} (hb:b < 256) (h:s.ok):(b64byte s b).ok∧(b64byte s b).out.length≤s.out.length+2:=by
 obtain ⟨out,lb,lc⟩:=s
 have h2:lc % 256*256+b < 65536:=by (first | lia | omega)
 rcases h.1 with rfl | rfl | rfl
 ·exact ⟨⟨.inr (.inl rfl),h2⟩,by show (out++[_]).length≤_; rw [List.length_append]; exact Nat.le_succ _⟩
 ·exact ⟨⟨.inr (.inr rfl),h2⟩,by show (out++[_]).length≤_; rw [List.length_append]; exact Nat.le_succ _⟩
 ·exact ⟨⟨.inl rfl,h2⟩,by show (out++[_]++[_]).length≤_; rw [List.length_append,List.length_append]; exact Nat.le_refl _⟩
theorem s_whil {Φ:Calls} {Λ:Lexer} {G:Nat→Option V} {loc:Loc} {R:Option (Fl × Loc × Sto)} {fuel:Nat} {clr:List Nat} {t:E} {A:SL} {p:Pos} (h:whl Φ Λ G t clr A fuel loc σ=R):evS Φ Λ G (.whil fuel clr t A p) loc σ=R:=h
theorem lc_is {lc b:Nat} (hb:b < 256):(lc*256 ||| b) &&& 65535=lc % 256*256+b:=by
 rw [Nat.mul_comm lc,show 256*lc ||| b=256*lc+b from (Nat.two_pow_add_eq_or_of_lt (i:=8) hb lc).symm,show 65535=2 ^ 16 - 1 from rfl,Nat.and_two_pow_sub_one_eq_mod]
 (first | lia | omega)
theorem o_lc {lc b:Nat} (hb:b < 256):binop .BitAnd (.int ((lc*256 ||| b:Nat):Int)) (.int 65535) σ=some (.int ((lc % 256*256+b:Nat):Int),σ):=(o_and (b:=65535)).trans (by rw [lc_is hb])
theorem x_byte {s:W64} {b:Nat} (hk:σ.length=k) (hb:b < 256) (ho:s.ok) (hl:s.out.length < 900000) :
  loopStep (phi TT n) (lamN TT n) TT.G [6] b2L.t b2L.a (.int (b:Nat)) (.next,wl l k s.lb s.lc none) (ws σ (s.out.map sgn))=some (true,(.next,wl l k (b64byte s b).lb (b64byte s b).lc none),ws σ ((b64byte s b).out.map sgn)):=by
 obtain ⟨out,lb,lc⟩:=s
 obtain ⟨h1,h2⟩:=ho
 have main (lb':Nat) (out':List Nat) (h:whl (phi TT n) (lamN TT n) TT.G (match b2W with | .whil _ _ t _ _=>t | _=>.raw default) [] b2W.a 1000000 (wl l k ((lb:Int)+8) (lc % 256*256+b) (some (.int (b:Nat)))) (ws σ (out.map sgn))=some (.next,wl l k lb' (lc % 256*256+b) (some (.int (b:Nat))),ws σ (out'.map sgn))) :
   loopStep (phi TT n) (lamN TT n) TT.G [6] b2L.t b2L.a (.int (b:Nat)) (.next,wl l k lb lc none) (ws σ (out.map sgn))=some (true,(.next,wl l k lb' (lc % 256*256+b) none),ws σ (out'.map sgn)) :=
  u_next (t:=b2L.t) rfl (l_cons (s_assign (r_bin (r_bin (r_bin rfl rfl (o_shl (b:=8) (c:=lc*256) (Nat.lt_trans h2 (by decide)) (by decide) rfl)) rfl o_or) rfl (o_lc hb)) rfl) (l_cons (s_assign (r_bin rfl rfl rfl) rfl) (l_one (s_whil h)))) rfl
 have hl:out.length < 900000:=hl
 rcases h1 with rfl | rfl | rfl
 ·exact main 2 _ (w_turn (t_cmp rfl rfl rfl) (emit64 (s:=2) hk rfl (by (first | lia | omega))) rfl (w_stop (t_cmp rfl rfl rfl)))
 ·exact main 4 _ (w_turn (t_cmp rfl rfl rfl) (emit64 (s:=4) hk rfl (by (first | lia | omega))) rfl (w_stop (t_cmp rfl rfl rfl)))
 ·exact main 0 _ (w_turn (t_cmp rfl rfl rfl) (emit64 (s:=6) hk rfl (by (first | lia | omega))) rfl (w_turn (t_cmp rfl rfl rfl) (emit64 (s:=0) hk rfl (by rw [List.length_append]; exact Nat.lt_trans (Nat.succ_lt_succ hl) (by decide))) rfl (w_stop (t_cmp rfl rfl rfl))))
theorem x_bytes (hk:σ.length=k):∀ (bs:List Nat) (s:W64),(∀ b∈bs,b < 256)→s.ok→s.out.length+2*bs.length < 900000→(bs.foldl b64byte s).ok∧(bs.foldl b64byte s).out.length≤s.out.length+2*bs.length∧over (loopStep (phi TT n) (lamN TT n) TT.G [6] b2L.t b2L.a) (nts bs) (.next,wl l k s.lb s.lc none) (ws σ (s.out.map sgn))=some (true,(.next,wl l k (bs.foldl b64byte s).lb (bs.foldl b64byte s).lc none),ws σ ((bs.foldl b64byte s).out.map sgn))
 | [],s,_,h,_=>⟨h,Nat.le_refl _,rfl⟩
 | b :: bs,s,hb,ho,hl=>by
  rw [List.length_cons] at hl ⊢
  have hb0:=hb b (.head _)
  have h:=b64byte_ok (s:=s) hb0 ho
  have ih:=x_bytes hk bs (b64byte s b) (fun c hc=>hb c (.tail _ hc)) h.1 (by (first | lia | omega))
  exact ⟨ih.1,Nat.le_trans ih.2.1 (by (first | lia | omega)),over_cons (x_byte hk hb0 ho (by (first | lia | omega))) ih.2.2⟩
end
end Mine
namespace Mine
open PySem
section
variable {n k:Nat} {σ:Sto} {v w:V} {l:List Nat}
noncomputable def b64pad (s:W64):List Nat:=if s.lb=4 then (s.out++[s.lc % 16*4]).map sgn++[61] else s.out.map sgn
noncomputable def b64 (l:List Nat):List Nat:=b64pad (l.foldl b64byte ⟨[],0,0⟩)
theorem sgn_lt {k:Nat}:sgn k < 128:=by
 rcases Nat.lt_or_ge k 64 with h | h
 ·have:∀ k < 64,sgn k < 128:=by decide +kernel
  exact this k h
 ·unfold sgn
  rw [List.getD_eq_getElem?_getD,List.getElem?_eq_none h]
  decide
theorem pad_all {s:W64}:∀ c∈b64pad s,c < 128:=by
 have h (l:List Nat):∀ c∈l.map sgn,c < 128:=fun c hc=>(List.mem_map.mp hc).elim fun ζ h=>h.2▸sgn_lt
 unfold b64pad
 split
 ·intro c hc
  rcases List.mem_append.mp hc with hc | hc
  ·exact h _ c hc
  ·rw [List.mem_singleton.mp hc]; decide
 ·exact h _
theorem bytesOf_nts:∀ {l:List Nat},(∀ c∈l,c < 256)→bytesOf (nts l)=some l
 | [],_=>rfl
 | c :: l,h=>by
  have hc:=h c (.head _)
  show (if 0≤(c:Int)∧(c:Int) < 256 then (bytesOf (nts l)).map ((c:Int).toNat :: ·) else none)=_
  rw [if_pos (by (first | lia | omega)),bytesOf_nts fun d hd=>h d (.tail _ hd)]
  rfl
theorem c_bytes {v:V} {l:List Nat} (hv:lsV σ v=some (nts l)) (h:∀ c∈l,c < 256):callT .bytes [v] σ=some (.bytes l,σ):=by
 show ((lsV σ v).bind fun xs=>(bytesOf xs).map fun l=>(V.bytes l,σ))=_
 rw [hv]
 show (bytesOf (nts l)).map _=_
 rw [bytesOf_nts h]; rfl
noncomputable def SL.drop:SL→Nat→SL
 | l,0=>l
 | .cons _ r,k+1=>r.drop k
 | .nil,_+1=>.nil
theorem o_15 {lc:Nat}:binop .BitAnd (.int (lc:Nat)) (.int 15) σ=some (.int ((lc % 16:Nat):Int),σ):=(o_and (b:=15)).trans (by rw [show lc &&& 15=lc % 16 from Nat.and_two_pow_sub_one_eq_mod lc 4])
theorem x_pad {s:W64} (hk:σ.length=k) (ho:s.ok) (h2:s.lb≠2) (hl:s.out.length < 900000) :
  evSL (phi TT n) (lamN TT n) TT.G (b_b2a_base64.drop 6) (wl l k s.lb s.lc none) (ws σ (s.out.map sgn))=some (.ret (.bytes (b64pad s)),wl l k s.lb s.lc none,ws σ (b64pad s)):=by
 obtain ⟨out,lb,lc⟩:=s
 have hb:=pad_all (s:=⟨out,lb,lc⟩)
 have hb (c) (h:c∈b64pad ⟨out,lb,lc⟩):=Nat.lt_trans (hb c h) (show 128 < 256 by decide)
 have hl:out.length < 900000:=hl
 rcases ho.1 with rfl | rfl | rfl
 ·exact l_cons (s_no (t_cmp rfl rfl rfl) (l_one (s_no (t_cmp rfl rfl rfl) rfl))) (l_cons (s_no (t_of rfl rfl rfl) rfl) (l_one (s_ret (r_ty rfl (r_one rfl) (c_bytes (vlist_at hk) hb)))))
 ·exact absurd rfl h2
 ·have hm:∀ _:Nat,b64pad ⟨out,4,lc⟩=(out.map sgn++[sgn (lc % 16*4)])++[61]:=fun ζ=>by
   show (out++[_]).map sgn++[61]=_
   rw [List.map_append]; rfl
  rw [hm 0] at hb ⊢
  exact l_cons (s_no (t_cmp rfl rfl rfl) (l_one (s_yes (t_cmp rfl rfl rfl) (l_cons (put64 rfl hk (r_sub rfl (r_bin (r_bin rfl rfl o_15) rfl (o_shl (b:=2) (Nat.lt_trans (Nat.mod_lt _ (by decide)) (show 16 < _ by decide)) (by decide) rfl)) (sub64 (by (first | lia | omega)))) (by rw [List.length_map]; (first | lia | omega)))
   (l_one (put64 rfl hk rfl (by rw [List.length_append,List.length_map]; exact Nat.lt_trans (Nat.succ_lt_succ hl) (by decide)))))))) (l_cons (s_no (t_of rfl rfl rfl) rfl) (l_one (s_ret (r_ty rfl (r_one rfl) (c_bytes (vlist_at hk) hb)))))
theorem lb_mod:∀ {l:List Nat} {s:W64},(s.lb=0∨s.lb=2∨s.lb=4)→(l.foldl b64byte s).lb=(s.lb+2*l.length) % 6
 | [],s,h=>by show s.lb=(s.lb+0) % 6; (first | lia | omega)
 | b :: l,s,h=>by
  show (l.foldl b64byte (b64byte s b)).lb=_
  have:(b64byte s b).lb=(s.lb+2) % 6:=by
   unfold b64byte
   rcases h with h | h | h <;> rw [h] <;> rfl
  rw [lb_mod (by (first | lia | omega)),this,List.length_cons]; (first | lia | omega)
theorem x_b2a (h:Low σ) (hb:∀ b∈l,b < 256) (hl:l.length≤1000) (h1:l.length % 3≠1):phi TT (n+2) i_b2a_base64 [.bytes l,.bool false] σ=some (.bytes (b64 l),σ):=by
 have hx:=x_bytes (n:=n+1) (σ:=σ) (l:=l) rfl l ⟨[],0,0⟩ hb ⟨.inl rfl,by decide⟩ (by show 0+2*l.length < _; (first | lia | omega))
 have hm:=lb_mod (l:=l) (s:=⟨[],0,0⟩) (.inl rfl)
 refine f_call rfl rfl rfl (l_cons (s_assign (r_fn rfl (r_one rfl) x_buffer) rfl) (l_cons (s_assign (r_fn rfl (r_one rfl) x_truth) rfl) (l_cons (s_assign (r_list r_nil (by decide)) rfl) (l_cons (s_assign rfl rfl) (l_cons (s_assign rfl rfl)
  (l_cons (s_loop (x:=.bytes l) (vs:=nts l) rfl (by show some (It.items _,l.length)=_; rw [nts,List.length_map]) hx.2.2 rfl) (x_pad rfl hx.1 (by rw [hm]; show (0+2*l.length) % 6≠2; (first | lia | omega)) (Nat.lt_of_le_of_lt hx.2.1 (by show 0+2*l.length < _; (first | lia | omega))))))))) ) rfl (leave_cut rfl h rfl)
theorem x_b64encode (h:Low σ) (hb:∀ b∈l,b < 256) (hl:l.length≤1000) (h1:l.length % 3≠1):phi TT (n+3) i_b64encode [.bytes l] σ=some (.bytes (b64 l),σ) :=
 f_pad (f:=f_b64encode) rfl rfl rfl (l_cons (s_assign (r_kw rfl (r_one rfl) rfl (x_b2a h hb hl h1)) rfl) (l_cons (s_no (t_cmp rfl rfl rfl) rfl) (l_one (s_ret rfl)))) rfl (leave_same rfl rfl)
end
end Mine
namespace Mine
open PySem
section
variable {n m:Nat} {σ:Sto} {w:List Nat}
noncomputable def bslash (w:List Nat) (m:Nat):List Nat:=w.take (m / 4)++[92]++w.drop (m / 4)
noncomputable def written (w:List Nat) (m:Nat):List Nat:=if m % 4=3 then [34]++bslash w m++[34] else bslash w m++[([10,9,32]:List Nat).getD (m % 4) 0]
theorem piece_length:(bslash w m).length=w.length+1:=by
 unfold bslash
 rw [List.length_append,List.length_append,List.length_take,List.length_drop,List.length_singleton]
 omega
theorem written_length:(written w m).length≤w.length+3:=by
 have:=piece_length (w:=w) (m:=m)
 unfold written
 split
 ·rw [List.length_append,List.length_append]; exact Nat.le_of_eq (by rw [this,List.length_singleton]; (first | lia | omega))
 ·rw [List.length_append]; exact Nat.le_trans (Nat.le_of_eq (by rw [this,List.length_singleton])) (Nat.le_succ _)
theorem slice_to {k:Nat}:sliceV (.str w) .none (.int (k:Nat)) .none σ=some (.str (w.take k),σ):=by
 show some (V.str (cut w 0 (if 0≤(k:Int) then min k w.length else _)),σ)=_
 rw [if_pos (Int.natCast_nonneg _)]
 unfold cut
 rw [List.drop_zero,← List.take_eq_take_min]
theorem slice_from {k:Nat}:sliceV (.str w) (.int (k:Nat)) .none .none σ=some (.str (w.drop k),σ):=by
 show some (V.str (cut w (if 0≤(k:Int) then min k w.length else _) w.length),σ)=_
 rw [if_pos (Int.natCast_nonneg _)]
 unfold cut
 rw [List.take_length]
 rcases Nat.le_total k w.length with h | h
 ·rw [Nat.min_eq_left h]
 ·rw [Nat.min_eq_right h,List.drop_length,List.drop_eq_nil_of_le h]
theorem x_written (hl:w.length≤1000):phi TT (n+1) i__law_written [.str w,.int (m:Nat)] σ=some (.str (written w m),σ):=by
 have hp:=piece_length (w:=w) (m:=m)
 have h2:(bslash w m).length≤1001:=by (first | lia | omega)
 have h1:(w.take (m / 4)++[92]).length≤maxLen:=by rw [List.length_append,List.length_take,List.length_singleton]; unfold maxLen; (first | lia | omega)
 have g (c:List Nat) (hc:c.length≤2):(bslash w m++c).length≤maxLen:=by rw [List.length_append]; unfold maxLen; (first | lia | omega)
 refine f_call rfl rfl rfl (l_cons (s_assign (r_bin rfl rfl (o_divN (b:=4) rfl rfl)) rfl) (l_cons (s_assign (r_bin (r_bin (r_slice rfl rfl rfl rfl slice_to) rfl (o_str h1)) (r_slice rfl rfl rfl rfl slice_from) (o_str (Nat.le_trans h2 (by decide)))) rfl) (?_:evSL _ _ _ _ [some (.str w),some (.int m),some (.int (m / 4:Nat)),some (.str (bslash w m))] σ=some (.ret (.str (written w m)),[some (.str w),some (.int m),some (.int (m / 4:Nat)),some (.str (bslash w m))],σ)))) rfl (leave_same rfl rfl)
 have em (e:Nat) (h:m % 4=e):binop .Mod (.int (m:Nat)) (.int 4) σ=some (.int (e:Nat),σ):=o_modN (b:=4) (by decide) h
 have hc:m % 4=0∨m % 4=1∨m % 4=2∨m % 4=3:=by (first | lia | omega)
 unfold written
 rcases hc with hc | hc | hc | hc <;> rw [hc]
 ·exact l_cons (s_no (t_cmp (r_bin rfl rfl (em _ hc)) rfl rfl) rfl) (l_one (s_ret (r_bin rfl (r_sub rfl (r_bin rfl rfl (em _ hc)) rfl) (o_str (g _ (by decide))))))
 ·exact l_cons (s_no (t_cmp (r_bin rfl rfl (em _ hc)) rfl rfl) rfl) (l_one (s_ret (r_bin rfl (r_sub rfl (r_bin rfl rfl (em _ hc)) rfl) (o_str (g _ (by decide))))))
 ·exact l_cons (s_no (t_cmp (r_bin rfl rfl (em _ hc)) rfl rfl) rfl) (l_one (s_ret (r_bin rfl (r_sub rfl (r_bin rfl rfl (em _ hc)) rfl) (o_str (g _ (by decide))))))
 ·exact l_stop (s_yes (t_cmp (r_bin rfl rfl (em _ hc)) rfl rfl) (l_one (s_ret (r_bin (r_bin rfl rfl (o_str (by show (bslash w m).length+1≤maxLen; unfold maxLen; (first | lia | omega)))) rfl (o_str (by rw [List.length_append]; show (bslash w m).length+1+1≤maxLen; unfold maxLen; (first | lia | omega))))))) rfl
end
end Mine
namespace Mine
open PySem
section
variable {n k:Nat} {σ:Sto} {ns xs:List Int}
noncomputable abbrev NP:Nat:=4
noncomputable def σ0 (ns:List Int):Sto:=[.scr SCI ns]
noncomputable abbrev nbL:S:=b__law_numbers.get 1
theorem zts_at (h:k < xs.length):(zts xs)[k]?=some (.int xs[k]):=by
 unfold zts
 rw [List.getElem?_map,List.getElem?_eq_getElem h]; rfl
noncomputable abbrev nloc:Loc:=[some (.fn SCI),some (.ref 1),none]
theorem x_number (hk:k < ns.length) (hx:xs.length=NP):∃ ys:List Int,ys.length=NP∧loopStep (phi TT n) (lamN TT n) TT.G [2] nbL.t nbL.a (.int (k:Nat)) (.next,nloc) (σ0 ns++[.list (zts xs)])=some (true,(.next,nloc),σ0 ns++[.list (zts ys)]):=by
 have hm:k % NP < xs.length:=by rw [hx]; exact Nat.mod_lt k (by decide)
 refine ⟨xs.set (k % NP) (xs[k % NP]+ns[k]),by rw [List.length_set,hx],u_next (t:=nbL.t) rfl (l_one (s_augSub (x:=.ref 1) (y:=.int ((k % NP:Nat):Int)) (old:=.int xs[k % NP]) (v:=.int ns[k]) (r:=(.int (xs[k % NP]+ns[k]),σ0 ns++[.list (zts xs)])) rfl (r_bin rfl rfl (o_modN (b:=NP) (by decide) rfl)) ?_ (r_sub (x:=.fn SCI) (y:=.int (k:Nat)) rfl rfl ?_) rfl ?_)) rfl⟩
 ·show orO (pick (zts xs) _) _=_
  rw [pick_at (zts_at hm)]; rfl
 ·show orO none (orO none (orO none (orO none (pick (zts ns) (k:Int)))))=_
  rw [pick_at (zts_at hk)]; rfl
 ·show (if 0≤((k % NP:Nat):Int)∧((k % NP:Nat):Int) < ((zts xs).length:Int) then some ((σ0 ns++[O.list (zts xs)]).set 1 (.list ((zts xs).set (k % NP) (.int _)))) else none)=_
  rw [if_pos ⟨Int.natCast_nonneg _,by rw [zts,List.length_map]; exact Int.ofNat_lt.mpr hm⟩]
  unfold zts
  rw [← List.map_set]; rfl
theorem x_nums:∀ (ks:List Nat) (xs:List Int),(∀ k∈ks,k < ns.length)→xs.length=NP→∃ ys:List Int,ys.length=NP∧over (loopStep (phi TT n) (lamN TT n) TT.G [2] nbL.t nbL.a) (nts ks) (.next,nloc) (σ0 ns++[.list (zts xs)])=some (true,(.next,nloc),σ0 ns++[.list (zts ys)])
 | [],xs,_,hx=>⟨xs,hx,rfl⟩
 | k :: ks,xs,h,hx =>
  (x_number (n:=n) (h k (.head _)) hx).elim fun ys hy=>(x_nums ks ys (fun k hk=>h k (.tail _ hk)) hy.1).elim fun zs hz=>⟨zs,hz.1,over_cons hy.2 hz.2⟩
theorem x_numbers (hl:ns.length≤63):∃ xs:List Int,xs.length=NP∧phi TT (n+1) i__law_numbers [.fn SCI] (σ0 ns)=some (.lst (zts xs),σ0 ns):=by
 have e1:∃ x0:List Int,x0.length=NP∧evS (phi TT n) (lamN TT n) TT.G (b__law_numbers.get 0) [some (.fn SCI),none,none] (σ0 ns)=some (.next,nloc,σ0 ns++[.list (zts x0)]):=⟨[_,_,_,_],rfl,rfl⟩
 refine e1.elim fun x0 h0=>(x_nums (n:=n) (ns:=ns) (List.range ns.length) x0 (fun k hk=>List.mem_range.mp hk) h0.1).elim fun ys hy=>⟨ys,hy.1,?_⟩
 have hl':ns.length≤1048576:=Nat.le_trans hl (by decide)
 refine f_call rfl rfl rfl (l_cons h0.2 (l_cons (s_loop (x:=.rng 0 (ns.length:Nat) 1) (r_ty rfl (r_one (r_bi rfl (r_one rfl) (by show some (V.int ((ns.map V.int).length:Nat),_)=_; rw [List.length_map]))) (c_range hl')) (i_range hl') hy.2 rfl) (l_one (s_ret rfl)))) rfl (leave_list (σ:=σ0 ns) (k:=0) rfl rfl rfl (lowL_map fun ζ=>rfl))
end
end Mine
namespace Mine
open PySem
section
variable {n:Nat} {σ τ:Sto} {text:List Nat} {x pa pb:Nat} {c:Nat} {r:List Nat}
theorem r_readc {Φ:Calls} {Λ:Lexer} {G:Nat→Option V} {loc:Loc} {o:E} {q1 q2 q3 p:Pos} {v:V} {rr:V × Sto} (ho:evM Φ Λ G o false loc σ=some (v,τ)) (h:Λ .count [v] τ=some rr):evM Φ Λ G (.readc o q1 q2 q3 p) false loc σ=some rr:=ev_readc.trans (bnd ho h)
theorem s_inc {Φ:Calls} {Λ:Lexer} {G:Nat→Option V} {loc:Loc} {o:E} {q1 q2 p:Pos} {i:Nat} {σ':Sto} (ho:evM Φ Λ G o false loc σ=some (.ref i,τ)) (h:incC i τ=some σ'):evS Φ Λ G (.inc o q1 q2 p) loc σ=some (.next,loc,σ'):=es_inc.trans (bnd ho (bnd rfl (mpd h)))
variable (L:Lx x pa pb σ)
include L
theorem x_read (h:c :: r <:+ text):phi TT (n+2) i__read_char [.ref x] (atR text x pa pb σ (c :: r)++τ)=some (.str [c],atR text x pa pb σ r++τ):=by
 have hl {a b:Nat} {l l':Int}:(put text x pa pb σ a l++τ).length=(put text x pa pb σ b l'++τ).length:=by rw [List.length_append,List.length_append,put_len,put_len]
 have hc:=read_cons (τ:=τ) (l:=1+cnt text - cnt (c :: r)) L h
 by_cases e:c=10
 ·subst e
  refine f_call rfl rfl rfl (l_cons (s_assign (r_readc (τ:=atR text x pa pb σ (10 :: r)++τ) rfl hc) rfl) (l_cons (s_yes (t_cmp rfl rfl rfl) (l_one (s_inc rfl (mpd (put_x L))))) (l_one (s_ret rfl)))) rfl (leave_same ?_ rfl |>.trans ?_)
  ·rw [List.length_set]; exact hl
  ·rw [put_line L,cnt_10,show 1+cnt text - (cnt r+1)+1=1+cnt text - cnt r by (first | lia | omega)]
 ·refine f_call rfl rfl rfl (l_cons (s_assign (r_readc (τ:=atR text x pa pb σ (c :: r)++τ) rfl hc) rfl) (l_cons (s_no (t_cmp rfl rfl (q_str (by rw [List.cons_beq_cons,beq_false_of_ne e]; rfl))) rfl) (l_one (s_ret rfl)))) rfl (leave_same hl rfl |>.trans ?_)
  rw [cnt_ne e]
theorem x_read0:phi TT (n+2) i__read_char [.ref x] (atR text x pa pb σ []++τ)=some (.str [],atR text x pa pb σ []++τ) :=
 f_call rfl rfl rfl (l_cons (s_assign (r_readc (τ:=atR text x pa pb σ []++τ) rfl (read_nil L)) rfl) (l_cons (s_no (t_cmp rfl rfl rfl) rfl) (l_one (s_ret rfl)))) rfl (leave_same rfl rfl)
end
end Mine
namespace Mine
open PySem
section
variable {rd:V→Sto→Option (V × Sto)} {step:V→Fl × Loc→Sto→Option (Bool × (Fl × Loc) × Sto)} {j f x:Nat} {st st':Fl × Loc} {σ σ1 σ2:Sto} {c:Nat} {R:Option (Bool × (Fl × Loc) × Sto)}
theorem f_read (h:citI σ j=some (x,false)) (hr:rd (.ref x) σ=some (.str [c],σ1)) (h1:citI σ1 j=some (x,false)):fitNext rd j σ=some (some [c],σ1):=bnd h (bnd hr (bnd rfl (bnd h1 (if_pos rfl))))
theorem f_turn (h:fitNext rd j σ=some (some [c],σ1)) (hs:step (.str [c]) st σ1=some (true,st',σ2)) (hn:fitN rd step j f st' σ2=R):fitN rd step j (f+1) st σ=R:=bnd h (bnd hs hn)
theorem f_stop (h:fitNext rd j σ=some (some [c],σ1)) (hs:step (.str [c]) st σ1=some (false,st',σ2)):fitN rd step j (f+1) st σ=some (false,st',σ2):=bnd h (bnd hs rfl)
theorem f_over (h:fitNext rd j σ=some (none,σ1)):fitN rd step j (f+1) st σ=some (true,st,σ1):=bnd h rfl
theorem s_fitr {Φ:Calls} {Λ:Lexer} {G:Nat→Option V} {loc:Loc} {i:Nat} {q p:Pos} {it:E} {A B:SL} {y:Bool × (Fl × Loc) × Sto} {R:Option (Fl × Loc × Sto)} (hi:evM Φ Λ G it false loc σ=some (.ref j,σ1)) (ho:fitN (fun v σ=>Λ .read_char [v] σ) (loopStep Φ Λ G [] (.name i q) A) j f (.next,loc) σ1=some y) (h:endF (fun loc σ=>evSL Φ Λ G B loc σ) y=R):evS Φ Λ G (.fitr f i q it A B p) loc σ=R :=
 es_fitr.trans (bnd hi (bnd rfl (bnd ho h)))
end
inductive InW (stp:Nat→Bool):List Nat→List Nat→Prop where
 | nil:InW stp [] []
 | plain {c u t}:stp c=false→c≠92→InW stp u t→InW stp (c :: u) (c :: t)
 | back {d u t}:InW stp u t→InW stp (92 :: d :: u) (d :: t)
section
variable {n:Nat} {σ:Sto} {text:List Nat} {x pa pb:Nat} {c:Nat} {r:List Nat} {b:Bool}
noncomputable abbrev gO:S:=b_get_token.get 3
noncomputable abbrev gQ:S:=(gO.a.get 1).a.get 0
noncomputable abbrev gU:S:=(gO.a.get 1).b.get 2
noncomputable abbrev gl (x j:Nat) (acc:List Nat) (ch:Option V):Loc:=[some (.ref x),some (.str acc),some (.ref j),ch]
noncomputable abbrev R2 (text:List Nat) (x pa pb:Nat) (σ:Sto) (r:List Nat) (b:Bool):Sto:=atR text x pa pb σ r++[.cit x b]
noncomputable abbrev rdL (n:Nat):V→Sto→Option (V × Sto):=fun v s=>lamN TT (n+2) .read_char [v] s
theorem cit_at {k:Nat} {l:Int}:citI (put text x pa pb σ k l++[.cit x b]) σ.length=some (x,b):=by
 unfold citI
 rw [← put_len (text:=text) (x:=x) (pa:=pa) (pb:=pb) (k:=k) (l:=l),List.getElem?_append_right (Nat.le_refl _),Nat.sub_self]; rfl
section
variable (L:Lx x pa pb σ)
include L
theorem n_cons (h:c :: r <:+ text):fitNext (rdL n) σ.length (R2 text x pa pb σ (c :: r) false)=some (some [c],R2 text x pa pb σ r false) :=
 f_read cit_at (x_read (n:=n) L h) cit_at
theorem n_nil:fitNext (rdL n) σ.length (R2 text x pa pb σ [] false)=some (none,R2 text x pa pb σ [] true):=by
 refine bnd cit_at (bnd (x_read0 (n:=n) L) (bnd rfl (bnd cit_at ((if_pos rfl).trans ((if_pos rfl).trans ?_)))))
 rw [List.set_append_right _ _ (Nat.le_of_eq put_len),put_len,Nat.sub_self]; rfl
omit L in
theorem n_done:fitNext (rdL n) σ.length (R2 text x pa pb σ r true)=some (none,R2 text x pa pb σ r true):=bnd cit_at rfl
theorem rv_lex {τ:Sto}:recv (atR text x pa pb σ r++τ) (.ref x)=some 2:=by
 show (match (atR text x pa pb σ r++τ)[x]? with
  | some (.list _)=>some 1
  | some (.lex ..)=>some 2
  | _=>none)=_
 rw [get_x L]
theorem s_back {loc:Loc} {i k:Nat} {q1 q2 q3 q4 p:Pos} (h:c :: r <:+ text) (hi:loc[i]?=some (some (.ref x))) {l1:Loc} (hb:bindT (.name k q1) (.str [c]) loc (R2 text x pa pb σ r b)=some l1):evS (phi TT (n+2)) (lamN TT (n+2)) TT.G (.assign (.name k q1) (.meth (.var i q2) .read_char .nil q3 q4) p) loc (R2 text x pa pb σ (c :: r) b)=some (.next,l1,R2 text x pa pb σ r b) :=
 s_assign (r_meth (x:=.ref x) (bnd hi rfl) (rv_lex L) r_nil (x_read (n:=n) L h)) hb
end
theorem a_str {s t:List Nat} (h:s.length+t.length≤1000000) {τ:Sto}:augop .Add (.str s) (.str t) τ=some (.str (s++t),τ):=by
 show orO none (if (s++t).length≤maxLen then some (V.str (s++t),τ) else none)=_
 rw [if_pos (by rw [List.length_append]; exact Nat.le_trans h (by decide))]; rfl
structure WStep (n:Nat) (text:List Nat) (x pa pb:Nat) (σ:Sto) (stp:Nat→Bool) (step:V→Fl × Loc→Sto→Option (Bool × (Fl × Loc) × Sto)):Prop where
 close:∀ c acc r ch,stp c=true→step (.str [c]) (.next,gl x σ.length acc ch) (R2 text x pa pb σ r false)=some (false,(.ret (.str acc),gl x σ.length acc (some (.str [c]))),R2 text x pa pb σ r false)
 plain:∀ c acc r ch,stp c=false→c≠92→acc.length+1≤1000000→step (.str [c]) (.next,gl x σ.length acc ch) (R2 text x pa pb σ r false)=some (true,(.next,gl x σ.length (acc++[c]) (some (.str [c]))),R2 text x pa pb σ r false)
 back:∀ d acc r ch,d :: r <:+ text→acc.length+1≤1000000→step (.str [92]) (.next,gl x σ.length acc ch) (R2 text x pa pb σ (d :: r) false)=some (true,(.next,gl x σ.length (acc++[d]) (some (.str [d]))),R2 text x pa pb σ r false)
noncomputable abbrev stQ (n:Nat):=loopStep (phi TT (n+2)) (lamN TT (n+2)) TT.G [] gQ.t gQ.a
noncomputable abbrev stU (n:Nat):=loopStep (phi TT (n+2)) (lamN TT (n+2)) TT.G [] gU.t gU.a
noncomputable abbrev isQ (c:Nat):Bool:=c==34
theorem one_beq {a b:Nat}:([a]==[b])=(a==b):=by rw [List.cons_beq_cons]; exact Bool.and_true _
theorem ws_in {c:Nat}:(subAt [c] [10,9,13,32] 0).isSome=wsp c:=by
 have h (k:Nat) (l:List Nat) (i:Nat):(subAt [c] (k :: l) i).isSome=(k==c||(subAt [c] l (i+1)).isSome):=by
  show (if ((c==k)&&true)=true then some i else subAt [c] l (i+1)).isSome=_
  rw [Bool.and_true,BEq.comm (a:=c)]
  cases k==c <;> rfl
 rw [h,h,h,h]
 unfold wsp
 rw [BEq.comm (a:=c),BEq.comm (a:=c),BEq.comm (a:=c),BEq.comm (a:=c)]
 cases 10==c <;> cases 9==c <;> cases 13==c <;> cases 32==c <;> rfl
variable (L:Lx x pa pb σ)
include L
theorem t_ws {loc:Loc} {i k:Nat} {q1 q2 q3 p:Pos} {h:wsp c=b} (hc:loc[k]?=some (some (.str [c]))) (hi:loc[i]?=some (some (.ref x))) {τ:Sto}:evT (phi TT (n+2)) (lamN TT (n+2)) TT.G (.cmp .In (.var k q1) (.attr (.var i q2) .whitespace q3) p) loc (atR text x pa pb σ r++τ)=some (b,atR text x pa pb σ r++τ) :=
 t_cmp (bnd hc rfl) (r_attr (x:=.ref x) (bnd hi rfl) (bnd rfl (bnd (put_x L) rfl))) (congrArg some (ws_in.trans h))
theorem w_Q:WStep n text x pa pb σ isQ (stQ n) where
 close c acc r ch h:=u_ret (t:=gQ.t) rfl (l_stop (s_yes (t_cmp rfl rfl (q_str (one_beq.trans h))) (l_one (s_ret rfl))) rfl)
 plain c acc r ch h h2 hl:=u_next (t:=gQ.t) rfl (l_cons (s_no (t_cmp rfl rfl (q_str (one_beq.trans h))) (l_one (s_no (t_cmp rfl rfl (q_str (one_beq.trans (beq_false_of_ne h2)))) rfl))) (l_one (s_aug rfl rfl (a_str hl)))) rfl
 back d acc r ch h hl:=u_next (t:=gQ.t) rfl (l_cons (s_no (t_cmp rfl rfl rfl) (l_one (s_yes (t_cmp rfl rfl rfl) (l_one (s_back L h rfl rfl))))) (l_one (s_aug rfl rfl (a_str hl)))) rfl
theorem w_U:WStep n text x pa pb σ wsp (stU n) where
 close c acc r ch h:=u_ret (t:=gU.t) rfl (l_stop (s_yes (t_ws L (h:=h) rfl rfl) (l_one (s_ret rfl))) rfl)
 plain c acc r ch h h2 hl:=u_next (t:=gU.t) rfl (l_cons (s_no (t_ws L (h:=h) rfl rfl) (l_one (s_no (t_cmp rfl rfl (q_str (one_beq.trans (beq_false_of_ne h2)))) rfl))) (l_one (s_aug rfl rfl (a_str hl)))) rfl
 back d acc r ch h hl:=u_next (t:=gU.t) rfl (l_cons (s_no (t_ws L (c:=92) (b:=false) (h:=rfl) rfl rfl) (l_one (s_yes (t_cmp rfl rfl rfl) (l_one (s_back L h rfl rfl))))) (l_one (s_aug rfl rfl (a_str hl)))) rfl
theorem w_loop {stp:Nat→Bool} {step:V→Fl × Loc→Sto→Option (Bool × (Fl × Loc) × Sto)} (W:WStep n text x pa pb σ stp step) {s:Nat} (hs:stp s=true) {u t:List Nat} (hw:InW stp u t):∀ (f:Nat) (acc:List Nat) (ch:Option V),u++s :: r <:+ text→u.length < f→acc.length+u.length≤1000000 →
  ∃ ch',fitN (rdL n) step σ.length f (.next,gl x σ.length acc ch) (R2 text x pa pb σ (u++s :: r) false)=some (false,(.ret (.str (acc++t)),gl x σ.length (acc++t) ch'),R2 text x pa pb σ r false):=by
 induction hw with
 | nil =>
  intro f acc ch h hf hl
  obtain ⟨f,rfl⟩:=Nat.exists_eq_add_of_lt hf
  rw [List.append_nil]
  exact ⟨_,f_stop (n_cons L h) (W.close s acc r ch hs)⟩
 | @plain c u t h1 h2 _ ih =>
  intro f acc ch h hf hl
  rw [List.length_cons] at hf hl
  obtain ⟨f,rfl⟩:=Nat.exists_eq_add_of_lt hf
  have:=ih (u.length+1+f) (acc++[c]) (some (.str [c])) (suf_tail h) (by (first | lia | omega)) (by rw [List.length_append,List.length_singleton]; (first | lia | omega))
  rw [List.append_assoc] at this
  exact this.elim fun ch' e=>⟨ch',f_turn (n_cons L h) (W.plain c acc _ ch h1 h2 (by (first | lia | omega))) e⟩
 | @back d u t _ ih =>
  intro f acc ch h hf hl
  rw [List.length_cons,List.length_cons] at hf hl
  obtain ⟨f,rfl⟩:=Nat.exists_eq_add_of_lt hf
  have:=ih (u.length+1+1+f) (acc++[d]) (some (.str [d])) (suf_tail (suf_tail h)) (by (first | lia | omega)) (by rw [List.length_append,List.length_singleton]; (first | lia | omega))
  rw [List.append_assoc] at this
  exact this.elim fun ch' e=>⟨ch',f_turn (n_cons L h) (W.back d acc _ ch (suf_tail h) (by (first | lia | omega))) e⟩
end
end Mine
namespace Mine
open PySem
inductive Word:List Nat→List Nat→Prop where
 | quote {u t}:InW isQ u t→Word (34 :: (u++[34])) t
 | plain {c u t s}:wsp c=false→c≠34→c≠92→InW wsp u t→wsp s=true→Word (c :: (u++[s])) (c :: t)
 | back {d u t s}:InW wsp u t→wsp s=true→Word (92 :: d :: (u++[s])) (d :: t)
section
variable {n:Nat} {σ:Sto} {text:List Nat} {x pa pb:Nat} {r:List Nat}
theorem r_fit {Φ:Calls} {Λ:Lexer} {G:Nat→Option V} {loc:Loc} {g:Nat} {o:E} {q1 q2 q3 p:Pos} {i:Nat} {τ:Sto} {rr:V × Sto} (hg:G g=some (.bi .iter)) (ho:evM Φ Λ G o false loc σ=some (.ref i,τ)) (h:fitC i τ=some rr):evM Φ Λ G (.fit g o q1 q2 q3 p) false loc σ=some rr:=ev_fit.trans (bnd hg (bnd ho (bnd rfl h)))
variable (L:Lx x pa pb σ)
include L
theorem get_of {u:List Nat} {t:List Nat} {loc':Loc} {y:Fl} {b:Bool} (he:vlist σ pb=some []) (h:evSL (phi TT (n+2)) (lamN TT (n+2)) TT.G (b_get_token.drop 3) (gl x σ.length [] none) (R2 text x pa pb σ u false)=some (y,loc',R2 text x pa pb σ r b)) (hy:retV y=some (.str t)) :
  phi TT (n+3) i_get_token [.ref x] (atR text x pa pb σ u)=some (.str t,atR text x pa pb σ r):=by
 refine f_call rfl rfl rfl (l_cons (s_no (t_of rfl (r_attr (v:=.ref pb) rfl (bnd rfl (bnd (put_x0 L) rfl))) (mpd (put_b0 L |>.trans he))) rfl) (l_cons (s_assign rfl rfl) (l_cons (s_assign (r_fit rfl rfl ((mpd (put_x0 L)).trans (by rw [put_len]))) rfl) h))) hy (leave_cut (put_len.trans put_len.symm) (put_low L) rfl)
theorem o_first {c:Nat} (hw:wsp c=false):evS (phi TT (n+2)) (lamN TT (n+2)) TT.G (gO.a.get 0) (gl x σ.length [] (some (.str [c]))) (R2 text x pa pb σ r false)=some (.next,gl x σ.length [] (some (.str [c])),R2 text x pa pb σ r false) :=
 s_no (t_ws L (h:=hw) rfl rfl) rfl
theorem o_ret {c:Nat} {u t:List Nat} {loc':Loc} {B:SL} (h:c :: u <:+ text) (hw:wsp c=false) (hs:evS (phi TT (n+2)) (lamN TT (n+2)) TT.G (gO.a.get 1) (gl x σ.length [] (some (.str [c]))) (R2 text x pa pb σ u false)=some (.ret (.str t),loc',R2 text x pa pb σ r false)) :
  evSL (phi TT (n+2)) (lamN TT (n+2)) TT.G (.cons gO B) (gl x σ.length [] none) (R2 text x pa pb σ (c :: u) false)=some (.ret (.str t),loc',R2 text x pa pb σ r false) :=
 l_stop (s_fitr rfl (f_stop (n_cons L h) (u_ret (t:=gO.t) rfl (l_cons (o_first L hw) (l_one hs)))) rfl) rfl
theorem x_word {u t:List Nat} (hu:Word u t) (h:u++r <:+ text) (hl:text.length≤900000) (he:vlist σ pb=some []):phi TT (n+3) i_get_token [.ref x] (atR text x pa pb σ (u++r))=some (.str t,atR text x pa pb σ r):=by
 have hn:=Nat.le_trans h.length_le hl
 cases hu with
 | @quote u _ hi =>
  rw [List.length_append,List.length_cons,List.length_append] at hn
  have e:34 :: (u++[34])++r=34 :: (u++34 :: r):=by rw [List.cons_append,List.append_assoc]; rfl
  rw [e] at h ⊢
  exact (w_loop L (w_Q (n:=n) L) rfl hi 1000000 [] (some (.str [34])) (suf_tail h) (by (first | lia | omega)) (by rw [List.length_nil]; (first | lia | omega))).elim fun ch' hw =>
   get_of L he (o_ret L h rfl (s_yes (t_cmp rfl rfl rfl) (l_one (s_fitr rfl hw rfl)))) rfl
 | @plain c u t s hw h1 h2 hi hs =>
  rw [List.length_append,List.length_cons,List.length_append] at hn
  have e:c :: (u++[s])++r=c :: (u++s :: r):=by rw [List.cons_append,List.append_assoc]; rfl
  rw [e] at h ⊢
  exact (w_loop L (w_U (n:=n) L) hs hi 1000000 [c] (some (.str [c])) (suf_tail h) (by (first | lia | omega)) (by rw [List.length_singleton]; (first | lia | omega))).elim fun ch' hl =>
   get_of L he (o_ret L h hw (s_no (t_cmp rfl rfl (q_str (one_beq.trans (beq_false_of_ne h1)))) (l_cons (s_no (t_cmp rfl rfl (q_str (one_beq.trans (beq_false_of_ne h2)))) rfl) (l_cons (s_aug rfl rfl (a_str (s:=[]) (t:=[c]) (Nat.le_of_ble_eq_true rfl))) (l_one (s_fitr rfl hl rfl)))))) rfl
 | @back d u t s hi hs =>
  rw [List.length_append,List.length_cons,List.length_cons,List.length_append] at hn
  have e:92 :: d :: (u++[s])++r=92 :: d :: (u++s :: r):=by rw [List.cons_append,List.cons_append,List.append_assoc]; rfl
  rw [e] at h ⊢
  exact (w_loop L (w_U (n:=n) L) hs hi 1000000 [d] (some (.str [d])) (suf_tail (suf_tail h)) (by (first | lia | omega)) (by rw [List.length_singleton]; (first | lia | omega))).elim fun ch' hl =>
   get_of L he (o_ret L h rfl (s_no (t_cmp rfl rfl rfl) (l_cons (s_yes (t_cmp rfl rfl rfl) (l_one (s_back L (suf_tail h) rfl rfl))) (l_cons (s_aug rfl rfl (a_str (s:=[]) (t:=[d]) (Nat.le_of_ble_eq_true rfl))) (l_one (s_fitr rfl hl rfl)))))) rfl
theorem x_end (he:vlist σ pb=some []):phi TT (n+3) i_get_token [.ref x] (atR text x pa pb σ [])=some (.str [],atR text x pa pb σ []) :=
 get_of L he (l_cons (s_fitr rfl (f_over (n_nil L)) rfl) (l_one (s_ret rfl))) rfl
theorem x_dot (h:[13,32,46] <:+ text) (he:vlist σ pb=some []):phi TT (n+3) i_get_token [.ref x] (atR text x pa pb σ [13,32,46])=some (.str [46],atR text x pa pb σ []):=by
 have u (c:Nat) (hw:wsp c=true) {r:List Nat} {ch:Option V}:loopStep (phi TT (n+2)) (lamN TT (n+2)) TT.G [] gO.t gO.a (.str [c]) (.next,gl x σ.length [] ch) (R2 text x pa pb σ r false)=some (true,(.next,gl x σ.length [] (some (.str [c]))),R2 text x pa pb σ r false) :=
  u_cont (t:=gO.t) rfl (l_stop (s_yes (t_ws L (h:=hw) rfl rfl) (l_one rfl)) rfl) rfl
 exact get_of L he (l_cons (s_fitr rfl (f_turn (n_cons L h) (u 13 rfl) (f_turn (n_cons L (suf_tail h)) (u 32 rfl) (f_turn (n_cons L (suf_tail (suf_tail h))) (u_next (t:=gO.t) rfl (l_cons (o_first L (c:=46) rfl) (l_one (s_no (t_cmp rfl rfl rfl) (l_cons (s_no (t_cmp rfl rfl rfl) rfl) (l_cons (s_aug rfl rfl (a_str (s:=[]) (t:=[46]) (Nat.le_of_ble_eq_true rfl))) (l_one (s_fitr rfl (f_over (n_nil L)) rfl))))))) rfl) (f_over n_done)))) rfl) (l_one (s_ret rfl))) rfl
theorem x_pop {w:V} {ws:List V} (he:vlist σ pb=some (w :: ws)) (hw:w.low σ.length=true):phi TT (n+1) i_get_token [.ref x] (atR text x pa pb σ r)=some (w,atR text x pa pb (σ.set pb (.list ws)) r) :=
 f_call rfl rfl rfl (l_stop (s_yes (t_of rfl (r_attr (v:=.ref pb) rfl (bnd rfl (bnd (put_x0 L) rfl))) (mpd (put_b0 L |>.trans he))) (l_one (s_ret (r_meth (r_attr (v:=.ref pb) rfl (bnd rfl (bnd (put_x0 L) rfl))) (recv_c (put_b0 L |>.trans he)) (r_one rfl) (m_pop (put_b0 L |>.trans he)))))) rfl) rfl
  ((leave_same (List.length_set ..) (by rw [put_len]; exact hw)).trans (congrArg (Prod.mk _) (put_wait L)))
theorem x_push {w:V} {ws:List V} (he:vlist σ pb=some ws) (hl:ws.length < maxLen):phi TT (n+1) i_push_token [.ref x,w] (atR text x pa pb σ r)=some (.none,atR text x pa pb (σ.set pb (.list (ws++[w]))) r) :=
 f_call rfl rfl rfl (l_one (s_expr (r_meth (r_attr (v:=.ref pb) rfl (bnd rfl (bnd (put_x0 L) rfl))) (recv_c (put_b0 L |>.trans he)) (r_one rfl) (m_append (put_b0 L |>.trans he) hl)))) rfl
  ((leave_same (List.length_set ..) rfl).trans (congrArg (Prod.mk _) (put_wait L)))
end
end Mine
namespace Mine
open PySem
noncomputable def plainC (c:Nat):Bool:=!(wsp c)&&!(c==34)&&!(c==92)
noncomputable abbrev plainW (w:List Nat):Prop:=∀ c∈w,plainC c=true
theorem plainC_of {c:Nat} (h:plainC c=true):wsp c=false∧c≠34∧c≠92:=by
 have h:=Bool.and_eq_true_iff.mp h
 have g:=Bool.and_eq_true_iff.mp h.1
 exact ⟨(Bool.not_eq_true' _).mp g.1,ne_of_beq_false ((Bool.not_eq_true' _).mp g.2),ne_of_beq_false ((Bool.not_eq_true' _).mp h.2)⟩
section
variable {stp:Nat→Bool} {w:List Nat} {m:Nat}
theorem in_word (hs:∀ c,plainC c=true→stp c=false) {u t:List Nat} (h:InW stp u t):∀ {w:List Nat},plainW w→InW stp (w++u) (w++t)
 | [],_=>h
 | _ :: _,hw=>.plain (hs _ (hw _ (.head _))) (plainC_of (hw _ (.head _))).2.2 (in_word hs h fun c hc=>hw c (.tail _ hc))
theorem in_all (hs:∀ c,plainC c=true→stp c=false) (hw:plainW w):InW stp w w:=by
 have:=in_word hs .nil hw
 rwa [List.append_nil] at this
theorem isQ_plain (c:Nat) (h:plainC c=true):isQ c=false:=beq_false_of_ne (plainC_of h).2.1
theorem wsp_plain (c:Nat) (h:plainC c=true):wsp c=false:=(plainC_of h).1
theorem written_word (hw:plainW w) (hm:m / 4 < w.length):Word (written w m) w:=by
 have ht:plainW (w.take (m / 4)):=fun c hc=>hw c (List.mem_of_mem_take hc)
 have hd:plainW (w.drop (m / 4+1)):=fun c hc=>hw c (List.mem_of_mem_drop hc)
 have e:w.drop (m / 4)=w[m / 4] :: w.drop (m / 4+1):=List.drop_eq_getElem_cons hm
 have hj:w.take (m / 4)++(w[m / 4] :: w.drop (m / 4+1))=w:=by rw [← e,List.take_append_drop]
 have hb:bslash w m=w.take (m / 4)++(92 :: w[m / 4] :: w.drop (m / 4+1)):=by
  unfold bslash
  rw [e,List.append_assoc]; rfl
 unfold written
 rw [hb]
 split
 ·have:=in_word isQ_plain (.back (d:=w[m / 4]) (in_all isQ_plain hd)) ht
  rw [hj] at this
  exact .quote this
 ·have hz:wsp (([10,9,32]:List Nat).getD (m % 4) 0)=true:=by
   have h4:m % 4=0∨m % 4=1∨m % 4=2:=by (first | lia | omega)
   rcases h4 with h | h | h <;> rw [h] <;> rfl
  cases hc:w.take (m / 4) with
  | nil =>
   rw [hc] at hj
   have:=Word.back (d:=w[m / 4]) (in_all wsp_plain hd) hz
   rwa [show w[m / 4] :: w.drop (m / 4+1)=w from hj] at this
  | cons c t =>
   rw [hc] at hj ht
   have h0:=plainC_of (ht c (.head _))
   have:=Word.plain h0.1 h0.2.1 h0.2.2 (in_word wsp_plain (.back (d:=w[m / 4]) (in_all wsp_plain hd)) fun c hc=>ht c (.tail _ hc)) hz
   rwa [show c :: (t++_ :: w.drop (m / 4+1))=w from hj] at this
theorem sgT_plain {h:Row→Bool} {d:Nat} {tb:List Row} (hd:plainC d=true) (hb:tb.all (fun x=>plainC x.2)=true):plainC (sgT h d tb)=true:=by
 unfold sgT
 cases e:tb.find? h with
 | none=>exact hd
 | some x=>exact List.all_eq_true.mp hb x (List.mem_of_find?_eq_some e)
theorem fmode_plain {m:Int}:plainW (fmode m):=by
 intro c hc
 cases hc with
 | head=>exact sgT_plain rfl (by decide)
 | tail _ hc=>exact (List.mem_map.mp hc).elim fun tb h=>h.2▸sgT_plain rfl (List.all_eq_true.mp (show ftabs.all (fun tb=>tb.all fun x=>plainC x.2)=true by decide) tb h.1)
end
end Mine
namespace Mine
open PySem
section
variable {m x y:Nat}
noncomputable abbrev bitB (m k:Nat):Bool:=m / 2 ^ k % 2==1
theorem and_pow {k:Nat}:m &&& 2 ^ k=if bitB m k then 2 ^ k else 0:=by
 refine Nat.eq_of_testBit_eq fun i=>?_
 have hb:bitB m k=m.testBit k:=by rw [Nat.testBit_eq_decide_div_mod_eq]; rfl
 rw [Nat.testBit_and,Nat.testBit_two_pow,hb]
 by_cases e:k=i
 ·subst e
  rw [decide_eq_true rfl,Bool.and_true]
  cases m.testBit k
  ·rw [if_neg (by decide),Nat.zero_testBit]
  ·rw [if_pos rfl,Nat.testBit_two_pow,decide_eq_true rfl]
 ·rw [decide_eq_false e,Bool.and_false]
  cases m.testBit k
  ·rw [if_neg (by decide),Nat.zero_testBit]
  ·rw [if_pos rfl,Nat.testBit_two_pow,decide_eq_false e]
theorem hit_pow {k c:Nat}:hit1 (m:Int) (((2 ^ k:Nat):Int),c)=bitB m k:=by
 unfold hit1
 rw [bAnd,and_pow,Bool.eq_iff_iff,beq_iff_eq,Int.natCast_inj]
 have:2 ^ k≠0:=Nat.ne_of_gt (Nat.two_pow_pos k)
 cases bitB m k
 ·exact ⟨fun h=>absurd h.symm this,fun h=>nomatch h⟩
 ·exact ⟨fun ζ=>rfl,fun ζ=>rfl⟩
theorem hit_two {j k c:Nat}:hit1 (m:Int) (((2 ^ j ||| 2 ^ k:Nat):Int),c)=(bitB m j&&bitB m k):=by
 unfold hit1
 have h (z:Nat):(m &&& 2 ^ z=2 ^ z)↔bitB m z=true:=by
  have:=hit_pow (m:=m) (k:=z) (c:=0)
  unfold hit1 at this
  rw [bAnd] at this
  rw [← this,beq_iff_eq,Int.natCast_inj]
 rw [bAnd,Bool.eq_iff_iff,beq_iff_eq,Int.natCast_inj,Bool.and_eq_true,← h j,← h k,Nat.and_or_distrib_left]
 constructor
 ·intro e
  have a1:=congrArg (· &&& 2 ^ j) e
  have a2:=congrArg (· &&& 2 ^ k) e
  simp only [← Nat.and_or_distrib_left,Nat.and_assoc] at a1 a2
  have s1:(2 ^ j ||| 2 ^ k) &&& 2 ^ j=2 ^ j:=by
   refine Nat.eq_of_testBit_eq fun i=>?_
   rw [Nat.testBit_and,Nat.testBit_or]
   cases (2 ^ j).testBit i <;> simp
  have s2:(2 ^ j ||| 2 ^ k) &&& 2 ^ k=2 ^ k:=by
   refine Nat.eq_of_testBit_eq fun i=>?_
   rw [Nat.testBit_and,Nat.testBit_or]
   cases (2 ^ k).testBit i <;> simp
  rw [s1] at a1
  rw [s2] at a2
  exact ⟨a1,a2⟩
 ·intro e
  rw [e.1,e.2]
noncomputable def sgR (b:Bool) (c:Nat):Nat:=if b then c else 45
noncomputable def sgX (s x:Bool) (c d:Nat):Nat:=if s&&x then c else if s then d else if x then 120 else 45
theorem sgT_one {k c:Nat}:sgT (hit1 (m:Int)) 45 [(((2 ^ k:Nat):Int),c)]=sgR (bitB m k) c:=by
 unfold sgT sgR
 rw [List.find?_cons,hit_pow]
 cases bitB m k <;> rfl
theorem sgT_three {j k c d:Nat}:sgT (hit1 (m:Int)) 45 [(((2 ^ j ||| 2 ^ k:Nat):Int),c),(((2 ^ j:Nat):Int),d),(((2 ^ k:Nat):Int),120)]=sgX (bitB m j) (bitB m k) c d:=by
 unfold sgT sgX
 rw [List.find?_cons,hit_two,List.find?_cons,hit_pow,List.find?_cons,hit_pow]
 cases bitB m j <;> cases bitB m k <;> rfl
noncomputable def rowB (b:Nat→Bool):List Nat:=[sgR (b 8) 114,sgR (b 7) 119,sgX (b 11) (b 6) 115 83,sgR (b 5) 114,sgR (b 4) 119,sgX (b 10) (b 3) 115 83,sgR (b 2) 114,sgR (b 1) 119,sgX (b 9) (b 0) 116 84]
theorem fmode_bits:fmode (m:Int)=sgT (hit0 (m:Int)) 63 ftab0 :: rowB (bitB m):=by
 have h:ftabs.map (sgT (hit1 (m:Int)) 45)=rowB (bitB m):=by
  unfold rowB
  rw [← sgT_one (m:=m) (k:=8),← sgT_one (m:=m) (k:=7),← sgT_three (m:=m) (j:=11) (k:=6),← sgT_one (m:=m) (k:=5),← sgT_one (m:=m) (k:=4),← sgT_three (m:=m) (j:=10) (k:=3),← sgT_one (m:=m) (k:=2),← sgT_one (m:=m) (k:=1),← sgT_three (m:=m) (j:=9) (k:=0)]
  rfl
 unfold fmode
 rw [h]
end
end Mine
namespace Mine
open PySem PySem.W
section
variable {n:Nat} {ns:List Int} {text:List Nat} {w:List V} {r u:List Nat} {g:List (List Nat)} {σ τ:Sto}
noncomputable abbrev dot:List Nat:=[13,32,46]
theorem index_sgn {u:Nat} (h:u < 64):subAt [sgn u] B64 0=some u:=by
 have:∀ u < 64,subAt [sgn u] B64 0=some u:=by decide +kernel
 exact this u h
theorem m_index {Λ:Lexer} {u:Nat} (h:u < 64):methR Λ .index (.str B64) 0 [.str [sgn u]] σ=some (.int (u:Nat),σ):=by
 show orO ((subAt [sgn u] B64 0).map fun k=>(V.int (k:Nat),σ)) _=_
 rw [index_sgn h]; rfl
theorem in_tup {v:V} {xs:List V} {c:Bool} (hc:inL v xs=some c):cmpop .NotIn v (.tup xs) σ=some (!c):=by
 show (orO none (orO (inL v xs) none)).map (!·)=_
 rw [hc]; rfl
theorem word_in (h0:([]==u)=false) (h1:([46]==u)=false):cmpop .NotIn (.str u) (.tup [.str [],.str [46]]) σ=some true:=by
 refine in_tup (c:=false) ?_
 show (some ([]==u)).bind (fun c=>((some ([46]==u)).bind fun d=>(some false).map (d||·)).map (c||·))=_
 rw [h0,h1]; rfl
theorem cast_beq {a b:Nat}:((a:Int)==(b:Int))=(a==b):=by
 rw [Bool.eq_iff_iff,beq_iff_eq,beq_iff_eq]; exact Int.natCast_inj
theorem inL_nts {a:Nat}:∀ {D:List Nat},inL (.int (a:Nat)) (nts D)=some (D.any (·==a))
 | []=>rfl
 | x :: D=>by
  show (some ((x:Int)==(a:Int))).bind (fun c=>(inL (.int (a:Nat)) (nts D)).map (c||·))=_
  rw [inL_nts,cast_beq]; rfl
theorem c_chr {c:Nat} (h:c < 256):callB .chr [.int (c:Nat)] σ=some (.str [c],σ):=if_pos ⟨Int.natCast_nonneg c,Int.ofNat_lt.mpr h⟩
theorem m_extend {Λ:Lexer} {i:Nat} {xs ys:List V} (h:vlist σ i=some xs) (hl:xs.length+ys.length≤maxLen):methR Λ .extend (.ref i) 1 [.lst ys] σ=some (.none,σ.set i (.list (xs++ys))):=by
 show ((vlist σ i).bind fun xs=>if refV (.lst ys)≠some i∧xs.length+ys.length≤maxLen then some (V.none,σ.set i (.list (xs++ys))) else none)=_
 rw [h]
 exact if_pos ⟨nofun,hl⟩
theorem eqL_nts:∀ {l:List Nat},eqL (nts l) (nts l)=some true
 | []=>rfl
 | x :: l=>by
  show (some ((x:Int)==(x:Int))).bind (fun a=>(eqL (nts l) (nts l)).map fun b=>a&&b)=_
  rw [eqL_nts,beq_self_eq_true]; rfl
theorem eq_nts {l:List Nat}:cmpop .Eq (.lst (nts l)) (.lst (nts l)) σ=some true:=by
 show orO (if (nts l).length=(nts l).length then eqL (nts l) (nts l) else some false) _=_
 rw [if_pos rfl,eqL_nts]; rfl
theorem ne_nts {l:List Nat}:cmpop .NotEq (.lst (nts l)) (.lst (nts l)) σ=some false:=by
 show (orO (if (nts l).length=(nts l).length then eqL (nts l) (nts l) else some false) _).map (!·)=_
 rw [if_pos rfl,eqL_nts]; rfl
noncomputable def md (x:Int):Nat:=(x.fmod 65536).toNat
noncomputable def mn (x:Int):Nat:=((x.fdiv 65536).fmod 40).toNat
theorem md_is (x:Int):x.fmod 65536=(md x:Int):=(Int.toNat_of_nonneg (Int.fmod_nonneg_of_pos x (by decide))).symm
theorem mn_is (x:Int):(x.fdiv 65536).fmod 40=(mn x:Int):=(Int.toNat_of_nonneg (Int.fmod_nonneg_of_pos _ (by decide))).symm
theorem mn_lt (x:Int):mn x < 40:=by
 have:=Int.fmod_lt_of_pos (x.fdiv 65536) (b:=40) (by decide)
 have:=mn_is x
 omega
theorem x_imode {m:Nat}:phi TT (n+1) i_S_IMODE [.int (m:Nat)] σ=some (.int ((m % 4096:Nat):Int),σ):=by
 rw [x_S_IMODE,show Builtin.bitAnd (m:Int) 4095=((m &&& 4095:Nat):Int) from bAnd m 4095,show m &&& 4095=m % 4096 from Nat.and_two_pow_sub_one_eq_mod m 12]
theorem sum_scr:∃ t:Int,∀ σ:Sto,scrOf σ SCI=some (zts ns)→callB .sum [.fn SCI] σ=some (.int t,σ):=by
 have h:∀ (l:List Int) (a:Int),∃ t,sumL (zts l) a=some t:=by
  intro l
  induction l with
  | nil=>exact fun a=>⟨a,rfl⟩
  | cons x l ih=>exact fun a=>ih (a+x)
 refine (h ns 0).elim fun t ht=>⟨t,fun σ hσ=>?_⟩
 show (orO none ((some SCI).bind fun i=>scrOf σ i)).bind _=_
 show (orO none (scrOf σ SCI)).bind _=_
 rw [hσ]
 show (sumL (zts ns) 0).map _=_
 rw [ht]; rfl
noncomputable abbrev nV (l:List Int):V:=.lst (zts l)
noncomputable abbrev mV (l:List Int):V:=.lst (l.map fun x=>.int (md x:Nat))
noncomputable def pc (l:List Int) (k:Nat):List Nat:=written (fmode ((md (l.getD k 0):Nat):Int)) (mn (l.getD k 0))
theorem pc_len {l:List Int} {k:Nat}:(pc l k).length≤13:=Nat.le_trans written_length (by rw [fmode_length]; decide)
theorem row_word (x:Int):Word (written (fmode ((md x:Nat):Int)) (mn x)) (fmode ((md x:Nat):Int)):=written_word fmode_plain (by rw [fmode_length]; have:=mn_lt x; (first | lia | omega))
noncomputable def partE (s:S):E:=match s with
 | .assign _ e _=>e
 | .loop _ _ it _ _ _=>it
 | .ret e _=>e
 | .cond t _ _ _=>t
 | .whil _ _ t _ _=>t
 | .expr e _=>e
 | _=>.raw default
end
end Mine
namespace Mine
open PySem
noncomputable def octs:List Nat→List Nat
 | a :: b :: c :: d :: r=>(a*4+b / 16) :: (b % 16*16+c / 4) :: (c % 4*64+d) :: octs r
 | _=>[]
theorem dgm {x m r:Nat} (h:r < m):(x*m+r) / m=x∧(x*m+r) % m=r :=
 ⟨by rw [Nat.mul_comm,Nat.mul_add_div (Nat.zero_lt_of_lt h),Nat.div_eq_of_lt h]; rfl,by rw [Nat.mul_comm,Nat.mul_add_mod,Nat.mod_eq_of_lt h]⟩
theorem dv {w m k x:Nat} (hm:0 < m):(w*(k*m)+x) / m=w*k+x / m∧(w*(k*m)+x) % m=x % m:=by
 rw [← Nat.mul_assoc,Nat.mul_comm (w*k) m]
 exact ⟨Nat.mul_add_div hm ..,Nat.mul_add_mod ..⟩
theorem dw {w m k r:Nat} (h:r < m):(w*m+r) % (m*k)=w % k*m+r:=by
 rw [Nat.mod_mul,(dgm h).1,(dgm h).2,Nat.mul_comm,Nat.add_comm]
theorem byte0 {o:List Nat} {lc x:Nat} (h:x < 256):b64byte ⟨o,0,lc⟩ x=⟨o++[x / 4],2,lc % 256*256+x⟩:=by
 show W64.mk (o++[(lc % 256*(64*4)+x) / 4 % 64]) _ _=_
 rw [(dv (by decide)).1,(dgm (m:=64) (Nat.div_lt_of_lt_mul h)).2]
theorem byte2 {o:List Nat} {lc x:Nat} (h:x < 256):b64byte ⟨o,2,lc⟩ x=⟨o++[lc % 4*16+x / 16],4,lc % 256*256+x⟩:=by
 show W64.mk (o++[(lc % 256*(16*16)+x) / 16 % (16*4)]) _ _=_
 rw [(dv (by decide)).1,dw (Nat.div_lt_of_lt_mul h),Nat.mod_mod_of_dvd _ (by decide)]
theorem byte4 {o:List Nat} {lc x:Nat} (h:x < 256):b64byte ⟨o,4,lc⟩ x=⟨o++[lc % 16*4+x / 64]++[x % 64],0,lc % 256*256+x⟩:=by
 show W64.mk (o++[(lc % 256*(4*64)+x) / 64 % (4*16)]++[(lc % 256*(4*64)+x) / 1 % 64]) _ _=_
 rw [(dv (by decide)).1,dw (Nat.div_lt_of_lt_mul h),Nat.mod_mod_of_dvd _ (by decide),Nat.div_one,(dv (by decide)).2]
theorem low4 {z y:Nat}:(z % 256*256+y) % 4=y % 4:=(dv (m:=4) (k:=64) (by decide)).2
theorem low16 {z y:Nat}:(z % 256*256+y) % 16=y % 16:=(dv (m:=16) (k:=16) (by decide)).2
theorem b64_octs:∀ (l:List Nat),(∀ c∈l,c < 64)→l.length % 4=0→(octs l).length=l.length / 4*3∧(∀ c∈octs l,c < 256)∧∀ (o:List Nat) (lc:Nat),∃ lc',(octs l).foldl b64byte ⟨o,0,lc⟩=⟨o++l,0,lc'⟩
 | [],_,_=>⟨rfl,(fun ζ h=>nomatch h),fun o lc=>⟨lc,by rw [List.append_nil]; rfl⟩⟩
 | a :: b :: c :: d :: r,hl,h=>by
  have ha:=hl a (.head _)
  have hb:=hl b (.tail _ (.head _))
  have hc:=hl c (.tail _ (.tail _ (.head _)))
  have hd:=hl d (.tail _ (.tail _ (.tail _ (.head _))))
  have hb4:b / 16 < 4:=Nat.div_lt_of_lt_mul hb
  have hc16:c / 4 < 16:=Nat.div_lt_of_lt_mul hc
  have hr:r.length % 4=0:=(Nat.add_mod_right r.length 4).symm.trans h
  have ih:=b64_octs r (fun x hx=>hl x (.tail _ (.tail _ (.tail _ (.tail _ hx))))) hr
  have h0:a*4+b / 16 < 256:=by lia
  have h1:b % 16*16+c / 4 < 256:=by lia
  have h2:c % 4*64+d < 256:=by lia
  refine ⟨?_,?_,fun o lc=>?_⟩
  ·show (octs r).length+3=(r.length+4) / 4*3
   rw [ih.1,Nat.add_div_right _ (by decide),Nat.succ_mul]
  ·intro x hx
   rcases List.mem_cons.mp hx with rfl | hx
   ·exact h0
   rcases List.mem_cons.mp hx with rfl | hx
   ·exact h1
   rcases List.mem_cons.mp hx with rfl | hx
   ·exact h2
   exact ih.2.1 x hx
  ·rw [show octs (a :: b :: c :: d :: r)=(a*4+b / 16) :: (b % 16*16+c / 4) :: (c % 4*64+d) :: octs r from rfl,List.foldl_cons,List.foldl_cons,List.foldl_cons,byte0 h0,byte2 h1,byte4 h2,low4,low16,(dgm hb4).1,(dgm hb4).2,(dgm hc16).1,(dgm hc16).2,(dgm hd).1,(dgm hd).2,Nat.div_add_mod',Nat.div_add_mod']
   refine (ih.2.2 _ _).elim fun lc' e=>⟨lc',e.trans ?_⟩
   rw [List.append_assoc,List.append_assoc,List.append_assoc,List.append_assoc]; rfl
theorem b64_figs {l:List Nat} (hl:∀ c∈l,c < 64) (h:l.length % 4=0):b64 (octs l)=l.map sgn:=by
 refine ((b64_octs l hl h).2.2 [] 0).elim fun lc e=>?_
 unfold b64
 rw [e]; rfl
section
variable {n:Nat} {σ:Sto} {l:List Nat}
end
end Mine
namespace Mine.GS
section
variable (pf rk:Nat→Nat→Nat) (L:Nat→Nat→Int)
structure Pf:Prop where
 p1:∀ k < 4,∀ i < 3,pf k i < 3∧rk k (pf k i)=i
 p2:∀ k < 4,∀ c < 3,rk k c < 3∧pf k (rk k c)=c
 inj:∀ c < 3,∀ j < 4,∀ k < 4,L c j=L c k→j=k
noncomputable def up {α:Type} (f:Nat→α) (i:Nat) (x:α):Nat→α:=fun j=>if j=i then x else f j
structure St where
 H:Nat→Option Nat
 r:Nat→Nat
 W:List Nat
noncomputable def ask (k:Nat) (s:St):St:=if s.r k < 3 then (match s.H (pf k (s.r k)) with
 | none=>⟨up s.H (pf k (s.r k)) (some k),up s.r k (s.r k+1),s.W⟩
 | some o=>if L (pf k (s.r k)) k > L (pf k (s.r k)) o then ⟨up s.H (pf k (s.r k)) (some k),up s.r k (s.r k+1),s.W++[o]⟩ else ⟨s.H,up s.r k (s.r k+1),s.W++[k]⟩) else s
noncomputable def run:Nat→St→Option St
 | 0,_=>none
 | f+1,s=>match s.W with
  | []=>some s
  | k :: W=>run f (ask pf L k ⟨s.H,s.r,W⟩)
noncomputable def hv (M:Nat→Nat) (k:Nat):Nat:=if M 0=k then rk k 0 else if M 1=k then rk k 1 else if M 2=k then rk k 2 else 3
noncomputable def Stb (M:Nat→Nat):Prop:=∀ k < 4,∀ d < 3,¬ (rk k d < hv rk M k∧L d k > L d (M d))
structure Mt (M:Nat→Nat):Prop where
 lt:∀ c < 3,M c < 4
 n1:M 0≠M 1
 n2:M 0≠M 2
 n3:M 1≠M 2
variable {pf rk L} {M:Nat→Nat} {k n c:Nat} {s:St}
theorem up_s {α:Type} {f:Nat→α} {i:Nat} {x:α}:up f i x i=x:=if_pos rfl
theorem up_n {α:Type} {f:Nat→α} {i j:Nat} {x:α} (h:j≠i):up f i x j=f j:=if_neg h
set_option tactic.hygienic true in
theorem hv_ge (P:Pf pf rk L) (hk:k < 4) (hn:n≤3) (h:∀ i < n,M (pf k i)≠k):n≤hv rk M k:=by
 have one {c:Nat} (hc:c < 3) (e:M c=k):n≤rk k c:=by
  rcases Nat.lt_or_ge (rk k c) n with h' | h'
  ·exact absurd ((P.p2 k hk c hc).2.symm▸e) (h _ h')
  ·exact h'
 unfold hv
 split
 ·rename_i e; exact one (by decide) e
 ·split
  ·rename_i e; exact one (by decide) e
  ·split
   ·rename_i e; exact one (by decide) e
   ·exact hn
set_option tactic.hygienic true in
theorem hv_ne (P:Pf pf rk L) (hk:k < 4) (hc:c < 3) (h:M c≠k):hv rk M k≠rk k c:=by
 have one {d:Nat} (hd:d < 3) (e:M d=k):rk k d≠rk k c:=fun q=>h (by
  rw [← (P.p2 k hk c hc).2,← q,(P.p2 k hk d hd).2]; exact e)
 have:=(P.p2 k hk c hc).1
 unfold hv
 split
 ·rename_i e; exact one (by decide) e
 ·split
  ·rename_i e; exact one (by decide) e
  ·split
   ·rename_i e; exact one (by decide) e
   ·(first | lia | omega)
theorem hv_at (m:Mt M) (hc:c < 3) (e:M c=k):hv rk M k=rk k c:=by
 have:c=0∨c=1∨c=2:=by (first | lia | omega)
 unfold hv
 rcases this with rfl | rfl | rfl
 ·rw [if_pos e]
 ·rw [if_neg fun h=>m.n1 (h.trans e.symm),if_pos e]
 ·rw [if_neg fun h=>m.n2 (h.trans e.symm),if_neg fun h=>m.n3 (h.trans e.symm),if_pos e]
theorem hv_out (h:∀ c < 3,M c≠k):hv rk M k=3:=by
 unfold hv
 rw [if_neg (h 0 (by decide)),if_neg (h 1 (by decide)),if_neg (h 2 (by decide))]
structure Inv (pf rk:Nat→Nat→Nat) (L:Nat→Nat→Int) (s:St):Prop where
 held:∀ c k,s.H c=some k→c < 3∧k < 4∧0 < s.r k∧pf k (s.r k - 1)=c
 r3:∀ k,s.r k≤3
 wt:∀ k∈s.W,k < 4∧∀ c,s.H c≠some k
 nd:s.W.Nodup
 all:∀ k < 4,k∈s.W∨(∃ c,s.H c=some k)∨s.r k=3
 ask:∀ k < 4,∀ i < s.r k,∃ j,s.H (pf k i)=some j∧(j=k∨L (pf k i) j > L (pf k i) k)
 opt:∀ M,Mt M→Stb rk L M→∀ k < 4,∀ i < s.r k,s.H (pf k i)≠some k→M (pf k i)≠k
theorem inv_ask (P:Pf pf rk L) {H:Nat→Option Nat} {r:Nat→Nat} {W:List Nat} (I:Inv pf rk L ⟨H,r,k :: W⟩):Inv pf rk L (ask pf L k ⟨H,r,W⟩):=by
 have hk:=(I.wt k (.head _)).1
 have hno:=(I.wt k (.head _)).2
 have hnW:=(List.nodup_cons.mp I.nd).1
 have hnd:=(List.nodup_cons.mp I.nd).2
 have hW:∀ j∈W,j < 4∧∀ c,H c≠some j:=fun j hj=>I.wt j (.tail _ hj)
 have hall:∀ j < 4,j≠k→j∈W∨(∃ c,H c=some j)∨r j=3:=fun j hj hne=>(I.all j hj).imp (fun h=>(List.mem_cons.mp h).resolve_left hne) id
 unfold GS.ask
 show Inv pf rk L (if r k < 3 then _ else _)
 by_cases hr:r k < 3
 ·rw [if_pos hr]
  have hc:=P.p1 k hk _ hr
  generalize hcd:pf k (r k)=c at hc ⊢
  show Inv pf rk L (match H c with | none=>⟨up H c (some k),up r k (r k+1),W⟩ | some o=>if L c k > L c o then ⟨up H c (some k),up r k (r k+1),W++[o]⟩ else ⟨H,up r k (r k+1),W++[k]⟩)
  have r3':∀ j,up r k (r k+1) j≤3:=fun j=>by
   by_cases e:j=k
   ·rw [e,up_s]; exact hr
   ·rw [up_n e]; exact I.r3 j
  have keep {j c':Nat} (h:H c'=some j):j≠k:=fun e=>hno c' (e▸h)
  cases ho:H c with
  | none =>
   have off {x j:Nat} (h:H x=some j):x≠c:=fun q=>by rw [q,ho] at h; cases h
   show Inv pf rk L ⟨up H c (some k),up r k (r k+1),W⟩
   refine ⟨fun c' j h=>?_,r3',fun j hj=>⟨(hW j hj).1,fun c' h=>?_⟩,hnd,fun j hj=>?_,fun j hj i hi=>?_,fun M m st j hj i hi hne=>?_⟩
   ·by_cases e:c'=c
    ·subst e
     have:some k=some j:=up_s.symm.trans h
     cases this
     show _∧_∧0 < up r k (r k+1) k∧pf k (up r k (r k+1) k - 1)=c'
     rw [up_s]; exact ⟨hc.1,hk,Nat.succ_pos _,hcd⟩
    ·have h:H c'=some j:=(up_n e).symm.trans h
     show _∧_∧0 < up r k (r k+1) j∧pf j (up r k (r k+1) j - 1)=c'
     rw [up_n (keep h)]; exact I.held c' j h
   ·by_cases e:c'=c
    ·subst e
     have:some k=some j:=up_s.symm.trans h
     cases this
     exact hnW hj
    ·exact (hW j hj).2 c' ((up_n e).symm.trans h)
   ·by_cases e:j=k
    ·exact .inr (.inl ⟨c,e▸up_s⟩)
    ·rcases hall j hj e with h | ⟨c',h⟩ | h
     ·exact .inl h
     ·exact .inr (.inl ⟨c',(up_n (off h)).trans h⟩)
     ·exact .inr (.inr ((up_n e).trans h))
   ·by_cases e:j=k
    ·subst e
     rcases Nat.lt_or_ge i (r j) with h' | h'
     ·obtain ⟨o,h1,h2⟩:=I.ask j hj i h'
      exact ⟨o,(up_n (off h1)).trans h1,h2⟩
     ·have hi:i < up r j (r j+1) j:=hi
      rw [up_s] at hi
      have:i=r j:=by (first | lia | omega)
      subst this
      exact ⟨j,by rw [hcd]; exact up_s,.inl rfl⟩
    ·have hi:i < up r k (r k+1) j:=hi
     rw [up_n e] at hi
     obtain ⟨o,h1,h2⟩:=I.ask j hj i hi
     exact ⟨o,(up_n (off h1)).trans h1,h2⟩
   ·have old (hi:i < r j):M (pf j i)≠j:=I.opt M m st j hj i hi fun h=>hne ((up_n (off h)).trans h)
    have hi:i < up r k (r k+1) j:=hi
    by_cases e:j=k
    ·subst e
     rw [up_s] at hi
     rcases Nat.lt_or_ge i (r j) with h' | h'
     ·exact old h'
     ·have:i=r j:=by (first | lia | omega)
      subst this
      exact absurd (by rw [hcd]; exact up_s) hne
    ·rw [up_n e] at hi; exact old hi
  | some o =>
   have hO:=I.held c o ho
   have hok:o≠k:=keep ho
   have hoW:o∉W:=fun h=>(hW o h).2 c ho
   have only {c':Nat} (h:H c'=some o):c'=c:=(I.held c' o h).2.2.2.symm.trans hO.2.2.2
   show Inv pf rk L (if L c k > L c o then ⟨up H c (some k),up r k (r k+1),W++[o]⟩ else ⟨H,up r k (r k+1),W++[k]⟩)
   by_cases hg:L c k > L c o
   ·rw [if_pos hg]
    have later (M:Nat→Nat) (m:Mt M) (st:Stb rk L M):M c≠o:=fun e=>by
     have h1:r k≤hv rk M k:=hv_ge P hk (I.r3 k) fun i hi=>I.opt M m st k hk i hi (hno _)
     have h2:hv rk M k≠rk k c:=hv_ne P hk hc.1 (by rw [e]; exact hok)
     rw [hc.2] at h2
     exact st k hk c hc.1 ⟨by rw [hc.2]; (first | lia | omega),by rw [e]; exact hg⟩
    refine ⟨fun c' j h=>?_,r3',fun j hj=>?_,?_,fun j hj=>?_,fun j hj i hi=>?_,fun M m st j hj i hi hne=>?_⟩
    ·by_cases e:c'=c
     ·subst e
      have:some k=some j:=up_s.symm.trans h
      cases this
      show _∧_∧0 < up r k (r k+1) k∧pf k (up r k (r k+1) k - 1)=c'
      rw [up_s]; exact ⟨hc.1,hk,Nat.succ_pos _,hcd⟩
     ·have h:H c'=some j:=(up_n e).symm.trans h
      show _∧_∧0 < up r k (r k+1) j∧pf j (up r k (r k+1) j - 1)=c'
      rw [up_n (keep h)]; exact I.held c' j h
    ·have hj':j < 4∧(j=o∨∀ c,H c≠some j)∧j≠k:=(List.mem_append.mp hj).elim (fun h=>⟨(hW j h).1,.inr (hW j h).2,fun e=>hnW (e▸h)⟩) fun h=>by
      rw [List.mem_singleton.mp h]; exact ⟨hO.2.1,.inl rfl,hok⟩
     refine ⟨hj'.1,fun c' h=>?_⟩
     by_cases e:c'=c
     ·subst e
      have:some k=some j:=up_s.symm.trans h
      cases this
      exact hj'.2.2 rfl
     ·have h2:H c'=some j:=(up_n e).symm.trans h
      rcases hj'.2.1 with h' | h'
      ·exact e (only (h'▸h2))
      ·exact h' c' h2
    ·exact List.nodup_append.mpr ⟨hnd,List.pairwise_singleton ..,fun a ha b hb e=>hoW (List.mem_singleton.mp hb▸e▸ha)⟩
    ·by_cases e:j=k
     ·exact .inr (.inl ⟨c,e▸up_s⟩)
     ·rcases hall j hj e with h | ⟨c',h⟩ | h
      ·exact .inl (List.mem_append_left _ h)
      ·by_cases e':c'=c
       ·subst e'
        have:some o=some j:=ho.symm.trans h
        cases this
        exact .inl (List.mem_append_right _ (.head _))
       ·exact .inr (.inl ⟨c',(up_n e').trans h⟩)
      ·exact .inr (.inr ((up_n e).trans h))
    ·have old (hi:i < r j):∃ z,up H c (some k) (pf j i)=some z∧(z=j∨L (pf j i) z > L (pf j i) j):=by
      obtain ⟨z,h1,h2⟩:=I.ask j hj i hi
      by_cases e:pf j i=c
      ·have:some o=some z:=by rw [← ho,← e]; exact h1
       cases this
       refine ⟨k,by rw [e]; exact up_s,.inr ?_⟩
       rw [e] at h2 ⊢
       rcases h2 with rfl | h2
       ·exact hg
       ·exact Int.lt_trans h2 hg
      ·exact ⟨z,(up_n e).trans h1,h2⟩
     have hi:i < up r k (r k+1) j:=hi
     by_cases e:j=k
     ·subst e
      rw [up_s] at hi
      rcases Nat.lt_or_ge i (r j) with h' | h'
      ·exact old h'
      ·have:i=r j:=by (first | lia | omega)
       subst this
       exact ⟨j,by rw [hcd]; exact up_s,.inl rfl⟩
     ·rw [up_n e] at hi; exact old hi
    ·have old (hi:i < r j):M (pf j i)≠j:=by
      by_cases e:H (pf j i)=some j
      ·have e':pf j i=c:=Classical.byContradiction fun q=>hne ((up_n q).trans e)
       have:some o=some j:=by rw [← ho,← e']; exact e
       cases this
       rw [e']; exact later M m st
      ·exact I.opt M m st j hj i hi e
     have hi:i < up r k (r k+1) j:=hi
     by_cases e:j=k
     ·subst e
      rw [up_s] at hi
      rcases Nat.lt_or_ge i (r j) with h' | h'
      ·exact old h'
      ·have:i=r j:=by (first | lia | omega)
       subst this
       exact absurd (by rw [hcd]; exact up_s) hne
     ·rw [up_n e] at hi; exact old hi
   ·rw [if_neg hg]
    have hg':L c o > L c k:=by
     rcases Int.lt_trichotomy (L c o) (L c k) with h | h | h
     ·exact absurd h hg
     ·exact absurd (P.inj c hc.1 o hO.2.1 k hk h) hok
     ·exact h
    have later (M:Nat→Nat) (m:Mt M) (st:Stb rk L M):M c≠k:=fun e=>by
     have h1:r o - 1≤hv rk M o:=hv_ge P hO.2.1 (by have:r o≤3:=I.r3 o; (first | lia | omega)) fun i hi=>I.opt M m st o hO.2.1 i (show i < r o by (first | lia | omega)) fun h=>by
      have h3:pf o i=pf o (r o - 1):=(only h).trans hO.2.2.2.symm
      have h4:r o≤3:=I.r3 o
      have h5:=(P.p1 o hO.2.1 i (by (first | lia | omega))).2
      rw [h3,(P.p1 o hO.2.1 (r o - 1) (by (first | lia | omega))).2] at h5
      (first | lia | omega)
     have h4:r o≤3:=I.r3 o
     have h5:0 < r o:=hO.2.2.1
     have h6:rk o c=r o - 1:=by rw [← hO.2.2.2]; exact (P.p1 o hO.2.1 _ (show r o - 1 < 3 by (first | lia | omega))).2
     have h2:hv rk M o≠rk o c:=hv_ne P hO.2.1 hc.1 (by rw [e]; exact fun q=>hok q.symm)
     exact st o hO.2.1 c hc.1 ⟨by (first | lia | omega),by rw [e]; exact hg'⟩
    refine ⟨fun c' j h=>?_,r3',fun j hj=>?_,?_,fun j hj=>?_,fun j hj i hi=>?_,fun M m st j hj i hi hne=>?_⟩
    ·show _∧_∧0 < up r k (r k+1) j∧pf j (up r k (r k+1) j - 1)=c'
     rw [up_n (keep h)]; exact I.held c' j h
    ·rcases List.mem_append.mp hj with h | h
     ·exact hW j h
     ·rw [List.mem_singleton.mp h]; exact ⟨hk,hno⟩
    ·exact List.nodup_append.mpr ⟨hnd,List.pairwise_singleton ..,fun a ha b hb e=>hnW (List.mem_singleton.mp hb▸e▸ha)⟩
    ·by_cases e:j=k
     ·exact .inl (List.mem_append_right _ (e▸.head _))
     ·rcases hall j hj e with h | h | h
      ·exact .inl (List.mem_append_left _ h)
      ·exact .inr (.inl h)
      ·exact .inr (.inr ((up_n e).trans h))
    ·have hi:i < up r k (r k+1) j:=hi
     by_cases e:j=k
     ·subst e
      rw [up_s] at hi
      rcases Nat.lt_or_ge i (r j) with h' | h'
      ·exact I.ask j hj i h'
      ·have:i=r j:=by (first | lia | omega)
       subst this
       exact ⟨o,by rw [hcd]; exact ho,.inr (by rw [hcd]; exact hg')⟩
     ·rw [up_n e] at hi; exact I.ask j hj i hi
    ·have hi:i < up r k (r k+1) j:=hi
     by_cases e:j=k
     ·subst e
      rw [up_s] at hi
      rcases Nat.lt_or_ge i (r j) with h' | h'
      ·exact I.opt M m st j hj i h' hne
      ·have:i=r j:=by (first | lia | omega)
       subst this
       rw [hcd]; exact later M m st
     ·rw [up_n e] at hi; exact I.opt M m st j hj i hi hne
 ·rw [if_neg hr]
  have h3:r k=3:=by have:=I.r3 k; show r k=3; have:r k≤3:=this; (first | lia | omega)
  exact ⟨I.held,I.r3,hW,hnd,fun j hj=>(by
   by_cases e:j=k
   ·exact .inr (.inr (e▸h3))
   ·exact hall j hj e),I.ask,I.opt⟩
noncomputable def sm (r:Nat→Nat):Nat:=(3 - r 0)+(3 - r 1)+(3 - r 2)+(3 - r 3)
theorem sm_up {r:Nat→Nat} (hk:k < 4) (hr:r k < 3):sm (up r k (r k+1))+1=sm r:=by
 have h:3 - (r k+1)+1=3 - r k:=by (first | lia | omega)
 have:k=0∨k=1∨k=2∨k=3:=by (first | lia | omega)
 unfold sm up
 rcases this with rfl | rfl | rfl | rfl
 ·rw [if_pos rfl,if_neg (by decide),if_neg (by decide),if_neg (by decide),Nat.add_right_comm _ _ 1,Nat.add_right_comm _ (3 - r 2) 1,Nat.add_right_comm _ (3 - r 1) 1,h]
 ·rw [if_pos rfl,if_neg (by decide),if_neg (by decide),if_neg (by decide),Nat.add_right_comm _ _ 1,Nat.add_right_comm _ (3 - r 2) 1,Nat.add_assoc _ _ 1,h]
 ·rw [if_pos rfl,if_neg (by decide),if_neg (by decide),if_neg (by decide),Nat.add_right_comm _ _ 1,Nat.add_assoc _ _ 1,h]
 ·rw [if_pos rfl,if_neg (by decide),if_neg (by decide),if_neg (by decide),Nat.add_assoc _ _ 1,h]
theorem ask_is {H:Nat→Option Nat} {r:Nat→Nat} {W:List Nat}:(¬ r k < 3∧ask pf L k ⟨H,r,W⟩=⟨H,r,W⟩)∨(r k < 3∧∃ H' W',ask pf L k ⟨H,r,W⟩=⟨H',up r k (r k+1),W'⟩∧W'.length≤W.length+1):=by
 have e:ask pf L k ⟨H,r,W⟩=if r k < 3 then (match H (pf k (r k)) with
  | none=>⟨up H (pf k (r k)) (some k),up r k (r k+1),W⟩
  | some o=>if L (pf k (r k)) k > L (pf k (r k)) o then ⟨up H (pf k (r k)) (some k),up r k (r k+1),W++[o]⟩ else ⟨H,up r k (r k+1),W++[k]⟩) else ⟨H,r,W⟩:=rfl
 have l1 (o:Nat):(W++[o]).length≤W.length+1:=by rw [List.length_append]; exact Nat.le_refl _
 by_cases hr:r k < 3
 ·rw [if_pos hr] at e
  refine .inr ⟨hr,?_⟩
  rw [e]
  cases H (pf k (r k)) with
  | none=>exact ⟨_,_,rfl,Nat.le_succ _⟩
  | some o =>
   show ∃ H' W',(if L (pf k (r k)) k > L (pf k (r k)) o then (⟨up H (pf k (r k)) (some k),up r k (r k+1),W++[o]⟩:St) else ⟨H,up r k (r k+1),W++[k]⟩)=⟨H',up r k (r k+1),W'⟩∧_
   split
   ·exact ⟨_,_,rfl,l1 _⟩
   ·exact ⟨_,_,rfl,l1 _⟩
 ·rw [if_neg hr] at e; exact .inl ⟨hr,e⟩
theorem ask_mu {H:Nat→Option Nat} {r:Nat→Nat} {W:List Nat} (hk:k < 4):2*sm (ask pf L k ⟨H,r,W⟩).r+(ask pf L k ⟨H,r,W⟩).W.length≤2*sm r+W.length:=by
 rcases ask_is (pf:=pf) (L:=L) (k:=k) (H:=H) (r:=r) (W:=W) with h | ⟨hr,H',W',h,hl⟩
 ·rw [h.2]; exact Nat.le_refl _
 ·rw [h]
  have:=sm_up hk hr
  show 2*sm (up r k (r k+1))+W'.length≤_
  (first | lia | omega)
theorem run_ok (P:Pf pf rk L):∀ {f:Nat} {s:St},Inv pf rk L s→2*sm s.r+s.W.length < f→∃ H r,run pf L f s=some ⟨H,r,[]⟩∧Inv pf rk L ⟨H,r,[]⟩
 | 0,_,_,h=>absurd h (Nat.not_lt_zero _)
 | f+1,⟨H,r,[]⟩,I,_=>⟨H,r,rfl,I⟩
 | f+1,⟨H,r,k :: W⟩,I,h=>by
  have h:2*sm r+(W.length+1) < f+1:=h
  have hm:=ask_mu (pf:=pf) (L:=L) (H:=H) (r:=r) (W:=W) (I.wt k (.head _)).1
  exact run_ok (f:=f) (s:=ask pf L k ⟨H,r,W⟩) P (inv_ask P I) (by (first | lia | omega))
theorem inv_0 {W:List Nat} (hW:∀ k∈W,k < 4) (hn:W.Nodup) (ha:∀ k < 4,k∈W):Inv pf rk L ⟨fun ζ=>none,fun ζ=>0,W⟩ :=
 ⟨fun ζ ζ h=>(nomatch h),fun ζ=>Nat.zero_le _,fun k hk=>⟨hW k hk,fun ζ h=>(nomatch h)⟩,hn,fun k hk=>.inl (ha k hk),fun ζ ζ ζ h=>absurd h (Nat.not_lt_zero _),fun ζ ζ ζ ζ ζ ζ h=>absurd h (Nat.not_lt_zero _)⟩
theorem gs (P:Pf pf rk L) {W:List Nat} (hW:∀ k∈W,k < 4) (hn:W.Nodup) (ha:∀ k < 4,k∈W) (hl:W.length≤4):∃ H r M,run pf L 40 ⟨fun ζ=>none,fun ζ=>0,W⟩=some ⟨H,r,[]⟩∧Mt M∧(∀ c < 3,H c=some (M c))∧Stb rk L M∧(∀ k < 4,r k=min 3 (hv rk M k+1))∧∀ M',Mt M'→Stb rk L M'→∀ k < 4,hv rk M k≤hv rk M' k:=by
 obtain ⟨H,r,hr,I⟩:=run_ok P (f:=40) (inv_0 hW hn ha) (by show 2*12+W.length < 40; omega)
 have cl:∀ k < 4,(∃ c,H c=some k)∨r k=3:=fun k hk=>(I.all k hk).resolve_left List.not_mem_nil
 have full:∀ c < 3,∃ k,H c=some k:=by
  have out:∃ k < 4,r k=3∧∀ c,H c≠some k:=by
   refine Classical.byContradiction fun hno=>?_
   have hh:∀ k < 4,∃ c,c < 3∧H c=some k:=fun k hk=>by
    refine Classical.byContradiction fun h=>?_
    have h':∀ c,H c≠some k:=fun c e=>h ⟨c,(I.held c k e).1,e⟩
    exact hno ⟨k,hk,(cl k hk).resolve_left fun ⟨c,e⟩=>h' c e,h'⟩
   obtain ⟨a,ha,ea⟩:=hh 0 (by decide)
   obtain ⟨b,hb,eb⟩:=hh 1 (by decide)
   obtain ⟨c,hc,ec⟩:=hh 2 (by decide)
   obtain ⟨d,hd,ed⟩:=hh 3 (by decide)
   have ne {i j x y:Nat} (hi:H i=some x) (hj:H j=some y) (h:x≠y):i≠j:=fun e=>h (Option.some.inj (hi.symm.trans (e▸hj)))
   have h1:=ne ea eb (by decide)
   have h2:=ne ea ec (by decide)
   have h3:=ne ea ed (by decide)
   have h4:=ne eb ec (by decide)
   have h5:=ne eb ed (by decide)
   have h6:=ne ec ed (by decide)
   omega
  obtain ⟨k,hk,h3,_⟩:=out
  intro c hc
  obtain ⟨j,hj,_⟩:=I.ask k hk (rk k c) (by show rk k c < r k; rw [h3]; exact (P.p2 k hk c hc).1)
  rw [(P.p2 k hk c hc).2] at hj
  exact ⟨j,hj⟩
 obtain ⟨a,ea⟩:=full 0 (by decide)
 obtain ⟨b,eb⟩:=full 1 (by decide)
 obtain ⟨d,ed⟩:=full 2 (by decide)
 have hM:∀ c < 3,H c=some ((fun c=>if c=0 then a else if c=1 then b else d) c):=fun c hc=>by
  have:c=0∨c=1∨c=2:=by omega
  rcases this with rfl | rfl | rfl
  ·exact ea
  ·exact eb
  ·exact ed
 generalize (fun c:Nat=>if c=0 then a else if c=1 then b else d)=M at hM
 have ne {i j:Nat} (hi:i < 3) (hj:j < 3) (h:i≠j):M i≠M j:=fun e=>h ((I.held i _ (hM i hi)).2.2.2.symm.trans (e▸(I.held j _ (hM j hj)).2.2.2))
 have m:Mt M:=⟨fun c hc=>(I.held c _ (hM c hc)).2.1,ne (by decide) (by decide) (by decide),ne (by decide) (by decide) (by decide),ne (by decide) (by decide) (by decide)⟩
 have read:∀ k < 4,r k=min 3 (hv rk M k+1)∧∀ i < hv rk M k,i < 3→i < r k∧H (pf k i)≠some k:=fun k hk=>by
  by_cases h:∃ c < 3,M c=k
  ·obtain ⟨c,hc,e⟩:=h
   have hh:=I.held c k (e▸hM c hc)
   have h3:r k≤3:=I.r3 k
   have h0:0 < r k:=hh.2.2.1
   have h4:rk k c=r k - 1:=by rw [← hh.2.2.2]; exact (P.p1 k hk (r k - 1) (by omega)).2
   have hv':=hv_at (rk:=rk) m hc e
   refine ⟨by rw [hv',h4]; omega,fun i hi h3'=>⟨by rw [hv',h4] at hi; omega,fun q=>?_⟩⟩
   have:=(I.held _ k q).2.2.2
   have h5:=(P.p1 k hk i h3').2
   rw [← this] at h5
   rw [(P.p1 k hk (r k - 1) (by omega)).2] at h5
   rw [hv',h4] at hi
   omega
  ·have ho:∀ c < 3,M c≠k:=fun c hc e=>h ⟨c,hc,e⟩
   have hno:∀ c,H c≠some k:=fun c e=>ho c (I.held c k e).1 (Option.some.inj ((hM c (I.held c k e).1).symm.trans e))
   have h3:=(cl k hk).resolve_left fun ⟨c,e⟩=>hno c e
   rw [hv_out ho]
   exact ⟨h3,fun i hi ζ=>⟨by rw [h3]; exact hi,hno _⟩⟩
 refine ⟨H,r,M,hr,m,hM,fun k hk d hd=>?_,fun k hk=>(read k hk).1,fun M' m' st k hk=>?_⟩
 ·rintro ⟨h1,h2⟩
  have hr:=(read k hk).2 (rk k d) h1 (P.p2 k hk d hd).1
  rw [(P.p2 k hk d hd).2] at hr
  obtain ⟨j,hj,hb⟩:=I.ask k hk (rk k d) hr.1
  rw [(P.p2 k hk d hd).2] at hj hb
  have:M d=j:=Option.some.inj ((hM d hd).symm.trans hj)
  subst this
  rcases hb with e | hb
  ·exact hr.2 (e▸hj)
  ·exact Int.lt_asymm h2 hb
 ·have hle:hv rk M k≤3:=by
   by_cases h:∃ c < 3,M c=k
   ·obtain ⟨c,hc,e⟩:=h
    rw [hv_at m hc e]; exact Nat.le_of_lt (P.p2 k hk c hc).1
   ·rw [hv_out fun c hc e=>h ⟨c,hc,e⟩]; exact Nat.le_refl _
  exact hv_ge P hk hle fun i hi=>I.opt M' m' st k hk i ((read k hk).2 i hi (by omega)).1 ((read k hk).2 i hi (by omega)).2
end
end Mine.GS
namespace Mine
open PySem PySem.W
section
variable {n k t q c x y m:Nat} {σ:Sto} {ms:List Nat} {w:List Nat}
theorem sub_tup {xs:List V} {v:V} (h:xs[k]?=some v):subV (.tup xs) (.int (k:Nat)) σ=some v:=by
 show orO none (orO (pick xs (k:Int)) _)=_
 rw [pick_at h]; rfl
theorem sub_str {l:List Nat} {k x:Nat} (h:l[k]?=some x):subV (.str l) (.int (k:Nat)) σ=some (.str [x]):=by
 have hk:k < l.length:=by
  rcases Nat.lt_or_ge k l.length with h' | h'
  ·exact h'
  ·rw [List.getElem?_eq_none h'] at h; cases h
 show orO ((idx l.length (k:Int)).bind fun j=>(l[j]?).map fun c=>V.str [c]) _=_
 rw [idx_nat hk]
 show orO ((l[k]?).map _) _=_
 rw [h]; rfl
theorem m_at {Λ:Lexer} {sg:List Nat} {x a:Nat} (h:subAt [x] sg 0=some a):methR Λ .index (.str sg) 0 [.str [x]] σ=some (.int (a:Nat),σ):=by
 show orO ((subAt [x] sg 0).map fun k=>(V.int (k:Nat),σ)) _=_
 rw [h]; rfl
noncomputable abbrev wsL:S:=b__law_wishes.get 1
noncomputable abbrev perms:List (List Nat):=[[117,103,111],[117,111,103],[103,117,111],[103,111,117],[111,117,103],[111,103,117]]
noncomputable def nmC (q i:Nat):Nat:=(perms.getD q []).getD i 0
noncomputable def spell (m c:Nat):List Nat:=if m=0 then [c,32] else if m=1 then [92,c,10] else if m=2 then [34,c,34] else [c,9]
noncomputable def qR (r:Int):Nat:=(r.fmod 6).toNat
noncomputable def mR (r:Int) (i:Nat):Nat:=(((r.fdiv 6).fdiv (4 ^ i)).fmod 4).toNat
theorem qR_is (r:Int):r.fmod 6=(qR r:Int)∧qR r < 6:=by
 have h1:=Int.fmod_nonneg_of_pos r (b:=6) (by decide)
 have h2:=Int.fmod_lt_of_pos r (b:=6) (by decide)
 unfold qR
 (first | lia | omega)
theorem mR_is (r:Int) (i:Nat):((r.fdiv 6).fdiv (4 ^ i)).fmod 4=(mR r i:Int)∧mR r i < 4:=by
 have h1:=Int.fmod_nonneg_of_pos ((r.fdiv 6).fdiv (4 ^ i)) (b:=4) (by decide)
 have h2:=Int.fmod_lt_of_pos ((r.fdiv 6).fdiv (4 ^ i)) (b:=4) (by decide)
 unfold mR
 omega
theorem perm_at:∀ q < 6,∀ i < 3,perms[q]?=some (perms.getD q [])∧(perms.getD q [])[i]?=some (nmC q i):=by decide
noncomputable abbrev wLoc (r:Int) (p:V) (i nm mn:Option V):Loc:=[some (.int r),some p,i,nm,mn]
noncomputable abbrev wiS (n:Nat):=loopStep (phi TT n) (lamN TT n) TT.G [2,3,4] wsL.t wsL.a
noncomputable abbrev pcs (r:Int) (l:List Nat):List V:=l.map fun i=>.str (spell (mR r i) (nmC (qR r) i))
theorem ws_turn {r:Int} {i:Nat} {l:List V} (hk:σ.length=k) (hi:i < 3) (hl:l.length < 1000) :
  wiS n (.int (i:Nat)) (.next,wLoc r (.ref k) none none none) (σ++[.list l])=some (true,(.next,wLoc r (.ref k) none none none),σ++[.list (l++[.str (spell (mR r i) (nmC (qR r) i))])]):=by
 have hq:=qR_is r
 have hm:=mR_is r i
 have hp:=perm_at (qR r) hq.2 i hi
 have h1:evM (phi TT n) (lamN TT n) TT.G (partE (wsL.a.get 0)) false (wLoc r (.ref k) (some (.int (i:Nat))) none none) (σ++[.list l])=some (.str [nmC (qR r) i],σ++[.list l]) :=
  r_sub (r_sub (x:=.tup (perms.map .str)) (v:=.str (perms.getD (qR r) [])) rfl (r_bin (r_var rfl) r_int (o_mod (by decide) hq.1)) (sub_tup (by rw [List.getElem?_map,hp.1]; rfl))) (r_var rfl) (sub_str hp.2)
 have h2:evM (phi TT n) (lamN TT n) TT.G (partE (wsL.a.get 1)) false (wLoc r (.ref k) (some (.int (i:Nat))) (some (.str [nmC (qR r) i])) none) (σ++[.list l])=some (.int (mR r i:Nat),σ++[.list l]):=by
  have hpw:4 ^ i≤16:=Nat.pow_le_pow_right (n:=4) (by decide) (show i≤2 by (first | lia | omega))
  have hp0:0 < 4 ^ i:=Nat.pow_pos (by decide)
  refine r_bin (r_bin (r_bin (r_var rfl) r_int (o_div rfl rfl)) (r_bin r_int (r_var rfl) ((o_pow (b:=i) rfl (by (first | lia | omega)) rfl).trans (iv (cpow 4 _).symm))) (o_div ?_ rfl)) r_int (o_mod (by decide) (by rw [cpow]; exact hm.1))
  rw [Bool.or_eq_false_iff]
  exact ⟨decide_eq_false (by (first | lia | omega)),by rw [smallN (by (first | lia | omega))]; rfl⟩
 have h3:evM (phi TT n) (lamN TT n) TT.G (match partE (wsL.a.get 2) with | .meth _ _ (.cons e _) _ _=>e | _=>.raw default) false (wLoc r (.ref k) (some (.int (i:Nat))) (some (.str [nmC (qR r) i])) (some (.int (mR r i:Nat)))) (σ++[.list l])=some (.str (spell (mR r i) (nmC (qR r) i)),σ++[.list l]):=by
  refine r_sub (x:=.tup [.str [nmC (qR r) i,32],.str [92,nmC (qR r) i,10],.str [34,nmC (qR r) i,34],.str [nmC (qR r) i,9]]) (r_tup (r_cons (r_bin (r_var rfl) r_str (o_str (s:=[_]) (t:=[32]) (show 2≤maxLen by decide))) (r_cons (r_bin (r_bin r_str (r_var rfl) (o_str (s:=[92]) (t:=[_]) (show 2≤maxLen by decide))) r_str (o_str (t:=[10]) (show 3≤maxLen by decide))) (r_two (r_bin (r_bin r_str (r_var rfl) (o_str (s:=[34]) (t:=[_]) (show 2≤maxLen by decide))) r_str (o_str (t:=[34]) (show 3≤maxLen by decide))) (r_bin (r_var rfl) r_str (o_str (s:=[_]) (t:=[9]) (show 2≤maxLen by decide))))))) (r_var rfl) (sub_tup ?_)
  have h4:mR r i=0∨mR r i=1∨mR r i=2∨mR r i=3:=by (first | lia | omega)
  unfold spell
  rcases h4 with h | h | h | h <;> rw [h] <;> rfl
 exact u_next (t:=wsL.t) (loc':=wLoc r (.ref k) (some (.int (i:Nat))) (some (.str [nmC (qR r) i])) (some (.int (mR r i:Nat)))) rfl (l_cons (s_assign h1 rfl) (l_cons (s_assign h2 rfl) (l_one (s_push rfl hk h3 (Nat.lt_trans hl (by decide)))))) rfl
theorem x_wishes (h:Low σ) (r:Int):phi TT (n+1) i__law_wishes [.int r] σ=some (.lst (pcs r (List.range 3)),σ):=by
 have h2:evS (phi TT n) (lamN TT n) TT.G wsL (wLoc r (.ref σ.length) none none none) (σ++[.list []])=some (.next,wLoc r (.ref σ.length) none none none,σ++[.list (pcs r (List.range 3))]) :=
  s_loop (r_ty rfl (r_one r_int) (c_range (b:=3) (by decide))) (i_range (b:=3) (by decide)) (over_cons (ws_turn (i:=0) rfl (by decide) (by decide)) (over_cons (ws_turn (i:=1) rfl (by decide) (show 1 < 1000 by decide)) (over_cons (ws_turn (i:=2) rfl (by decide) (show 2 < 1000 by decide)) rfl))) rfl
 exact f_run (f:=f__law_wishes) rfl rfl rfl rfl (l_cons (s_assign (r_cell r_nil (by decide)) rfl) (l_cons h2 (l_one (s_ret (r_var rfl))))) rfl (leave_list (k:=0) rfl h rfl (lowL_map fun ζ=>rfl))
noncomputable def bits3 (m c:Nat):Nat:=(bitB m (8 - 3*c)).toNat*4+(bitB m (7 - 3*c)).toNat*2+(bitB m (6 - 3*c)).toNat+(bitB m (11 - c)).toNat*8
theorem lk_x:∀ s x:Bool,∀ d∈[(115,83),(116,84)],subAt [sgX s x d.1 d.2] [45,120,d.2,d.1] 0=some (s.toNat*2+x.toNat):=by decide
theorem lk_r:∀ b:Bool,∀ d∈[114,119],subAt [sgR b d] [45,d] 0=some b.toNat:=by decide
theorem hi_bit:∀ s x:Bool,(s.toNat*2+x.toNat) / 2=s.toNat:=by decide
theorem lo_bit:∀ s x:Bool,(s.toNat*2+x.toNat) % 2=x.toNat:=by decide
noncomputable abbrev brLoc (w:V) (c:Nat) (g l:Option V):Loc:=[some w,some (.int (c:Nat)),g,l]
theorem x_row3 {w:List Nat} {c:Nat} {r g s x:Bool} {d:Nat × Nat} (hd:d∈[(115,83),(116,84)])
  (h1:∀ σ,evM (phi TT n) (lamN TT n) TT.G (partE (b__law_by_row.get 0)) false (brLoc (.str w) c none none) σ=some (.str [sgR r 114,sgR g 119,sgX s x d.1 d.2],σ))
  (h2:∀ σ,evM (phi TT n) (lamN TT n) TT.G (match partE (b__law_by_row.get 1) with | .meth o _ _ _ _=>o | _=>.raw default) false (brLoc (.str w) c (some (.str [sgR r 114,sgR g 119,sgX s x d.1 d.2])) none) σ=some (.str [45,120,d.2,d.1],σ)) :
  phi TT (n+1) i__law_by_row [.str w,.int (c:Nat)] σ=some (.int (r.toNat*4+g.toNat*2+x.toNat+s.toNat*8:Nat),σ):=by
 refine f_run (f:=f__law_by_row) rfl rfl rfl rfl (l_cons (s_assign (h1 _) rfl) (l_cons (loc':=brLoc (.str w) c (some (.str [sgR r 114,sgR g 119,sgX s x d.1 d.2])) (some (.int (s.toNat*2+x.toNat:Nat)))) (s_assign (r_meth (h2 _) rfl (r_one (r_at (w:=.str [sgX s x d.1 d.2]) rfl rfl)) (m_at (lk_x s x d hd))) rfl)
  (l_one (s_ret (r_bin (r_bin (r_bin (r_bin (r_meth r_str rfl (r_one (r_at (w:=.str [sgR r 114]) rfl rfl)) (m_at (lk_r r 114 (.head _)))) r_int (o_mulN (b:=4) (by decide) rfl)) (r_bin (r_meth r_str rfl (r_one (r_at (w:=.str [sgR g 119]) rfl rfl)) (m_at (lk_r g 119 (.tail _ (.head _))))) r_int (o_mulN (b:=2) (by decide) rfl)) (o_addN rfl rfl)) (r_bin (r_var rfl) r_int (o_modN (b:=2) (by decide) (lo_bit s x))) (o_addN rfl rfl)) (r_bin (r_bin (r_var rfl) r_int (o_divN (b:=2) rfl (hi_bit s x))) r_int (o_mulN (b:=8) (by decide) rfl)) (o_addN rfl rfl)))))) rfl (leave_same rfl rfl)
theorem x_by_row (hc:c < 3):phi TT (n+1) i__law_by_row [.str (fmode (m:Int)),.int (c:Nat)] σ=some (.int (bits3 m c:Nat),σ):=by
 have h:c=0∨c=1∨c=2:=by (first | lia | omega)
 rw [fmode_bits]
 unfold bits3
 rcases h with rfl | rfl | rfl
 ·exact x_row3 (d:=(115,83)) (.head _) (fun ζ=>rfl) fun ζ=>rfl
 ·exact x_row3 (d:=(115,83)) (.head _) (fun ζ=>rfl) fun ζ=>rfl
 ·exact x_row3 (d:=(116,84)) (.tail _ (.head _)) (fun ζ=>rfl) fun ζ=>rfl
theorem mod_bit {m:Nat} {k:Nat}:m / 2 ^ k % 2=(bitB m k).toNat:=by
 show m / 2 ^ k % 2=(m / 2 ^ k % 2==1).toNat
 rcases Nat.mod_two_eq_zero_or_one (m / 2 ^ k) with h | h <;> rw [h] <;> rfl
noncomputable def by3 (u v c:Nat):Nat:=[u % 8,v / 8,v % 8].getD c 0+u / [32,16,8].getD c 1 % 2*8
theorem oct8 (x:Nat):x % 8=x / 4 % 2*4+x / 2 % 2*2+x % 2:=by (first | lia | omega)
theorem by3_is (hc:c < 3):by3 (m / 64) (m % 64) c=bits3 m c:=by
 have h:c=0∨c=1∨c=2:=by (first | lia | omega)
 unfold by3 bits3
 rw [← mod_bit,← mod_bit,← mod_bit,← mod_bit]
 rcases h with rfl | rfl | rfl
 ·show m / 64 % 8+m / 64 / 32 % 2*8=m / 256 % 2*4+m / 128 % 2*2+m / 64 % 2+m / 2048 % 2*8
  rw [oct8,Nat.div_div_eq_div_mul,Nat.div_div_eq_div_mul,Nat.div_div_eq_div_mul]
 ·show m % (8*8) / 8+m / 64 / 16 % 2*8=m / 32 % 2*4+m / 16 % 2*2+m / 8 % 2+m / 1024 % 2*8
  rw [Nat.mod_mul_right_div_self,oct8,Nat.div_div_eq_div_mul,Nat.div_div_eq_div_mul,Nat.div_div_eq_div_mul]
 ·show m % 64 % 8+m / 64 / 8 % 2*8=m / 4 % 2*4+m / 2 % 2*2+m / 1 % 2+m / 512 % 2*8
  rw [Nat.mod_mod_of_dvd m (show 8 ∣ 64 by decide),oct8,Nat.div_div_eq_div_mul,Nat.div_one]
theorem x_by_signs {F:List Nat} {u v:Nat} (hu:F[2*k]?=some u) (hv:F[2*k+1]?=some v) (h64:u < 64∧v < 64) (hc:c < 3) (hk:k < 4):phi TT (n+1) i__law_by_signs [.str (F.map sgn),.int (k:Nat),.int (c:Nat)] σ=some (.int (by3 u v c:Nat),σ):=by
 have e1:evM (phi TT n) (lamN TT n) TT.G (partE (b__law_by_signs.get 1)) false [some (.str (F.map sgn)),some (.int (k:Nat)),some (.int (c:Nat)),some (.str B64),none,none] σ=some (.tup [.int (u:Nat),.int (v:Nat)],σ) :=
  r_tup (r_two (r_meth (r_var rfl) rfl (r_one (r_sub (r_var rfl) (r_bin r_int (r_var rfl) (o_mulN (a:=2) (Nat.lt_trans hk (by decide)) rfl)) (sub_str (x:=sgn u) (by rw [List.getElem?_map,hu]; rfl)))) (m_index h64.1)) (r_meth (r_var rfl) rfl (r_one (r_sub (r_var rfl) (r_bin (r_bin r_int (r_var rfl) (o_mulN (a:=2) (Nat.lt_trans hk (by decide)) rfl)) r_int (o_addN (b:=1) rfl rfl)) (sub_str (x:=sgn v) (by rw [List.getElem?_map,hv]; rfl)))) (m_index h64.2)))
 have h:c=0∨c=1∨c=2:=by (first | lia | omega)
 unfold by3
 have e2 {d g:Nat} (hd:[32,16,8].getD c 1=d) (hg:[u % 8,v / 8,v % 8].getD c 0=g) (hd0:((d:Int)=0||!small (d:Int))=false) (s1:subV (.tup [.int (u % 8:Nat),.int (v / 8:Nat),.int (v % 8:Nat)]) (.int (c:Nat)) σ=some (.int (g:Nat))) (s2:subV (.tup [.int 32,.int 16,.int 8]) (.int (c:Nat)) σ=some (.int (d:Nat))):evM (phi TT n) (lamN TT n) TT.G (partE (b__law_by_signs.get 2)) false [some (.str (F.map sgn)),some (.int (k:Nat)),some (.int (c:Nat)),some (.str B64),some (.int (u:Nat)),some (.int (v:Nat))] σ=some (.int (([u % 8,v / 8,v % 8].getD c 0+u / [32,16,8].getD c 1 % 2*8:Nat):Int),σ):=by
  rw [hd,hg]
  exact r_bin (r_sub (r_tup (r_cons (r_bin (r_var rfl) r_int (o_modN (b:=8) (by decide) rfl)) (r_two (r_bin (r_var rfl) r_int (o_divN (b:=8) rfl rfl)) (r_bin (r_var rfl) r_int (o_modN (b:=8) (by decide) rfl))))) (r_var rfl) s1) (r_bin (r_bin (r_bin (r_var rfl) (r_sub rfl (r_var rfl) s2) (o_divN hd0 rfl)) r_int (o_modN (b:=2) (by decide) rfl)) r_int (o_mulN (b:=8) (by decide) rfl)) (o_addN rfl rfl)
 refine f_run (f:=f__law_by_signs) rfl rfl rfl rfl (l_cons (s_assign r_str rfl) (l_cons (s_assign e1 rfl) (l_one (s_ret ?_)))) rfl (leave_same rfl rfl)
 rcases h with rfl | rfl | rfl
 ·exact e2 rfl rfl rfl (sub_tup rfl) (sub_tup rfl)
 ·exact e2 rfl rfl rfl (sub_tup rfl) (sub_tup rfl)
 ·exact e2 rfl rfl rfl (sub_tup rfl) (sub_tup rfl)
end
end Mine
namespace Mine
open PySem PySem.W
section
variable {n k t q c x y m:Nat} {σ:Sto} {ms w:List Nat}
noncomputable def shutI (w:List Nat):List Nat:=rep 34 [92,34] (rep 92 [92,92] w)
theorem x_shut (hl:w.length≤1000):phi TT (n+1) i__law_shut [.str w] σ=some (.str (34 :: shutI w++[34]),σ) :=
 f_run (f:=f__law_shut) rfl rfl rfl rfl (l_one (s_ret (ev_shut.trans (bnd rfl (bnd rfl (bnd rfl (if_pos hl))))))) rfl (leave_same rfl rfl)
theorem rep_cons {c d:Nat} {z l:List Nat}:rep c z (d :: l)=(if d=c then z else [d])++rep c z l:=rfl
theorem shut_in:∀ {w:List Nat},InW isQ (shutI w) w
 | []=>.nil
 | d :: w=>by
  have ih:=shut_in (w:=w)
  unfold shutI at ih ⊢
  rw [rep_cons]
  by_cases h:d=92
  ·subst h
   rw [if_pos rfl]
   exact .back ih
  ·rw [if_neg h]
   show InW isQ (rep 34 [92,34] (d :: rep 92 [92,92] w)) _
   rw [rep_cons]
   by_cases h2:d=34
   ·subst h2
    rw [if_pos rfl]
    exact .back ih
   ·rw [if_neg h2]
    exact .plain (beq_false_of_ne h2) h ih
theorem shut_len:∀ {w:List Nat},(shutI w).length≤2*w.length
 | []=>Nat.le_refl _
 | d :: w=>by
  have ih:=shut_len (w:=w)
  unfold shutI at ih ⊢
  rw [rep_cons,List.length_cons]
  by_cases h:d=92
  ·subst h
   rw [if_pos rfl]
   show (rep 34 [92,34] (rep 92 [92,92] w)).length+2≤_
   (first | lia | omega)
  ·rw [if_neg h]
   show (rep 34 [92,34] (d :: rep 92 [92,92] w)).length≤_
   rw [rep_cons,List.length_append]
   split
   ·show 2+_≤_; (first | lia | omega)
   ·show 1+_≤_; (first | lia | omega)
theorem shut_word:Word (34 :: shutI w++[34]) w:=.quote shut_in
noncomputable abbrev okL:S:=b__law_writing.get 1
noncomputable def tot (ms:List Nat) (t:Nat):Nat:=ms.foldl (fun t m=>t*4096+m % 4096) t
theorem oc_over {Ms:List Nat}:∀ {ms:List Nat} {t:Nat},over (loopStep (phi TT (n+1)) (lamN TT (n+1)) TT.G [2] okL.t okL.a) (nts ms) (.next,[some (.lst (nts Ms)),some (.int (t:Nat)),none,none,none,none]) σ=some (true,(.next,[some (.lst (nts Ms)),some (.int (tot ms t:Nat)),none,none,none,none]),σ)
 | [],_=>rfl
 | _ :: _,_=>over_cons (u_next (t:=okL.t) rfl (l_one (s_assign (r_bin (r_bin (r_var rfl) r_int (o_mulN (b:=4096) (by decide) rfl)) (r_fn rfl (r_one (r_var rfl)) (x_imode (n:=n))) (o_addN rfl rfl)) rfl)) rfl) oc_over
noncomputable def oct6 (T:Nat):List Nat:=(List.range 6).map fun i=>T / 256 ^ (5 - i) % 256
theorem oct6_lt {T:Nat}:∀ c∈oct6 T,c < 256:=fun ζ hc=>(List.mem_map.mp hc).elim fun ζ h=>h.2▸Nat.mod_lt _ (by decide)
theorem dig {y e:Nat} (h:e < 256):(y*256+e) / 256=y∧(y*256+e) % 256=e:=by (first | lia | omega)
theorem oct6_of {T a b c d e f:Nat} (h:T=((((a*256+b)*256+c)*256+d)*256+e)*256+f) (ha:a < 256) (hb:b < 256) (hc:c < 256) (hd:d < 256) (he:e < 256) (hf:f < 256):oct6 T=[a,b,c,d,e,f]:=by
 show [T / (256*256*256*256*256) % 256,T / (256*256*256*256) % 256,T / (256*256*256) % 256,T / (256*256) % 256,T / 256 % 256,T / 1 % 256]=_
 simp only [← Nat.div_div_eq_div_mul]
 rw [h,(dig hf).1,(dig he).1,(dig hd).1,(dig hc).1,(dig hb).1,Nat.div_one,(dig hf).2,(dig he).2,(dig hd).2,(dig hc).2,(dig hb).2,Nat.mod_eq_of_lt ha]
noncomputable abbrev fig2 (m:Nat):List Nat:=[m / 64,m % 64]
noncomputable abbrev fig8 (a b c d:Nat):List Nat:=fig2 a++fig2 b++fig2 c++fig2 d
theorem oct_is {m k:Nat}:[m / 64*4+m % 64 / 16,m % 64 % 16*16+k / 64 / 4,k / 64 % 4*64+k % 64]=[m / 16,m % 16*16+k / 256,k % 256]:=by
 rw [show m / 64*4+m % 64 / 16=m / 16 by (first | lia | omega),show m % 64 % 16*16+k / 64 / 4=m % 16*16+k / 256 by (first | lia | omega),show k / 64 % 4*64+k % 64=k % 256 by (first | lia | omega)]
theorem oct6_is {a b c d:Nat} (ha:a < 4096) (hb:b < 4096) (hc:c < 4096) (hd:d < 4096):oct6 (((a*4096+b)*4096+c)*4096+d)=octs (fig8 a b c d):=by
 rw [oct6_of (a:=a / 16) (b:=a % 16*16+b / 256) (c:=b % 256) (d:=c / 16) (e:=c % 16*16+d / 256) (f:=d % 256) (by (first | lia | omega)) (by (first | lia | omega)) (by (first | lia | omega)) (by (first | lia | omega)) (by (first | lia | omega)) (by (first | lia | omega)) (by (first | lia | omega))]
 show [a / 16,a % 16*16+b / 256,b % 256]++[c / 16,c % 16*16+d / 256,d % 256]=[a / 64*4+a % 64 / 16,a % 64 % 16*16+b / 64 / 4,b / 64 % 4*64+b % 64]++[c / 64*4+c % 64 / 16,c % 64 % 16*16+d / 64 / 4,d / 64 % 4*64+d % 64]
 rw [oct_is,oct_is]
theorem fig64 {a b c d:Nat} (ha:a < 4096) (hb:b < 4096) (hc:c < 4096) (hd:d < 4096):∀ f∈fig8 a b c d,f < 64:=by
 have h {m:Nat} (hm:m < 4096):∀ f∈fig2 m,f < 64:=fun f hf=>by
  rcases List.mem_cons.mp hf with rfl | hf
  ·exact Nat.div_lt_of_lt_mul hm
  ·rw [List.mem_singleton.mp hf]; exact Nat.mod_lt _ (by decide)
 intro f hf
 rcases List.mem_append.mp hf with hf | hf
 ·rcases List.mem_append.mp hf with hf | hf
  ·rcases List.mem_append.mp hf with hf | hf
   ·exact h ha f hf
   ·exact h hb f hf
  ·exact h hc f hf
 ·exact h hd f hf
noncomputable abbrev wr8 (a b c d:Nat):List Nat:=(fig8 (a % 4096) (b % 4096) (c % 4096) (d % 4096)).map sgn
theorem m12 {m:Nat}:m % 4096 < 4096:=Nat.mod_lt m (by decide)
theorem x_writing (h:Low σ) {a b c d:Nat}:phi TT (n+4) i__law_writing [.lst (nts [a,b,c,d])] σ=some (.str (wr8 a b c d),σ):=by
 have hT:tot [a,b,c,d] 0=((a % 4096*4096+b % 4096)*4096+c % 4096)*4096+d % 4096:=by
  show (((0*4096+a % 4096)*4096+b % 4096)*4096+c % 4096)*4096+d % 4096=_
  rw [Nat.zero_mul,Nat.zero_add]
 have h6:=oct6_is (a:=a % 4096) (b:=b % 4096) (c:=c % 4096) (d:=d % 4096) m12 m12 m12 m12
 have h64:=fig64 (a:=a % 4096) (b:=b % 4096) (c:=c % 4096) (d:=d % 4096) m12 m12 m12 m12
 have hb:=x_b64encode (n:=n) (σ:=σ) (l:=oct6 (tot [a,b,c,d] 0)) h oct6_lt (show 6≤1000 by decide) (show 6 % 3≠1 by decide)
 rw [hT,h6,b64_figs h64 (show 8 % 4=0 from rfl)] at hb
 have e3:evM (phi TT (n+3)) (lamN TT (n+3)) TT.G (partE (b__law_writing.get 2)) false [some (.lst (nts [a,b,c,d])),some (.int (tot [a,b,c,d] 0:Nat)),none,none,none,none] σ=some (.bytes (wr8 a b c d),σ):=by
  refine r_fn rfl (r_one (r_ty rfl (r_one (r_mapl (xs:=List.range 6) (f:=fun i=>.int (i:Nat)) (g:=fun i=>.int ((tot [a,b,c,d] 0 / 256 ^ (5 - i) % 256:Nat):Int)) (r_ty rfl (r_one r_int) (c_range (b:=6) (by decide))) (i_range (b:=6) (by decide)) (by decide) fun i hi=>⟨_,rfl,?_⟩)) (c_bytes (l:=oct6 (tot [a,b,c,d] 0)) (congrArg some ?_) oct6_lt))) (by rw [hT,h6]; exact hb)
  ·have hi:=List.mem_range.mp hi
   have hp:256 ^ (5 - i)≤256 ^ 5:=Nat.pow_le_pow_right (by decide) (by (first | lia | omega))
   have hp0:0 < 256 ^ (5 - i):=Nat.pow_pos (by decide)
   refine r_bin (r_bin (r_var rfl) (r_bin r_int (r_bin r_int (r_var rfl) (iv (i:=((5 - i:Nat):Int)) (by (first | lia | omega)))) ((o_pow (b:=5 - i) rfl (by (first | lia | omega)) rfl).trans (iv (cpow 256 _).symm))) (o_divN ?_ rfl)) r_int (o_modN (b:=256) (by decide) rfl)
   rw [Bool.or_eq_false_iff]
   exact ⟨decide_eq_false (by (first | lia | omega)),by rw [smallN (Nat.lt_of_le_of_lt hp (by decide))]; rfl⟩
  ·unfold nts oct6
   rw [List.map_map]; rfl
 refine f_run (f:=f__law_writing) rfl rfl rfl rfl (l_cons (s_assign r_int rfl) (l_cons (s_loop (x:=.lst (nts [a,b,c,d])) (r_var rfl) rfl (oc_over (n:=n+2) (t:=0)) rfl) (l_cons (s_assign e3 rfl) (l_one (s_ret (r_meth r_str rfl (r_one (r_mapl (xs:=wr8 a b c d) (f:=fun c=>.int (c:Nat)) (g:=fun c=>.str [c]) (r_var rfl) rfl (show 8≤maxLen by decide) fun c hc=>⟨_,rfl,r_bi rfl (r_one (r_var rfl)) (c_chr ?_)⟩)) (j_chrs (l:=wr8 a b c d) rfl (show 8≤maxLen by decide)))))))) rfl (leave_same rfl rfl)
 exact (List.mem_map.mp hc).elim fun k hk=>hk.2▸Nat.lt_trans sgn_lt (by decide)
end
end Mine
namespace Mine
open PySem PySem.W GS
section
variable {n k t q c x y m:Nat} {σ:Sto}
theorem u_into {Φ:Calls} {Λ:Lexer} {G:Nat→Option V} {t t2:Tg} {lc l1:Loc} {it:E} {ifs:EL} {v x:V} {vs acc acc':List V} {kk:Loc→Sto→List V→Option (List V × Sto)} {bb:Bool} (hb:bindT t v lc σ=some l1) (hi:evM Φ Λ G it false l1 σ=some (x,σ)) (hit:iterOf σ x=some (.items vs,vs.length))
  (ho:over (compStep t2 l1 (fun loc σ=>evIfs Φ Λ G ifs loc σ) (evC Φ Λ G .nil kk)) vs acc σ=some (bb,acc',σ)):compStep t lc (fun loc σ=>evIfs Φ Λ G .nil loc σ) (evC Φ Λ G (.cons t2 it ifs .nil) kk) v acc σ=some (true,acc',σ):=by
 refine bnd hb (bnd (x:=(true,σ)) rfl ?_)
 show (evC Φ Λ G (.cons t2 it ifs .nil) kk l1 σ acc).map _=_
 have h:evC Φ Λ G (.cons t2 it ifs .nil) kk l1 σ acc=some (acc',σ):=bnd hi (bnd hit ((mpd (iter_all.trans ho)).trans rfl))
 rw [h]; rfl
theorem r_nest {Φ:Calls} {Λ:Lexer} {G:Nat→Option V} {t t2:Tg} {loc:Loc} {e a it it2:E} {x:V} {cs:CS} {p:Pos} {β γ:Type} {f:β→V} {f2:γ→V} {g:β→γ→V} {c:β→γ→Bool} {xs:List β} {ys:List γ}
  (hi:evM Φ Λ G it false (clear (cs.own.map (·.1)) loc) σ=some (x,σ)) (hit:iterOf σ x=some (.items (xs.map f),(xs.map f).length)) (hl:xs.length*ys.length≤maxLen)
  (h:∀ x∈xs,∃ l1 x2,bindT t (f x) (clear (cs.own.map (·.1)) loc) σ=some l1∧evM Φ Λ G it2 false l1 σ=some (x2,σ)∧iterOf σ x2=some (.items (ys.map f2),(ys.map f2).length)∧∀ y∈ys,∃ l2,bindT t2 (f2 y) l1 σ=some l2∧evT Φ Λ G a l2 σ=some (c x y,σ)∧(c x y=true→evM Φ Λ G e false l2 σ=some (g x y,σ))) :
  evM Φ Λ G (.comp false e t it .nil (.cons t2 it2 (.cons a .nil) .nil) cs p) false loc σ=some (.lst (xs.map fun x=>(ys.filter (c x)).map (g x)).flatten,σ):=by
 have all:∀ (zs:List β) (acc:List V),(∀ x∈zs,x∈xs)→acc.length+zs.length*ys.length≤maxLen→over (compStep t (clear (cs.own.map (·.1)) loc) (fun loc σ=>evIfs Φ Λ G .nil loc σ) (evC Φ Λ G (.cons t2 it2 (.cons a .nil) .nil) fun loc σ acc=>(evM Φ Λ G e false loc σ).bind fun v=>if acc.length < maxLen then some (acc++[v.1],v.2) else none)) (zs.map f) acc σ=some (true,acc++(zs.map fun x=>(ys.filter (c x)).map (g x)).flatten,σ):=by
  intro zs
  induction zs with
  | nil=>exact fun acc ζ ζ=>congrArg (fun l=>some (true,l,σ)) (List.append_nil acc).symm
  | cons z zs ih =>
   intro acc hz hl
   rw [List.length_cons,Nat.succ_mul] at hl
   obtain ⟨l1,x2,h1,h2,h3,h4⟩:=h z (hz z (.head _))
   refine over_cons (u_into h1 h2 h3 (over_add (g:=fun y=>if c z y then [g z y] else []) (fun y=>by cases c z y <;> exact Nat.le_of_ble_eq_true rfl) (by (first | lia | omega)) fun y hy acc ha=>(h4 y hy).elim fun ζ hh=>(u_if hh.1 hh.2.1 hh.2.2 ha).trans ?_)) ?_
   ·cases c z y with
    | false=>rw [if_neg (by decide),if_neg (by decide),List.append_nil]
    | true=>rfl
   ·rw [map_if,ih _ (fun y hy=>hz y (.tail _ hy)) ?_,List.append_assoc]
    ·rfl
    ·have:=List.length_filter_le (c z) ys
     rw [List.length_append,List.length_map]; (first | lia | omega)
 exact r_compl hi hit (all xs [] (fun ζ h=>h) (by rw [List.length_nil,Nat.zero_add]; exact hl))
theorem eq_nil {xs:List V}:cmpop .Eq (.lst xs) (.lst []) σ=some xs.isEmpty:=by
 cases xs with
 | nil=>rfl
 | cons v xs =>
  have h:eqR (v :: xs) []=some false:=if_neg nofun
  exact congrArg (fun o=>orO o (orO ((tupV (.lst (v :: xs))).bind fun xs=>(tupV (.lst [])).bind fun ys=>if xs.length=ys.length then eqL xs ys else none) (eqS (.lst (v :: xs)) (.lst [])))) h
end
section
variable {Φ:Calls} {Λ:Lexer} {G:Nat→Option V} {loc:Loc} {σ:Sto} {p:Pos} {e1 e2 e3:E} {c1 c2 c3:Bool}
theorem t_and (h1:evT Φ Λ G e1 loc σ=some (c1,σ)) (h2:evT Φ Λ G e2 loc σ=some (c2,σ)):evT Φ Λ G (.boolop .And (.cons e1 (.cons e2 .nil)) p) loc σ=some (c1&&c2,σ):=by
 cases c1 with
 | false=>exact t_bool (b_stop (c:=false) h1 (by decide))
 | true =>
  cases c2 with
  | false=>exact t_bool (b_next h1 (by decide) (b_stop (c:=false) h2 (by decide)))
  | true=>exact t_bool (b_next h1 (by decide) (b_next h2 (by decide) rfl))
theorem t_and3 (h1:evT Φ Λ G e1 loc σ=some (c1,σ)) (h2:evT Φ Λ G e2 loc σ=some (c2,σ)) (h3:evT Φ Λ G e3 loc σ=some (c3,σ)):evT Φ Λ G (.boolop .And (.cons e1 (.cons e2 (.cons e3 .nil))) p) loc σ=some ((c1&&c2)&&c3,σ):=by
 cases c1 with
 | false=>exact t_bool (b_stop (c:=false) h1 (by decide))
 | true =>
  cases c2 with
  | false=>exact t_bool (b_next h1 (by decide) (b_stop (c:=false) h2 (by decide)))
  | true =>
   cases c3 with
   | false=>exact t_bool (b_next h1 (by decide) (b_next h2 (by decide) (b_stop (c:=false) h3 (by decide))))
   | true=>exact t_bool (b_next h1 (by decide) (b_next h2 (by decide) (b_next h3 (by decide) rfl)))
theorem ne_nat {a b:Nat}:cmpop .NotEq (.int (a:Nat)) (.int (b:Nat)) σ=some (!(a==b)):=congrArg (fun b=>some (!b)) cast_beq
theorem lt_nat {a b:Nat}:cmpop .Lt (.int (a:Nat)) (.int (b:Nat)) σ=some (decide (a < b)):=congrArg some (decide_eq_decide.mpr Int.ofNat_lt)
theorem gt_int {a b:Int}:cmpop .Gt (.int a) (.int b) σ=some (decide (a > b)):=rfl
theorem r_tix {loc:Loc} {i j:Nat} {q1 q2 q3 p:Pos} {xs:List V} {v:V} {m:Nat} (hi:loc[i]?=some (some (.tup xs))) (hj:loc[j]?=some (some v)) (h:indexL v xs=some m):evM Φ Λ G (.tix i j q1 q2 q3 p) false loc σ=some (.int (m:Nat),σ):=ev_tix.trans (bnd hi (bnd rfl (bnd rfl (bnd hj (bnd rfl (mpd h))))))
end
section
variable {n k a b c d m:Nat} {σ:Sto} {rk:Nat→Nat→Nat} {L:Nat→Nat→Int} {M:Nat→Nat} {B:Nat→Nat}
theorem eqS_nat:eqS (.int (a:Nat)) (.int (b:Nat))=some (a==b):=congrArg some cast_beq
theorem in3:inL (.int (k:Nat)) [.int (a:Nat),.int (b:Nat),.int (c:Nat)]=some (a==k||(b==k||(c==k||false))):=by
 show (eqS _ _).bind (fun x=>((eqS _ _).bind fun y=>((eqS _ _).bind fun z=>(some false).map (z||·)).map (y||·)).map (x||·))=_
 rw [eqS_nat,eqS_nat,eqS_nat]; rfl
theorem idx3 (h:(a==k||(b==k||(c==k||false)))=true):indexL (.int (k:Nat)) [.int (a:Nat),.int (b:Nat),.int (c:Nat)]=some (if a=k then 0 else if b=k then 1 else 2):=by
 unfold indexL
 rw [in3,h]
 show (if eqS (.int (a:Nat)) (.int (k:Nat))=some true then some 0 else if eqS (.int (b:Nat)) (.int (k:Nat))=some true then some 1 else if eqS (.int (c:Nat)) (.int (k:Nat))=some true then some 2 else none)=_
 rw [eqS_nat,eqS_nat,eqS_nat]
 by_cases ha:a=k
 ·rw [if_pos ha,beq_iff_eq.mpr ha,if_pos rfl]
 ·rw [if_neg ha,beq_false_of_ne ha,if_neg (by decide)]
  rw [beq_false_of_ne ha,Bool.false_or] at h
  by_cases hb:b=k
  ·rw [if_pos hb,beq_iff_eq.mpr hb,if_pos rfl]
  ·rw [if_neg hb,beq_false_of_ne hb,if_neg (by decide)]
   rw [beq_false_of_ne hb,Bool.false_or,Bool.or_false] at h
   rw [h,if_pos rfl]
noncomputable def tri (a b c:Nat):Nat→Nat:=fun d=>if d=0 then a else if d=1 then b else c
noncomputable abbrev gridN (f:Nat→Nat) (n:Nat):V:=.lst ((List.range n).map fun k=>.int (f k:Nat))
noncomputable abbrev ranksV (rk:Nat→Nat→Nat):V:=.lst ((List.range 4).map fun k=>gridN (rk k) 3)
noncomputable abbrev likesV (L:Nat→Nat→Int):V:=.lst ((List.range 3).map fun c=>.lst ((List.range 4).map fun k=>.int (L c k)))
noncomputable abbrev tri3 (M:Nat→Nat):V:=.tup [.int (M 0:Nat),.int (M 1:Nat),.int (M 2:Nat)]
theorem rng_at {β:Type} {f:Nat→β} {n k:Nat} (h:k < n):((List.range n).map f)[k]?=some (f k):=by
 rw [List.getElem?_map,List.getElem?_eq_getElem (by rw [List.length_range]; exact h),List.getElem_range]; rfl
theorem tri_at (h:d < 3):([.int (M 0:Nat),.int (M 1:Nat),.int (M 2:Nat)]:List V)[d]?=some (.int (M d:Nat)):=by
 have:d=0∨d=1∨d=2:=by (first | lia | omega)
 rcases this with rfl | rfl | rfl <;> rfl
noncomputable abbrev bsL:S:=b__law_best.get 1
noncomputable abbrev bsC:S:=bsL.a.get 0
noncomputable abbrev bLoc (rk:Nat→Nat→Nat) (L:Nat→Nat→Int) (bv:V) (l:List V):Loc:=some (ranksV rk) :: some (likesV L) :: some bv :: (l.map some++List.replicate (11 - l.length) none)
noncomputable def ups (rk:Nat→Nat→Nat) (L:Nat→Nat→Int) (M:Nat→Nat) (k d:Nat):Bool:=decide (rk k d < hv rk M k)&&decide (L d k > L d (M d))
noncomputable def upL (rk:Nat→Nat→Nat) (L:Nat→Nat→Int) (M:Nat→Nat):List V:=((List.range 4).map fun k=>((List.range 3).filter (ups rk L M k)).map fun ζ=>V.int (k:Nat)).flatten
theorem hv_in {c:Bool} (hc:(M 0==k||(M 1==k||(M 2==k||false)))=c):hv rk M k=bif c then rk k (if M 0=k then 0 else if M 1=k then 1 else 2) else 3:=by
 subst hc
 unfold hv
 by_cases h0:M 0=k
 ·rw [if_pos h0,if_pos h0,beq_iff_eq.mpr h0]; rfl
 ·rw [if_neg h0,if_neg h0,beq_false_of_ne h0]
  by_cases h1:M 1=k
  ·rw [if_pos h1,if_pos h1,beq_iff_eq.mpr h1]; rfl
  ·rw [if_neg h1,if_neg h1,beq_false_of_ne h1]
   by_cases h2:M 2=k
   ·rw [if_pos h2,beq_iff_eq.mpr h2]; rfl
   ·rw [if_neg h2,beq_false_of_ne h2]; rfl
theorem cl_lt:(if M 0=k then 0 else if M 1=k then 1 else 2) < 3:=by
 split
 ·decide
 ·split <;> decide
theorem b_have {bv:V}:evM (phi TT n) (lamN TT n) TT.G (partE (bsC.a.get 1)) false (bLoc rk L bv [.int (M 0:Nat),.int (M 1:Nat),.int (M 2:Nat),tri3 M]) σ=some (gridN (hv rk M) 4,σ):=by
 refine r_mapl (xs:=List.range 4) (f:=fun k=>.int (k:Nat)) (g:=fun k=>.int (hv rk M k:Nat)) (r_ty rfl (r_one r_int) (c_range (b:=4) (by decide))) (i_range (b:=4) (by decide)) (by decide) fun k hk=>⟨_,rfl,r_ife (c:=(M 0==k||(M 1==k||(M 2==k||false)))) (t_cmp (r_var rfl) (r_var rfl) ?_) ?_⟩
 ·exact (congrArg (fun o=>orO none (orO o none)) (in3 (a:=M 0) (b:=M 1) (c:=M 2))).trans rfl
 ·have hk:=List.mem_range.mp hk
  cases hc:(M 0==k||(M 1==k||(M 2==k||false))) with
  | true =>
   rw [hv_in hc]
   exact r_sub (p:=default) (r_sub (r_var rfl) (r_var rfl) (sub_lst (v:=gridN (rk k) 3) (rng_at hk))) (r_tix rfl rfl (idx3 hc)) (sub_lst (rng_at (f:=fun c=>V.int (rk k c:Nat)) cl_lt))
  | false=>rw [hv_in hc]; rfl
theorem b_upset (hM:∀ d < 3,M d < 4) {bv:V}:evM (phi TT n) (lamN TT n) TT.G (partE (bsC.a.get 2)) false (bLoc rk L bv [.int (M 0:Nat),.int (M 1:Nat),.int (M 2:Nat),tri3 M,gridN (hv rk M) 4]) σ=some (.lst (upL rk L M),σ):=by
 refine r_nest (xs:=List.range 4) (ys:=List.range 3) (f:=fun k=>.int (k:Nat)) (f2:=fun d=>.int (d:Nat)) (g:=fun k ζ=>.int (k:Nat)) (c:=ups rk L M) (r_ty rfl (r_one r_int) (c_range (b:=4) (by decide))) (i_range (b:=4) (by decide)) (by decide) fun k hk=>⟨_,_,rfl,r_ty rfl (r_one r_int) (c_range (b:=3) (by decide)),i_range (b:=3) (by decide),fun d hd=>⟨_,rfl,t_and (t_cmp (r_sub (r_sub (r_var rfl) (r_var rfl) (sub_lst (v:=gridN (rk k) 3) (rng_at ?_))) (r_var rfl) (sub_lst (rng_at (f:=fun c=>V.int (rk k c:Nat)) ?_))) (r_sub (r_var rfl) (r_var rfl) (sub_lst (rng_at (f:=fun k=>V.int (hv rk M k:Nat)) ?_))) lt_nat) (t_cmp (r_sub (r_sub (r_var rfl) (r_var rfl) (sub_lst (rng_at (f:=fun c=>V.lst ((List.range 4).map fun k=>.int (L c k))) ?_))) (r_var rfl) (sub_lst (rng_at (f:=fun k=>V.int (L d k)) ?_))) (r_sub (r_sub (r_var rfl) (r_var rfl) (sub_lst (rng_at (f:=fun c=>V.lst ((List.range 4).map fun k=>.int (L c k))) ?_))) (r_sub (r_var rfl) (r_var rfl) (sub_tup (tri_at ?_))) (sub_lst (rng_at (f:=fun k=>V.int (L d k)) ?_))) gt_int),fun ζ=>r_var rfl⟩⟩
 all_goals first | exact List.mem_range.mp hk | exact List.mem_range.mp hd | exact hM d (List.mem_range.mp hd)
theorem upL_is:(upL rk L M).isEmpty=true↔Stb rk L M:=by
 unfold upL Stb
 rw [List.isEmpty_iff,List.flatten_eq_nil_iff]
 constructor
 ·intro h k hk d hd hu
  have:=h _ (List.mem_map.mpr ⟨k,List.mem_range.mpr hk,rfl⟩)
  rw [List.map_eq_nil_iff,List.filter_eq_nil_iff] at this
  exact this d (List.mem_range.mpr hd) (Bool.and_eq_true_iff.mpr ⟨decide_eq_true hu.1,decide_eq_true hu.2⟩)
 ·intro h l hl
  obtain ⟨k,hk,e⟩:=List.mem_map.mp hl
  rw [← e,List.map_eq_nil_iff,List.filter_eq_nil_iff]
  intro d hd hu
  have hu:=Bool.and_eq_true_iff.mp hu
  exact h k (List.mem_range.mp hk) d (List.mem_range.mp hd) ⟨of_decide_eq_true hu.1,of_decide_eq_true hu.2⟩
theorem c_min {a b:Nat}:callB .min [.int (a:Nat),.int (b:Nat)] σ=some (.int (min a b:Nat),σ):=by
 show some (V.int (if (b:Int) < (a:Int) then (b:Int) else (a:Int)),σ)=_
 split
 ·rw [show min a b=b by (first | lia | omega)]
 ·rw [show min a b=a by (first | lia | omega)]
noncomputable def dist (a b c:Nat):Bool:=(!(a==b)&&!(a==c))&&!(b==c)
noncomputable def better (rk:Nat→Nat→Nat) (L:Nat→Nat→Int) (M:Nat→Nat) (B:Nat→Nat):Nat→Nat:=if dist (M 0) (M 1) (M 2)&&(upL rk L M).isEmpty then fun k=>min (B k) (hv rk M k) else B
theorem b_turn (hM:∀ d < 3,M d < 4):loopStep (phi TT n) (lamN TT n) TT.G [3,4,5,6,7,8] bsL.t bsL.a (tri3 M) (.next,bLoc rk L (gridN B 4) []) σ=some (true,(.next,bLoc rk L (gridN (better rk L M B) 4) []),σ):=by
 have hc:evT (phi TT n) (lamN TT n) TT.G (partE bsC) (bLoc rk L (gridN B 4) [.int (M 0:Nat),.int (M 1:Nat),.int (M 2:Nat)]) σ=some (dist (M 0) (M 1) (M 2),σ) :=
  t_and3 (t_cmp (r_var rfl) (r_var rfl) ne_nat) (t_cmp (r_var rfl) (r_var rfl) ne_nat) (t_cmp (r_var rfl) (r_var rfl) ne_nat)
 unfold better
 cases hd:dist (M 0) (M 1) (M 2) with
 | false =>
  rw [hd] at hc
  rw [Bool.false_and,if_neg (by decide)]
  exact u_next (t:=bsL.t) (loc':=bLoc rk L (gridN B 4) [.int (M 0:Nat),.int (M 1:Nat),.int (M 2:Nat)]) rfl (l_one (s_no hc rfl)) rfl
 | true =>
  rw [hd] at hc
  rw [Bool.true_and]
  have hu:evT (phi TT n) (lamN TT n) TT.G (partE (bsC.a.get 3)) (bLoc rk L (gridN B 4) [.int (M 0:Nat),.int (M 1:Nat),.int (M 2:Nat),tri3 M,gridN (hv rk M) 4,.lst (upL rk L M)]) σ=some ((upL rk L M).isEmpty,σ):=t_cmp (r_var rfl) (r_lst r_nil (by decide)) eq_nil
  have s1:evS (phi TT n) (lamN TT n) TT.G (bsC.a.get 0) (bLoc rk L (gridN B 4) [.int (M 0:Nat),.int (M 1:Nat),.int (M 2:Nat)]) σ=some (.next,bLoc rk L (gridN B 4) [.int (M 0:Nat),.int (M 1:Nat),.int (M 2:Nat),tri3 M],σ):=s_assign (r_tup (r_cons (r_var rfl) (r_two (r_var rfl) (r_var rfl)))) rfl
  have s2:evS (phi TT n) (lamN TT n) TT.G (bsC.a.get 1) (bLoc rk L (gridN B 4) [.int (M 0:Nat),.int (M 1:Nat),.int (M 2:Nat),tri3 M]) σ=some (.next,bLoc rk L (gridN B 4) [.int (M 0:Nat),.int (M 1:Nat),.int (M 2:Nat),tri3 M,gridN (hv rk M) 4],σ):=s_assign b_have rfl
  have s3:evS (phi TT n) (lamN TT n) TT.G (bsC.a.get 2) (bLoc rk L (gridN B 4) [.int (M 0:Nat),.int (M 1:Nat),.int (M 2:Nat),tri3 M,gridN (hv rk M) 4]) σ=some (.next,bLoc rk L (gridN B 4) [.int (M 0:Nat),.int (M 1:Nat),.int (M 2:Nat),tri3 M,gridN (hv rk M) 4,.lst (upL rk L M)],σ):=s_assign (b_upset hM) rfl
  cases he:(upL rk L M).isEmpty with
  | false =>
   rw [he] at hu
   rw [if_neg (by decide)]
   exact u_next (t:=bsL.t) (loc':=bLoc rk L (gridN B 4) [.int (M 0:Nat),.int (M 1:Nat),.int (M 2:Nat),tri3 M,gridN (hv rk M) 4,.lst (upL rk L M)]) rfl (l_one (s_yes hc (l_cons s1 (l_cons s2 (l_cons s3 (l_one (s_no hu rfl))))))) rfl
  | true =>
   rw [he] at hu
   rw [if_pos rfl]
   have s4:evM (phi TT n) (lamN TT n) TT.G (partE ((bsC.a.get 3).a.get 0)) false (bLoc rk L (gridN B 4) [.int (M 0:Nat),.int (M 1:Nat),.int (M 2:Nat),tri3 M,gridN (hv rk M) 4,.lst (upL rk L M)]) σ=some (gridN (fun k=>min (B k) (hv rk M k)) 4,σ) :=
    r_mapl (xs:=List.range 4) (f:=fun k=>.int (k:Nat)) (g:=fun k=>.int (min (B k) (hv rk M k):Nat)) (r_ty rfl (r_one r_int) (c_range (b:=4) (by decide))) (i_range (b:=4) (by decide)) (by decide) fun k hk=>⟨_,rfl,r_bi rfl (r_two (r_sub (r_var rfl) (r_var rfl) (sub_lst (rng_at (f:=fun k=>V.int (B k:Nat)) (List.mem_range.mp hk)))) (r_sub (r_var rfl) (r_var rfl) (sub_lst (rng_at (f:=fun k=>V.int (hv rk M k:Nat)) (List.mem_range.mp hk))))) c_min⟩
   exact u_next (t:=bsL.t) (loc':=bLoc rk L (gridN (fun k=>min (B k) (hv rk M k)) 4) [.int (M 0:Nat),.int (M 1:Nat),.int (M 2:Nat),tri3 M,gridN (hv rk M) 4,.lst (upL rk L M)]) rfl (l_one (s_yes hc (l_cons s1 (l_cons s2 (l_cons s3 (l_one (s_yes hu (l_one (s_assign s4 rfl))))))))) rfl
noncomputable def triI (i:Nat):Nat→Nat:=tri (i / 16) (i / 4 % 4) (i % 4)
theorem triI_lt {i:Nat} (hi:i < 64):∀ d < 3,triI i d < 4:=fun d ζ=>by
 unfold triI tri
 split
 ·(first | lia | omega)
 ·split <;> (first | lia | omega)
noncomputable def bestF (rk:Nat→Nat→Nat) (L:Nat→Nat→Int) (is:List Nat) (B:Nat→Nat):Nat→Nat:=is.foldl (fun B i=>better rk L (triI i) B) B
theorem b_over:∀ {is:List Nat} {B:Nat→Nat},(∀ i∈is,i < 64)→over (loopStep (phi TT n) (lamN TT n) TT.G [3,4,5,6,7,8] bsL.t bsL.a) (is.map fun i=>tri3 (triI i)) (.next,bLoc rk L (gridN B 4) []) σ=some (true,(.next,bLoc rk L (gridN (bestF rk L is B) 4) []),σ)
 | [],_,_=>rfl
 | i :: is,B,h=>over_cons (b_turn (triI_lt (h i (.head _)))) (b_over fun j hj=>h j (.tail _ hj))
theorem x_best:phi TT (n+1) i__law_best [ranksV rk,likesV L] σ=some (gridN (bestF rk L (List.range 64) fun ζ=>3) 4,σ):=by
 have h1:evM (phi TT n) (lamN TT n) TT.G (partE (b__law_best.get 0)) false (some (ranksV rk) :: some (likesV L) :: List.replicate 12 none) σ=some (gridN (fun ζ=>3) 4,σ):=r_bin (x:=.lst [.int 3]) (y:=.int 4) (r_lst (r_one r_int) (show 1≤maxLen by decide)) r_int rfl
 have h2:evM (phi TT n) (lamN TT n) TT.G (partE bsL) false (bLoc rk L (gridN (fun ζ=>3) 4) []) σ=some (.lst ((List.range 64).map fun i=>tri3 (triI i)),σ) :=
  r_mapl (xs:=List.range 64) (f:=fun i=>.int (i:Nat)) (g:=fun i=>tri3 (triI i)) (r_ty rfl (r_one r_int) (c_range (b:=64) (by decide))) (i_range (b:=64) (by decide)) (by decide) fun i ζ=>⟨_,rfl,r_tup (r_cons (r_bin (r_var rfl) r_int (o_divN (b:=16) rfl rfl)) (r_two (r_bin (r_bin (r_var rfl) r_int (o_divN (b:=4) rfl rfl)) r_int (o_modN (b:=4) (by decide) rfl)) (r_bin (r_var rfl) r_int (o_modN (b:=4) (by decide) rfl))))⟩
 have h3:evS (phi TT n) (lamN TT n) TT.G bsL (bLoc rk L (gridN (fun ζ=>3) 4) []) σ=some (.next,bLoc rk L (gridN (bestF rk L (List.range 64) fun ζ=>3) 4) [],σ):=s_loop h2 rfl (b_over fun i hi=>List.mem_range.mp hi) rfl
 exact f_run (f:=f__law_best) rfl rfl rfl rfl (l_cons (loc':=bLoc rk L (gridN (fun ζ=>3) 4) []) (s_assign h1 rfl) (l_cons h3 (l_one (s_ret (r_var rfl))))) rfl (leave_same rfl rfl)
theorem dist_is {M:Nat→Nat} (hM:∀ d < 3,M d < 4):dist (M 0) (M 1) (M 2)=true↔Mt M:=by
 unfold dist
 rw [Bool.and_eq_true,Bool.and_eq_true,Bool.not_eq_true',Bool.not_eq_true',Bool.not_eq_true',beq_eq_false_iff_ne,beq_eq_false_iff_ne,beq_eq_false_iff_ne]
 exact ⟨fun h=>⟨hM,h.1.1,h.1.2,h.2⟩,fun m=>⟨⟨m.n1,m.n2⟩,m.n3⟩⟩
theorem hv_tri {M:Nat→Nat} (k:Nat):hv rk (tri (M 0) (M 1) (M 2)) k=hv rk M k:=rfl
theorem stb_tri {M:Nat→Nat} (h:Stb rk L M):Stb rk L (tri (M 0) (M 1) (M 2)):=fun k hk d hd ⟨h1,h2⟩=>h k hk d hd ⟨h1,by
 have:d=0∨d=1∨d=2:=by (first | lia | omega)
 rcases this with rfl | rfl | rfl <;> exact h2⟩
set_option tactic.hygienic true in
theorem best_ge {b:Nat→Nat} (hall:∀ M',Mt M'→Stb rk L M'→∀ k < 4,b k≤hv rk M' k):∀ {is:List Nat} {B:Nat→Nat},(∀ i∈is,i < 64)→(∀ k < 4,b k≤B k)→∀ k < 4,b k≤bestF rk L is B k
 | [],_,_,h=>h
 | i :: _,B,hi,h=>best_ge hall (B:=better rk L (triI i) B) (fun j hj=>hi j (.tail _ hj)) fun k hk=>by
  unfold better
  split
  ·rename_i hc
   have hc:=Bool.and_eq_true_iff.mp hc
   exact Nat.le_min.mpr ⟨h k hk,hall _ ((dist_is (triI_lt (hi i (.head _)))).mp hc.1) (upL_is.mp hc.2) k hk⟩
  ·exact h k hk
theorem best_le {j:Nat} (hj:dist (triI j 0) (triI j 1) (triI j 2)=true∧(upL rk L (triI j)).isEmpty=true):∀ {is:List Nat} {B:Nat→Nat},(j∈is∨∀ k < 4,B k≤hv rk (triI j) k)→∀ k < 4,bestF rk L is B k≤hv rk (triI j) k
 | [],_,h=>h.resolve_left List.not_mem_nil
 | i :: _,B,h=>best_le hj (B:=better rk L (triI i) B) (by
  have mono:∀ k < 4,better rk L (triI i) B k≤B k:=fun k ζ=>by
   unfold better
   split
   ·exact Nat.min_le_left _ _
   ·exact Nat.le_refl _
  rcases h with h | h
  ·rcases List.mem_cons.mp h with e | h
   ·refine .inr fun k ζ=>?_
    subst e
    unfold better
    rw [hj.1,hj.2]
    exact Nat.min_le_right _ _
   ·exact .inl h
  ·exact .inr fun k hk=>Nat.le_trans (mono k hk) (h k hk))
theorem best_is {M:Nat→Nat} (m:Mt M) (st:Stb rk L M) (h3:∀ k < 4,hv rk M k≤3) (hall:∀ M',Mt M'→Stb rk L M'→∀ k < 4,hv rk M k≤hv rk M' k):∀ k < 4,bestF rk L (List.range 64) (fun ζ=>3) k=hv rk M k:=by
 have l0:=m.lt 0 (by decide)
 have l1:=m.lt 1 (by decide)
 have l2:=m.lt 2 (by decide)
 have hj:triI (M 0*16+M 1*4+M 2)=tri (M 0) (M 1) (M 2):=by
  unfold triI
  rw [show (M 0*16+M 1*4+M 2) / 16=M 0 by omega,show (M 0*16+M 1*4+M 2) / 4 % 4=M 1 by omega,show (M 0*16+M 1*4+M 2) % 4=M 2 by omega]
 intro k hk
 have h1:=best_ge (is:=List.range 64) (B:=fun ζ=>3) hall (fun i hi=>List.mem_range.mp hi) h3 k hk
 have h2:=best_le (rk:=rk) (L:=L) (j:=M 0*16+M 1*4+M 2) (by rw [hj]; exact ⟨(dist_is m.lt).mpr m,upL_is.mpr (stb_tri st)⟩) (is:=List.range 64) (B:=fun ζ=>3) (.inl (List.mem_range.mpr (by omega))) k hk
 rw [hj,hv_tri] at h2
 exact Nat.le_antisymm h2 h1
end
end Mine
namespace Mine
open PySem PySem.W GS
section
variable {r:Int} {j k:Nat}
noncomputable abbrev pc2 (r:Int) (j:Nat):List Nat:=spell (mR r j) (nmC (qR r) j)
noncomputable def rst (r:Int) (j:Nat):List Nat:=(((List.range 3).drop j).map (pc2 r)).flatten
noncomputable abbrev wT (r:Int):List Nat:=rst r 0
theorem nm_in:∀ q < 6,∀ i < 3,nmC q i∈[117,103,111]:=by decide
theorem pc2_word (hj:j < 3):Word (pc2 r j) [nmC (qR r) j]∧(pc2 r j).length≤3:=by
 have hm:=(mR_is r j).2
 have hc:nmC (qR r) j≠92∧nmC (qR r) j≠34∧wsp (nmC (qR r) j)=false:=by
  have:∀ c∈[117,103,111],c≠92∧c≠34∧wsp c=false:=by decide
  exact this _ (nm_in _ (qR_is r).2 j hj)
 show Word (spell (mR r j) (nmC (qR r) j)) [nmC (qR r) j]∧(spell (mR r j) (nmC (qR r) j)).length≤3
 generalize nmC (qR r) j=c at hc
 generalize mR r j=m at hm
 have h:m=0∨m=1∨m=2∨m=3:=by (first | lia | omega)
 rcases h with rfl | rfl | rfl | rfl
 ·exact ⟨.plain (u:=[]) (s:=32) hc.2.2 hc.2.1 hc.1 .nil rfl,show 2≤3 by decide⟩
 ·exact ⟨.back (u:=[]) (s:=10) .nil rfl,show 3≤3 by decide⟩
 ·exact ⟨.quote (u:=[c]) (.plain (beq_false_of_ne hc.2.1) hc.1 .nil),show 3≤3 by decide⟩
 ·exact ⟨.plain (u:=[]) (s:=9) hc.2.2 hc.2.1 hc.1 .nil rfl,show 2≤3 by decide⟩
theorem rst_next (hj:j < 3):rst r j=pc2 r j++rst r (j+1):=by
 have h:j=0∨j=1∨j=2:=by (first | lia | omega)
 rcases h with rfl | rfl | rfl <;> rfl
theorem wT_len:(wT r).length≤9:=by
 have h {i:Nat} (hi:i < 3):(rst r i).length≤3+(rst r (i+1)).length:=by
  rw [rst_next hi,List.length_append]
  exact Nat.add_le_add_right (pc2_word hi).2 _
 exact Nat.le_trans (h (i:=0) (by decide)) (Nat.add_le_add_left (Nat.le_trans (h (i:=1) (by decide)) (Nat.add_le_add_left (h (i:=2) (by decide)) 3)) 3)
theorem rst_suf (hj:j≤3):rst r j <:+ wT r:=by
 have h3:rst r 3 <:+ rst r 2:=rst_next (r:=r) (j:=2) (by decide)▸List.suffix_append ..
 have h2:rst r 2 <:+ rst r 1:=rst_next (r:=r) (j:=1) (by decide)▸List.suffix_append ..
 have h1:rst r 1 <:+ rst r 0:=rst_next (r:=r) (j:=0) (by decide)▸List.suffix_append ..
 have hj:j=0∨j=1∨j=2∨j=3:=by (first | lia | omega)
 rcases hj with rfl | rfl | rfl | rfl
 ·exact List.suffix_refl _
 ·exact h1
 ·exact h2.trans h1
 ·exact h3.trans (h2.trans h1)
end
section
variable {n k:Nat} {ns:List Int} {ws:List (List Nat)} {text rr:List Nat} {W:List Nat} {z:Nat→Int} {rd:Nat→Nat} {τ:Sto}
noncomputable abbrev dgs (W:List Nat):List V:=W.map fun k=>.str [48+k]
noncomputable abbrev pO (z:Nat→Int) (rd:Nat→Nat) (k:Nat):O:=.list [.int (((wT (z k)).length - (rst (z k) (rd k)).length:Nat):Int)]
noncomputable abbrev lO (z:Nat→Int) (rd:Nat→Nat) (k:Nat):O:=.lex (wT (z k)) (5+k) (1+cnt (wT (z k)) - cnt (rst (z k) (rd k))) (9+2*k)
noncomputable abbrev own2 (z:Nat→Int) (rd:Nat→Nat) (τ:Sto):Sto:=pO z rd 0 :: pO z rd 1 :: pO z rd 2 :: pO z rd 3 :: .list [] :: lO z rd 0 :: .list [] :: lO z rd 1 :: .list [] :: lO z rd 2 :: .list [] :: lO z rd 3 :: τ
noncomputable abbrev SR (ns:List Int) (ws:List (List Nat)) (text rr W:List Nat) (z:Nat→Int) (rd:Nat→Nat) (τ:Sto):Sto:=.scr SCI ns :: .list (ws.map .str) :: .list [.int ((text.length - rr.length:Nat):Int)] :: .list (dgs W) :: .lex text 2 (1+cnt text - cnt rr) 3 :: own2 z rd τ
theorem sto_cons {m:Nat} {o:O} (ho:o.low m=true) (h:stoLow m τ=true):stoLow m (o :: τ)=true:=Bool.and_eq_true_iff.mpr ⟨ho,h⟩
theorem sr_low (h:stoLow 17 τ=true):Low (SR ns ws text rr W z rd τ):=by
 have hd {a b:Nat} {t:List Nat} {l:Int} (h:a < 17∧b < 17):(O.lex t a l b).low (τ.length+17)=true:=Bool.and_eq_true_iff.mpr ⟨decide_eq_true (Nat.lt_of_lt_of_le h.1 (Nat.le_add_left ..)),decide_eq_true (Nat.lt_of_lt_of_le h.2 (Nat.le_add_left ..))⟩
 have ht:stoLow (τ.length+17) τ=true:=List.all_eq_true.mpr fun o ho=>olow_up (Nat.le_add_left ..) (List.all_eq_true.mp h o ho)
 show stoLow (τ.length+17) (_ :: _)=true
 exact sto_cons rfl (sto_cons (lowL_map fun ζ=>rfl) (sto_cons rfl (sto_cons (lowL_map fun ζ=>rfl) (sto_cons (hd (by decide)) (sto_cons rfl (sto_cons rfl (sto_cons rfl (sto_cons rfl (sto_cons rfl (sto_cons (hd (by decide)) (sto_cons rfl (sto_cons (hd (by decide)) (sto_cons rfl (sto_cons (hd (by decide)) (sto_cons rfl (sto_cons (hd (by decide)) ht))))))))))))))))
theorem sr_lx {x pa pb:Nat} (h:stoLow 17 τ=true) (hx:x < 17∧pa < 17∧pb < 17) (hn:pa≠x∧pa≠pb∧x≠pb):Lx x pa pb (SR ns ws text rr W z rd τ) :=
 have hk {a:Nat} (h:a < 17):a < (SR ns ws text rr W z rd τ).length:=Nat.lt_of_lt_of_le h (Nat.le_add_left 17 τ.length)
 ⟨sr_low h,hk hx.1,hk hx.2.1,hk hx.2.2,hn.1,hn.2.1,hn.2.2⟩
theorem sr_main:SR ns ws text rr W z rd τ=atR text 4 2 3 (SR ns ws text [] W z rd τ) rr:=rfl
theorem main_lx (h:stoLow 17 τ=true):Lx 4 2 3 (SR ns ws text rr W z rd τ):=sr_lx h (by decide) (by decide)
theorem q_pop (h:stoLow 17 τ=true):phi TT (n+1) i_get_token [.ref 4] (SR ns ws text rr (k :: W) z rd τ)=some (.str [48+k],SR ns ws text rr W z rd τ):=by
 rw [sr_main,sr_main (W:=W)]
 exact x_pop (main_lx h) rfl rfl
theorem q_push (h:stoLow 17 τ=true) (hl:W.length < 1000):phi TT (n+1) i_push_token [.ref 4,.str [48+k]] (SR ns ws text rr W z rd τ)=some (.none,SR ns ws text rr (W++[k]) z rd τ):=by
 rw [sr_main,sr_main (W:=W++[k])]
 have e:dgs (W++[k])=dgs W++[.str [48+k]]:=List.map_append
 rw [x_push (main_lx h) rfl (by unfold maxLen; rw [List.length_map]; (first | lia | omega)),← e]; rfl
theorem q_dot (h:stoLow 17 τ=true) (hd:dot <:+ text):phi TT (n+3) i_get_token [.ref 4] (SR ns ws text dot [] z rd τ)=some (.str [46],SR ns ws text [] [] z rd τ):=by
 rw [sr_main,sr_main (rr:=[])]
 exact x_dot (main_lx h) hd rfl
theorem q_end (h:stoLow 17 τ=true):phi TT (n+3) i_get_token [.ref 4] (SR ns ws text [] [] z rd τ)=some (.str [],SR ns ws text [] [] z rd τ):=by
 rw [sr_main (rr:=[])]
 exact x_end (main_lx h) rfl
theorem own_at {i:Nat} (hk:k < 4):SR ns ws text rr W z (GS.up rd k i) τ=atR (wT (z k)) (10+2*k) (5+k) (9+2*k) (SR ns ws text rr W z rd τ) (rst (z k) i):=by
 have h:k=0∨k=1∨k=2∨k=3:=by (first | lia | omega)
 rcases h with rfl | rfl | rfl | rfl <;> rfl
set_option tactic.hygienic true in
theorem up_same {α:Type} {f:Nat→α} {i:Nat}:GS.up f i (f i)=f:=funext fun j=>by
 unfold GS.up
 split
 ·rename_i h; rw [h]
 ·rfl
theorem own_lx (h:stoLow 17 τ=true) (hk:k < 4):Lx (10+2*k) (5+k) (9+2*k) (SR ns ws text rr W z rd τ):=sr_lx h (by (first | lia | omega)) (by (first | lia | omega))
theorem own_none (hk:k < 4):vlist (SR ns ws text rr W z rd τ) (9+2*k)=some []:=by
 have h:k=0∨k=1∨k=2∨k=3:=by (first | lia | omega)
 rcases h with rfl | rfl | rfl | rfl <;> rfl
theorem own_word (h:stoLow 17 τ=true) (hk:k < 4) (hr:rd k < 3):phi TT (n+3) i_get_token [.ref (10+2*k)] (SR ns ws text rr W z rd τ)=some (.str [nmC (qR (z k)) (rd k)],SR ns ws text rr W z (GS.up rd k (rd k+1)) τ):=by
 have hw:=(pc2_word (r:=z k) hr).1
 have hs:pc2 (z k) (rd k)++rst (z k) (rd k+1) <:+ wT (z k):=rst_next (r:=z k) hr▸rst_suf (Nat.le_of_lt hr)
 have hl:(wT (z k)).length≤900000:=Nat.le_trans wT_len (by decide)
 have e:=x_word (n:=n) (own_lx (ns:=ns) (ws:=ws) (text:=text) (rr:=rr) (W:=W) (z:=z) (rd:=rd) h hk) hw hs hl (own_none hk)
 rw [← rst_next (r:=z k) hr,← own_at (i:=rd k) hk,← own_at (i:=rd k+1) hk,up_same] at e
 exact e
theorem own_end (h:stoLow 17 τ=true) (hk:k < 4) (hr:rd k=3):phi TT (n+3) i_get_token [.ref (10+2*k)] (SR ns ws text rr W z rd τ)=some (.str [],SR ns ws text rr W z rd τ):=by
 have e:=x_end (n:=n) (text:=wT (z k)) (own_lx (ns:=ns) (ws:=ws) (text:=text) (rr:=rr) (W:=W) (z:=z) (rd:=rd) h hk) (own_none hk)
 have e0:=own_at (ns:=ns) (ws:=ws) (text:=text) (rr:=rr) (W:=W) (z:=z) (rd:=rd) (τ:=τ) (i:=3) hk
 rw [show rst (z k) 3=[] from rfl] at e0
 have e1:GS.up rd k 3=rd:=hr▸up_same
 rw [← e0,e1] at e
 exact e
end
end Mine
namespace Mine
open PySem PySem.W GS
section
variable {Φ:Calls} {Λ:Lexer} {G:Nat→Option V} {loc:Loc} {σ σ1:Sto} {p:Pos} {a b d:E} {r:V × Sto}
theorem r_yes (ht:evT Φ Λ G a loc σ=some (true,σ1)) (h:evM Φ Λ G b false loc σ1=some r):evM Φ Λ G (.ife a b d p) false loc σ=some r:=r_ife ht h
theorem r_no (ht:evT Φ Λ G a loc σ=some (false,σ1)) (h:evM Φ Λ G d false loc σ1=some r):evM Φ Λ G (.ife a b d p) false loc σ=some r:=r_ife ht h
end
section
variable {n k c o m:Nat} {σ τ:Sto} {ns:List Int} {ws:List (List Nat)} {text rr W P G:List Nat} {z:Nat→Int} {r:Nat→Nat} {H:Nat→Option Nat} {ms:Nat→Nat} {rk:Nat→Nat→Nat}
noncomputable def cls (x:Nat):Nat:=if x=117 then 0 else if x=103 then 1 else 2
noncomputable def pfZ (z:Nat→Int) (k i:Nat):Nat:=cls (nmC (qR (z k)) i)
noncomputable def likeF (ms:Nat→Nat) (c k:Nat):Int:=((16*bits3 (ms k) c:Nat):Int) - (k:Nat)
theorem cls_at:∀ q < 6,∀ i < 3,subAt [nmC q i] [117,103,111] 0=some (cls (nmC q i)):=by decide
noncomputable abbrev hV (o:Option Nat):V:=match o with
 | none=>.none
 | some k=>.int (k:Nat)
noncomputable abbrev hO (H:Nat→Option Nat):O:=.list [hV (H 0),hV (H 1),hV (H 2)]
noncomputable abbrev rowsV (ms:Nat→Nat):V:=.lst ((List.range 4).map fun k=>.str (fmode (ms k:Int)))
noncomputable abbrev ownV:V:=.lst ((List.range 4).map fun k=>.ref (10+2*k))
noncomputable abbrev RS (ns:List Int) (ws:List (List Nat)) (text rr W:List Nat) (z:Nat→Int) (r:Nat→Nat) (H:Nat→Option Nat) (P G:List Nat):Sto:=SR ns ws text rr W z r [hO H,.list (dgs P),.list (dgs G)]
noncomputable abbrev rL (ov:V) (ms:Nat→Nat) (wd:V) (k a b d e:Option V):Loc:=[some (.ref 4),some ov,some ownV,some (rowsV ms),some (.ref 17),k,some (.ref 18),some wd,some (.ref 19),a,b,d,e,none,none]
noncomputable abbrev rnW:S:=b__law_run.get 5
noncomputable abbrev rnA:SL:=(rnW.a.get 3).a
noncomputable abbrev rnB:SL:=(rnA.get 2).b
noncomputable abbrev ev2 (n:Nat) (s:S) (l:Loc) (σ:Sto):Option (Fl × Loc × Sto):=evS (phi TT n) (lamN TT n) TT.G s l σ
theorem c_int (h:k < 10):callT .int [.str [48+k]] σ=some (.int (k:Nat),σ):=by
 show (if [].isEmpty=true∧48≤48+k∧48+k < 58 then some (V.int (((48+k:Nat):Int) - 48)) else none).map _=_
 rw [if_pos ⟨rfl,by (first | lia | omega),by (first | lia | omega)⟩,show ((48+k:Nat):Int) - 48=(k:Int) by (first | lia | omega)]; rfl
theorem c_str (h:k < 10):callT .str [.int (k:Nat)] σ=some (.str [48+k],σ):=by
 show (if 0≤(k:Int)∧(k:Int) < 10 then some (V.str [48+(k:Int).toNat]) else none).map _=_
 rw [if_pos ⟨by (first | lia | omega),by (first | lia | omega)⟩]; rfl
theorem pick_last {xs:List V} {v:V}:pick (xs++[v]) (-1)=some v:=by
 unfold pick idx
 rw [if_neg (by decide),if_pos (by rw [List.length_append]; show -((xs.length+1:Nat):Int)≤-1; (first | lia | omega)),show (-1+(((xs++[v]).length:Nat):Int)).toNat=xs.length by rw [List.length_append]; show (-1+((xs.length+1:Nat):Int)).toNat=_; (first | lia | omega)]
 show (xs++[v])[xs.length]?=_
 rw [List.getElem?_append_right (Nat.le_refl _),Nat.sub_self]; rfl
theorem sub_last {xs:List V} {v:V} {i:Nat} (h:vlist σ i=some (xs++[v])):subV (.ref i) (.int (-1)) σ=some v:=by
 show orO ((vlist σ i).bind fun xs=>pick xs (-1)) _=_
 rw [h]
 show orO (pick (xs++[v]) (-1)) _=_
 rw [pick_last]; rfl
theorem sub_held (hc:c < 3):subV (.ref 17) (.int (c:Nat)) (RS ns ws text rr W z r H P G)=some (hV (H c)):=by
 have h:c=0∨c=1∨c=2:=by (first | lia | omega)
 rcases h with rfl | rfl | rfl <;> rfl
theorem set_held (hc:c < 3):setV (.ref 17) (.int (c:Nat)) (.int (k:Nat)) (RS ns ws text rr W z r H P G)=some (RS ns ws text rr W z r (GS.up H c (some k)) P G):=by
 have h:c=0∨c=1∨c=2:=by (first | lia | omega)
 rcases h with rfl | rfl | rfl <;> rfl
theorem recv_own (hk:k < 4):recv (RS ns ws text rr W z r H P G) (.ref (10+2*k))=some 2:=by
 have h:k=0∨k=1∨k=2∨k=3:=by (first | lia | omega)
 rcases h with rfl | rfl | rfl | rfl <;> rfl
theorem nq_str {s u:List Nat}:cmpop .NotEq (.str s) (.str u) σ=some (!(s==u)):=rfl
theorem tau_low:stoLow 17 [hO H,O.list (dgs P),O.list (dgs G)]=true:=by
 have h (o:Option Nat):(hV o).low 17=true:=by cases o <;> rfl
 refine sto_cons ?_ (sto_cons (lowL_map fun ζ=>rfl) (sto_cons (lowL_map fun ζ=>rfl) rfl))
 exact Bool.and_eq_true_iff.mpr ⟨h _,Bool.and_eq_true_iff.mpr ⟨h _,Bool.and_eq_true_iff.mpr ⟨h _,rfl⟩⟩⟩
theorem dgs_snoc:dgs G++[.str [48+k]]=dgs (G++[k]):=(List.map_append (l₂:=[k])).symm
theorem rn_worth (hc:c < 3) (hk:k < 4) (ho:o < 4) {ov wd a:V}:evM (phi TT (n+1)) (lamN TT (n+1)) TT.G (partE (rnB.get 0)) false (rL ov ms wd (some (.int (k:Nat))) (some a) (some (.int (c:Nat))) (some (.int (o:Nat))) none) σ=some (.lst [.int (likeF ms c k),.int (likeF ms c o)],σ):=by
 refine r_mapl (xs:=[k,o]) (f:=fun j=>.int (j:Nat)) (g:=fun j=>.int (likeF ms c j)) (r_tup (r_two (r_var rfl) (r_var rfl))) rfl (show 2≤maxLen by decide) fun j hj=>⟨_,rfl,r_bin (r_bin r_int (r_fn rfl (r_two (r_sub (r_var rfl) (r_var rfl) (sub_lst (rng_at (f:=fun k=>V.str (fmode (ms k:Int))) ?_))) (r_var rfl)) (x_by_row hc)) (o_mulN (a:=16) ?_ rfl)) (r_var rfl) rfl⟩
 ·rcases List.mem_cons.mp hj with rfl | hj
  ·exact hk
  ·rw [List.mem_singleton.mp hj]; exact ho
 ·unfold bits3
  have h (b:Bool):b.toNat≤1:=by cases b <;> decide
  have h1:=h (bitB (ms j) (8 - 3*c))
  have h2:=h (bitB (ms j) (7 - 3*c))
  have h3:=h (bitB (ms j) (6 - 3*c))
  have h4:=h (bitB (ms j) (11 - c))
  (first | lia | omega)
theorem rn_push {x:Nat} (hx:x < 10) (hl:(G++W).length < 1000) {l:Loc} (h6:l[6]?=some (some (.ref 18))) (h0:l[0]?=some (some (.ref 4))) (he:evM (phi TT (n+1)) (lamN TT (n+1)) TT.G (match partE (rnB.get 2) with | .meth _ _ (.cons (.call _ _ (.cons e _) _) _) _ _=>e | _=>.raw default) false l (RS ns ws text rr W z r H (G++W) G)=some (.int (x:Nat),RS ns ws text rr W z r H (G++W) G)) :
  evSL (phi TT (n+1)) (lamN TT (n+1)) TT.G (.cons (rnB.get 2) (.cons (rnB.get 3) .nil)) l (RS ns ws text rr W z r H (G++W) G)=some (.next,l,RS ns ws text rr (W++[x]) z r H (G++(W++[x])) G):=by
 have e:dgs (G++W)++[.str [48+x]]=dgs (G++(W++[x])):=by rw [dgs_snoc,List.append_assoc]
 have s2:ev2 (n+1) (rnB.get 2) l (RS ns ws text rr W z r H (G++W) G)=some (.next,l,RS ns ws text rr W z r H (G++(W++[x])) G):=by
  rw [show RS ns ws text rr W z r H (G++(W++[x])) G=(RS ns ws text rr W z r H (G++W) G).set 18 (.list (dgs (G++W)++[.str [48+x]])) by rw [e]; rfl]
  exact s_append h6 (r_ty rfl (r_one he) (c_str hx)) rfl (by rw [List.length_map]; exact Nat.lt_trans hl (by decide))
 have hw:W.length < 1000:=Nat.lt_of_le_of_lt (by rw [List.length_append]; exact Nat.le_add_left ..) hl
 have h18:vlist (RS ns ws text rr W z r H (G++(W++[x])) G) 18=some (dgs (G++W)++[.str [48+x]]):=congrArg some e.symm
 exact l_cons s2 (l_one (s_expr (r_meth (x:=.ref 4) (k:=2) (r_var h0) rfl (r_one (r_sub (r_var h6) (r_neg r_int) (sub_last h18))) (q_push tau_low hw))))
theorem rn_ask (hk:k < 4) (hr:r k≤3) (hH:∀ c o,H c=some o→o < 4∧o≠k) (hl:(G++W).length < 1000) {ov wd:V} {s':St} (hs:ask (pfZ z) (likeF ms) k ⟨H,r,W⟩=s') :
  ∃ a b d e,∀ R,evSL (phi TT (n+3)) (lamN TT (n+3)) TT.G (.cons (rnW.a.get 2) (.cons (rnW.a.get 3) R)) (rL ov ms wd (some (.int (k:Nat))) none none none none) (RS ns ws text rr W z r H (G++W) G)=evSL (phi TT (n+3)) (lamN TT (n+3)) TT.G R (rL ov ms wd (some (.int (k:Nat))) a b d e) (RS ns ws text rr s'.W z s'.r s'.H (G++s'.W) G):=by
 have hown:evM (phi TT (n+3)) (lamN TT (n+3)) TT.G (match partE (rnW.a.get 2) with | .meth o _ _ _ _=>o | _=>.raw default) false (rL ov ms wd (some (.int (k:Nat))) none none none none) (RS ns ws text rr W z r H (G++W) G)=some (.ref (10+2*k),RS ns ws text rr W z r H (G++W) G) :=
  r_sub (r_var rfl) (r_var rfl) (sub_lst (rng_at (f:=fun k=>V.ref (10+2*k)) hk))
 rcases Nat.lt_or_ge (r k) 3 with h3 | h3
 ·have s2:ev2 (n+3) (rnW.a.get 2) (rL ov ms wd (some (.int (k:Nat))) none none none none) (RS ns ws text rr W z r H (G++W) G)=some (.next,rL ov ms wd (some (.int (k:Nat))) (some (.str [nmC (qR (z k)) (r k)])) none none none,RS ns ws text rr W z (GS.up r k (r k+1)) H (G++W) G) :=
   s_assign (r_meth hown (recv_own hk) r_nil (own_word tau_low hk h3)) rfl
  have hc:pfZ z k (r k) < 3:=by
   unfold pfZ cls
   split
   ·decide
   ·split <;> decide
  have h0:subAt [nmC (qR (z k)) (r k)] [117,103,111] 0=some (pfZ z k (r k)):=cls_at _ (qR_is (z k)).2 _ h3
  have e:s'=(match H (pfZ z k (r k)) with
   | none=>⟨GS.up H (pfZ z k (r k)) (some k),GS.up r k (r k+1),W⟩
   | some o=>if likeF ms (pfZ z k (r k)) k > likeF ms (pfZ z k (r k)) o then ⟨GS.up H (pfZ z k (r k)) (some k),GS.up r k (r k+1),W++[o]⟩ else ⟨H,GS.up r k (r k+1),W++[k]⟩):=hs.symm.trans (if_pos h3)
  clear hown
  generalize pfZ z k (r k)=c at hc h0 e
  generalize GS.up r k (r k+1)=r' at s2 e
  generalize nmC (qR (z k)) (r k)=x at s2 h0
  clear hs
  have b2:evM (phi TT (n+3)) (lamN TT (n+3)) TT.G (partE (rnA.get 0)) false (rL ov ms wd (some (.int (k:Nat))) (some (.str [x])) none none none) (RS ns ws text rr W z r' H (G++W) G)=some (.int (c:Nat),RS ns ws text rr W z r' H (G++W) G):=r_meth r_str rfl (r_one (r_var rfl)) (m_at h0)
  have b3:evM (phi TT (n+3)) (lamN TT (n+3)) TT.G (partE (rnA.get 1)) false (rL ov ms wd (some (.int (k:Nat))) (some (.str [x])) (some (.int (c:Nat))) none none) (RS ns ws text rr W z r' H (G++W) G)=some (hV (H c),RS ns ws text rr W z r' H (G++W) G):=r_sub (r_var rfl) (r_var rfl) (sub_held hc)
  have hb:evT (phi TT (n+3)) (lamN TT (n+3)) TT.G (partE (rnW.a.get 3)) (rL ov ms wd (some (.int (k:Nat))) (some (.str [x])) none none none) (RS ns ws text rr W z r' H (G++W) G)=some (true,RS ns ws text rr W z r' H (G++W) G):=t_cmp (r_var rfl) r_str nq_str
  cases ho:H c with
  | none =>
   rw [ho] at e b3
   have e:s'=⟨GS.up H c (some k),r',W⟩:=e
   rw [e]
   exact ⟨_,_,_,_,fun R=>l_cons s2 (l_cons (s_yes hb (l_cons (s_assign b2 rfl) (l_cons (s_assign b3 rfl) (l_one (s_yes (t_cmp (r_var rfl) rfl rfl) (l_one (s_put (r_var rfl) (r_var rfl) (r_var rfl) (set_held hc)))))))) rfl)⟩
  | some o =>
   have ho4:=hH c o ho
   rw [ho] at e b3
   have hw {d:V}:=rn_worth (n:=n+2) (σ:=RS ns ws text rr W z r' H (G++W) G) (ms:=ms) (ov:=ov) (wd:=wd) (a:=d) hc hk ho4.1
   have e:s'=if likeF ms c k > likeF ms c o then ⟨GS.up H c (some k),r',W++[o]⟩ else ⟨H,r',W++[k]⟩:=e
   by_cases hg:likeF ms c k > likeF ms c o
   ·rw [if_pos hg] at e
    rw [e]
    have b5:evM (phi TT (n+3)) (lamN TT (n+3)) TT.G (match rnB.get 1 with | .assignSub _ _ _ e _=>e | _=>.raw default) false (rL ov ms wd (some (.int (k:Nat))) (some (.str [x])) (some (.int (c:Nat))) (some (.int (o:Nat))) (some (.lst [.int (likeF ms c k),.int (likeF ms c o)]))) (RS ns ws text rr W z r' H (G++W) G)=some (.int (k:Nat),RS ns ws text rr W z r' H (G++W) G):=r_yes (t_cmp (r_at rfl rfl) (r_at rfl rfl) (gt_int.trans (congrArg some (decide_eq_true hg)))) (r_var rfl)
    refine ⟨_,_,_,_,fun R=>l_cons s2 (l_cons (s_yes hb (l_cons (s_assign b2 rfl) (l_cons (s_assign b3 rfl) (l_one (s_no (t_cmp (r_var rfl) rfl rfl) (l_cons (s_assign hw rfl) (l_cons (s_put b5 (r_var rfl) (r_var rfl) (set_held hc)) (rn_push (n:=n+2) (Nat.lt_trans ho4.1 (by decide)) hl rfl rfl ?_)))))))) rfl)⟩
    exact r_yes (t_cmp (r_sub (r_var rfl) (r_var rfl) ((sub_held hc).trans (congrArg (fun o=>some (hV o)) GS.up_s))) (r_var rfl) (q_int (beq_self_eq_true _))) (r_var rfl)
   ·rw [if_neg hg] at e
    rw [e]
    have hs:setV (.ref 17) (.int (c:Nat)) (.int (o:Nat)) (RS ns ws text rr W z r' H (G++W) G)=some (RS ns ws text rr W z r' H (G++W) G):=by rw [set_held hc,← ho,up_same]
    have b5:evM (phi TT (n+3)) (lamN TT (n+3)) TT.G (match rnB.get 1 with | .assignSub _ _ _ e _=>e | _=>.raw default) false (rL ov ms wd (some (.int (k:Nat))) (some (.str [x])) (some (.int (c:Nat))) (some (.int (o:Nat))) (some (.lst [.int (likeF ms c k),.int (likeF ms c o)]))) (RS ns ws text rr W z r' H (G++W) G)=some (.int (o:Nat),RS ns ws text rr W z r' H (G++W) G):=r_no (t_cmp (r_at rfl rfl) (r_at rfl rfl) (gt_int.trans (congrArg some (decide_eq_false hg)))) (r_var rfl)
    refine ⟨_,_,_,_,fun R=>l_cons s2 (l_cons (s_yes hb (l_cons (s_assign b2 rfl) (l_cons (s_assign b3 rfl) (l_one (s_no (t_cmp (r_var rfl) rfl rfl) (l_cons (s_assign hw rfl) (l_cons (s_put b5 (r_var rfl) (r_var rfl) hs) (rn_push (n:=n+2) (Nat.lt_trans hk (by decide)) hl rfl rfl ?_)))))))) rfl)⟩
    exact r_no (t_cmp (r_sub (r_var rfl) (r_var rfl) ((sub_held hc).trans (congrArg (fun o=>some (hV o)) ho))) (r_var rfl) (q_int (cast_beq.trans (beq_false_of_ne ho4.2)))) (r_var rfl)
 ·have e:s'=⟨H,r,W⟩:=hs.symm.trans (if_neg (Nat.not_lt_of_le h3))
  rw [e]
  exact ⟨_,_,_,_,fun R=>l_cons (s_assign (r_meth hown (recv_own hk) r_nil (own_end tau_low hk (Nat.le_antisymm hr h3))) rfl) (l_cons (s_no (t_cmp (r_var rfl) r_str nq_str) rfl) rfl)⟩
noncomputable def rnX (ns:List Int) (ws:List (List Nat)) (text:List Nat) (z:Nat→Int) (G:List Nat) (s:St):V × Sto:=match s.W with
 | []=>(.str [46],RS ns ws text [] [] z s.r s.H G G)
 | k :: W=>(.str [48+k],RS ns ws text dot W z s.r s.H (G++k :: W) G)
theorem rn_get (hd:dot <:+ text) {s:St}:phi TT (n+3) i_get_token [.ref 4] (RS ns ws text dot s.W z s.r s.H (G++s.W) G)=some (rnX ns ws text z G s):=by
 obtain ⟨H,r,W⟩:=s
 show phi TT (n+3) i_get_token [.ref 4] (RS ns ws text dot W z r H (G++W) G)=_
 unfold rnX
 cases W with
 | nil =>
  rw [List.append_nil]
  exact q_dot tau_low hd
 | cons k W=>exact q_pop tau_low
theorem dg_word (h:k < 4):cmpop .NotIn (.str [48+k]) (.tup [.str [],.str [46]]) σ=some true :=
 word_in rfl (by rw [List.cons_beq_cons,beq_false_of_ne (show 46≠48+k by (first | lia | omega))]; rfl)
theorem rn_turn (hd:dot <:+ text) (hk:k < 4) (hr:r k≤3) (hH:∀ c o,H c=some o→o < 4∧o≠k) (hl:(G++k :: W).length < 1000) {ov:V} {s':St} (hs:ask (pfZ z) (likeF ms) k ⟨H,r,W⟩=s') :
  ∃ l3,evSL (phi TT (n+3)) (lamN TT (n+3)) TT.G rnW.a (rL ov ms (.str [48+k]) none none none none none) (RS ns ws text dot W z r H (G++k :: W) G)=some (.next,l3,(rnX ns ws text z (G++[k]) s').2)∧clear [5,9,10,11,12] l3=rL ov ms (rnX ns ws text z (G++[k]) s').1 none none none none none:=by
 have e1:G++k :: W=(G++[k])++W:=by rw [List.append_assoc]; rfl
 have hg:G.length < maxLen:=by
  rw [List.length_append] at hl
  unfold maxLen; (first | lia | omega)
 rw [e1] at hl ⊢
 obtain ⟨a,b,d,e,hR⟩:=rn_ask (n:=n) (ns:=ns) (ws:=ws) (text:=text) (rr:=dot) (ov:=ov) (wd:=.str [48+k]) hk hr hH hl hs
 have s0:ev2 (n+3) (rnW.a.get 0) (rL ov ms (.str [48+k]) none none none none none) (RS ns ws text dot W z r H (G++[k]++W) G)=some (.next,rL ov ms (.str [48+k]) none none none none none,RS ns ws text dot W z r H (G++[k]++W) (G++[k])):=by
  rw [show RS ns ws text dot W z r H (G++[k]++W) (G++[k])=(RS ns ws text dot W z r H (G++[k]++W) G).set 19 (.list (dgs G++[.str [48+k]])) by rw [dgs_snoc]; rfl]
  exact s_append rfl (r_var rfl) rfl (by rw [List.length_map]; exact hg)
 have s1:ev2 (n+3) (rnW.a.get 1) (rL ov ms (.str [48+k]) none none none none none) (RS ns ws text dot W z r H (G++[k]++W) (G++[k]))=some (.next,rL ov ms (.str [48+k]) (some (.int (k:Nat))) none none none none,RS ns ws text dot W z r H (G++[k]++W) (G++[k])):=s_assign (r_ty rfl (r_one (r_var rfl)) (c_int (Nat.lt_trans hk (by decide)))) rfl
 have s4:ev2 (n+3) (rnW.a.get 4) (rL ov ms (.str [48+k]) (some (.int (k:Nat))) a b d e) (RS ns ws text dot s'.W z s'.r s'.H (G++[k]++s'.W) (G++[k]))=some (.next,rL ov ms (rnX ns ws text z (G++[k]) s').1 (some (.int (k:Nat))) a b d e,(rnX ns ws text z (G++[k]) s').2):=s_assign (r_meth (x:=.ref 4) (k:=2) (r_var rfl) rfl r_nil (rn_get hd)) rfl
 exact ⟨_,l_cons s0 (l_cons s1 ((hR _).trans (l_one s4))),rfl⟩
theorem rn_whl (hd:dot <:+ text) (Q:Pf (pfZ z) rk (likeF ms)) {ov:V} {x:Nat}:∀ {f:Nat} {s s':St} {G:List Nat},run (pfZ z) (likeF ms) f s=some s'→GS.Inv (pfZ z) rk (likeF ms) s→(G++s.W).length+f < 900 →
  ∃ G',s'.W=[]∧whl (phi TT (n+3)) (lamN TT (n+3)) TT.G (partE rnW) [5,9,10,11,12] rnW.a (x+f) (rL ov ms (rnX ns ws text z G s).1 none none none none none) (rnX ns ws text z G s).2=some (.next,rL ov ms (.str [46]) none none none none none,RS ns ws text [] [] z s'.r s'.H G' G')
 | 0,_,_,_,h,_,_=>nomatch h
 | f+1,⟨H,r,[]⟩,s',G,h,_,_=>by
  have h:some (⟨H,r,[]⟩:St)=some s':=h
  cases h
  exact ⟨G,rfl,w_stop (t_cmp (r_var rfl) (r_tup (r_two r_str r_str)) rfl)⟩
 | f+1,⟨H,r,k :: W⟩,s',G,h,I,hl=>by
  have h:run (pfZ z) (likeF ms) f (ask (pfZ z) (likeF ms) k ⟨H,r,W⟩)=some s':=h
  have hl:(G++k :: W).length+(f+1) < 900:=hl
  have hk:=(I.wt k (.head _)).1
  have e1:G++k :: W=(G++[k])++W:=by rw [List.append_assoc]; rfl
  have hlen:(ask (pfZ z) (likeF ms) k ⟨H,r,W⟩).W.length≤W.length+1:=by
   rcases ask_is (pf:=pfZ z) (L:=likeF ms) (k:=k) (H:=H) (r:=r) (W:=W) with ⟨_,e⟩ | ⟨_,H',W',e,hw⟩
   ·rw [e]; exact Nat.le_succ _
   ·rw [e]; exact hw
  obtain ⟨G',h0,ih⟩:=rn_whl hd Q (ov:=ov) (x:=x) (G:=G++[k]) h (inv_ask Q I) (by
   rw [List.length_append,List.length_cons] at hl
   rw [List.length_append,List.length_append,List.length_singleton]; (first | lia | omega))
  obtain ⟨l3,h3,hc⟩:=rn_turn (n:=n) (ns:=ns) (ws:=ws) (G:=G) (W:=W) (ov:=ov) hd hk (I.r3 k) (fun c o ho=>⟨(I.held c o ho).2.1,fun e=>(I.wt k (.head _)).2 c (e▸ho)⟩) (Nat.lt_trans (Nat.lt_of_le_of_lt (Nat.le_add_right ..) hl) (by decide)) (rfl:ask (pfZ z) (likeF ms) k ⟨H,r,W⟩=_)
  exact ⟨G',h0,w_turn (t_cmp (r_var rfl) (r_tup (r_two r_str r_str)) (dg_word hk)) h3 hc ih⟩
end
end Mine
namespace Mine
open PySem PySem.W GS
section
variable {n k:Nat} {σ:Sto} {ns:List Int} {ws:List (List Nat)} {text W P G:List Nat} {z:Nat→Int} {r:Nat→Nat} {H:Nat→Option Nat} {ms:Nat→Nat} {rk:Nat→Nat→Nat}
noncomputable abbrev rnL:S:=b__law_run.get 2
noncomputable abbrev r0 (W:List Nat) (ms:Nat→Nat) (h p:Option V):Loc:=[some (.ref 4),some (.lst (nts W)),some ownV,some (rowsV ms),h,none,p,none,none,none,none,none,none,none,none]
noncomputable abbrev nO:Nat→Option Nat:=fun ζ=>none
noncomputable abbrev n0:Nat→Nat:=fun ζ=>0
noncomputable abbrev QS (ns:List Int) (ws:List (List Nat)) (text W:List Nat) (z:Nat→Int) (P:List Nat):Sto:=SR ns ws text dot W z n0 [hO nO,.list (dgs P)]
theorem qs_low:stoLow 17 [hO nO,O.list (dgs P)]=true:=sto_cons rfl (sto_cons (lowL_map fun ζ=>rfl) rfl)
theorem dgs_len:(dgs P).length=P.length:=List.length_map ..
theorem rn_puts (hP:P.length≤4):∀ (m k:Nat),P.length=k+m→iterate (loopStep (phi TT (n+1)) (lamN TT (n+1)) TT.G [7] rnL.t rnL.a) (.live 18) m k (Fl.next,r0 W ms (some (.ref 17)) (some (.ref 18))) (QS ns ws text (P.take k) z P)=some (true,(Fl.next,r0 W ms (some (.ref 17)) (some (.ref 18))),QS ns ws text P z P)
 | 0,k,h=>by
  have h:P.length=k:=h
  have e:nextAt (.live 18) k (QS ns ws text (P.take k) z P)=some none:=by
   show some (dgs P)[k]?=_
   rw [List.getElem?_eq_none (by rw [dgs_len,h]; exact Nat.le_refl _)]
  refine (bnd e rfl).trans ?_
  rw [List.take_of_length_le (Nat.le_of_eq h)]; rfl
 | m+1,k,h=>by
  have hk:k < P.length:=by (first | lia | omega)
  have e:nextAt (.live 18) k (QS ns ws text (P.take k) z P)=some (some (.str [48+P[k]])):=by
   show some (dgs P)[k]?=_
   rw [List.getElem?_map,List.getElem?_eq_getElem hk]; rfl
  have hp:=q_push (n:=n) (k:=P[k]) (ns:=ns) (ws:=ws) (text:=text) (rr:=dot) (z:=z) (rd:=n0) (W:=P.take k) (qs_low (P:=P)) (by rw [List.length_take]; (first | lia | omega))
  rw [← List.take_succ_eq_append_getElem hk] at hp
  exact bnd e (bnd (u_next (t:=rnL.t) rfl (l_one (s_expr (r_meth (x:=.ref 4) (k:=2) (r_var rfl) rfl (r_one (r_var rfl)) hp))) rfl) (rn_puts hP m (k+1) (by (first | lia | omega))))
theorem leave_tup {fz:Bool} {m:Nat} {vs:List V} (h:V.low m (.tup vs)=false):leave fz m (.tup vs) σ=(.tup vs,σ):=by
 unfold leave
 rw [h]
 split <;> rfl
theorem dgs_inj:eqL (dgs G) (dgs G)=some true:=by
 rw [show dgs G=(G.map fun k=>[48+k]).map .str by rw [List.map_map]; rfl,eqL_strs]
theorem x_run (hd:dot <:+ text) (Q:Pf (pfZ z) rk (likeF ms)) (hW:∀ k∈W,k < 4) (hn:W.Nodup) (ha:∀ k < 4,k∈W) (hl:W.length≤4) (hr:run (pfZ z) (likeF ms) 40 ⟨nO,n0,W⟩=some ⟨H,r,[]⟩) :
  ∃ G,phi TT (n+4) i__law_run [.ref 4,.lst (nts W),ownV,rowsV ms] (SR ns ws text dot [] z n0 [])=some (.tup [.ref 17,.bool true],RS ns ws text [] [] z r H G G):=by
 obtain ⟨G,_,hw⟩:=rn_whl (n:=n) (ns:=ns) (ws:=ws) (ov:=.lst (nts W)) (x:=999960) (G:=[]) hd Q hr (inv_0 hW hn ha) (by show W.length+40 < 900; (first | lia | omega))
 have hp:=rn_puts (n:=n+2) (W:=W) (ms:=ms) (ns:=ns) (ws:=ws) (text:=text) (z:=z) hl W.length 0 (Nat.zero_add _).symm
 have h0:evM (phi TT (n+3)) (lamN TT (n+3)) TT.G (partE (b__law_run.get 0)) false (r0 W ms none none) (SR ns ws text dot [] z n0 [])=some (.ref 17,SR ns ws text dot [] z n0 [hO nO]):=r_cell (σ1:=SR ns ws text dot [] z n0 []) (vs:=[.none,.none,.none]) rfl (show 3≤maxLen by decide)
 have h1:evM (phi TT (n+3)) (lamN TT (n+3)) TT.G (partE (b__law_run.get 1)) false (r0 W ms (some (.ref 17)) none) (SR ns ws text dot [] z n0 [hO nO])=some (.ref 18,QS ns ws text [] z W) :=
  r_map (k:=true) (xs:=W) (f:=fun k=>.int (k:Nat)) (g:=fun k=>.str [48+k]) (r_var rfl) rfl (Nat.le_trans hl (by decide)) fun k hk=>⟨_,rfl,r_ty rfl (r_one (r_var rfl)) (c_str (Nat.lt_trans (hW k hk) (by decide)))⟩
 have h2:evS (phi TT (n+3)) (lamN TT (n+3)) TT.G rnL (r0 W ms (some (.ref 17)) (some (.ref 18))) (QS ns ws text [] z W)=some (.next,r0 W ms (some (.ref 17)) (some (.ref 18)),QS ns ws text W z W):=by
  refine es_loop.trans (bnd (x:=(V.ref 18,QS ns ws text [] z W)) (r_var rfl) (bnd (x:=(It.live 18,W.length)) ?_ (bnd hp rfl)))
  show some (It.live 18,(dgs W).length)=_
  rw [dgs_len]
 have h3:evM (phi TT (n+3)) (lamN TT (n+3)) TT.G (partE (b__law_run.get 3)) false (r0 W ms (some (.ref 17)) (some (.ref 18))) (QS ns ws text W z W)=some (.ref 19,RS ns ws text dot W z n0 nO W []):=r_cell (σ1:=QS ns ws text W z W) r_nil (by decide)
 have h4:phi TT (n+3) i_get_token [.ref 4] (RS ns ws text dot W z n0 nO W [])=some (rnX ns ws text z [] ⟨nO,n0,W⟩):=rn_get (G:=[]) (s:=⟨nO,n0,W⟩) hd
 have h6:cmpop .Eq (.ref 19) (.ref 18) (RS ns ws text [] [] z r H G G)=some true:=by
  show orO (if (dgs G).length=(dgs G).length then eqL (dgs G) (dgs G) else some false) _=_
  rw [if_pos rfl,dgs_inj]; rfl
 exact ⟨G,f_run (f:=f__law_run) rfl rfl rfl rfl (l_cons (s_assign h0 rfl) (l_cons (s_assign h1 rfl) (l_cons h2 (l_cons (s_assign h3 rfl) (l_cons (s_assign (r_meth (x:=.ref 4) (k:=2) (r_var rfl) rfl r_nil h4) rfl) (l_cons (s_whil hw) (l_one (s_ret (r_tup (r_two (r_var rfl) (r_cmp (r_var rfl) (r_var rfl) h6))))))))))) rfl (leave_tup rfl)⟩
end
end Mine
namespace Mine
open PySem PySem.W GS
section
variable {n k:Nat} {σ:Sto} {z:Nat→Int} {ms:Nat→Nat} {t:Int}
noncomputable def rkQ (q c:Nat):Nat:=if cls (nmC q 0)=c then 0 else if cls (nmC q 1)=c then 1 else 2
noncomputable abbrev rkZ (z:Nat→Int) (k c:Nat):Nat:=rkQ (qR (z k)) c
theorem rk_tab:∀ q < 6,(∀ i < 3,cls (nmC q i) < 3∧rkQ q (cls (nmC q i))=i)∧∀ c < 3,rkQ q c < 3∧cls (nmC q (rkQ q c))=c:=by decide
theorem pf_z:Pf (pfZ z) (rkZ z) (likeF ms) :=
 ⟨fun k ζ i hi=>(rk_tab _ (qR_is (z k)).2).1 i hi,fun k ζ c hc=>(rk_tab _ (qR_is (z k)).2).2 c hc,fun c ζ j hj k hk h=>by unfold likeF at h; (first | lia | omega)⟩
noncomputable abbrev cd (c:Nat):Nat:=[117,103,111].getD c 0
noncomputable def pos (w:List Nat) (c:Nat):Nat:=(subAt [cd c] w 0).getD 0
noncomputable abbrev srt (w:List Nat):List V:=(sortS [(pos w 0:Int),(pos w 1:Int),(pos w 2:Int)]).map .int
noncomputable abbrev w3 (q a b c:Nat):List Nat:=spell a (nmC q 0)++(spell b (nmC q 1)++(spell c (nmC q 2)++[]))
noncomputable def okW (w:List Nat) (q d:Nat):Bool:=subAt [cd d] w 0==some (pos w d)&&indexL (.int (pos w d:Nat)) (srt w)==some (rkQ q d)
theorem pos_tab:∀ q < 6,∀ a < 4,∀ b < 4,∀ c < 4,∀ d < 3,okW (w3 q a b c) q d=true:=by decide +kernel
theorem pos_is {r:Int} {d:Nat} (hd:d < 3):subAt [cd d] (wT r) 0=some (pos (wT r) d)∧indexL (.int (pos (wT r) d:Nat)) (srt (wT r))=some (rkQ (qR r) d) :=
 have h:=Bool.and_eq_true_iff.mp (pos_tab _ (qR_is r).2 _ (mR_is r 0).2 _ (mR_is r 1).2 _ (mR_is r 2).2 d hd)
 ⟨beq_iff_eq.mp h.1,beq_iff_eq.mp h.2⟩
theorem c_srt {w:List Nat}:callB .sorted [gridN (pos w) 3] σ=some (.lst (srt w),σ):=by
 show newList (srt w) σ=_
 refine if_pos ?_
 have h:∀ (x:Int) (l:List Int),(insS x l).length=l.length+1:=by
  intro x l
  induction l with
  | nil=>rfl
  | cons y l ih =>
   show (if x < y then x :: y :: l else y :: insS x l).length=_
   split
   ·rfl
   ·rw [List.length_cons,ih]; rfl
 rw [List.length_map]
 show (insS _ (insS _ (insS _ []))).length≤maxLen
 rw [h,h,h]
 decide
theorem bits_mod {m c:Nat} (hc:c < 3):bits3 (m % 4096) c=bits3 m c:=by
 have h (k:Nat) (hk:k < 12):bitB (m % 4096) k=bitB m k:=by
  have h (m:Nat):bitB m k=m.testBit k:=by rw [Nat.testBit_eq_decide_div_mod_eq]; rfl
  rw [h,h,show m % 4096=m % 2 ^ 12 from rfl,Nat.testBit_mod_two_pow,decide_eq_true hk,Bool.true_and]
 unfold bits3
 rw [h _ (by omega),h _ (by omega),h _ (by omega),h _ (by omega)]
noncomputable abbrev ordF (t:Int) (k:Nat):Nat:=((t+(k:Int)*(1+(t.fdiv 4).fmod 2*2)).fmod 4).toNat
noncomputable abbrev ordL (t:Int):List Nat:=(List.range 4).map (ordF t)
theorem ord_is:ordF t k=((t+(k:Int)*(1+(t.fdiv 4).fmod 2*2)).fmod 4).toNat∧(t+(k:Int)*(1+(t.fdiv 4).fmod 2*2)).fmod 4=(ordF t k:Int):=⟨rfl,(Int.toNat_of_nonneg (Int.fmod_nonneg_of_pos _ (by decide))).symm⟩
theorem ord_tab:∀ a < 4,∀ b < 2,(List.range 4).map (fun k=>(a+k*(1+b*2)) % 4)∈[[0,1,2,3],[1,2,3,0],[2,3,0,1],[3,0,1,2],[0,3,2,1],[1,0,3,2],[2,1,0,3],[3,2,1,0]]:=by decide
theorem ord_perm:(∀ k∈ordL t,k < 4)∧(ordL t).Nodup∧(∀ k < 4,k∈ordL t)∧(ordL t).length≤4:=by
 have ht:∀ l∈[[0,1,2,3],[1,2,3,0],[2,3,0,1],[3,0,1,2],[0,3,2,1],[1,0,3,2],[2,1,0,3],[3,2,1,0]],(∀ k∈l,k < 4)∧l.Nodup∧(∀ k < 4,k∈l)∧l.length≤4:=by decide
 have h (x m:Int) (hm:0 < m):∃ a:Nat,x.fmod m=(a:Int)∧(a:Int) < m:=⟨_,(Int.toNat_of_nonneg (Int.fmod_nonneg_of_pos x hm)).symm,(Int.toNat_of_nonneg (Int.fmod_nonneg_of_pos x hm)).symm▸Int.fmod_lt_of_pos x hm⟩
 obtain ⟨a,ea,ha⟩:=h t 4 (by decide)
 obtain ⟨b,eb,hb⟩:=h (t.fdiv 4) 2 (by decide)
 have e:ordL t=(List.range 4).map (fun k=>(a+k*(1+b*2)) % 4):=List.map_congr_left fun k ζ=>by
  show ((t+(k:Int)*(1+(t.fdiv 4).fmod 2*2)).fmod 4).toNat=_
  rw [eb,Int.fmod_eq_emod_of_nonneg _ (by decide),← Int.emod_add_emod,← Int.fmod_eq_emod_of_nonneg t (by decide),ea]; rfl
 rw [e]
 exact ht _ (ord_tab _ (Int.ofNat_lt.mp ha) _ (Int.ofNat_lt.mp hb))
end
end Mine
namespace Mine
open PySem PySem.W GS
section
variable {n k:Nat} {σ:Sto} {ns:List Int} {ws:List (List Nat)} {T:List Nat} {l:List Int} {x y z w:Int}
noncomputable abbrev zF (l:List Int) (k:Nat):Int:=(l.getD k 0).fdiv 65536
noncomputable abbrev mF (l:List Int) (k:Nat):Nat:=md (l.getD k 0)
noncomputable abbrev L4 (x y z w:Int):List Int:=[x,y,z,w]
noncomputable abbrev LA (l:List V):Loc:=some (.fn SCI) :: (l.map some++List.replicate (34 - l.length) none)
noncomputable abbrev evl (s:S) (l:Loc) (σ:Sto):Option (V × Sto):=evM (phi TT 11) (lamN TT 11) TT.G (partE s) false l σ
noncomputable abbrev tst (s:S) (l:Loc) (σ:Sto):Option (Bool × Sto):=evT (phi TT 11) (lamN TT 11) TT.G (partE s) l σ
noncomputable abbrev pV (l:List Int):V:=.lst (l.map fun x=>.lst (pcs (x.fdiv 65536) (List.range 3)))
noncomputable abbrev WR (l:List Int):List Nat:=wr8 (mF l 0) (mF l 1) (mF l 2) (mF l 3)
theorem h_modes (hl:l.length=4):evl (b_law.get 1) (LA [nV l]) σ=some (mV l,σ) :=
 r_mapl (xs:=l) (f:=.int) (r_var rfl) (by show some (It.items (zts l),(zts l).length)=_; rfl) (by rw [hl]; decide) fun x ζ=>⟨_,rfl,r_bin (r_var rfl) r_int (o_mod (by decide) (md_is x))⟩
theorem h_writing (hs:Low σ):evl (b_law.get 2) (LA [nV (L4 x y z w),mV (L4 x y z w)]) σ=some (.str (WR (L4 x y z w)),σ):=r_fn rfl (r_one (r_var rfl)) (x_writing (n:=7) hs)
theorem h_pieces (hs:Low σ) (hl:l.length=4) {v:V}:evl (b_law.get 3) (LA [nV l,mV l,v]) σ=some (pV l,σ) :=
 r_mapl (xs:=l) (f:=.int) (r_var rfl) (by show some (It.items (zts l),(zts l).length)=_; rfl) (by rw [hl]; decide) fun x ζ=>⟨_,rfl,r_fn rfl (r_one (r_bin (r_var rfl) r_int (o_div rfl rfl))) (x_wishes (n:=10) hs _)⟩
noncomputable abbrev txL:S:=b_law.get 6
noncomputable abbrev sh (r:Int):List Nat:=34 :: shutI (wT r)++[34]
noncomputable abbrev rw4 (l:List Int) (k:Nat):List Nat:=fmode ((mF l k:Nat):Int)
noncomputable abbrev LB (l:List Int) (T:List Nat):List V:=[nV l,mV l,.str (WR l),pV l,.ref 1,.str T]
noncomputable abbrev σ1 (ns:List Int) (ws:List (List Nat)):Sto:=σ0 ns++[.list (ws.map .str)]
theorem sh_len {r:Int}:(sh r).length≤20:=by
 have h1:=shut_len (w:=wT r)
 have h2:=wT_len (r:=r)
 rw [List.length_append,List.length_cons]
 show (shutI (wT r)).length+1+1≤20
 (first | lia | omega)
theorem sub_last2 {xs:List V} {u v:V} {i:Nat} (h:vlist σ i=some (xs++[u,v])):subV (.ref i) (.int (-2)) σ=some u:=by
 show orO ((vlist σ i).bind fun xs=>pick xs (-2)) _=_
 rw [h]
 have e:pick (xs++[u,v]) (-2)=some u:=by
  unfold pick idx
  have hl:(xs++[u,v]).length=xs.length+2:=List.length_append
  rw [if_neg (by decide),hl,if_pos (by (first | lia | omega)),show (-2+((xs.length+2:Nat):Int)).toNat=xs.length by (first | lia | omega)]
  show (xs++[u,v])[xs.length]?=_
  rw [List.getElem?_append_right (Nat.le_refl _),Nat.sub_self]; rfl
 show orO (pick (xs++[u,v]) (-2)) _=_
 rw [e]; rfl
theorem tx_turn (hl:l.length=4) (hk:k < 4) (hw:ws.length≤8) (hT:T.length≤500):loopStep (phi TT 11) (lamN TT 11) TT.G [7] txL.t txL.a (.int (k:Nat)) (.next,LA (LB l T)) (σ1 ns ws)=some (true,(.next,LA (LB l (T++(pc l k++sh (zF l k))))),σ1 ns (ws++[rw4 l k,wT (zF l k)])):=by
 have hk:k < l.length:=hl.symm▸hk
 have hs:Low (σ1 ns ws):=sto_cons rfl (sto_cons (lowL_map fun ζ=>rfl) rfl)
 have e:(ws++[rw4 l k,wT (zF l k)]).map V.str=ws.map .str++[.str (rw4 l k),.str (wT (zF l k))]:=List.map_append
 have h1:evM (phi TT 11) (lamN TT 11) TT.G (partE (txL.a.get 0)) false (LA (LB l T++[.int (k:Nat)])) (σ1 ns ws)=some (.none,σ1 ns (ws++[rw4 l k,wT (zF l k)])):=by
  refine r_meth (x:=.ref 1) (k:=1) (r_var rfl) rfl (r_one (r_lst (r_two (r_fn rfl (r_one (r_sub (r_var rfl) (r_var rfl) (sub_lst (get_map (d:=0) hk)))) (x_filemode (n:=9) hs)) (r_meth r_str rfl (r_one (r_sub (r_var rfl) (r_var rfl) (sub_lst (get_map (d:=0) hk)))) (j_strs (f:=pc2 (zF l k)) (xs:=List.range 3) (Nat.le_trans (wT_len (r:=zF l k)) (by decide))))) (show 2≤maxLen by decide))) ((m_extend (xs:=ws.map .str) rfl ?_).trans ?_)
  ·rw [List.length_map]
   show ws.length+2≤maxLen
   unfold maxLen; (first | lia | omega)
  ·exact (congrArg (fun q=>some (V.none,σ0 ns++[O.list q])) e).symm
 have hv:vlist (σ1 ns (ws++[rw4 l k,wT (zF l k)])) 1=some (ws.map .str++[.str (rw4 l k),.str (wT (zF l k))]):=congrArg some e
 have hv2:vlist (σ1 ns (ws++[rw4 l k,wT (zF l k)])) 1=some ((ws.map .str++[.str (rw4 l k)])++[.str (wT (zF l k))]):=by rw [hv,List.append_assoc]; rfl
 have hp:=pc_len (l:=l) (k:=k)
 have hh:=sh_len (r:=zF l k)
 have hW:=wT_len (r:=zF l k)
 have hx:(pc l k++sh (zF l k)).length≤33:=by rw [List.length_append]; exact Nat.add_le_add hp hh
 generalize σ1 ns (ws++[rw4 l k,wT (zF l k)])=τ at h1 hv hv2 ⊢
 refine u_next (t:=txL.t) (loc':=LA (LB l (T++(pc l k++sh (zF l k)))++[.int (k:Nat)])) rfl (l_cons (s_expr h1) (l_one (s_aug (r:=(.str (T++(pc l k++sh (zF l k))),τ)) rfl (r_bin (r_fn rfl (r_two (r_sub (r_var rfl) (r_neg r_int) (sub_last2 hv)) (r_bin (r_bin (r_sub (r_var rfl) (r_var rfl) (sub_lst (get_map (d:=0) hk))) r_int (o_div rfl rfl)) r_int (o_mod (by decide) (mn_is _)))) (x_written (n:=10) (by rw [fmode_length]; decide))) (r_fn rfl (r_one (r_sub (r_var rfl) (r_neg r_int) (sub_last hv2))) (x_shut (n:=10) (Nat.le_trans hW (by decide)))) (o_str (Nat.le_trans hx (by decide)))) (a_str (Nat.le_trans (Nat.add_le_add hT hx) (by decide)))))) rfl
noncomputable abbrev wds (l:List Int):List (List Nat):=[rw4 l 0,wT (zF l 0),rw4 l 1,wT (zF l 1),rw4 l 2,wT (zF l 2),rw4 l 3,wT (zF l 3)]
noncomputable abbrev zsL (l:List Int):List (List Nat × List Nat):=[(pc l 0,rw4 l 0),(sh (zF l 0),wT (zF l 0)),(pc l 1,rw4 l 1),(sh (zF l 1),wT (zF l 1)),(pc l 2,rw4 l 2),(sh (zF l 2),wT (zF l 2)),(pc l 3,rw4 l 3),(sh (zF l 3),wT (zF l 3))]
noncomputable def txs (l:List Int):Nat→List Nat
 | 0=>[]
 | k+1=>txs l k++(pc l k++sh (zF l k))
noncomputable def wdn (l:List Int):Nat→List (List Nat)
 | 0=>[]
 | k+1=>wdn l k++[rw4 l k,wT (zF l k)]
noncomputable def tx (l:List Int):List Nat:=txs l 4++dot
theorem txs_len:∀ {k:Nat},(txs l k).length≤33*k
 | 0=>Nat.le_refl _
 | k+1=>by
  have ih:=txs_len (k:=k)
  have hp:=pc_len (l:=l) (k:=k)
  have hh:=sh_len (r:=zF l k)
  show (txs l k++(pc l k++sh (zF l k))).length≤_
  rw [List.length_append,List.length_append]
  (first | lia | omega)
theorem tx_len:(tx l).length≤135:=by
 have h:=txs_len (l:=l) (k:=4)
 unfold tx
 rw [List.length_append]
 exact Nat.add_le_add_right h 3
theorem zs_text:tx l=((zsL l).map (·.1)).flatten++dot:=by
 have h (a b c d e f g h:List Nat):([]++(a++b)++(c++d)++(e++f)++(g++h))++dot=(a++(b++(c++(d++(e++(f++(g++(h++[]))))))))++dot:=by
  rw [List.nil_append,List.append_nil,List.append_assoc a b,List.append_assoc a,List.append_assoc b,List.append_assoc c,List.append_assoc a,List.append_assoc b,List.append_assoc c,List.append_assoc d,List.append_assoc e]
 exact h ..
theorem h_loop (hl:l.length=4):evS (phi TT 11) (lamN TT 11) TT.G txL (LA (LB l [])) (σ1 ns [])=some (.next,LA (LB l (txs l 4)),σ1 ns (wds l)):=by
 have t (k:Nat) (hk:k < 4) (hw:(wdn l k).length≤8):loopStep (phi TT 11) (lamN TT 11) TT.G [7] txL.t txL.a (.int (k:Nat)) (.next,LA (LB l (txs l k))) (σ1 ns (wdn l k))=some (true,(.next,LA (LB l (txs l (k+1)))),σ1 ns (wdn l (k+1))) :=
  tx_turn hl hk hw (Nat.le_trans txs_len (Nat.le_trans (Nat.mul_le_mul_left 33 (Nat.le_of_lt hk)) (by decide)))
 exact s_loop (r_ty rfl (r_one r_int) (c_range (b:=4) (by decide))) (i_range (b:=4) (by decide)) (over_cons (t 0 (by decide) (show 0≤8 by decide)) (over_cons (t 1 (by decide) (show 2≤8 by decide)) (over_cons (t 2 (by decide) (show 4≤8 by decide)) (over_cons (t 3 (by decide) (show 6≤8 by decide)) rfl)))) rfl
theorem h_dot:evS (phi TT 11) (lamN TT 11) TT.G (b_law.get 7) (LA (LB l (txs l 4))) σ=some (.next,LA (LB l (tx l)),σ) :=
 s_aug (r:=(.str (tx l),σ)) rfl r_str (a_str (Nat.le_trans (Nat.add_le_add_right (txs_len (l:=l) (k:=4)) 3) (by decide)))
noncomputable abbrev PR (ns:List Int) (ws:List (List Nat)) (text r:List Nat) (τ:Sto):Sto:=.scr SCI ns :: .list (ws.map .str) :: .list [.int ((text.length - r.length:Nat):Int)] :: .list [] :: .lex text 2 (1+cnt text - cnt r) 3 :: τ
noncomputable abbrev LC (l:List Int) (vs:List V):Loc:=some (.fn SCI) :: ((LB l (tx l)).map some++none :: (vs.map some++List.replicate (27 - vs.length) none))
theorem PR_new {t:List Nat}:[.scr SCI ns,.list (ws.map .str),.list [.int 0],.list [],.lex t 2 1 3]=PR ns ws t t []:=by
 show _=[O.scr SCI ns,.list (ws.map .str),.list [.int ((t.length - t.length:Nat):Int)],.list [],.lex t 2 (1+cnt t - cnt t) 3]
 rw [Nat.sub_self,show 1+cnt t - cnt t=1 by (first | lia | omega)]; rfl
theorem h_lex:evl (b_law.get 9) (LC l [.ref 2]) [.scr SCI ns,.list (ws.map .str),.list [.int 0]]=some (.ref 4,PR ns ws (tx l) (tx l) []) :=
 r_fn (k:=i__law_lexer) rfl (r_two (r_var rfl) (r_var rfl)) (congrArg (fun s=>some (V.ref 4,s)) PR_new)
theorem pr_word {t r u v:List Nat} (hu:Word u v) (h:u++r <:+ t) (hl:t.length≤900000):phi TT (n+3) i_get_token [.ref 4] (PR ns ws t (u++r) [])=some (.str v,PR ns ws t r []):=by
 have L:Lx 4 2 3 (PR ns ws t [] []):=⟨sto_cons rfl (sto_cons (lowL_map fun ζ=>rfl) (sto_cons rfl (sto_cons rfl (sto_cons rfl rfl)))),(show 4 < 5 by decide),(show 2 < 5 by decide),(show 3 < 5 by decide),by decide,by decide,by decide⟩
 exact x_word L hu h hl rfl
theorem told_live {t r:List Nat} {step:V→List V→Sto→Option (Bool × List V × Sto)} (hs:∀ (v:V) (acc:List V) (σ σ1:Sto) (w:V),acc.length < 100→recv σ (.ref 4)=some 2→phi TT 11 i_get_token [.ref 4] σ=some (w,σ1)→step v acc σ=some (true,acc++[w],σ1)) (ht:t.length≤900000) :
  ∀ (zs:List (List Nat × List Nat)) (k:Nat) (acc:List V),ws.length=k+zs.length→(∀ z∈zs,Word z.1 z.2)→acc.length+zs.length < 100→(zs.map (·.1)).flatten++r <:+ t→iterate step (.live 1) zs.length k acc (PR ns ws t ((zs.map (·.1)).flatten++r) [])=some (true,acc++zs.map (fun z=>.str z.2),PR ns ws t r [])
 | [],k,acc,hv,_,_,_=>by
  have e:nextAt (.live 1) k (PR ns ws t ([]++r) [])=some none:=by
   show some (ws.map V.str)[k]?=_
   rw [List.getElem?_eq_none (by rw [List.length_map,hv]; exact Nat.le_refl _)]
  refine (bnd e rfl).trans ?_
  show some (true,acc,_)=some (true,acc++[],_)
  rw [List.append_nil]; rfl
 | z :: zs,k,acc,hv,hw,hl,h=>by
  rw [List.length_cons] at hl hv
  rw [List.map_cons,List.flatten_cons,List.append_assoc] at h ⊢
  have hk:k < ws.length:=by (first | lia | omega)
  have e:nextAt (.live 1) k (PR ns ws t (z.1++((zs.map (·.1)).flatten++r)) [])=some (some (.str ws[k])):=by
   show some (ws.map V.str)[k]?=_
   rw [List.getElem?_map,List.getElem?_eq_getElem hk]; rfl
  have ih:=told_live hs ht zs (k+1) (acc++[.str z.2]) (by (first | lia | omega)) (fun y hy=>hw y (.tail _ hy)) (by rw [List.length_append]; show acc.length+1+zs.length < 100; (first | lia | omega)) (suf_app h)
  rw [List.append_assoc] at ih
  exact bnd e (bnd (hs _ acc _ _ _ (by (first | lia | omega)) rfl (pr_word (n:=8) (hw z (.head _)) h ht)) ih)
theorem told_top {t r T:List Nat} {step:V→List V→Sto→Option (Bool × List V × Sto)} (hs:∀ (v:V) (acc:List V) (σ σ1:Sto) (w:V),acc.length < 100→recv σ (.ref 4)=some 2→phi TT 11 i_get_token [.ref 4] σ=some (w,σ1)→step v acc σ=some (true,acc++[w],σ1)) (ht:t.length≤900000)
  (zs:List (List Nat × List Nat)) (hv:ws.length=0+zs.length) (hw:∀ z∈zs,Word z.1 z.2) (hl:zs.length < 100) (h:T <:+ t) (hT:T=(zs.map (·.1)).flatten++r):iterate step (.live 1) zs.length 0 [] (PR ns ws t T [])=some (true,zs.map (fun z=>.str z.2),PR ns ws t r []):=by
 subst hT
 exact told_live hs ht zs 0 [] hv hw (by rw [List.length_nil,Nat.zero_add]; exact hl) h
theorem zs_words:∀ u∈zsL l,Word u.1 u.2:=fun u hu=>by
 have h (k:Nat):Word (pc l k) (rw4 l k):=row_word (l.getD k 0)
 have h2 (k:Nat):Word (sh (zF l k)) (wT (zF l k)):=shut_word
 rcases List.mem_cons.mp hu with rfl | hu
 ·exact h 0
 rcases List.mem_cons.mp hu with rfl | hu
 ·exact h2 0
 rcases List.mem_cons.mp hu with rfl | hu
 ·exact h 1
 rcases List.mem_cons.mp hu with rfl | hu
 ·exact h2 1
 rcases List.mem_cons.mp hu with rfl | hu
 ·exact h 2
 rcases List.mem_cons.mp hu with rfl | hu
 ·exact h2 2
 rcases List.mem_cons.mp hu with rfl | hu
 ·exact h 3
 rw [List.mem_singleton.mp hu]; exact h2 3
noncomputable abbrev tV (l:List Int):V:=.lst ((wds l).map .str)
theorem h_told:evl (b_law.get 10) (LC l [.ref 2,.ref 4]) (PR ns (wds l) (tx l) (tx l) [])=some (tV l,PR ns (wds l) (tx l) dot []):=by
 have ht:(tx l).length≤900000:=Nat.le_trans tx_len (by decide)
 refine ev_comp.trans ((bnd (x:=(V.ref 1,PR ns (wds l) (tx l) (tx l) [])) (r_var rfl) (bnd (x:=(It.live 1,8)) rfl (mpd (x:=(true,(zsL l).map (fun z=>V.str z.2),PR ns (wds l) (tx l) dot [])) ?_))).trans rfl)
 refine told_top (fun v acc σ σ1 w ha hr h=>?_) ht (zsL l) rfl zs_words (show 8 < 100 by decide) (List.suffix_refl _) zs_text
 exact u_add rfl (r_meth (x:=.ref 4) (k:=2) (r_var rfl) hr r_nil h) (Nat.lt_trans ha (by decide))
theorem ne_live {xs:List (List Nat)} {i:Nat} (h:vlist σ i=some (xs.map .str)):cmpop .NotEq (.lst (xs.map .str)) (.ref i) σ=some false:=by
 show (orO ((vlist σ i).bind fun ys=>eqR (xs.map .str) ys) _).map (!·)=_
 rw [h]
 show (orO (if (xs.map V.str).length=(xs.map V.str).length then eqL (xs.map .str) (xs.map .str) else some false) _).map (!·)=_
 rw [if_pos rfl,eqL_strs]; rfl
theorem h_cmp {r:List Nat}:tst (b_law.get 11) (LC l [.ref 2,.ref 4,tV l]) (PR ns (wds l) (tx l) r [])=some (false,PR ns (wds l) (tx l) r []):=t_cmp (r_var rfl) (r_var rfl) (ne_live rfl)
end
end Mine
namespace Mine
open PySem PySem.W GS
section
variable {n k:Nat} {σ:Sto} {ns:List Int} {ws:List (List Nat)} {T r:List Nat} {l:List Int} {x y z w t:Int}
theorem h_order:evl (b_law.get 13) (LC l [.ref 2,.ref 4,tV l,.int t]) σ=some (.lst (nts (ordL t)),σ):=by
 have hb:(t.fdiv 4).fmod 2=0∨(t.fdiv 4).fmod 2=1:=by
  have h1:=Int.fmod_nonneg_of_pos (t.fdiv 4) (b:=2) (by decide)
  have h2:=Int.fmod_lt_of_pos (t.fdiv 4) (b:=2) (by decide)
  (first | lia | omega)
 have hs:small (1+(t.fdiv 4).fmod 2*2)=true:=by rcases hb with h | h <;> rw [h] <;> rfl
 exact r_mapl (xs:=List.range 4) (f:=fun k=>.int (k:Nat)) (g:=fun k=>.int (ordF t k:Nat)) (r_ty rfl (r_one r_int) (c_range (b:=4) (by decide))) (i_range (b:=4) (by decide)) (by decide) fun k ζ=>⟨_,rfl,r_bin (r_bin (r_var rfl) (r_bin (r_var rfl) (r_bin r_int (r_bin (r_bin (r_bin (r_var rfl) r_int (o_div rfl rfl)) r_int (o_mod (by decide) rfl)) r_int (o_mul rfl rfl)) rfl) (o_mul hs rfl)) rfl) r_int (o_mod (by decide) ord_is.2)⟩
noncomputable abbrev c0:O:=.list [.int 0]
noncomputable abbrev LD (l:List Int) (t:Int) (vs:List V):Loc:=LC l (.ref 2 :: .ref 4 :: tV l :: .int t :: .lst (nts (ordL t)) :: vs)
theorem h_places:evl (b_law.get 14) (LD l t []) (PR ns ws T r [])=some (.lst [.ref 5,.ref 6,.ref 7,.ref 8],PR ns ws T r [c0,c0,c0,c0]):=by
 have h {τ:Sto} {loc:Loc}:evM (phi TT 11) (lamN TT 11) TT.G (match partE (b_law.get 14) with | .comp _ e _ _ _ _ _ _=>e | _=>.raw default) false loc (PR ns ws T r τ)=some (.ref (τ.length+5),PR ns ws T r (τ++[c0])):=r_cell (r_one r_int) (show 1≤maxLen by decide)
 exact r_compl (b:=true) (r_ty rfl (r_one r_int) (c_range (b:=4) (by decide))) (i_range (b:=4) (by decide)) (over_cons (u_add rfl (h (τ:=[])) (show 0 < maxLen by decide)) (over_cons (u_add rfl (h (τ:=[c0])) (show 1 < maxLen by decide)) (over_cons (u_add rfl (h (τ:=[c0,c0])) (show 2 < maxLen by decide)) (over_cons (u_add rfl (h (τ:=[c0,c0,c0])) (show 3 < maxLen by decide)) rfl))))
noncomputable abbrev plV:V:=.lst [.ref 5,.ref 6,.ref 7,.ref 8]
noncomputable abbrev nLx (l:List Int) (k:Nat):Sto:=[.list [],.lex (wT (zF l k)) (5+k) 1 (9+2*k)]
theorem SR_new:PR ns ws T r ([c0,c0,c0,c0]++(nLx l 0++(nLx l 1++(nLx l 2++nLx l 3))))=SR ns ws T r [] (zF l) n0 []:=by
 have hp (k:Nat):pO (zF l) n0 k=c0:=by
  show O.list [.int (((wT (zF l k)).length - (wT (zF l k)).length:Nat):Int)]=_
  rw [Nat.sub_self]; rfl
 have hl (k:Nat):lO (zF l) n0 k=.lex (wT (zF l k)) (5+k) 1 (9+2*k):=by
  show O.lex (wT (zF l k)) (5+k) (1+cnt (wT (zF l k)) - cnt (wT (zF l k))) (9+2*k)=_
  rw [show 1+cnt (wT (zF l k)) - cnt (wT (zF l k))=1 by (first | lia | omega)]
 unfold SR own2
 rw [hp,hp,hp,hp,hl,hl,hl,hl]; rfl
theorem h_own:evl (b_law.get 15) (LD l t [plV]) (PR ns ws T r [c0,c0,c0,c0])=some (ownV,SR ns ws T r [] (zF l) n0 []):=by
 rw [← SR_new]
 have h (k:Nat) (hk:(wds l)[2*k+1]?=some (wT (zF l k))) (hp:[V.ref 5,.ref 6,.ref 7,.ref 8][k]?=some (.ref (5+k))) (h4:k < 4) {τ:Sto} (hτ:τ.length=4+2*k) (hv:vlist (PR ns ws T r τ) (5+k)=some [.int 0]):evM (phi TT 11) (lamN TT 11) TT.G (match partE (b_law.get 15) with | .comp _ e _ _ _ _ _ _=>e | _=>.raw default) false ((LD l t [plV]).set 25 (some (.int (k:Nat)))) (PR ns ws T r τ)=some (.ref (10+2*k),PR ns ws T r (τ++nLx l k)):=by
  have hl:(PR ns ws T r τ).length=9+2*k:=by
   show τ.length+5=_
   rw [hτ]; (first | lia | omega)
  have hc:phi TT 11 i__law_lexer [.str (wT (zF l k)),.ref (5+k)] (PR ns ws T r τ)=some (.ref (10+2*k),PR ns ws T r (τ++nLx l k)):=by
   show (vlist (PR ns ws T r τ) (5+k)).map (fun ζ=>(V.ref ((PR ns ws T r τ).length+1),PR ns ws T r τ++[.list [],.lex (wT (zF l k)) (5+k) 1 (PR ns ws T r τ).length]))=_
   rw [hv,hl,show 9+2*k+1=10+2*k by (first | lia | omega)]; rfl
  exact r_fn rfl (r_two (r_sub (y:=.int ((2*k+1:Nat):Int)) (r_var rfl) (r_bin (r_bin r_int (r_var rfl) (o_mulN (a:=2) (Nat.lt_trans h4 (by decide)) rfl)) r_int (o_addN (b:=1) rfl rfl)) (sub_lst (l:=(wds l).map .str) (by rw [List.getElem?_map,hk]; rfl))) (r_sub (r_var rfl) (r_var rfl) (sub_lst hp))) hc
 exact r_compl (b:=true) (r_ty rfl (r_one r_int) (c_range (b:=4) (by decide))) (i_range (b:=4) (by decide)) (over_cons (u_add rfl (h 0 rfl rfl (by decide) (τ:=[c0,c0,c0,c0]) rfl rfl) (show 0 < maxLen by decide)) (over_cons (u_add rfl (h 1 rfl rfl (by decide) (τ:=[c0,c0,c0,c0]++nLx l 0) rfl rfl) (show 1 < maxLen by decide)) (over_cons (u_add rfl (h 2 rfl rfl (by decide) (τ:=[c0,c0,c0,c0]++(nLx l 0++nLx l 1)) rfl rfl) (show 2 < maxLen by decide)) (over_cons (u_add rfl (h 3 rfl rfl (by decide) (τ:=[c0,c0,c0,c0]++(nLx l 0++(nLx l 1++nLx l 2))) rfl rfl) (show 3 < maxLen by decide)) rfl))))
theorem rows_of:sliceV (tV l) .none .none (.int 2) σ=some (rowsV (mF l),σ):=rfl
noncomputable abbrev LE (l:List Int) (t:Int) (vs:List V):Loc:=LD l t (plV :: ownV :: .ref 17 :: .bool true :: vs)
variable {rd:Nat→Nat} {H:Nat→Option Nat} {G:List Nat}
theorem h_run (hr:run (pfZ (zF l)) (likeF (mF l)) 40 ⟨nO,n0,ordL t⟩=some ⟨H,rd,[]⟩):∃ G,evS (phi TT 11) (lamN TT 11) TT.G (b_law.get 16) (LD l t [plV,ownV]) (SR ns ws (tx l) dot [] (zF l) n0 [])=some (.next,LE l t [],RS ns ws (tx l) [] [] (zF l) rd H G G):=by
 have o:=ord_perm (t:=t)
 exact (x_run (n:=7) (ns:=ns) (ws:=ws) (List.suffix_append ..) (pf_z (z:=zF l) (ms:=mF l)) o.1 o.2.1 o.2.2.1 o.2.2.2 hr).elim fun G hG=>⟨G,s_assign (r_fn rfl (r_cons (r_var rfl) (r_cons (r_var rfl) (r_two (r_var rfl) (r_slice (y:=.none) (z:=.none) (w:=.int 2) (r_var rfl) rfl rfl (e_some r_int) rows_of)))) hG) rfl⟩
theorem ne_end4 {p q q':Int} (h:q=q'):cmpop .NotEq (.tup [.bool true,.str [],.int p,.int q]) (.tup [.bool true,.str [],.int p,.int q']) σ=some false:=by
 subst h
 show (some (true&&(true&&((p==p)&&((q==q)&&true))))).map (!·)=_
 rw [beq_self_eq_true,beq_self_eq_true]; rfl
theorem h_end:tst (b_law.get 17) (LE l t []) (RS ns ws (tx l) [] [] (zF l) rd H G G)=some (false,RS ns ws (tx l) [] [] (zF l) rd H G G) :=
 t_cmp (r_tup (r_cons (r_var rfl) (r_cons (r_meth (x:=.ref 4) (k:=2) (r_var rfl) rfl r_nil (q_end (n:=8) tau_low)) (r_cons (r_at (w:=.int (((tx l).length - 0:Nat):Int)) rfl rfl) (r_one (r_attr (x:=.ref 4) (v:=.int (1+cnt (tx l) - cnt [])) (r_var rfl) rfl))))))
  (r_tup (r_cons rfl (r_cons r_str (r_cons (r_bi rfl (r_one (r_var rfl)) rfl) (r_one (r_bin r_int (r_meth (k:=0) (r_var rfl) rfl (r_one r_str) rfl) rfl)))))) (ne_end4 (Int.sub_zero _))
end
end Mine
namespace Mine
open PySem PySem.W GS
section
variable {n k t':Nat} {σ:Sto} {ns:List Int} {ws:List (List Nat)} {T r:List Nat} {l:List Int} {x y z w t:Int} {v:V} {M B:Nat→Nat}
theorem m_idx {Λ:Lexer} {xs:List V} (h:lsV σ v=some xs) (hs:strV v=none) {u:V} {m:Nat} (hx:indexL u xs=some m):methR Λ .index v 1 [u] σ=some (.int (m:Nat),σ):=by
 show orO ((strV v).bind _) ((lsV σ v).bind fun xs=>(indexL u xs).map fun k=>(V.int (k:Nat),σ))=_
 rw [hs,h]
 show orO none ((indexL u xs).map fun k=>(V.int (k:Nat),σ))=_
 rw [hx]; rfl
theorem j_w {Λ:Lexer} {r:Int}:methR Λ .join (.str []) 0 [.lst (pcs r (List.range 3))] σ=some (.str (wT r),σ):=j_strs (f:=pc2 r) (xs:=List.range 3) (Nat.le_trans (wT_len (r:=r)) (by decide))
noncomputable abbrev rk1 (l:List Int):V:=.lst (l.map fun x=>gridN (pos (wT (x.fdiv 65536))) 3)
noncomputable abbrev rk2 (l:List Int):V:=.lst (l.map fun x=>gridN (rkQ (qR (x.fdiv 65536))) 3)
theorem h_rk1 (hl:l.length=4):evl (b_law.get 18) (LE l t []) σ=some (rk1 l,σ) :=
 r_mapl (xs:=l) (f:=fun x=>.lst (pcs (x.fdiv 65536) (List.range 3))) (r_var rfl) (by rfl) (by rw [hl]; decide) fun x ζ=>⟨_,rfl,r_mapl (xs:=List.range 3) (f:=fun d=>.str [cd d]) (g:=fun d=>.int (pos (wT (x.fdiv 65536)) d:Nat)) r_str rfl (by decide) fun d hd=>⟨_,rfl,r_meth (r_meth r_str rfl (r_one (r_var rfl)) j_w) rfl (r_one (r_var rfl)) (m_at (pos_is (List.mem_range.mp hd)).1)⟩⟩
theorem h_rk2 (hl:l.length=4):evl (b_law.get 19) (LE l t [rk1 l]) σ=some (rk2 l,σ) :=
 r_mapl (xs:=l) (f:=fun x=>gridN (pos (wT (x.fdiv 65536))) 3) (r_var rfl) (by rfl) (by rw [hl]; decide) fun x ζ=>⟨_,rfl,r_mapl (xs:=List.range 3) (f:=fun d=>.int (pos (wT (x.fdiv 65536)) d:Nat)) (g:=fun d=>.int (rkQ (qR (x.fdiv 65536)) d:Nat)) (r_var rfl) rfl (by decide) fun d hd=>⟨_,rfl,r_meth (r_bi rfl (r_one (r_var rfl)) c_srt) rfl (r_one (r_var rfl)) (m_idx rfl rfl (pos_is (List.mem_range.mp hd)).2)⟩⟩
theorem fig_at (hk:k < 4):(fig8 (mF l 0 % 4096) (mF l 1 % 4096) (mF l 2 % 4096) (mF l 3 % 4096))[2*k]?=some (mF l k % 4096 / 64)∧(fig8 (mF l 0 % 4096) (mF l 1 % 4096) (mF l 2 % 4096) (mF l 3 % 4096))[2*k+1]?=some (mF l k % 4096 % 64):=by
 have h:k=0∨k=1∨k=2∨k=3:=by (first | lia | omega)
 rcases h with rfl | rfl | rfl | rfl <;> exact ⟨rfl,rfl⟩
theorem h_likes:evl (b_law.get 20) (LE l t [v]) σ=some (likesV (likeF (mF l)),σ) :=
 r_mapl (xs:=List.range 3) (f:=fun c=>.int (c:Nat)) (g:=fun c=>.lst ((List.range 4).map fun k=>.int (likeF (mF l) c k))) (r_ty rfl (r_one r_int) (c_range (b:=3) (by decide))) (i_range (b:=3) (by decide)) (by decide) fun c hc=>⟨_,rfl,r_mapl (xs:=List.range 4) (f:=fun k=>.int (k:Nat)) (g:=fun k=>.int (likeF (mF l) c k)) (r_ty rfl (r_one r_int) (c_range (b:=4) (by decide))) (i_range (b:=4) (by decide)) (by decide) fun k hk=>⟨_,rfl,by
  have hc:=List.mem_range.mp hc
  have hk:=List.mem_range.mp hk
  have hx:=x_by_signs (n:=10) (σ:=σ) (fig_at (l:=l) hk).1 (fig_at (l:=l) hk).2 ⟨Nat.div_lt_of_lt_mul m12,Nat.mod_lt _ (by decide)⟩ hc hk
  rw [by3_is hc,bits_mod hc] at hx
  have hb:bits3 (mF l k) c < 18446744073709551616:=by
   unfold bits3
   have h (b:Bool):b.toNat≤1:=by cases b <;> decide
   have h1:=h (bitB (mF l k) (8 - 3*c))
   have h2:=h (bitB (mF l k) (7 - 3*c))
   have h3:=h (bitB (mF l k) (6 - 3*c))
   have h4:=h (bitB (mF l k) (11 - c))
   (first | lia | omega)
  exact r_bin (r_bin r_int (r_fn rfl (r_cons (r_var rfl) (r_two (r_var rfl) (r_var rfl))) hx) (o_mulN (a:=16) hb rfl)) (r_var rfl) rfl⟩⟩
noncomputable abbrev rkL (l:List Int):Nat→Nat→Nat:=rkZ (zF l)
theorem h_best:evl (b_law.get 21) (LE l t [ranksV (rkL l),likesV (likeF (mF l))]) σ=some (gridN (bestF (rkL l) (likeF (mF l)) (List.range 64) fun ζ=>3) 4,σ):=r_fn rfl (r_two (r_var rfl) (r_var rfl)) (x_best (n:=10))
noncomputable abbrev LF (l:List Int) (t:Int) (B:Nat→Nat):Loc:=LE l t [ranksV (rkL l),likesV (likeF (mF l)),gridN B 4]
theorem ne_grid {a b:Nat→Nat} (h:∀ k < 4,a k=b k):cmpop .NotEq (gridN a 4) (gridN b 4) σ=some false:=by
 have e:(List.range 4).map a=(List.range 4).map b:=List.map_congr_left fun k hk=>h k (List.mem_range.mp hk)
 have e2 (f:Nat→Nat):gridN f 4=.lst (nts ((List.range 4).map f)):=rfl
 rw [e2,e2,e]
 exact ne_nts
theorem h_have (h17:vlist σ 17=some [.int (M 0:Nat),.int (M 1:Nat),.int (M 2:Nat)]) (hB:∀ k < 4,hv (rkL l) M k=B k):tst (b_law.get 22) (LF l t B) σ=some (false,σ):=by
 refine t_cmp (r_mapl (xs:=List.range 4) (f:=fun k=>.int (k:Nat)) (g:=fun k=>.int (hv (rkL l) M k:Nat)) (r_ty rfl (r_one r_int) (c_range (b:=4) (by decide))) (i_range (b:=4) (by decide)) (by decide) fun k hk=>⟨_,rfl,?_⟩) (r_var rfl) (ne_grid hB)
 have hk:=List.mem_range.mp hk
 have hin:cmpop .In (.int (k:Nat)) (.ref 17) σ=some (M 0==k||(M 1==k||(M 2==k||false))):=by
  show orO none (orO none ((vlist σ 17).bind (inL (.int (k:Nat)))))=_
  rw [h17]
  show orO none (orO none (inL _ _))=_
  rw [in3]; rfl
 cases hc:(M 0==k||(M 1==k||(M 2==k||false))) with
 | true =>
  rw [hc] at hin
  rw [hv_in hc]
  exact r_yes (t_cmp (r_var rfl) (r_var rfl) hin) (r_sub (r_sub (r_var rfl) (r_var rfl) (sub_lst (v:=gridN (rkL l k) 3) (rng_at hk))) (r_meth (k:=1) (r_var rfl) (recv_c h17) (r_one (r_var rfl)) (m_idx (v:=.ref 17) h17 rfl (idx3 hc))) (sub_lst (rng_at (f:=fun c=>V.int (rkL l k c:Nat)) cl_lt)))
 | false =>
  rw [hc] at hin
  rw [hv_in hc]
  exact r_no (t_cmp (r_var rfl) (r_var rfl) hin) rfl
theorem slice_0 {xs:List V} {j:Nat} (hl:xs.length≤maxLen):sliceV (.lst xs) .none (.int (j:Nat)) .none σ=some (.lst (xs.take j),σ):=by
 show newList (cut xs 0 (if 0≤(j:Int) then min j xs.length else _)) σ=_
 rw [if_pos (Int.natCast_nonneg _)]
 unfold cut
 rw [List.drop_zero,← List.take_eq_take_min]
 exact if_pos (by rw [List.length_take]; exact Nat.le_trans (Nat.min_le_right ..) hl)
theorem read_to {r:Int} {b:Nat} (hb:b≤3):(wT r).length - (rst r (min 3 (b+1))).length=(((List.range 3).take (b+1)).map (pc2 r)).flatten.length:=by
 have e:wT r=(((List.range 3).take (b+1)).map (pc2 r)).flatten++(((List.range 3).drop (b+1)).map (pc2 r)).flatten:=by
  rw [← List.flatten_append,← List.map_append,List.take_append_drop]; rfl
 have hd:(List.range 3).drop (min 3 (b+1))=(List.range 3).drop (b+1):=by
  have hb:b=0∨b=1∨b=2∨b=3:=by (first | lia | omega)
  rcases hb with rfl | rfl | rfl | rfl <;> rfl
 have e2:rst r (min 3 (b+1))=(((List.range 3).drop (b+1)).map (pc2 r)).flatten:=by
  unfold rst
  rw [hd]
 rw [e,e2,List.length_append,Nat.add_sub_cancel]
variable {rd:Nat→Nat} {H:Nat→Option Nat} {P G:List Nat}
theorem h_ret (hl:l.length=4) (hB:∀ k < 4,rd k=min 3 (B k+1)∧B k≤3):evl (b_law.get 23) (LF l t B) (RS ns ws T [] [] (zF l) rd H P G)=some (.bool true,RS ns ws T [] [] (zF l) rd H P G):=by
 have e:(List.range 4).map (fun k=>(wT (zF l k)).length - (rst (zF l k) (rd k)).length)=(List.range 4).map fun k=>(((List.range 3).take (B k+1)).map (pc2 (zF l k))).flatten.length:=List.map_congr_left fun k hk=>by
  have h:=hB k (List.mem_range.mp hk)
  rw [h.1,read_to h.2]
 refine r_cmp (σ1:=RS ns ws T [] [] (zF l) rd H P G) (x:=.lst (nts ((List.range 4).map fun k=>(wT (zF l k)).length - (rst (zF l k) (rd k)).length))) (y:=.lst (nts ((List.range 4).map fun k=>(((List.range 3).take (B k+1)).map (pc2 (zF l k))).flatten.length))) ?_ ?_ (by rw [e]; exact eq_nts)
 ·refine r_mapl (xs:=List.range 4) (f:=fun k=>.ref (5+k)) (g:=fun k=>.int ((wT (zF l k)).length - (rst (zF l k) (rd k)).length:Nat)) (r_var rfl) rfl (by decide) fun k hk=>⟨_,rfl,?_⟩
  have hk:=List.mem_range.mp hk
  have h:k=0∨k=1∨k=2∨k=3:=by (first | lia | omega)
  refine r_at rfl ?_
  rcases h with rfl | rfl | rfl | rfl <;> rfl
 ·refine r_mapl (xs:=List.range 4) (f:=fun k=>.int (k:Nat)) (g:=fun k=>.int ((((List.range 3).take (B k+1)).map (pc2 (zF l k))).flatten.length:Nat)) (r_ty rfl (r_one r_int) (c_range (b:=4) (by decide))) (i_range (b:=4) (by decide)) (by decide) fun k hk=>⟨_,rfl,?_⟩
  have hk:=List.mem_range.mp hk
  have hk':k < l.length:=hl.symm▸hk
  have hj:(((List.range 3).take (B k+1)).map (pc2 (zF l k))).flatten.length≤maxLen:=by
   rw [← read_to (hB k hk).2]
   exact Nat.le_trans (Nat.sub_le ..) (Nat.le_trans wT_len (by decide))
  have hs:sliceV (.lst (pcs (zF l k) (List.range 3))) .none (.int ((B k+1:Nat):Int)) .none (RS ns ws T [] [] (zF l) rd H P G)=some (.lst (((List.range 3).take (B k+1)).map fun x=>.str (pc2 (zF l k) x)),RS ns ws T [] [] (zF l) rd H P G):=by
   rw [slice_0 (xs:=pcs (zF l k) (List.range 3)) (show 3≤maxLen by decide),List.map_take]
  exact r_bi rfl (r_one (r_meth r_str rfl (r_one (r_slice (r_sub (r_var rfl) (r_var rfl) (sub_lst (get_map (d:=0) hk'))) rfl (e_some (r_bin (r_sub (r_var rfl) (r_var rfl) (sub_lst (rng_at (f:=fun k=>V.int (B k:Nat)) hk))) r_int (o_addN (b:=1) rfl rfl))) rfl hs)) (j_strs hj))) rfl
noncomputable abbrev lw (ns:List Int) (l:List Int) (rd:Nat→Nat) (H:Nat→Option Nat) (G:List Nat):Sto:=RS ns (wds l) (tx l) [] [] (zF l) rd H G G
noncomputable abbrev bB (l:List Int):Nat→Nat:=bestF (rkL l) (likeF (mF l)) (List.range 64) fun ζ=>3
theorem h_tail (hr:run (pfZ (zF (L4 x y z w))) (likeF (mF (L4 x y z w))) 40 ⟨nO,n0,ordL t⟩=some ⟨H,rd,[]⟩) (h17:∀ c < 3,H c=some (M c)) (hB:∀ k < 4,hv (rkL (L4 x y z w)) M k=bB (L4 x y z w) k∧rd k=min 3 (bB (L4 x y z w) k+1)∧bB (L4 x y z w) k≤3) :
  ∃ G,evSL (phi TT 11) (lamN TT 11) TT.G (b_law.drop 16) (LD (L4 x y z w) t [plV,ownV]) (SR ns (wds (L4 x y z w)) (tx (L4 x y z w)) dot [] (zF (L4 x y z w)) n0 [])=some (.ret (.bool true),LF (L4 x y z w) t (bB (L4 x y z w)),lw ns (L4 x y z w) rd H G):=by
 refine (h_run (ns:=ns) (ws:=wds (L4 x y z w)) hr).elim fun G hG=>⟨G,?_⟩
 have hv17:vlist (lw ns (L4 x y z w) rd H G) 17=some [.int (M 0:Nat),.int (M 1:Nat),.int (M 2:Nat)]:=by
  show some [hV (H 0),hV (H 1),hV (H 2)]=_
  rw [h17 0 (by decide),h17 1 (by decide),h17 2 (by decide)]
 exact l_cons hG (l_cons (loc':=LE (L4 x y z w) t []) (s_no h_end rfl) (l_cons (loc':=LE (L4 x y z w) t [rk1 (L4 x y z w)]) (s_assign (h_rk1 rfl) rfl) (l_cons (loc':=LE (L4 x y z w) t [ranksV (rkL (L4 x y z w))]) (s_assign (h_rk2 rfl) rfl) (l_cons (loc':=LE (L4 x y z w) t [ranksV (rkL (L4 x y z w)),likesV (likeF (mF (L4 x y z w)))]) (s_assign h_likes rfl) (l_cons (loc':=LF (L4 x y z w) t (bB (L4 x y z w))) (s_assign h_best rfl) (l_cons (loc':=LF (L4 x y z w) t (bB (L4 x y z w))) (s_no (h_have hv17 fun k hk=>(hB k hk).1) rfl) (l_one (s_ret (h_ret rfl fun k hk=>(hB k hk).2)))))))))
theorem h_mid (hu:∀ σ:Sto,scrOf σ SCI=some (zts ns)→callB .sum [.fn SCI] σ=some (.int t,σ)):∃ l3 σ',evSL (phi TT 11) (lamN TT 11) TT.G (b_law.drop 10) (LC (L4 x y z w) [.ref 2,.ref 4]) (PR ns (wds (L4 x y z w)) (tx (L4 x y z w)) (tx (L4 x y z w)) [])=some (.ret (.bool true),l3,σ'):=by
 have o:=ord_perm (t:=t)
 obtain ⟨H,rd,M,hr,m,h17,st,hrd,hall⟩:=gs (pf_z (z:=zF (L4 x y z w)) (ms:=mF (L4 x y z w))) o.1 o.2.1 o.2.2.1 o.2.2.2
 have h3:∀ k < 4,hv (rkL (L4 x y z w)) M k≤3:=fun k ζ=>by
  rw [hv_in rfl]
  cases (M 0==k||(M 1==k||(M 2==k||false))) with
  | true=>exact Nat.le_of_lt ((rk_tab _ (qR_is _).2).2 _ cl_lt).1
  | false=>exact Nat.le_refl _
 have hB:=best_is m st h3 hall
 obtain ⟨G,hG⟩:=h_tail (ns:=ns) (t:=t) hr h17 fun k hk=>by
  have e:bB (L4 x y z w) k=hv (rkL (L4 x y z w)) M k:=hB k hk
  rw [e]
  exact ⟨rfl,hrd k hk,h3 k hk⟩
 exact ⟨_,_,l_cons (s_assign h_told rfl) (l_cons (loc':=LC (L4 x y z w) [.ref 2,.ref 4,tV (L4 x y z w)]) (s_no h_cmp rfl) (l_cons (loc':=LC (L4 x y z w) [.ref 2,.ref 4,tV (L4 x y z w),.int t]) (s_assign (r_bi rfl (r_one (r_var rfl)) (hu _ rfl)) rfl) (l_cons (loc':=LD (L4 x y z w) t []) (s_assign h_order rfl) (l_cons (loc':=LD (L4 x y z w) t [plV]) (s_assign h_places rfl) (l_cons (loc':=LD (L4 x y z w) t [plV,ownV]) (s_assign h_own rfl) hG)))))⟩
theorem leave_b {fz:Bool} {m:Nat}:leave fz m (.bool true) σ=(.bool true,(leave fz m (.bool true) σ).2):=by
 unfold leave
 split <;> rfl
theorem plain (ns:List Int) (hl:ns.length≤63):∃ σ',phi TT 12 i_law [.fn SCI] [.scr SCI ns]=some (.bool true,σ'):=by
 refine (x_numbers (n:=10) hl).elim fun xs hx=>?_
 match xs,hx with
 | [x,y,z,w],hx =>
  refine (sum_scr (ns:=ns)).elim fun t hu=>?_
  have hs:Low (σ0 ns):=rfl
  obtain ⟨l3,σ',h⟩:=h_mid (ns:=ns) (x:=x) (y:=y) (z:=z) (w:=w) hu
  exact ⟨_,f_run (f:=f_law) rfl rfl rfl rfl (l_cons (s_assign (r_fn rfl (r_one (r_var rfl)) hx.2) rfl) (l_cons (loc':=LA [nV (L4 x y z w),mV (L4 x y z w)]) (s_assign (h_modes rfl) rfl) (l_cons (loc':=LA [nV (L4 x y z w),mV (L4 x y z w),.str (WR (L4 x y z w))]) (s_assign (h_writing hs) rfl) (l_cons (loc':=LA [nV (L4 x y z w),mV (L4 x y z w),.str (WR (L4 x y z w)),pV (L4 x y z w)]) (s_assign (h_pieces hs rfl) rfl) (l_cons (σ1:=σ1 ns []) (loc':=LA [nV (L4 x y z w),mV (L4 x y z w),.str (WR (L4 x y z w)),pV (L4 x y z w),.ref 1]) (s_assign (r_cell (σ1:=σ0 ns) r_nil (by decide)) rfl) (l_cons (loc':=LA (LB (L4 x y z w) [])) (s_assign r_str rfl) (l_cons (h_loop rfl) (l_cons h_dot (l_cons (s_assign (r_cell (r_one r_int) (show 1≤maxLen by decide)) rfl) (l_cons (loc':=LC (L4 x y z w) [.ref 2,.ref 4]) (s_assign h_lex rfl) h)))))))))) rfl leave_b⟩
end
end Mine
namespace Mine
open PySem PySem.W PyProof.Rows
theorem stat:Stat TT fa 182 187 4 160 21 6 5 where
 gr g h:=by
  have e:TT.G g=(gL[g]?).join:=rfl
  rw [e,List.getElem?_eq_none (Nat.le_trans (by decide) h)]; rfl
 g0:=rfl
 lx:=rfl
 bmn:=⟨by decide,by decide,by decide,by decide,by decide⟩
 give:=by decide +kernel
 kw _ _:=rfl
 kwm m:=by cases m <;> decide
 kwl:=by decide
 pad _:=rfl
 ab:=by decide
 fns k f h:=by
  by_cases hk:k < 21
  ·refine ⟨hk,?_⟩
   have z:((List.range 21).all fun k=>(TT.fns k).all fun f=>decide (f.np≤4∧(k=6→f.names=n64∧f.np=2)∧(k=5→f.np=2)))=true:=by decide +kernel
   have:=List.all_eq_true.mp z k (List.mem_range.mpr hk)
   rw [h] at this
   exact of_decide_eq_true this
  ·have e:TT.fns k=(fnsL[k]?).join:=rfl
   rw [e,List.getElem?_eq_none (Nat.le_of_not_lt hk)] at h; cases h
noncomputable def view:Program:={ PW with main:={ PW.main with body:=PW.main.body.drop (PW.main.body.length - 1) } }
noncomputable def loose:List Str:=(PW.main.body.dropLast).flatMap bindsAtTop
noncomputable def seen (s:Shared):Ob × Nat:=(obsK TT fa 59 182 187 35 186 4 86 21 6 (frag s.heap (fun ζ=>true) (List.range 217)) (frag s.heap hasCls (List.range 217)),s.heap.objs.size)
noncomputable def due:Ob × Nat:=(expK TT fa 59 35 186 4 86 216 160 7 21 ⟨85,14,85,15⟩ ⟨85,17,85,25⟩ [.Constant .none 0 ⟨85,26,85,30⟩],217)
noncomputable def lawD:DefRec × List (Str × Expr):=(defOf view "law").get (by decide +kernel)
theorem law_fin {w:World} {s₀ s₁:Shared} {mg mb:Str→Option Value} (hg:s₁.heap.Ns mainGlobals mg) (hb:s₁.heap.Ns builtinsNs mb) (hbi:∀ x:Str,x≠"__name__"→mb x=bootBuiltins x) (hlim:s₁.heap.NoLimit) (hgens:s₁.gens=#[]) (kp:∀ b o,s₀.heap.get? b=some o→s₁.heap.get? b=some o)
  (y:seen s₀=due) {sa:Addr} (hs:sa=s₀.heap.objs.size) {vs:List Value} {ns:List Int} (hsc:s₁.heap.get? sa=some { cls:=.type "list",data:=.seq vs.toArray }) (hi:IntsAre vs ns) (hl:ns.length≤63) {lawB:Addr} (hm:mg "law"=some (.ref lawB))
  {Q:Value→Shared→Prop} {E:Value→Shared→Prop} (hq:∀ s',OldK s₁.heap s'.heap→s'.os=s₁.os→s'.gens=#[]→Q (.bool true) s') :
  wpAny (model PW w) callerA (call (.ref lawB) [.ref sa]) Q E s₁ :=
 law_of hg hb hbi hlim hgens kp stat (Prod.mk.inj y).1 hsc hi hl ((Prod.mk.inj y).2.symm.trans hs.symm) hm (law:=i_law) rfl (by decide) (by decide) (plain ns hl) hq
end Mine
open PySem PySem.W PySem.W.X PySem.W.ZRun
theorem Mine.said:PySem.Challenge.rw_oy0095_02.wellSaid=true:=by kernel_rfl
theorem Mine.left:LeftO PySem.Challenge.rw_oy0095_02.row.prog Mine.view Mine.loose (fun s=>recOk [] s) Mine.seen (fun ζ=>Mine.due) 2900:=fun w=>by kernel_rfl
set_option maxHeartbeats 0 in
set_option tactic.hygienic true in
theorem PySem.Challenge.cw_oy0095_02_holds : PySem.Challenge.rw_oy0095_02.Holds := by
 w_on
 refine holds_law Mine.said fun said=>?_
 refine holds_openX (q:=Mine.view) (d:=Mine.lawD.1) (kwd:=Mine.lawD.2) (loose:=Mine.loose) (Xt:=fun s=>recOk [] s) (XP:=fun _ _=>True) (Yf:=Mine.seen) (Ya:=fun _=>Mine.due) (N:=2900) Mine.left (fun _ _=>trivial) (fun _ _ _ _ _=>trivial) (by kernel_rfl) (by kernel_rfl) (by kernel_rfl) (fun s e=>recFacts_of e) (by rfl) (by decide +kernel) (by decide +kernel) ⟨rfl,rfl,rfl,rfl,rfl,by decide +kernel⟩ ?hw ?hc
 case hw=>w_witness2
 k_fill
 intro w s₀ s₁ mg mb G y fa o pm cd doc dV kV ho hd hcd hD hmg hg args vals as L hpre hlay hrd hwl hlo
 clear ho hd hcd hD
 refine Ground.open G ?_
 intro T B D TE TW
 clear G
 have kp:=L.keeps
 wrow_args hpre hlay hrd hwl hlo
 obtain ⟨hat,hsz⟩:=script_at L
 rename_i hL hcond w1 r0
 refine Mine.law_fin T.g T.b T.builtins T.nolimit hg kp y hat (script_obj L (by assumption)) (by assumption) (by omega) hmg (fun s' h1 h2 h3=>?_)
 exact ⟨.inl ⟨_,_,[],rfl,fun _=>rfl,ReadsW.bool true,by first | rfl | wrow_post,fun _=>⟨List.nodup_nil,fun _ hm=>(nomatch hm)⟩⟩,h1,h2,by rw [h3]; exact PyProof.Rows.AllBare.empty⟩

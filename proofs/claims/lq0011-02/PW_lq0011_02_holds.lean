import PyProof.Rows.All
import Wide.All
import OpenK.AllK
import Wide.FinOn
import PyProof.Rows.SumAny
import KE.LcSums
import Lean
import PySem.Challenge.RW_lq0011_02
set_option Elab.async false
set_option genInjectivity false
set_option genSizeOfSpec false
set_option maxRecDepth 100000
set_option maxHeartbeats 0
set_option linter.unusedVariables false
set_option linter.unusedSimpArgs false
section
namespace Mine
theorem El_aa {P : Prop} {q1 : Prop} {q2 : Prop} {q3 : Prop} (h : q1 ∧ q2 ∧ q3) (k : q1 → q2 → q3 → P) : P := k h.1 h.2.1 h.2.2
theorem El_aaa {P : Prop} {q1 : Prop} {q2 : Prop} {q3 : Prop} {q4 : Prop} (h : q1 ∧ q2 ∧ q3 ∧ q4) (k : q1 → q2 → q3 → q4 → P) : P := k h.1 h.2.1 h.2.2.1 h.2.2.2
theorem El_aaaa {P : Prop} {q1 : Prop} {q2 : Prop} {q3 : Prop} {q4 : Prop} {q5 : Prop} (h : q1 ∧ q2 ∧ q3 ∧ q4 ∧ q5) (k : q1 → q2 → q3 → q4 → q5 → P) : P := k h.1 h.2.1 h.2.2.1 h.2.2.2.1 h.2.2.2.2
theorem El_aaaaa {P : Prop} {q1 : Prop} {q2 : Prop} {q3 : Prop} {q4 : Prop} {q5 : Prop} {q6 : Prop} (h : q1 ∧ q2 ∧ q3 ∧ q4 ∧ q5 ∧ q6) (k : q1 → q2 → q3 → q4 → q5 → q6 → P) : P := k h.1 h.2.1 h.2.2.1 h.2.2.2.1 h.2.2.2.2.1 h.2.2.2.2.2
theorem El_aaaaaaa {P : Prop} {q1 : Prop} {q2 : Prop} {q3 : Prop} {q4 : Prop} {q5 : Prop} {q6 : Prop} {q7 : Prop} {q8 : Prop} (h : q1 ∧ q2 ∧ q3 ∧ q4 ∧ q5 ∧ q6 ∧ q7 ∧ q8) (k : q1 → q2 → q3 → q4 → q5 → q6 → q7 → q8 → P) : P := k h.1 h.2.1 h.2.2.1 h.2.2.2.1 h.2.2.2.2.1 h.2.2.2.2.2.1 h.2.2.2.2.2.2.1 h.2.2.2.2.2.2.2
theorem El_aaaaaaaaa {P : Prop} {q1 : Prop} {q2 : Prop} {q3 : Prop} {q4 : Prop} {q5 : Prop} {q6 : Prop} {q7 : Prop} {q8 : Prop} {q9 : Prop} {q10 : Prop} (h : q1 ∧ q2 ∧ q3 ∧ q4 ∧ q5 ∧ q6 ∧ q7 ∧ q8 ∧ q9 ∧ q10) (k : q1 → q2 → q3 → q4 → q5 → q6 → q7 → q8 → q9 → q10 → P) : P := k h.1 h.2.1 h.2.2.1 h.2.2.2.1 h.2.2.2.2.1 h.2.2.2.2.2.1 h.2.2.2.2.2.2.1 h.2.2.2.2.2.2.2.1 h.2.2.2.2.2.2.2.2.1 h.2.2.2.2.2.2.2.2.2
theorem El_aaea {P : Prop} {α1 : Sort _} {q1 : Prop} {q2 : Prop} {q3 : α1 → Prop} {q4 : α1 → Prop} (h : q1 ∧ q2 ∧ ∃ x1, q3 x1 ∧ q4 x1) (k : q1 → q2 → ∀ x1 : α1, q3 x1 → q4 x1 → P) : P := Exists.elim h.2.2 fun w0 g0 => k h.1 h.2.1 w0 g0.1 g0.2
theorem El_aaeeaaa {P : Prop} {α1 : Sort _} {α2 : Sort _} {q1 : Prop} {q2 : Prop} {q3 : α1 → α2 → Prop} {q4 : α1 → α2 → Prop} {q5 : α1 → α2 → Prop} {q6 : α1 → α2 → Prop} (h : q1 ∧ q2 ∧ ∃ x1, ∃ x2, q3 x1 x2 ∧ q4 x1 x2 ∧ q5 x1 x2 ∧ q6 x1 x2) (k : q1 → q2 → ∀ x1 : α1, ∀ x2 : α2, q3 x1 x2 → q4 x1 x2 → q5 x1 x2 → q6 x1 x2 → P) : P := Exists.elim h.2.2 fun w0 g0 => Exists.elim g0 fun w1 g1 => k h.1 h.2.1 w0 w1 g1.1 g1.2.1 g1.2.2.1 g1.2.2.2
theorem El_aeea {P : Prop} {α1 : Sort _} {α2 : Sort _} {q1 : Prop} {q2 : α1 → α2 → Prop} {q3 : α1 → α2 → Prop} (h : q1 ∧ ∃ x1, ∃ x2, q2 x1 x2 ∧ q3 x1 x2) (k : q1 → ∀ x1 : α1, ∀ x2 : α2, q2 x1 x2 → q3 x1 x2 → P) : P := Exists.elim h.2 fun w0 g0 => Exists.elim g0 fun w1 g1 => k h.1 w0 w1 g1.1 g1.2
theorem El_ea {P : Prop} {α1 : Sort _} {q1 : α1 → Prop} {q2 : α1 → Prop} (h : ∃ x1, q1 x1 ∧ q2 x1) (k : ∀ x1 : α1, q1 x1 → q2 x1 → P) : P := Exists.elim h fun w0 g0 => k w0 g0.1 g0.2
theorem El_eaa {P : Prop} {α1 : Sort _} {q1 : α1 → Prop} {q2 : α1 → Prop} {q3 : α1 → Prop} (h : ∃ x1, q1 x1 ∧ q2 x1 ∧ q3 x1) (k : ∀ x1 : α1, q1 x1 → q2 x1 → q3 x1 → P) : P := Exists.elim h fun w0 g0 => k w0 g0.1 g0.2.1 g0.2.2
theorem El_eaaaa {P : Prop} {α1 : Sort _} {q1 : α1 → Prop} {q2 : α1 → Prop} {q3 : α1 → Prop} {q4 : α1 → Prop} {q5 : α1 → Prop} (h : ∃ x1, q1 x1 ∧ q2 x1 ∧ q3 x1 ∧ q4 x1 ∧ q5 x1) (k : ∀ x1 : α1, q1 x1 → q2 x1 → q3 x1 → q4 x1 → q5 x1 → P) : P := Exists.elim h fun w0 g0 => k w0 g0.1 g0.2.1 g0.2.2.1 g0.2.2.2.1 g0.2.2.2.2
theorem El_eaae {P : Prop} {α1 : Sort _} {α2 : Sort _} {q1 : α1 → Prop} {q2 : α1 → Prop} {q3 : α1 → α2 → Prop} (h : ∃ x1, q1 x1 ∧ q2 x1 ∧ ∃ x2, q3 x1 x2) (k : ∀ x1 : α1, q1 x1 → q2 x1 → ∀ x2 : α2, q3 x1 x2 → P) : P := Exists.elim h fun w0 g0 => Exists.elim g0.2.2 fun w1 g1 => k w0 g0.1 g0.2.1 w1 g1
theorem El_eaaeea {P : Prop} {α1 : Sort _} {α2 : Sort _} {α3 : Sort _} {q1 : α1 → Prop} {q2 : α1 → Prop} {q3 : α1 → α2 → α3 → Prop} {q4 : α1 → α2 → α3 → Prop} (h : ∃ x1, q1 x1 ∧ q2 x1 ∧ ∃ x2, ∃ x3, q3 x1 x2 x3 ∧ q4 x1 x2 x3) (k : ∀ x1 : α1, q1 x1 → q2 x1 → ∀ x2 : α2, ∀ x3 : α3, q3 x1 x2 x3 → q4 x1 x2 x3 → P) : P := Exists.elim h fun w0 g0 => Exists.elim g0.2.2 fun w1 g1 => Exists.elim g1 fun w2 g2 => k w0 g0.1 g0.2.1 w1 w2 g2.1 g2.2
theorem El_eaea {P : Prop} {α1 : Sort _} {α2 : Sort _} {q1 : α1 → Prop} {q2 : α1 → α2 → Prop} {q3 : α1 → α2 → Prop} (h : ∃ x1, q1 x1 ∧ ∃ x2, q2 x1 x2 ∧ q3 x1 x2) (k : ∀ x1 : α1, q1 x1 → ∀ x2 : α2, q2 x1 x2 → q3 x1 x2 → P) : P := Exists.elim h fun w0 g0 => Exists.elim g0.2 fun w1 g1 => k w0 g0.1 w1 g1.1 g1.2
theorem El_eaeea {P : Prop} {α1 : Sort _} {α2 : Sort _} {α3 : Sort _} {q1 : α1 → Prop} {q2 : α1 → α2 → α3 → Prop} {q3 : α1 → α2 → α3 → Prop} (h : ∃ x1, q1 x1 ∧ ∃ x2, ∃ x3, q2 x1 x2 x3 ∧ q3 x1 x2 x3) (k : ∀ x1 : α1, q1 x1 → ∀ x2 : α2, ∀ x3 : α3, q2 x1 x2 x3 → q3 x1 x2 x3 → P) : P := Exists.elim h fun w0 g0 => Exists.elim g0.2 fun w1 g1 => Exists.elim g1 fun w2 g2 => k w0 g0.1 w1 w2 g2.1 g2.2
theorem El_eaeeaeeaaaa {P : Prop} {α1 : Sort _} {α2 : Sort _} {α3 : Sort _} {α4 : Sort _} {α5 : Sort _} {q1 : α1 → Prop} {q2 : α1 → α2 → α3 → Prop} {q3 : α1 → α2 → α3 → α4 → α5 → Prop} {q4 : α1 → α2 → α3 → α4 → α5 → Prop} {q5 : α1 → α2 → α3 → α4 → α5 → Prop} {q6 : α1 → α2 → α3 → α4 → α5 → Prop} {q7 : α1 → α2 → α3 → α4 → α5 → Prop} (h : ∃ x1, q1 x1 ∧ ∃ x2, ∃ x3, q2 x1 x2 x3 ∧ ∃ x4, ∃ x5, q3 x1 x2 x3 x4 x5 ∧ q4 x1 x2 x3 x4 x5 ∧ q5 x1 x2 x3 x4 x5 ∧ q6 x1 x2 x3 x4 x5 ∧ q7 x1 x2 x3 x4 x5) (k : ∀ x1 : α1, q1 x1 → ∀ x2 : α2, ∀ x3 : α3, q2 x1 x2 x3 → ∀ x4 : α4, ∀ x5 : α5, q3 x1 x2 x3 x4 x5 → q4 x1 x2 x3 x4 x5 → q5 x1 x2 x3 x4 x5 → q6 x1 x2 x3 x4 x5 → q7 x1 x2 x3 x4 x5 → P) : P := Exists.elim h fun w0 g0 => Exists.elim g0.2 fun w1 g1 => Exists.elim g1 fun w2 g2 => Exists.elim g2.2 fun w3 g3 => Exists.elim g3 fun w4 g4 => k w0 g0.1 w1 w2 g2.1 w3 w4 g4.1 g4.2.1 g4.2.2.1 g4.2.2.2.1 g4.2.2.2.2
theorem El_ee {P : Prop} {α1 : Sort _} {α2 : Sort _} {q1 : α1 → α2 → Prop} (h : ∃ x1, ∃ x2, q1 x1 x2) (k : ∀ x1 : α1, ∀ x2 : α2, q1 x1 x2 → P) : P := Exists.elim h fun w0 g0 => Exists.elim g0 fun w1 g1 => k w0 w1 g1
theorem El_eea {P : Prop} {α1 : Sort _} {α2 : Sort _} {q1 : α1 → α2 → Prop} {q2 : α1 → α2 → Prop} (h : ∃ x1, ∃ x2, q1 x1 x2 ∧ q2 x1 x2) (k : ∀ x1 : α1, ∀ x2 : α2, q1 x1 x2 → q2 x1 x2 → P) : P := Exists.elim h fun w0 g0 => Exists.elim g0 fun w1 g1 => k w0 w1 g1.1 g1.2
theorem El_eeaa {P : Prop} {α1 : Sort _} {α2 : Sort _} {q1 : α1 → α2 → Prop} {q2 : α1 → α2 → Prop} {q3 : α1 → α2 → Prop} (h : ∃ x1, ∃ x2, q1 x1 x2 ∧ q2 x1 x2 ∧ q3 x1 x2) (k : ∀ x1 : α1, ∀ x2 : α2, q1 x1 x2 → q2 x1 x2 → q3 x1 x2 → P) : P := Exists.elim h fun w0 g0 => Exists.elim g0 fun w1 g1 => k w0 w1 g1.1 g1.2.1 g1.2.2
theorem El_eeaaa {P : Prop} {α1 : Sort _} {α2 : Sort _} {q1 : α1 → α2 → Prop} {q2 : α1 → α2 → Prop} {q3 : α1 → α2 → Prop} {q4 : α1 → α2 → Prop} (h : ∃ x1, ∃ x2, q1 x1 x2 ∧ q2 x1 x2 ∧ q3 x1 x2 ∧ q4 x1 x2) (k : ∀ x1 : α1, ∀ x2 : α2, q1 x1 x2 → q2 x1 x2 → q3 x1 x2 → q4 x1 x2 → P) : P := Exists.elim h fun w0 g0 => Exists.elim g0 fun w1 g1 => k w0 w1 g1.1 g1.2.1 g1.2.2.1 g1.2.2.2
theorem El_eeaaaa {P : Prop} {α1 : Sort _} {α2 : Sort _} {q1 : α1 → α2 → Prop} {q2 : α1 → α2 → Prop} {q3 : α1 → α2 → Prop} {q4 : α1 → α2 → Prop} {q5 : α1 → α2 → Prop} (h : ∃ x1, ∃ x2, q1 x1 x2 ∧ q2 x1 x2 ∧ q3 x1 x2 ∧ q4 x1 x2 ∧ q5 x1 x2) (k : ∀ x1 : α1, ∀ x2 : α2, q1 x1 x2 → q2 x1 x2 → q3 x1 x2 → q4 x1 x2 → q5 x1 x2 → P) : P := Exists.elim h fun w0 g0 => Exists.elim g0 fun w1 g1 => k w0 w1 g1.1 g1.2.1 g1.2.2.1 g1.2.2.2.1 g1.2.2.2.2
theorem El_eeaaaaa {P : Prop} {α1 : Sort _} {α2 : Sort _} {q1 : α1 → α2 → Prop} {q2 : α1 → α2 → Prop} {q3 : α1 → α2 → Prop} {q4 : α1 → α2 → Prop} {q5 : α1 → α2 → Prop} {q6 : α1 → α2 → Prop} (h : ∃ x1, ∃ x2, q1 x1 x2 ∧ q2 x1 x2 ∧ q3 x1 x2 ∧ q4 x1 x2 ∧ q5 x1 x2 ∧ q6 x1 x2) (k : ∀ x1 : α1, ∀ x2 : α2, q1 x1 x2 → q2 x1 x2 → q3 x1 x2 → q4 x1 x2 → q5 x1 x2 → q6 x1 x2 → P) : P := Exists.elim h fun w0 g0 => Exists.elim g0 fun w1 g1 => k w0 w1 g1.1 g1.2.1 g1.2.2.1 g1.2.2.2.1 g1.2.2.2.2.1 g1.2.2.2.2.2
theorem El_eeaaaaaaa {P : Prop} {α1 : Sort _} {α2 : Sort _} {q1 : α1 → α2 → Prop} {q2 : α1 → α2 → Prop} {q3 : α1 → α2 → Prop} {q4 : α1 → α2 → Prop} {q5 : α1 → α2 → Prop} {q6 : α1 → α2 → Prop} {q7 : α1 → α2 → Prop} {q8 : α1 → α2 → Prop} (h : ∃ x1, ∃ x2, q1 x1 x2 ∧ q2 x1 x2 ∧ q3 x1 x2 ∧ q4 x1 x2 ∧ q5 x1 x2 ∧ q6 x1 x2 ∧ q7 x1 x2 ∧ q8 x1 x2) (k : ∀ x1 : α1, ∀ x2 : α2, q1 x1 x2 → q2 x1 x2 → q3 x1 x2 → q4 x1 x2 → q5 x1 x2 → q6 x1 x2 → q7 x1 x2 → q8 x1 x2 → P) : P := Exists.elim h fun w0 g0 => Exists.elim g0 fun w1 g1 => k w0 w1 g1.1 g1.2.1 g1.2.2.1 g1.2.2.2.1 g1.2.2.2.2.1 g1.2.2.2.2.2.1 g1.2.2.2.2.2.2.1 g1.2.2.2.2.2.2.2
theorem El_eeaaaaaaaaa {P : Prop} {α1 : Sort _} {α2 : Sort _} {q1 : α1 → α2 → Prop} {q2 : α1 → α2 → Prop} {q3 : α1 → α2 → Prop} {q4 : α1 → α2 → Prop} {q5 : α1 → α2 → Prop} {q6 : α1 → α2 → Prop} {q7 : α1 → α2 → Prop} {q8 : α1 → α2 → Prop} {q9 : α1 → α2 → Prop} {q10 : α1 → α2 → Prop} (h : ∃ x1, ∃ x2, q1 x1 x2 ∧ q2 x1 x2 ∧ q3 x1 x2 ∧ q4 x1 x2 ∧ q5 x1 x2 ∧ q6 x1 x2 ∧ q7 x1 x2 ∧ q8 x1 x2 ∧ q9 x1 x2 ∧ q10 x1 x2) (k : ∀ x1 : α1, ∀ x2 : α2, q1 x1 x2 → q2 x1 x2 → q3 x1 x2 → q4 x1 x2 → q5 x1 x2 → q6 x1 x2 → q7 x1 x2 → q8 x1 x2 → q9 x1 x2 → q10 x1 x2 → P) : P := Exists.elim h fun w0 g0 => Exists.elim g0 fun w1 g1 => k w0 w1 g1.1 g1.2.1 g1.2.2.1 g1.2.2.2.1 g1.2.2.2.2.1 g1.2.2.2.2.2.1 g1.2.2.2.2.2.2.1 g1.2.2.2.2.2.2.2.1 g1.2.2.2.2.2.2.2.2.1 g1.2.2.2.2.2.2.2.2.2
theorem El_eeaaaaaaaaaa {P : Prop} {α1 : Sort _} {α2 : Sort _} {q1 : α1 → α2 → Prop} {q2 : α1 → α2 → Prop} {q3 : α1 → α2 → Prop} {q4 : α1 → α2 → Prop} {q5 : α1 → α2 → Prop} {q6 : α1 → α2 → Prop} {q7 : α1 → α2 → Prop} {q8 : α1 → α2 → Prop} {q9 : α1 → α2 → Prop} {q10 : α1 → α2 → Prop} {q11 : α1 → α2 → Prop} (h : ∃ x1, ∃ x2, q1 x1 x2 ∧ q2 x1 x2 ∧ q3 x1 x2 ∧ q4 x1 x2 ∧ q5 x1 x2 ∧ q6 x1 x2 ∧ q7 x1 x2 ∧ q8 x1 x2 ∧ q9 x1 x2 ∧ q10 x1 x2 ∧ q11 x1 x2) (k : ∀ x1 : α1, ∀ x2 : α2, q1 x1 x2 → q2 x1 x2 → q3 x1 x2 → q4 x1 x2 → q5 x1 x2 → q6 x1 x2 → q7 x1 x2 → q8 x1 x2 → q9 x1 x2 → q10 x1 x2 → q11 x1 x2 → P) : P := Exists.elim h fun w0 g0 => Exists.elim g0 fun w1 g1 => k w0 w1 g1.1 g1.2.1 g1.2.2.1 g1.2.2.2.1 g1.2.2.2.2.1 g1.2.2.2.2.2.1 g1.2.2.2.2.2.2.1 g1.2.2.2.2.2.2.2.1 g1.2.2.2.2.2.2.2.2.1 g1.2.2.2.2.2.2.2.2.2.1 g1.2.2.2.2.2.2.2.2.2.2
theorem El_eeaaeeaaa {P : Prop} {α1 : Sort _} {α2 : Sort _} {α3 : Sort _} {α4 : Sort _} {q1 : α1 → α2 → Prop} {q2 : α1 → α2 → Prop} {q3 : α1 → α2 → α3 → α4 → Prop} {q4 : α1 → α2 → α3 → α4 → Prop} {q5 : α1 → α2 → α3 → α4 → Prop} {q6 : α1 → α2 → α3 → α4 → Prop} (h : ∃ x1, ∃ x2, q1 x1 x2 ∧ q2 x1 x2 ∧ ∃ x3, ∃ x4, q3 x1 x2 x3 x4 ∧ q4 x1 x2 x3 x4 ∧ q5 x1 x2 x3 x4 ∧ q6 x1 x2 x3 x4) (k : ∀ x1 : α1, ∀ x2 : α2, q1 x1 x2 → q2 x1 x2 → ∀ x3 : α3, ∀ x4 : α4, q3 x1 x2 x3 x4 → q4 x1 x2 x3 x4 → q5 x1 x2 x3 x4 → q6 x1 x2 x3 x4 → P) : P := Exists.elim h fun w0 g0 => Exists.elim g0 fun w1 g1 => Exists.elim g1.2.2 fun w2 g2 => Exists.elim g2 fun w3 g3 => k w0 w1 g1.1 g1.2.1 w2 w3 g3.1 g3.2.1 g3.2.2.1 g3.2.2.2
theorem El_eeaaeeaaaaa {P : Prop} {α1 : Sort _} {α2 : Sort _} {α3 : Sort _} {α4 : Sort _} {q1 : α1 → α2 → Prop} {q2 : α1 → α2 → Prop} {q3 : α1 → α2 → α3 → α4 → Prop} {q4 : α1 → α2 → α3 → α4 → Prop} {q5 : α1 → α2 → α3 → α4 → Prop} {q6 : α1 → α2 → α3 → α4 → Prop} {q7 : α1 → α2 → α3 → α4 → Prop} {q8 : α1 → α2 → α3 → α4 → Prop} (h : ∃ x1, ∃ x2, q1 x1 x2 ∧ q2 x1 x2 ∧ ∃ x3, ∃ x4, q3 x1 x2 x3 x4 ∧ q4 x1 x2 x3 x4 ∧ q5 x1 x2 x3 x4 ∧ q6 x1 x2 x3 x4 ∧ q7 x1 x2 x3 x4 ∧ q8 x1 x2 x3 x4) (k : ∀ x1 : α1, ∀ x2 : α2, q1 x1 x2 → q2 x1 x2 → ∀ x3 : α3, ∀ x4 : α4, q3 x1 x2 x3 x4 → q4 x1 x2 x3 x4 → q5 x1 x2 x3 x4 → q6 x1 x2 x3 x4 → q7 x1 x2 x3 x4 → q8 x1 x2 x3 x4 → P) : P := Exists.elim h fun w0 g0 => Exists.elim g0 fun w1 g1 => Exists.elim g1.2.2 fun w2 g2 => Exists.elim g2 fun w3 g3 => k w0 w1 g1.1 g1.2.1 w2 w3 g3.1 g3.2.1 g3.2.2.1 g3.2.2.2.1 g3.2.2.2.2.1 g3.2.2.2.2.2
theorem El_eeaaeeaaaaaa {P : Prop} {α1 : Sort _} {α2 : Sort _} {α3 : Sort _} {α4 : Sort _} {q1 : α1 → α2 → Prop} {q2 : α1 → α2 → Prop} {q3 : α1 → α2 → α3 → α4 → Prop} {q4 : α1 → α2 → α3 → α4 → Prop} {q5 : α1 → α2 → α3 → α4 → Prop} {q6 : α1 → α2 → α3 → α4 → Prop} {q7 : α1 → α2 → α3 → α4 → Prop} {q8 : α1 → α2 → α3 → α4 → Prop} {q9 : α1 → α2 → α3 → α4 → Prop} (h : ∃ x1, ∃ x2, q1 x1 x2 ∧ q2 x1 x2 ∧ ∃ x3, ∃ x4, q3 x1 x2 x3 x4 ∧ q4 x1 x2 x3 x4 ∧ q5 x1 x2 x3 x4 ∧ q6 x1 x2 x3 x4 ∧ q7 x1 x2 x3 x4 ∧ q8 x1 x2 x3 x4 ∧ q9 x1 x2 x3 x4) (k : ∀ x1 : α1, ∀ x2 : α2, q1 x1 x2 → q2 x1 x2 → ∀ x3 : α3, ∀ x4 : α4, q3 x1 x2 x3 x4 → q4 x1 x2 x3 x4 → q5 x1 x2 x3 x4 → q6 x1 x2 x3 x4 → q7 x1 x2 x3 x4 → q8 x1 x2 x3 x4 → q9 x1 x2 x3 x4 → P) : P := Exists.elim h fun w0 g0 => Exists.elim g0 fun w1 g1 => Exists.elim g1.2.2 fun w2 g2 => Exists.elim g2 fun w3 g3 => k w0 w1 g1.1 g1.2.1 w2 w3 g3.1 g3.2.1 g3.2.2.1 g3.2.2.2.1 g3.2.2.2.2.1 g3.2.2.2.2.2.1 g3.2.2.2.2.2.2
theorem El_eee {P : Prop} {α1 : Sort _} {α2 : Sort _} {α3 : Sort _} {q1 : α1 → α2 → α3 → Prop} (h : ∃ x1, ∃ x2, ∃ x3, q1 x1 x2 x3) (k : ∀ x1 : α1, ∀ x2 : α2, ∀ x3 : α3, q1 x1 x2 x3 → P) : P := Exists.elim h fun w0 g0 => Exists.elim g0 fun w1 g1 => Exists.elim g1 fun w2 g2 => k w0 w1 w2 g2
theorem El_eeea {P : Prop} {α1 : Sort _} {α2 : Sort _} {α3 : Sort _} {q1 : α1 → α2 → α3 → Prop} {q2 : α1 → α2 → α3 → Prop} (h : ∃ x1, ∃ x2, ∃ x3, q1 x1 x2 x3 ∧ q2 x1 x2 x3) (k : ∀ x1 : α1, ∀ x2 : α2, ∀ x3 : α3, q1 x1 x2 x3 → q2 x1 x2 x3 → P) : P := Exists.elim h fun w0 g0 => Exists.elim g0 fun w1 g1 => Exists.elim g1 fun w2 g2 => k w0 w1 w2 g2.1 g2.2
theorem El_eeeaaa {P : Prop} {α1 : Sort _} {α2 : Sort _} {α3 : Sort _} {q1 : α1 → α2 → α3 → Prop} {q2 : α1 → α2 → α3 → Prop} {q3 : α1 → α2 → α3 → Prop} {q4 : α1 → α2 → α3 → Prop} (h : ∃ x1, ∃ x2, ∃ x3, q1 x1 x2 x3 ∧ q2 x1 x2 x3 ∧ q3 x1 x2 x3 ∧ q4 x1 x2 x3) (k : ∀ x1 : α1, ∀ x2 : α2, ∀ x3 : α3, q1 x1 x2 x3 → q2 x1 x2 x3 → q3 x1 x2 x3 → q4 x1 x2 x3 → P) : P := Exists.elim h fun w0 g0 => Exists.elim g0 fun w1 g1 => Exists.elim g1 fun w2 g2 => k w0 w1 w2 g2.1 g2.2.1 g2.2.2.1 g2.2.2.2
theorem El_eeeaaaa {P : Prop} {α1 : Sort _} {α2 : Sort _} {α3 : Sort _} {q1 : α1 → α2 → α3 → Prop} {q2 : α1 → α2 → α3 → Prop} {q3 : α1 → α2 → α3 → Prop} {q4 : α1 → α2 → α3 → Prop} {q5 : α1 → α2 → α3 → Prop} (h : ∃ x1, ∃ x2, ∃ x3, q1 x1 x2 x3 ∧ q2 x1 x2 x3 ∧ q3 x1 x2 x3 ∧ q4 x1 x2 x3 ∧ q5 x1 x2 x3) (k : ∀ x1 : α1, ∀ x2 : α2, ∀ x3 : α3, q1 x1 x2 x3 → q2 x1 x2 x3 → q3 x1 x2 x3 → q4 x1 x2 x3 → q5 x1 x2 x3 → P) : P := Exists.elim h fun w0 g0 => Exists.elim g0 fun w1 g1 => Exists.elim g1 fun w2 g2 => k w0 w1 w2 g2.1 g2.2.1 g2.2.2.1 g2.2.2.2.1 g2.2.2.2.2
theorem El_eeeaaaaa {P : Prop} {α1 : Sort _} {α2 : Sort _} {α3 : Sort _} {q1 : α1 → α2 → α3 → Prop} {q2 : α1 → α2 → α3 → Prop} {q3 : α1 → α2 → α3 → Prop} {q4 : α1 → α2 → α3 → Prop} {q5 : α1 → α2 → α3 → Prop} {q6 : α1 → α2 → α3 → Prop} (h : ∃ x1, ∃ x2, ∃ x3, q1 x1 x2 x3 ∧ q2 x1 x2 x3 ∧ q3 x1 x2 x3 ∧ q4 x1 x2 x3 ∧ q5 x1 x2 x3 ∧ q6 x1 x2 x3) (k : ∀ x1 : α1, ∀ x2 : α2, ∀ x3 : α3, q1 x1 x2 x3 → q2 x1 x2 x3 → q3 x1 x2 x3 → q4 x1 x2 x3 → q5 x1 x2 x3 → q6 x1 x2 x3 → P) : P := Exists.elim h fun w0 g0 => Exists.elim g0 fun w1 g1 => Exists.elim g1 fun w2 g2 => k w0 w1 w2 g2.1 g2.2.1 g2.2.2.1 g2.2.2.2.1 g2.2.2.2.2.1 g2.2.2.2.2.2
theorem El_eeeeaa {P : Prop} {α1 : Sort _} {α2 : Sort _} {α3 : Sort _} {α4 : Sort _} {q1 : α1 → α2 → α3 → α4 → Prop} {q2 : α1 → α2 → α3 → α4 → Prop} {q3 : α1 → α2 → α3 → α4 → Prop} (h : ∃ x1, ∃ x2, ∃ x3, ∃ x4, q1 x1 x2 x3 x4 ∧ q2 x1 x2 x3 x4 ∧ q3 x1 x2 x3 x4) (k : ∀ x1 : α1, ∀ x2 : α2, ∀ x3 : α3, ∀ x4 : α4, q1 x1 x2 x3 x4 → q2 x1 x2 x3 x4 → q3 x1 x2 x3 x4 → P) : P := Exists.elim h fun w0 g0 => Exists.elim g0 fun w1 g1 => Exists.elim g1 fun w2 g2 => Exists.elim g2 fun w3 g3 => k w0 w1 w2 w3 g3.1 g3.2.1 g3.2.2
theorem El_eeeeaaa {P : Prop} {α1 : Sort _} {α2 : Sort _} {α3 : Sort _} {α4 : Sort _} {q1 : α1 → α2 → α3 → α4 → Prop} {q2 : α1 → α2 → α3 → α4 → Prop} {q3 : α1 → α2 → α3 → α4 → Prop} {q4 : α1 → α2 → α3 → α4 → Prop} (h : ∃ x1, ∃ x2, ∃ x3, ∃ x4, q1 x1 x2 x3 x4 ∧ q2 x1 x2 x3 x4 ∧ q3 x1 x2 x3 x4 ∧ q4 x1 x2 x3 x4) (k : ∀ x1 : α1, ∀ x2 : α2, ∀ x3 : α3, ∀ x4 : α4, q1 x1 x2 x3 x4 → q2 x1 x2 x3 x4 → q3 x1 x2 x3 x4 → q4 x1 x2 x3 x4 → P) : P := Exists.elim h fun w0 g0 => Exists.elim g0 fun w1 g1 => Exists.elim g1 fun w2 g2 => Exists.elim g2 fun w3 g3 => k w0 w1 w2 w3 g3.1 g3.2.1 g3.2.2.1 g3.2.2.2
theorem El_eeeeeaaaaaa {P : Prop} {α1 : Sort _} {α2 : Sort _} {α3 : Sort _} {α4 : Sort _} {α5 : Sort _} {q1 : α1 → α2 → α3 → α4 → α5 → Prop} {q2 : α1 → α2 → α3 → α4 → α5 → Prop} {q3 : α1 → α2 → α3 → α4 → α5 → Prop} {q4 : α1 → α2 → α3 → α4 → α5 → Prop} {q5 : α1 → α2 → α3 → α4 → α5 → Prop} {q6 : α1 → α2 → α3 → α4 → α5 → Prop} {q7 : α1 → α2 → α3 → α4 → α5 → Prop} (h : ∃ x1, ∃ x2, ∃ x3, ∃ x4, ∃ x5, q1 x1 x2 x3 x4 x5 ∧ q2 x1 x2 x3 x4 x5 ∧ q3 x1 x2 x3 x4 x5 ∧ q4 x1 x2 x3 x4 x5 ∧ q5 x1 x2 x3 x4 x5 ∧ q6 x1 x2 x3 x4 x5 ∧ q7 x1 x2 x3 x4 x5) (k : ∀ x1 : α1, ∀ x2 : α2, ∀ x3 : α3, ∀ x4 : α4, ∀ x5 : α5, q1 x1 x2 x3 x4 x5 → q2 x1 x2 x3 x4 x5 → q3 x1 x2 x3 x4 x5 → q4 x1 x2 x3 x4 x5 → q5 x1 x2 x3 x4 x5 → q6 x1 x2 x3 x4 x5 → q7 x1 x2 x3 x4 x5 → P) : P := Exists.elim h fun w0 g0 => Exists.elim g0 fun w1 g1 => Exists.elim g1 fun w2 g2 => Exists.elim g2 fun w3 g3 => Exists.elim g3 fun w4 g4 => k w0 w1 w2 w3 w4 g4.1 g4.2.1 g4.2.2.1 g4.2.2.2.1 g4.2.2.2.2.1 g4.2.2.2.2.2.1 g4.2.2.2.2.2.2
end Mine

end
section
open PySem PySem.W PyProof.Rows
namespace Mine
noncomputable abbrev P0 : Program := PySem.Challenge.pw_lq0011_02
inductive IsP : Program → Prop
  | mk (s : Program) (h : s = PySem.Challenge.pw_lq0011_02) : IsP s
noncomputable def TPx : { s : Program // IsP s } := by
  refine ⟨?_, ?_⟩
  rotate_left
  · refine IsP.mk _ ?_
    conv => rhs; reduce
theorem isP_eq {s : Program} (h : IsP s) : PySem.Challenge.pw_lq0011_02 = s := by cases h with | mk h => exact h.symm
noncomputable abbrev TP : Program := TPx.1
theorem TP_eq : P0 = TP := isP_eq TPx.2
end Mine
namespace Mine
noncomputable section
open PySem PySem.W PyProof.Rows
noncomputable abbrev TB : String → Option Builtin := PySem.W.Fast.tw14364793385576792824
theorem TB_eq : treeTable = TB := PySem.W.Fast.te14364793385576792824
noncomputable abbrev denW := @PySem.W.Fast.tw11892475500146522536
theorem den_eq : @denote = @denW := PySem.W.Fast.te11892475500146522536
noncomputable abbrev stepTW := @PySem.W.Fast.tw10156331382660048174
theorem stepT_eq : @stepT = @stepTW := PySem.W.Fast.te10156331382660048174
noncomputable abbrev stepOkW := @PySem.W.Fast.tw6613529449190102663
theorem stepOk_eq : @stepOk = @stepOkW := PySem.W.Fast.te6613529449190102663
noncomputable abbrev segW := @PySem.W.Fast.tw10110043849684766642
theorem seg_eq : @segRunT = @segW := PySem.W.Fast.te10110043849684766642
noncomputable abbrev execsW := @PySem.W.Fast.tw12563942051412417395
theorem execs_eq : @execs = @execsW := PySem.W.Fast.te12563942051412417395
noncomputable abbrev modCodeW := @PySem.W.Fast.tw17154629097778926822
theorem modCode_eq : @moduleCode = @modCodeW := PySem.W.Fast.te17154629097778926822
noncomputable abbrev bodyFrameW := @PySem.W.Fast.tw12822647523644345616
theorem bodyFrame_eq : @newBodyFrame = @bodyFrameW := PySem.W.Fast.te12822647523644345616
noncomputable abbrev retW := @PySem.W.Fast.tw6905046200447255374
theorem ret_eq : @PySem.ret = @retW := PySem.W.Fast.te6905046200447255374
noncomputable abbrev localNamesW := @PySem.W.Fast.tw17120021879193482534
noncomputable def goT (tb : String → Option Builtin) (p : Program) (w : World) (n₀ : Nat) (ann : Option Value) : Nat → SharedT → Thread → Option (SharedT × Thread)
  | 0, s, t => some (s, t)
  | n + 1, s, t => match through t with
    | true => none
    | false => match stepOk n₀ ann t with
      | false => none
      | true => match stepT (denote tb) p w s t with
        | some (s', t') => goT tb p w n₀ ann n s' t'
        | none => none
noncomputable def goW (tb : String → Option Builtin) (p : Program) (w : World) (n₀ : Nat) (ann : Option Value) : Nat → SharedT → Thread → Option (SharedT × Thread)
  | 0, s, t => some (s, t)
  | n + 1, s, t => match through t with
    | true => none
    | false => match stepOkW n₀ ann t with
      | false => none
      | true => match stepTW (denW tb) p w s t with
        | some (s', t') => goW tb p w n₀ ann n s' t'
        | none => none
theorem go_eq : @goT = @goW := by
  funext tb p w n₀ ann n
  induction n with
  | zero => rfl
  | succ n ih => funext s t; simp only [goT, goW, ih, ← stepOk_eq, ← stepT_eq, ← den_eq]
theorem goT_of {tb : String → Option Builtin} {p : Program} {w : World} {n₀ : Nat} {ann : Option Value} : ∀ {n : Nat} {s s' : SharedT} {t t' : Thread}, goT tb p w n₀ ann n s t = some (s', t') → topGo tb p w n₀ ann n s.abs t = some (s'.abs, t')
  | 0, _, _, _, _, h => by cases h; rfl
  | n + 1, s, s', t, t', h => by
    unfold goT at h
    unfold topGo
    cases he : through t with
    | true => rw [he] at h; cases h
    | false =>
      rw [he] at h
      cases hk : stepOk n₀ ann t with
      | false => rw [hk] at h; cases h
      | true =>
        rw [hk] at h
        cases hs : stepT (denote tb) p w s t with
        | none => rw [hs] at h; cases h
        | some r => obtain ⟨s₂, t₂⟩ := r; rw [hs] at h; rw [stepT_spec hs]; exact goT_of h

noncomputable def topT (tb : String → Option Builtin) (p : Program) (w : World) (n₀ : Nat) (ann : Option Value) : Nat → SharedT → Thread → Option SharedT
  | 0, _, _ => none
  | n + 1, s, t => match through t with
    | true => some s
    | false => match stepOk n₀ ann t with
      | false => none
      | true => match stepT (denote tb) p w s t with
        | some (s', t') => topT tb p w n₀ ann n s' t'
        | none => none
noncomputable def topW (tb : String → Option Builtin) (p : Program) (w : World) (n₀ : Nat) (ann : Option Value) : Nat → SharedT → Thread → Option SharedT
  | 0, _, _ => none
  | n + 1, s, t => match through t with
    | true => some s
    | false => match stepOkW n₀ ann t with
      | false => none
      | true => match stepTW (denW tb) p w s t with
        | some (s', t') => topW tb p w n₀ ann n s' t'
        | none => none
theorem top_eq : @topT = @topW := by
  funext tb p w n₀ ann n
  induction n with
  | zero => rfl
  | succ n ih => funext s t; simp only [topT, topW, ih, ← stepOk_eq, ← stepT_eq, ← den_eq]
theorem topT_of {tb : String → Option Builtin} {p : Program} {w : World} {n₀ : Nat} {ann : Option Value} : ∀ {n : Nat} {s s' : SharedT} {t : Thread}, topT tb p w n₀ ann n s t = some s' → topRun tb p w n₀ ann n s.abs t = some s'.abs
  | 0, _, _, _, h => by cases h
  | n + 1, s, s', t, h => by
    unfold topT at h
    unfold topRun
    cases he : through t with
    | true => rw [he] at h; cases h; rfl
    | false =>
      rw [he] at h
      cases hk : stepOk n₀ ann t with
      | false => rw [hk] at h; cases h
      | true =>
        rw [hk] at h
        cases hs : stepT (denote tb) p w s t with
        | none => rw [hs] at h; cases h
        | some r => obtain ⟨s₂, t₂⟩ := r; rw [hs] at h; rw [stepT_spec hs]; exact topT_of h

section
variable {tb : String → Option Builtin} {p : Program} {w : World} {n₀ : Nat} {ann : Option Value} {env : Env} {B : List Frame}
theorem pieceB {n N : Nat} {s s' r : Shared} {l rest : List Stmt} {c : Code} {pos p' : Pos} (hB : splitAtGen B = none) (h : segRun tb p w n₀ ann B.length n s (piecesOf l env c pos B) = some (.next, s', c, p'))
    (k : topRun tb p w n₀ ann N s' (restOf rest env c p' B) = some r) : topRun tb p w n₀ ann (n + N) s (restOf (l ++ rest) env c pos B) = some r := by
  obtain ⟨a, ha, hN⟩ := seg_top (res := id) (K' := fun f => match f with | .next => (execs rest env).wrap doneF (leaveH env) id id | f => doneF f) (H' := leaveH env) (B := B) hB n s (piecesOf l env c pos B)
    ⟨(execs l env).wrap (fun f => match f with | .next => (execs rest env).wrap doneF (leaveH env) id id | f => doneF f) (leaveH env) id id, c, pos, B⟩ _ _ _ _ ⟨rfl, rfl, .inl ⟨rfl, rfl, _, rfl, rfl⟩⟩ h
  obtain rfl : a = .next := ha
  have := hN N r k
  unfold restOf
  rw [execs_app_wrap]
  exact this
theorem blockB {n N : Nat} {s s' r : Shared} {b : List Stmt} {c : Code} {pos p' : Pos} (hB : splitAtGen B = none) (h : segRun tb p w n₀ ann B.length n s (blockOf b env c pos B) = some (.next, s', c, p'))
    (k : topRun tb p w n₀ ann N s' (restOf b env c p' B) = some r) : topRun tb p w n₀ ann (n + N) s ⟨denote tb (.body b env), c, pos, B⟩ = some r := by
  obtain ⟨a, ha, hN⟩ := seg_top (res := fun _ : Unit => Flow.next) (K' := fun _ => (execs b env).wrap doneF (leaveH env) id id) (H' := Sem.raise) (B := B) hB n s (blockOf b env c pos B)
    ⟨(blockStart b env).wrap (fun _ => (execs b env).wrap doneF (leaveH env) id id) .raise id id, c, pos, B⟩ _ _ _ _ ⟨rfl, rfl, .inl ⟨rfl, rfl, _, rfl, rfl⟩⟩ h
  rw [body_wrap]
  exact hN N r k
end

noncomputable def bootT (P : Params) : BT := ((((((((((BT.nil.ins 0 (boot_o_0 P)).ins 1 (boot_o_1 P)).ins 2 (boot_o_2 P)).ins 3 (boot_o_3 P)).ins 4 (boot_o_4 P)).ins 5 (boot_o_5 P)).ins 6 (boot_o_6 P)).ins 7 (boot_o_7 P)).ins 8 (boot_o_8 P)).ins 9 (boot_o_9 P)).ins 10 (boot_o_10 P)
noncomputable def bootLife : Life := (boot_heap ⟨fun _ => 0, fun _ => 0, fun _ => 0, fun _ => 0, fun _ _ => 0, fun _ => false, fun _ => 0, .refcount, .text, fun _ => 0, fun _ => none, fun _ => false, fun _ _ _ => true, fun _ _ _ => true, true, fun _ => false, fun _ => none, fun _ => none, fun _ _ _ => 0, fun _ _ => none, fun _ => none, fun _ => (0, false, ⟨#[]⟩), fun _ => none, fun d => d, fun _ => false⟩).life
theorem boot_abs (P : Params) : absHeap (bootT P) 11 bootLife = boot_heap P := by kernel_rfl
noncomputable def ST0 (P : Params) (os : OsState) : SharedT := ⟨bootT P, 11, bootLife, Array.mk [], boot_drawn, 181, os⟩
noncomputable def stubW : Thread :=
  ⟨(modCodeW TP.main TP.main.file none).bind fun code => (bodyFrameW code mainNs mainNs builtinsNs).bind fun frame =>
      (PySem.run (.body (behindTheImports TP) { scope := TP.main.scope, locals := mainNs, globals := mainNs, cells := [], code, frame := some frame })).bind fun _ => retW .none,
   .builtin "claim.caller" {}, default, []⟩
theorem stub_eq : topStub P0 = stubW := by
  rw [TP_eq]
  unfold topStub stubW
  simp only [modCode_eq, bodyFrame_eq, ret_eq]
  rfl
noncomputable abbrev AN : Option Value := some (.ref 6)
noncomputable def X0 (w : World) (os : OsState) : Option (SharedT × Thread) := goW TB TP w 11 AN 109 (ST0 w.params os) stubW
theorem X0_some (w : World) (os : OsState) : (X0 w os).isSome = true := by kernel_rfl
end
end Mine

end
section
open PySem PySem.W PyProof.Rows
namespace Mine
noncomputable section
noncomputable def isCls : Stmt → Option (List Stmt × Scope)
  | .ClassDef _ _ _ b _ _ sc _ _ _ _ => some (b, sc)
  | _ => none
noncomputable def clsB : List Stmt := match TP.main.body with | _ :: _ :: st :: _ => (match isCls st with | some (b, _) => b | none => []) | _ => []
noncomputable def clsSc : Scope := match TP.main.body with | _ :: _ :: st :: _ => (match isCls st with | some (_, sc) => sc | none => TP.main.scope) | _ => TP.main.scope
noncomputable def menv : Env := { scope := TP.main.scope, locals := 3, globals := 3, cells := [], code := .ref 13, frame := some 14 }
noncomputable def cenv : Env := { scope := clsSc, locals := 24, globals := 3, cells := [], qual := ⟨⟨[77, 80, 85, 46]⟩⟩, func := none, code := .ref 27, frame := some 28, builtins := 0 }
noncomputable abbrev posC : Pos := ⟨5, 0, 1029, 786⟩
noncomputable abbrev cM : Code := .body (behindTheImports TP) menv
noncomputable abbrev cC : Code := .body clsB cenv
noncomputable abbrev frC (k : Result → Sem Fin) : Frame := .ret k none false [.ref 22, .ref 22, .ref 24, .ref 28] cM posC []
noncomputable abbrev BC (k : Result → Sem Fin) : List Frame := [frC k, topFrame ⟨0, 0, 0, 0⟩]
noncomputable def s0 (w : World) (os : OsState) : SharedT := match X0 w os with | some (s, _) => s | none => ST0 w.params os
noncomputable def t0 (w : World) (os : OsState) : Thread := match X0 w os with | some (_, t) => t | none => stubW
theorem X0_eq (w : World) (os : OsState) : X0 w os = some (s0 w os, t0 w os) := by
  have h := X0_some w os
  unfold s0 t0
  revert h
  cases X0 w os with
  | none => intro h; cases h
  | some x => intro _; rfl
noncomputable def kOf (t : Thread) : Result → Sem Fin := match t.stack with | .ret k _ _ _ _ _ _ :: _ => k | _ => fun _ => .pure (.done .next)
theorem t0_eq (w : World) (os : OsState) : t0 w os = ⟨denW TB cC, cC, posC, BC (kOf (t0 w os))⟩ := by kernel_rfl

noncomputable def txts : List Str → Nat → List Value
  | [], _ => []
  | x :: r, k => .str x k :: txts r (k + 1)
noncomputable def dfl : List Expr → Nat → List Value × Nat
  | [], k => ([], k)
  | .Constant (.int i) _ _ :: r, k => match dfl r (k + 1) with | (vs, k') => (.int i k :: vs, k')
  | _ :: r, k => match dfl r k with | (vs, k') => (.none :: vs, k')
noncomputable abbrev fileS : Str := ⟨⟨[47, 99, 108, 97, 105, 109, 47, 99, 117, 116, 46, 112, 121]⟩⟩
noncomputable def modV : Value := .str ⟨⟨[112, 121, 54, 53, 46, 100, 101, 118, 105, 99, 101, 115, 46, 109, 112, 117, 54, 53, 48, 50]⟩⟩ 194
noncomputable def pushName (h : Int) (key v : Value) : Obj → Obj
  | ⟨c, d, .dict es n, s⟩ => ⟨c, d, .dict (es.toList ++ [(⟨h, key, v⟩ : DictEntry)]).toArray (n + 1), s⟩
  | o => o
noncomputable def defTail (P : Params) (T : BT) (n k : Nat) (dV : Value) (name qual : Str) (args : Arguments) (body : List Stmt) (scope : Scope) (pos : Pos) : BT × Nat × Nat :=
  match localNamesW args scope (.stmts body) with
  | none => (T, n, k)
  | some (l1, l2) =>
    let k3 := k + 3
    let k4 := k3 + l1.length
    let k5 := k4 + l2.length
    let T := T.ins n { cls := .type "tuple", data := .seq #[] }
    let T := T.ins (n + 1) { cls := .none, data := .fields #[] }
    let T := T.ins (n + 2) { cls := .type "tuple", data := .seq (txts l1 k3).toArray }
    let T := T.ins (n + 3) { cls := .type "tuple", data := .seq (txts l2 k4).toArray }
    let T := T.ins (n + 4) { cls := .none, data := .func { name := name, qualname := qual, params := args, body := .stmts body, scope := scope, globals := 0, closure := [], defaults := .none, kwdefaults := .none } }
    let T := T.ins (n + 5) { cls := .type "code", data := .fields #[.str name k, .str qual (k + 1), .str fileS (k + 2), .int pos.line 0, .int (args.posonlyargs.length + args.args.length : Nat) 0, .int 0 0, .int 0 0, .int 3 0, .ref n, .bool true, .int 181 0, .ref (n + 1), .none, .ref (n + 2), .ref (n + 3), .ref (n + 4), .int (k5 : Nat) 0, .int pos.line 0, .str fileS (k5 + 1)] }
    let T := T.ins (n + 6) { cls := .type "function", data := .func { name := name, qualname := qual, params := args, body := .stmts body, scope := scope, globals := 3, closure := [], defaults := dV, kwdefaults := .none, doc := .none, pyModule := modV, annotations := none, code := .ref (n + 5), closureTuple := .none, builtins := 0 } }
    let T := T.set 26 (Obj.mapFields fun vs => vs ++ #[.int pos.line 0, .int pos.col 0, .ref (n + 5)])
    let T := T.set 24 (pushName (PyData.keyHash P name) (.str name (k5 + 2)) (.ref (n + 6)))
    (T, n + 7, k5 + 3)
noncomputable def instrL : List Addr := [372, 379, 365, 365, 365, 386, 393, 365, 400, 407, 414, 365, 365, 421, 428, 365, 435, 442, 365, 365, 365, 449, 456, 365, 463, 470, 365, 365, 365, 477, 484, 365, 491, 498, 365, 365, 505, 512, 519, 365, 526, 533, 540, 365, 547, 554, 561, 365, 568, 575, 365, 365, 365, 582, 589, 365, 596, 603, 365, 365, 365, 610, 617, 365, 624, 631, 365, 365, 365, 638, 645, 365, 652, 659, 666, 365, 673, 680, 687, 365, 694, 701, 365, 365, 365, 708, 715, 365, 722, 729, 365, 365, 365, 736, 743, 365, 750, 757, 365, 365, 365, 764, 771, 365, 778, 785, 792, 365, 799, 806, 813, 365, 820, 827, 365, 365, 365, 834, 841, 365, 848, 855, 365, 365, 365, 862, 869, 365, 365, 876, 365, 365, 883, 890, 897, 365, 904, 365, 911, 365, 918, 925, 932, 365, 939, 946, 365, 365, 953, 960, 967, 365, 974, 981, 988, 365, 365, 995, 365, 365, 1002, 1009, 1016, 365, 1023, 1030, 1037, 365, 1044, 1051, 1058, 365, 1065, 1072, 1079, 365, 1086, 1093, 365, 365, 1100, 1107, 1114, 365, 1121, 1128, 1135, 365, 1142, 1149, 1156, 365, 1163, 1170, 365, 365, 1177, 1184, 1191, 365, 1198, 1205, 1212, 365, 1219, 1226, 1233, 365, 1240, 1247, 365, 365, 365, 1254, 1261, 365, 1268, 1275, 365, 365, 365, 1282, 1289, 365, 1296, 1303, 365, 365, 1310, 1317, 1324, 365, 1331, 1338, 1345, 365, 1352, 1359, 1366, 365, 1373, 1380, 365, 365, 365, 1387, 1394, 365, 1401, 1408, 365, 365, 365, 1415, 1422, 365]
noncomputable def listVals (k : Nat) : List Expr → List Value × Nat
  | .Name _ _ :: _ => (instrL.map Value.ref, k)
  | es => dfl es k
noncomputable def defOne (P : Params) (x : BT × Nat × Nat) (st : Stmt) : BT × Nat × Nat := match x with
  | (T, n, k) => match st with
    | .FunctionDef name args body _ _ _ scope _ _ pos => match args.defaults with
      | [] => defTail P T n k .none name (cenv.qual ++ name) args body scope pos
      | ds => match dfl ds k with
        | (vs, k') => defTail P (T.ins n { cls := .type "tuple", data := .seq vs.toArray }) (n + 1) k' (.ref n) name (cenv.qual ++ name) args body scope pos
    | .Assign (.Name x _ :: _) (.Constant (.int i) _ _) _ => (T.set 24 (pushName (PyData.keyHash P x) (.str x (k + 1)) (.int i k)), n, k + 2)
    | .Assign (.Name x _ :: _) (.Constant (.str s) _ _) _ => (T.set 24 (pushName (PyData.keyHash P x) (.str x (k + 1)) (.str s k)), n, k + 2)
    | .Assign (.Name x _ :: _) (.List elts _) _ => match listVals k elts with
      | (vs, k') => ((T.ins n { cls := .type "list", data := .seq vs.toArray }).set 24 (pushName (PyData.keyHash P x) (.str x k') (.ref n)), n + 1, k' + 1)
    | _ => (T, n, k)
noncomputable def Sj (w : World) (os : OsState) (j : Nat) : SharedT := match s0 w os with
  | ⟨T, n, life, gens, drawn, k, os⟩ => match (clsB.take j).foldl (defOne w.params) (T, n, k) with
    | (T', n', k') => ⟨T', n', life, gens, drawn, k', os⟩
noncomputable def posAt : List Stmt → Pos → Pos
  | [], p => p
  | [.FunctionDef _ _ _ _ _ _ _ _ _ p], _ => p
  | [.Assign (.Name _ p :: _) _ _], _ => p
  | _ :: r, p => posAt r p
noncomputable def posJ (j : Nat) : Pos := posAt (clsB.take j) posC
noncomputable abbrev piece (w : World) (os : OsState) (k : Result → Sem Fin) (n i j : Nat) : Prop :=
  segW TB TP w 11 AN 2 n (Sj w os i) ⟨(execsW ((clsB.drop i).take (j - i)) cenv).wrap doneF deadEnd id id, cC, posJ i, BC k⟩ = some (.next, Sj w os j, cC, posJ j)
theorem p1 (w : World) (os : OsState) (k : Result → Sem Fin) : piece w os k 186 0 16 := by kernel_rfl
end
end Mine

end
section
open PySem PySem.W PyProof.Rows
namespace Mine
noncomputable section
noncomputable abbrev leavingW := @PySem.W.Fast.tw9442747609961115081
theorem leaving_eq : @leaving = @leavingW := PySem.W.Fast.te9442747609961115081
noncomputable abbrev blockStartW := @PySem.W.Fast.tw1066825118222455980
theorem blockStart_eq : @blockStart = @blockStartW := PySem.W.Fast.te1066825118222455980
noncomputable abbrev openSeenW := @PySem.W.Fast.tw4187177175401517315
theorem openSeen_eq : @openSeen = @openSeenW := PySem.W.Fast.te4187177175401517315
noncomputable abbrev importedW := @PySem.W.Fast.tw5923862056798008813
theorem imported_eq : @importedModules = @importedW := PySem.W.Fast.te5923862056798008813
noncomputable abbrev leaveHW (env : Env) : Value → Sem Fin := fun e => ((leavingW env e).bind fun _ => (.raise e : Sem Flow)).wrap doneF .raise id id
noncomputable def tailT (w : World) (os : OsState) : Thread := ⟨(execsW (clsB.drop 217) cenv).wrap doneF (leaveHW cenv) id id, cC, posJ 217, BC (kOf (t0 w os))⟩
noncomputable def XE (w : World) (os : OsState) : Option SharedT := topW TB TP w 11 AN 3000 (Sj w os 217) (tailT w os)
theorem blk (w : World) (os : OsState) (k : Result → Sem Fin) : segW TB TP w 11 AN 2 1 (s0 w os) ⟨(blockStartW clsB cenv).wrap (fun _ => doneF .next) deadEnd id id, cC, posC, BC k⟩ = some (.next, s0 w os, cC, posC) := by kernel_rfl
theorem s0_S0 (w : World) (os : OsState) : s0 w os = Sj w os 0 := by kernel_rfl
theorem pos0 : posJ 0 = posC := by kernel_rfl

theorem Pc {w : World} {os : OsState} {k : Result → Sem Fin} {n i j : Nat} (p : piece w os k n i j) :
    segRun treeTable P0 w 11 AN (BC k).length n (Sj w os i).abs (piecesOf ((clsB.drop i).take (j - i)) cenv cC (posJ i) (BC k)) = some (.next, (Sj w os j).abs, cC, posJ j) := by
  apply segRun_of
  rw [seg_eq, TB_eq, TP_eq]
  unfold piecesOf
  rw [execs_eq]
  exact p
theorem drops {i j : Nat} (h : i ≤ j) (l : List Stmt) : (l.drop i).take (j - i) ++ l.drop j = l.drop i := by
  have := List.take_append_drop (j - i) (l.drop i)
  rw [List.drop_drop, show i + (j - i) = j by lia] at this
  exact this
theorem runC {w : World} {os : OsState} {k : Result → Sem Fin} {n i j N : Nat} {r : Shared} (h : i ≤ j) (p : piece w os k n i j)
    (q : topRun treeTable P0 w 11 AN N (Sj w os j).abs (restOf (clsB.drop j) cenv cC (posJ j) (BC k)) = some r) :
    topRun treeTable P0 w 11 AN (n + N) (Sj w os i).abs (restOf (clsB.drop i) cenv cC (posJ i) (BC k)) = some r := by
  rw [← drops h clsB]
  exact pieceB rfl (Pc p) q
noncomputable def Rn (w : World) (os : OsState) (k : Result → Sem Fin) (n i j : Nat) : Prop :=
  ∀ N r, topRun treeTable P0 w 11 AN N (Sj w os j).abs (restOf (clsB.drop j) cenv cC (posJ j) (BC k)) = some r → topRun treeTable P0 w 11 AN (n + N) (Sj w os i).abs (restOf (clsB.drop i) cenv cC (posJ i) (BC k)) = some r
theorem Rn_of {w : World} {os : OsState} {k : Result → Sem Fin} {n i j : Nat} (h : Nat.ble i j = true) (p : piece w os k n i j) : Rn w os k n i j := fun _ _ q => runC (Nat.le_of_ble_eq_true h) p q
theorem Rn_tr {w : World} {os : OsState} {k : Result → Sem Fin} {n m t i j l : Nat} (e : n + m = t) (a : Rn w os k n i j) (b : Rn w os k m j l) : Rn w os k t i l := by
  intro N r q
  rw [← e, Nat.add_assoc]
  exact a _ _ (b _ _ q)
theorem run_end {w : World} {os : OsState} {s : SharedT} (h : XE w os = some s) :
    topRun treeTable P0 w 11 AN 3000 (Sj w os 217).abs (restOf (clsB.drop 217) cenv cC (posJ 217) (BC (kOf (t0 w os)))) = some s.abs := by
  apply topT_of
  rw [top_eq, TB_eq, TP_eq]
  unfold restOf
  rw [execs_eq]
  have e : leaveH cenv = leaveHW cenv := by unfold leaveH leaveHW; rw [leaving_eq]
  rw [e]
  exact h
theorem run_all {w : World} {os : OsState} {s : SharedT} {n1 n2 n3 n4 n5 n6 n7 n8 : Nat} {a b c d e f g : Nat}
    (h1 : ∀ k, Rn w os k n1 0 a) (h2 : ∀ k, Rn w os k n2 a b) (h3 : ∀ k, Rn w os k n3 b c) (h4 : ∀ k, Rn w os k n4 c d) (h5 : ∀ k, Rn w os k n5 d e) (h6 : ∀ k, Rn w os k n6 e f) (h7 : ∀ k, Rn w os k n7 f g) (h8 : ∀ k, Rn w os k n8 g 217) (h : XE w os = some s) :
    topRun treeTable P0 w 11 AN (109 + (1 + (n1 + (n2 + (n3 + (n4 + (n5 + (n6 + (n7 + (n8 + 3000)))))))))) (ST0 w.params os).abs (topStub P0) = some s.abs := by
  have gg : goT treeTable P0 w 11 AN 109 (ST0 w.params os) (topStub P0) = some (s0 w os, t0 w os) := by
    rw [go_eq, TB_eq, stub_eq, TP_eq]
    exact X0_eq w os
  refine go_top (goT_of gg) ?_
  rw [t0_eq]
  rw [← den_eq, ← TB_eq]
  refine blockB (B := BC (kOf (t0 w os))) rfl (s' := (s0 w os).abs) (p' := posC) ?_ ?_
  · apply segRun_of
    rw [seg_eq, TB_eq, TP_eq]
    unfold blockOf
    rw [blockStart_eq]
    exact blk w os _
  · rw [s0_S0, ← pos0]
    exact h1 _ _ _ (h2 _ _ _ (h3 _ _ _ (h4 _ _ _ (h5 _ _ _ (h6 _ _ _ (h7 _ _ _ (h8 _ _ _ (run_end h))))))))
end
end Mine

end
section
open PySem PySem.W PyProof.Rows
namespace Mine
noncomputable section
noncomputable def cstNames : List (Str × Int) := [(⟨⟨[78, 69, 71, 65, 84, 73, 86, 69]⟩⟩, 128), (⟨⟨[79, 86, 69, 82, 70, 76, 79, 87]⟩⟩, 64), (⟨⟨[85, 78, 85, 83, 69, 68]⟩⟩, 32), (⟨⟨[66, 82, 69, 65, 75]⟩⟩, 16), (⟨⟨[68, 69, 67, 73, 77, 65, 76]⟩⟩, 8), (⟨⟨[73, 78, 84, 69, 82, 82, 85, 80, 84]⟩⟩, 4), (⟨⟨[90, 69, 82, 79]⟩⟩, 2), (⟨⟨[67, 65, 82, 82, 89]⟩⟩, 1), (⟨⟨[66, 89, 84, 69, 95, 87, 73, 68, 84, 72]⟩⟩, 8), (⟨⟨[65, 68, 68, 82, 95, 87, 73, 68, 84, 72]⟩⟩, 16)]
noncomputable def methNames : List (Str × Nat × Nat) := [(⟨⟨[95, 95, 105, 110, 105, 116, 95, 95]⟩⟩, 15, 36), (⟨⟨[115, 116, 101, 112]⟩⟩, 16, 43), (⟨⟨[114, 101, 115, 101, 116]⟩⟩, 17, 50), (⟨⟨[66, 121, 116, 101, 65, 116]⟩⟩, 20, 71), (⟨⟨[87, 111, 114, 100, 65, 116]⟩⟩, 21, 78), (⟨⟨[87, 114, 97, 112, 65, 116]⟩⟩, 22, 85), (⟨⟨[80, 114, 111, 103, 114, 97, 109, 67, 111, 117, 110, 116, 101, 114]⟩⟩, 23, 92), (⟨⟨[90, 101, 114, 111, 80, 97, 103, 101, 65, 100, 100, 114]⟩⟩, 25, 106), (⟨⟨[73, 110, 100, 105, 114, 101, 99, 116, 89, 65, 100, 100, 114]⟩⟩, 29, 134), (⟨⟨[73, 109, 109, 101, 100, 105, 97, 116, 101, 66, 121, 116, 101]⟩⟩, 24, 99), (⟨⟨[66, 114, 97, 110, 99, 104, 82, 101, 108, 65, 100, 100, 114]⟩⟩, 33, 162), (⟨⟨[115, 116, 80, 117, 115, 104]⟩⟩, 34, 169), (⟨⟨[115, 116, 80, 111, 112]⟩⟩, 35, 176), (⟨⟨[115, 116, 80, 117, 115, 104, 87, 111, 114, 100]⟩⟩, 36, 183), (⟨⟨[115, 116, 80, 111, 112, 87, 111, 114, 100]⟩⟩, 37, 190), (⟨⟨[70, 108, 97, 103, 115, 78, 90]⟩⟩, 38, 197), (⟨⟨[111, 112, 79, 82, 65]⟩⟩, 39, 204), (⟨⟨[111, 112, 66, 67, 76]⟩⟩, 42, 225), (⟨⟨[111, 112, 66, 83, 84]⟩⟩, 43, 232), (⟨⟨[111, 112, 83, 69, 84]⟩⟩, 45, 246), (⟨⟨[111, 112, 83, 84, 65]⟩⟩, 52, 295), (⟨⟨[111, 112, 83, 84, 88]⟩⟩, 54, 309), (⟨⟨[111, 112, 83, 66, 67]⟩⟩, 56, 323), (⟨⟨[111, 112, 73, 78, 67, 82]⟩⟩, 58, 337), (⟨⟨[111, 112, 76, 68, 65]⟩⟩, 59, 344), (⟨⟨[111, 112, 76, 68, 89]⟩⟩, 60, 351), (⟨⟨[111, 112, 76, 68, 88]⟩⟩, 61, 358), (⟨⟨[90, 101, 114, 111, 80, 97, 103, 101, 88, 65, 100, 100, 114]⟩⟩, 26, 113), (⟨⟨[65, 98, 115, 111, 108, 117, 116, 101, 88, 65, 100, 100, 114]⟩⟩, 31, 148), (⟨⟨[65, 98, 115, 111, 108, 117, 116, 101, 89, 65, 100, 100, 114]⟩⟩, 32, 155), (⟨⟨[111, 112, 65, 83, 76]⟩⟩, 40, 211), (⟨⟨[111, 112, 76, 83, 82]⟩⟩, 41, 218), (⟨⟨[111, 112, 67, 76, 82]⟩⟩, 44, 239), (⟨⟨[111, 112, 82, 79, 76]⟩⟩, 48, 267), (⟨⟨[111, 112, 69, 79, 82]⟩⟩, 49, 274), (⟨⟨[111, 112, 65, 68, 67]⟩⟩, 50, 281), (⟨⟨[111, 112, 82, 79, 82]⟩⟩, 51, 288), (⟨⟨[111, 112, 83, 84, 89]⟩⟩, 53, 302), (⟨⟨[111, 112, 67, 77, 80, 82]⟩⟩, 55, 316), (⟨⟨[111, 112, 68, 69, 67, 82]⟩⟩, 57, 330)]
noncomputable def instNames : List (Str × Nat × Nat) := [(⟨⟨[105, 110, 115, 116, 95, 48, 120, 97, 48]⟩⟩, 153, 1002), (⟨⟨[105, 110, 115, 116, 95, 48, 120, 98, 49]⟩⟩, 166, 1093), (⟨⟨[105, 110, 115, 116, 95, 48, 120, 99, 56]⟩⟩, 181, 1198), (⟨⟨[105, 110, 115, 116, 95, 48, 120, 49, 49]⟩⟩, 73, 442), (⟨⟨[105, 110, 115, 116, 95, 48, 120, 100, 48]⟩⟩, 187, 1240), (⟨⟨[105, 110, 115, 116, 95, 48, 120, 54, 48]⟩⟩, 117, 750), (⟨⟨[105, 110, 115, 116, 95, 48, 120, 51, 56]⟩⟩, 95, 596), (⟨⟨[105, 110, 115, 116, 95, 48, 120, 102, 49]⟩⟩, 207, 1380), (⟨⟨[105, 110, 115, 116, 95, 48, 120, 98, 48]⟩⟩, 165, 1086), (⟨⟨[105, 110, 115, 116, 95, 48, 120, 97, 53]⟩⟩, 157, 1030), (⟨⟨[105, 110, 115, 116, 95, 48, 120, 97, 54]⟩⟩, 158, 1037), (⟨⟨[105, 110, 115, 116, 95, 48, 120, 56, 53]⟩⟩, 137, 890), (⟨⟨[105, 110, 115, 116, 95, 48, 120, 56, 54]⟩⟩, 138, 897), (⟨⟨[105, 110, 115, 116, 95, 48, 120, 52, 99]⟩⟩, 106, 673), (⟨⟨[105, 110, 115, 116, 95, 48, 120, 57, 49]⟩⟩, 145, 946), (⟨⟨[105, 110, 115, 116, 95, 48, 120, 50, 48]⟩⟩, 80, 491), (⟨⟨[105, 110, 115, 116, 95, 48, 120, 101, 54]⟩⟩, 199, 1324), (⟨⟨[105, 110, 115, 116, 95, 48, 120, 97, 57]⟩⟩, 160, 1051), (⟨⟨[105, 110, 115, 116, 95, 48, 120, 97, 50]⟩⟩, 155, 1016), (⟨⟨[105, 110, 115, 116, 95, 48, 120, 52, 54]⟩⟩, 102, 645), (⟨⟨[105, 110, 115, 116, 95, 48, 120, 57, 48]⟩⟩, 144, 939), (⟨⟨[105, 110, 115, 116, 95, 48, 120, 49, 56]⟩⟩, 76, 463), (⟨⟨[105, 110, 115, 116, 95, 48, 120, 54, 53]⟩⟩, 119, 764), (⟨⟨[105, 110, 115, 116, 95, 48, 120, 54, 97]⟩⟩, 123, 792), (⟨⟨[105, 110, 115, 116, 95, 48, 120, 54, 54]⟩⟩, 120, 771), (⟨⟨[105, 110, 115, 116, 95, 48, 120, 99, 97]⟩⟩, 183, 1212), (⟨⟨[105, 110, 115, 116, 95, 48, 120, 48, 54]⟩⟩, 66, 393), (⟨⟨[105, 110, 115, 116, 95, 48, 120, 50, 54]⟩⟩, 84, 519), (⟨⟨[105, 110, 115, 116, 95, 48, 120, 50, 97]⟩⟩, 87, 540), (⟨⟨[105, 110, 115, 116, 95, 48, 120, 99, 53]⟩⟩, 179, 1184), (⟨⟨[105, 110, 115, 116, 95, 48, 120, 101, 53]⟩⟩, 198, 1317), (⟨⟨[105, 110, 115, 116, 95, 48, 120, 56, 56]⟩⟩, 139, 904), (⟨⟨[105, 110, 115, 116, 95, 48, 120, 98, 57]⟩⟩, 171, 1128), (⟨⟨[105, 110, 115, 116, 95, 48, 120, 52, 56]⟩⟩, 103, 652), (⟨⟨[105, 110, 115, 116, 95, 48, 120, 54, 56]⟩⟩, 121, 778), (⟨⟨[105, 110, 115, 116, 95, 48, 120, 99, 48]⟩⟩, 176, 1163), (⟨⟨[105, 110, 115, 116, 95, 48, 120, 56, 52]⟩⟩, 136, 883), (⟨⟨[105, 110, 115, 116, 95, 48, 120, 53, 48]⟩⟩, 109, 694), (⟨⟨[105, 110, 115, 116, 95, 48, 120, 52, 57]⟩⟩, 104, 659), (⟨⟨[105, 110, 115, 116, 95, 48, 120, 49, 48]⟩⟩, 72, 435), (⟨⟨[105, 110, 115, 116, 95, 48, 120, 100, 49]⟩⟩, 188, 1247), (⟨⟨[105, 110, 115, 116, 95, 48, 120, 97, 52]⟩⟩, 156, 1023), (⟨⟨[105, 110, 115, 116, 95, 48, 120, 98, 100]⟩⟩, 174, 1149), (⟨⟨[105, 110, 115, 116, 95, 48, 120, 100, 100]⟩⟩, 193, 1282), (⟨⟨[105, 110, 115, 116, 95, 48, 120, 102, 100]⟩⟩, 212, 1415), (⟨⟨[105, 110, 115, 116, 95, 48, 120, 98, 99]⟩⟩, 173, 1142), (⟨⟨[105, 110, 115, 116, 95, 48, 120, 57, 100]⟩⟩, 152, 995), (⟨⟨[105, 110, 115, 116, 95, 48, 120, 57, 56]⟩⟩, 149, 974), (⟨⟨[105, 110, 115, 116, 95, 48, 120, 101, 56]⟩⟩, 200, 1331), (⟨⟨[105, 110, 115, 116, 95, 48, 120, 101, 52]⟩⟩, 197, 1310), (⟨⟨[105, 110, 115, 116, 95, 48, 120, 102, 48]⟩⟩, 206, 1373), (⟨⟨[105, 110, 115, 116, 95, 48, 120, 100, 53]⟩⟩, 189, 1254), (⟨⟨[105, 110, 115, 116, 95, 48, 120, 98, 53]⟩⟩, 168, 1107), (⟨⟨[105, 110, 115, 116, 95, 48, 120, 97, 97]⟩⟩, 161, 1058), (⟨⟨[105, 110, 115, 116, 95, 48, 120, 57, 53]⟩⟩, 147, 960), (⟨⟨[105, 110, 115, 116, 95, 48, 120, 102, 54]⟩⟩, 209, 1394), (⟨⟨[105, 110, 115, 116, 95, 48, 120, 56, 97]⟩⟩, 140, 911), (⟨⟨[105, 110, 115, 116, 95, 48, 120, 100, 54]⟩⟩, 190, 1261)]
noncomputable def metNames : List (Str × Nat × Nat) := methNames ++ instNames
noncomputable def tabNames : List (Str × Addr) := [(⟨⟨[105, 110, 115, 116, 114, 117, 99, 116]⟩⟩, 1423), (⟨⟨[99, 121, 99, 108, 101, 116, 105, 109, 101]⟩⟩, 1424), (⟨⟨[101, 120, 116, 114, 97, 99, 121, 99, 108, 101, 115]⟩⟩, 1425)]
noncomputable def absNames : List Str := [⟨⟨[110, 97, 109, 101]⟩⟩, ⟨⟨[98, 121, 116, 101, 77, 97, 115, 107]⟩⟩, ⟨⟨[97, 100, 100, 114, 77, 97, 115, 107]⟩⟩, ⟨⟨[97, 100, 100, 114, 72, 105, 103, 104, 77, 97, 115, 107]⟩⟩, ⟨⟨[115, 112, 66, 97, 115, 101]⟩⟩, ⟨⟨[101, 120, 99, 121, 99, 108, 101, 115]⟩⟩, ⟨⟨[97, 100, 100, 99, 121, 99, 108, 101, 115]⟩⟩, ⟨⟨[112, 114, 111, 99, 101, 115, 115, 111, 114, 67, 121, 99, 108, 101, 115]⟩⟩, ⟨⟨[109, 101, 109, 111, 114, 121]⟩⟩, ⟨⟨[115, 116, 97, 114, 116, 95, 112, 99]⟩⟩, ⟨⟨[112, 99]⟩⟩, ⟨⟨[115, 112]⟩⟩, ⟨⟨[97]⟩⟩, ⟨⟨[120]⟩⟩, ⟨⟨[121]⟩⟩, ⟨⟨[112]⟩⟩, ⟨⟨[95, 95, 103, 101, 116, 97, 116, 116, 114, 105, 98, 117, 116, 101, 95, 95]⟩⟩, ⟨⟨[95, 95, 103, 101, 116, 97, 116, 116, 114, 95, 95]⟩⟩, ⟨⟨[95, 95, 115, 101, 116, 97, 116, 116, 114, 95, 95]⟩⟩, ⟨⟨[95, 95, 110, 101, 119, 95, 95]⟩⟩, ⟨⟨[95, 95, 99, 97, 108, 108, 95, 95]⟩⟩, ⟨⟨[95, 95, 99, 108, 97, 115, 115, 95, 95]⟩⟩]

noncomputable def cycL : List Int := [7, 6, 0, 0, 0, 3, 5, 0, 3, 2, 2, 0, 0, 4, 6, 0, 2, 5, 0, 0, 0, 4, 6, 0, 2, 4, 0, 0, 0, 4, 7, 0, 6, 6, 0, 0, 3, 3, 5, 0, 4, 2, 2, 0, 4, 4, 6, 0, 2, 5, 0, 0, 0, 4, 6, 0, 2, 4, 0, 0, 0, 4, 7, 0, 6, 6, 0, 0, 0, 3, 5, 0, 3, 2, 2, 0, 3, 4, 6, 0, 2, 5, 0, 0, 0, 4, 6, 0, 2, 4, 0, 0, 0, 4, 7, 0, 6, 6, 0, 0, 0, 3, 5, 0, 4, 2, 2, 0, 5, 4, 6, 0, 2, 5, 0, 0, 0, 4, 6, 0, 2, 4, 0, 0, 0, 4, 7, 0, 0, 6, 0, 0, 3, 3, 3, 0, 2, 0, 2, 0, 4, 4, 4, 0, 2, 6, 0, 0, 4, 4, 4, 0, 2, 5, 2, 0, 0, 5, 0, 0, 2, 6, 2, 0, 3, 3, 3, 0, 2, 2, 2, 0, 4, 4, 4, 0, 2, 5, 0, 0, 4, 4, 4, 0, 2, 4, 2, 0, 4, 4, 4, 0, 2, 6, 0, 0, 3, 3, 5, 0, 2, 2, 2, 0, 4, 4, 3, 0, 2, 5, 0, 0, 0, 4, 6, 0, 2, 4, 0, 0, 0, 4, 7, 0, 2, 6, 0, 0, 3, 3, 5, 0, 2, 2, 2, 0, 4, 4, 6, 0, 2, 5, 0, 0, 0, 4, 6, 0, 2, 4, 0, 0, 0, 4, 7, 0]
noncomputable def extL : List Int := [0, 0, 0, 0, 0, 0, 0, 0, 0, 0, 0, 0, 0, 0, 0, 0, 2, 1, 0, 0, 0, 0, 0, 0, 0, 1, 0, 0, 0, 1, 0, 0, 0, 0, 0, 0, 0, 0, 0, 0, 0, 0, 0, 0, 0, 0, 0, 0, 2, 1, 0, 0, 0, 0, 0, 0, 0, 1, 0, 0, 0, 1, 0, 0, 0, 0, 0, 0, 0, 0, 0, 0, 0, 0, 0, 0, 0, 0, 0, 0, 2, 1, 0, 0, 0, 0, 0, 0, 0, 1, 0, 0, 0, 1, 0, 0, 0, 0, 0, 0, 0, 0, 0, 0, 0, 0, 0, 0, 0, 0, 0, 0, 2, 1, 0, 0, 0, 0, 0, 0, 0, 1, 0, 0, 0, 1, 0, 0, 0, 0, 0, 0, 0, 0, 0, 0, 0, 0, 0, 0, 0, 0, 0, 0, 2, 0, 0, 0, 0, 0, 0, 0, 0, 0, 0, 0, 0, 0, 0, 0, 0, 0, 0, 0, 0, 0, 0, 0, 0, 0, 0, 0, 0, 0, 0, 0, 2, 1, 0, 0, 0, 0, 0, 0, 0, 1, 0, 0, 1, 1, 1, 0, 0, 0, 0, 0, 0, 0, 0, 0, 0, 0, 0, 0, 0, 0, 0, 0, 2, 1, 0, 0, 0, 0, 0, 0, 0, 1, 0, 0, 0, 1, 0, 0, 0, 0, 0, 0, 0, 0, 0, 0, 0, 0, 0, 0, 0, 0, 0, 0, 2, 1, 0, 0, 0, 0, 0, 0, 0, 1, 0, 0, 0, 1, 0, 0]

noncomputable def bare : Value → Value
  | .int i _ => .int i 0
  | .str s _ => .str s 0
  | v => v
noncomputable def fObj (j a : Nat) : Obj := match clsB[j]? with
  | some (.FunctionDef name args body _ _ _ scope _ _ _) => { cls := .type "function", data := .func { name := name, qualname := cenv.qual ++ name, params := args, body := .stmts body, scope := scope, globals := 3, closure := [], defaults := (match args.defaults with | [] => .none | _ => .ref 29), kwdefaults := .none, doc := .none, pyModule := modV, annotations := none, code := .ref (a - 1), closureTuple := .none, builtins := 0 } }
  | _ => default
noncomputable def fQual (j : Nat) : Str := match clsB[j]? with
  | some (.FunctionDef name _ _ _ _ _ _ _ _ _) => cenv.qual ++ name
  | _ => ⟨#[]⟩
noncomputable def codeQ (o : Obj) : Option Str := match o.data with
  | .fields vs => (match vs.toList with | _ :: .str q _ :: _ => some q | _ => none)
  | _ => none
noncomputable def seqOf (o : Obj) : Option (Value × List Value) := match o.data with
  | .seq xs _ => some (o.cls, xs.toList.map bare)
  | _ => none
noncomputable def clsO : Obj := { cls := .type "type", data := .cls ⟨⟨⟨[77, 80, 85]⟩⟩, [.type "object"], [.ref 1428, .type "object"], 1427, ⟨⟨[77, 80, 85]⟩⟩, true, [], [], false, none, false⟩, slots := #[none, none, some (.str ⟨⟨[77, 80, 85]⟩⟩ 196), some (.str ⟨⟨[77, 80, 85]⟩⟩ 204), some (.builtin "object.__new__"), some (.bool true)] }
noncomputable def codeHd (o : Obj) : Option (Value × List (Option Value)) := match o.data with
  | .fields vs => some (o.cls, [7, 9, 10, 11, 18].map fun i => (vs.toList[i]?).map bare)
  | _ => none
noncomputable abbrev ObsX : Type := Option (Option Value) × Option Obj × Option (Value × List (Option Value))
noncomputable abbrev Obs : Type := Option Obj × ObsX × (Option (Value × Option Addr × Array (Option Value))) × List (Option (Option Value)) × List (Option Obj) × List (Option Str) × List (Option (Value × List Value)) × Option (Value × List Value)
noncomputable def dictHd (o : Obj) : Option (Value × Option Addr × Array (Option Value)) := match o.data with
  | .dict _ _ => some (o.cls, o.dict, o.slots)
  | _ => none
noncomputable def Yg (g : Addr → Option Obj) : Obs :=
  (g 1428, ((g 3).bind fun o => lookIn ⟨⟨[77, 80, 85]⟩⟩ o, g 80, (g 84).bind codeHd), (g 1427).bind dictHd, (cstNames.map (·.1) ++ methNames.map (·.1) ++ tabNames.map (·.1) ++ absNames).map (fun x => (g 1427).bind fun o => (lookIn x o).map (Option.map bare)),
   metNames.map (fun x => g x.2.2), metNames.map (fun x => (g (x.2.2 - 1)).bind codeQ), tabNames.map (fun x => (g x.2).bind seqOf), (g 29).bind seqOf)
noncomputable def Ya (_ : World) : Obs :=
  (some clsO, (some (some (.ref 1428)), some { cls := .none, data := .fields #[] }, some (.type "code", [some (.int 3 0), some (.bool true), some (.int 181 0), some (.ref 80), some (.str fileS 0)])), some (.type "dict", none, #[]), cstNames.map (fun x => some (some (.int x.2 0))) ++ methNames.map (fun x => some (some (.ref x.2.2))) ++ tabNames.map (fun x => some (some (.ref x.2))) ++ absNames.map (fun _ => some none),
   metNames.map (fun x => some (fObj x.2.1 x.2.2)), metNames.map (fun x => some (fQual x.2.1)),
   [some (.type "list", instrL.map Value.ref), some (.type "list", cycL.map fun i => .int i 0), some (.type "list", extL.map fun i => .int i 0)], some (.type "tuple", [.none, .int 0 0]))
noncomputable def qP : Program := { TP with main := { TP.main with body := TP.main.body.drop 4 } }
noncomputable def looseL : List Str := [⟨⟨[95, 119, 97, 108, 108]⟩⟩, ⟨⟨[77, 80, 85]⟩⟩]
noncomputable def gT (s : SharedT) (a : Addr) : Option Obj := match Nat.blt a s.n with
  | true => (s.tree.get a).bind alive
  | false => none
noncomputable def obs (w : World) (s : SharedT) := (s.n, (staticsOk (importedW TP.main.body) (boot_heap w.params) s.abs.heap && namesBound TP s.abs.heap && gensDone s.abs && laidKept (boot_heap w.params) s.abs.heap), openSeenW qP looseL (importedW TP.main.body) (fun _ => true) true s.abs, Yg (gT s))
theorem XE_obs (w : World) (os : OsState) : (XE w os).map (obs w) = some (1438, true, openGood qP looseL, Ya w) := by kernel_rfl
end
end Mine

end
section
open PySem PySem.W PyProof.Rows
namespace Mine
noncomputable section
noncomputable def allNames : List Str := cstNames.map (·.1) ++ methNames.map (·.1) ++ tabNames.map (·.1) ++ absNames
noncomputable def allVals : List (Option (Option Value)) := cstNames.map (fun x => some (some (.int x.2 0))) ++ methNames.map (fun x => some (some (.ref x.2.2))) ++ tabNames.map (fun x => some (some (.ref x.2))) ++ absNames.map (fun _ => some none)
noncomputable def tabVals : List (Option (Value × List Value)) := [some (.type "list", instrL.map Value.ref), some (.type "list", cycL.map fun i => .int i 0), some (.type "list", extL.map fun i => .int i 0)]
structure MpuAt (h : Heap) (es : Array DictEntry) (n : Nat) : Prop where
  cls : h.get? 1428 = some clsO
  nso : h.get? 1427 = some ⟨.type "dict", none, .dict es n, #[]⟩
  look : allNames.map (fun x => (lookIn x ⟨.type "dict", none, .dict es n, #[]⟩).map (Option.map bare)) = allVals
  fns : ∀ x ∈ metNames, h.get? x.2.2 = some (fObj x.2.1 x.2.2)
  codes : ∀ x ∈ metNames, ∃ o, h.get? (x.2.2 - 1) = some o ∧ codeQ o = some (fQual x.2.1)
  tabs : ∀ (i : Nat) (x : Str × Addr), tabNames[i]? = some x → ∃ o, h.get? x.2 = some o ∧ some (seqOf o) = tabVals[i]?
  dflt : ∃ o, h.get? 29 = some o ∧ seqOf o = some (.type "tuple", [.none, .int 0 0])
  glob : ∃ o, h.get? 3 = some o ∧ lookIn ⟨⟨[77, 80, 85]⟩⟩ o = some (some (.ref 1428))
  tab : h.get? 80 = some { cls := .none, data := .fields #[] }
  code : ∃ o, h.get? 84 = some o ∧ codeHd o = some (.type "code", [some (.int 3 0), some (.bool true), some (.int 181 0), some (.ref 80), some (.str fileS 0)])
theorem MpuAt.keeps {h h' : Heap} {es : Array DictEntry} {n : Nat} (M : MpuAt h es n) (k : ∀ b o, h.get? b = some o → h'.get? b = some o) : MpuAt h' es n :=
  ⟨k _ _ M.cls, k _ _ M.nso, M.look, fun x hx => k _ _ (M.fns x hx), fun x hx => let ⟨o, a, b⟩ := M.codes x hx; ⟨o, k _ _ a, b⟩, fun i x hx => let ⟨o, a, b⟩ := M.tabs i x hx; ⟨o, k _ _ a, b⟩, let ⟨o, a, b⟩ := M.dflt; ⟨o, k _ _ a, b⟩, let ⟨o, a, b⟩ := M.glob; ⟨o, k _ _ a, b⟩, k _ _ M.tab, let ⟨o, a, b⟩ := M.code; ⟨o, k _ _ a, b⟩⟩
theorem map_all {α β : Type} {f g : α → β} : ∀ {l : List α}, l.map f = l.map g → ∀ x ∈ l, f x = g x
  | _ :: _, h, _, .head _ => (List.cons.inj h).1
  | _ :: _, h, _, .tail _ m => map_all (List.cons.inj h).2 _ m
theorem bind_some_of {α β : Type} {x : Option α} {f : α → Option β} {b : β} (h : x.bind f = some b) : ∃ a, x = some a ∧ f a = some b := Option.bind_eq_some_iff.mp h
theorem yp_of {w : World} {g : Addr → Option Obj} {h : Heap} (k : ∀ a o, g a = some o → h.get? a = some o) (e : Yg g = Ya w) : ∃ es n, MpuAt h es n := by
  unfold Yg Ya at e
  simp only [Prod.mk.injEq] at e
  refine El_aaaaaaa e fun e1 hc1 e2 e3 e4 e5 e6 e7 => ?_; obtain ⟨x1, x2, x3⟩ := hc1; try clear e
  obtain ⟨o, ho, hd⟩ := bind_some_of e2
  obtain ⟨c, d, dt, sl⟩ := o
  cases dt with
  | dict es n =>
    simp only [dictHd, Option.some.injEq, Prod.mk.injEq] at hd
    obtain ⟨rfl, rfl, rfl⟩ := hd
    refine ⟨es, n, k _ _ e1, k _ _ ho, ?_, ?_, ?_, ?_, ?_, ?_, k _ _ x2, ?_⟩
    · rw [ho] at e3
      simp only [Option.bind_some] at e3
      exact e3
    · exact fun x hx => k _ _ (map_all e4 x hx)
    · intro x hx
      refine El_ea (bind_some_of (map_all e5 x hx)) fun o a b => ?_
      exact ⟨o, k _ _ a, b⟩
    · intro i x hx
      have h := congrArg (·[i]?) e6
      simp only [List.getElem?_map, hx, Option.map_some] at h
      have hv : ∃ v, tabVals[i]? = some (some v) := by
        have : i < 3 := by
          have := (List.getElem?_eq_some_iff.mp hx).1
          exact this
        match i, this with
        | 0, _ => exact ⟨_, rfl⟩
        | 1, _ => exact ⟨_, rfl⟩
        | 2, _ => exact ⟨_, rfl⟩
      obtain ⟨v, hv⟩ := hv
      have h' : some ((g x.2).bind seqOf) = some (some v) := h.trans hv
      refine El_ea (bind_some_of (Option.some.inj h')) fun o a b => ?_
      exact ⟨o, k _ _ a, by rw [hv, b]⟩
    · refine El_ea (bind_some_of e7) fun o a b => ?_
      exact ⟨o, k _ _ a, b⟩
    · refine El_ea (bind_some_of x1) fun o a b => ?_
      exact ⟨o, k _ _ a, b⟩
    · refine El_ea (bind_some_of x3) fun o a b => ?_
      exact ⟨o, k _ _ a, b⟩
  | _ => cases hd
theorem opn : opening P0 = plainProg P0.main.scope.names := by kernel_rfl
theorem fen (s : Shared) : fenceModules? P0 s = some s := by kernel_rfl
theorem bootSize (w : World) : ((boot_heap w.params).isNs mainGlobals && (Array.mk [] : Array GenState).size == 0, (boot_heap w.params).objs.size, (boot_heap w.params).nsMap mainGlobals "__annotations__") = (true, 11, AN) := by kernel_rfl
theorem gT_abs (s : SharedT) (a : Addr) (o : Obj) (e : gT s a = some o) : s.abs.heap.get? a = some o := by
  show (absHeap s.tree s.n s.life).get? a = _
  unfold gT at e
  split at e
  · rename_i q
    obtain ⟨o', ho, hal⟩ := bind_some_of e
    rw [abs_get (Nat.le_of_ble_eq_true q) ho, hal]
  · cases e
theorem mods_eq : importedModules P0.main.body = importedW TP.main.body := by rw [TP_eq, imported_eq]
theorem bound_eq (h : Heap) : namesBound P0 h = namesBound TP h := by rw [TP_eq]
theorem numN : 109 + (1 + (186 + (2000 + (2000 + (2000 + (2000 + (2000 + (2000 + (2000 + 3000))))))))) + 2704 = 20000 := rfl
noncomputable def YF (s : Shared) : Prop := ∃ es n, MpuAt s.heap es n
theorem left (h2 : ∀ w os k, Rn w os k 2000 16 56) (h3 : ∀ w os k, Rn w os k 2000 56 96) (h4 : ∀ w os k, Rn w os k 2000 96 136) (h5 : ∀ w os k, Rn w os k 2000 136 176) (h6 : ∀ w os k, Rn w os k 2000 176 214) (h7 : ∀ w os k, Rn w os k 2000 214 215) (h8 : ∀ w os k, Rn w os k 2000 215 217) :
    LeftO P0 qP looseL (fun _ => true) YF (fun _ => True) 20000 := fun w => by
  refine El_ea (Option.map_eq_some_iff.mp (boot_open (p := P0) (N := 20000) opn rfl fen w)) fun hc0 e e' => ?_; obtain ⟨h, gs, d, k, os⟩ := hc0
  refine El_aaa (show h = boot_heap w.params ∧ gs = Array.mk [] ∧ d = boot_drawn ∧ k = boot_toks from by simpa only [Prod.mk.injEq] using e') fun hr0 hr1 hr2 hr3 => ?_; obtain rfl := hr0; obtain rfl := hr1; obtain rfl := hr2; obtain rfl := hr3
  refine El_aa (show _ ∧ _ ∧ _ from by simpa only [Prod.mk.injEq] using bootSize w) fun z1 z2 z3 => ?_
  refine El_ea (Option.map_eq_some_iff.mp (XE_obs w os)) fun s hs ho => ?_
  unfold obs at ho
  simp only [Prod.mk.injEq] at ho
  refine El_aaa ho fun hc0 l1 l2 l3 => ?_; obtain - := hc0; try clear ho
  have r := run_all (fun k => Rn_of rfl (p1 w os k)) (h2 w os) (h3 w os) (h4 w os) (h5 w os) (h6 w os) (h7 w os) (h8 w os) hs
  have r := topRun_mono 2704 _ _ _ _ r
  have hab : (ST0 w.params os).abs = ⟨boot_heap w.params, Array.mk [], boot_drawn, boot_toks, os⟩ := by
    show (⟨absHeap (bootT w.params) 11 bootLife, _, _, _, _⟩ : Shared) = _
    rw [boot_abs]
    rfl
  rw [hab, numN] at r
  have t : topFrom treeTable P0 w 20000 ⟨boot_heap w.params, Array.mk [], boot_drawn, boot_toks, os⟩ = some s.abs := by
    unfold topFrom
    dsimp only
    rw [z1, z2, z3]
    rw [r, Option.bind_some, mods_eq, bound_eq, l1]
  have y : YF s.abs = True := eq_true (yp_of (gT_abs s) l3)
  unfold openEnds
  rw [e, Option.bind_some, t, Option.map_some, y, mods_eq, openSeen_eq, l2]
end
end Mine

end
section
open PySem PySem.W PyProof.Rows
namespace Mine
noncomputable section
section
open PySem.TablesWhole (wModule wSs wS wEs wE wTs wClassHead declSs under holds gather noTwice)
namespace Tq
theorem ffT {p : Prop} (h : false = true) : p := nomatch h
theorem and2 {a b : Bool} (h : a = true) (g : b = true) : (a && b) = true := by subst h g; rfl
theorem and1 {a b : Bool} (h : (a && b) = true) : a = true := by cases a with | true => rfl | false => cases h
theorem and3 {a b : Bool} (h : (a && b) = true) : b = true := by cases a with | true => exact h | false => cases h
theorem wM {m : Module} (h : noTwice m.scope = true) (g : wSs holds m.scope ⟨m.scope, [], wSs gather m.scope ⟨m.scope, [], [], [], none⟩ m.scope m.body, [], none⟩ m.scope m.body = true) : wModule holds m = true :=
  and2 (a := true) rfl (and2 h (and2 g rfl))
theorem wSs_cut {top : Scope} {cx : TablesWhole.Ctx} {sc : Scope} (n : Nat) : ∀ {l : List Stmt}, wSs holds top cx sc (l.take n) = true → wSs holds top cx sc (l.drop n) = true → wSs holds top cx sc l = true := by
  induction n with
  | zero => intro l _ h; exact h
  | succ n ih => intro l h g; cases l with
    | nil => rfl
    | cons s l => exact and2 (and1 h) (ih (and3 h) g)
noncomputable def hdS : List Stmt → Stmt
  | s :: _ => s
  | [] => .Pass default
theorem wSs_hd {top : Scope} {cx : TablesWhole.Ctx} {sc : Scope} {l : List Stmt} (h : wS holds top cx sc (hdS l) = true) (g : wSs holds top cx sc l.tail = true) : wSs holds top cx sc l = true := by
  cases l with
  | nil => rfl
  | cons s l => exact and2 h g
noncomputable def clsPt (cx : TablesWhole.Ctx) (sc : Scope) (st : Stmt) : Bool × TablesWhole.Ctx × Scope × List Stmt := match st with
  | .ClassDef _ bases keywords body decorators tparams own tscope bind _ pos => (wClassHead holds cx sc bases keywords decorators tparams own tscope bind pos (declSs true body), ⟨own, declSs false body, declSs true body, under tparams tscope cx.encl, none⟩, own, body)
  | _ => (false, cx, sc, [])
theorem wS_cls {top : Scope} {cx : TablesWhole.Ctx} {sc : Scope} {st : Stmt} (h : (clsPt cx sc st).1 = true) (g : wSs holds top (clsPt cx sc st).2.1 (clsPt cx sc st).2.2.1 (clsPt cx sc st).2.2.2 = true) : wS holds top cx sc st = true := by
  cases st <;> first | exact and2 h g | exact ffT h
noncomputable def eqL : List Nat → List Nat → Bool
  | [], l => l.isEmpty
  | a :: k, l => match l with
    | [] => false
    | b :: l => Nat.beq a b && eqL k l
theorem eqL_eq {k : List Nat} : ∀ {l : List Nat}, eqL k l = true → k = l := by
  induction k with
  | nil => intro l h; cases l with | nil => rfl | cons b l => cases h
  | cons a k ih => intro l h; cases l with
    | nil => cases h
    | cons b l => rw [Nat.eq_of_beq_eq_true (and1 h), ih (and3 h)]
noncomputable def nmId : Expr → Option Str
  | .Name id _ => some id
  | _ => none
noncomputable def isAt (n : Option Str) (x : Option (Str × NameKind)) : Bool := match n with
  | none => false
  | some n => match x with
    | none => false
    | some y => eqL y.1.cps.toList n.cps.toList
noncomputable def nmsOk (t : List (Str × NameKind)) : List Expr → List Nat → Bool
  | [], _ => true
  | e :: es, ix => match ix with
    | [] => false
    | i :: ix => isAt (nmId e) t[i]? && nmsOk t es ix
theorem look_some {n : Str} {k : NameKind} : ∀ {t : List (Str × NameKind)}, (n, k) ∈ t → (t.lookup n).isSome = true := by
  intro t
  induction t with
  | nil => intro h; cases h
  | cons x t ih =>
    intro h
    show (match n == x.1 with | true => some x.2 | false => t.lookup n).isSome = true
    cases e : n == x.1 with
    | true => rfl
    | false => cases h with
      | head => rw [beq_self_eq_true] at e; cases e
      | tail _ h => exact ih h
theorem wE_nm {cx : TablesWhole.Ctx} {sc : Scope} {e : Expr} {i : Nat} (f : sc.functionLike = false) (h : isAt (nmId e) sc.names[i]? = true) : wE holds cx sc none e = true := by
  cases e <;> try exact ffT h
  rename_i n pos
  show (if (n == _ && sc.functionLike) = true then _ else sc.bears n) = true
  rw [f, Bool.and_false]
  show sc.bears n = true
  revert h
  cases hx : sc.names[i]? with
  | none => intro h; exact ffT h
  | some y =>
    intro h
    obtain ⟨m, k⟩ := y
    obtain ⟨m⟩ := m
    obtain ⟨n⟩ := n
    have e : m = n := by cases m; cases n; exact congrArg Array.mk (eqL_eq h)
    subst e
    exact look_some (List.mem_of_getElem? hx)
theorem wEs_nm {cx : TablesWhole.Ctx} {sc : Scope} (f : sc.functionLike = false) {es : List Expr} : ∀ {ix : List Nat}, nmsOk sc.names es ix = true → wEs holds cx sc none es = true := by
  induction es with
  | nil => intro _ _; rfl
  | cons e es ih => intro ix h; cases ix with
    | nil => cases h
    | cons i ix => exact and2 (wE_nm f (and1 h)) (ih (and3 h))
noncomputable def lstE (v : Expr) : Option (List Expr) := match v with
  | .List es _ => some es
  | _ => none
noncomputable def lstPt (st : Stmt) : Option (List Expr) × List Expr := match st with
  | .Assign ts v _ => (lstE v, ts)
  | _ => (none, [])
noncomputable def nmsOkO (t : List (Str × NameKind)) (es : Option (List Expr)) (ix : List Nat) : Bool := match es with
  | none => false
  | some es => nmsOk t es ix
theorem wE_lst {cx : TablesWhole.Ctx} {sc : Scope} {v : Expr} {ix : List Nat} (f : sc.functionLike = false) (h : nmsOkO sc.names (lstE v) ix = true) : wE holds cx sc none v = true := by
  cases v <;> first | exact ffT h | exact wEs_nm f h
theorem wS_lst {top : Scope} {cx : TablesWhole.Ctx} {sc : Scope} {st : Stmt} {ix : List Nat} (f : sc.functionLike = false) (h : nmsOkO sc.names (lstPt st).1 ix = true) (g : wTs holds cx sc none (lstPt st).2 = true) : wS holds top cx sc st = true := by
  cases st <;> first | exact ffT h | exact and2 (wE_lst f h) g
theorem tBody {top : Scope} {cx : TablesWhole.Ctx} {sc : Scope} {l : List Stmt} {ix : List Nat} (h1 : wSs holds top cx sc (l.take 100) = true) (h2 : wSs holds top cx sc ((l.drop 100).take 60) = true) (h3 : wSs holds top cx sc (((l.drop 100).drop 60).take 54) = true)
    (f : sc.functionLike = false) (h4 : nmsOkO sc.names (lstPt (hdS (((l.drop 100).drop 60).drop 54))).1 ix = true) (h5 : wTs holds cx sc none (lstPt (hdS (((l.drop 100).drop 60).drop 54))).2 = true) (h6 : wSs holds top cx sc (((l.drop 100).drop 60).drop 54).tail = true) : wSs holds top cx sc l = true :=
  wSs_cut 100 h1 (wSs_cut 60 h2 (wSs_cut 54 h3 (wSs_hd (wS_lst f h4 h5) h6)))
theorem tAll {m : Module} {cx : TablesWhole.Ctx} {P : Bool × TablesWhole.Ctx × Scope × List Stmt} (ec : cx = ⟨m.scope, [], [], [], none⟩) (e : P = clsPt cx m.scope (hdS (m.body.drop 2))) (h0 : noTwice m.scope = true) (h1 : wSs gather m.scope cx m.scope m.body = [])
    (a : wSs holds m.scope cx m.scope (m.body.take 2) = true) (b : P.1 = true) (c : wSs holds m.scope P.2.1 P.2.2.1 P.2.2.2 = true) (d : wSs holds m.scope cx m.scope (m.body.drop 2).tail = true) : wModule holds m = true := by
  subst ec e
  refine wM h0 ?_
  rw [h1]
  exact wSs_cut 2 a (wSs_hd (wS_cls b c) d)
theorem tProg {p : Program} (h : wModule holds p.main = true) (h1 : p.modules = []) (h2 : p.parses = []) (h3 : p.harvested = []) : p.tablesWhole = true := by
  unfold Program.tablesWhole TablesWhole.wProgram
  rw [h1, h2, h3]
  exact and2 h rfl
noncomputable abbrev cxM : TablesWhole.Ctx := ⟨TP.main.scope, [], [], [], none⟩
noncomputable def cP : Bool × TablesWhole.Ctx × Scope × List Stmt := clsPt cxM TP.main.scope (hdS (TP.main.body.drop 2))
noncomputable def tOk (l : List Stmt) : Prop := wSs holds TP.main.scope cP.2.1 cP.2.2.1 l = true
theorem told0 : wSs gather TP.main.scope cxM TP.main.scope TP.main.body = [] := by rw [PySem.W.Fast.te16421684217811934046, PySem.W.Fast.te12652042256554560961]; kernel_rfl
theorem tb1 : wSs holds TP.main.scope cxM TP.main.scope (TP.main.body.take 2) = true := by rw [PySem.W.Fast.te16421684217811934046]; kernel_rfl
theorem tb3 : wSs holds TP.main.scope cxM TP.main.scope (TP.main.body.drop 2).tail = true := by rw [PySem.W.Fast.te16421684217811934046]; kernel_rfl
theorem tc0 : cP.1 = true := by
  unfold cP clsPt
  rw [PySem.W.Fast.te7474826911137705502]
  kernel_rfl
theorem tc1 : tOk (cP.2.2.2.take 100) := by unfold tOk; rw [PySem.W.Fast.te16421684217811934046]; kernel_rfl
theorem tc2 : tOk ((cP.2.2.2.drop 100).take 60) := by unfold tOk; rw [PySem.W.Fast.te16421684217811934046]; kernel_rfl
theorem tc3 : tOk (((cP.2.2.2.drop 100).drop 60).take 54) := by unfold tOk; rw [PySem.W.Fast.te16421684217811934046]; kernel_rfl
noncomputable abbrev clsR : List Stmt := ((cP.2.2.2.drop 100).drop 60).drop 54
theorem clsNo : cP.2.2.1.functionLike = false := by kernel_rfl
theorem tc4 : nmsOkO cP.2.2.1.names (lstPt (hdS clsR)).1 (instrL.map fun a => (a - 365) / 7 + 62) = true := by kernel_rfl
theorem tc5 : wTs holds cP.2.1 cP.2.2.1 none (lstPt (hdS clsR)).2 = true := by rw [PySem.W.Fast.te12736235915007058005]; kernel_rfl
theorem tc6 : tOk clsR.tail := by unfold tOk; rw [PySem.W.Fast.te16421684217811934046]; kernel_rfl
theorem tC : wSs holds TP.main.scope cP.2.1 cP.2.2.1 cP.2.2.2 = true := tBody (ix := instrL.map fun a => (a - 365) / 7 + 62) tc1 tc2 tc3 clsNo tc4 tc5 tc6
theorem tM0 : noTwice TP.main.scope = true := by rw [PySem.W.Fast.te8331962902438777018]; kernel_rfl
theorem tMo : wModule holds TP.main = true := tAll (m := TP.main) (cx := cxM) (P := cP) rfl (by kernel_rfl) tM0 told0 tb1 tc0 tC tb3
end Tq
theorem tablesT : TP.tablesWhole = true := Tq.tProg Tq.tMo (by kernel_rfl) (by kernel_rfl) (by kernel_rfl)
theorem tablesW : P0.tablesWhole = true := (congrArg Program.tablesWhole TP_eq).trans tablesT
end
noncomputable abbrev RW : OpenLaw := PySem.Challenge.rw_lq0011_02
noncomputable def lawD : DefRec := match TP.main.body with
  | _ :: _ :: _ :: _ :: .FunctionDef n a b _ _ _ sc _ _ pos :: _ => ⟨n, a, b, sc, pos⟩
  | _ => ⟨⟨#[]⟩, ⟨[], [], none, [], [], none, []⟩, [], TP.main.scope, default⟩
theorem hdef : defOf qP RW.row.name = some (lawD, []) := by kernel_rfl
theorem hp : RW.row.prog.theDef RW.row.name = some (lawD.params, lawD.body, lawD.scope) := by
  show P0.theDef _ = _
  rw [TP_eq]
  kernel_rfl
theorem hk : kwWritten? lawD.params.kwonlyargs lawD.params.kw_defaults = some [] := by kernel_rfl
theorem hok : (chainsOk qP && opensWell RW.row.prog && (frees RW.row.toRowW && RW.row.within.isEmpty)) = true := by
  show (chainsOk qP && opensWell P0 && _) = true
  rw [TP_eq]
  kernel_rfl
theorem hbare : RW.row.prog.bare := ⟨rfl, rfl, rfl, rfl, rfl, tablesW⟩
theorem hprom : RW.row.toRowW.promised := ⟨[.list []], by kernel_rfl, by kernel_rfl⟩
noncomputable def LawT : OpenLaw := { prog := TP, name := (PySem.Str.ofString "law"), about := [(PySem.Str.ofString "MPU"), (PySem.Str.ofString "step")], foot := 1, most := some 63, bound := none, writes := false }
theorem LawT_eq : RW = LawT := congrArg (fun p => ({ prog := p, name := (PySem.Str.ofString "law"), about := [(PySem.Str.ofString "MPU"), (PySem.Str.ofString "step")], foot := 1, most := some 63, bound := none, writes := false } : OpenLaw)) TP_eq
theorem and2 {a b : Bool} (h : a = true) (g : b = true) : (a && b) = true := by subst h g; rfl
theorem said1 : namesResolve LawT.row.prog = true := by rw [PySem.W.Fast.te8377067652309620493]; kernel_rfl
theorem said2 : noRoadLSs { strict := !(importedModules LawT.row.prog.main.body).all cThrough.contains, foot := none, bare := List.filter (readsOut LawT.row.prog LawT.row.prog.main.body) [Str.ofString "vars", Str.ofString "dir", Str.ofString "locals"] } LawT.row.prog.main.body = true := by rw [PySem.W.Fast.te8326940854005059898]; kernel_rfl
theorem said3 : (namesMeet LawT.row.prog LawT.row.prog.main.body fun _ n => attrL n) = true := by rw [PySem.W.Fast.te17119622794617984870]; kernel_rfl
theorem said4 : (namesMeet LawT.prog LawT.above fun _ n => !LawT.own.contains n) = true := by rw [PySem.W.Fast.te17119622794617984870]; kernel_rfl
theorem saidT : LawT.wellSaid = true := by
  unfold OpenLaw.wellSaid OpenRow.wellSaid OpenRow.partSaid looksOpen
  repeat' (with_reducible refine and2 ?_ ?_)
  all_goals first
    | with_reducible exact said1
    | with_reducible exact said2
    | with_reducible exact said3
    | with_reducible exact said4
    | (rw [PySem.W.Fast.te8326940854005059898]; kernel_rfl)
    | (rw [PySem.W.Fast.te17119622794617984870]; kernel_rfl)
    | kernel_rfl
theorem said : RW.wellSaid = true := by rw [LawT_eq]; exact saidT
theorem holds_of (h2 : ∀ w os k, Rn w os k 2000 16 56) (h3 : ∀ w os k, Rn w os k 2000 56 96) (h4 : ∀ w os k, Rn w os k 2000 96 136) (h5 : ∀ w os k, Rn w os k 2000 136 176) (h6 : ∀ w os k, Rn w os k 2000 176 214) (h7 : ∀ w os k, Rn w os k 2000 214 215) (h8 : ∀ w os k, Rn w os k 2000 215 217)
    (call : WalkO qP looseL (fun _ _ => True) (fun _ h => ∃ es n, MpuAt h es n) RW.row.toRowW lawD [] fun f vs => PySem.call f vs) : PySem.Challenge.rw_lq0011_02.Holds := by
  refine holds_law (l := RW) said fun _ => ?_
  exact PySem.W.holds_open (left h2 h3 h4 h5 h6 h7 h8) (fun w s e => of_eq_true e) (fun w h h' ⟨es, n, m⟩ k => ⟨es, n, m.keeps k⟩) (fun _ _ => trivial) (fun _ _ _ _ _ => trivial) hdef hp hk (fun _ _ => recFacts_nil rfl) rfl (by assumption) hok hbare hprom call
end
end Mine

end
section
open PySem PySem.W PyProof.Rows
namespace Mine
inductive AV where
  | none | bool (b : Bool) | int (i : Int) | str (s : Str) | obj (i : Nat) | addr (a : Addr) | bi (n : String) | ty (n : String)
  deriving Inhabited
noncomputable def VR (θ : List Addr) : AV → Value → Prop
  | .none, v => v = .none
  | .bool b, v => v = .bool b
  | .int i, v => ∃ t, v = .int i t
  | .str s, v => ∃ t, v = .str s t
  | .obj i, v => ∃ a, θ[i]? = some a ∧ v = .ref a
  | .addr a, v => v = .ref a
  | .bi n, v => v = .builtin n
  | .ty n, v => v = .type n
inductive VRs (θ : List Addr) : List AV → List Value → Prop
  | nil : VRs θ [] []
  | cons {a v as vs} : VR θ a v → VRs θ as vs → VRs θ (a :: as) (v :: vs)
inductive DRs (θ : List Addr) : List (Str × AV) → List DictEntry → Prop
  | nil : DRs θ [] []
  | cons {x a e es l} : (∃ t, e.key = .str x t) → VR θ a e.val → DRs θ es l → DRs θ ((x, a) :: es) (e :: l)
inductive AO where
  | ints (xs : List Int)
  | intx (xs : List Int)
  | cell (v : Option AV)
  | fix (o : Obj)
  | list (xs : List AV)
  | tuple (xs : List AV)
  | inst (C : Addr) (d : Nat)
  | dict (es : List (Str × AV))
  | meth (f : Addr) (self : Nat)
noncomputable def CR (θ : List Addr) : Option AV → Option Value → Prop
  | none, v => v = none
  | some a, v => ∃ u, v = some u ∧ VR θ a u
noncomputable def OR (θ : List Addr) : AO → Obj → Prop
  | .ints xs, o => o.cls = .type "list" ∧ ∃ vs n, o.data = .seq vs n ∧ IntsAre vs.toList xs
  | .cell v, o => ∃ u, o.data = .cell u ∧ CR θ v u
  | .fix ob, o => o = ob
  | .intx xs, o => ∃ vs n, o = ⟨.type "list", none, .seq vs n, #[]⟩ ∧ IntsAre vs.toList xs
  | .list xs, o => ∃ vs n, o = ⟨.type "list", none, .seq vs n, #[]⟩ ∧ VRs θ xs vs.toList
  | .tuple xs, o => ∃ vs n, o = ⟨.type "tuple", none, .seq vs n, #[]⟩ ∧ VRs θ xs vs.toList
  | .inst C d, o => ∃ a sl, θ[d]? = some a ∧ o = ⟨.ref C, some a, .plain, sl⟩
  | .dict es, o => ∃ l n, o = dictOf l n ∧ DRs θ es l
  | .meth f i, o => ∃ a, θ[i]? = some a ∧ o = methodObj (.ref f) (.ref a)
structure AR (θ : List Addr) (as : List AO) (h : Heap) : Prop where
  len : as.length = θ.length
  nodup : θ.Nodup
  objs : ∀ (i : Nat) (o : AO) (a : Addr), as[i]? = some o → θ[i]? = some a → ∃ ob, h.get? a = some ob ∧ OR θ o ob
structure Ext (H : List Addr) (θ : List Addr) (h : Heap) (θ' : List Addr) (h' : Heap) : Prop where
  pre : θ <+: θ'
  fresh : ∀ a ∈ θ', a ∉ θ → h.get? a = none ∧ a ∉ H
  keep : ∀ b o, h.get? b = some o → b ∉ θ → b ∉ H → h'.get? b = some o
  ex : ∀ b o, h.get? b = some o → ∃ o', h'.get? b = some o'
  tab : ∀ P ∈ H, h'.get? P = h.get? P ∨ ∃ l k c, h'.get? P = some (tabObj #[l, k, .ref c]) ∧ h.get? c = none

theorem tab_trans {H : List Addr} {h h₁ h₂ : Heap} (s₁ : ∀ b o, h.get? b = some o → ∃ o', h₁.get? b = some o') (x : ∀ P ∈ H, h₁.get? P = h.get? P ∨ ∃ l k c, h₁.get? P = some (tabObj #[l, k, .ref c]) ∧ h.get? c = none)
    (y : ∀ P ∈ H, h₂.get? P = h₁.get? P ∨ ∃ l k c, h₂.get? P = some (tabObj #[l, k, .ref c]) ∧ h₁.get? c = none) : ∀ P ∈ H, h₂.get? P = h.get? P ∨ ∃ l k c, h₂.get? P = some (tabObj #[l, k, .ref c]) ∧ h.get? c = none := fun P m => by
  rcases y P m with e | ⟨l, k, c, e, q⟩
  · rcases x P m with e' | ⟨l, k, c, e', q⟩
    · exact .inl (e.trans e')
    · exact .inr ⟨l, k, c, e.trans e', q⟩
  · refine .inr ⟨l, k, c, e, ?_⟩
    cases r : h.get? c with
    | none => rfl
    | some o => obtain ⟨o', z⟩ := s₁ c o r; rw [q] at z; cases z
theorem get_pre {θ θ' : List Addr} (p : θ <+: θ') {i : Nat} {a : Addr} (h : θ[i]? = some a) : θ'[i]? = some a := by
  obtain ⟨t, rfl⟩ := p
  have := (List.getElem?_eq_some_iff.mp h).1
  rw [List.getElem?_append_left this]; exact h
theorem VR.mono {θ θ' : List Addr} (p : θ <+: θ') : ∀ {a : AV} {v : Value}, VR θ a v → VR θ' a v
  | .none, _, h | .bool _, _, h | .int _, _, h | .str _, _, h | .addr _, _, h | .bi _, _, h | .ty _, _, h => h
  | .obj _, _, ⟨a, e, h⟩ => ⟨a, get_pre p e, h⟩
theorem VRs.mono {θ θ' : List Addr} (p : θ <+: θ') {as : List AV} {vs : List Value} (h : VRs θ as vs) : VRs θ' as vs := by
  induction h with
  | nil => exact .nil
  | cons h _ ih => exact .cons (h.mono p) ih
theorem DRs.mono {θ θ' : List Addr} (p : θ <+: θ') {as : List (Str × AV)} {vs : List DictEntry} (h : DRs θ as vs) : DRs θ' as vs := by
  induction h with
  | nil => exact .nil
  | cons k h _ ih => exact .cons k (h.mono p) ih
theorem CR.mono {θ θ' : List Addr} (p : θ <+: θ') : ∀ {a : Option AV} {v : Option Value}, CR θ a v → CR θ' a v
  | none, _, h => h
  | some _, _, ⟨u, e, h⟩ => ⟨u, e, h.mono p⟩
theorem OR.mono {θ θ' : List Addr} (p : θ <+: θ') : ∀ {a : AO} {o : Obj}, OR θ a o → OR θ' a o
  | .ints _, _, h => h
  | .intx _, _, h => h
  | .cell _, _, ⟨u, e, h⟩ => ⟨u, e, h.mono p⟩
  | .fix _, _, h => h
  | .list _, _, ⟨vs, n, d, h⟩ => ⟨vs, n, d, h.mono p⟩
  | .tuple _, _, ⟨vs, n, d, h⟩ => ⟨vs, n, d, h.mono p⟩
  | .inst _ _, _, ⟨a, sl, e, h⟩ => ⟨a, sl, get_pre p e, h⟩
  | .dict _, _, ⟨l, n, e, h⟩ => ⟨l, n, e, h.mono p⟩
  | .meth _ _, _, ⟨a, e, h⟩ => ⟨a, get_pre p e, h⟩
theorem Ext.refl {H : List Addr} (θ : List Addr) (h : Heap) : Ext H θ h θ h := ⟨List.prefix_refl θ, fun _ a b => absurd a b, fun _ _ e _ _ => e, fun _ o e => ⟨o, e⟩, fun _ _ => .inl rfl⟩
theorem Ext.trans {H : List Addr} {θ θ₁ θ₂ : List Addr} {h h₁ h₂ : Heap} (x : Ext H θ h θ₁ h₁) (y : Ext H θ₁ h₁ θ₂ h₂) : Ext H θ h θ₂ h₂ := by
  refine ⟨x.pre.trans y.pre, fun a m n => ?_, fun b o e n nh => ?_, fun b o e => (let ⟨o', e'⟩ := x.ex b o e; y.ex b o' e'), tab_trans x.ex x.tab y.tab⟩
  · by_cases q : a ∈ θ₁
    · exact x.fresh a q n
    · obtain ⟨y1, y2⟩ := y.fresh a m q
      refine ⟨?_, y2⟩
      cases r : h.get? a with
      | none => rfl
      | some o => have := x.keep a o r n y2; rw [y1] at this; cases this
  · have n₁ : b ∉ θ₁ := fun m => by have := (x.fresh b m n).1; rw [e] at this; cases this
    exact y.keep b o (x.keep b o e n nh) n₁ nh

structure TabE where
  P : Addr
  pos : Pos
  qual : Str
structure Hid where
  tabs : List TabE
  pin : List Addr
noncomputable abbrev hidOf (T : Hid) : List Addr := T.tabs.map TabE.P
noncomputable def TabAt (H : List Addr) (e : TabE) (θ : List Addr) (h : Heap) : Prop :=
  h.get? e.P = some (tabObj #[]) ∨ ∃ c, h.get? e.P = some (tabObj #[rawInt e.pos.line, rawInt e.pos.col, .ref c]) ∧ h.CodeRec (.ref c) e.qual ∧ c ∉ θ ∧ c ∉ H
theorem TabAt.is {H : List Addr} {e : TabE} {θ : List Addr} {h : Heap} (x : TabAt H e θ h) : ∃ ps, h.get? e.P = some (tabObj ps) := by
  rcases x with x | ⟨c, x, _⟩ <;> exact ⟨_, x⟩
theorem TabAt.to {H : List Addr} {e : TabE} {θ θ' : List Addr} {h h' : Heap} (x : TabAt H e θ h) (k : ∀ o, h.get? e.P = some o → h'.get? e.P = some o)
    (kc : ∀ c o vs, h.get? c = some o → o.data = .fields vs → c ∉ θ → c ∉ H → h'.get? c = some o) (nc : ∀ c o, h.get? c = some o → c ∉ θ → c ∉ θ') : TabAt H e θ' h' := by
  rcases x with x | ⟨c, x, ⟨c', o, vs, t, e1, e2, e3, e4⟩, n1, n2⟩
  · exact .inl (k _ x)
  · cases e1
    exact .inr ⟨c, k _ x, ⟨c, o, vs, t, rfl, kc c o vs e2 e3 n1 n2, e3, e4⟩, nc c o e2 n1, n2⟩
structure St (T : Hid) (h₀ : Heap) (g₀ : Array GenState) (os₀ : OsState) (θ : List Addr) (as : List AO) (s : Shared) : Prop where
  ar : AR θ as s.heap
  base : ∀ b o, h₀.get? b = some o → s.heap.get? b = some o
  apart : ∀ a ∈ θ, h₀.get? a = none
  gens : s.gens = g₀
  os : s.os = os₀
  tabs : ∀ e ∈ T.tabs, TabAt (hidOf T) e θ s.heap
  hnin : ∀ e ∈ T.tabs, e.P ∉ θ
  hbase : ∀ e ∈ T.tabs, h₀.get? e.P = none
  pin : T.pin <+: θ
section
variable {T : Hid} {h₀ : Heap} {g₀ : Array GenState} {os₀ : OsState} {θ : List Addr} {as : List AO} {s : Shared}
theorem St.toks (S : St T h₀ g₀ os₀ θ as s) (k : Nat) : St T h₀ g₀ os₀ θ as { s with toks := k } := ⟨S.ar, S.base, S.apart, S.gens, S.os, S.tabs, S.hnin, S.hbase, S.pin⟩
theorem St.push (S : St T h₀ g₀ os₀ θ as s) {o : AO} {ob : Obj} (hf : ob.isFreed = false) (ho : OR (θ ++ [s.heap.objs.size]) o ob) :
    St T h₀ g₀ os₀ (θ ++ [s.heap.objs.size]) (as ++ [o]) { s with heap := s.heap.push ob } ∧ Ext (hidOf T) θ s.heap (θ ++ [s.heap.objs.size]) (s.heap.push ob) := by
  have pre : θ <+: θ ++ [s.heap.objs.size] := ⟨_, rfl⟩
  have none_ : s.heap.get? s.heap.objs.size = none := by
    cases q : s.heap.get? s.heap.objs.size with
    | none => rfl
    | some o => exact absurd (Heap.lt_size q) (Nat.lt_irrefl _)
  have nin : s.heap.objs.size ∉ θ := fun m => by
    obtain ⟨i, hi, e⟩ := List.getElem_of_mem m
    have e' : θ[i]? = some s.heap.objs.size := by rw [List.getElem?_eq_getElem hi, e]
    have hi' : i < as.length := by rw [S.ar.len]; exact hi
    obtain ⟨ob, h, _⟩ := S.ar.objs i as[i] _ (List.getElem?_eq_getElem hi') e'
    rw [none_] at h; cases h
  have nh : s.heap.objs.size ∉ hidOf T := fun m => by
    obtain ⟨e, he, q⟩ := List.mem_map.mp m
    obtain ⟨ps, x⟩ := (S.tabs e he).is
    rw [q, none_] at x; cases x
  refine ⟨⟨⟨?_, ?_, ?_⟩, fun b o e => Heap.get?_push_of_some _ (S.base b o e), ?_, S.gens, S.os, fun e he => ?_, fun e he m => ?_, S.hbase, S.pin.trans pre⟩, ⟨pre, ?_, fun b o e _ _ => Heap.get?_push_of_some _ e, fun b o e => ⟨o, Heap.get?_push_of_some _ e⟩, fun P m => .inl (by
    obtain ⟨e, he, rfl⟩ := List.mem_map.mp m
    obtain ⟨ps, x⟩ := (S.tabs e he).is
    rw [x]; exact Heap.get?_push_of_some _ x)⟩⟩
  · simp [S.ar.len]
  · rw [List.nodup_append]
    exact ⟨S.ar.nodup, by simp, fun a ha b hb => by
      have : b = s.heap.objs.size := by simpa using hb
      rintro rfl
      exact nin (this ▸ ha)⟩
  · intro i o' a e1 e2
    by_cases q : i < as.length
    · rw [List.getElem?_append_left q] at e1
      rw [List.getElem?_append_left (by rw [← S.ar.len]; exact q)] at e2
      refine El_ea (S.ar.objs i o' a e1 e2) fun ob' x y => ?_
      exact ⟨ob', Heap.get?_push_of_some _ x, y.mono pre⟩
    · have hi : i = as.length := by
        have := (List.getElem?_eq_some_iff.mp e1).1
        simp at this; lia
      subst hi
      rw [List.getElem?_append_right (Nat.le_refl _), Nat.sub_self] at e1
      rw [S.ar.len, List.getElem?_append_right (Nat.le_refl _), Nat.sub_self] at e2
      cases e1; cases e2
      exact ⟨ob, Heap.get?_push_size _ hf, ho⟩
  · intro a ha
    rcases List.mem_append.mp ha with m | m
    · exact S.apart a m
    · have e : a = s.heap.objs.size := by simpa using m
      subst e
      cases q : h₀.get? s.heap.objs.size with
      | none => rfl
      | some o => have := S.base _ _ q; rw [none_] at this; cases this
  · refine (S.tabs e he).to (fun _ x => Heap.get?_push_of_some _ x) (fun _ _ _ x _ _ _ => Heap.get?_push_of_some _ x) fun c o x n m => ?_
    rcases List.mem_append.mp m with m | m
    · exact n m
    · have e : c = s.heap.objs.size := by simpa using m
      subst e; rw [none_] at x; cases x
  · rcases List.mem_append.mp m with m | m
    · exact S.hnin e he m
    · have q : e.P = s.heap.objs.size := by simpa using m
      exact nh (q ▸ List.mem_map_of_mem he)
  · intro a ha na
    rcases List.mem_append.mp ha with m | m
    · exact absurd m na
    · have e : a = s.heap.objs.size := by simpa using m
      subst e; exact ⟨none_, nh⟩
theorem St.upd (S : St T h₀ g₀ os₀ θ as s) {i : Nat} {a : Addr} {o o' : AO} {ob' : Obj} {h' : Heap} (ha : θ[i]? = some a) (_hi : as[i]? = some o) (hs : Heap.SameBut a s.heap h') (hg : h'.get? a = some ob') (ho : OR θ o' ob') :
    St T h₀ g₀ os₀ θ (as.set i o') { s with heap := h' } ∧ Ext (hidOf T) θ s.heap θ h' := by
  have ma : a ∈ θ := List.mem_of_getElem? ha
  refine ⟨⟨⟨by rw [List.length_set]; exact S.ar.len, S.ar.nodup, ?_⟩, fun b ob e => ?_, S.apart, S.gens, S.os, fun e he => ?_, S.hnin, S.hbase, S.pin⟩, ⟨List.prefix_refl θ, fun _ x y => absurd x y, fun b ob e n _ => ?_, fun b o e => (if q : b = a then ⟨ob', q ▸ hg⟩ else ⟨o, (hs.2 b q).trans e⟩), fun P m => .inl (hs.2 P fun q => by
    obtain ⟨e, he, rfl⟩ := List.mem_map.mp m
    exact S.hnin e he (q ▸ ma))⟩⟩
  · intro j oj b e1 e2
    by_cases q : j = i
    · subst q
      have hl : j < as.length := by rw [S.ar.len]; exact (List.getElem?_eq_some_iff.mp ha).1
      rw [List.getElem?_set_self hl] at e1
      rw [ha] at e2
      cases e1; cases e2
      exact ⟨ob', hg, ho⟩
    · rw [List.getElem?_set_ne (Ne.symm q)] at e1
      obtain ⟨ob, x, y⟩ := S.ar.objs j oj b e1 e2
      have nb : b ≠ a := fun e => by
        subst e
        obtain ⟨l1, h1⟩ := List.getElem?_eq_some_iff.mp e2
        obtain ⟨l2, h2⟩ := List.getElem?_eq_some_iff.mp ha
        have nd := List.pairwise_iff_getElem.mp S.ar.nodup
        rcases Nat.lt_or_gt_of_ne q with r | r
        · exact nd j i l1 l2 r (h1.trans h2.symm)
        · exact nd i j l2 l1 r (h2.trans h1.symm)
      exact ⟨ob, (hs.2 b nb).trans x, y⟩
  · have nb : b ≠ a := fun q => by subst q; rw [S.apart b ma] at e; cases e
    exact (hs.2 b nb).trans (S.base b ob e)
  · exact (S.tabs e he).to (fun o x => (hs.2 e.P fun q => S.hnin e he (q ▸ ma)).trans x) (fun c o vs x _ n _ => (hs.2 c fun q => n (q ▸ ma)).trans x) fun c o _ n => n
  · have nb : b ≠ a := fun q => n (q ▸ ma)
    exact (hs.2 b nb).trans e
end
end Mine

end
section
open PySem PySem.W PyProof.Rows
namespace Mine
noncomputable def natsEq : List Nat → List Nat → Bool
  | [], [] => true
  | a :: x, b :: y => match Nat.beq a b with | true => natsEq x y | false => false
  | _, _ => false
theorem natsEq_iff : ∀ {x y : List Nat}, natsEq x y = true ↔ x = y
  | [], [] => by simp [natsEq]
  | [], _ :: _ => by simp [natsEq]
  | _ :: _, [] => by simp [natsEq]
  | a :: x, b :: y => by
    unfold natsEq
    cases h : Nat.beq a b with
    | true => have := Nat.eq_of_beq_eq_true h; subst this; simp [natsEq_iff]
    | false => have := Nat.ne_of_beq_eq_false h; simp [this]
noncomputable def seq (a b : Str) : Bool := natsEq a.cps.toList b.cps.toList
theorem seq_iff {a b : Str} : seq a b = true ↔ a = b := by
  unfold seq
  rw [natsEq_iff]
  constructor
  · intro h
    cases a; cases b
    simp only [Str.mk.injEq]
    exact Array.toList_inj.mp h
  · rintro rfl; rfl
theorem seq_eq (a b : Str) : seq a b = (a == b) := by
  cases h : seq a b with
  | true => rw [seq_iff.mp h]; simp
  | false =>
    have : a ≠ b := fun e => by rw [seq_iff.mpr e] at h; cases h
    simp [this]
noncomputable def lk {α : Type} : List (Str × α) → Str → Option α
  | [], _ => none
  | (y, v) :: r, x => match seq y x with | true => some v | false => lk r x
noncomputable def pt {α : Type} : List (Str × α) → Str → α → List (Str × α)
  | [], x, v => [(x, v)]
  | (y, u) :: r, x, v => match seq y x with | true => (y, v) :: r | false => (y, u) :: pt r x v

theorem isStr_key {e : DictEntry} {y : Str} (h : ∃ t, e.key = .str y t) (x : Str) : e.key.isStr x = seq y x := by
  obtain ⟨t, h⟩ := h
  rw [h, seq_eq]; rfl
theorem refKey_key {e : DictEntry} {y : Str} (h : ∃ t, e.key = .str y t) : e.refKey = false := by
  obtain ⟨t, h⟩ := h
  unfold DictEntry.refKey
  rw [h]
theorem DRs.noRef {θ : List Addr} {es : List (Str × AV)} {l : List DictEntry} (D : DRs θ es l) : l.any (·.refKey) = false := by
  induction D with
  | nil => rfl
  | cons k _ _ ih => rw [List.any_cons, refKey_key k, ih]; rfl
theorem DRs.find {θ : List Addr} {es : List (Str × AV)} {l : List DictEntry} (D : DRs θ es l) (x : Str) :
    match lk es x with
    | some av => ∃ e, l.find? (·.key.isStr x) = some e ∧ VR θ av e.val
    | none => l.find? (·.key.isStr x) = none := by
  induction D with
  | nil => rfl
  | @cons y a e es l k v _ ih =>
    unfold lk
    rw [List.find?_cons, isStr_key k x]
    cases h : seq y x with
    | true => exact ⟨e, rfl, v⟩
    | false => exact ih
theorem DRs.getSome {θ : List Addr} {es : List (Str × AV)} {l : List DictEntry} (D : DRs θ es l) {x : Str} {av : AV} (h : lk es x = some av) : ∃ v, getL x l = some (some v) ∧ VR θ av v := by
  have := D.find x
  rw [h] at this
  obtain ⟨e, f, r⟩ := this
  exact ⟨e.val, by unfold getL; rw [f], r⟩
theorem DRs.getNone {θ : List Addr} {es : List (Str × AV)} {l : List DictEntry} (D : DRs θ es l) {x : Str} (h : lk es x = none) : getL x l = some none := by
  have := D.find x
  rw [h] at this
  unfold getL
  rw [this, D.noRef]; rfl
theorem DRs.put {θ : List Addr} {es : List (Str × AV)} {l : List DictEntry} (D : DRs θ es l) {x : Str} {av : AV} {v : Value} (hv : VR θ av v) (hsh : Int) (t : Tok) : DRs θ (pt es x av) (putL x hsh (.str x t) v l) := by
  induction D with
  | nil => exact .cons ⟨t, rfl⟩ hv .nil
  | @cons y a e es l k u d ih =>
    unfold pt putL
    rw [isStr_key k x]
    cases h : seq y x with
    | true => exact .cons k hv d
    | false => exact .cons k u ih
theorem DRs.len {θ : List Addr} {es : List (Str × AV)} {l : List DictEntry} (D : DRs θ es l) : l.length = es.length := by
  induction D with
  | nil => rfl
  | cons _ _ _ ih => simp [ih]

noncomputable def handed : AV → Bool
  | .bi _ => false
  | _ => true
theorem handed_of {θ : List Addr} {a : AV} {v : Value} (h : VR θ a v) (e : handed a = true) : handedIn v = true := by
  cases a with
  | bi n => cases e
  | none => cases h; rfl
  | bool b => cases h; rfl
  | int i => obtain ⟨t, rfl⟩ := h; rfl
  | str s => obtain ⟨t, rfl⟩ := h; rfl
  | obj i => obtain ⟨a, _, rfl⟩ := h; rfl
  | addr a => cases h; rfl
  | ty n => cases h; rfl

structure CF (K : Frag) (C : Addr) : Prop where
  pg : plainGet K C ⟨#[]⟩ = true
  hd : hasDictIn K C = true
  sa : findIn K (.ref C) "__setattr__" = some (some (.builtin "object.__setattr__"))
  po : plainOver K C = true

section
variable {prog : Program} {w : World} {A : Around} {E : Value → Shared → Prop} {s : Shared} {K : Frag} {C : Addr} {T : Hid} {h₀ : Heap} {g₀ : Array GenState} {os₀ : OsState} {θ : List Addr} {as : List AO} {i d : Nat} {es : List (Str × AV)} {name : Str}
theorem St.inst (S : St T h₀ g₀ os₀ θ as s) (hi : as[i]? = some (.inst C d)) (hd : as[d]? = some (.dict es)) {x : Addr} (hx : θ[i]? = some x) :
    ∃ dx sl l n, θ[d]? = some dx ∧ DRs θ es l ∧ InstAt s.heap x ⟨.ref C, some dx, .plain, sl⟩ C (some (dictOf l n)) ∧ s.heap.get? dx = some (dictOf l n) := by
  refine El_eaeea (S.ar.objs i _ x hi hx) fun ob h1 dx sl h2 hr5 => ?_; obtain rfl := hr5
  refine El_eaeea (S.ar.objs d _ dx hd h2) fun ob' h3 l n hr4 h4 => ?_; obtain rfl := hr4
  exact ⟨dx, sl, l, n, h2, h4, ⟨h1, rfl, rfl, h3⟩, h3⟩
theorem a_get {expr : Bool} {Q : Value → Shared → Prop} {av : AV} (X : K.In s.heap) (c : CF K C) (S : St T h₀ g₀ os₀ θ as s) (hi : as[i]? = some (.inst C d)) (hd : as[d]? = some (.dict es)) (hl : lk es name = some av) (hh : handed av = true)
    (hc : findIn K (.ref C) name = some none) {x : Addr} (hx : θ[i]? = some x) (h : ∀ v, VR θ av v → Q v { s with toks := s.toks + 1 }) :
    wpAny (model prog w) A (getAttr (.ref x) name expr) Q E s := by
  refine El_eeeeaaa (S.inst hi hd hx) fun dx sl l n _ D I _ => ?_
  obtain ⟨v, e, r⟩ := D.getSome hl
  exact get_value X I (plainGet_of c.pg).1 (findObj_own c.hd hc rfl e) (handed_of r hh) (h v r)
theorem a_cst {expr : Bool} {Q : Value → Shared → Prop} {a : Value} (X : K.In s.heap) (c : CF K C) (S : St T h₀ g₀ os₀ θ as s) (hi : as[i]? = some (.inst C d)) (hd : as[d]? = some (.dict es)) (hl : lk es name = none)
    (hc : findIn K (.ref C) name = some (some a)) (hn : specialIn K a "__get__" = some none) (hv : handedIn a = true) (hcp : copiedNames.contains name = false) {x : Addr} (hx : θ[i]? = some x) (h : Q a { s with toks := s.toks + 1 }) :
    wpAny (model prog w) A (getAttr (.ref x) name expr) Q E s := by
  refine El_eeeeaaa (S.inst hi hd hx) fun dx sl l n _ D I _ => ?_
  exact get_value X I (plainGet_of c.pg).1 (findObj_cls c.hd hc hn hv hcp (D.getNone hl)) hv h
theorem a_meth {expr : Bool} {Q : Value → Shared → Prop} {f : Addr} (X : K.In s.heap) (c : CF K C) (S : St T h₀ g₀ os₀ θ as s) (hi : as[i]? = some (.inst C d)) (hd : as[d]? = some (.dict es)) (hl : lk es name = none)
    (hc : findIn K (.ref C) name = some (some (.ref f))) (hf : isFn K (.ref f) = true) (hg : specialIn K (.ref f) "__get__" = some (some (.builtin "function.__get__"))) (ht : takesIn K (.ref f) = some false) (hcp : copiedNames.contains name = false)
    {x : Addr} (hx : θ[i]? = some x)
    (h : ∀ s', St T h₀ g₀ os₀ (θ ++ [s.heap.objs.size]) (as ++ [.meth f i]) s' → Ext (hidOf T) θ s.heap (θ ++ [s.heap.objs.size]) s'.heap → Q (.ref s.heap.objs.size) s') :
    wpAny (model prog w) A (getAttr (.ref x) name expr) Q E s := by
  refine El_eeeeaaa (S.inst hi hd hx) fun dx sl l n _ D I _ => ?_
  have P := S.push (o := .meth f i) (ob := methodObj (.ref f) (.ref x)) rfl ⟨x, get_pre ⟨_, rfl⟩ hx, rfl⟩
  exact get_bind X I (plainGet_of c.pg).1 (findObj_fn c.hd hc hg ht hcp (D.getNone hl)) (plainGet_of c.pg).2
    (wpAny_call (fn_get (s := { s with toks := s.toks + 1 }) X (beq_iff_eq.mp hf) (handed_on rfl (h _ (P.1.toks _) P.2))))
theorem a_call {pl : Sem Bool} {Q : Value × List Value → Shared → Prop} {f : Addr} (X : K.In s.heap) (c : CF K C) (S : St T h₀ g₀ os₀ θ as s) (hi : as[i]? = some (.inst C d)) (hd : as[d]? = some (.dict es)) (hl : lk es name = none)
    (hc : findIn K (.ref C) name = some (some (.ref f))) (hf : isFn K (.ref f) = true) {x : Addr} (hx : θ[i]? = some x) (h : Q (.ref f, [.ref x]) s) :
    wpAny (model prog w) A (getMethod (.ref x) name pl) Q E s := by
  refine El_eeeeaaa (S.inst hi hd hx) fun dx sl l n _ D I _ => ?_
  exact method_fn X I (plainGet_of c.pg).1 (plainGet_of c.pg).2 hc (beq_iff_eq.mp hf) (by show (lookIn name (dictOf l n)).map _ = _; rw [lookIn_dict, D.getNone hl]; rfl) h
theorem a_set {Q : Unit → Shared → Prop} {av : AV} {v : Value} (X : K.In s.heap) (c : CF K C) (S : St T h₀ g₀ os₀ θ as s) (hi : as[i]? = some (.inst C d)) (hd : as[d]? = some (.dict es)) (hz : (pt es name av).length ≤ 1000)
    (ht : takerIn K C name = some none) {x : Addr} (hx : θ[i]? = some x) (hv : VR θ av v)
    (h : ∀ s', St T h₀ g₀ os₀ θ (as.set d (.dict (pt es name av))) s' → Ext (hidOf T) θ s.heap θ s'.heap → Q () s') :
    wpAny (model prog w) A (setAttr (.ref x) name v) Q E s := by
  refine El_eeeeaaa (S.inst hi hd hx) fun dx sl l n hdx D I D0 => ?_
  refine set_plain X I c.sa ?_
  refine osa_open (s := { s with toks := s.toks + 1 }) X I c.po ht fun b => ?_
  refine El_ea (any_some c.hd) fun cd hc hd' => ?_
  obtain ⟨hx', _, _, -⟩ := I
  refine wpAny_bind (wpAny_pure (wpAny_bind (wpAny_bind (wpAny_loadPart hx' (wpAny_bind (Looks.at (looks_clsIn X hc) ?_))))))
  rw [hd']
  refine wpAny_pure (a := some dx) (wpAny_bind (wpAny_pure (wpAny_bind ?_)))
  unfold nsSet
  refine wpAny_bind (wpAny_bind (wpAny_askSetting (wpAny_pure (wpAny_bind (wpAny_mkText (wpAny_bind (wpAny_loadPart D0 ?_)))))))
  show wpAny _ _ (if aRefKeyMayBeTheName name l.toArray then _ else _) _ _ _
  have cc : (!l.toArray.any (·.key.isStr name) && l.toArray.any (·.refKey)) = false := by
    rw [← Array.any_toList, ← Array.any_toList]
    show (!l.any _ && l.any _) = false
    rw [D.noRef, Bool.and_false]
  rw [aRefKeyMayBeTheName_at, cc]
  let f := Obj.putName name (PyData.keyHash w.params name) (.str name (s.toks + 1)) v
  have e : f (dictOf l n) = dictOf (putL name (PyData.keyHash w.params name) (.str name (s.toks + 1)) v l) (putN name l n) := putName_dict ..
  have D1 : (s.heap.update dx f).get? dx = some (dictOf (putL name (PyData.keyHash w.params name) (.str name (s.toks + 1)) v l) (putN name l n)) := by
    rw [← e]; exact Heap.get?_update_self _ D0 (by rw [e]; rfl)
  have P := S.upd (h' := s.heap.update dx f) (o' := .dict (pt es name av)) hdx hd (Heap.SameBut.update ..) D1 ⟨_, _, rfl, D.put hv _ _⟩
  refine wpAny_updatePart D0 ?_
  refine wpAny_bind (wpAny_lookBehind D1 (pastItsLine_dict (by rw [List.size_toArray, (D.put (x := name) hv _ _).len, sizeLine_eq]; lia)) ?_)
  exact wpAny_pure (h _ (P.1.toks _) P.2)
end
end Mine

end
section
open PySem PySem.W PyProof.Rows
namespace Mine
noncomputable def intA : Operator → Int → Int → Option Int
  | .Add, a, b => some (a + b)
  | .Sub, a, b => some (a - b)
  | .BitAnd, a, b => some (Builtin.bitAnd a b)
  | .BitOr, a, b => some (Builtin.bitOr a b)
  | .BitXor, a, b => some (Builtin.bitXor a b)
  | .LShift, a, b => if 0 ≤ b ∧ b ≤ 1000000 ∧ a.natAbs < 2 ^ 64 then some (a * 2 ^ b.toNat) else none
  | .RShift, a, b => if 0 ≤ b then some (a.fdiv (2 ^ b.toNat)) else none
  | .FloorDiv, a, b => if b ≠ 0 ∧ Builtin.divisionGoesByPylong a b = false then some (a.fdiv b) else none
  | .Mod, a, b => if b ≠ 0 then some (a.fmod b) else none
  | .Mult, a, b => if Builtin.Int.intBits a ≤ 64 ∨ Builtin.Int.intBits b ≤ 64 then some (a * b) else none
  | _, _, _ => none
noncomputable def cmpI (op : CmpOp) (a b : Int) : Option Bool := match op with
  | .Eq => some (a == b)
  | .NotEq => some (a != b)
  | .Lt => some (decide (a < b))
  | .LtE => some (decide (a ≤ b))
  | .Gt => some (decide (b < a))
  | .GtE => some (decide (b ≤ a))
  | _ => none
noncomputable def isN (a : AV) : Option Bool := match a with
  | .none => some true
  | .int _ => some false
  | .obj _ => some false
  | _ => none
noncomputable def cmpA (op : CmpOp) (a b : AV) : Option Bool := match b with
  | .int j => (match a with | .int i => cmpI op i j | _ => none)
  | .none => (match op with | .Is => isN a | _ => none)
  | _ => none
noncomputable def truA : AV → Option Bool
  | .int i => some (i != 0)
  | .bool b => some b
  | .none => some false
  | _ => none
section
variable {prog : Program} {w : World} {A : Around} {E : Value → Shared → Prop} {s : Shared} {θ : List Addr}
theorem mulOk {a b : Int} (h : Builtin.Int.intBits a ≤ 64 ∨ Builtin.Int.intBits b ≤ 64) : IntMulOk a b := h.elim IntMulOk.of_left IntMulOk.of_right
theorem bin_int {op : Operator} {a b r : Int} {t u : Tok} {Q : Value → Shared → Prop} (e : intA op a b = some r) (h : Q (.int r s.toks) { s with toks := s.toks + 1 }) : wpAny (model prog w) A (binaryOp op (.int a t) (.int b u)) Q E s := by
  cases op with
  | Add => cases (show some _ = some r from e); exact add_int h
  | Sub => cases (show some _ = some r from e); exact sub_int h
  | BitAnd => cases (show some _ = some r from e); exact and_int h
  | BitOr => cases (show some _ = some r from e); exact or_int h
  | BitXor => cases (show some _ = some r from e); exact xor_int h
  | LShift =>
    have e : (if _ then some _ else none) = some r := e
    split at e
    · rename_i q; cases e; exact lshift_int_small q.1 q.2.1 q.2.2 h
    · cases e
  | RShift =>
    have e : (if _ then some _ else none) = some r := e
    split at e
    · rename_i q; cases e; exact rshift_int q h
    · cases e
  | FloorDiv =>
    have e : (if _ then some _ else none) = some r := e
    split at e
    · rename_i q; cases e; exact floordiv_int q.1 h (.inl q.2)
    · cases e
  | Mult =>
    have e : (if _ then some _ else none) = some r := e
    split at e
    · rename_i q; cases e; exact mul_int h (mulOk q)
    · cases e
  | Mod =>
    have e : (if _ then some _ else none) = some r := e
    split at e
    · rename_i q; cases e; exact mod_int q h
    · cases e
  | _ => cases e
theorem inp_int {op : Operator} {a b r : Int} {t u : Tok} {Q : Value → Shared → Prop} (e : intA op a b = some r) (h : Q (.int r s.toks) { s with toks := s.toks + 1 }) (hop : op ≠ .Mod) : wpAny (model prog w) A (inplaceOp op (.int a t) (.int b u)) Q E s := by
  cases op with
  | Add => cases (show some _ = some r from e); exact iadd_int h
  | Sub => cases (show some _ = some r from e); exact isub_int h
  | BitAnd => cases (show some _ = some r from e); exact iand_int h
  | BitOr => cases (show some _ = some r from e); exact ior_int h
  | BitXor => cases (show some _ = some r from e); exact ixor_int h
  | LShift =>
    have e : (if _ then some _ else none) = some r := e
    split at e
    · rename_i q; cases e; exact ilshift_int_small q.1 q.2.1 q.2.2 h
    · cases e
  | RShift =>
    have e : (if _ then some _ else none) = some r := e
    split at e
    · rename_i q; cases e; exact irshift_int q h
    · cases e
  | FloorDiv =>
    have e : (if _ then some _ else none) = some r := e
    split at e
    · rename_i q; cases e; exact ifloordiv_int q.1 h (.inl q.2)
    · cases e
  | Mult =>
    have e : (if _ then some _ else none) = some r := e
    split at e
    · rename_i q; cases e; exact imul_int h (mulOk q)
    · cases e
  | Mod => exact absurd rfl hop
  | _ => cases e
theorem cmp_av {op : CmpOp} {a b : AV} {r : Bool} {x y : Value} {Q : Value → Shared → Prop} (e : cmpA op a b = some r) (ha : VR θ a x) (hb : VR θ b y) (h : Q (.bool r) s) : wpAny (model prog w) A (compareOp op x y) Q E s := by
  cases b with
  | int j => cases a with
    | int i =>
      obtain ⟨t, rfl⟩ := ha; obtain ⟨u, rfl⟩ := hb
      cases op with
      | Eq => cases (show some _ = some r from e); exact eq_int h
      | NotEq => cases (show some _ = some r from e); exact ne_int h
      | Lt => cases (show some _ = some r from e); exact lt_int h
      | LtE => cases (show some _ = some r from e); exact le_int h
      | Gt => cases (show some _ = some r from e); exact gt_int h
      | GtE => cases (show some _ = some r from e); exact ge_int h
      | _ => cases e
    | _ => cases e
  | none => cases op with
    | Is => cases a with
      | none => cases ha; cases hb; cases e; exact is_none_none h
      | int i => obtain ⟨t, rfl⟩ := ha; cases hb; cases e; exact is_int_none h
      | obj i => obtain ⟨a, _, rfl⟩ := ha; cases hb; cases e; exact is_none_ne (by intro x; cases x) h
      | _ => cases e
    | _ => cases e
  | _ => cases e
theorem tru_av {a : AV} {r : Bool} {x : Value} {Q : Bool → Shared → Prop} (e : truA a = some r) (ha : VR θ a x) (h : Q r s) : wpAny (model prog w) A (truthy x) Q E s := by
  unfold truA at e
  split at e
  · obtain ⟨t, rfl⟩ := ha; cases e; exact truthy_int h
  · cases ha; cases e; exact fun _ _ _ => h
  · cases ha; cases e; exact truthy_none h
  · cases e
end
end Mine

end
section
open PySem PySem.W PyProof.Rows
namespace Mine
structure Cx where
  prog : Program
  w : World
  h₀ : Heap
  g₀ : Array GenState
  os₀ : OsState
  T : Hid
noncomputable abbrev Cx.H (X : Cx) : List Addr := hidOf X.T
noncomputable abbrev Cx.S (X : Cx) (θ : List Addr) (as : List AO) (s : Shared) : Prop := St X.T X.h₀ X.g₀ X.os₀ θ as s
noncomputable abbrev Cx.M (X : Cx) : Model := model X.prog X.w
noncomputable abbrev Loc := List (Str × AV)
structure Fm where
  sc : Scope
  loc : Loc
  cells : List (Str × Nat)
  code : Value
  qual : Str
structure FrR (X : Cx) (f : Fm) (L : Addr) (env : Env) (θ : List Addr) (h : Heap) : Prop where
  scope : env.scope = f.sc
  kind : f.sc.kind = .function
  loc : env.locals = L
  nin : L ∉ θ
  apart : X.h₀.get? L = none
  nhid : L ∉ X.H
  ns : ∃ m, h.Ns L m ∧ ∀ x av, lk f.loc x = some av → ∃ v, m x = some v ∧ VR θ av v
  cells : ∀ x i, lk f.cells x = some i → ∃ a, θ[i]? = some a ∧ env.cells.lookup x = some a
  glob : env.globals = 3
  blt : env.builtins = 0
  code : env.code = f.code
  qual : env.qual = f.qual
theorem FrR.ext {X : Cx} {f : Fm} {L : Addr} {env : Env} {θ θ' : List Addr} {h h' : Heap} (F : FrR X f L env θ h) (e : Ext X.H θ h θ' h') : FrR X f L env θ' h' := by
  obtain ⟨m, ⟨o, es, ep, ho, hd, hk, hf⟩, r⟩ := F.ns
  refine ⟨F.scope, F.kind, F.loc, fun q => ?_, F.apart, F.nhid, ⟨m, ⟨o, es, ep, e.keep _ _ ho F.nin F.nhid, hd, hk, hf⟩, fun x av q => ?_⟩, fun x i q => ?_, F.glob, F.blt, F.code, F.qual⟩
  · have := (e.fresh L q F.nin).1; rw [ho] at this; cases this
  · obtain ⟨v, a, b⟩ := r x av q; exact ⟨v, a, b.mono e.pre⟩
  · refine El_ea (F.cells x i q) fun a c d => ?_; exact ⟨a, get_pre e.pre c, d⟩
structure ExtL (H : List Addr) (L : Addr) (θ : List Addr) (h : Heap) (θ' : List Addr) (h' : Heap) : Prop where
  pre : θ <+: θ'
  fresh : ∀ a ∈ θ', a ∉ θ → h.get? a = none ∧ a ∉ H
  keep : ∀ b o, h.get? b = some o → b ∉ θ → b ∉ H → b ≠ L → h'.get? b = some o
  ex : ∀ b o, h.get? b = some o → ∃ o', h'.get? b = some o'
  tab : ∀ P ∈ H, h'.get? P = h.get? P ∨ ∃ l k c, h'.get? P = some (tabObj #[l, k, .ref c]) ∧ h.get? c = none
theorem Ext.toL {H : List Addr} {L : Addr} {θ θ' : List Addr} {h h' : Heap} (e : Ext H θ h θ' h') : ExtL H L θ h θ' h' := ⟨e.pre, e.fresh, fun b o a c d _ => e.keep b o a c d, e.ex, e.tab⟩
theorem ExtL.refl {H : List Addr} (L : Addr) (θ : List Addr) (h : Heap) : ExtL H L θ h θ h := (Ext.refl θ h).toL
theorem ExtL.trans {H : List Addr} {L : Addr} {θ θ₁ θ₂ : List Addr} {h h₁ h₂ : Heap} (_hL : ∃ o, h.get? L = some o) (_nL : L ∉ θ) (sL : ∃ o, h₁.get? L = some o) (x : ExtL H L θ h θ₁ h₁) (y : ExtL H L θ₁ h₁ θ₂ h₂) : ExtL H L θ h θ₂ h₂ := by
  refine ⟨x.pre.trans y.pre, fun a m n => ?_, fun b o e n nh nb => ?_, fun b o e => (let ⟨o', e'⟩ := x.ex b o e; y.ex b o' e'), tab_trans x.ex x.tab y.tab⟩
  · by_cases q : a ∈ θ₁
    · exact x.fresh a q n
    · obtain ⟨y1, y2⟩ := y.fresh a m q
      refine ⟨?_, y2⟩
      by_cases eL : a = L
      · subst eL; obtain ⟨o, ho⟩ := sL; rw [y1] at ho; cases ho
      · cases r : h.get? a with
        | none => rfl
        | some o => have := x.keep a o r n y2 eL; rw [y1] at this; cases this
  · have n₁ : b ∉ θ₁ := fun m => by have := (x.fresh b m n).1; rw [e] at this; cases this
    exact y.keep b o (x.keep b o e n nh nb) n₁ nh nb
theorem ExtL.thru {H : List Addr} {L : Addr} {θ θ₁ θ₂ : List Addr} {h h₁ h₂ : Heap} (x : ExtL H L θ h θ₁ h₁) (sL : ∃ o, h₁.get? L = some o) (y : ExtL H L θ₁ h₁ θ₂ h₂) : ExtL H L θ h θ₂ h₂ := by
  refine ⟨x.pre.trans y.pre, fun a m n => ?_, fun b o e n nh nb => ?_, fun b o e => (let ⟨o', e'⟩ := x.ex b o e; y.ex b o' e'), tab_trans x.ex x.tab y.tab⟩
  · by_cases q : a ∈ θ₁
    · exact x.fresh a q n
    · obtain ⟨y1, y2⟩ := y.fresh a m q
      refine ⟨?_, y2⟩
      by_cases eL : a = L
      · subst eL; obtain ⟨o, ho⟩ := sL; rw [y1] at ho; cases ho
      · cases r : h.get? a with
        | none => rfl
        | some o => have := x.keep a o r n y2 eL; rw [y1] at this; cases this
  · have n₁ : b ∉ θ₁ := fun m => by have := (x.fresh b m n).1; rw [e] at this; cases this
    exact y.keep b o (x.keep b o e n nh nb) n₁ nh nb
theorem FrR.there {X : Cx} {f : Fm} {L : Addr} {env : Env} {θ : List Addr} {h : Heap} (F : FrR X f L env θ h) : ∃ o, h.get? L = some o := by
  obtain ⟨m, ⟨o, es, ep, ho, hd, hk, hf⟩, r⟩ := F.ns
  exact ⟨o, ho⟩
noncomputable def Room (A : Around) (dp : Nat) : Prop := A.depth + dp < recursionLimit ∧ A.units + 4 * dp + 40 < cLine ∧ A.handled = none
inductive AF where
  | next | brk | cont | ret (v : AV)
noncomputable def FlR (θ : List Addr) : AF → Flow → Prop
  | .next, g => g = .next
  | .brk, g => g = .brk
  | .cont, g => g = .cont
  | .ret a, g => ∃ v, g = .ret v ∧ VR θ a v
noncomputable abbrev PV := AV → List AO → Prop
noncomputable abbrev PVs := List AV → List AO → Prop
noncomputable abbrev PB := Bool → List AO → Prop
noncomputable abbrev PF := AF → Loc → List AO → Prop
noncomputable def EvS (X : Cx) (dp : Nat) (f : Fm) (e : Expr) (as : List AO) (Q : PV) : Prop :=
  ∀ (A : Around) (θ : List Addr) (s : Shared) (L : Addr) (env : Env) (post : Value → Shared → Prop) (E : Value → Shared → Prop), Room A dp → FrR X f L env θ s.heap → X.S θ as s →
    (∀ av as' θ' s' v, Q av as' → X.S θ' as' s' → Ext X.H θ s.heap θ' s'.heap → VR θ' av v → post v s') → wpAny X.M A (eval e env) post E s
noncomputable def TsS (X : Cx) (dp : Nat) (f : Fm) (e : Expr) (as : List AO) (Q : PB) : Prop :=
  ∀ (A : Around) (θ : List Addr) (s : Shared) (L : Addr) (env : Env) (post : Bool → Shared → Prop) (E : Value → Shared → Prop), Room A dp → FrR X f L env θ s.heap → X.S θ as s →
    (∀ b as' θ' s', Q b as' → X.S θ' as' s' → Ext X.H θ s.heap θ' s'.heap → post b s') → wpAny X.M A (isTrue e env (eval e env)) post E s
noncomputable def EvsS (X : Cx) (dp : Nat) (f : Fm) (es : List Expr) (as : List AO) (Q : PVs) : Prop :=
  ∀ (A : Around) (θ : List Addr) (s : Shared) (L : Addr) (env : Env) (post : List Value → Shared → Prop) (E : Value → Shared → Prop), Room A dp → FrR X f L env θ s.heap → X.S θ as s →
    (∀ avs as' θ' s' vs, Q avs as' → X.S θ' as' s' → Ext X.H θ s.heap θ' s'.heap → VRs θ' avs vs → post vs s') → wpAny X.M A (spliced (es.map fun e => (false, eval e env))) post E s
noncomputable def ExS (X : Cx) (dp : Nat) (f : Fm) (st : Stmt) (as : List AO) (Q : PF) : Prop :=
  ∀ (A : Around) (θ : List Addr) (s : Shared) (L : Addr) (env : Env) (post : Flow → Shared → Prop) (E : Value → Shared → Prop), Room A dp → FrR X f L env θ s.heap → X.S θ as s →
    (∀ fl loc' as' θ' s' g, Q fl loc' as' → X.S θ' as' s' → ExtL X.H L θ s.heap θ' s'.heap → FrR X { f with loc := loc' } L env θ' s'.heap → FlR θ' fl g → post g s') → wpAny X.M A (exec st env) post E s
noncomputable def ExsS (X : Cx) (dp : Nat) (f : Fm) (ss : List Stmt) (as : List AO) (Q : PF) : Prop :=
  ∀ (A : Around) (θ : List Addr) (s : Shared) (L : Addr) (env : Env) (post : Flow → Shared → Prop) (E : Value → Shared → Prop), Room A dp → FrR X f L env θ s.heap → X.S θ as s →
    (∀ fl loc' as' θ' s' g, Q fl loc' as' → X.S θ' as' s' → ExtL X.H L θ s.heap θ' s'.heap → FrR X { f with loc := loc' } L env θ' s'.heap → FlR θ' fl g → post g s') → wpAny X.M A (execs ss env) post E s
noncomputable def ClS (X : Cx) (dp : Nat) (fa : Value) (vs : List AV) (as : List AO) (Q : PV) : Prop :=
  ∀ (A : Around) (θ : List Addr) (s : Shared) (us : List Value) (post : Value → Shared → Prop) (E : Value → Shared → Prop), Room A dp → X.S θ as s → VRs θ vs us →
    (∀ av as' θ' s' v, Q av as' → X.S θ' as' s' → Ext X.H θ s.heap θ' s'.heap → VR θ' av v → post v s') → codeAny X.M A (.call fa ⟨us, []⟩) (fun r s' => match r with | .ok (.ret v) => post v s' | .ok _ => False | .error e => E e s') s
section
variable {X : Cx} {dp : Nat} {f : Fm} {as : List AO}
theorem EvS.mono {e : Expr} {Q Q' : PV} (h : EvS X dp f e as Q) (k : ∀ a b, Q a b → Q' a b) : EvS X dp f e as Q' :=
  fun A θ s L env post E R F S c => h A θ s L env post E R F S fun av as' θ' s' v q => c av as' θ' s' v (k _ _ q)
theorem TsS.mono {e : Expr} {Q Q' : PB} (h : TsS X dp f e as Q) (k : ∀ a b, Q a b → Q' a b) : TsS X dp f e as Q' :=
  fun A θ s L env post E R F S c => h A θ s L env post E R F S fun av as' θ' s' q => c av as' θ' s' (k _ _ q)
theorem EvsS.mono {e : List Expr} {Q Q' : PVs} (h : EvsS X dp f e as Q) (k : ∀ a b, Q a b → Q' a b) : EvsS X dp f e as Q' :=
  fun A θ s L env post E R F S c => h A θ s L env post E R F S fun av as' θ' s' v q => c av as' θ' s' v (k _ _ q)
theorem ExS.mono {st : Stmt} {Q Q' : PF} (h : ExS X dp f st as Q) (k : ∀ a b c, Q a b c → Q' a b c) : ExS X dp f st as Q' :=
  fun A θ s L env post E R F S c => h A θ s L env post E R F S fun fl loc' as' θ' s' g q => c fl loc' as' θ' s' g (k _ _ _ q)
theorem ExsS.mono {st : List Stmt} {Q Q' : PF} (h : ExsS X dp f st as Q) (k : ∀ a b c, Q a b c → Q' a b c) : ExsS X dp f st as Q' :=
  fun A θ s L env post E R F S c => h A θ s L env post E R F S fun fl loc' as' θ' s' g q => c fl loc' as' θ' s' g (k _ _ _ q)
theorem ClS.mono {fa : Value} {vs : List AV} {Q Q' : PV} (h : ClS X dp fa vs as Q) (k : ∀ a b, Q a b → Q' a b) : ClS X dp fa vs as Q' :=
  fun A θ s us post E R S V c => h A θ s us post E R S V fun av as' θ' s' v q => c av as' θ' s' v (k _ _ q)

theorem ev_int {i : Int} {k pos} {Q : PV} (h : Q (.int i) as) : EvS X dp f (.Constant (.int i) k pos) as Q :=
  fun _ θ s _ _ _ _ _ _ S c => wpAny_Constant_int (c _ _ θ { s with toks := s.toks + 1 } _ h (S.toks _) (Ext.refl _ _) ⟨_, rfl⟩)
theorem ev_str {i : Str} {k pos} {Q : PV} (h : Q (.str i) as) : EvS X dp f (.Constant (.str i) k pos) as Q :=
  fun _ θ s _ _ _ _ _ _ S c => wpAny_Constant_str (c _ _ θ { s with toks := s.toks + 1 } _ h (S.toks _) (Ext.refl _ _) ⟨_, rfl⟩)
theorem ev_none {k pos} {Q : PV} (h : Q .none as) : EvS X dp f (.Constant .none k pos) as Q :=
  fun _ θ s _ _ _ _ _ _ S c => wpAny_Constant_none (c _ _ θ s _ h S (Ext.refl _ _) rfl)
theorem ev_bool {b : Bool} {k pos} {Q : PV} (h : Q (.bool b) as) : EvS X dp f (.Constant (.bool b) k pos) as Q :=
  fun _ θ s _ _ _ _ _ _ S c => wpAny_Constant_bool (c _ _ θ s _ h S (Ext.refl _ _) rfl)

noncomputable def dbg : Str := "__debug__"
noncomputable def isKind (k : NameKind) (sc : Scope) (x : Str) : Bool := match lk sc.names x with
  | some j => !seq x dbg && (match k, j with | .local, .local => true | .cell, .cell => true | .free, .free => true | .globalImplicit, .globalImplicit => true | _, _ => false)
  | none => false
theorem lk_lookup {α : Type} (x : Str) : ∀ l : List (Str × α), lk l x = l.lookup x
  | [] => rfl
  | (y, v) :: r => by
    unfold lk
    rw [List.lookup_cons, seq_eq, lk_lookup x r]
    by_cases h : y = x
    · subst h; simp
    · have h' : ¬ x = y := fun e => h e.symm
      rw [beq_false_of_ne h, beq_false_of_ne h']
theorem isKind_of {k : NameKind} {sc : Scope} {x : Str} (h : isKind k sc x = true) : sc.names.lookup x = some k ∧ (x == ("__debug__" : Str)) = false := by
  unfold isKind at h
  rw [lk_lookup] at h
  split at h
  · rename_i j hj
    simp only [Bool.and_eq_true, Bool.not_eq_true'] at h
    obtain ⟨h1, h2⟩ := h
    rw [seq_eq] at h1
    refine ⟨?_, h1⟩
    rw [hj]
    split at h2 <;> first | rfl | cases h2
  · cases h
theorem FrR.kindOf {L : Addr} {env : Env} {θ : List Addr} {h : Heap} {k : NameKind} {x : Str} (F : FrR X f L env θ h) (q : isKind k f.sc x = true) : env.kindOf x = some k := by
  unfold Env.kindOf
  rw [F.scope]
  exact (isKind_of q).1
theorem ev_local {x : Str} {pos} {av : AV} {Q : PV} (hk : isKind .local f.sc x = true) (hv : lk f.loc x = some av) (h : Q av as) : EvS X dp f (.Name x pos) as Q := by
  intro A θ s L env post E R F S c
  obtain ⟨m, hm, r⟩ := F.ns
  obtain ⟨v, a, b⟩ := r x av hv
  exact wpAny_Name (wpAny_loadName_local (by rw [F.scope]; exact F.kind) (F.kindOf hk) (F.loc ▸ hm) a (c _ _ θ s _ h S (Ext.refl _ _) b)) (isKind_of hk).2
theorem St.cell {T : Hid} {h₀ : Heap} {g₀ : Array GenState} {os₀ : OsState} {θ : List Addr} {s : Shared} (S : St T h₀ g₀ os₀ θ as s) {i : Nat} {a : Addr} {v : Option AV} (hi : as[i]? = some (.cell v)) (ha : θ[i]? = some a) : ∃ u, s.heap.IsCell a u ∧ CR θ v u := by
  refine El_eaea (S.ar.objs i _ a hi ha) fun ob h1 u h2 h3 => ?_
  exact ⟨u, ⟨ob, h1, h2⟩, h3⟩
theorem ev_cell {x : Str} {pos} {av : AV} {i : Nat} {Q : PV} (hk : (isKind .cell f.sc x || isKind .free f.sc x) = true) (hn : seq x "__classdict__" = false) (hc : lk f.cells x = some i) (hi : as[i]? = some (.cell (some av))) (h : Q av as) : EvS X dp f (.Name x pos) as Q := by
  intro A θ s L env post E R F S c
  obtain ⟨a, ha, hl⟩ := F.cells x i hc
  refine El_eaea (S.cell hi ha) fun u hu v hr3 hv => ?_; obtain rfl := hr3
  have fin := c _ _ θ s _ h S (Ext.refl _ _) hv
  have kf : env.scope.kind = .function := by rw [F.scope]; exact F.kind
  rcases (Bool.or_eq_true _ _).mp hk with q | q
  · exact wpAny_Name (wpAny_loadName_cell kf (F.kindOf q) hl hu fin) (isKind_of q).2
  · exact wpAny_Name (wpAny_loadName_free kf (F.kindOf q) hl hu fin (by rw [← seq_eq]; exact hn)) (isKind_of q).2
theorem ev_bin {l r : Expr} {op : Operator} {pos} {Q : PV} (h : EvS X dp f l as fun a as₁ => EvS X dp f r as₁ fun b as₂ => ∃ i j k, a = .int i ∧ b = .int j ∧ intA op i j = some k ∧ Q (.int k) as₂) : EvS X dp f (.BinOp l op r pos) as Q := by
  intro A θ s L env post E R F S c
  refine wpAny_BinOp (h A θ s L env _ E R F S fun a as₁ θ₁ s₁ v q S₁ X₁ V₁ => q A θ₁ s₁ L env _ E R (F.ext X₁) S₁ fun b as₂ θ₂ s₂ u q₂ S₂ X₂ V₂ => ?_)
  refine El_eeeaaa q₂ fun i j k hr3 hr4 e q₃ => ?_; obtain rfl := hr3; obtain rfl := hr4; try clear q₂
  obtain ⟨t, rfl⟩ := V₁
  obtain ⟨t', rfl⟩ := V₂
  exact bin_int e (c _ _ θ₂ { s₂ with toks := s₂.toks + 1 } _ q₃ (S₂.toks _) (X₁.trans X₂) ⟨_, rfl⟩)
theorem ev_inv {x : Expr} {pos} {Q : PV} (h : EvS X dp f x as fun a as₁ => ∃ i, a = .int i ∧ Q (.int (Builtin.bitNot i)) as₁) : EvS X dp f (.UnaryOp .Invert x pos) as Q := by
  intro A θ s L env post E R F S c
  refine wpAny_UnaryOp (h A θ s L env _ E R F S fun a as₁ θ₁ s₁ v q S₁ X₁ V₁ => ?_)
  obtain ⟨i, rfl, q⟩ := q
  obtain ⟨t, rfl⟩ := V₁
  exact invert_int (c _ _ θ₁ { s₁ with toks := s₁.toks + 1 } _ q (S₁.toks _) X₁ ⟨_, rfl⟩)
end
end Mine

end
section
open PySem PySem.W PyProof.Rows
namespace Mine
inductive CA where
  | no | inst | int (i : Int) | fn (f : Addr) | tab (a : Addr)
structure FD where
  names : List Str
  body : List Stmt
  scope : Scope
  code : Value
  qual : Str
structure Cls where
  C : Addr
  attr : Str → CA
  fn : Addr → Option FD
  tab : Addr → Option (List AV)
noncomputable def noStar : List Expr → Bool
  | [] => true
  | .Starred _ _ :: _ => false
  | _ :: r => noStar r
noncomputable def noComp : Expr → Bool
  | .ListComp .. | .SetComp .. | .DictComp .. => false
  | _ => true
noncomputable def attrW (D : Cls) (i : Nat) (x : Str) (as : List AO) (Q : PV) : Prop := match as[i]? with
  | some (.inst C d) => match Nat.beq C D.C, as[d]? with
    | true, some (.dict es) => match lk es x with
      | some av => match D.attr x, handed av with
        | .inst, true => Q av as
        | _, _ => False
      | none => match D.attr x with
        | .int j => Q (.int j) as
        | .fn f => Q (.obj as.length) (as ++ [.meth f i])
        | .tab a => Q (.addr a) as
        | _ => False
    | _, _ => False
  | _ => False
noncomputable def methA (D : Cls) (i : Nat) (x : Str) (as : List AO) : Option Addr := match as[i]? with
  | some (.inst C d) => match Nat.beq C D.C, as[d]? with
    | true, some (.dict es) => match lk es x, D.attr x with
      | none, .fn f => some f
      | _, _ => none
    | _, _ => none
  | _ => none
noncomputable def setW (D : Cls) (i : Nat) (x : Str) (av : AV) (as : List AO) (Q : List AO → Prop) : Prop := match as[i]? with
  | some (.inst C d) => match Nat.beq C D.C, as[d]?, D.attr x with
    | true, some (.dict es), .inst => match Nat.ble (pt es x av).length 1000 with
      | true => Q (as.set d (.dict (pt es x av)))
      | false => False
    | _, _, _ => False
  | _ => False
noncomputable def itemW (D : Cls) (o : AV) (k : AV) (as : List AO) (Q : AV → Prop) : Prop := match k with
  | .int k => match o with
      | .obj i => (match as[i]? with
        | some (.ints xs) => (0 ≤ k ∧ k < xs.length ∧ k < 2 ^ 63) ∧ Q (.int (xs.getD k.toNat 0))
        | some (.intx xs) => (0 ≤ k ∧ k < xs.length ∧ k < 2 ^ 63) ∧ Q (.int (xs.getD k.toNat 0))
        | some (.list xs) => (0 ≤ k ∧ k < 2 ^ 63) ∧ (match xs[k.toNat]? with | some v => Q v | none => False)
        | _ => False)
      | .addr a => (match D.tab a with | some xs => (0 ≤ k ∧ k < 2 ^ 63) ∧ (match xs[k.toNat]? with | some v => Q v | none => False) | none => False)
      | _ => False
  | _ => False
noncomputable def putW (o : AV) (k : AV) (v : AV) (as : List AO) (Q : List AO → Prop) : Prop := match k, o with
  | .int k, .obj i => match as[i]?, v with
      | some (.ints xs), .int v => (0 ≤ k ∧ k < xs.length ∧ k < 2 ^ 63) ∧ Q (as.set i (.ints (xs.set k.toNat v)))
      | some (.intx xs), .int v => (0 ≤ k ∧ k < xs.length ∧ k < 2 ^ 63) ∧ Q (as.set i (.ints (xs.set k.toNat v)))
      | _, _ => False
  | _, _ => False
structure ClsOK (D : Cls) (K : Frag) (h₀ : Heap) : Prop where
  X : K.In h₀
  cf : CF K D.C
  lim : h₀.NoLimit
  inst : ∀ x, D.attr x = .inst → findIn K (.ref D.C) x = some none ∧ takerIn K D.C x = some none
  int : ∀ x i, D.attr x = .int i → ∃ t, findIn K (.ref D.C) x = some (some (.int i t)) ∧ specialIn K (.int i t) "__get__" = some none ∧ copiedNames.contains x = false
  fn : ∀ x f, D.attr x = .fn f → findIn K (.ref D.C) x = some (some (.ref f)) ∧ isFn K (.ref f) = true ∧ specialIn K (.ref f) "__get__" = some (some (.builtin "function.__get__")) ∧ takesIn K (.ref f) = some false ∧ copiedNames.contains x = false
  tab : ∀ x a, D.attr x = .tab a → findIn K (.ref D.C) x = some (some (.ref a)) ∧ specialIn K (.ref a) "__get__" = some none ∧ copiedNames.contains x = false
  tabs : ∀ a xs, D.tab a = some xs → ∃ vs, h₀.IsList a vs ∧ VRs [] xs vs.toList
section
variable {prog : Program} {w : World} {A : Around} {E : Value → Shared → Prop} {s : Shared} {D : Cls} {K : Frag} {T : Hid} {h₀ : Heap} {g₀ : Array GenState} {os₀ : OsState} {θ : List Addr} {as as' : List AO} {i : Nat} {x : Str} {av : AV}
theorem attr_ok {expr : Bool} {Q : Value → Shared → Prop} {P : PV} (O : ClsOK D K h₀) (S : St T h₀ g₀ os₀ θ as s) (e : attrW D i x as P) {a : Addr} (ha : θ[i]? = some a)
    (h : ∀ av as' θ' s' v, P av as' → St T h₀ g₀ os₀ θ' as' s' → Ext (hidOf T) θ s.heap θ' s'.heap → VR θ' av v → Q v s') : wpAny (model prog w) A (getAttr (.ref a) x expr) Q E s := by
  have X : K.In s.heap := O.X.keeps S.base
  unfold attrW at e
  split at e
  · rename_i C d hi
    split at e
    · rename_i es hC hd
      obtain rfl : C = D.C := Nat.eq_of_beq_eq_true hC
      split at e
      · rename_i v hl
        split at e
        · rename_i h1 h2
          exact a_get X O.cf S hi hd hl h2 (O.inst x h1).1 ha fun v r => h _ _ θ _ v e (S.toks _) (Ext.refl _ _) r
        · cases e
      · rename_i hl
        split at e
        · rename_i j h1
          obtain ⟨t, f1, f2, f3⟩ := O.int x j h1
          exact a_cst X O.cf S hi hd hl f1 f2 rfl f3 ha (h _ _ θ _ _ e (S.toks _) (Ext.refl _ _) ⟨t, rfl⟩)
        · rename_i f h1
          refine El_aaaa (O.fn x f h1) fun f1 f2 f3 f4 f5 => ?_
          refine a_meth X O.cf S hi hd hl f1 f2 f3 f4 f5 ha fun s' S' E' => h _ _ _ s' _ e S' E' ⟨_, ?_, rfl⟩
          rw [S.ar.len, List.getElem?_append_right (Nat.le_refl _), Nat.sub_self]; rfl
        · rename_i b h1
          obtain ⟨f1, f2, f3⟩ := O.tab x b h1
          exact a_cst X O.cf S hi hd hl f1 f2 rfl f3 ha (h _ _ θ _ _ e (S.toks _) (Ext.refl _ _) rfl)
        · cases e
    · cases e
  · cases e
theorem meth_ok {pl : Sem Bool} {Q : Value × List Value → Shared → Prop} {f : Addr} (O : ClsOK D K h₀) (S : St T h₀ g₀ os₀ θ as s) (e : methA D i x as = some f) {a : Addr} (ha : θ[i]? = some a) (h : Q (.ref f, [.ref a]) s) :
    wpAny (model prog w) A (getMethod (.ref a) x pl) Q E s := by
  have X : K.In s.heap := O.X.keeps S.base
  unfold methA at e
  split at e
  · rename_i C d hi
    split at e
    · rename_i es hC hd
      obtain rfl : C = D.C := Nat.eq_of_beq_eq_true hC
      split at e
      · rename_i f' hl h1
        cases e
        obtain ⟨f1, f2, _⟩ := O.fn x f h1
        exact a_call X O.cf S hi hd hl f1 f2 ha h
      · cases e
    · cases e
  · cases e
theorem set_ok {Q : Unit → Shared → Prop} {P : List AO → Prop} {v : Value} (O : ClsOK D K h₀) (S : St T h₀ g₀ os₀ θ as s) (e : setW D i x av as P) {a : Addr} (ha : θ[i]? = some a) (hv : VR θ av v)
    (h : ∀ as' s', P as' → St T h₀ g₀ os₀ θ as' s' → Ext (hidOf T) θ s.heap θ s'.heap → Q () s') : wpAny (model prog w) A (setAttr (.ref a) x v) Q E s := by
  have X : K.In s.heap := O.X.keeps S.base
  unfold setW at e
  split at e
  · rename_i C d hi
    split at e
    · rename_i es hC hd h1
      obtain rfl : C = D.C := Nat.eq_of_beq_eq_true hC
      split at e
      · rename_i hz
        exact a_set X O.cf S hi hd (Nat.le_of_ble_eq_true hz) (O.inst x h1).2 ha hv fun s' S' E' => h _ s' e S' E'
      · cases e
    · cases e
  · cases e
theorem VRs.get {θ : List Addr} {xs : List AV} {vs : List Value} (h : VRs θ xs vs) : ∀ {k : Nat} {a : AV}, xs[k]? = some a → ∃ v, vs[k]? = some v ∧ VR θ a v := by
  induction h with
  | nil => intro k a e; simp at e
  | cons r _ ih =>
    intro k a e
    cases k with
    | zero => simp at e; subst e; exact ⟨_, by simp, r⟩
    | succ k => simp at e ⊢; exact ih e
theorem VRs.len {θ : List Addr} {xs : List AV} {vs : List Value} (h : VRs θ xs vs) : vs.length = xs.length := by
  induction h with
  | nil => rfl
  | cons _ _ ih => simp [ih]
theorem ints_set : ∀ {vs : List Value} {xs : List Int}, IntsAre vs xs → ∀ (k : Nat) {v : Value} {i : Int}, (∃ t, v = .int i t) → IntsAre (vs.set k v) (xs.set k i)
  | _, _, .nil, k, _, _, _ => by simp; exact .nil
  | _, _, .cons n u h, 0, v, i, ⟨t, e⟩ => by subst e; exact .cons i t h
  | _, _, .cons n u h, k + 1, v, i, e => .cons n u (ints_set h k e)
theorem isList_keeps {h h' : Heap} {a : Addr} {vs : Array Value} (l : h.IsList a vs) (k : ∀ b o, h.get? b = some o → h'.get? b = some o) : h'.IsList a vs := by
  obtain ⟨o, ho, r⟩ := l; exact ⟨o, k _ _ ho, r⟩
theorem list_of (S : St T h₀ g₀ os₀ θ as s) {i : Nat} {a : Addr} {xs : List AV} (hi : as[i]? = some (.list xs)) (ha : θ[i]? = some a) : ∃ vs, s.heap.IsList a vs ∧ VRs θ xs vs.toList := by
  refine El_eaeea (S.ar.objs i _ a hi ha) fun ob h1 vs n hr4 r => ?_; obtain rfl := hr4
  exact ⟨vs, ⟨_, h1, rfl, n, rfl⟩, r⟩
theorem intx_of (S : St T h₀ g₀ os₀ θ as s) {i : Nat} {a : Addr} {xs : List Int} (hi : as[i]? = some (.intx xs)) (ha : θ[i]? = some a) : ∃ vs, s.heap.IsList a vs ∧ IntsAre vs.toList xs := by
  refine El_eaeea (S.ar.objs i _ a hi ha) fun ob h1 vs n hr4 r => ?_; obtain rfl := hr4
  exact ⟨vs, ⟨_, h1, rfl, n, rfl⟩, r⟩
theorem ints_of (S : St T h₀ g₀ os₀ θ as s) {i : Nat} {a : Addr} {xs : List Int} (hi : as[i]? = some (.ints xs)) (ha : θ[i]? = some a) : ∃ vs, s.heap.IsList a vs ∧ IntsAre vs.toList xs := by
  refine El_eaaeea (S.ar.objs i _ a hi ha) fun ob h1 c vs n d r => ?_
  exact ⟨vs, ⟨ob, h1, c, n, d⟩, r⟩
theorem getD_some {xs : List Int} {k : Nat} (h : k < xs.length) : xs[k]? = some (xs.getD k 0) := by
  rw [List.getD_eq_getElem?_getD, List.getElem?_eq_getElem h]; rfl
theorem item_ok {o k : AV} {ov kv : Value} {Q : Value → Shared → Prop} {P : AV → Prop} (O : ClsOK D K h₀) (S : St T h₀ g₀ os₀ θ as s) (e : itemW D o k as P) (ho : VR θ o ov) (hk : VR θ k kv)
    (h : ∀ av v, P av → VR θ av v → Q v s) : ∃ a, ov = .ref a ∧ s.TypeIs (.ref a) "list" ∧ wpAny (model prog w) A (getItem ov kv) Q E s := by
  unfold itemW at e
  split at e
  · rename_i k
    obtain ⟨t, rfl⟩ := hk
    split at e
    · rename_i i
      obtain ⟨a, ha, rfl⟩ := ho
      refine ⟨a, rfl, ?_⟩
      split at e
      · rename_i xs hi
        obtain ⟨⟨b1, b2, b3⟩, e⟩ := e
        obtain ⟨vs, hl, r⟩ := ints_of S hi ha
        have hn : k.toNat < xs.length := by lia
        obtain ⟨t', hv⟩ := r.get _ _ (getD_some hn)
        exact ⟨hl.typeIs, wpAny_getItem_list hl b1 b3 (by rw [← Array.getElem?_toList]; exact hv) (h _ _ e ⟨t', rfl⟩)⟩
      · rename_i xs hi
        obtain ⟨⟨b1, b2, b3⟩, e⟩ := e
        obtain ⟨vs, hl, r⟩ := intx_of S hi ha
        have hn : k.toNat < xs.length := by lia
        obtain ⟨t', hv⟩ := r.get _ _ (getD_some hn)
        exact ⟨hl.typeIs, wpAny_getItem_list hl b1 b3 (by rw [← Array.getElem?_toList]; exact hv) (h _ _ e ⟨t', rfl⟩)⟩
      · rename_i xs hi
        obtain ⟨⟨b1, b3⟩, e⟩ := e
        obtain ⟨vs, hl, r⟩ := list_of S hi ha
        split at e
        · rename_i v' hx
          obtain ⟨v, hv, rv⟩ := r.get hx
          exact ⟨hl.typeIs, wpAny_getItem_list hl b1 b3 (by rw [← Array.getElem?_toList]; exact hv) (h _ _ e rv)⟩
        · cases e
      · cases e
    · rename_i a
      cases ho
      refine ⟨a, rfl, ?_⟩
      split at e
      · rename_i xs hi
        obtain ⟨⟨b1, b3⟩, e⟩ := e
        obtain ⟨vs, hl, r⟩ := O.tabs a xs hi
        have hl := isList_keeps hl S.base
        split at e
        · rename_i v' hx
          obtain ⟨v, hv, rv⟩ := r.get hx
          exact ⟨hl.typeIs, wpAny_getItem_list hl b1 b3 (by rw [← Array.getElem?_toList]; exact hv) (h _ _ e (rv.mono List.nil_prefix))⟩
        · cases e
      · cases e
    · cases e
  · cases e
theorem put_ok {o k : AV} {ov kv : Value} {Q : Unit → Shared → Prop} {P : List AO → Prop} {v : Value} (S : St T h₀ g₀ os₀ θ as s) (e : putW o k av as P) (ho : VR θ o ov) (hk : VR θ k kv) (hv : VR θ av v)
    (h : ∀ as' s', P as' → St T h₀ g₀ os₀ θ as' s' → Ext (hidOf T) θ s.heap θ s'.heap → Q () s') : wpAny (model prog w) A (setItem ov kv v) Q E s := by
  unfold putW at e
  split at e
  · rename_i k i
    obtain ⟨t, rfl⟩ := hk
    obtain ⟨a, ha, rfl⟩ := ho
    split at e
    · rename_i xs j hi
      obtain ⟨⟨b1, b2, b3⟩, e⟩ := e
      obtain ⟨vs, hl, r⟩ := ints_of S hi ha
      have hsz : vs.size = xs.length := by rw [← Array.length_toList]; exact r.length
      refine wpAny_setItem_list hl b1 b3 (by lia) fun h' hl' sb => ?_
      obtain ⟨ob, g1, c, n, d⟩ := hl'
      have P := S.upd (o' := .ints (xs.set k.toNat j)) ha hi sb g1 ⟨c, _, n, d, by rw [Array.toList_setIfInBounds]; exact ints_set r _ hv⟩
      exact h _ _ e P.1 P.2
    · rename_i xs j hi
      obtain ⟨⟨b1, b2, b3⟩, e⟩ := e
      obtain ⟨vs, hl, r⟩ := intx_of S hi ha
      have hsz : vs.size = xs.length := by rw [← Array.length_toList]; exact r.length
      refine wpAny_setItem_list hl b1 b3 (by lia) fun h' hl' sb => ?_
      obtain ⟨ob, g1, c, n, d⟩ := hl'
      have P := S.upd (o' := .ints (xs.set k.toNat j)) ha hi sb g1 ⟨c, _, n, d, by rw [Array.toList_setIfInBounds]; exact ints_set r _ hv⟩
      exact h _ _ e P.1 P.2
    · cases e
  · cases e
end
section
variable {X : Cx} {dp : Nat} {f : Fm} {as : List AO} {D : Cls} {K : Frag}
theorem ev_attr {x a : Str} {p pos : Pos} {Q : PV} (O : ClsOK D K X.h₀) (h : EvS X dp f (.Name x p) as fun o as₁ => ∃ i, o = .obj i ∧ attrW D i a as₁ Q) : EvS X dp f (.Attribute (.Name x p) a pos) as Q := by
  intro A θ s L env post E R F S c
  refine Attribute_Name_ (h A θ s L env _ E R F S fun o as₁ θ₁ s₁ v q S₁ X₁ V₁ => ?_)
  obtain ⟨i, rfl, q⟩ := q
  obtain ⟨b, hb, rfl⟩ := V₁
  exact attr_ok O S₁ q hb fun av as' θ' s' v q' S' X' V' => c av as' θ' s' v q' S' (X₁.trans X') V'
noncomputable def noSlice : Expr → Bool
  | .Slice .. => false
  | _ => true
theorem sub_eq {e : Expr} (h : noSlice e = true) (o i : Value) : subscripted e false o i = operate [o, i] (getItem o i) := by
  cases e <;> first | rfl | cases h
theorem ev_sub {v i : Expr} {pos : Pos} {Q : PV} (O : ClsOK D K X.h₀) (hn : noSlice i = true) (h : EvS X dp f v as fun o as₁ => EvS X dp f i as₁ fun k as₂ => itemW D o k as₂ fun r => Q r as₂) : EvS X dp f (.Subscript v i pos) as Q := by
  intro A θ s L env post E R F S c
  refine Subscript_ (h A θ s L env _ E R F S fun o as₁ θ₁ s₁ ov q S₁ X₁ V₁ => q A θ₁ s₁ L env _ E R (F.ext X₁) S₁ fun k as₂ θ₂ s₂ kv q₂ S₂ X₂ V₂ => ?_)
  obtain ⟨a, rfl, ht, hw⟩ := item_ok (prog := X.prog) (w := X.w) (A := A) (E := E) (Q := post) O S₂ q₂ (V₁.mono X₂.pre) V₂ fun av v q' V' => c av as₂ θ₂ s₂ v q' S₂ (X₁.trans X₂) V'
  exact tail_any ht slot_list_getitem.lookup hw (sub_eq hn _ _)
theorem evs_nil {Q : PVs} (h : Q [] as) : EvsS X dp f [] as Q := fun _ θ s _ _ _ _ _ _ S c => Calls.spliced_nil (c _ _ θ s _ h S (Ext.refl _ _) .nil)
theorem evs_cons {e : Expr} {r : List Expr} {Q : PVs} (h : EvS X dp f e as fun a as₁ => EvsS X dp f r as₁ fun l as₂ => Q (a :: l) as₂) : EvsS X dp f (e :: r) as Q := by
  intro A θ s L env post E R F S c
  refine Calls.spliced_cons (h A θ s L env _ E R F S fun o as₁ θ₁ s₁ ov q S₁ X₁ V₁ => q A θ₁ s₁ L env _ E R (F.ext X₁) S₁ fun k as₂ θ₂ s₂ kv q₂ S₂ X₂ V₂ => ?_)
  exact c _ _ θ₂ s₂ _ q₂ S₂ (X₁.trans X₂) (.cons (V₁.mono X₂.pre) V₂)
theorem back_eq (pos : Pos) (env : Env) : ∀ (args : List Expr), noStar args = true → backTo pos (starEach args env) = args.map fun e => (false, eval e env)
  | [], _ => rfl
  | e :: r, h => by
    have ih := fun h => back_eq pos env r h
    unfold backTo at ih ⊢
    cases e <;> first | (cases h) | (rw [show ∀ t, starEach (t :: r) env = starEach (t :: r) env from fun _ => rfl]; exact congrArg (_ :: ·) (ih h))
theorem plain_any {α : Type} (g : α → Bool × Sem Value) (hg : ∀ a, (g a).1 = false) : ∀ l : List α, (l.map g).any (·.1) = false
  | [] => rfl
  | a :: r => by rw [List.map_cons, List.any_cons, hg, plain_any g hg r]; rfl
theorem args_ok {M : Model} {A : Around} {E : Value → Shared → Prop} {s : Shared} {env : Env} {fv : Value} {args : List Expr} {Q : Args → Shared → Prop}
    (h : wpAny M A (spliced (args.map fun e => (false, eval e env))) (fun vs s' => Q ⟨vs, []⟩ s') E s) : wpAny M A (evalArgs fv true (args.map fun e => (false, eval e env)) []) Q E s := by
  cases args with
  | nil =>
    unfold evalArgs
    show wpAny M A (spliced [] >>= _) Q E s
    refine wpAny_bind (wpAny_mono h (fun vs s' h' => ?_) fun _ _ x => x)
    refine wpAny_holding ?_
    exact wpAny_bind (wpAny_pure (wpAny_bind (wpAny_pure (wpAny_pure h'))))
  | cons e r => exact Calls.evalArgs_plain h
end
end Mine

end
section
open PySem PySem.W PyProof.Rows
namespace Mine
theorem VRs.app {θ : List Addr} {as bs : List AV} {us vs : List Value} (h : VRs θ as us) (g : VRs θ bs vs) : VRs θ (as ++ bs) (us ++ vs) := by
  induction h with
  | nil => exact g
  | cons a _ ih => exact .cons a ih
structure FnOK (h₀ : Heap) (fa : Addr) (d : FD) : Prop where
  ex : ∃ o fd, h₀.get? fa = some o ∧ o.data = .func fd ∧ h₀.CodeRec fd.code fd.qualname ∧ fd.body = .stmts d.body ∧ fd.scope = d.scope ∧ fd.globals = 3 ∧ fd.builtins = 0 ∧ fd.code = d.code ∧ fd.qualname ++ ".<locals>." = d.qual ∧
    (∀ vals : List Value, vals.length = d.names.length → bindArgs fd ⟨vals, []⟩ = pure (d.names.zip vals))
  cell : ∀ x ∈ d.scope.names, x.2 ≠ .cell
  loc : ∀ x ∈ d.names, d.scope.names.lookup x = some .local
  co : d.scope.isCoroutine = false
  gen : d.scope.isGenerator = false
  kind : d.scope.kind = .function
theorem St.keeps {T : Hid} {h₀ : Heap} {g₀ : Array GenState} {os₀ : OsState} {θ : List Addr} {as : List AO} {s : Shared} (S : St T h₀ g₀ os₀ θ as s) {h' : Heap} {k : Nat} (hk : ∀ b o, s.heap.get? b = some o → h'.get? b = some o) : St T h₀ g₀ os₀ θ as { s with heap := h', toks := k } :=
  ⟨⟨S.ar.len, S.ar.nodup, fun i o a e1 e2 => let ⟨ob, x, y⟩ := S.ar.objs i o a e1 e2; ⟨ob, hk _ _ x, y⟩⟩, fun b o e => hk _ _ (S.base b o e), S.apart, S.gens, S.os, fun e he => (S.tabs e he).to (fun o x => hk _ _ x) (fun c o _ x _ _ _ => hk _ _ x) fun _ _ _ n => n, S.hnin, S.hbase, S.pin⟩
theorem St.lt {T : Hid} {h₀ : Heap} {g₀ : Array GenState} {os₀ : OsState} {θ : List Addr} {as : List AO} {s : Shared} (S : St T h₀ g₀ os₀ θ as s) {a : Addr} (m : a ∈ θ) : a < s.heap.objs.size := by
  obtain ⟨i, hi, e⟩ := List.getElem_of_mem m
  have e' : θ[i]? = some a := by rw [List.getElem?_eq_getElem hi, e]
  have hi' : i < as.length := by rw [S.ar.len]; exact hi
  obtain ⟨ob, h, _⟩ := S.ar.objs i as[i] _ (List.getElem?_eq_getElem hi') e'
  exact Heap.lt_size h
theorem size_none (h : Heap) : h.get? h.objs.size = none := by
  cases q : h.get? h.objs.size with
  | none => rfl
  | some o => exact absurd (Heap.lt_size q) (Nat.lt_irrefl _)
theorem St.fresh {T : Hid} {h₀ : Heap} {g₀ : Array GenState} {os₀ : OsState} {θ : List Addr} {as : List AO} {s : Shared} (S : St T h₀ g₀ os₀ θ as s) : h₀.get? s.heap.objs.size = none := by
  cases q : h₀.get? s.heap.objs.size with
  | none => rfl
  | some o => have := S.base _ _ q; rw [size_none] at this; cases this
theorem St.freshH {T : Hid} {h₀ : Heap} {g₀ : Array GenState} {os₀ : OsState} {θ : List Addr} {as : List AO} {s : Shared} (S : St T h₀ g₀ os₀ θ as s) : s.heap.objs.size ∉ hidOf T := fun m => by
  obtain ⟨e, he, q⟩ := List.mem_map.mp m
  obtain ⟨ps, x⟩ := (S.tabs e he).is
  rw [q, size_none] at x; cases x
theorem St.tabKeep {T : Hid} {h₀ : Heap} {g₀ : Array GenState} {os₀ : OsState} {θ : List Addr} {as : List AO} {s : Shared} (S : St T h₀ g₀ os₀ θ as s) {h' : Heap} (hk : ∀ b o, s.heap.get? b = some o → h'.get? b = some o) :
    ∀ P ∈ hidOf T, h'.get? P = s.heap.get? P ∨ ∃ l k c, h'.get? P = some (tabObj #[l, k, .ref c]) ∧ s.heap.get? c = none := fun P m => .inl (by
  obtain ⟨e, he, rfl⟩ := List.mem_map.mp m
  obtain ⟨ps, x⟩ := (S.tabs e he).is
  rw [x]; exact hk _ _ x)
inductive LRs (θ : List Addr) : List (Str × AV) → List (Str × Value) → Prop
  | nil : LRs θ [] []
  | cons {x a v l m} : VR θ a v → LRs θ l m → LRs θ ((x, a) :: l) ((x, v) :: m)
theorem LRs.zip {θ : List Addr} {vs : List AV} {us : List Value} (h : VRs θ vs us) : ∀ ns : List Str, LRs θ (ns.zip vs) (ns.zip us) := by
  induction h with
  | nil => intro ns; cases ns <;> exact .nil
  | cons r _ ih =>
    intro ns
    cases ns with
    | nil => exact .nil
    | cons n ns => exact .cons r (ih ns)
theorem LRs.snoc {θ : List Addr} {l : List (Str × AV)} {m : List (Str × Value)} (h : LRs θ l m) {x : Str} {a : AV} {v : Value} (r : VR θ a v) : LRs θ (l ++ [(x, a)]) (m ++ [(x, v)]) := by
  induction h with
  | nil => exact .cons r .nil
  | cons q _ ih => exact .cons q ih
theorem LRs.rev {θ : List Addr} {l : List (Str × AV)} {m : List (Str × Value)} (h : LRs θ l m) : LRs θ l.reverse m.reverse := by
  induction h with
  | nil => exact .nil
  | cons q _ ih => rw [List.reverse_cons, List.reverse_cons]; exact ih.snoc q
theorem LRs.look {θ : List Addr} {l : List (Str × AV)} {m : List (Str × Value)} (h : LRs θ l m) (x : Str) (av : AV) (e : lk l x = some av) : ∃ v, m.lookup x = some v ∧ VR θ av v := by
  rw [lk_lookup] at e
  induction h with
  | nil => cases e
  | @cons y a v l m q _ ih =>
    rw [List.lookup_cons] at e ⊢
    cases hb : x == y with
    | true => rw [hb] at e; cases e; exact ⟨v, rfl, q⟩
    | false => rw [hb] at e; exact ih e
theorem lk_pt {α : Type} (x : Str) (v : α) (y : Str) : ∀ l : List (Str × α), lk (pt l x v) y = if y = x then some v else lk l y
  | [] => by
    unfold pt lk
    by_cases h : y = x
    · subst h; rw [seq_iff.mpr rfl]; simp
    · rw [if_neg h]
      cases q : seq x y with
      | true => exact absurd (seq_iff.mp q).symm h
      | false => rfl
  | (z, u) :: r => by
    unfold pt
    cases q : seq z x with
    | true =>
      have e := seq_iff.mp q; subst e
      show lk ((z, v) :: r) y = _
      unfold lk
      by_cases h : y = z
      · subst h; rw [seq_iff.mpr rfl]; simp
      · rw [if_neg h]
        cases q' : seq z y with
        | true => exact absurd (seq_iff.mp q').symm h
        | false => rfl
    | false =>
      show lk ((z, u) :: pt r x v) y = _
      unfold lk
      cases q' : seq z y with
      | true =>
        have e := seq_iff.mp q'; subst e
        by_cases h : z = x
        · subst h; rw [seq_iff.mpr rfl] at q; cases q
        · rw [if_neg h]
      | false => exact lk_pt x v y r
noncomputable def storeW (f : Fm) (x : Str) (v : AV) (as : List AO) (Q : Loc → List AO → Prop) : Prop := match isKind .local f.sc x with
  | true => Q (pt f.loc x v) as
  | false => match isKind .cell f.sc x, lk f.cells x with
    | true, some i => (match as[i]? with | some (.cell _) => Q f.loc (as.set i (.cell (some v))) | _ => False)
    | _, _ => False
section
variable {X : Cx} {dp : Nat} {f : Fm} {as : List AO} {D : Cls} {K : Frag}
theorem cl_def {fa : Addr} {d : FD} {vs : List AV} {Q : PV} (O : FnOK X.h₀ fa d) (lim : X.h₀.NoLimit) (hl : vs.length = d.names.length)
    (h : ExsS X dp ⟨d.scope, (d.names.zip vs).reverse, [], d.code, d.qual⟩ d.body as fun fl _ as' => match fl with | .ret v => Q v as' | .next => Q .none as' | _ => False) : ClS X (dp + 1) (.ref fa) vs as Q := by
  intro A θ s us post E R S V c
  refine El_eeaaaaaaaaa O.ex fun o fd ho hd hc hb hs hg hbl hcd hql hbind => ?_
  have hroom : A.depth < recursionLimit := by have := R.1; lia
  refine codeAny_call_def hroom (S.base _ _ ho) hd (lim.keeps S.base) (Heap.CodeRec.keeps hc S.base) hb (BindsTo.of_eq (hbind us (by rw [V.len, hl]))) (by rw [hs]; exact O.cell) (fun x hx => by rw [hs]; exact O.loc _ (List.of_mem_zip hx).1) (fun h₁ hn hk => ?_) (by rw [hs]; exact O.co) (by rw [hs]; exact O.gen) (by rw [hs]; exact O.kind)
  have S₁ : X.S θ as { s with heap := h₁, toks := s.toks + (d.names.zip us).length } := S.keeps hk
  refine h (A.deeper _) θ _ s.heap.objs.size _ _ _ ⟨?_, ?_, R.2.2⟩ ⟨hs, O.kind, rfl, fun m => Nat.lt_irrefl _ (S.lt m), S.fresh, S.freshH, ⟨_, hn, fun x av e => ((LRs.zip V d.names).rev).look x av e⟩, fun x i e => (by cases e), hg, hbl, hcd, hql⟩ S₁ fun fl loc' as' θ' s' g q S' X' F' G => ?_
  · have := R.1; show A.depth + 1 + dp < _; lia
  · have := R.2.1; show A.units + 3 + 4 * dp + 40 < _; lia
  · have X'' : Ext X.H θ s.heap θ' s'.heap := ⟨X'.pre, fun a m n => ⟨(by
        cases r : s.heap.get? a with
        | none => rfl
        | some o => have := (X'.fresh a m n).1; rw [hk a o r] at this; cases this), (X'.fresh a m n).2⟩,
      fun b o e n nh => X'.keep b o (hk b o e) n nh fun q => (by rw [q] at e; rw [size_none] at e; cases e), fun b o e => X'.ex b o (hk b o e), tab_trans (fun b o e => ⟨o, hk b o e⟩) (S.tabKeep hk) X'.tab⟩
    cases fl with
    | next => cases G; exact c _ _ θ' s' _ q S' X'' rfl
    | brk => exact q.elim
    | cont => exact q.elim
    | ret v => obtain ⟨u, rfl, hu⟩ := G; exact c _ _ θ' s' _ q S' X'' hu
theorem looks_fn {M : Model} {h : Heap} {fa : Addr} {o : Obj} {fd : FuncData} (ho : h.get? fa = some o) (hd : o.data = .func fd) : Looks M h (keeperOf (.ref fa)) .frame := by
  refine (Looks.ld (part := none) ho).andThen ?_
  rw [hd]; exact .now
theorem looks_bound {M : Model} {h : Heap} {q fa : Addr} {self : Value} {o : Obj} {fd : FuncData} (hq : h.get? q = some (methodObj (.ref fa) self)) (ho : h.get? fa = some o) (hd : o.data = .func fd) : Looks M h (keeperOf (.ref q)) .boundFrame := by
  refine (Looks.ld (part := none) hq).andThen ?_
  refine (Looks.ld (part := none) ho).andThen ?_
  rw [hd]; exact .now
noncomputable def FnAt (h₀ : Heap) (fa : Addr) : Prop := ∃ o fd, h₀.get? fa = some o ∧ o.data = .func fd
theorem FnOK.at {h₀ : Heap} {fa : Addr} {d : FD} (O : FnOK h₀ fa d) : FnAt h₀ fa := let ⟨o, fd, a, b, _⟩ := O.ex; ⟨o, fd, a, b⟩
theorem call_fn {fa : Addr} {args : List Expr} {first : List AV} {fv : List Value} {pos : Pos} {Q : PV} (hs : noStar args = true)
    {A : Around} {θ : List Addr} {s : Shared} {L : Addr} {env : Env} {post : Value → Shared → Prop} {E : Value → Shared → Prop} (R : Room A dp) (F : FrR X f L env θ s.heap) (S : X.S θ as s) (V : VRs θ first fv)
    (h : EvsS X dp f args as fun vs as₂ => FnAt X.h₀ fa ∧ ClS X dp (.ref fa) (first ++ vs) as₂ Q)
    (c : ∀ av as' θ' s' v, Q av as' → X.S θ' as' s' → Ext X.H θ s.heap θ' s'.heap → VR θ' av v → post v s') : wpAny X.M A (callWith pos (.ref fa) fv (backTo pos (starEach args env)) []) post E s := by
  rw [back_eq pos env args hs]
  refine callWith_of (P := fun h => FnAt h fa) (by rw [plain_any _ (fun _ => rfl)]; rfl) (fun h ⟨o, fd, hh, hd⟩ => ⟨_, .inl rfl, looks_fn hh hd⟩) (args_ok ?_)
  refine h A θ s L env _ E R F S fun vs as₂ θ₂ s₂ us q S₂ X₂ V₂ => ⟨let ⟨o, fd, ho, hd⟩ := q.1; ⟨o, fd, S₂.base _ _ ho, hd⟩, ?_⟩
  refine wpAny_call (q.2 A θ₂ s₂ (fv ++ us) post E R S₂ ?_ fun av as' θ' s' v q' S' X' V' => c av as' θ' s' v q' S' (X₂.trans X') V')
  have V := V.mono X₂.pre
  exact V.app V₂
theorem ev_callM {x name : Str} {p apos pos : Pos} {args : List Expr} {Q : PV} (O : ClsOK D K X.h₀) (hs : noStar args = true) (hl : args.length < 20) (hp : (apos.endLine == pos.line) = true)
    (h : EvS X dp f (.Name x p) as fun o as₁ => ∃ i fa, o = .obj i ∧ methA D i name as₁ = some fa ∧ EvsS X dp f args as₁ fun vs as₂ => FnAt X.h₀ fa ∧ ClS X dp (.ref fa) (.obj i :: vs) as₂ Q) :
    EvS X dp f (.Call (.Attribute (.Name x p) name apos) args [] pos) as Q := by
  intro A θ s L env post E R F S c
  rw [arm_eval_Call]
  refine wpAny_bind (m := attributeBase (.Name x p) name env (eval (.Name x p) env)) ?_
  show wpAny X.M A (eval (.Name x p) env) _ E s
  refine h A θ s L env _ E R F S fun o as₁ θ₁ s₁ ov q S₁ X₁ V₁ => ?_
  obtain ⟨i, fa, rfl, hm, q⟩ := q
  obtain ⟨a, ha, rfl⟩ := V₁
  refine wpAny_bind (wpAny_standAt ?_)
  have hfew : methodCallForm (args.length + ([] : List Keyword).length) (backTo pos (starEach args env)) (backToKw pos (keywordEach [] env)) = true := by
    unfold methodCallForm
    rw [back_eq pos env args hs]
    have : (args.map fun e => ((false, eval e env) : Bool × Sem Value)).all (!·.1) = true := by
      rw [List.all_eq_true]; intro y hy; obtain ⟨e, _, rfl⟩ := List.mem_map.mp hy; rfl
    rw [this]
    simp [backToKw, keywordEach]
    lia
  unfold methodCall
  rw [hfew]
  refine wpAny_bind (wpAny_holding ?_)
  show wpAny X.M A (getMethod (.ref a) name _) _ E s₁
  refine meth_ok O S₁ hm ha ?_
  refine wpAny_bind ?_
  unfold methodCallPos
  rw [hp]
  refine wpAny_pure ?_
  exact call_fn hs R (F.ext X₁) S₁ (first := [.obj i]) (.cons (show VR _ (.obj i) _ from ⟨a, ha, rfl⟩) .nil) q fun av as' θ' s' v q' S' X' V' => c av as' θ' s' v q' S' (X₁.trans X') V'
theorem St.meth {T : Hid} {h₀ : Heap} {g₀ : Array GenState} {os₀ : OsState} {θ : List Addr} {s : Shared} (S : St T h₀ g₀ os₀ θ as s) {m : Nat} {q fa : Addr} {i : Nat} (hi : as[m]? = some (.meth fa i)) (ha : θ[m]? = some q) : ∃ a, θ[i]? = some a ∧ s.heap.get? q = some (methodObj (.ref fa) (.ref a)) := by
  refine El_eaea (S.ar.objs m _ q hi ha) fun ob h1 a h2 hr4 => ?_; obtain rfl := hr4
  exact ⟨a, h2, h1⟩
theorem ev_callB {x : Str} {p pos : Pos} {Q : PV}
    (h : EvS X dp f (.Name x p) as fun o as₁ => ∃ m fa i, o = .obj m ∧ as₁[m]? = some (.meth fa i) ∧ FnAt X.h₀ fa ∧ ClS X dp (.ref fa) [.obj i] as₁ Q) : EvS X dp f (.Call (.Name x p) [] [] pos) as Q := by
  intro A θ s L env post E R F S c
  refine wpAny_Call_Name_kw (h A θ s L env _ E R F S fun o as₁ θ₁ s₁ ov q S₁ X₁ V₁ => ?_)
  obtain ⟨m, fa, i, rfl, hm, ⟨o, fd, ho, hd⟩, q⟩ := q
  obtain ⟨a, ha, rfl⟩ := V₁
  obtain ⟨b, hb, hq⟩ := S₁.meth hm ha
  refine callWith_of (P := fun h => h.get? a = some (methodObj (.ref fa) (.ref b)) ∧ h.get? fa = some o) rfl (fun h hh => ⟨_, .inr (.inr rfl), looks_bound hh.1 hh.2 hd⟩) (evalArgs_nil3 ⟨⟨hq, S₁.base _ _ ho⟩, ?_⟩)
  exact wpAny_call (method_call hq (q A θ₁ s₁ [.ref b] post E R S₁ (.cons ⟨b, hb, rfl⟩ .nil) fun av as' θ' s' v q' S' X' V' => c av as' θ' s' v q' S' (X₁.trans X') V'))
theorem ev_callS {v i : Expr} {p pos : Pos} {args : List Expr} {Q : PV} (hs : noStar args = true)
    (h : EvS X dp f (.Subscript v i p) as fun o as₁ => ∃ fa, o = .addr fa ∧ EvsS X dp f args as₁ fun vs as₂ => FnAt X.h₀ fa ∧ ClS X dp (.ref fa) vs as₂ Q) : EvS X dp f (.Call (.Subscript v i p) args [] pos) as Q := by
  intro A θ s L env post E R F S c
  show wpAny X.M A (eval (.Subscript v i p) env >>= fun fv => callWith pos fv [] (backTo pos (starEach args env)) []) post E s
  refine wpAny_bind (h A θ s L env _ E R F S fun o as₁ θ₁ s₁ ov q S₁ X₁ V₁ => ?_)
  obtain ⟨fa, rfl, q⟩ := q
  cases V₁
  exact call_fn hs R (F.ext X₁) S₁ .nil q fun av as' θ' s' v q' S' X' V' => c av as' θ' s' v q' S' (X₁.trans X') V'
theorem ts_cmp {l r : Expr} {op : CmpOp} {pos : Pos} {Q : PB} (hm : behindInMarks op r = false) (h : EvS X dp f l as fun a as₁ => EvS X dp f r as₁ fun b as₂ => ∃ v, cmpA op a b = some v ∧ Q v as₂) : TsS X dp f (.Compare l [op] [r] pos) as Q := by
  intro A θ s L env post E R F S c
  refine wpAny_isTrue_Compare1 (h A θ s L env _ E R F S fun a as₁ θ₁ s₁ v q S₁ X₁ V₁ => q A θ₁ s₁ L env _ E R (F.ext X₁) S₁ fun b as₂ θ₂ s₂ u q₂ S₂ X₂ V₂ => ?_) hm
  obtain ⟨y, e, q₃⟩ := q₂
  exact cmp_av e (V₁.mono X₂.pre) V₂ (wpAny_truthy_bool (c _ _ θ₂ s₂ q₃ S₂ (X₁.trans X₂)))
noncomputable def plainTest : Expr → Bool
  | .Name .. | .Attribute .. | .BinOp .. | .Call .. | .Subscript .. => true
  | _ => false
theorem ts_val {e : Expr} {Q : PB} (hp : plainTest e = true) (h : EvS X dp f e as fun a as₁ => ∃ v, truA a = some v ∧ Q v as₁) : TsS X dp f e as Q := by
  intro A θ s L env post E R F S c
  have fin : wpAny X.M A (eval e env) (fun v s₁ => wpAny X.M A (truthy v) post E s₁) E s := h A θ s L env _ E R F S fun a as₁ θ₁ s₁ v q S₁ X₁ V₁ => by
    obtain ⟨y, e, q⟩ := q
    exact tru_av e V₁ (c _ _ θ₁ s₁ q S₁ X₁)
  cases e <;> first | (cases hp; done) | exact isTrue_plain fin
end
end Mine

end
section
open PySem PySem.W PyProof.Rows
namespace Mine
section
variable {X : Cx} {dp : Nat} {f : Fm} {as : List AO} {D : Cls} {K : Frag}
theorem swaps_no {e : Expr} (h : noComp e = true) (t : Option Expr) (n : Nat) (env : Env) : swapsWith e t n env = pure false := by
  cases e <;> first | rfl | cases h
theorem store_ok {x : Str} {av : AV} {v : Value} {P : Loc → List AO → Prop} {A : Around} {θ : List Addr} {s : Shared} {L : Addr} {env : Env} {post : Unit → Shared → Prop} {E : Value → Shared → Prop}
    (e : storeW f x av as P) (F : FrR X f L env θ s.heap) (S : X.S θ as s) (V : VR θ av v)
    (c : ∀ loc' as' s', P loc' as' → X.S θ as' s' → ExtL X.H L θ s.heap θ s'.heap → FrR X { f with loc := loc' } L env θ s'.heap → post () s') : wpAny X.M A (storeName env x v) post E s := by
  obtain ⟨m, hm, r⟩ := F.ns
  have kf : env.scope.kind = .function := by rw [F.scope]; exact F.kind
  unfold storeW at e
  split at e
  · rename_i hk
    have hm' : s.heap.Ns env.locals m := F.loc ▸ hm
    refine wpAny_storeName_local (F.kindOf hk) hm' (fun h' hn hs => ?_) (by rw [kf]; rfl)
    rw [F.loc] at hn hs
    have ne : ∀ a ∈ θ, a ≠ L := fun a m q => F.nin (q ▸ m)
    have nb : ∀ b o, X.h₀.get? b = some o → b ≠ L := fun b o e q => by rw [q, F.apart] at e; cases e
    refine c _ _ _ e ⟨⟨S.ar.len, S.ar.nodup, fun i o a e1 e2 => let ⟨ob, x, y⟩ := S.ar.objs i o a e1 e2; ⟨ob, (hs.2 a (ne a (List.mem_of_getElem? e2))).trans x, y⟩⟩, fun b o e => (hs.2 b (nb b o e)).trans (S.base b o e), S.apart, S.gens, S.os, fun e he => ?_, S.hnin, S.hbase, S.pin⟩
      ⟨List.prefix_refl θ, fun _ x y => absurd x y, fun b o e _ _ n => (hs.2 b n).trans e, fun b o e => (if q : b = L then (let ⟨o', _, _, z, _⟩ := hn; ⟨o', q ▸ z⟩) else ⟨o, (hs.2 b q).trans e⟩), fun P m => .inl (hs.2 P fun q => F.nhid (q ▸ m))⟩ ⟨F.scope, F.kind, F.loc, F.nin, F.apart, F.nhid, ⟨_, hn, fun y av' q => ?_⟩, F.cells, F.glob, F.blt, F.code, F.qual⟩
    · refine (S.tabs e he).to (fun o x => (hs.2 e.P fun q => F.nhid (q ▸ List.mem_map_of_mem he)).trans x) (fun c o vs x d _ _ => (hs.2 c fun q => ?_).trans x) fun _ _ _ n => n
      obtain ⟨oL, es, ep, hoL, hdL, _⟩ := hm
      rw [q, hoL] at x; cases x; rw [hdL] at d; cases d
    rw [show lk (pt f.loc x av) y = _ from lk_pt x av y f.loc] at q
    by_cases hy : y = x
    · subst hy; simp at q; subst q; exact ⟨v, by simp, V⟩
    · rw [if_neg hy] at q; simp only [hy, if_false]; exact r y av' q
  · split at e
    · rename_i i hk hc
      split at e
      · rename_i u hi
        obtain ⟨a, ha, hl⟩ := F.cells x i hc
        obtain ⟨u', hu, _⟩ := S.cell hi ha
        refine wpAny_storeName_cell kf (F.kindOf hk) hl hu fun h' hc' hs => ?_
        obtain ⟨ob, g1, g2⟩ := hc'
        have P := S.upd (o' := .cell (some av)) ha hi hs g1 ⟨_, g2, v, rfl, V⟩
        exact c _ _ _ e P.1 P.2.toL (F.ext P.2)
      · cases e
    · cases e
theorem st_pass {pos : Pos} {Q : PF} (h : Q .next f.loc as) : ExS X dp f (.Pass pos) as Q :=
  fun _ θ s L _ _ _ _ F S c => wpAny_Pass (c _ _ _ θ s _ h S (ExtL.refl L θ _) F rfl)
theorem st_expr {e : Expr} {pos : Pos} {Q : PF} (hn : noComp e = true) (h : EvS X dp f e as fun _ as₁ => Q .next f.loc as₁) : ExS X dp f (.Expr e pos) as Q := by
  intro A θ s L env post E R F S c
  have kf : env.scope.kind = .function := by rw [F.scope]; exact F.kind
  exact wpAny_Expr_any (h A θ s L env _ E R F S fun av as₁ θ₁ s₁ v q S₁ X₁ V₁ => c _ _ _ θ₁ s₁ _ q S₁ X₁.toL (F.ext X₁) rfl) (by unfold interactive; rw [kf]; rfl) (swaps_no hn _ _ _)
theorem st_ret {e : Expr} {pos : Pos} {Q : PF} (h : EvS X dp f e as fun v as₁ => Q (.ret v) f.loc as₁) : ExS X dp f (.Return (some e) pos) as Q := by
  intro A θ s L env post E R F S c
  exact wpAny_Return_some (h A θ s L env _ E R F S fun av as₁ θ₁ s₁ v q S₁ X₁ V₁ => c _ _ _ θ₁ s₁ _ q S₁ X₁.toL (F.ext X₁) ⟨v, rfl, V₁⟩)
theorem st_name {x : Str} {e : Expr} {p pos : Pos} {Q : PF} (hn : noComp e = true) (h : EvS X dp f e as fun v as₁ => storeW f x v as₁ (Q .next)) : ExS X dp f (.Assign [.Name x p] e pos) as Q := by
  intro A θ s L env post E R F S c
  refine wpAny_Assign_Name (h A θ s L env _ E R F S fun av as₁ θ₁ s₁ v q S₁ X₁ V₁ => ?_) (swaps_no hn _ _ _)
  exact store_ok q (F.ext X₁) S₁ V₁ fun loc' as' s' q' S' X' F' => c _ _ _ θ₁ s' _ q' S' (X₁.toL.trans F.there F.nin (F.ext X₁).there X') F' rfl
theorem st_attr {o e : Expr} {a : Str} {p pos : Pos} {Q : PF} (O : ClsOK D K X.h₀) (hn : noComp e = true) (h : EvS X dp f e as fun v as₁ => EvS X dp f o as₁ fun ov as₂ => ∃ i, ov = .obj i ∧ setW D i a v as₂ fun as₃ => Q .next f.loc as₃) : ExS X dp f (.Assign [.Attribute o a p] e pos) as Q := by
  intro A θ s L env post E R F S c
  refine plainObj_wpAny_Assign_Attribute (h A θ s L env _ E R F S fun av as₁ θ₁ s₁ v q S₁ X₁ V₁ => q A θ₁ s₁ L env _ E R (F.ext X₁) S₁ fun b as₂ θ₂ s₂ u q₂ S₂ X₂ V₂ => ?_) (swaps_no hn _ _ _)
  obtain ⟨i, rfl, q⟩ := q₂
  obtain ⟨b, hb, rfl⟩ := V₂
  exact set_ok O S₂ q hb (V₁.mono X₂.pre) fun as' s' q' S' X' => c _ _ _ θ₂ s' _ q' S' ((X₁.trans X₂).trans X').toL (F.ext ((X₁.trans X₂).trans X')) rfl
theorem st_sub {o k e : Expr} {p pos : Pos} {Q : PF} (hn : noComp e = true) (h : EvS X dp f e as fun v as₁ => EvS X dp f o as₁ fun ov as₂ => EvS X dp f k as₂ fun kv as₃ => putW ov kv v as₃ fun as₄ => Q .next f.loc as₄) : ExS X dp f (.Assign [.Subscript o k p] e pos) as Q := by
  intro A θ s L env post E R F S c
  refine wpAny_Assign_Subscript (h A θ s L env _ E R F S fun av as₁ θ₁ s₁ v q S₁ X₁ V₁ => q A θ₁ s₁ L env _ E R (F.ext X₁) S₁ fun b as₂ θ₂ s₂ u q₂ S₂ X₂ V₂ => q₂ A θ₂ s₂ L env _ E R (F.ext (X₁.trans X₂)) S₂ fun b' as₃ θ₃ s₃ u' q₃ S₃ X₃ V₃ => ?_) (swaps_no hn _ _ _)
  exact put_ok S₃ q₃ (V₂.mono X₃.pre) V₃ (V₁.mono (X₂.pre.trans X₃.pre)) fun as' s' q' S' X' => c _ _ _ θ₃ s' _ q' S' (((X₁.trans X₂).trans X₃).trans X').toL (F.ext (((X₁.trans X₂).trans X₃).trans X')) rfl
noncomputable def isMod : Operator → Bool
  | .Mod => true
  | _ => false
theorem not_mod {op : Operator} (h : isMod op = false) : op ≠ .Mod := by rintro rfl; cases h
theorem st_augN {x : Str} {op : Operator} {e : Expr} {i : Int} {p pos : Pos} {Q : PF} (hop : isMod op = false) (hx : isKind .local f.sc x = true) (hv : lk f.loc x = some (.int i))
    (h : EvS X dp f e as fun b as₂ => ∃ j k, b = .int j ∧ intA op i j = some k ∧ storeW f x (.int k) as₂ (Q .next)) : ExS X dp f (.AugAssign (.Name x p) op e pos) as Q := by
  intro A θ s L env post E R F S c
  obtain ⟨m, hm, r⟩ := F.ns
  obtain ⟨v, a, t, rfl⟩ := r x _ hv
  refine wpAny_AugAssign_Name (wpAny_loadName_local (by rw [F.scope]; exact F.kind) (F.kindOf hx) (F.loc ▸ hm) a ?_)
  refine h A θ s L env _ E R F S fun b as₂ θ₂ s₂ u q₂ S₂ X₂ V₂ => ?_
  obtain ⟨j, k, rfl, e, q₃⟩ := q₂
  obtain ⟨t', rfl⟩ := V₂
  exact inp_int e (store_ok (s := { s₂ with toks := s₂.toks + 1 }) q₃ (F.ext X₂) (S₂.toks _) ⟨_, rfl⟩ fun loc' as' s' q' S' X' F' => c _ _ _ θ₂ s' _ q' S' (X₂.toL.trans F.there F.nin (F.ext X₂).there X') F' rfl) (not_mod hop)
theorem st_augA {o e : Expr} {op : Operator} {a : Str} {p pos : Pos} {Q : PF} (O : ClsOK D K X.h₀) (hop : isMod op = false)
    (h : EvS X dp f o as fun ov as₁ => ∃ n, ov = .obj n ∧ attrW D n a as₁ fun old as₂ => EvS X dp f e as₂ fun b as₃ => ∃ i j k, old = .int i ∧ b = .int j ∧ intA op i j = some k ∧ setW D n a (.int k) as₃ fun as₄ => Q .next f.loc as₄) : ExS X dp f (.AugAssign (.Attribute o a p) op e pos) as Q := by
  intro A θ s L env post E R F S c
  refine wpAny_AugAssign_AttributeAny (h A θ s L env _ E R F S fun ov as₁ θ₁ s₁ v q S₁ X₁ V₁ => ?_)
  obtain ⟨n, rfl, q⟩ := q
  obtain ⟨b, hb, rfl⟩ := V₁
  refine attr_ok O S₁ q hb fun old as₂ θ₂ s₂ u q₂ S₂ X₂ V₂ => q₂ A θ₂ s₂ L env _ E R (F.ext (X₁.trans X₂)) S₂ fun b' as₃ θ₃ s₃ u' q₃ S₃ X₃ V₃ => ?_
  obtain ⟨i, j, k, rfl, rfl, e, q₃⟩ := q₃
  obtain ⟨t, rfl⟩ := V₂
  obtain ⟨t', rfl⟩ := V₃
  have X₁₃ := (X₁.trans X₂).trans X₃
  exact inp_int e (set_ok (s := { s₃ with toks := s₃.toks + 1 }) O (S₃.toks _) q₃ (get_pre (X₂.pre.trans X₃.pre) hb) ⟨_, rfl⟩ fun as' s' q' S' X' => c _ _ _ θ₃ s' _ q' S' (X₁₃.trans X').toL (F.ext (X₁₃.trans X')) rfl) (not_mod hop)
theorem exs_nil {Q : PF} (h : Q .next f.loc as) : ExsS X dp f [] as Q := fun _ θ s L _ _ _ _ F S c => wpAny_execs_nil (c _ _ _ θ s _ h S (ExtL.refl L θ _) F rfl)
theorem exs_cons {st : Stmt} {r : List Stmt} {Q : PF} (h : ExS X dp f st as fun fl loc as₁ => match fl with | .next => ExsS X dp { f with loc := loc } r as₁ Q | fl => Q fl loc as₁) : ExsS X dp f (st :: r) as Q := by
  intro A θ s L env post E R F S c
  refine wpAny_execs_cons (h A θ s L env _ E R F S fun fl loc as₁ θ₁ s₁ g q S₁ X₁ F₁ G₁ => ?_)
  cases fl with
  | next =>
    cases G₁
    exact q A θ₁ s₁ L env _ E R F₁ S₁ fun fl loc as₂ θ₂ s₂ g q₂ S₂ X₂ F₂ G₂ => c _ _ _ θ₂ s₂ _ q₂ S₂ (X₁.trans F.there F.nin F₁.there X₂) F₂ G₂
  | brk => cases G₁; exact c _ _ _ θ₁ s₁ _ q S₁ X₁ F₁ rfl
  | cont => cases G₁; exact c _ _ _ θ₁ s₁ _ q S₁ X₁ F₁ rfl
  | ret v => obtain ⟨u, rfl, hu⟩ := G₁; exact c _ _ _ θ₁ s₁ _ q S₁ X₁ F₁ ⟨u, rfl, hu⟩
noncomputable def ifB (b : Bool) (P Q : Prop) : Prop := match b with
  | true => P
  | false => Q
theorem st_if {t : Expr} {b o : List Stmt} {pos : Pos} {Q : PF} (h : TsS X dp f t as fun c as₁ => ifB c (ExsS X dp f b as₁ Q) (ExsS X dp f o as₁ Q)) : ExS X dp f (.If t b o pos) as Q := by
  intro A θ s L env post E R F S c
  refine wpAny_If (h A θ s L env _ E R F S fun bb as₁ θ₁ s₁ q S₁ X₁ => ?_)
  have fin : ∀ fl loc' as' θ' s' g, Q fl loc' as' → X.S θ' as' s' → ExtL X.H L θ₁ s₁.heap θ' s'.heap → FrR X { f with loc := loc' } L env θ' s'.heap → FlR θ' fl g → post g s' :=
    fun fl loc' as' θ' s' g q S' X' F' G' => c _ _ _ θ' s' _ q S' (X₁.toL.trans F.there F.nin (F.ext X₁).there X') F' G'
  cases bb with
  | true => exact q A θ₁ s₁ L env _ E R (F.ext X₁) S₁ fin
  | false => exact q A θ₁ s₁ L env _ E R (F.ext X₁) S₁ fin
end
end Mine

end
section
open PySem PySem.W PyProof.Rows
namespace Mine
noncomputable def binW : Operator → Int → Int → (Int → Prop) → Prop
  | .Add, a, b, K => K (a + b)
  | .Sub, a, b, K => K (a - b)
  | .BitAnd, a, b, K => K (Builtin.bitAnd a b)
  | .BitOr, a, b, K => K (Builtin.bitOr a b)
  | .BitXor, a, b, K => K (Builtin.bitXor a b)
  | .LShift, a, b, K => (0 ≤ b ∧ b ≤ 1000000 ∧ a.natAbs < 2 ^ 64) ∧ K (a * 2 ^ b.toNat)
  | .RShift, a, b, K => 0 ≤ b ∧ K (a.fdiv (2 ^ b.toNat))
  | .FloorDiv, a, b, K => (b ≠ 0 ∧ Builtin.divisionGoesByPylong a b = false) ∧ K (a.fdiv b)
  | .Mod, a, b, K => b ≠ 0 ∧ K (a.fmod b)
  | .Mult, a, b, K => (Builtin.Int.intBits a ≤ 64 ∨ Builtin.Int.intBits b ≤ 64) ∧ K (a * b)
  | _, _, _, _ => False
theorem binW_ok {op : Operator} {a b : Int} {K : Int → Prop} (h : binW op a b K) : ∃ k, intA op a b = some k ∧ K k := by
  cases op with
  | Add => exact ⟨_, rfl, h⟩
  | Sub => exact ⟨_, rfl, h⟩
  | BitAnd => exact ⟨_, rfl, h⟩
  | BitOr => exact ⟨_, rfl, h⟩
  | BitXor => exact ⟨_, rfl, h⟩
  | LShift => exact ⟨_, if_pos h.1, h.2⟩
  | RShift => exact ⟨_, if_pos h.1, h.2⟩
  | FloorDiv => exact ⟨_, if_pos h.1, h.2⟩
  | Mod => exact ⟨_, if_pos h.1, h.2⟩
  | Mult => exact ⟨_, if_pos h.1, h.2⟩
  | _ => exact h.elim
noncomputable abbrev Prim := List AV → List AO → PV → Prop
noncomputable abbrev Prims := Addr → Option (Nat × Prim)
noncomputable def nameW (f : Fm) (x : Str) (as : List AO) (Q : PV) : Prop := match isKind .local f.sc x with
  | true => (match lk f.loc x with | some v => Q v as | none => False)
  | false => match isKind .cell f.sc x || isKind .free f.sc x, seq x "__classdict__", lk f.cells x with
    | true, false, some i => (match as[i]? with | some (.cell (some v)) => Q v as | _ => False)
    | _, _, _ => False
structure RecW where
  ev : Nat → Fm → Expr → List AO → PV → Prop
  evs : Nat → Fm → List Expr → List AO → PVs → Prop
  ts : Nat → Fm → Expr → List AO → PB → Prop
  ex : Nat → Fm → Stmt → List AO → PF → Prop
  exs : Nat → Fm → List Stmt → List AO → PF → Prop
  cl : Nat → Addr → List AV → List AO → PV → Prop
noncomputable def constW (c : Const) (as : List AO) (Q : PV) : Prop := match c with
  | .int i => Q (.int i) as
  | .none => Q .none as
  | .bool b => Q (.bool b) as
  | .str b => Q (.str b) as
  | _ => False
noncomputable def cmpOf : Expr → Option (Expr × CmpOp × Expr × Pos)
  | .Compare l [op] [r] p => some (l, op, r, p)
  | _ => none
noncomputable def jAttr (D : Cls) (f : Fm) (o : Expr) (a : Str) (as : List AO) (Q : PV) : Prop := match o with
  | .Name x _ => nameW f x as fun o as₁ => (match o with | .obj i => attrW D i a as₁ Q | _ => False)
  | _ => False
noncomputable def jBin (R : RecW) (dp : Nat) (f : Fm) (l : Expr) (op : Operator) (r : Expr) (as : List AO) (Q : PV) : Prop :=
  R.ev dp f l as fun a as₁ => R.ev dp f r as₁ fun b as₂ => (match a, b with | .int i, .int j => binW op i j fun k => Q (.int k) as₂ | _, _ => False)
noncomputable def jInv (R : RecW) (dp : Nat) (f : Fm) (op : UnaryOp) (x : Expr) (as : List AO) (Q : PV) : Prop := match op with
  | .Invert => R.ev dp f x as fun a as₁ => (match a with | .int i => Q (.int (Builtin.bitNot i)) as₁ | _ => False)
  | _ => False
noncomputable def jSub (D : Cls) (R : RecW) (dp : Nat) (f : Fm) (v i : Expr) (as : List AO) (Q : PV) : Prop := match noSlice i with
  | true => R.ev dp f v as fun o as₁ => R.ev dp f i as₁ fun k as₂ => itemW D o k as₂ fun r => Q r as₂
  | false => False
noncomputable def jMeth (D : Cls) (R : RecW) (dp : Nat) (f : Fm) (o : Expr) (name : Str) (apos : Pos) (args : List Expr) (pos : Pos) (as : List AO) (Q : PV) : Prop := match o with
  | .Name x _ => (match noStar args && Nat.blt args.length 20 && Nat.beq apos.endLine pos.line with
    | true => nameW f x as fun o as₁ => (match o with
      | .obj i => (match methA D i name as₁ with
        | some fa => R.evs dp f args as₁ fun vs as₂ => R.cl dp fa (.obj i :: vs) as₂ Q
        | none => False)
      | _ => False)
    | false => False)
  | _ => False
noncomputable def jObj (R : RecW) (dp : Nat) (f : Fm) (x : Str) (args : List Expr) (as : List AO) (Q : PV) : Prop := match args with
  | [] => nameW f x as fun o as₁ => (match o with
    | .obj m => (match as₁[m]? with | some (.meth fa i) => R.cl dp fa [.obj i] as₁ Q | _ => False)
    | _ => False)
  | _ => False
noncomputable def jTab (R : RecW) (dp : Nat) (f : Fm) (v i : Expr) (p : Pos) (args : List Expr) (as : List AO) (Q : PV) : Prop := match noStar args with
  | true => R.ev dp f (.Subscript v i p) as fun o as₁ => (match o with
    | .addr fa => R.evs dp f args as₁ fun vs as₂ => R.cl dp fa vs as₂ Q
    | _ => False)
  | false => False
noncomputable def jCall (D : Cls) (R : RecW) (dp : Nat) (f : Fm) (fn : Expr) (args : List Expr) (kws : List Keyword) (pos : Pos) (as : List AO) (Q : PV) : Prop := match kws with
  | [] => (match fn with
    | .Attribute o name apos => jMeth D R dp f o name apos args pos as Q
    | .Name x _ => jObj R dp f x args as Q
    | .Subscript v i p => jTab R dp f v i p args as Q
    | _ => False)
  | _ => False
noncomputable def evF (D : Cls) (P : Prims) (R : RecW) (dp : Nat) (f : Fm) (e : Expr) (as : List AO) (Q : PV) : Prop := match e with
  | .Constant c _ _ => constW c as Q
  | .Name x _ => nameW f x as Q
  | .Attribute o a _ => jAttr D f o a as Q
  | .BinOp l op r _ => jBin R dp f l op r as Q
  | .UnaryOp op x _ => jInv R dp f op x as Q
  | .Subscript v i _ => jSub D R dp f v i as Q
  | .Call fn args kws pos => jCall D R dp f fn args kws pos as Q
  | _ => False
noncomputable def evsF (R : RecW) (dp : Nat) (f : Fm) (es : List Expr) (as : List AO) (Q : PVs) : Prop := match es with
    | [] => Q [] as
    | e :: r => R.ev dp f e as fun a as₁ => R.evs dp f r as₁ fun l as₂ => Q (a :: l) as₂
noncomputable def jCmp (R : RecW) (dp : Nat) (f : Fm) (l : Expr) (op : CmpOp) (r : Expr) (as : List AO) (Q : PB) : Prop := match behindInMarks op r with
  | false => R.ev dp f l as fun a as₁ => R.ev dp f r as₁ fun b as₂ => (match cmpA op a b with | some v => Q v as₂ | none => False)
  | true => False
noncomputable def jPlain (R : RecW) (dp : Nat) (f : Fm) (e : Expr) (as : List AO) (Q : PB) : Prop := match plainTest e with
  | true => R.ev dp f e as fun a as₁ => (match truA a with | some v => Q v as₁ | none => False)
  | false => False
noncomputable def tsF (R : RecW) (dp : Nat) (f : Fm) (e : Expr) (as : List AO) (Q : PB) : Prop := match cmpOf e with
  | some (l, op, r, _) => jCmp R dp f l op r as Q
  | none => jPlain R dp f e as Q
noncomputable def jE (R : RecW) (dp : Nat) (f : Fm) (e : Expr) (as : List AO) (K : PV) : Prop := match noComp e with
  | true => R.ev dp f e as K
  | false => False
noncomputable def jAsgn (D : Cls) (R : RecW) (dp : Nat) (f : Fm) (t e : Expr) (as : List AO) (Q : PF) : Prop := match t with
  | .Name x _ => jE R dp f e as fun v as₁ => storeW f x v as₁ (Q .next)
  | .Attribute o a _ => jE R dp f e as fun v as₁ => R.ev dp f o as₁ fun ov as₂ => (match ov with | .obj i => setW D i a v as₂ fun as₃ => Q .next f.loc as₃ | _ => False)
  | .Subscript o k _ => jE R dp f e as fun v as₁ => R.ev dp f o as₁ fun ov as₂ => R.ev dp f k as₂ fun kv as₃ => putW ov kv v as₃ fun as₄ => Q .next f.loc as₄
  | _ => False
noncomputable def jAugN (R : RecW) (dp : Nat) (f : Fm) (x : Str) (op : Operator) (e : Expr) (as : List AO) (Q : PF) : Prop := match isKind .local f.sc x, isMod op, lk f.loc x with
  | true, false, some (.int i) => R.ev dp f e as fun b as₁ => (match b with | .int j => binW op i j fun k => storeW f x (.int k) as₁ (Q .next) | _ => False)
  | _, _, _ => False
noncomputable def jAugA (D : Cls) (R : RecW) (dp : Nat) (f : Fm) (o : Expr) (a : Str) (op : Operator) (e : Expr) (as : List AO) (Q : PF) : Prop := match isMod op with
  | false => R.ev dp f o as fun ov as₁ => (match ov with
    | .obj i => attrW D i a as₁ fun old as₂ => R.ev dp f e as₂ fun b as₃ => (match old, b with
      | .int x, .int y => binW op x y fun k => setW D i a (.int k) as₃ fun as₄ => Q .next f.loc as₄
      | _, _ => False)
    | _ => False)
  | true => False
noncomputable def jAug (D : Cls) (R : RecW) (dp : Nat) (f : Fm) (t : Expr) (op : Operator) (e : Expr) (as : List AO) (Q : PF) : Prop := match t with
  | .Name x _ => jAugN R dp f x op e as Q
  | .Attribute o a _ => jAugA D R dp f o a op e as Q
  | _ => False
noncomputable def exF (D : Cls) (R : RecW) (dp : Nat) (f : Fm) (st : Stmt) (as : List AO) (Q : PF) : Prop := match st with
  | .Pass _ => Q .next f.loc as
  | .Expr e _ => jE R dp f e as fun _ as₁ => Q .next f.loc as₁
  | .Return v _ => (match v with | some e => R.ev dp f e as fun v as₁ => Q (.ret v) f.loc as₁ | none => False)
  | .Assign ts e _ => (match ts with | [t] => jAsgn D R dp f t e as Q | _ => False)
  | .AugAssign t op e _ => jAug D R dp f t op e as Q
  | .If t b o _ => R.ts dp f t as fun c as₁ => ifB c (R.exs dp f b as₁ Q) (R.exs dp f o as₁ Q)
  | _ => False
noncomputable def exsF (R : RecW) (dp : Nat) (f : Fm) (ss : List Stmt) (as : List AO) (Q : PF) : Prop := match ss with
    | [] => Q .next f.loc as
    | st :: r => R.ex dp f st as fun fl loc as₁ => (match fl with | .next => R.exs dp { f with loc := loc } r as₁ Q | fl => Q fl loc as₁)
noncomputable def clF (D : Cls) (P : Prims) (R : RecW) (dp : Nat) (fa : Addr) (vs : List AV) (as : List AO) (Q : PV) : Prop := match P fa with
    | some (t, g) => (match Nat.ble t dp with | true => g vs as Q | false => False)
    | none => match dp with
      | 0 => False
      | dp + 1 => match D.fn fa with
        | some d => (match Nat.beq vs.length d.names.length with
          | true => R.exs dp ⟨d.scope, (d.names.zip vs).reverse, [], d.code, d.qual⟩ d.body as fun fl _ as' => (match fl with | .ret v => Q v as' | .next => Q .none as' | _ => False)
          | false => False)
        | none => False
noncomputable def recW (D : Cls) (P : Prims) : Nat → RecW
  | 0 => ⟨fun _ _ _ _ _ => False, fun _ _ _ _ _ => False, fun _ _ _ _ _ => False, fun _ _ _ _ _ => False, fun _ _ _ _ _ => False, fun _ _ _ _ _ => False⟩
  | n + 1 => ⟨evF D P (recW D P n), evsF (recW D P n), tsF (recW D P n), exF D (recW D P n), exsF (recW D P n), clF D P (recW D P n)⟩
noncomputable abbrev evW (D : Cls) (P : Prims) (n : Nat) := (recW D P n).ev
noncomputable abbrev evsW (D : Cls) (P : Prims) (n : Nat) := (recW D P n).evs
noncomputable abbrev tsW (D : Cls) (P : Prims) (n : Nat) := (recW D P n).ts
noncomputable abbrev exW (D : Cls) (P : Prims) (n : Nat) := (recW D P n).ex
noncomputable abbrev exsW (D : Cls) (P : Prims) (n : Nat) := (recW D P n).exs
noncomputable abbrev clW (D : Cls) (P : Prims) (n : Nat) := (recW D P n).cl
end Mine

end
section
open PySem PySem.W PyProof.Rows
namespace Mine
structure ClassOK (X : Cx) (D : Cls) (P : Prims) : Prop where
  cls : ∃ K, ClsOK D K X.h₀
  fns : ∀ fa d, D.fn fa = some d → FnOK X.h₀ fa d
  prims : ∀ fa t g, P fa = some (t, g) → FnAt X.h₀ fa ∧ ∀ dp vs as Q, t ≤ dp → g vs as Q → ClS X dp (.ref fa) vs as Q
section
variable {X : Cx} {D : Cls} {P : Prims}
theorem nameW_ok {dp : Nat} {f : Fm} {as : List AO} {x : Str} {p : Pos} {Q : PV} (h : nameW f x as Q) : EvS X dp f (.Name x p) as Q := by
  unfold nameW at h
  split at h
  · rename_i hk
    split at h
    · rename_i v hv; exact ev_local hk hv h
    · cases h
  · split at h
    · rename_i i hk hn hc
      split at h
      · rename_i v hv; exact ev_cell hk hn hc hv h
      · cases h
    · cases h
theorem attrW_mono {D : Cls} {i : Nat} {a : Str} {as : List AO} {Q Q' : PV} (h : attrW D i a as Q) (k : ∀ a b, Q a b → Q' a b) : attrW D i a as Q' := by
  unfold attrW at h ⊢
  split at h
  · split at h
    · split at h
      · split at h
        · exact k _ _ h
        · cases h
      · split at h
        · exact k _ _ h
        · exact k _ _ h
        · exact k _ _ h
        · cases h
    · cases h
  · cases h
structure Spec (X : Cx) (D : Cls) (P : Prims) (n : Nat) : Prop where
  ev : ∀ dp f e as Q, evW D P n dp f e as Q → EvS X dp f e as Q
  evs : ∀ dp f es as Q, evsW D P n dp f es as Q → EvsS X dp f es as Q
  ts : ∀ dp f e as Q, tsW D P n dp f e as Q → TsS X dp f e as Q
  ex : ∀ dp f st as Q, exW D P n dp f st as Q → ExS X dp f st as Q
  exs : ∀ dp f ss as Q, exsW D P n dp f ss as Q → ExsS X dp f ss as Q
  cl : ∀ dp fa vs as Q, clW D P n dp fa vs as Q → FnAt X.h₀ fa ∧ ClS X dp (.ref fa) vs as Q
structure SpecW (X : Cx) (R : RecW) : Prop where
  ev : ∀ dp f e as Q, R.ev dp f e as Q → EvS X dp f e as Q
  evs : ∀ dp f es as Q, R.evs dp f es as Q → EvsS X dp f es as Q
  ts : ∀ dp f e as Q, R.ts dp f e as Q → TsS X dp f e as Q
  ex : ∀ dp f st as Q, R.ex dp f st as Q → ExS X dp f st as Q
  exs : ∀ dp f ss as Q, R.exs dp f ss as Q → ExsS X dp f ss as Q
  cl : ∀ dp fa vs as Q, R.cl dp fa vs as Q → FnAt X.h₀ fa ∧ ClS X dp (.ref fa) vs as Q
theorem nosome {α : Type _} {a : α} {P : Prop} (h : none = some a) : P := nomatch h
theorem cmpOf_ok {e l r : Expr} {op : CmpOp} {p : Pos} (h : cmpOf e = some (l, op, r, p)) : e = .Compare l [op] [r] p := by
  cases e with
  | Compare a ops rs q => cases ops with
    | nil => exact nosome h
    | cons o ops => cases ops with
      | cons _ _ => exact nosome h
      | nil => cases rs with
        | nil => exact nosome h
        | cons r rs => cases rs with
          | cons _ _ => exact nosome h
          | nil => cases h; rfl
  | _ => exact nosome h
section
variable {R : RecW} {K : Frag} {dp : Nat} {f : Fm} {as : List AO} {Q : PV}
theorem constW_ok {c : Const} {k : Nat} {p : Pos} (h : constW c as Q) : EvS X dp f (.Constant c k p) as Q := by
  cases c with
  | int i => exact ev_int h
  | none => exact ev_none h
  | bool b => exact ev_bool h
  | str b => exact ev_str h
  | _ => exact False.elim h
theorem jAttr_ok (OK : ClsOK D K X.h₀) {o : Expr} {a : Str} {p : Pos} (h : jAttr D f o a as Q) : EvS X dp f (.Attribute o a p) as Q := by
  cases o with
  | Name x p' =>
    unfold jAttr at h
    dsimp only at h
    refine ev_attr OK ((nameW_ok h).mono fun o as₁ q => ?_)
    split at q
    · exact ⟨_, rfl, q⟩
    · cases q
  | _ => exact False.elim h
theorem jBin_ok (ih : SpecW X R) {l r : Expr} {op : Operator} {p : Pos} (h : jBin R dp f l op r as Q) : EvS X dp f (.BinOp l op r p) as Q := by
  refine ev_bin ((ih.ev _ _ _ _ _ h).mono fun a as₁ q => (ih.ev _ _ _ _ _ q).mono fun b as₂ q => ?_)
  split at q
  · obtain ⟨k, e, q⟩ := binW_ok q; exact ⟨_, _, k, rfl, rfl, e, q⟩
  · cases q
theorem jInv_ok (ih : SpecW X R) {op : UnaryOp} {x : Expr} {p : Pos} (h : jInv R dp f op x as Q) : EvS X dp f (.UnaryOp op x p) as Q := by
  cases op with
  | Invert =>
    refine ev_inv ((ih.ev _ _ _ _ _ h).mono fun a as₁ q => ?_)
    split at q
    · exact ⟨_, rfl, q⟩
    · cases q
  | _ => exact False.elim h
theorem jSub_ok (OK : ClsOK D K X.h₀) (ih : SpecW X R) {v i : Expr} {p : Pos} (h : jSub D R dp f v i as Q) : EvS X dp f (.Subscript v i p) as Q := by
  unfold jSub at h
  split at h
  · rename_i hn; exact ev_sub OK hn ((ih.ev _ _ _ _ _ h).mono fun a as₁ q => ih.ev _ _ _ _ _ q)
  · cases h
theorem jMeth_ok (OK : ClsOK D K X.h₀) (ih : SpecW X R) {o : Expr} {name : Str} {apos pos : Pos} {args : List Expr} (h : jMeth D R dp f o name apos args pos as Q) : EvS X dp f (.Call (.Attribute o name apos) args [] pos) as Q := by
  cases o with
  | Name x p =>
    change (match noStar args && Nat.blt args.length 20 && Nat.beq apos.endLine pos.line with | true => _ | false => _) at h
    split at h
    · rename_i hc
      simp only [Bool.and_eq_true] at hc
      obtain ⟨⟨h1, h2⟩, h3⟩ := hc
      refine ev_callM OK h1 (by simpa using h2) (by simpa using h3) ((nameW_ok h).mono fun o as₁ q => ?_)
      split at q
      · split at q
        · rename_i fa hm; exact ⟨_, fa, rfl, hm, (ih.evs _ _ _ _ _ q).mono fun vs as₂ q => ih.cl _ _ _ _ _ q⟩
        · cases q
      · cases q
    · cases h
  | _ => exact False.elim h
theorem jObj_ok (ih : SpecW X R) {x : Str} {p pos : Pos} {args : List Expr} (h : jObj R dp f x args as Q) : EvS X dp f (.Call (.Name x p) args [] pos) as Q := by
  cases args with
  | nil =>
    unfold jObj at h
    dsimp only at h
    refine ev_callB ((nameW_ok h).mono fun o as₁ q => ?_)
    split at q
    · split at q
      · rename_i fa i hm; exact ⟨_, fa, i, rfl, hm, ih.cl _ _ _ _ _ q⟩
      · cases q
    · cases q
  | cons _ _ => exact False.elim h
theorem jTab_ok (ih : SpecW X R) {v i : Expr} {p pos : Pos} {args : List Expr} (h : jTab R dp f v i p args as Q) : EvS X dp f (.Call (.Subscript v i p) args [] pos) as Q := by
  unfold jTab at h
  split at h
  · rename_i hs
    refine ev_callS hs ((ih.ev _ _ _ _ _ h).mono fun o as₁ q => ?_)
    split at q
    · exact ⟨_, rfl, (ih.evs _ _ _ _ _ q).mono fun vs as₂ q => ih.cl _ _ _ _ _ q⟩
    · cases q
  · cases h
theorem jCall_ok (OK : ClsOK D K X.h₀) (ih : SpecW X R) {fn : Expr} {args : List Expr} {kws : List Keyword} {pos : Pos} (h : jCall D R dp f fn args kws pos as Q) : EvS X dp f (.Call fn args kws pos) as Q := by
  cases kws with
  | cons _ _ => exact False.elim h
  | nil => cases fn with
    | Attribute o name apos => exact jMeth_ok OK ih h
    | Name x p => exact jObj_ok ih h
    | Subscript v i p => exact jTab_ok ih h
    | _ => exact False.elim h
theorem evF_ok (OK : ClsOK D K X.h₀) (ih : SpecW X R) {e : Expr} (h : evF D P R dp f e as Q) : EvS X dp f e as Q := by
  cases e with
  | Constant c k p => exact constW_ok h
  | Name x p => exact nameW_ok h
  | Attribute o a p => exact jAttr_ok OK h
  | BinOp l op r p => exact jBin_ok ih h
  | UnaryOp op x p => exact jInv_ok ih h
  | Subscript v i p => exact jSub_ok OK ih h
  | Call fn args kws pos => exact jCall_ok OK ih h
  | _ => exact False.elim h
end
section
variable {R : RecW} {K : Frag} {dp : Nat} {f : Fm} {as : List AO} {Q : PF}
theorem jCmp_ok (ih : SpecW X R) {l r : Expr} {op : CmpOp} {p : Pos} {Q : PB} (h : jCmp R dp f l op r as Q) : TsS X dp f (.Compare l [op] [r] p) as Q := by
  unfold jCmp at h
  split at h
  · rename_i hm
    refine ts_cmp hm ((ih.ev _ _ _ _ _ h).mono fun a as₁ q => (ih.ev _ _ _ _ _ q).mono fun b as₂ q => ?_)
    split at q
    · rename_i v hv; exact ⟨v, hv, q⟩
    · cases q
  · cases h
theorem jPlain_ok (ih : SpecW X R) {e : Expr} {Q : PB} (h : jPlain R dp f e as Q) : TsS X dp f e as Q := by
  unfold jPlain at h
  split at h
  · rename_i hp
    refine ts_val hp ((ih.ev _ _ _ _ _ h).mono fun a as₁ q => ?_)
    split at q
    · rename_i v hv; exact ⟨v, hv, q⟩
    · cases q
  · cases h
theorem tsF_ok (ih : SpecW X R) {e : Expr} {Q : PB} (h : tsF R dp f e as Q) : TsS X dp f e as Q := by
  unfold tsF at h
  split at h
  · rename_i hc; rw [cmpOf_ok hc]; exact jCmp_ok ih h
  · exact jPlain_ok ih h
theorem jE_ok (ih : SpecW X R) {e : Expr} {Q : PV} (h : jE R dp f e as Q) : noComp e = true ∧ EvS X dp f e as Q := by
  unfold jE at h
  split at h
  · rename_i hn; exact ⟨hn, ih.ev _ _ _ _ _ h⟩
  · cases h
theorem jAsgn_ok (OK : ClsOK D K X.h₀) (ih : SpecW X R) {t e : Expr} {pos : Pos} (h : jAsgn D R dp f t e as Q) : ExS X dp f (.Assign [t] e pos) as Q := by
  cases t with
  | Name x p' => have z := jE_ok ih h; exact st_name z.1 z.2
  | Attribute o a p' =>
    have z := jE_ok ih h
    refine st_attr OK z.1 (z.2.mono fun a as₁ q => (ih.ev _ _ _ _ _ q).mono fun b as₂ q => ?_)
    split at q
    · exact ⟨_, rfl, q⟩
    · cases q
  | Subscript o k p' => have z := jE_ok ih h; exact st_sub z.1 (z.2.mono fun a as₁ q => (ih.ev _ _ _ _ _ q).mono fun b as₂ q => ih.ev _ _ _ _ _ q)
  | _ => exact False.elim h
theorem jAugN_ok (ih : SpecW X R) {x : Str} {op : Operator} {e : Expr} {p pos : Pos} (h : jAugN R dp f x op e as Q) : ExS X dp f (.AugAssign (.Name x p) op e pos) as Q := by
  unfold jAugN at h
  split at h
  · rename_i hk hm hv
    refine st_augN hm hk hv ((ih.ev _ _ _ _ _ h).mono fun a as₁ q => ?_)
    split at q
    · obtain ⟨k, e, q⟩ := binW_ok q; exact ⟨_, k, rfl, e, q⟩
    · cases q
  · cases h
theorem jAugA_ok (OK : ClsOK D K X.h₀) (ih : SpecW X R) {o : Expr} {a : Str} {op : Operator} {e : Expr} {p pos : Pos} (h : jAugA D R dp f o a op e as Q) : ExS X dp f (.AugAssign (.Attribute o a p) op e pos) as Q := by
  unfold jAugA at h
  split at h
  · rename_i hm
    refine st_augA OK hm ((ih.ev _ _ _ _ _ h).mono fun a as₁ q => ?_)
    split at q
    · refine ⟨_, rfl, attrW_mono q fun old as₂ q => (ih.ev _ _ _ _ _ q).mono fun b as₃ q => ?_⟩
      split at q
      · refine El_ea (binW_ok q) fun k e q => ?_; exact ⟨_, _, k, rfl, rfl, e, q⟩
      · cases q
    · cases q
  · cases h
theorem exF_ok (OK : ClsOK D K X.h₀) (ih : SpecW X R) {st : Stmt} (h : exF D R dp f st as Q) : ExS X dp f st as Q := by
  cases st with
  | Pass p => exact st_pass h
  | Expr e p => have z := jE_ok ih h; exact st_expr z.1 z.2
  | Return v p => cases v with
    | some e => exact st_ret (ih.ev _ _ _ _ _ h)
    | none => exact False.elim h
  | Assign ts e p => cases ts with
    | nil => exact False.elim h
    | cons t ts => cases ts with
      | cons _ _ => exact False.elim h
      | nil => exact jAsgn_ok OK ih h
  | AugAssign t op e p => cases t with
    | Name x p' => exact jAugN_ok ih h
    | Attribute o a p' => exact jAugA_ok OK ih h
    | _ => exact False.elim h
  | If t b o p =>
    refine st_if ((ih.ts _ _ _ _ _ h).mono fun c as₁ q => ?_)
    cases c with
    | true => exact ih.exs _ _ _ _ _ q
    | false => exact ih.exs _ _ _ _ _ q
  | _ => exact False.elim h
theorem clF_ok (O : ClassOK X D P) (OK : ClsOK D K X.h₀) (ih : SpecW X R) {fa : Addr} {vs : List AV} {Q : PV} (h : clF D P R dp fa vs as Q) : FnAt X.h₀ fa ∧ ClS X dp (.ref fa) vs as Q := by
  unfold clF at h
  split at h
  · rename_i t g hg
    split at h
    · rename_i hb; exact ⟨(O.prims fa t g hg).1, (O.prims fa t g hg).2 dp vs as Q (Nat.le_of_ble_eq_true hb) h⟩
    · cases h
  · split at h
    · cases h
    · split at h
      · rename_i d hd
        split at h
        · rename_i hl
          exact ⟨(O.fns fa d hd).at, cl_def (O.fns fa d hd) OK.lim (Nat.eq_of_beq_eq_true hl) (ih.exs _ _ _ _ _ h)⟩
        · cases h
      · cases h
end
theorem spec0 (O : ClassOK X D P) : ∀ n, SpecW X (recW D P n)
  | 0 => ⟨fun _ _ _ _ _ h => False.elim h, fun _ _ _ _ _ h => False.elim h, fun _ _ _ _ _ h => False.elim h, fun _ _ _ _ _ h => False.elim h, fun _ _ _ _ _ h => False.elim h, fun _ _ _ _ _ h => False.elim h⟩
  | n + 1 => by
    have ih := spec0 O n
    obtain ⟨K, OK⟩ := O.cls
    refine ⟨fun dp f e as Q h => evF_ok (P := P) OK ih h, fun dp f es as Q h => ?_, fun dp f e as Q h => tsF_ok ih h, fun dp f st as Q h => exF_ok OK ih h, fun dp f ss as Q h => ?_, fun dp fa vs as Q h => clF_ok O OK ih h⟩
    · cases es with
      | nil => exact evs_nil h
      | cons e r => exact evs_cons ((ih.ev _ _ _ _ _ h).mono fun a as₁ q => ih.evs _ _ _ _ _ q)
    · cases ss with
      | nil => exact exs_nil h
      | cons st r =>
        refine exs_cons ((ih.ex _ _ _ _ _ h).mono fun fl loc as₁ q => ?_)
        cases fl with
        | next => exact ih.exs _ _ _ _ _ q
        | brk => exact q
        | cont => exact q
        | ret v => exact q
theorem spec (O : ClassOK X D P) (n : Nat) : Spec X D P n := let z := spec0 O n; ⟨z.ev, z.evs, z.ts, z.ex, z.exs, z.cl⟩
end
end Mine

end
section
open PySem PySem.W PyProof.Rows
namespace Mine
noncomputable def Cx.re (X : Cx) (L : Addr) (θ : List Addr) (h : Heap) : Cx := { X with h₀ := hideAll h (L :: (θ ++ X.H)), T := ⟨X.T.tabs, θ⟩ }
section
variable {X : Cx} {dp : Nat} {f : Fm} {as as' : List AO} {θ θ' : List Addr} {s s' : Shared} {L : Addr} {env : Env}
theorem re_S (S : X.S θ as s) : (X.re L θ s.heap).S θ as s :=
  ⟨S.ar, fun b o e => of_hideAll _ e, fun a m => hideAll_none _ (.tail _ (List.mem_append_left _ m)), S.gens, S.os, S.tabs, S.hnin, fun e he => hideAll_none _ (.tail _ (List.mem_append_right _ (List.mem_map_of_mem he))), List.prefix_refl _⟩
theorem re_F {h : Heap} (F : FrR X f L env θ h) : FrR (X.re L θ h) f L env θ h := ⟨F.scope, F.kind, F.loc, F.nin, hideAll_none _ (.head _), F.nhid, F.ns, F.cells, F.glob, F.blt, F.code, F.qual⟩
theorem re_base (S : X.S θ as s) (hL : X.h₀.get? L = none) : ∀ b o, X.h₀.get? b = some o → (X.re L θ s.heap).h₀.get? b = some o := fun b o e => by
  refine hideAll_get _ (S.base b o e) fun m => ?_
  rcases List.mem_cons.mp m with q | m
  · rw [q, hL] at e; cases e
  · rcases List.mem_append.mp m with m | m
    · rw [S.apart b m] at e; cases e
    · obtain ⟨t, ht, q⟩ := List.mem_map.mp m
      rw [← q, S.hbase t ht] at e; cases e
theorem re_at {b : Addr} {o : Obj} (e : s.heap.get? b = some o) (h1 : b ≠ L) (h2 : b ∉ θ) (h3 : b ∉ X.H) : (X.re L θ s.heap).h₀.get? b = some o :=
  hideAll_get _ e fun m => by
    rcases List.mem_cons.mp m with q | m
    · exact h1 q
    · rcases List.mem_append.mp m with m | m
      · exact h2 m
      · exact h3 m
theorem re_back (S : X.S θ as s) (hL : X.h₀.get? L = none) (S' : (X.re L θ s.heap).S θ' as' s') : X.S θ' as' s' :=
  ⟨S'.ar, fun b o e => S'.base b o (re_base S hL b o e), fun a m => (by
    cases q : X.h₀.get? a with
    | none => rfl
    | some o => have := S'.apart a m; rw [re_base S hL a o q] at this; cases this), S'.gens, S'.os, S'.tabs, S'.hnin, S.hbase, S.pin.trans S'.pin⟩
theorem use_re {A : Around} {e : Expr} {Q : PV} {post : Value → Shared → Prop} {E : Value → Shared → Prop} (h : EvS (X.re L θ s.heap) dp f e as Q) (R : Room A dp) (F : FrR X f L env θ s.heap) (S : X.S θ as s)
    (c : ∀ av as' θ' s' v, Q av as' → X.S θ' as' s' → Ext X.H θ s.heap θ' s'.heap → VR θ' av v → post v s') : wpAny X.M A (eval e env) post E s :=
  h A θ s L env post E R (re_F F) (re_S S) fun av as' θ' s' v q S' => c av as' θ' s' v q (re_back S F.apart S')
end
structure LamOK (X : Cx) (q : Addr) (d : FD) (body : Expr) (cells : List (Str × Nat)) : Prop where
  ex : ∃ o fd, X.h₀.get? q = some o ∧ o.data = .func fd ∧ X.h₀.CodeRec fd.code fd.qualname ∧ fd.body = .expr body ∧ fd.scope = d.scope ∧ fd.globals = 3 ∧ fd.builtins = 0 ∧ fd.code = d.code ∧ fd.qualname ++ ".<locals>." = d.qual ∧
    (∀ vals : List Value, vals.length = d.names.length → bindArgs fd ⟨vals, []⟩ = pure (d.names.zip vals)) ∧ (∀ x i, lk cells x = some i → ∃ a, X.T.pin[i]? = some a ∧ fd.closure.lookup x = some a)
  cell : ∀ x ∈ d.scope.names, x.2 ≠ .cell
  loc : ∀ x ∈ d.names, d.scope.names.lookup x = some .local
  co : d.scope.isCoroutine = false
  gen : d.scope.isGenerator = false
  kind : d.scope.kind = .function
section
variable {X : Cx} {dp : Nat} {f : Fm} {as : List AO}
theorem cl_lam {fa : Addr} {d : FD} {body : Expr} {cells : List (Str × Nat)} {vs : List AV} {Q : PV} (O : LamOK X fa d body cells) (lim : X.h₀.NoLimit) (hl : vs.length = d.names.length)
    (h : EvS X dp ⟨d.scope, (d.names.zip vs).reverse, cells, d.code, d.qual⟩ body as Q) : ClS X (dp + 1) (.ref fa) vs as Q := by
  intro A θ s us post E R S V c
  refine El_eeaaaaaaaaaa O.ex fun o fd ho hd hc hb hs hg hbl hcd hql hbind hclo => ?_
  have hroom : A.depth < recursionLimit := by have := R.1; lia
  refine kla_callFunE hroom (S.base _ _ ho) hd (by rw [hs]; exact O.co) (by rw [hs]; exact O.gen) hb (Heap.CodeRec.keeps hc S.base) ?_
  rw [hbind us (by rw [V.len, hl])]
  refine wpAny_pure (wpAny_newFunctionEnv (by rw [hs]; exact O.cell) (fun x hx => by rw [hs]; exact O.loc _ (List.of_mem_zip hx).1) (fun h₁ hn hsb => ⟨(lim.keeps S.base).fresh _ hsb, kla_codeExpr ?_⟩) (by rw [hs]; exact O.kind))
  have hk : ∀ b o, s.heap.get? b = some o → h₁.get? b = some o := fun b o e => hsb.extBut b o (Nat.ne_of_lt (Heap.lt_size e)) (Heap.get?_push_of_some _ e)
  have S₁ : X.S θ as { s with heap := h₁, toks := s.toks + (d.names.zip us).length } := S.keeps hk
  refine h (A.deeper _) θ _ s.heap.objs.size _ _ _ ⟨?_, ?_, R.2.2⟩ ⟨hs, O.kind, rfl, fun m => Nat.lt_irrefl _ (S.lt m), S.fresh, S.freshH, ⟨_, hn, fun x av e => ((LRs.zip V d.names).rev).look x av e⟩, fun x i e => ?_, hg, hbl, hcd, hql⟩ S₁ fun av as' θ' s' v q S' X' V' => ?_
  · have := R.1; show A.depth + 1 + dp < _; lia
  · have := R.2.1; show A.units + 3 + 4 * dp + 40 < _; lia
  · refine El_ea (hclo x i e) fun a h1 h2 => ?_; exact ⟨a, get_pre S.pin h1, h2⟩
  · have X'' : Ext X.H θ s.heap θ' s'.heap := ⟨X'.pre, fun a m n => ⟨(by
        cases r : s.heap.get? a with
        | none => rfl
        | some o => have := (X'.fresh a m n).1; rw [hk a o r] at this; cases this), (X'.fresh a m n).2⟩,
      fun b o e n nh => X'.keep b o (hk b o e) n nh, fun b o e => X'.ex b o (hk b o e), tab_trans (fun b o e => ⟨o, hk b o e⟩) (S.tabKeep hk) X'.tab⟩
    exact c _ _ θ' s' _ q S' X'' V'
end
noncomputable def cellNs : List (Str × NameKind) → List Str
  | [] => []
  | (x, k) :: r => match k == .cell with | true => x :: cellNs r | false => cellNs r
theorem cells_names : ∀ (names : List (Str × NameKind)) (n : Nat) (acc : List (Str × Addr)), (cellsFrom n names acc).map (·.1) = (cellNs names).reverse ++ acc.map (·.1)
  | [], _, _ => rfl
  | (x, k) :: r, n, acc => by
    unfold cellsFrom cellNs
    cases h : k == NameKind.cell with
    | true => simp only [if_true]; rw [cells_names r]; simp
    | false => simp only [Bool.false_eq_true, if_false]; rw [cells_names r]
noncomputable def isLocK (sc : Scope) (x : Str) : Bool := match lk sc.names x with
  | some .local => true
  | _ => false
noncomputable def locA (sc : Scope) : List (Str × AV) → Loc → Loc
  | [], l => l
  | (n, v) :: r, l => locA sc r (match isLocK sc n with | true => pt l n v | false => l)
noncomputable def celA (sc : Scope) : List (Str × AV) → Loc → Loc
  | [], l => l
  | (n, v) :: r, l => celA sc r (match isLocK sc n with | true => l | false => pt l n v)
noncomputable def RelL (θ : List Addr) (l : Loc) (m : Str → Option Value) : Prop := ∀ x av, lk l x = some av → ∃ v, m x = some v ∧ VR θ av v
noncomputable def RelC (θ : List Addr) (l : Loc) (m : Str → Option Value) : Prop := ∀ x, CR θ (lk l x) (m x)
theorem RelL.put {θ : List Addr} {l : Loc} {m : Str → Option Value} (h : RelL θ l m) (n : Str) {a : AV} {v : Value} (r : VR θ a v) : RelL θ (pt l n a) fun y => if y = n then some v else m y := fun x av e => by
  rw [lk_pt] at e
  by_cases q : x = n
  · subst q; simp at e; subst e; exact ⟨v, by simp, r⟩
  · simp only [q, if_false] at e ⊢; exact h x av e
theorem RelC.put {θ : List Addr} {l : Loc} {m : Str → Option Value} (h : RelC θ l m) (n : Str) {a : AV} {v : Value} (r : VR θ a v) : RelC θ (pt l n a) fun y => if y = n then some v else m y := fun x => by
  rw [lk_pt]
  by_cases q : x = n
  · subst q; simp only [if_true]; exact ⟨v, rfl, r⟩
  · simp only [q, if_false]; exact h x
theorem isLocK_iff {sc : Scope} {x : Str} : isLocK sc x = true ↔ sc.names.lookup x = some .local := by
  unfold isLocK
  rw [lk_lookup]
  split
  · rename_i h; simp [h]
  · rename_i h; simp; exact h
theorem locA_rel {θ : List Addr} {sc : Scope} {kf : Str → Option NameKind} (hk : ∀ x, kf x = sc.names.lookup x) {ab : List (Str × AV)} {b : List (Str × Value)} (h : LRs θ ab b) : ∀ {l : Loc} {m : Str → Option Value}, RelL θ l m → RelL θ (locA sc ab l) (bindL kf b m) := by
  induction h with
  | nil => intro l m r; exact r
  | @cons n a v l' m' q _ ih =>
    intro l m r
    unfold locA bindL
    refine ih ?_
    cases e : isLocK sc n with
    | true => rw [if_pos (by rw [hk]; exact isLocK_iff.mp e)]; exact r.put n q
    | false => rw [if_neg (by rw [hk]; intro q; rw [isLocK_iff.mpr q] at e; cases e)]; exact r
theorem celA_rel {θ : List Addr} {sc : Scope} {kf : Str → Option NameKind} (hk : ∀ x, kf x = sc.names.lookup x) {ab : List (Str × AV)} {b : List (Str × Value)} (h : LRs θ ab b) : ∀ {l : Loc} {m : Str → Option Value}, RelC θ l m → RelC θ (celA sc ab l) (bindC kf b m) := by
  induction h with
  | nil => intro l m r; exact r
  | @cons n a v l' m' q _ ih =>
    intro l m r
    unfold celA bindC
    refine ih ?_
    cases e : isLocK sc n with
    | true => rw [if_pos (by rw [hk]; exact isLocK_iff.mp e)]; exact r
    | false => rw [if_neg (by rw [hk]; intro q; rw [isLocK_iff.mpr q] at e; cases e)]; exact r.put n q
noncomputable def idxs : List Str → Nat → List (Str × Nat)
  | [], _ => []
  | x :: r, n => (x, n) :: idxs r (n + 1)
theorem idxs_look : ∀ (cl : List (Str × Addr)) (θ : List Addr) (x : Str) (i : Nat), lk (idxs (cl.map (·.1)) θ.length) x = some i → ∃ a, (θ ++ cl.map (·.2))[i]? = some a ∧ cl.lookup x = some a
  | [], _, _, _, e => by cases e
  | (y, c) :: r, θ, x, i, e => by
    unfold List.map idxs lk at e
    rw [List.lookup_cons]
    cases q : seq y x with
    | true =>
      rw [q] at e; cases e
      have := seq_iff.mp q; subst this
      exact ⟨c, by simp, by simp⟩
    | false =>
      rw [q] at e
      have hn : (x == y) = false := by
        cases h : x == y with
        | false => rfl
        | true => have := eq_of_beq h; subst this; rw [seq_iff.mpr rfl] at q; cases q
      rw [hn]
      have ih := idxs_look r (θ ++ [c]) x i (by rw [List.length_append]; exact e)
      simpa using ih
theorem lookup_mem : ∀ {cl : List (Str × Addr)} {n : Str} {c : Addr}, (cl.map (·.1)).Nodup → (n, c) ∈ cl → cl.lookup n = some c
  | (y, d) :: r, n, c, hn, hm => by
    rw [List.lookup_cons]
    rcases List.mem_cons.mp hm with e | hm
    · cases e; simp
    · have h := List.nodup_cons.mp hn
      have : n ≠ y := fun q => h.1 (q ▸ List.mem_map_of_mem (f := (·.1)) hm)
      rw [beq_false_of_ne this]; exact lookup_mem h.2 hm
structure FnOKC (h₀ : Heap) (fa : Addr) (d : FD) : Prop where
  ex : ∃ o fd, h₀.get? fa = some o ∧ o.data = .func fd ∧ h₀.CodeRec fd.code fd.qualname ∧ fd.body = .stmts d.body ∧ fd.scope = d.scope ∧ fd.globals = 3 ∧ fd.builtins = 0 ∧ fd.code = d.code ∧ fd.qualname ++ ".<locals>." = d.qual ∧ fd.closure = [] ∧
    (∀ vals : List Value, vals.length = d.names.length → bindArgs fd ⟨vals, []⟩ = pure (d.names.zip vals))
  nd : (cellNs d.scope.names).Nodup
  loc : ∀ x ∈ d.names, d.scope.names.lookup x = some .local ∨ (d.scope.names.lookup x = some .cell ∧ x ∈ cellNs d.scope.names)
  co : d.scope.isCoroutine = false
  gen : d.scope.isGenerator = false
  kind : d.scope.kind = .function
theorem lookup_isSome : ∀ {cl : List (Str × Addr)} {x : Str}, x ∈ cl.map (·.1) → (cl.lookup x).isSome = true
  | (y, d) :: r, x, h => by
    rw [List.lookup_cons]
    cases q : x == y with
    | true => rfl
    | false =>
      rcases List.mem_cons.mp h with e | h
      · subst e; simp at q
      · exact lookup_isSome h
noncomputable def cellFm (d : FD) (vs : List AV) (n : Nat) : Fm := ⟨d.scope, locA d.scope (d.names.zip vs) [], idxs (cellNs d.scope.names).reverse n, d.code, d.qual⟩
noncomputable def cellAs (d : FD) (vs : List AV) : List AO := (cellNs d.scope.names).reverse.map fun x => .cell (lk (celA d.scope (d.names.zip vs) []) x)
theorem St.cells {T : Hid} {h₀ : Heap} {g₀ : Array GenState} {os₀ : OsState} {θ : List Addr} {as : List AO} {s : Shared} (S : St T h₀ g₀ os₀ θ as s) {h' : Heap} {k : Nat} (hk : ∀ b o, s.heap.get? b = some o → h'.get? b = some o) {cl : List (Str × Addr)}
    (hc : ∀ p ∈ cl, s.heap.objs.size < p.2) (hp : cl.Pairwise fun x y => x.2 ≠ y.2) {av : Str → Option AV} (ho : ∀ p ∈ cl, ∃ u, h'.IsCell p.2 u ∧ CR θ (av p.1) u) :
    St T h₀ g₀ os₀ (θ ++ cl.map (·.2)) (as ++ cl.map fun p => .cell (av p.1)) { s with heap := h', toks := k } ∧ Ext (hidOf T) θ s.heap (θ ++ cl.map (·.2)) h' := by
  have S₁ : St T h₀ g₀ os₀ θ as { s with heap := h', toks := k } := S.keeps hk
  have big : ∀ a ∈ cl.map (·.2), s.heap.objs.size < a := fun a m => by obtain ⟨p, hp, rfl⟩ := List.mem_map.mp m; exact hc p hp
  have nn : ∀ a ∈ cl.map (·.2), s.heap.get? a = none := fun a m => by
    cases q : s.heap.get? a with
    | none => rfl
    | some o => exact absurd (Heap.lt_size q) (Nat.not_lt.mpr (Nat.le_of_lt (big a m)))
  have nH : ∀ a ∈ cl.map (·.2), a ∉ hidOf T := fun a m q => by
    obtain ⟨e, he, rfl⟩ := List.mem_map.mp q
    obtain ⟨ps, x⟩ := (S.tabs e he).is
    rw [nn _ m] at x; cases x
  refine ⟨⟨⟨?_, ?_, ?_⟩, S₁.base, ?_, S.gens, S.os, fun e he => ?_, fun e he m => ?_, S.hbase, S.pin.trans ⟨_, rfl⟩⟩, ⟨⟨_, rfl⟩, ?_, fun b o e _ _ => hk b o e, fun b o e => ⟨o, hk b o e⟩, S.tabKeep hk⟩⟩
  · simp [S.ar.len]
  · refine List.nodup_append.mpr ⟨S.ar.nodup, ?_, fun a ha b hb e => ?_⟩
    · exact List.pairwise_map.mpr hp
    · subst e; exact absurd (S.lt ha) (Nat.not_lt.mpr (Nat.le_of_lt (big a hb)))
  · intro i o a e1 e2
    by_cases q : i < as.length
    · rw [List.getElem?_append_left q] at e1
      rw [List.getElem?_append_left (by rw [← S.ar.len]; exact q)] at e2
      refine El_ea (S₁.ar.objs i o a e1 e2) fun ob x y => ?_
      exact ⟨ob, x, y.mono ⟨_, rfl⟩⟩
    · have q := Nat.le_of_not_lt q
      rw [List.getElem?_append_right q, List.getElem?_map] at e1
      rw [List.getElem?_append_right (by rw [← S.ar.len]; exact q), ← S.ar.len, List.getElem?_map] at e2
      refine El_ea (Option.map_eq_some_iff.mp e1) fun p hp hr2 => ?_; obtain rfl := hr2
      rw [hp] at e2; cases e2
      obtain ⟨u, ⟨ob, g1, g2⟩, g3⟩ := ho p (List.mem_of_getElem? hp)
      exact ⟨ob, g1, u, g2, g3.mono ⟨_, rfl⟩⟩
  · intro a ha
    rcases List.mem_append.mp ha with m | m
    · exact S.apart a m
    · cases q : h₀.get? a with
      | none => rfl
      | some o => have := S.base _ _ q; rw [nn a m] at this; cases this
  · refine (S.tabs e he).to (fun _ x => hk _ _ x) (fun _ _ _ x _ _ _ => hk _ _ x) fun c o x n m => ?_
    rcases List.mem_append.mp m with m | m
    · exact n m
    · rw [nn c m] at x; cases x
  · rcases List.mem_append.mp m with m | m
    · exact S.hnin e he m
    · exact nH _ m (List.mem_map_of_mem he)
  · intro a ha na
    rcases List.mem_append.mp ha with m | m
    · exact absurd m na
    · exact ⟨nn a m, nH a m⟩
section
variable {X : Cx} {dp : Nat} {f : Fm} {as : List AO}
theorem cl_defC {fa : Addr} {d : FD} {vs : List AV} {Q : PV} (O : FnOKC X.h₀ fa d) (lim : X.h₀.NoLimit) (hl : vs.length = d.names.length)
    (h : ExsS X dp (cellFm d vs as.length) d.body (as ++ cellAs d vs) fun fl _ as' => match fl with | .ret v => Q v as' | .next => Q .none as' | _ => False) : ClS X (dp + 1) (.ref fa) vs as Q := by
  intro A θ s us post E R S V c
  refine El_eeaaaaaaaaaa O.ex fun o fd ho hd hc hb hs hg hbl hcd hql hclo hbind => ?_
  have hroom : A.depth < recursionLimit := by have := R.1; lia
  have hnm : ∀ n, (cellsFrom n fd.scope.names []).map (·.1) = (cellNs d.scope.names).reverse := fun n => by rw [hs, cells_names]; simp
  refine codeAny_call_cells hroom (S.base _ _ ho) hd (lim.keeps S.base) (Heap.CodeRec.keeps hc S.base) hb (hbind us (by rw [V.len, hl])) hclo (fun x hx => ?_) (fun s₁ I => ?_) (by rw [hs]; exact O.co) (by rw [hs]; exact O.gen) (by rw [hs]; exact O.kind)
  · rw [hs]
    refine (O.loc _ (List.of_mem_zip hx).1).imp id fun q => ⟨q.1, lookup_isSome ?_⟩
    rw [cells_names]; simpa using q.2
  · have LR := LRs.zip V d.names
    have kf : ∀ x, (callEnvC fd s.heap.objs.size fa).kindOf x = d.scope.names.lookup x := fun x => by rw [← hs]; rfl
    refine El_ee I.toInCall.same fun h₁ tk e₁ => ?_
    subst e₁
    have hcl : (callEnvC fd s.heap.objs.size fa).cells = cellsFrom (s.heap.objs.size + 1) fd.scope.names [] := rfl
    have nd : ((cellsFrom (s.heap.objs.size + 1) fd.scope.names []).map (·.1)).Nodup := by rw [hnm]; exact List.pairwise_reverse.mpr (O.nd.imp fun h => h.symm)
    obtain ⟨S₁, X₁⟩ := S.cells (h' := h₁) (k := tk) I.toInCall.keep (cl := cellsFrom (s.heap.objs.size + 1) fd.scope.names []) (av := fun x => lk (celA d.scope (d.names.zip vs) []) x) (fun p hp => I.above p.1 p.2 hp) I.apart fun p hp =>
      ⟨_, I.cell p.1 p.2 (lookup_mem nd hp), celA_rel kf LR (l := []) (m := fun _ => none) (fun x => rfl) p.1⟩
    have eas : (cellsFrom (s.heap.objs.size + 1) fd.scope.names []).map (fun p => AO.cell (lk (celA d.scope (d.names.zip vs) []) p.1)) = cellAs d vs := by
      unfold cellAs; rw [← hnm (s.heap.objs.size + 1), List.map_map]; rfl
    rw [eas] at S₁
    have nL : s.heap.objs.size ∉ θ ++ (cellsFrom (s.heap.objs.size + 1) fd.scope.names []).map (·.2) := fun m => by
      rcases List.mem_append.mp m with m | m
      · exact Nat.lt_irrefl _ (S.lt m)
      · obtain ⟨p, hp, e⟩ := List.mem_map.mp m
        have := I.above p.1 p.2 hp
        exact absurd e (Nat.ne_of_gt this)
    refine h (A.deeper _) _ _ s.heap.objs.size _ _ _ ⟨?_, ?_, R.2.2⟩ ⟨hs, O.kind, rfl, nL, S.fresh, S.freshH, ⟨_, I.toInCall.ns, fun x av e => ?_⟩, fun x i e => ?_, hg, hbl, hcd, hql⟩ S₁ fun fl loc' as' θ' s' g q S' X' F' G => ?_
    · have := R.1; show A.depth + 1 + dp < _; lia
    · have := R.2.1; show A.units + 3 + 4 * dp + 40 < _; lia
    · refine El_ea (locA_rel kf LR (l := []) (m := fun _ => none) (fun x av e => by cases e) x av e) fun v a b => ?_
      exact ⟨v, a, b.mono X₁.pre⟩
    · have e : lk (idxs (cellNs d.scope.names).reverse as.length) x = some i := e
      rw [← hnm (s.heap.objs.size + 1), S.ar.len] at e
      exact idxs_look _ θ x i e
    · have X'' : Ext X.H θ s.heap θ' s'.heap := by
        refine ⟨X₁.pre.trans X'.pre, fun a m n => ?_, fun b o e n nh => ?_, fun b o e => (let ⟨o', e'⟩ := X₁.ex b o e; X'.ex b o' e'), tab_trans X₁.ex X₁.tab X'.tab⟩
        · by_cases q : a ∈ θ ++ (cellsFrom (s.heap.objs.size + 1) fd.scope.names []).map (·.2)
          · exact X₁.fresh a q n
          · refine ⟨?_, (X'.fresh a m q).2⟩
            cases r : s.heap.get? a with
            | none => rfl
            | some o => have := (X'.fresh a m q).1; rw [I.toInCall.keep a o r] at this; cases this
        · have nb : b ∉ θ ++ (cellsFrom (s.heap.objs.size + 1) fd.scope.names []).map (·.2) := fun m => by
            have := (X₁.fresh b m n).1; rw [e] at this; cases this
          exact X'.keep b o (I.toInCall.keep b o e) nb nh fun q => by rw [q, size_none] at e; cases e
      cases fl with
      | next => cases G; exact c _ _ θ' s' _ q S' X'' rfl
      | brk => exact q.elim
      | cont => exact q.elim
      | ret v => obtain ⟨u, rfl, hu⟩ := G; exact c _ _ θ' s' _ q S' X'' hu
end
end Mine

end
section
open PySem PySem.W PyProof.Rows
namespace Mine
noncomputable def clo (cl : List (Str × Addr)) : List (Str × NameKind) → List (Str × Addr) → Option (List (Str × Addr))
  | [], acc => some acc
  | (n, k) :: r, acc => match k == .free with
    | true => (match cl.lookup n with | some a => clo cl r ((n, a) :: acc) | none => none)
    | false => clo cl r acc
theorem closure_eq {env : Env} {scope : Scope} {cs : List (Str × Addr)} (h : clo env.cells scope.names [] = some cs) : closureFor scope env = pure cs := by
  unfold closureFor
  have gen : ∀ (names : List (Str × NameKind)) (acc : List (Str × Addr)), clo env.cells names acc = some cs →
      (forIn names acc (fun (x : Str × NameKind) (cs : List (Str × Addr)) => (do
        if x.2 == .free then
          let c ← cellOf env x.1
          pure (.yield ((x.1, c) :: cs))
        else pure (.yield cs) : Sem (ForInStep (List (Str × Addr)))))) = (pure cs : Sem _) := by
    intro names
    induction names with
    | nil => intro acc h; cases h; rfl
    | cons x r ih =>
      intro acc h
      obtain ⟨n, k⟩ := x
      unfold clo at h
      rw [List.forIn_cons]
      cases hk : k == NameKind.free with
      | true =>
        rw [hk] at h
        simp only at h
        cases hl : env.cells.lookup n with
        | none => rw [hl] at h; cases h
        | some a =>
          rw [hl] at h
          simp only [hk, if_true, cellOf, hl]
          exact ih _ h
      | false =>
        rw [hk] at h
        simp only [hk]
        exact ih _ h
  exact (congrArg (· >>= fun r => pure r) (gen scope.names [] h)).trans rfl
section
variable {X : Cx} {dp : Nat} {f : Fm} {as : List AO}
theorem none_ge {h : Heap} {c : Addr} (g : h.objs.size ≤ c) : h.get? c = none := by
  cases q : h.get? c with
  | none => rfl
  | some o => exact absurd (Heap.lt_size q) (Nat.not_lt.mpr g)
theorem St.extBut {T : Hid} {h₀ : Heap} {g₀ : Array GenState} {os₀ : OsState} {θ : List Addr} {as : List AO} {s : Shared} (S : St T h₀ g₀ os₀ θ as s) {h' : Heap} {k : Nat} {e : TabE} (he : e ∈ T.tabs) (hu : ∀ e' ∈ T.tabs, e'.P = e.P → e' = e)
    (hk : ∀ b o, b ≠ e.P → s.heap.get? b = some o → h'.get? b = some o) (htn : h'.get? e.P = s.heap.get? e.P ∨ ∃ l k c, h'.get? e.P = some (tabObj #[l, k, .ref c]) ∧ s.heap.get? c = none) (ht : TabAt (hidOf T) e θ h') : St T h₀ g₀ os₀ θ as { s with heap := h', toks := k } ∧ Ext (hidOf T) θ s.heap θ h' := by
  have nP : ∀ a ∈ θ, a ≠ e.P := fun a m q => S.hnin e he (q ▸ m)
  refine ⟨⟨⟨S.ar.len, S.ar.nodup, fun i o a e1 e2 => let ⟨ob, x, y⟩ := S.ar.objs i o a e1 e2; ⟨ob, hk _ _ (nP a (List.mem_of_getElem? e2)) x, y⟩⟩, fun b o q => hk _ _ (fun r => ?_) (S.base b o q), S.apart, S.gens, S.os, fun e' he' => ?_, S.hnin, S.hbase, S.pin⟩,
    ⟨List.prefix_refl θ, fun _ x y => absurd x y, fun b o q _ nh => hk _ _ (fun r => nh (r ▸ List.mem_map_of_mem he)) q, fun b o q => (if r : b = e.P then (let ⟨ps, z⟩ := ht.is; ⟨_, r ▸ z⟩) else ⟨o, hk b o r q⟩), fun P m => by
      by_cases q : P = e.P
      · subst q; exact htn
      · refine El_ea (List.mem_map.mp m) fun e' he' hr2 => ?_; obtain rfl := hr2
        obtain ⟨ps, x⟩ := (S.tabs e' he').is
        exact .inl (by rw [x]; exact hk _ _ q x)⟩⟩
  · rw [r, S.hbase e he] at q; cases q
  · by_cases q : e'.P = e.P
    · rw [hu e' he' q]; exact ht
    · exact (S.tabs e' he').to (fun o x => hk _ _ q x) (fun c o vs x _ _ nh => hk _ _ (fun r => nh (r ▸ List.mem_map_of_mem he)) x) fun _ _ _ n => n
theorem lam_ok {A : Around} {θ : List Addr} {s : Shared} {L : Addr} {env : Env} {post : Value → Shared → Prop} {E : Value → Shared → Prop} {params : Arguments} {body : Expr} {scope : Scope} {pos : Pos} {e : TabE} {c : Addr} {mg : Str → Option Value} {clos : List (Str × Addr)}
    (F : FrR X f L env θ s.heap) (S : X.S θ as s) (hc : f.code = .ref c) (C : CodeHd X.h₀ c e.P) (he : e ∈ X.T.tabs) (hu : ∀ e' ∈ X.T.tabs, e'.P = e.P → e' = e) (hpos : e.pos = pos) (hq : e.qual = f.qual ++ "<lambda>")
    (hg : X.h₀.Ns 3 mg) (hb : X.h₀.BuiltinsAt mg e.P) (hdef : defaultsOf params env = ([], [])) (hcl : clo env.cells scope.names [] = some clos)
    (k : ∀ q c' pm ctv s', X.S θ as s' → Ext X.H θ s.heap θ s'.heap → s'.heap.get? q = some (kla_obj "<lambda>" e.qual params body scope clos pm c' ctv) → s'.heap.CodeRec (.ref c') e.qual → (c' ≠ L ∧ c' ∉ θ ∧ c' ∉ X.H) → (q ≠ L ∧ q ∉ θ ∧ q ∉ X.H) → post (.ref q) s') :
    wpAny X.M A (eval (.Lambda params body scope pos) env) post E s := by
  have hcode : env.code = .ref c := F.code.trans hc
  have hqe : env.qual ++ "<lambda>" = e.qual := by rw [F.qual, hq]
  have hgs : s.heap.Ns 3 mg := hg.keeps S.base
  refine El_eeaaaaaaa hb fun bm ob b1 b2 b3 b4 b5 b6 b7 b8 => ?_; try clear hb
  have hbs : s.heap.BuiltinsAt mg e.P := ⟨bm, ob, b1, b2, b3, b4, S.base _ _ b5, b6, b7, b8⟩
  have hgP : (3 : Addr) ≠ e.P := fun q => by
    obtain ⟨o, es, ep, e1, _⟩ := hg
    rw [q, S.hbase e he] at e1; cases e1
  have Cs := C.keeps S.base
  have Hlt : ∀ a ∈ X.H, a < s.heap.objs.size := fun a m => by
    obtain ⟨t, ht, rfl⟩ := List.mem_map.mp m
    obtain ⟨ps, x⟩ := (S.tabs t ht).is
    exact Heap.lt_size x
  obtain ⟨oL, hoL⟩ := F.there
  have big : ∀ a, s.heap.objs.size ≤ a → a ≠ L ∧ a ∉ θ ∧ a ∉ X.H := fun a ha =>
    ⟨fun q => absurd (Heap.lt_size hoL) (Nat.not_lt.mpr (q ▸ ha)), fun m => absurd (S.lt m) (Nat.not_lt.mpr ha), fun m => absurd (Hlt a m) (Nat.not_lt.mpr ha)⟩
  refine kla_eval hdef ?_
  rw [hqe]
  rcases S.tabs e he with t | ⟨c', t1, t2, t3, t4⟩
  · refine kla_makeFunction (closure_eq hcl) F.glob hgs hcode Cs t trivial rfl hgP hbs fun c' ctv h' tk hx hge hlt hrec htb => ?_
    have gb := big c' hge
    have P := S.extBut (k := tk) he hu (h' := h'.push (kla_obj "<lambda>" e.qual params body scope clos ((mg "__name__").getD .none) c' ctv)) (fun b o n q => Heap.get?_push_of_some _ (hx b o n q)) (.inr ⟨_, _, c', Heap.get?_push_of_some _ (by rw [htb]; rfl), none_ge hge⟩)
      (.inr ⟨c', Heap.get?_push_of_some _ (by rw [htb, hpos]; rfl), Heap.CodeRec.push hrec _, gb.2.1, gb.2.2⟩)
    exact k _ c' _ ctv _ P.1 P.2 (Heap.get?_push_size _ rfl) (Heap.CodeRec.push hrec _) gb (big _ (Nat.le_trans hge (Nat.le_of_lt hlt)))
  · have hf : codeAmong pos #[rawInt e.pos.line, rawInt e.pos.col, Value.ref c'].toList = some (.ref c') := by
      rw [hpos]; show codeAmong pos [.int _ 0, .int _ 0, .ref c'] = _; unfold codeAmong; simp
    refine kla_makeFunctionHit (closure_eq hcl) F.glob hgs hcode Cs t1 trivial hf hbs fun ctv h' tk hk hsz => ?_
    have hk' := fun b o (q : s.heap.get? b = some o) => Heap.get?_push_of_some (kla_obj "<lambda>" e.qual params body scope clos ((mg "__name__").getD .none) c' ctv) (hk b o q)
    have P := S.extBut (k := tk) he hu (h' := h'.push (kla_obj "<lambda>" e.qual params body scope clos ((mg "__name__").getD .none) c' ctv)) (fun b o n q => hk' b o q) (.inl (by rw [t1]; exact hk' _ _ t1))
      (.inr ⟨c', hk' _ _ t1, Heap.CodeRec.keeps t2 hk', t3, t4⟩)
    refine k _ c' _ ctv _ P.1 P.2 (Heap.get?_push_size _ rfl) (Heap.CodeRec.keeps t2 hk') ⟨fun q => ?_, t3, t4⟩ (big _ hsz)
    obtain ⟨c'', o, vs, t, e1, e2, e3, _⟩ := t2
    cases e1
    obtain ⟨m, ⟨oL', es, ep, ho', hd', _⟩, _⟩ := F.ns
    rw [q, ho'] at e2; cases e2; rw [hd'] at e3; cases e3
theorem ev_callF {x : Str} {p pos : Pos} {args : List Expr} {Q : PV} (hs : noStar args = true)
    (h : EvS X dp f (.Name x p) as fun o as₁ => ∃ fa, o = .addr fa ∧ EvsS X dp f args as₁ fun vs as₂ => FnAt X.h₀ fa ∧ ClS X dp (.ref fa) vs as₂ Q) : EvS X dp f (.Call (.Name x p) args [] pos) as Q := by
  intro A θ s L env post E R F S c
  refine wpAny_Call_Name_kw (h A θ s L env _ E R F S fun o as₁ θ₁ s₁ ov q S₁ X₁ V₁ => ?_)
  obtain ⟨fa, rfl, q⟩ := q
  cases V₁
  exact call_fn hs R (F.ext X₁) S₁ .nil q fun av as' θ' s' v q' S' X' V' => c av as' θ' s' v q' S' (X₁.trans X') V'
end
theorem FnOK.keeps {h h' : Heap} {fa : Addr} {d : FD} (O : FnOK h fa d) (k : ∀ b o, h.get? b = some o → h'.get? b = some o) : FnOK h' fa d :=
  ⟨let ⟨o, fd, a, b, c, r⟩ := O.ex; ⟨o, fd, k _ _ a, b, Heap.CodeRec.keeps c k, r⟩, O.cell, O.loc, O.co, O.gen, O.kind⟩
theorem ClsOK.keeps {D : Cls} {K : Frag} {h h' : Heap} (O : ClsOK D K h) (k : ∀ b o, h.get? b = some o → h'.get? b = some o) : ClsOK D K h' :=
  ⟨O.X.keeps k, O.cf, O.lim.keeps k, O.inst, O.int, O.fn, O.tab, fun a xs e => let ⟨vs, l, r⟩ := O.tabs a xs e; ⟨vs, isList_keeps l k, r⟩⟩
end Mine

end
section
open PySem PySem.W PyProof.Rows
namespace Mine
noncomputable section
noncomputable def fdOf (j a : Nat) : Option Stmt → Option FD
  | some (.FunctionDef _ args body _ _ _ scope _ _ _) => some ⟨args.args.map (·.arg), body, scope, .ref (a - 1), fQual j ++ ".<locals>."⟩
  | _ => none
noncomputable def fnAt : List (Str × Nat × Nat) → Addr → Option Nat
  | [], _ => none
  | (_, j, a) :: r, b => match Nat.beq a b with | true => some j | false => fnAt r b
noncomputable def hasN : List Str → Str → Bool
  | [], _ => false
  | y :: r, x => match seq y x with | true => true | false => hasN r x
noncomputable def attNames : List Str := [⟨⟨[110, 97, 109, 101]⟩⟩, ⟨⟨[98, 121, 116, 101, 77, 97, 115, 107]⟩⟩, ⟨⟨[97, 100, 100, 114, 77, 97, 115, 107]⟩⟩, ⟨⟨[97, 100, 100, 114, 72, 105, 103, 104, 77, 97, 115, 107]⟩⟩, ⟨⟨[115, 112, 66, 97, 115, 101]⟩⟩, ⟨⟨[101, 120, 99, 121, 99, 108, 101, 115]⟩⟩, ⟨⟨[97, 100, 100, 99, 121, 99, 108, 101, 115]⟩⟩, ⟨⟨[112, 114, 111, 99, 101, 115, 115, 111, 114, 67, 121, 99, 108, 101, 115]⟩⟩, ⟨⟨[109, 101, 109, 111, 114, 121]⟩⟩, ⟨⟨[115, 116, 97, 114, 116, 95, 112, 99]⟩⟩, ⟨⟨[112, 99]⟩⟩, ⟨⟨[115, 112]⟩⟩, ⟨⟨[97]⟩⟩, ⟨⟨[120]⟩⟩, ⟨⟨[121]⟩⟩, ⟨⟨[112]⟩⟩]
noncomputable def mAttr (x : Str) : CA := match lk cstNames x with
  | some i => .int i
  | none => match lk methNames x with
    | some (_, a) => .fn a
    | none => match lk tabNames x with
      | some a => .tab a
      | none => match hasN attNames x with
        | true => .inst
        | false => .no
noncomputable def mTab (a : Addr) : Option (List AV) := match Nat.beq a 1423, Nat.beq a 1424, Nat.beq a 1425 with
  | true, _, _ => some (instrL.map .addr)
  | _, true, _ => some (cycL.map .int)
  | _, _, true => some (extL.map .int)
  | _, _, _ => none
noncomputable def mFn (a : Addr) : Option FD := match (Nat.beq a 85 || Nat.beq a 36), fnAt metNames a with
  | false, some j => fdOf j a clsB[j]?
  | _, _ => none
noncomputable def mD : Cls := ⟨1428, mAttr, mFn, mTab⟩
structure MS where
  a : Int
  x : Int
  y : Int
  p : Int
  pc : Int
  sp : Int
  ex : Int
  cyc : Int
  ad : AV
  st : AV
  mem : List Int
noncomputable def nS (s : List Nat) : Str := ⟨⟨s⟩⟩
noncomputable def esOf (m : MS) : List (Str × AV) :=
  [(nS [110, 97, 109, 101], .str (nS [54, 53, 48, 50])), (nS [98, 121, 116, 101, 77, 97, 115, 107], .int 255), (nS [97, 100, 100, 114, 77, 97, 115, 107], .int 65535),
   (nS [97, 100, 100, 114, 72, 105, 103, 104, 77, 97, 115, 107], .int 65280), (nS [115, 112, 66, 97, 115, 101], .int 256), (nS [101, 120, 99, 121, 99, 108, 101, 115], .int m.ex),
   (nS [97, 100, 100, 99, 121, 99, 108, 101, 115], m.ad), (nS [112, 114, 111, 99, 101, 115, 115, 111, 114, 67, 121, 99, 108, 101, 115], .int m.cyc), (nS [109, 101, 109, 111, 114, 121], .obj 2),
   (nS [115, 116, 97, 114, 116, 95, 112, 99], m.st), (nS [112, 99], .int m.pc), (nS [115, 112], .int m.sp), (nS [97], .int m.a), (nS [120], .int m.x), (nS [121], .int m.y), (nS [112], .int m.p)]
noncomputable def stA (m : MS) (j : List AO) : List AO := .inst 1428 1 :: .dict (esOf m) :: .ints m.mem :: j
noncomputable def rdW (xs : List Int) (k : Int) (K : Int → Prop) : Prop := (0 ≤ k ∧ k < xs.length ∧ k < 2 ^ 63) ∧ K (xs.getD k.toNat 0)
noncomputable def noP : Prims := fun _ => none
noncomputable def dW : FD := (fdOf 22 85 clsB[22]?).getD ⟨[], [], clsSc, .none, nS []⟩
structure WB where
  (w s1 s2 s3 a1 a2 ba1 ba2 w2 bw : Str)
  (la : Arguments)
  (lb : Expr)
  (ls : Scope)
  (lp pw pa p1 p2 p3 p4 p5 p6 p7 p8 p9 ap1 ap2 cp1 cp2 cp3 pr : Pos)
noncomputable def WB.ret (b : WB) : Expr := .BinOp (.Call (.Attribute (.Name b.s1 b.p1) b.ba1 b.ap1) [.Name b.a1 b.p2] [] b.cp1) .Add
  (.BinOp (.Call (.Attribute (.Name b.s2 b.p3) b.ba2 b.ap2) [.Call (.Name b.w2 b.p4) [.Name b.a2 b.p5] [] b.cp3] [] b.cp2) .LShift (.Attribute (.Name b.s3 b.p6) b.bw b.p7) b.p8) b.p9
noncomputable def WB.stmts (b : WB) : List Stmt := [.Assign [.Name b.w b.pw] (.Lambda b.la b.lb b.ls b.lp) b.pa, .Return (some b.ret) b.pr]
noncomputable def wbOf : List Stmt → WB
  | [.Assign [.Name w pw] (.Lambda la lb ls lp) pa, .Return (some (.BinOp (.Call (.Attribute (.Name s1 p1) ba1 ap1) [.Name a1 p2] [] cp1) .Add (.BinOp (.Call (.Attribute (.Name s2 p3) ba2 ap2) [.Call (.Name w2 p4) [.Name a2 p5] [] cp3] [] cp2) .LShift (.Attribute (.Name s3 p6) bw p7) p8) p9)) pr] =>
    ⟨w, s1, s2, s3, a1, a2, ba1, ba2, w2, bw, la, lb, ls, lp, pw, pa, p1, p2, p3, p4, p5, p6, p7, p8, p9, ap1, ap2, cp1, cp2, cp3, pr⟩
  | _ => ⟨nS [], nS [], nS [], nS [], nS [], nS [], nS [], nS [], nS [], nS [], ⟨[], [], none, [], [], none, []⟩, .Tuple [] 0 default, clsSc, default, default, default, default, default, default, default, default, default, default, default, default, default, default, default, default, default, default⟩
noncomputable def wb : WB := wbOf dW.body
theorem wb_eq : dW.body = wb.stmts := by kernel_rfl
noncomputable abbrev nSelf : Str := nS [115, 101, 108, 102]
noncomputable abbrev nAddr : Str := nS [97, 100, 100, 114]
noncomputable abbrev nWrap : Str := nS [119, 114, 97, 112]
noncomputable abbrev nByte : Str := nS [66, 121, 116, 101, 65, 116]
noncomputable abbrev nBw : Str := nS [66, 89, 84, 69, 95, 87, 73, 68, 84, 72]
theorem wb_names : (wb.w, wb.s1, wb.s2, wb.s3, wb.a1, wb.a2, wb.ba1, wb.ba2, wb.w2, wb.bw) = (nWrap, nSelf, nSelf, nSelf, nAddr, nAddr, nByte, nByte, nWrap, nBw) := by kernel_rfl
theorem wb_flags : ((wb.ap1.endLine == wb.cp1.line) && (wb.ap2.endLine == wb.cp2.line)) = true := by kernel_rfl
theorem wb_fm (i : Nat) (a : Int) (n : Nat) : cellFm dW [.obj i, .int a] n = ⟨dW.scope, [(nAddr, .int a)], [(nSelf, n)], .ref 84, dW.qual⟩ := by kernel_rfl
theorem wb_as (i : Nat) (a : Int) : cellAs dW [.obj i, .int a] = [.cell (some (.obj i))] := by kernel_rfl
theorem wb_store (a : Int) (n : Nat) (q : Addr) (as : List AO) (P : Loc → List AO → Prop) : storeW ⟨dW.scope, [(nAddr, .int a)], [(nSelf, n)], .ref 84, dW.qual⟩ nWrap (.addr q) as P = P [(nAddr, .int a), (nWrap, .addr q)] as := by kernel_rfl
noncomputable def wFm (a : Int) (n : Nat) (q : Addr) : Fm := ⟨dW.scope, [(nAddr, .int a), (nWrap, .addr q)], [(nSelf, n)], .ref 84, dW.qual⟩
theorem wb_kinds : (isKind .cell dW.scope nSelf, isKind .local dW.scope nAddr, isKind .local dW.scope nWrap) = (true, true, true) := by kernel_rfl
noncomputable def cellV (as : List AO) (n : Nat) (K : AV → Prop) : Prop := match as[n]? with
  | some (.cell (some v)) => K v
  | _ => False
noncomputable def objV (v : AV) (K : Nat → Prop) : Prop := match v with
  | .obj i => K i
  | _ => False
noncomputable def intV (v : AV) (K : Int → Prop) : Prop := match v with
  | .int i => K i
  | _ => False
noncomputable def dL (c : Addr) : FD := ⟨wb.la.args.map (·.arg), [], wb.ls, .ref c, dW.qual ++ "<lambda>" ++ ".<locals>."⟩
end
end Mine

end
section
open PySem PySem.W PyProof.Rows
namespace Mine
noncomputable section
theorem Room.le {A : Around} {m n : Nat} (h : Room A n) (k : m ≤ n) : Room A m := ⟨by have := h.1; lia, by have := h.2.1; lia, h.2.2⟩
theorem EvS.le {X : Cx} {m n : Nat} {f : Fm} {e : Expr} {as : List AO} {Q : PV} (h : EvS X m f e as Q) (k : m ≤ n) : EvS X n f e as Q := fun A θ s L env post E R F S c => h A θ s L env post E (R.le k) F S c
noncomputable def WB.c1 (b : WB) : Expr := .Call (.Attribute (.Name b.s1 b.p1) b.ba1 b.ap1) [.Name b.a1 b.p2] [] b.cp1
noncomputable def WB.at (b : WB) : Expr := .Attribute (.Name b.s3 b.p6) b.bw b.p7
noncomputable def lFm (a : Int) (n : Nat) (c : Addr) : Fm := ⟨(dL c).scope, ((dL c).names.zip [.int a]).reverse, [(nSelf, n)], (dL c).code, (dL c).qual⟩
noncomputable def methV (i : Nat) (as : List AO) (K : Addr → Prop) : Prop := match methA mD i nByte as with
  | some fa => K fa
  | none => False
noncomputable def wrapP : Prim := fun vs as Q => match vs with
  | [.obj i, .int a] => cellV (as ++ [.cell (some (.obj i))]) as.length fun o => objV o fun i => methV i (as ++ [.cell (some (.obj i))]) fun fa => clW mD noP 12 4 fa [.obj i, .int a] (as ++ [.cell (some (.obj i))]) fun v as₁ => intV v fun v =>
      cellV as₁ as.length fun o => objV o fun i => methV i as₁ fun fa => evW mD noP 9 3 (lFm a as.length 0) wb.lb as₁ fun r as₂ => clW mD noP 12 4 fa [.obj i, r] as₂ fun u as₃ => intV u fun u =>
        cellV as₃ as.length fun o => objV o fun i => attrW mD i nBw as₃ fun w as₄ => intV w fun w => binW .LShift u w fun k => Q (.int (v + k)) as₄
  | _ => False
theorem wq3 (a : Int) (n : Nat) (c : Addr) (as : List AO) (Q : PV) : evW mD noP 9 3 (lFm a n c) wb.lb as Q = evW mD noP 9 3 (lFm a n 0) wb.lb as Q := by kernel_rfl
structure WOK (X : Cx) : Prop where
  cls : ∃ K, ClsOK mD K X.h₀
  fns : ∀ fa d, mFn fa = some d → FnOK X.h₀ fa d
  fnW : FnOKC X.h₀ 85 dW
  code : CodeHd X.h₀ 84 80
  glob : ∃ mg, X.h₀.Ns 3 mg ∧ X.h₀.BuiltinsAt mg 80
  tab : (⟨80, wb.lp, dW.qual ++ "<lambda>"⟩ : TabE) ∈ X.T.tabs
  uniq : ∀ e ∈ X.T.tabs, e.P = 80 → e = ⟨80, wb.lp, dW.qual ++ "<lambda>"⟩
theorem one_list {l : List Value} (h : l.length = 1) : ∃ v, l = [v] := by
  cases l with
  | nil => cases h
  | cons v r => cases r with
    | nil => exact ⟨v, rfl⟩
    | cons _ _ => cases h
theorem two_list {l : List Value} (h : l.length = 2) : ∃ a b, l = [a, b] := by
  cases l with
  | nil => cases h
  | cons v r => obtain ⟨b, rfl⟩ := one_list (Nat.succ.inj h); exact ⟨v, b, rfl⟩
theorem intV_ok {v : AV} {K : Int → Prop} (h : intV v K) : ∃ i, v = .int i ∧ K i := by
  unfold intV at h; split at h
  · exact ⟨_, rfl, h⟩
  · cases h
theorem objV_ok {v : AV} {K : Nat → Prop} (h : objV v K) : ∃ i, v = .obj i ∧ K i := by
  unfold objV at h; split at h
  · exact ⟨_, rfl, h⟩
  · cases h
theorem cellV_ok {as : List AO} {n : Nat} {K : AV → Prop} (h : cellV as n K) : ∃ v, as[n]? = some (.cell (some v)) ∧ K v := by
  unfold cellV at h; split at h
  · rename_i v e; exact ⟨v, e, h⟩
  · cases h
theorem methV_ok {i : Nat} {as : List AO} {K : Addr → Prop} (h : methV i as K) : ∃ fa, methA mD i nByte as = some fa ∧ K fa := by
  unfold methV at h; split at h
  · rename_i v e; exact ⟨v, e, h⟩
  · cases h
theorem lam_facts : ((∀ env, defaultsOf wb.la env = ([], []))) ∧ (dL 0).names.length = 1 := ⟨fun env => by kernel_rfl, by kernel_rfl⟩
theorem lam_clo (cells : List (Str × Addr)) (a : Addr) (h : cells.lookup nSelf = some a) : clo cells wb.ls.names [] = some [(nSelf, a)] := by
  have : clo cells wb.ls.names [] = (match cells.lookup nSelf with | some a => some [(nSelf, a)] | none => none) := by kernel_rfl
  rw [this, h]
theorem lam_sc : (wb.ls.isCoroutine, wb.ls.isGenerator, wb.ls.kind, wb.ls.names.map (fun x => x.2 == .cell), ((dL 0).names.map fun x => wb.ls.names.lookup x)) = (false, false, .function, [false, false], [some .local]) := by kernel_rfl
theorem lam_bind (qual : Str) (clos : List (Str × Addr)) (pm ctv : Value) (c : Addr) (v : Value) : bindArgs (kla_fn "<lambda>" qual wb.la wb.lb wb.ls clos pm (.ref c) ctv) ⟨[v], []⟩ = pure ((dL c).names.zip [v]) := by kernel_rfl
theorem cls_re {X : Cx} {θ : List Addr} {as : List AO} {s : Shared} {L : Addr} (W : WOK X) (S : X.S θ as s) (hL : X.h₀.get? L = none) : ClassOK (X.re L θ s.heap) mD noP := by
  obtain ⟨K, hK⟩ := W.cls
  exact ⟨⟨K, hK.keeps (re_base S hL)⟩, fun fa d e => (W.fns fa d e).keeps (re_base S hL), fun fa t g e => by cases e⟩
theorem lam_cell {x : Str × NameKind} (h : x ∈ wb.ls.names) : x.2 ≠ .cell := by
  have e := congrArg (fun t => t.2.2.2.1) lam_sc
  have m : (x.2 == NameKind.cell) ∈ wb.ls.names.map (fun x => x.2 == .cell) := List.mem_map_of_mem (f := fun x : Str × NameKind => x.2 == .cell) h
  rw [show wb.ls.names.map (fun x => x.2 == .cell) = [false, false] from e] at m
  intro q
  rw [q] at m
  simp at m
theorem lam_loc {x : Str} (h : x ∈ (dL 0).names) : wb.ls.names.lookup x = some .local := by
  have e := congrArg (fun t => t.2.2.2.2) lam_sc
  have m : wb.ls.names.lookup x ∈ (dL 0).names.map (fun x => wb.ls.names.lookup x) := List.mem_map_of_mem (f := fun x => wb.ls.names.lookup x) h
  rw [show (dL 0).names.map (fun x => wb.ls.names.lookup x) = [some .local] from e] at m
  simpa using m
theorem wrap_ok {X : Cx} (W : WOK X) {vs : List AV} {as : List AO} {Q : PV} {dp : Nat} (hdp : 5 ≤ dp) (h : wrapP vs as Q) : ClS X dp (.ref 85) vs as Q := by
  unfold wrapP at h
  split at h
  case h_2 => cases h
  rename_i i a
  obtain ⟨dp, rfl⟩ : ∃ d, dp = d + 1 := ⟨dp - 1, by lia⟩
  have h4 : 4 ≤ dp := by lia
  obtain ⟨K, hK⟩ := W.cls
  refine cl_defC W.fnW hK.lim (by kernel_rfl) ?_
  rw [wb_fm, wb_as, wb_eq]
  intro A θ s L env post E R F S c
  obtain ⟨mg, hg, hb⟩ := W.glob
  obtain ⟨ca, hca, hlk⟩ := F.cells nSelf as.length (by kernel_rfl)
  refine wpAny_execs_cons (wpAny_Assign_Name (lam_ok (e := ⟨80, wb.lp, dW.qual ++ "<lambda>"⟩) F S rfl W.code W.tab W.uniq rfl rfl hg hb (lam_facts.1 env) (lam_clo _ _ hlk) fun q c' pm ctv s₁ S₁ X₁ hq hc' nc nq => ?_) rfl)
  have F₁ := F.ext X₁
  have nm := wb_names
  simp only [Prod.mk.injEq] at nm
  refine El_aaaaaaaaa nm fun n1 n2 n3 n4 n5 n6 n7 n8 n9 n10 => ?_; try clear nm
  rw [n1]
  refine store_ok (av := .addr q) (P := fun loc as' => loc = [(nAddr, .int a), (nWrap, .addr q)] ∧ as' = as ++ [.cell (some (.obj i))]) (by rw [wb_store]; exact ⟨rfl, rfl⟩) F₁ S₁ rfl fun loc' as' s₂ q' S₂ X₂ F₂ => ?_
  obtain ⟨rfl, rfl⟩ := q'
  have F₂ : FrR X (wFm a as.length q) L env θ s₂.heap := F₂
  show wpAny _ _ (execs [.Return (some wb.ret) wb.pr] env) _ _ _
  have hL := F.apart
  have hX : ExtL X.H L θ s.heap θ s₂.heap := X₁.toL.trans F.there F.nin F₁.there X₂
  have hq₂ : s₂.heap.get? q = some (kla_obj "<lambda>" (dW.qual ++ "<lambda>") wb.la wb.lb wb.ls [(nSelf, ca)] pm c' ctv) := X₂.keep _ _ hq nq.2.1 nq.2.2 nq.1
  have hc₂ : s₂.heap.CodeRec (.ref c') (dW.qual ++ "<lambda>") := by
    refine El_eeeeaa hc' fun c'' o vs t e1 e2 r => ?_; try clear hc'
    cases e1
    exact ⟨c', o, vs, t, rfl, X₂.keep _ _ e2 nc.2.1 nc.2.2 nc.1, r⟩
  refine wpAny_execs_cons (wpAny_Return_some (use_re (Q := Q) (dp := dp) ?_ R F₂ S₂ fun av as' θ' s' v q' S' X' V' => c (.ret av) _ as' θ' s' (.ret v) q' S' (hX.trans F.there F.nin F₂.there X'.toL) (F₂.ext X') ⟨v, rfl, V'⟩))
  have CO := cls_re W S₂ hL
  obtain ⟨K', hK'⟩ := CO.cls
  have sp := spec CO
  have LO : LamOK (X.re L θ s₂.heap) q (dL c') wb.lb [(nSelf, as.length)] := by
    refine ⟨⟨_, _, re_at hq₂ nq.1 nq.2.1 nq.2.2, rfl, ?_, rfl, rfl, rfl, rfl, rfl, rfl, fun vals hv => ?_, fun x j e => ?_⟩, fun x hx => lam_cell hx, fun x hx => lam_loc hx, (congrArg (·.1) lam_sc), (congrArg (·.2.1) lam_sc), (congrArg (·.2.2.1) lam_sc)⟩
    · refine El_eeeeaa hc₂ fun c'' o vs t e1 e2 r => ?_; try clear hc₂
      cases e1
      exact ⟨c', o, vs, t, rfl, re_at e2 nc.1 nc.2.1 nc.2.2, r⟩
    · have hv : vals.length = 1 := hv.trans lam_facts.2
      obtain ⟨v, rfl⟩ := one_list hv
      exact lam_bind _ _ _ _ _ _
    · unfold lk at e
      split at e
      · rename_i hs
        have := seq_iff.mp hs; subst this
        cases e
        exact ⟨ca, hca, by simp⟩
      · cases e
  show EvS (X.re L θ s₂.heap) dp (wFm a as.length q) wb.ret (as ++ [.cell (some (.obj i))]) Q
  have kd := wb_kinds
  simp only [Prod.mk.injEq] at kd
  have fl := wb_flags
  simp only [Bool.and_eq_true] at fl
  have sc : (wFm a as.length q).sc = dW.scope := rfl
  have hself : ∀ {as' : List AO} {v : AV} {p : Pos} {Q : PV}, as'[as.length]? = some (.cell (some v)) → Q v as' → EvS (X.re L θ s₂.heap) dp (wFm a as.length q) (.Name nSelf p) as' Q := fun ho hq =>
    ev_cell (by rw [sc, kd.1]; rfl) (by kernel_rfl) (i := as.length) (by kernel_rfl) ho hq
  have hcl : ∀ {fa : Addr} {vs : List AV} {as' : List AO} {Q : PV}, clW mD noP 12 4 fa vs as' Q → FnAt (X.re L θ s₂.heap).h₀ fa ∧ ClS (X.re L θ s₂.heap) dp (.ref fa) vs as' Q := fun {fa vs as' Q} h => by
    have g := (sp 12).cl 4 fa vs as' _ h
    exact ⟨g.1, fun A θ s us post E R S V c => g.2 A θ s us post E (R.le h4) S V c⟩
  refine El_ea (cellV_ok h) fun o ho h0 => ?_
  refine El_ea (objV_ok h0) fun i' hr1 h0 => ?_; obtain rfl := hr1
  refine El_ea (methV_ok h0) fun fa hm h0 => ?_
  have ei : i' = i := by
    rw [List.getElem?_append_right (Nat.le_refl _), Nat.sub_self] at ho
    cases ho; rfl
  subst ei
  unfold WB.ret
  rw [n2, n3, n4, n5, n6, n7, n8, n9, n10]
  refine ev_bin (ev_callM hK' rfl (by decide) fl.1 (hself ho ⟨i', fa, rfl, hm, evs_cons (ev_local kd.2.1 (av := .int a) (by kernel_rfl) (evs_nil ?_))⟩))
  obtain ⟨g1, g2⟩ := hcl h0
  refine ⟨g1, g2.mono fun v as₁ h₁ => ?_⟩
  refine El_ea (intV_ok h₁) fun v hr1 h1a => ?_; obtain rfl := hr1
  refine El_ea (cellV_ok h1a) fun o ho h1b => ?_
  refine El_ea (objV_ok h1b) fun i₂ hr1 h1c => ?_; obtain rfl := hr1
  refine El_ea (methV_ok h1c) fun fa₂ hm h1d => ?_
  refine ev_bin (ev_callM hK' rfl (by decide) fl.2 (hself ho ⟨i₂, fa₂, rfl, hm, ?_⟩))
  refine evs_cons (ev_callF rfl (ev_local kd.2.2 (av := .addr q) (by kernel_rfl) ⟨q, rfl, evs_cons (ev_local kd.2.1 (av := .int a) (by kernel_rfl) (evs_nil ⟨⟨_, _, re_at hq₂ nq.1 nq.2.1 nq.2.2, rfl⟩, ?_⟩))⟩))
  obtain ⟨dp, rfl⟩ : ∃ d, dp = d + 1 := ⟨dp - 1, by lia⟩
  refine cl_lam LO hK'.lim (by kernel_rfl) (EvS.mono (((sp 9).ev 3 _ wb.lb as₁ _ (by rw [show (⟨(dL c').scope, ((dL c').names.zip [AV.int a]).reverse, [(nSelf, as.length)], (dL c').code, (dL c').qual⟩ : Fm) = lFm a as.length c' from rfl, wq3]; exact h1d)).le (by lia)) fun r as₂ h₂ => evs_nil ?_)
  obtain ⟨g1, g2⟩ := hcl h₂
  refine ⟨g1, g2.mono fun u as₃ h₃ => ?_⟩
  refine El_ea (intV_ok h₃) fun u hr1 h5 => ?_; obtain rfl := hr1
  refine El_ea (cellV_ok h5) fun o ho h6 => ?_
  refine El_ea (objV_ok h6) fun i₃ hr1 h7 => ?_; obtain rfl := hr1
  refine ev_attr hK' (hself ho ⟨i₃, rfl, attrW_mono h7 fun w as₄ h₄ => ?_⟩)
  refine El_ea (intV_ok h₄) fun w hr1 h8 => ?_; obtain rfl := hr1
  refine El_ea (binW_ok h8) fun k e h9 => ?_
  exact ⟨u, w, k, rfl, rfl, e, v, k, v + k, rfl, rfl, rfl, h9⟩
end
end Mine

end
section
open PySem PySem.W PyProof.Rows
namespace Mine
noncomputable section
noncomputable def mP : Prims := fun a => match Nat.beq a 85 with
  | true => some (5, wrapP)
  | false => none
noncomputable abbrev JJ := List AO
noncomputable abbrev KM := MS → JJ → Prop
noncomputable abbrev Mode := MS → JJ → (Int → MS → JJ → Prop) → Prop
noncomputable def okk (k : Int) : Prop := 0 ≤ k ∧ k < 2 ^ 63
noncomputable def shl (u : Int) (K : Int → Prop) : Prop := (0 ≤ (8 : Int) ∧ (8 : Int) ≤ 1000000 ∧ u.natAbs < 2 ^ 64) ∧ K (u * 2 ^ (8 : Int).toNat)
noncomputable def mPC : Mode := fun m j K => K m.pc m j
noncomputable def mZP : Mode := fun m j K => rdW m.mem m.pc fun z => K z m j
noncomputable def flags (m : MS) (v : Int) (K : MS → Prop) : Prop := ifB (v == 0) (K { m with p := Builtin.bitOr (Builtin.bitAnd m.p (Builtin.bitNot (Builtin.bitOr 2 128))) 2 })
  (K { m with p := Builtin.bitOr (Builtin.bitAnd m.p (Builtin.bitNot (Builtin.bitOr 2 128))) (Builtin.bitAnd v 128) })
noncomputable def wrW (m : MS) (a v : Int) (K : MS → Prop) : Prop := (0 ≤ a ∧ a < m.mem.length ∧ a < 2 ^ 63) ∧ K { m with mem := m.mem.set a.toNat v }
noncomputable def inc (n : Int) (K : KM) : KM := fun m j => K { m with pc := m.pc + n } j
noncomputable def oLDA (o : Mode) (m : MS) (j : JJ) (K : KM) : Prop := o m j fun a m j => rdW m.mem a fun v => flags { m with a := v } v fun m => K m j
noncomputable def oLDX (o : Mode) (m : MS) (j : JJ) (K : KM) : Prop := o m j fun a m j => rdW m.mem a fun v => flags { m with x := v } v fun m => K m j
noncomputable def oLDY (o : Mode) (m : MS) (j : JJ) (K : KM) : Prop := o m j fun a m j => rdW m.mem a fun v => flags { m with y := v } v fun m => K m j
noncomputable def oSTA (o : Mode) (m : MS) (j : JJ) (K : KM) : Prop := o m j fun a m j => wrW m a m.a fun m => K m j
noncomputable def lS (op : Int) : Loc := [(nS [115, 101, 108, 102], .obj 0), (nS [105, 110, 115, 116, 114, 117, 99, 116, 67, 111, 100, 101], .int op)]
noncomputable def fmS (op : Int) : Fm := ⟨((mFn 43).getD dW).scope, lS op, [], .ref 42, ((mFn 43).getD dW).qual⟩
noncomputable def tailS : List Stmt := ((mFn 43).getD dW).body.drop 1
noncomputable abbrev RetQ (Q : PV) : PF := fun fl _ as' => match fl with | .ret v => Q v as' | .next => Q .none as' | _ => False
noncomputable def pre (m : MS) (e : Int) : MS := { m with pc := Builtin.bitAnd (m.pc + 1) 65535, ex := 0, ad := .int e }
noncomputable def pst (m : MS) (c : Int) : MS := { m with pc := Builtin.bitAnd m.pc 65535, cyc := m.cyc + (c + m.ex) }
noncomputable abbrev stp (op : Int) (m : MS) (Q : PV) : Prop := exsW mD mP 39 11 (fmS op) tailS (stA m []) (RetQ Q)
noncomputable abbrev fin (op c : Int) (Q : PV) : KM := fun m j => okk op ∧ Q (.obj 0) (stA (pst m c) j)
noncomputable abbrev frm (op : Int) (P : Prop) : Prop := okk op ∧ okk op ∧ P
theorem o_a0 (m : MS) (Q : PV) : stp 0xa0 m Q = frm 0xa0 (oLDY mPC (pre m 0) [.meth 92 0] (inc 1 (fin 0xa0 2 Q))) := by kernel_rfl
theorem o_a5 (m : MS) (Q : PV) : stp 0xa5 m Q = frm 0xa5 (oLDA mZP (pre m 0) [.meth 106 0] (inc 1 (fin 0xa5 3 Q))) := by kernel_rfl
theorem o_85 (m : MS) (Q : PV) : stp 0x85 m Q = frm 0x85 (oSTA mZP (pre m 0) [.meth 106 0] (inc 1 (fin 0x85 3 Q))) := by kernel_rfl
noncomputable def dS : FD := (mFn 43).getD dW
noncomputable def fm0 : Fm := ⟨dS.scope, [(nS [115, 101, 108, 102], .obj 0)], [], .ref 42, dS.qual⟩
theorem clW_def {D : Cls} {P : Prims} {n dp : Nat} {fa : Addr} {vs : List AV} {as : List AO} {Q : PV} {d : FD} (hP : P fa = none) (hd : D.fn fa = some d) (hl : Nat.beq vs.length d.names.length = true) :
    clW D P (n + 1) (dp + 1) fa vs as Q = exsW D P n dp ⟨d.scope, (d.names.zip vs).reverse, [], d.code, d.qual⟩ d.body as (RetQ Q) := by
  show clF D P (recW D P n) (dp + 1) fa vs as Q = _
  unfold clF; simp only [hP, hd, hl]; try rfl
theorem dS_eq : mD.fn 43 = some dS := by kernel_rfl
theorem fm0_eq : (⟨dS.scope, (dS.names.zip [.obj 0]).reverse, [], dS.code, dS.qual⟩ : Fm) = fm0 := by kernel_rfl
theorem sh1 (Q : PV) (as : List AO) : clW mD mP 41 12 43 [.obj 0] as Q = exsW mD mP 40 11 fm0 dS.body as (RetQ Q) := by
  rw [clW_def (d := dS) (by kernel_rfl) dS_eq (by kernel_rfl), fm0_eq]
noncomputable def st1 : Stmt := match dS.body with | s :: _ => s | [] => .Pass default
theorem sh2 : dS.body = st1 :: tailS := by kernel_rfl
theorem sh3 (m : MS) (K : PF) : exW mD mP 39 11 fm0 st1 (stA m []) K = rdW m.mem m.pc fun op => K .next (lS op) (stA m []) := by kernel_rfl
theorem exsW_cons {D : Cls} {P : Prims} {n dp : Nat} {f : Fm} {st : Stmt} {r : List Stmt} {as : List AO} {Q : PF} : exsW D P (n + 1) dp f (st :: r) as Q = exW D P n dp f st as fun fl loc as₁ => (match fl with | .next => exsW D P n dp { f with loc := loc } r as₁ Q | fl => Q fl loc as₁) := rfl
theorem step_head (m : MS) (Q : PV) : clW mD mP 41 12 43 [.obj 0] (stA m []) Q = rdW m.mem m.pc fun op => stp op m Q := by
  rw [sh1, sh2, exsW_cons, sh3]
  rfl
noncomputable def brT (m : MS) (a : Int) (K : MS → Prop) : Prop := ifB (Builtin.bitAnd m.pc 65280 != Builtin.bitAnd a 65280) (K { m with ex := m.ex + 1, pc := Builtin.bitAnd a 65535 }) (K { m with pc := Builtin.bitAnd a 65535 })
noncomputable def brW (m : MS) (K : MS → Prop) : Prop := rdW m.mem m.pc fun z => ifB (Builtin.bitAnd z 128 != 0) (brT { m with ex := m.ex + 1, pc := m.pc + 1 } (m.pc + 1 - Builtin.bitXor z 255 - 1) K) (brT { m with ex := m.ex + 1, pc := m.pc + 1 } (m.pc + 1 + z) K)
noncomputable def wordW (m : MS) (a : Int) (K : Int → Prop) : Prop := rdW m.mem a fun v => rdW m.mem (a + 1) fun u => shl u fun k => K (v + k)
noncomputable def pushW (m : MS) (v : Int) (K : MS → Prop) : Prop := wrW m (m.sp + 256) (Builtin.bitAnd v 255) fun m => K { m with sp := Builtin.bitAnd (m.sp - 1) 255 }
noncomputable def popW (m : MS) (K : Int → MS → Prop) : Prop := rdW m.mem (Builtin.bitAnd (m.sp + 1) 255 + 256) fun v => K v { m with sp := Builtin.bitAnd (m.sp + 1) 255 }
noncomputable def flagT (m : MS) (t : Int) (K : MS → Prop) : Prop := ifB (t != 0) (K { m with p := Builtin.bitOr (Builtin.bitAnd m.p (Builtin.bitNot (Builtin.bitOr 2 128))) (Builtin.bitAnd t 128) })
  (K { m with p := Builtin.bitOr (Builtin.bitAnd m.p (Builtin.bitNot (Builtin.bitOr 2 128))) 2 })
noncomputable def oINC (o : Mode) (m : MS) (j : JJ) (K : KM) : Prop := o m j fun a m j => rdW m.mem a fun v => flagT m (Builtin.bitAnd (v + 1) 255) fun m => wrW m a (Builtin.bitAnd (v + 1) 255) fun m => K m j
noncomputable def pOf (n v z c : Bool) : Int := 48 + (cond n 128 0) + (cond v 64 0) + (cond z 2 0) + (cond c 1 0)
noncomputable def sbZ (m : MS) (p d : Int) (K : MS → Prop) : Prop := K { m with p := Builtin.bitOr p (Builtin.bitAnd d 128), a := d }
noncomputable def sbY (m : MS) (p d r : Int) (K : MS → Prop) : Prop := ifB (decide (255 < r)) (sbZ m (Builtin.bitOr p 1) d K) (sbZ m p d K)
noncomputable def sbX (m : MS) (p d r : Int) (K : MS → Prop) : Prop := ifB (d == 0) (sbY m (Builtin.bitOr p 2) d r K) (sbY m p d r K)
noncomputable def sbR (m : MS) (v : Int) : Int := m.a + Builtin.bitAnd (Builtin.bitNot v) 255 + Builtin.bitAnd m.p 1
noncomputable def sbP (m : MS) : Int := Builtin.bitAnd m.p (Builtin.bitNot (Builtin.bitOr (Builtin.bitOr (Builtin.bitOr 1 2) 64) 128))
noncomputable def sbW (m : MS) (v : Int) (K : MS → Prop) : Prop := ifB (Builtin.bitAnd (Builtin.bitAnd (Builtin.bitXor m.a v) (Builtin.bitXor m.a (sbR m v))) 128 != 0)
  (sbX m (Builtin.bitOr (sbP m) 64) (Builtin.bitAnd (sbR m v) 255) (sbR m v) K) (sbX m (sbP m) (Builtin.bitAnd (sbR m v) 255) (sbR m v) K)
noncomputable def oSBC (o : Mode) (m : MS) (j : JJ) (K : KM) : Prop := o m j fun a m j => rdW m.mem a fun v => sbW m v fun m => K m j
theorem o_38 (m : MS) (Q : PV) : stp 0x38 m Q = frm 0x38 (fin 0x38 2 Q { pre m 0 with p := Builtin.bitOr m.p 1 } []) := by kernel_rfl
theorem o_d0 (m : MS) (Q : PV) : stp 0xd0 m Q = frm 0xd0 (ifB (Builtin.bitAnd m.p 2 != 0) (inc 1 (fin 0xd0 2 Q) (pre m 2) []) (brW (pre m 2) fun m => fin 0xd0 2 Q m [])) := by kernel_rfl
theorem o_20 (m : MS) (Q : PV) : stp 0x20 m Q = frm 0x20 (0 ≤ (8 : Int) ∧ pushW (pre m 0) (Builtin.bitAnd ((Builtin.bitAnd ((pre m 0).pc + 1) 65535).fdiv (2 ^ (8 : Int).toNat)) 255) fun m₁ => pushW m₁ (Builtin.bitAnd (Builtin.bitAnd ((pre m 0).pc + 1) 65535) 255) fun m₂ => wordW m₂ m₂.pc fun w => fin 0x20 6 Q { m₂ with pc := w } []) := by kernel_rfl
theorem o_60 (m : MS) (Q : PV) : stp 0x60 m Q = frm 0x60 (popW (pre m 0) fun z m₁ => popW m₁ fun u m₂ => shl u fun k => fin 0x60 6 Q { m₂ with pc := z + k + 1 } []) := by kernel_rfl
theorem o_e6 (m : MS) (Q : PV) : stp 0xe6 m Q = frm 0xe6 (oINC mZP (pre m 0) [.meth 106 0] (inc 1 (fin 0xe6 5 Q))) := by kernel_rfl
end
end Mine

end
section
open PySem PySem.W PyProof.Rows
namespace Mine
noncomputable section
noncomputable def esL (m : MS) (q : Nat) : List (Str × AV) :=
  [(nS [110, 97, 109, 101], .str (nS [54, 53, 48, 50])), (nS [98, 121, 116, 101, 77, 97, 115, 107], .int 255), (nS [97, 100, 100, 114, 77, 97, 115, 107], .int 65535),
   (nS [97, 100, 100, 114, 72, 105, 103, 104, 77, 97, 115, 107], .int 65280), (nS [115, 112, 66, 97, 115, 101], .int 256), (nS [101, 120, 99, 121, 99, 108, 101, 115], .int m.ex),
   (nS [97, 100, 100, 99, 121, 99, 108, 101, 115], m.ad), (nS [112, 114, 111, 99, 101, 115, 115, 111, 114, 67, 121, 99, 108, 101, 115], .int m.cyc), (nS [109, 101, 109, 111, 114, 121], .obj q),
   (nS [115, 116, 97, 114, 116, 95, 112, 99], m.st), (nS [112, 99], .int m.pc), (nS [115, 112], .int m.sp), (nS [97], .int m.a), (nS [120], .int m.x), (nS [121], .int m.y), (nS [112], .int m.p)]
noncomputable def flat : AV → Prop
  | .obj _ => False
  | _ => True
theorem VR.flat {θ θ' : List Addr} : ∀ {a : AV} {v : Value}, Mine.flat a → VR θ a v → VR θ' a v
  | .none, _, _, h | .bool _, _, _, h | .int _, _, _, h | .str _, _, _, h | .addr _, _, _, h | .bi _, _, _, h | .ty _, _, _, h => h
noncomputable def toObj (q : Nat) : AV → AV
  | .obj _ => .obj q
  | a => a
theorem toObj_flat {q : Nat} : ∀ {a : AV}, Mine.flat a → toObj q a = a
  | .none, _ | .bool _, _ | .int _, _ | .str _, _ | .addr _, _ | .bi _, _ | .ty _, _ => rfl
theorem DRs.via {θ θ' : List Addr} (g : AV → AV) {es : List (Str × AV)} {l : List DictEntry} (h : DRs θ es l) (hg : ∀ x ∈ es, ∀ v, VR θ x.2 v → VR θ' (g x.2) v) : DRs θ' (es.map fun p => (p.1, g p.2)) l := by
  induction h with
  | nil => exact .nil
  | cons k v _ ih => exact .cons k (hg _ (.head _) _ v) (ih fun x hx => hg x (.tail _ hx))
theorem esL_map {m : MS} (h1 : Mine.flat m.ad) (h2 : Mine.flat m.st) (q q' : Nat) : (esL m q).map (fun p => (p.1, toObj q' p.2)) = esL m q' := by
  unfold esL
  simp only [List.map_cons, List.map_nil, toObj_flat h1, toObj_flat h2]
  rfl
theorem DRs.swap {θ θ' : List Addr} {q q' : Nat} (e : ∀ a, θ[q]? = some a → θ'[q']? = some a) {m : MS} (h1 : Mine.flat m.ad) (h2 : Mine.flat m.st) {l : List DictEntry} (h : DRs θ (esL m q) l) : DRs θ' (esL m q') l := by
  rw [← esL_map h1 h2 q q']
  refine h.via _ fun x hx v hv => ?_
  by_cases f : Mine.flat x.2
  · rw [toObj_flat f]; exact hv.flat f
  · have : x.2 = .obj q := by
      unfold esL at hx
      simp only [List.mem_cons, List.not_mem_nil, or_false] at hx
      rcases hx with rfl | rfl | rfl | rfl | rfl | rfl | rfl | rfl | rfl | rfl | rfl | rfl | rfl | rfl | rfl | rfl <;> first | rfl | exact absurd trivial f | exact absurd h1 f | exact absurd h2 f
    rw [this] at hv ⊢
    obtain ⟨a, ha, rfl⟩ := hv
    exact ⟨a, e a ha, rfl⟩
theorem esOf_eq (m : MS) : esOf m = esL m 2 := rfl
noncomputable def Stp (m m' : MS) : Prop := ∀ Q : PV, (∀ j, Q (.obj 0) (stA m' j)) → clW mD mP 41 12 43 [.obj 0] (stA m []) Q
theorem WOK.all {X : Cx} (W : WOK X) : ClassOK X mD mP := by
  refine ⟨W.cls, W.fns, fun fa t g e => ?_⟩
  unfold mP at e
  split at e
  · rename_i hb
    cases e
    have := Nat.eq_of_beq_eq_true hb; subst this
    refine ⟨?_, fun dp vs as Q hd h => wrap_ok W hd h⟩
    obtain ⟨o, fd, a, b, _⟩ := W.fnW.ex
    exact ⟨o, fd, a, b⟩
  · cases e
theorem St.someAt {T : Hid} {h₀ : Heap} {g₀ : Array GenState} {os₀ : OsState} {θ : List Addr} {as : List AO} {s : Shared} (S : St T h₀ g₀ os₀ θ as s) {a : Addr} (m : a ∈ θ) : ∃ o, s.heap.get? a = Option.some o := by
  obtain ⟨i, hi, e⟩ := List.getElem_of_mem m
  have e' : θ[i]? = Option.some a := by rw [List.getElem?_eq_getElem hi, e]
  have hi' : i < as.length := by rw [S.ar.len]; exact hi
  obtain ⟨ob, h, _⟩ := S.ar.objs i as[i] _ (List.getElem?_eq_getElem hi') e'
  exact ⟨ob, h⟩
noncomputable def Cx.sub (X : Cx) : Cx := { X with T := ⟨X.T.tabs, []⟩ }
theorem WOK.sub {X : Cx} (W : WOK X) : WOK X.sub := ⟨W.cls, W.fns, W.fnW, W.code, W.glob, W.tab, W.uniq⟩
theorem step_cl {X : Cx} (W : WOK X) {m m' : MS} (h : Stp m m') (f1 : Mine.flat m.ad) (f2 : Mine.flat m.st) (f3 : Mine.flat m'.ad) (f4 : Mine.flat m'.st) {as : List AO} {i d q : Nat} {dp : Nat} (hdp : 12 ≤ dp) {Q : PV}
    (hi : as[i]? = some (.inst 1428 d)) (hd : as[d]? = some (.dict (esL m q))) (hq : as[q]? = some (.ints m.mem)) (hQ : Q (.obj i) ((as.set d (.dict (esL m' q))).set q (.ints m'.mem))) : ClS X dp (.ref 43) [.obj i] as Q := by
  intro A θ s us post E R S V c
  obtain ⟨us', rfl, V0⟩ : ∃ v, us = [v] ∧ VR θ (.obj i) v := by
    cases V with | cons a b => cases b with | nil => exact ⟨_, rfl, a⟩
  refine El_ea V0 fun x hx hr2 => ?_; obtain rfl := hr2; try clear V0
  have lt : ∀ {k : Nat} {o : AO}, as[k]? = some o → ∃ a, θ[k]? = some a := fun {k o} e => by
    have : k < θ.length := by rw [← S.ar.len]; exact (List.getElem?_eq_some_iff.mp e).1
    exact ⟨_, List.getElem?_eq_getElem this⟩
  obtain ⟨xd, hxd⟩ := lt hd
  obtain ⟨xq, hxq⟩ := lt hq
  have nid : i ≠ d := fun e => by rw [e, hd] at hi; cases hi
  have niq : i ≠ q := fun e => by rw [e, hq] at hi; cases hi
  have ndq : d ≠ q := fun e => by rw [e, hq] at hd; cases hd
  have inj : ∀ {a b : Nat} {y : Addr}, θ[a]? = some y → θ[b]? = some y → a = b := fun {a b y} e1 e2 => by
    obtain ⟨l1, h1⟩ := List.getElem?_eq_some_iff.mp e1
    obtain ⟨l2, h2⟩ := List.getElem?_eq_some_iff.mp e2
    have nd := List.pairwise_iff_getElem.mp S.ar.nodup
    rcases Nat.lt_trichotomy a b with r | r | r
    · exact absurd (h1.trans h2.symm) (nd a b l1 l2 r)
    · exact r
    · exact absurd (h2.trans h1.symm) (nd b a l2 l1 r)
  have sub : ∀ a ∈ [x, xd, xq], a ∈ θ := fun a ha => by
    simp only [List.mem_cons, List.not_mem_nil, or_false] at ha
    rcases ha with rfl | rfl | rfl
    · exact List.mem_of_getElem? hx
    · exact List.mem_of_getElem? hxd
    · exact List.mem_of_getElem? hxq
  have O1 := S.ar.objs i _ x hi hx
  have O2 := S.ar.objs d _ xd hd hxd
  have O3 := S.ar.objs q _ xq hq hxq
  have S0 : X.sub.S [x, xd, xq] (stA m []) s := by
    refine ⟨⟨rfl, ?_, ?_⟩, S.base, fun a ha => S.apart a (sub a ha), S.gens, S.os, fun e he => ?_, fun e he ha => S.hnin e he (sub _ ha), S.hbase, List.nil_prefix⟩
    · refine List.nodup_cons.mpr ⟨fun hm => ?_, List.nodup_cons.mpr ⟨fun hm => ?_, List.nodup_cons.mpr ⟨fun hm => (by cases hm), List.nodup_nil⟩⟩⟩
      · simp only [List.mem_cons, List.not_mem_nil, or_false] at hm
        rcases hm with rfl | rfl
        · exact nid (inj hx hxd)
        · exact niq (inj hx hxq)
      · simp only [List.mem_cons, List.not_mem_nil, or_false] at hm
        subst hm; exact ndq (inj hxd hxq)
    · intro k o a e1 e2
      match k, e1, e2 with
      | 0, e1, e2 =>
        cases e1; cases e2
        refine El_eaeea O1 fun ob g a' sl g1 g2 => ?_; try clear O1
        rw [hxd] at g1; cases g1
        exact ⟨ob, g, _, sl, rfl, g2⟩
      | 1, e1, e2 =>
        cases e1; cases e2
        refine El_eaeea O2 fun ob g l n g1 g2 => ?_; try clear O2
        refine ⟨ob, g, l, n, g1, ?_⟩
        rw [esOf_eq]
        exact g2.swap (fun a ha => by rw [hxq] at ha; cases ha; rfl) f1 f2
      | 2, e1, e2 => cases e1; cases e2; exact O3
      | k + 3, e1, e2 => simp [stA] at e1
    · exact (S.tabs e he).to (fun _ x => x) (fun _ _ _ y _ _ _ => y) fun c o hc n hm => n (sub c hm)
  have sp := (spec (WOK.sub W).all 41).cl 12 43 [.obj 0] (stA m []) _ (h (fun v as' => v = .obj 0 ∧ ∃ j, as' = stA m' j) fun j => ⟨rfl, j, rfl⟩)
  refine sp.2 A [x, xd, xq] s [.ref x] post E (R.le hdp) S0 (.cons ⟨x, rfl, rfl⟩ .nil) fun av as' θ' s' v hv S' X' V' => ?_
  obtain ⟨rfl, j, rfl⟩ := hv
  obtain ⟨y, hy, rfl⟩ := V'
  have p0 : θ'[0]? = some x := get_pre X'.pre rfl
  have p1 : θ'[1]? = some xd := get_pre X'.pre rfl
  have p2 : θ'[2]? = some xq := get_pre X'.pre rfl
  rw [p0] at hy; cases hy
  have R1 := S'.ar.objs 0 _ x rfl p0
  have R2 := S'.ar.objs 1 _ xd rfl p1
  have R3 := S'.ar.objs 2 _ xq rfl p2
  have keep : ∀ b o, s.heap.get? b = some o → b ∉ [x, xd, xq] → b ∉ X.H → s'.heap.get? b = some o := X'.keep
  refine c _ _ θ s' _ hQ ⟨⟨?_, S.ar.nodup, ?_⟩, S'.base, S.apart, S'.gens, S'.os, fun e he => ?_, S.hnin, S.hbase, S.pin⟩ ⟨List.prefix_refl θ, fun _ a b => absurd a b, fun b o e n nh => keep b o e (fun hm => n (sub b hm)) nh, X'.ex, X'.tab⟩ ⟨x, hx, rfl⟩
  · simp [S.ar.len]
  · intro k o a e1 e2
    by_cases kq : k = q
    · subst kq
      rw [hxq] at e2; cases e2
      rw [List.getElem?_set_self (by simp; rw [S.ar.len]; exact (List.getElem?_eq_some_iff.mp hxq).1)] at e1
      cases e1
      exact R3
    · rw [List.getElem?_set_ne (Ne.symm kq)] at e1
      by_cases kd : k = d
      · subst kd
        rw [hxd] at e2; cases e2
        rw [List.getElem?_set_self (by rw [S.ar.len]; exact (List.getElem?_eq_some_iff.mp hxd).1)] at e1
        cases e1
        refine El_eaeea R2 fun ob g l n g1 g2 => ?_; try clear R2
        refine ⟨ob, g, l, n, g1, ?_⟩
        rw [esOf_eq] at g2
        exact g2.swap (fun a ha => by rw [p2] at ha; cases ha; exact hxq) f3 f4
      · rw [List.getElem?_set_ne (Ne.symm kd)] at e1
        by_cases ki : k = i
        · subst ki
          rw [hx] at e2; cases e2
          rw [hi] at e1; cases e1
          refine El_eaeea R1 fun ob g a' sl g1 g2 => ?_; try clear R1
          rw [p1] at g1; cases g1
          exact ⟨ob, g, _, sl, hxd, g2⟩
        · obtain ⟨ob, g, g1⟩ := S.ar.objs k o a e1 e2
          refine ⟨ob, keep a ob g (fun hm => ?_) (fun hm => ?_), g1⟩
          · simp only [List.mem_cons, List.not_mem_nil, or_false] at hm
            rcases hm with rfl | rfl | rfl
            · exact ki (inj e2 hx)
            · exact kd (inj e2 hxd)
            · exact kq (inj e2 hxq)
          · obtain ⟨e, he, rfl⟩ := List.mem_map.mp hm
            exact S.hnin e he (List.mem_of_getElem? e2)
  · have hm : e.P ∈ hidOf X.T := List.mem_map_of_mem he
    rcases X'.tab e.P hm with eq | ⟨l, k, c', e1, e2⟩
    · refine (S.tabs e he).to (fun o ho => by rw [eq]; exact ho) (fun c'' o vs g g1 n nh => keep _ _ g (fun hm => n (sub _ hm)) nh) fun _ _ _ n => n
    · rcases S'.tabs e he with t | ⟨c'', t1, t2, t3, t4⟩
      · exact .inl t
      · refine .inr ⟨c'', t1, t2, fun hm => ?_, t4⟩
        rw [t1] at e1
        have : c'' = c' := by
          injection e1 with e1; injection e1 with _ _ e1 _; injection e1 with e1
          have := congrArg (fun v : Array Value => v[2]?) e1
          simpa using this
        subst this
        obtain ⟨ob, g⟩ := S.someAt hm
        rw [e2] at g; cases g
end
end Mine

end
section
open PySem PySem.W PyProof.Rows
namespace Mine
structure Free (X : Cx) (θ : List Addr) (h : Heap) (b : Addr) : Prop where
  nin : b ∉ θ
  nhid : b ∉ X.H
  nbase : X.h₀.get? b = none
  ncode : ∀ e ∈ X.T.tabs, ∀ l k c, h.get? e.P = some (tabObj #[l, k, .ref c]) → c ≠ b
  there : ∃ o, h.get? b = some o
section
variable {X : Cx} {dp : Nat} {f : Fm} {as as' : List AO} {θ θ' : List Addr} {s s' : Shared} {L b : Addr} {env : Env}
theorem tab_inj {l k l' k' : Value} {c c' : Addr} (h : tabObj #[l, k, .ref c] = tabObj #[l', k', .ref c']) : c = c' := by
  injection h with _ _ h _; injection h with h
  have := congrArg (fun v : Array Value => v[2]?) h
  simpa using this
theorem St.codeLt (S : X.S θ as s) {e : TabE} (he : e ∈ X.T.tabs) {l k : Value} {c : Addr} (h : s.heap.get? e.P = some (tabObj #[l, k, .ref c])) : c < s.heap.objs.size := by
  rcases S.tabs e he with t | ⟨c', t1, ⟨c'', o, vs, tt, e1, e2, _⟩, _⟩
  · rw [t] at h; injection h with h; injection h with _ _ h _; injection h with h; have := congrArg Array.size h; simp at this
  · cases e1
    rw [t1] at h; injection h with h
    rw [← tab_inj h]; exact Heap.lt_size e2
theorem Free.new (S : X.S θ as s) {h' : Heap} (hb : s.heap.objs.size ≤ b) (hk : ∀ a o, s.heap.get? a = some o → h'.get? a = some o) (ht : ∃ o, h'.get? b = some o) : Free X θ h' b := by
  refine ⟨fun m => absurd (S.lt m) (Nat.not_lt.mpr hb), fun m => ?_, ?_, fun e he l k c q r => ?_, ht⟩
  · obtain ⟨e, he, rfl⟩ := List.mem_map.mp m
    obtain ⟨ps, x⟩ := (S.tabs e he).is
    exact absurd (Heap.lt_size x) (Nat.not_lt.mpr hb)
  · cases q : X.h₀.get? b with
    | none => rfl
    | some o => exact absurd (Heap.lt_size (S.base _ _ q)) (Nat.not_lt.mpr hb)
  · obtain ⟨ps, x⟩ := (S.tabs e he).is
    have y := hk _ _ x
    rw [y] at q; injection q with q
    rw [q] at x
    exact absurd (S.codeLt he x) (Nat.not_lt.mpr (r ▸ hb))
theorem Free.extL (F : Free X θ s.heap b) (e : ExtL X.H L θ s.heap θ' s'.heap) (hL : b ≠ L) : Free X θ' s'.heap b := by
  obtain ⟨o, ho⟩ := F.there
  refine ⟨fun m => ?_, F.nhid, F.nbase, fun t ht l k c q => ?_, ⟨o, e.keep _ _ ho F.nin F.nhid hL⟩⟩
  · have := (e.fresh b m F.nin).1; rw [ho] at this; cases this
  · rcases e.tab t.P (List.mem_map_of_mem ht) with q' | ⟨l', k', c', q', r⟩
    · rw [q'] at q; exact F.ncode t ht l k c q
    · rw [q] at q'; injection q' with q'
      rw [tab_inj q']
      exact fun z => by rw [z, ho] at r; cases r
theorem Free.same {h h' : Heap} (F : Free X θ h b) (hk : ∀ a ∈ X.H, h'.get? a = h.get? a) (ht : ∃ o, h'.get? b = some o) : Free X θ h' b :=
  ⟨F.nin, F.nhid, F.nbase, fun e he l k c q => F.ncode e he l k c (by rw [← hk e.P (List.mem_map_of_mem he)]; exact q), ht⟩
theorem St.free (S : X.S θ as s) {fs : List Addr} (F : ∀ b ∈ fs, Free X θ s.heap b) {h' : Heap} {k : Nat} (hk : ∀ a o, a ∉ fs → s.heap.get? a = some o → h'.get? a = some o) : X.S θ as { s with heap := h', toks := k } := by
  refine ⟨⟨S.ar.len, S.ar.nodup, fun i o a e1 e2 => ?_⟩, fun a o e => ?_, S.apart, S.gens, S.os, fun e he => ?_, S.hnin, S.hbase, S.pin⟩
  · obtain ⟨ob, x, y⟩ := S.ar.objs i o a e1 e2
    exact ⟨ob, hk _ _ (fun m => (F a m).nin (List.mem_of_getElem? e2)) x, y⟩
  · exact hk _ _ (fun m => by rw [(F a m).nbase] at e; cases e) (S.base a o e)
  · have nP : e.P ∉ fs := fun m => (F _ m).nhid (List.mem_map_of_mem he)
    rcases S.tabs e he with t | ⟨c, t1, ⟨c', o, vs, tt, e1, e2, e3⟩, t3, t4⟩
    · exact .inl (hk _ _ nP t)
    · cases e1
      exact .inr ⟨c, hk _ _ nP t1, ⟨c, o, vs, tt, rfl, hk _ _ (fun m => (F _ m).ncode e he _ _ c t1 rfl) e2, e3⟩, t3, t4⟩
theorem FrR.free (F : FrR X f L env θ s.heap) {fs : List Addr} (hL : L ∉ fs) {h' : Heap} (hk : ∀ a o, a ∉ fs → s.heap.get? a = some o → h'.get? a = some o) : FrR X f L env θ h' := by
  obtain ⟨m, ⟨o, es, ep, ho, hd, hx, hf⟩, r⟩ := F.ns
  exact ⟨F.scope, F.kind, F.loc, F.nin, F.apart, F.nhid, ⟨m, ⟨o, es, ep, hk _ _ hL ho, hd, hx, hf⟩, r⟩, F.cells, F.glob, F.blt, F.code, F.qual⟩
noncomputable def GlobV (X : Cx) (x : Str) (v : Value) : Prop := ∃ mg mb, X.h₀.Ns 3 mg ∧ X.h₀.Ns 0 mb ∧ (mg x = some v ∨ (mg x = none ∧ mb x = some v))
theorem ev_glob {x : Str} {p : Pos} {av : AV} {v : Value} {Q : PV} (hk : isKind .globalImplicit f.sc x = true) (G : GlobV X x v) (hv : VR [] av v) (h : Q av as) : EvS X dp f (.Name x p) as Q := by
  intro A θ s L env post E R F S c
  refine El_eeaa G fun mg mb hg hb q => ?_; try clear G
  have fin := c av as θ s v h S (Ext.refl _ _) (hv.mono List.nil_prefix)
  refine Calls.Name_function_global (by rw [F.scope]; exact F.kind) (F.kindOf hk) ?_ (isKind_of hk).2
  rcases q with q | ⟨q1, q2⟩
  · exact Calls.loadGlobal_global (F.glob ▸ hg.keeps S.base) q fin
  · exact Calls.loadGlobal_builtin (F.glob ▸ hg.keeps S.base) q1 (F.blt ▸ hb.keeps S.base) q2 fin
structure LoopAt (X : Cx) (f : Fm) (L : Addr) (env : Env) (θ₀ : List Addr) (h₀ : Heap) (fs : List Addr) (J : Heap → Prop) (I : Loc → List AO → Prop) (s : Shared) : Prop where
  ex : ∃ θ as loc, I loc as ∧ X.S θ as s ∧ FrR X { f with loc := loc } L env θ s.heap ∧ ExtL X.H L θ₀ h₀ θ s.heap ∧ J s.heap ∧ ∀ b ∈ fs, Free X θ s.heap b
theorem for_core {target : Expr} {it : Value} {body : List Stmt} {A : Around} {θ₀ : List Addr} {h₀ : Heap} {fs : List Addr} {N : Nat} {J : Nat → Heap → Prop} {Inv Bd : Nat → Loc → List AO → Prop} {Q : PF} {post : Flow → Shared → Prop} {E : Value → Shared → Prop}
    (R : Room A dp) (hf : ∀ b ∈ fs, b ≠ L ∧ h₀.get? b = none) (hL : ∃ o, h₀.get? L = some o) (nL : L ∉ θ₀) (hJ : ∀ k h h', J k h → (∀ b ∈ fs, ∀ o, h.get? b = some o → h'.get? b = some o) → J k h')
    (nxt : ∀ k s (E' : Value → Shared → Prop), k < N → LoopAt X f L env θ₀ h₀ fs (J k) (Inv k) s → wpAny X.M A (pyNext it) (fun r s₁ => ∃ v, r = some v ∧ wpAny X.M A (letOwnedTupleGo target it v) (fun _ s₂ => wpAny X.M A (assign target env v) (fun _ s₃ => LoopAt X f L env θ₀ h₀ fs (J (k + 1)) (Bd k) s₃) E' s₂) E' s₁) E' s)
    (stop : ∀ s (E' : Value → Shared → Prop), LoopAt X f L env θ₀ h₀ fs (J N) (Inv N) s → wpAny X.M A (pyNext it) (fun r s₁ => r = none ∧ LoopAt X f L env θ₀ h₀ [] (fun _ => True) (Q .next) s₁) E' s)
    (run : ∀ k loc as, Bd k loc as → ExsS X dp { f with loc := loc } body as fun fl loc' as' => match fl with | .next | .cont => Inv (k + 1) loc' as' | .brk => Q .next loc' as' | .ret v => Q (.ret v) loc' as')
    (c : ∀ fl loc' as' θ' s' g, Q fl loc' as' → X.S θ' as' s' → ExtL X.H L θ₀ h₀ θ' s'.heap → FrR X { f with loc := loc' } L env θ' s'.heap → FlR θ' fl g → post g s')
    (h : LoopAt X f L env θ₀ h₀ fs (J 0) (Inv 0) s) :
    codeAny X.M A (.forLoop target it body [] env) (fun r s' => match r with | .ok g => post g s' | .error e => cameBackBy X.M A env E e s') s := by
  refine codeAny_forLoop_any (fun n s => ∃ k, k ≤ N ∧ n = N - k ∧ LoopAt X f L env θ₀ h₀ fs (J k) (Inv k) s) ?_ N ⟨0, Nat.zero_le _, rfl, h⟩
  rintro n s ⟨k, hk, rfl, hI⟩
  by_cases q : k = N
  · subst q
    refine wpAny_mono (stop s _ hI) (fun r s₁ ⟨e, h₁⟩ => ?_) fun _ _ x => x
    subst e
    refine El_eeeaaaa h₁.ex fun θ as loc q1 q2 q3 q4 _ => ?_
    exact wpAny_execs_nil (c .next loc as θ s₁ .next q1 q2 q4 q3 rfl)
  · refine wpAny_mono (nxt k s _ (by lia) hI) (fun r s₁ ⟨v, e, h₁⟩ => ?_) fun _ _ x => x
    subst e
    refine wpAny_mono h₁ (fun _ s₂ h₂ => wpAny_mono h₂ (fun _ s₃ h₃ => ?_) fun _ _ x => x) fun _ _ x => x
    refine El_eeeaaaaa h₃.ex fun θ as loc q1 q2 q3 q4 q5 q6 => ?_
    refine run k loc as q1 A θ s₃ L env _ _ R q3 q2 fun fl loc' as' θ' s' g p1 p2 p3 p4 p5 => ?_
    have X₄ : ExtL X.H L θ₀ h₀ θ' s'.heap := q4.trans hL nL q3.there p3
    cases fl with
    | next =>
      cases p5
      exact ⟨N - (k + 1), by lia, k + 1, by lia, rfl, ⟨θ', as', loc', p1, p2, p4, X₄, hJ _ _ _ q5 fun b hb o ho => p3.keep _ _ ho (q6 b hb).nin (q6 b hb).nhid (hf b hb).1, fun b hb => (q6 b hb).extL p3 (hf b hb).1⟩⟩
    | cont =>
      cases p5
      exact ⟨N - (k + 1), by lia, k + 1, by lia, rfl, ⟨θ', as', loc', p1, p2, p4, X₄, hJ _ _ _ q5 fun b hb o ho => p3.keep _ _ ho (q6 b hb).nin (q6 b hb).nhid (hf b hb).1, fun b hb => (q6 b hb).extL p3 (hf b hb).1⟩⟩
    | brk => cases p5; exact c _ _ _ θ' s' .next p1 p2 X₄ p4 rfl
    | ret v => refine El_ea p5 fun u hr1 hu => ?_; obtain rfl := hr1; try clear p5; exact c _ _ _ θ' s' _ p1 p2 X₄ p4 ⟨u, rfl, hu⟩
end
end Mine

end
section
open PySem PySem.W PyProof.Rows
namespace Mine
section
variable {X : Cx} {dp : Nat} {f : Fm} {as as' : List AO} {θ θ' : List Addr} {s s' : Shared} {L b : Addr} {env : Env}
theorem ExtL.free {H : List Addr} {θ₀ : List Addr} {h₀ h h' : Heap} (e : ExtL H L θ₀ h₀ θ h) {fs : List Addr} (hf : ∀ b ∈ fs, h₀.get? b = none) (hk : ∀ a o, a ∉ fs → h.get? a = some o → h'.get? a = some o) (ht : ∀ P ∈ H, h'.get? P = h.get? P) : ExtL H L θ₀ h₀ θ h' :=
  ⟨e.pre, e.fresh, fun b o q n1 n2 n3 => hk _ _ (fun m => by rw [hf b m] at q; cases q) (e.keep b o q n1 n2 n3), fun b o q => (let ⟨o', z⟩ := e.ex b o q; ⟨o', hk _ _ (fun m => by rw [hf b m] at q; cases q) z⟩), tab_trans e.ex e.tab fun P m => .inl (ht P m)⟩
theorem St.tabSame (S : X.S θ as s) {fs : List Addr} (F : ∀ b ∈ fs, Free X θ s.heap b) {h' : Heap} (hk : ∀ a o, a ∉ fs → s.heap.get? a = some o → h'.get? a = some o) : ∀ P ∈ X.H, h'.get? P = s.heap.get? P := fun P m => by
  obtain ⟨e, he, rfl⟩ := List.mem_map.mp m
  obtain ⟨ps, x⟩ := (S.tabs e he).is
  rw [x]; exact hk _ _ (fun q => (F _ q).nhid (List.mem_map_of_mem he)) x
theorem LoopAt.free {θ₀ : List Addr} {h₀ : Heap} {fs fs' : List Addr} {J J' : Heap → Prop} {I : Loc → List AO → Prop} (h : LoopAt X f L env θ₀ h₀ fs J I s) (hf : ∀ b ∈ fs, b ≠ L ∧ h₀.get? b = none) (hsub : ∀ b ∈ fs', b ∈ fs) {h' : Heap} {k : Nat}
    (hk : ∀ a o, a ∉ fs → s.heap.get? a = some o → h'.get? a = some o) (ht : ∀ b ∈ fs', ∃ o, h'.get? b = some o) (hJ : J' h') : LoopAt X f L env θ₀ h₀ fs' J' I { s with heap := h', toks := k } := by
  refine El_eeeaaaaa h.ex fun θ as loc q1 q2 q3 q4 q5 q6 => ?_
  have tS := q2.tabSame q6 hk
  exact ⟨θ, as, loc, q1, q2.free q6 hk, q3.free (fun m => (hf L m).1 rfl) hk, q4.free (fun b m => (hf b m).2) hk tS, hJ, fun b m => (q6 b (hsub b m)).same tS (ht b m)⟩
theorem LoopAt.store {θ₀ : List Addr} {h₀ : Heap} {fs : List Addr} {J : Heap → Prop} {I I' : Loc → List AO → Prop} {x : Str} {av : AV} {v : Value} {A : Around} {E : Value → Shared → Prop} (h : LoopAt X f L env θ₀ h₀ fs J I s) (hf : ∀ b ∈ fs, b ≠ L ∧ h₀.get? b = none) 
    (hJ : ∀ h h', J h → (∀ b ∈ fs, ∀ o, h.get? b = some o → h'.get? b = some o) → J h') (hv : ∀ θ, VR θ av v)
    (hI : ∀ loc as, I loc as → storeW { f with loc := loc } x av as fun loc' as' => I' loc' as') : wpAny X.M A (storeName env x v) (fun _ s₃ => LoopAt X f L env θ₀ h₀ fs J I' s₃) E s := by
  refine El_eeeaaaaa h.ex fun θ as loc q1 q2 q3 q4 q5 q6 => ?_
  refine store_ok (hI loc as q1) q3 q2 (hv θ) fun loc' as' s' p1 p2 p3 p4 => ?_
  exact ⟨θ, as', loc', p1, p2, p4, q4.thru q3.there p3, hJ _ _ q5 fun b hb o ho => p3.keep _ _ ho (q6 b hb).nin (q6 b hb).nhid (hf b hb).1, fun b hb => (q6 b hb).extL p3 (hf b hb).1⟩
theorem St.junk (S : X.S θ as s) (o : Obj) : X.S θ as { s with heap := s.heap.push o } ∧ Ext X.H θ s.heap θ (s.heap.push o) :=
  ⟨S.keeps (k := s.toks) fun b o e => Heap.get?_push_of_some _ e, ⟨List.prefix_refl _, fun _ a b => absurd a b, fun b o e _ _ => Heap.get?_push_of_some _ e, fun b o e => ⟨o, Heap.get?_push_of_some _ e⟩, S.tabKeep fun b o e => Heap.get?_push_of_some _ e⟩⟩
inductive RngArgs : List AV → Int → Int → Prop
  | one (b : Int) : RngArgs [.int b] 0 b
  | two (a b : Int) : RngArgs [.int a, .int b] a b
noncomputable def Small (a : Int) : Prop := -(2 ^ 62) ≤ a ∧ a < 2 ^ 62
theorem call_rng {vs : List AV} {us : List Value} {a b : Int} (V : VRs θ vs us) (h : RngArgs vs a b) {A : Around} {E : Value → Shared → Prop} {Q : Value → Shared → Prop}
    (c : ∀ t u v k, Q (.ref s.heap.objs.size) { s with heap := s.heap.push { cls := .type "range", data := .fields #[.int a t, .int b u, .int 1 v] }, toks := k }) : wpAny X.M A (call (.type "range") us) Q E s := by
  cases h with
  | one b =>
    cases V with | cons x r => cases r with | nil =>
      obtain ⟨t, rfl⟩ := x
      exact call_range_1 (c _ _ _ _)
  | two a b =>
    cases V with | cons x r => cases r with | cons y r => cases r with | nil =>
      obtain ⟨t, rfl⟩ := x
      obtain ⟨u, rfl⟩ := y
      exact call_range_2 (c _ _ _ _)
theorem one_mem {P : Addr → Prop} {it : Addr} (h : P it) : ∀ b ∈ [it], P b := fun b m => by
  have e : b = it := by simpa using m
  exact e ▸ h
theorem st_forR {x r : Str} {px pr pc pos : Pos} {args : List Expr} {body : List Stmt} {Q : PF} (hr : isKind .globalImplicit f.sc r = true) (G : GlobV X r (.type "range")) (hs : noStar args = true)
    (h : EvsS X dp f args as fun vs as₁ => ∃ a b, RngArgs vs a b ∧ (Small a ∧ Small b) ∧ ∃ Inv Bd : Nat → Loc → List AO → Prop, Inv 0 f.loc as₁ ∧
      (∀ (k : Nat) loc as₂, a + k < b → Inv k loc as₂ → storeW { f with loc := loc } x (.int (a + k)) as₂ fun loc' as' => Bd k loc' as') ∧
      (∀ (k : Nat) loc as₂, Bd k loc as₂ → ExsS X dp { f with loc := loc } body as₂ fun fl loc' as' => match fl with | .next | .cont => Inv (k + 1) loc' as' | .brk => Q .next loc' as' | .ret v => Q (.ret v) loc' as') ∧
      (∀ loc as₂, Inv (b - a).toNat loc as₂ → Q .next loc as₂)) : ExS X dp f (.For (.Name x px) (.Call (.Name r pr) args [] pc) body [] pos) as Q := by
  intro A θ s L env post E R F S c
  refine wpAny_For ?_
  refine wpAny_Call_Name_kw (ev_glob (av := .ty "range") (Q := fun av as₁ => av = .ty "range" ∧ as₁ = as) hr G rfl ⟨rfl, rfl⟩ A θ s L env _ E R F S fun av as₁ θ₁ s₁ v q S₁ X₁ V₁ => ?_)
  obtain ⟨rfl, rfl⟩ := q
  cases V₁
  rw [back_eq pc env args hs]
  refine PyProof.Rows.callWith_type (by rw [plain_any _ (fun _ => rfl)]) (args_ok ?_)
  refine h A θ₁ s₁ L env _ E R (F.ext X₁) S₁ fun vs as₂ θ₂ s₂ us q S₂ X₂ V₂ => ?_
  refine El_eeaaeeaaa q fun a b hab hc3 Inv Bd h0 hst hrun hend => ?_; obtain ⟨sa, sb⟩ := hc3; try clear q
  have X₁₂ := X₁.trans X₂
  refine call_rng (X := X) V₂ hab fun t u v k => ?_
  refine wpAny_pyIter_range (IsRange.new _ a b 1 t u v) (small_one sa.1 sa.2 sb.1 sb.2) ?_
  obtain ⟨S₃, X₃⟩ := S₂.junk { cls := .type "range", data := .fields #[.int a t, .int b u, .int 1 v] }
  obtain ⟨S₄, X₄⟩ := S₃.junk { cls := .type "range_iterator", data := .fields #[rawInt a, rawInt (Builtin.Range.rangeSize a b 1), rawInt 1] }
  have X₅ : Ext X.H θ s.heap θ₂ _ := (X₁₂.trans X₃).trans X₄
  have hN : Builtin.Range.rangeSize a b 1 = ((b - a).toNat : Int) := by rw [rangeSize_one]; split <;> lia
  have hnew : ∃ o, ((s₂.heap.push { cls := .type "range", data := .fields #[.int a t, .int b u, .int 1 v] }).push { cls := .type "range_iterator", data := .fields #[rawInt a, rawInt (Builtin.Range.rangeSize a b 1), rawInt 1] }).get? (s₂.heap.push { cls := .type "range", data := .fields #[.int a t, .int b u, .int 1 v] }).objs.size = some o := ⟨_, Heap.get?_push_size _ rfl⟩
  have Fr0 := Free.new S₃ (b := (s₂.heap.push { cls := .type "range", data := .fields #[.int a t, .int b u, .int 1 v] }).objs.size) (Nat.le_refl _) (fun a' o e => Heap.get?_push_of_some _ e) hnew
  have J0 : IsRangeIter ((s₂.heap.push { cls := .type "range", data := .fields #[.int a t, .int b u, .int 1 v] }).push { cls := .type "range_iterator", data := .fields #[rawInt a, rawInt (Builtin.Range.rangeSize a b 1), rawInt 1] }) (s₂.heap.push { cls := .type "range", data := .fields #[.int a t, .int b u, .int 1 v] }).objs.size (a + (0 : Nat)) ((b - a).toNat - (0 : Nat)) 1 := by
    show Heap.get? _ _ = _
    rw [Heap.get?_push_size _ rfl, hN]
    simp
  have nb : s.heap.get? (s₂.heap.push { cls := .type "range", data := .fields #[.int a t, .int b u, .int 1 v] }).objs.size = none := by
    cases q : s.heap.get? (s₂.heap.push { cls := .type "range", data := .fields #[.int a t, .int b u, .int 1 v] }).objs.size with
    | none => rfl
    | some o => obtain ⟨o', z⟩ := (X₁₂.trans X₃).ex _ _ q; exact absurd (Heap.lt_size z) (Nat.lt_irrefl _)
  have ite : (s₂.heap.push { cls := .type "range", data := .fields #[.int a t, .int b u, .int 1 v] }).objs.size = (s₂.heap.push { cls := .type "range", data := .fields #[.int a t, .int b u, .int 1 v] }).objs.size := rfl
  revert Fr0 J0 nb
  show ∀ (_ : Free X θ₂ _ (s₂.heap.push { cls := .type "range", data := .fields #[.int a t, .int b u, .int 1 v] }).objs.size) _ _, codeAny X.M A (.forLoop _ (.ref (s₂.heap.push { cls := .type "range", data := .fields #[.int a t, .int b u, .int 1 v] }).objs.size) _ _ _) _ _
  generalize (s₂.heap.push { cls := .type "range", data := .fields #[.int a t, .int b u, .int 1 v] }).objs.size = it
  intro Fr0 J0 nb
  have hf : ∀ b' ∈ [it], b' ≠ L ∧ s.heap.get? b' = none := one_mem ⟨fun q => (by
    obtain ⟨o, ho⟩ := F.there
    rw [q, ho] at nb; cases nb), nb⟩
  have J1 : ∀ (k : Nat) (h h' : Heap), IsRangeIter h it (a + k) ((b - a).toNat - k) 1 → (∀ b' ∈ [it], ∀ o, h.get? b' = some o → h'.get? b' = some o) → IsRangeIter h' it (a + k) ((b - a).toNat - k) 1 := fun k h h' x y => y _ (List.mem_singleton.mpr rfl) _ x
  refine for_core (dp := dp) (f := f) (L := L) (θ₀ := θ) (h₀ := s.heap) (fs := [it]) (N := (b - a).toNat) (J := fun k h => IsRangeIter h it (a + k) ((b - a).toNat - k) 1) (Inv := Inv) (Bd := Bd) (Q := Q) R hf F.there F.nin J1 ?_ ?_ hrun c ?_
  · intro k s₆ E' hk hI
    refine El_eeeaaaaa (id hI.ex) fun θ' as' loc q1 q2 q3 q4 q5 q6 => ?_
    refine wpAny_pyNext_range_item q5 (by lia) fun h' hi hs' => ⟨_, rfl, wpAny_pure (wpAny_assign_Name ?_)⟩
    have e1 : a + (k : Int) + 1 = a + ((k + 1 : Nat) : Int) := by lia
    have e2 : ((b - a).toNat : Int) - k - 1 = (b - a).toNat - ((k + 1 : Nat) : Int) := by lia
    rw [e1, e2] at hi
    have hI' := hI.free (k := s₆.toks + 1) (J' := fun h => IsRangeIter h it (a + (k + 1 : Nat)) ((b - a).toNat - (k + 1 : Nat)) 1) hf (fun _ m => m) (fun a' o m e => (hs'.2 a' (by simpa using m)).trans e) (one_mem ⟨_, hi⟩) hi
    exact hI'.store (av := .int (a + k)) hf (J1 (k + 1)) (fun θ => ⟨_, rfl⟩) fun loc as₂ q => hst k loc as₂ (by lia) q
  · intro s₆ E' hI
    refine El_eeeaaaaa (id hI.ex) fun θ' as' loc q1 q2 q3 q4 q5 q6 => ?_
    refine wpAny_pyNext_range_end R.2.2 q5 (by lia) fun h' hx => ⟨rfl, ?_⟩
    have hI' := hI.free (k := s₆.toks) (fs' := []) (J' := fun _ => True) hf (fun _ m => by cases m) (fun a' o m e => hx a' o (by simpa using m) e) (fun _ m => by cases m) trivial
    refine El_eeeaaaaa hI'.ex fun θ' as' loc q1 q2 q3 q4 q5 q6 => ?_
    exact ⟨θ', as', loc, hend loc as' q1, q2, q3, q4, q5, q6⟩
  · exact ⟨θ₂, as₂, f.loc, h0, S₄.toks k, F.ext X₅, X₅.toL, J0, one_mem Fr0⟩
end
end Mine

end
section
open PySem PySem.W PyProof.Rows
namespace Mine
section
variable {X : Cx} {dp : Nat} {f : Fm} {as as' : List AO} {θ θ' : List Addr} {s s' : Shared} {L b : Addr} {env : Env}
theorem st_brk {pos : Pos} {Q : PF} (h : Q .brk f.loc as) : ExS X dp f (.Break pos) as Q := fun _ θ s L _ _ _ _ F S c => wpAny_Break (c _ _ _ θ s _ h S (ExtL.refl L θ _) F rfl)
theorem st_cont {pos : Pos} {Q : PF} (h : Q .cont f.loc as) : ExS X dp f (.Continue pos) as Q := fun _ θ s L _ _ _ _ F S c => wpAny_Continue (c _ _ _ θ s _ h S (ExtL.refl L θ _) F rfl)
theorem st_while {t : Expr} {body : List Stmt} {pos : Pos} {Q : PF} (Inv : Nat → Loc → List AO → Prop) {N : Nat} (h0 : Inv N f.loc as)
    (turn : ∀ n loc as, Inv n loc as → TsS X dp { f with loc := loc } t as fun b as₁ => ifB b (ExsS X dp { f with loc := loc } body as₁ fun fl loc' as' => match fl with | .next | .cont => ∃ m, m < n ∧ Inv m loc' as' | .brk => Q .next loc' as' | .ret v => Q (.ret v) loc' as') (Q .next loc as₁)) :
    ExS X dp f (.While t body [] pos) as Q := by
  intro A θ s L env post E R F S c
  refine wpAny_While (codeAny_whileLoop (fun n s' => LoopAt X f L env θ s.heap [] (fun _ => True) (Inv n) s') (fun n s' hI => ?_) N ⟨θ, as, f.loc, h0, S, F, ExtL.refl L θ _, trivial, fun _ m => by cases m⟩)
  refine El_eeeaaaaa hI.ex fun θ₁ as₁ loc q1 q2 q3 q4 hc7 hc8 => ?_; obtain - := hc7; obtain - := hc8
  refine turn n loc as₁ q1 A θ₁ s' L env _ _ R q3 q2 fun bb as₂ θ₂ s₂ q S₂ X₂ => ?_
  have X₂' := q4.trans F.there F.nin q3.there X₂.toL
  cases bb with
  | true =>
    refine q A θ₂ s₂ L env _ _ R (q3.ext X₂) S₂ fun fl loc' as' θ' s₃ g p1 p2 p3 p4 p5 => ?_
    have X₃ := X₂'.trans F.there F.nin (q3.ext X₂).there p3
    cases fl with
    | next => cases p5; refine El_ea p1 fun m hm p1 => ?_; exact ⟨m, hm, θ', as', loc', p1, p2, p4, X₃, trivial, fun _ m => by cases m⟩
    | cont => cases p5; refine El_ea p1 fun m hm p1 => ?_; exact ⟨m, hm, θ', as', loc', p1, p2, p4, X₃, trivial, fun _ m => by cases m⟩
    | brk => cases p5; exact c _ _ _ θ' s₃ .next p1 p2 X₃ p4 rfl
    | ret v => refine El_ea p5 fun u hr1 hu => ?_; obtain rfl := hr1; try clear p5; exact c _ _ _ θ' s₃ _ p1 p2 X₃ p4 ⟨u, rfl, hu⟩
  | false => exact wpAny_execs_nil (c .next loc as₂ θ₂ s₂ .next q S₂ X₂' (q3.ext X₂) rfl)
noncomputable def storesW (f : Fm) : List Str → List AV → List AO → (Loc → List AO → Prop) → Prop
  | [], [], as, Q => Q f.loc as
  | x :: xs, v :: vs, as, Q => storeW f x v as fun loc as₁ => storesW { f with loc := loc } xs vs as₁ Q
  | _, _, _, _ => False
noncomputable def namesOf : List Expr → Option (List Str)
  | [] => some []
  | .Name x _ :: r => (namesOf r).map (x :: ·)
  | _ :: _ => none
theorem names_each {elts : List Expr} : ∀ {ns : List Str}, namesOf elts = some ns → ∀ env, ∃ ps : List Pos, ps.length = ns.length ∧ assignEach elts env = (ns.zip ps).map fun x => (false, assign (.Name x.1 x.2) env) := by
  induction elts with
  | nil => intro ns h env; cases h; exact ⟨[], rfl, rfl⟩
  | cons e r ih =>
    intro ns h env
    cases e with
    | Name x p =>
      refine El_ea (Option.map_eq_some_iff.mp (show (namesOf r).map (x :: ·) = some ns from h)) fun ns' e hr2 => ?_; obtain rfl := hr2
      refine El_ea (ih e env) fun ps hl he => ?_
      exact ⟨p :: ps, by simp [hl], by show _ :: assignEach r env = _; rw [he]; rfl⟩
    | _ => cases h
theorem stores_ok {A : Around} {E : Value → Shared → Prop} {P : Loc → List AO → Prop} {post : Unit → Shared → Prop} (ns : List Str) : ∀ (ps : List Pos) (vs : List AV) (us : List Value) (f : Fm) (as : List AO) (s : Shared),
    ps.length = ns.length → storesW f ns vs as P → FrR X f L env θ s.heap → X.S θ as s → VRs θ vs us →
    (∀ loc' as' s', P loc' as' → X.S θ as' s' → ExtL X.H L θ s.heap θ s'.heap → FrR X { f with loc := loc' } L env θ s'.heap → post () s') →
    wpAny X.M A (assignInOrder ((ns.zip ps).map fun x => assign (.Name x.1 x.2) env) us) post E s := by
  induction ns with
  | nil =>
    intro ps vs us f as s hl h F S V c
    cases V with
    | nil => exact wpAny_pure (c _ _ s h S (ExtL.refl _ _ _) F)
    | cons _ _ => exact h.elim
  | cons x ns ih =>
    intro ps vs us f as s hl h F S V c
    cases V with
    | nil => exact h.elim
    | @cons v u vs us V Vs =>
      cases ps with
      | nil => cases hl
      | cons p ps =>
        show wpAny X.M A (holding us (assign (.Name x p) env u) >>= fun _ => assignInOrder _ us) post E s
        refine wpAny_bind (wpAny_holding (wpAny_assign_Name (store_ok (f := f) h F S V fun loc' as' s' q S' X' F' => ?_)))
        exact ih ps vs us { f with loc := loc' } as' s' (by simpa using hl) q F' S' Vs fun loc₂ as₂ s₂ q₂ S₂ X₂ F₂ => c loc₂ as₂ s₂ q₂ S₂ (X'.trans F.there F.nin F'.there X₂) F₂
noncomputable def seqOfA : AO → Option (List AV)
  | .ints xs => some (xs.map .int)
  | .intx xs => some (xs.map .int)
  | .list xs => some xs
  | .tuple xs => some xs
  | _ => none
theorem ints_vrs : ∀ {vs : List Value} {xs : List Int}, IntsAre vs xs → VRs θ (xs.map .int) vs
  | _, _, .nil => .nil
  | _, _, .cons n t h => .cons ⟨t, rfl⟩ (ints_vrs h)
theorem seq_of (S : X.S θ as s) {i : Nat} {a : Addr} {o : AO} {xs : List AV} (hi : as[i]? = some o) (ha : θ[i]? = some a) (h : seqOfA o = some xs) : ∃ vs, (s.heap.IsList a vs ∨ s.heap.IsTuple a vs) ∧ VRs θ xs vs.toList := by
  rcases o with ys | ys | v | ob | ys | ys | ⟨C, d⟩ | es | ⟨fa, i⟩
  · obtain rfl := Option.some.inj (show some (ys.map AV.int) = some xs from h); obtain ⟨vs, l, r⟩ := ints_of S hi ha; exact ⟨vs, .inl l, ints_vrs r⟩
  · obtain rfl := Option.some.inj (show some (ys.map AV.int) = some xs from h); obtain ⟨vs, l, r⟩ := intx_of S hi ha; exact ⟨vs, .inl l, ints_vrs r⟩
  · exact absurd (show none = some xs from h) (by simp)
  · exact absurd (show none = some xs from h) (by simp)
  · obtain rfl := Option.some.inj (show some ys = some xs from h); obtain ⟨vs, l, r⟩ := list_of S hi ha; exact ⟨vs, .inl l, r⟩
  · obtain rfl := Option.some.inj (show some ys = some xs from h)
    refine El_eaeea (S.ar.objs i _ a hi ha) fun ob h1 vs n hr4 r => ?_; obtain rfl := hr4
    exact ⟨vs, .inr ⟨_, h1, rfl, n, rfl⟩, r⟩
  · exact absurd (show none = some xs from h) (by simp)
  · exact absurd (show none = some xs from h) (by simp)
  · exact absurd (show none = some xs from h) (by simp)
noncomputable def bindW (f : Fm) (t : Expr) (v : AV) (as : List AO) (Q : Loc → List AO → Prop) : Prop := match t with
  | .Name x _ => storeW f x v as Q
  | .Tuple elts _ _ => (match namesOf elts, v with
    | some ns, .obj j => (match as[j]? with
      | some o => (match seqOfA o with | some xs => xs.length = ns.length ∧ storesW f ns xs as Q | none => False)
      | none => False)
    | _, _ => False)
  | _ => False
theorem bind_ok {t : Expr} {av : AV} {v : Value} {P : Loc → List AO → Prop} {A : Around} {E : Value → Shared → Prop} {post : Unit → Shared → Prop} (hh : A.handled = none)
    (e : bindW f t av as P) (F : FrR X f L env θ s.heap) (S : X.S θ as s) (V : VR θ av v)
    (c : ∀ loc' as' s', P loc' as' → X.S θ as' s' → ExtL X.H L θ s.heap θ s'.heap → FrR X { f with loc := loc' } L env θ s'.heap → post () s') : wpAny X.M A (assign t env v) post E s := by
  unfold bindW at e
  split at e
  · exact wpAny_assign_Name (store_ok e F S V c)
  · rename_i elts k0 p0
    split at e
    · rename_i ns j hn
      obtain ⟨a, ha, rfl⟩ := V
      split at e
      · rename_i o hj
        split at e
        · rename_i xs hx
          obtain ⟨vs, hl, r⟩ := seq_of S hj ha hx
          obtain ⟨ps, hp, he⟩ := names_each hn env
          have hlen : (assignEach elts env).length = vs.size := by
            rw [he, List.length_map, List.length_zip, hp, Nat.min_self, ← Array.length_toList, r.len, e.1]
          have hst : (assignEach elts env).findIdx? (·.1) = none := by
            rw [he, List.findIdx?_eq_none_iff]
            intro y hy; obtain ⟨z, _, rfl⟩ := List.mem_map.mp hy; rfl
          have fin : ∀ h', Heap.ExtBut s.heap.objs.size s.heap h' → wpAny X.M A (assignInOrder ((assignEach elts env).map (·.2)) vs.toList) post E { s with heap := h' } := fun h' hx => by
            have hk : ∀ b o, s.heap.get? b = some o → h'.get? b = some o := fun b o q => hx b o (Nat.ne_of_lt (Heap.lt_size q)) q
            have S' : X.S θ as { s with heap := h' } := S.keeps (k := s.toks) hk
            have Y : Ext X.H θ s.heap θ h' := ⟨List.prefix_refl _, fun _ a b => absurd a b, fun b o q _ _ => hk b o q, fun b o q => ⟨o, hk b o q⟩, S.tabKeep hk⟩
            rw [he, List.map_map]
            refine stores_ok ns ps xs vs.toList f as _ hp e.2 (F.ext Y) S' r fun loc' as' s' q S₂ X₂ F₂ => c loc' as' s' q S₂ (Y.toL.trans F.there F.nin (F.ext Y).there X₂) F₂
          rw [arm_assign_Tuple]
          refine wpAny_bind (wpAny_standAt ?_)
          unfold unpack
          rw [hlen, hst]
          rcases hl with hl | hl
          · exact wpAny_bind (wpAny_holding (kun_itemsOf hh hl fin))
          · exact wpAny_bind (wpAny_holding (wpAny_unpackItems_tuple hh hl fin))
        · cases e
      · cases e
    · cases e
  · cases e
end
end Mine

end
section
open PySem PySem.W PyProof.Rows
namespace Mine
section
variable {X : Cx} {dp : Nat} {f : Fm} {as as' : List AO} {θ θ' : List Addr} {s s' : Shared} {L b : Addr} {env : Env}
theorem St.at (S : X.S θ as s) {i : Nat} {a : Addr} (ha : θ[i]? = some a) : ∃ o, s.heap.get? a = some o := by
  have hi' : i < as.length := by rw [S.ar.len]; exact (List.getElem?_eq_some_iff.mp ha).1
  obtain ⟨ob, h, _⟩ := S.ar.objs i as[i] _ (List.getElem?_eq_getElem hi') ha
  exact ⟨ob, h⟩
noncomputable def listA : AO → Option (List AV)
  | .tuple _ => none
  | o => seqOfA o
noncomputable def FixI (o : Obj) (xs : List Int) : Prop := o.cls = .type "list" ∧ ∃ vs n, o.data = .seq vs n ∧ IntsAre vs.toList xs
theorem fix_of (S : X.S θ as s) {i : Nat} {a : Addr} {o : Obj} {xs : List Int} (hi : as[i]? = some (.fix o)) (ha : θ[i]? = some a) (h : FixI o xs) : ∃ vs, s.heap.IsList a vs ∧ IntsAre vs.toList xs := by
  obtain ⟨ob, h1, rfl⟩ := S.ar.objs i _ a hi ha
  refine El_aeea h fun c vs n d r => ?_; try clear h
  exact ⟨vs, ⟨_, h1, c, n, d⟩, r⟩
theorem listA_of (S : X.S θ as s) {i : Nat} {a : Addr} {o : AO} {xs : List AV} (hi : as[i]? = some o) (ha : θ[i]? = some a) (h : listA o = some xs) : ∃ vs, s.heap.IsList a vs ∧ VRs θ xs vs.toList := by
  rcases o with ys | ys | v | ob | ys | ys | ⟨C, d⟩ | es | ⟨fa, i⟩
  · obtain rfl := Option.some.inj (show some (ys.map AV.int) = some xs from h); obtain ⟨vs, l, r⟩ := ints_of S hi ha; exact ⟨vs, l, ints_vrs r⟩
  · obtain rfl := Option.some.inj (show some (ys.map AV.int) = some xs from h); obtain ⟨vs, l, r⟩ := intx_of S hi ha; exact ⟨vs, l, ints_vrs r⟩
  · exact absurd (show none = some xs from h) (by simp)
  · exact absurd (show none = some xs from h) (by simp)
  · obtain rfl := Option.some.inj (show some ys = some xs from h); obtain ⟨vs, l, r⟩ := list_of S hi ha; exact ⟨vs, l, r⟩
  · exact absurd (show none = some xs from h) (by simp)
  · exact absurd (show none = some xs from h) (by simp)
  · exact absurd (show none = some xs from h) (by simp)
  · exact absurd (show none = some xs from h) (by simp)
theorem letOwned_list {A : Around} {E : Value → Shared → Prop} {t : Expr} {it l : Addr} {k : Nat} {v : Value} {Q : Unit → Shared → Prop} (hi : s.heap.IsListIter it l k) (h : Q () s) : wpAny X.M A (letOwnedTupleGo t (.ref it) v) Q E s := by
  obtain ⟨o, ho, hc, hd⟩ := hi
  unfold letOwnedTupleGo
  split
  · cases v <;> first | exact wpAny_pure h | (refine wpAny_bind (wpAny_load ho ?_); rw [hc, hd]; exact wpAny_pure h)
  · cases v <;> first | exact wpAny_pure h | (refine wpAny_bind (wpAny_load ho ?_); rw [hc, hd]; exact wpAny_pure h)
  · exact wpAny_pure h
theorem LoopAt.keep {θ₀ : List Addr} {h₀ : Heap} {fs : List Addr} {J : Heap → Prop} {I : Loc → List AO → Prop} (h : LoopAt X f L env θ₀ h₀ fs J I s) (hJ : ∀ h h', J h → (∀ b ∈ fs, ∀ o, h.get? b = some o → h'.get? b = some o) → J h') {h' : Heap} {k : Nat}
    (hk : ∀ a o, s.heap.get? a = some o → h'.get? a = some o) : LoopAt X f L env θ₀ h₀ fs J I { s with heap := h', toks := k } := by
  refine El_eeeaaaaa h.ex fun θ as loc q1 q2 q3 q4 q5 q6 => ?_
  have Y : Ext X.H θ s.heap θ h' := ⟨List.prefix_refl _, fun _ a b => absurd a b, fun b o q _ _ => hk b o q, fun b o q => ⟨o, hk b o q⟩, q2.tabKeep hk⟩
  exact ⟨θ, as, loc, q1, q2.keeps hk, q3.ext Y, ⟨q4.pre, q4.fresh, fun b o q a c d => hk _ _ (q4.keep b o q a c d), fun b o q => (let ⟨o', z⟩ := q4.ex b o q; ⟨o', hk _ _ z⟩), tab_trans q4.ex q4.tab Y.tab⟩, hJ _ _ q5 fun b _ o q => hk b o q,
    fun b m => (q6 b m).same (fun a m => by
      obtain ⟨e, he, rfl⟩ := List.mem_map.mp m
      obtain ⟨ps, x⟩ := (q2.tabs e he).is
      rw [x]; exact hk _ _ x) (let ⟨o, z⟩ := (q6 b m).there; ⟨o, hk _ _ z⟩)⟩
theorem LoopAt.bind {θ₀ : List Addr} {h₀ : Heap} {fs : List Addr} {J : Heap → Prop} {I I' : Loc → List AO → Prop} {t : Expr} {av : AV} {v : Value} {A : Around} {E : Value → Shared → Prop} (hh : A.handled = none) (h : LoopAt X f L env θ₀ h₀ fs J I s) (hf : ∀ b ∈ fs, b ≠ L ∧ h₀.get? b = none) 
    (hJ : ∀ h h', J h → (∀ b ∈ fs, ∀ o, h.get? b = some o → h'.get? b = some o) → J h') (hI : ∀ loc as θ, I loc as → X.S θ as s → θ₀ <+: θ → VR θ av v ∧ bindW { f with loc := loc } t av as fun loc' as' => I' loc' as') : wpAny X.M A (assign t env v) (fun _ s₃ => LoopAt X f L env θ₀ h₀ fs J I' s₃) E s := by
  refine El_eeeaaaaa h.ex fun θ as loc q1 q2 q3 q4 q5 q6 => ?_
  have z := hI loc as θ q1 q2 q4.pre
  refine bind_ok hh z.2 q3 q2 z.1 fun loc' as' s' p1 p2 p3 p4 => ?_
  exact ⟨θ, as', loc', p1, p2, p4, q4.thru q3.there p3, hJ _ _ q5 fun b hb o ho => p3.keep _ _ ho (q6 b hb).nin (q6 b hb).nhid (hf b hb).1, fun b hb => (q6 b hb).extL p3 (hf b hb).1⟩
end
end Mine

end
section
open PySem PySem.W PyProof.Rows
namespace Mine
section
variable {X : Cx} {dp : Nat} {f : Fm} {as as' : List AO} {θ θ' : List Addr} {s s' : Shared} {L b : Addr} {env : Env}
theorem two_mem {P : Addr → Prop} {a b : Addr} (h1 : P a) (h2 : P b) : ∀ x ∈ [a, b], P x := fun x m => by
  simp only [List.mem_cons, List.not_mem_nil, or_false] at m
  rcases m with rfl | rfl
  · exact h1
  · exact h2
end
end Mine

end
section
open PySem PySem.W PyProof.Rows
namespace Mine
noncomputable def intsOf : List AV → Option (List Int)
  | [] => some []
  | .int i :: r => (match intsOf r with | some xs => some (i :: xs) | none => none)
  | _ => none
noncomputable def mkL (vs : List AV) : AO := match intsOf vs with
  | some xs => .intx xs
  | none => .list vs
section
variable {X : Cx} {dp : Nat} {f : Fm} {as as' : List AO} {θ θ' : List Addr} {s s' : Shared} {L b : Addr} {env : Env}
theorem intsOf_ok : ∀ {vs : List AV} {us : List Value} {xs : List Int}, VRs θ vs us → intsOf vs = some xs → IntsAre us xs
  | [], _, _, .nil, h => by cases h; exact .nil
  | .int i :: r, _, _, .cons ⟨t, e⟩ V, h => by
    subst e
    unfold intsOf at h
    split at h
    · rename_i ys hy; cases h; exact .cons i t (intsOf_ok V hy)
    · cases h
theorem mkL_ok {vs : List AV} {us : List Value} (V : VRs θ vs us) : OR θ (mkL vs) { cls := .type "list", data := .seq us.toArray } := by
  unfold mkL
  split
  · rename_i xs h; exact ⟨us.toArray, 0, rfl, intsOf_ok V h⟩
  · exact ⟨us.toArray, 0, rfl, V⟩
theorem OR.pre {o : AO} {ob : Obj} (h : OR θ o ob) (a : Addr) : OR (θ ++ [a]) o ob := h.mono ⟨_, rfl⟩
theorem obj_new (S : X.S θ as s) {a : Addr} : VR (θ ++ [a]) (.obj as.length) (.ref a) := ⟨a, by rw [S.ar.len]; simp, rfl⟩
theorem ev_list {elts : List Expr} {pos : Pos} {Q : PV} (hs : noStar elts = true) (h : EvsS X dp f elts as fun vs as₁ => vs.length ≤ 100000 ∧ Q (.obj as₁.length) (as₁ ++ [mkL vs])) : EvS X dp f (.List elts pos) as Q := by
  intro A θ s L env post E R F S c
  refine wpAny_List ?_
  rw [back_eq pos env elts hs]
  refine h A θ s L env _ E R F S fun vs as₁ θ₁ s₁ us q S₁ X₁ V₁ => ⟨by rw [V₁.len, sizeLine_eq]; lia, ?_⟩
  have P := S₁.push (ob := { cls := .type "list", data := .seq us.toArray }) rfl (OR.pre (mkL_ok V₁) _)
  exact c _ _ _ _ _ q.2 P.1 (X₁.trans P.2) (obj_new S₁)
theorem ev_tuple {elts : List Expr} {k : Nat} {pos : Pos} {Q : PV} (hs : noStar elts = true) (h : EvsS X dp f elts as fun vs as₁ => vs.length ≤ 100000 ∧ Q (.obj as₁.length) (as₁ ++ [.tuple vs])) : EvS X dp f (.Tuple elts k pos) as Q := by
  intro A θ s L env post E R F S c
  refine wpAny_Tuple ?_
  rw [back_eq pos env elts hs]
  refine h A θ s L env _ E R F S fun vs as₁ θ₁ s₁ us q S₁ X₁ V₁ => ⟨by rw [V₁.len, sizeLine_eq]; lia, ?_⟩
  have P := S₁.push (o := .tuple vs) (ob := { cls := .type "tuple", data := .seq us.toArray }) rfl (OR.pre (o := .tuple vs) ⟨us.toArray, 0, rfl, V₁⟩ _)
  exact c _ _ _ _ _ q.2 P.1 (X₁.trans P.2) (obj_new S₁)
theorem ev_ifexp {t a e : Expr} {pos : Pos} {Q : PV} (h : TsS X dp f t as fun b as₁ => ifB b (EvS X dp f a as₁ Q) (EvS X dp f e as₁ Q)) : EvS X dp f (.IfExp t a e pos) as Q := by
  intro A θ s L env post E R F S c
  refine wpAny_IfExp (h A θ s L env _ E R F S fun bb as₁ θ₁ s₁ q S₁ X₁ => ?_)
  cases bb with
  | true => exact q A θ₁ s₁ L env _ E R (F.ext X₁) S₁ fun av as' θ' s' v q' S' X' V' => c _ _ _ _ _ q' S' (X₁.trans X') V'
  | false => exact q A θ₁ s₁ L env _ E R (F.ext X₁) S₁ fun av as' θ' s' v q' S' X' V' => c _ _ _ _ _ q' S' (X₁.trans X') V'
theorem ev_and {x y : Expr} {pos : Pos} {Q : PV} (h : EvS X dp f x as fun v as₁ => ∃ t, truA v = some t ∧ ifB t (EvS X dp f y as₁ Q) (Q v as₁)) : EvS X dp f (.BoolOp .And [x, y] pos) as Q := by
  intro A θ s L env post E R F S c
  refine wpAny_And2 (h A θ s L env _ E R F S fun v as₁ θ₁ s₁ u q S₁ X₁ V₁ => ?_)
  obtain ⟨t, e, q⟩ := q
  refine tru_av e V₁ ?_
  cases t with
  | true => exact q A θ₁ s₁ L env _ E R (F.ext X₁) S₁ fun av as' θ' s' v q' S' X' V' => c _ _ _ _ _ q' S' (X₁.trans X') V'
  | false => exact c _ _ _ _ _ q S₁ X₁ V₁
noncomputable def AndS (X : Cx) (dp : Nat) (f : Fm) (es : List Expr) (as : List AO) (Q : PB) : Prop :=
  ∀ (A : Around) (θ : List Addr) (s : Shared) (L : Addr) (env : Env) (post : Bool → Shared → Prop) (E : Value → Shared → Prop), Room A dp → FrR X f L env θ s.heap → X.S θ as s →
    (∀ b as' θ' s', Q b as' → X.S θ' as' s' → Ext X.H θ s.heap θ' s'.heap → post b s') → wpAny X.M A (allTrue .And es env) post E s
theorem and_nil {Q : PB} (h : Q true as) : AndS X dp f [] as Q := fun A θ s L env post E R F S c => wpAny_allTrue_And_nil (c _ _ θ s h S (Ext.refl _ _))
theorem and_cons {e : Expr} {r : List Expr} {Q : PB} (h : TsS X dp f e as fun b as₁ => ifB b (AndS X dp f r as₁ Q) (Q false as₁)) : AndS X dp f (e :: r) as Q := by
  intro A θ s L env post E R F S c
  refine wpAny_allTrue_And_cons (h A θ s L env _ E R F S fun bb as₁ θ₁ s₁ q S₁ X₁ => ?_)
  cases bb with
  | true => exact q A θ₁ s₁ L env _ E R (F.ext X₁) S₁ fun b as' θ' s' q' S' X' => c _ _ _ _ q' S' (X₁.trans X')
  | false => exact c _ _ _ _ q S₁ X₁
theorem ts_and {es : List Expr} {pos : Pos} {Q : PB} (h : AndS X dp f es as Q) : TsS X dp f (.BoolOp .And es pos) as Q :=
  fun A θ s L env post E R F S c => wpAny_isTrue_BoolOp (h A θ s L env post E R F S c)
noncomputable def LenI (ob : AO) (n : Nat) : Prop := (∃ xs, listA ob = some xs ∧ n = xs.length) ∨ ∃ o xs, ob = .fix o ∧ FixI o xs ∧ n = xs.length
theorem lenI_of (S : X.S θ as s) {i : Nat} {a : Addr} {ob : AO} {n : Nat} (hi : as[i]? = some ob) (ha : θ[i]? = some a) (h : LenI ob n) : ∃ vs, s.heap.IsList a vs ∧ vs.size = n := by
  rcases h with ⟨xs, e, rfl⟩ | ⟨o, xs, rfl, e, rfl⟩
  · obtain ⟨vs, il, r⟩ := listA_of S hi ha e
    exact ⟨vs, il, by rw [← Array.length_toList]; exact r.len⟩
  · obtain ⟨vs, il, r⟩ := fix_of S hi ha e
    exact ⟨vs, il, by rw [← Array.length_toList]; exact r.length⟩
theorem ev_len {x : Str} {p pos : Pos} {arg : Expr} {Q : PV} (hk : isKind .globalImplicit f.sc x = true) (G : GlobV X x (.builtin "len")) (hs : noStar [arg] = true)
    (h : EvS X dp f arg as fun o as₁ => ∃ i ob n, o = .obj i ∧ as₁[i]? = some ob ∧ LenI ob n ∧ n ≤ 1000000 ∧ Q (.int n) as₁) : EvS X dp f (.Call (.Name x p) [arg] [] pos) as Q := by
  intro A θ s L env post E R F S c
  refine wpAny_Call_Name_kw (ev_glob (av := .bi "len") (Q := fun av as₁ => av = .bi "len" ∧ as₁ = as) hk G rfl ⟨rfl, rfl⟩ A θ s L env _ E R F S fun av as₁ θ₁ s₁ v q S₁ X₁ V₁ => ?_)
  obtain ⟨rfl, rfl⟩ := q
  cases V₁
  rw [back_eq pos env [arg] hs]
  refine Calls.callWith_builtin (by rw [plain_any _ (fun _ => rfl)]) (args_ok ?_)
  refine (evs_cons (Q := fun vs as₂ => ∃ o, vs = [o] ∧ ∃ i ob n, o = .obj i ∧ as₂[i]? = some ob ∧ LenI ob n ∧ n ≤ 1000000 ∧ Q (.int n) as₂) (h.mono fun o as₂ q => evs_nil ⟨o, rfl, q⟩)) A θ₁ s₁ L env _ E R (F.ext X₁) S₁ fun vs as₂ θ₂ s₂ us q S₂ X₂ V₂ => ?_
  obtain ⟨o, rfl, i, ob, n, rfl, hob, hxs, hz, q⟩ := q
  obtain ⟨l, hl, rfl⟩ : ∃ l, θ₂[i]? = some l ∧ us = [.ref l] := by
    cases V₂ with
    | cons a r => cases r with | nil => obtain ⟨l, hl, rfl⟩ := a; exact ⟨l, hl, rfl⟩
  obtain ⟨vs, il, hn⟩ := lenI_of S₂ hob hl hxs
  refine len_list il (by rw [hn]; lia) ?_
  rw [hn]
  exact c _ _ θ₂ _ _ q (S₂.toks _) (X₁.trans X₂) ⟨_, rfl⟩
end
end Mine

end
section
open PySem PySem.W PyProof.Rows
namespace Mine
noncomputable def intsA : AO → Option (List Int)
  | .ints xs => some xs
  | .intx xs => some xs
  | _ => none
noncomputable def addA (a b : AO) : Option AO := match intsA a, intsA b with
  | some xs, some ys => some (.intx (xs ++ ys))
  | _, _ => match listA a, listA b with
    | some xs, some ys => some (.list (xs ++ ys))
    | _, _ => none
noncomputable def lenA (a : AO) : Nat := match a with
  | .ints xs => xs.length
  | .intx xs => xs.length
  | .list xs => xs.length
  | _ => 0
noncomputable def repL (xs : List Int) (k : Nat) : List Int := (List.replicate k xs).flatten
section
variable {X : Cx} {dp : Nat} {f : Fm} {as as' : List AO} {θ θ' : List Addr} {s s' : Shared} {L b : Addr} {env : Env} {D : Cls} {K : Frag}
theorem intsA_of (S : X.S θ as s) {i : Nat} {a : Addr} {o : AO} {xs : List Int} (hi : as[i]? = some o) (ha : θ[i]? = some a) (h : intsA o = some xs) : ∃ vs, s.heap.IsList a vs ∧ IntsAre vs.toList xs := by
  rcases o with ys | ys | v | ob | ys | ys | ⟨C, d⟩ | es | ⟨fa, i⟩
  · obtain rfl := Option.some.inj (show some ys = some xs from h); exact ints_of S hi ha
  · obtain rfl := Option.some.inj (show some ys = some xs from h); exact intx_of S hi ha
  all_goals exact absurd (show none = some xs from h) (by simp)
noncomputable def ReadI (ob : AO) (xs : List Int) : Prop := intsA ob = some xs ∨ ∃ o, ob = .fix o ∧ FixI o xs
theorem readI_of (S : X.S θ as s) {i : Nat} {a : Addr} {o : AO} {xs : List Int} (hi : as[i]? = some o) (ha : θ[i]? = some a) (h : ReadI o xs) : ∃ vs, s.heap.IsList a vs ∧ IntsAre vs.toList xs := by
  rcases h with h | ⟨o, rfl, h⟩
  · exact intsA_of S hi ha h
  · exact fix_of S hi ha h
theorem intsA_len {o : AO} {xs : List Int} (h : intsA o = some xs) : lenA o = xs.length := by
  rcases o with ys | ys | v | ob | ys | ys | ⟨C, d⟩ | es | ⟨fa, i⟩
  · obtain rfl := Option.some.inj (show some ys = some xs from h); rfl
  · obtain rfl := Option.some.inj (show some ys = some xs from h); rfl
  all_goals exact absurd (show none = some xs from h) (by simp)
theorem listA_len {o : AO} {xs : List AV} (h : listA o = some xs) : lenA o = xs.length := by
  rcases o with ys | ys | v | ob | ys | ys | ⟨C, d⟩ | es | ⟨fa, i⟩
  · obtain rfl := Option.some.inj (show some (ys.map AV.int) = some xs from h); simp [lenA]
  · obtain rfl := Option.some.inj (show some (ys.map AV.int) = some xs from h); simp [lenA]
  · exact absurd (show none = some xs from h) (by simp)
  · exact absurd (show none = some xs from h) (by simp)
  · obtain rfl := Option.some.inj (show some ys = some xs from h); rfl
  all_goals exact absurd (show none = some xs from h) (by simp)
theorem add_objs {A : Around} {E : Value → Shared → Prop} {Q : Value → Shared → Prop} {i j : Nat} {oa ob r : AO} {a b : Addr} (S : X.S θ as s) (hi : as[i]? = some oa) (hj : as[j]? = some ob) (ha : θ[i]? = some a) (hb : θ[j]? = some b) (h : addA oa ob = some r) (hz : lenA oa + lenA ob ≤ 100000)
    (c : ∀ θ' s' v, X.S θ' (as ++ [r]) s' → Ext X.H θ s.heap θ' s'.heap → VR θ' (.obj as.length) v → Q v s') : wpAny X.M A (binaryOp .Add (.ref a) (.ref b)) Q E s := by
  have go : ∀ (vs ws : Array Value), s.heap.IsList a vs → s.heap.IsList b ws → vs.size + ws.size ≤ 100000 → OR θ r { cls := .type "list", data := .seq (vs ++ ws) } → wpAny X.M A (binaryOp .Add (.ref a) (.ref b)) Q E s := by
    intro vs ws hl hb hz ho
    refine El_eaae (id hl) fun hc0 h1 hc n hd => ?_; obtain ⟨cls, dd, data, sl⟩ := hc0
    refine El_eaae (id hb) fun hc0 h2 hc2 n2 hd2 => ?_; obtain ⟨cls2, dd2, data2, sl2⟩ := hc0
    simp only at hc hd hc2 hd2
    subst hc hd hc2 hd2
    refine concat_meets ⟨_, h1, rfl⟩ ⟨_, h2, rfl⟩ noFill_list_add seq_list_add PySem.F.slot_list_add PySem.F.entry_list_add (PySem.F.args_list_add_2 _ _) (list_addW a b vs ws n n2 dd dd2 sl sl2 (by rw [sizeLine_eq]; lia)) ⟨h1, h2, ?_⟩
    have P := S.push (o := r) (ob := { cls := .type "list", data := .seq (vs ++ ws) }) rfl (OR.pre ho _)
    exact c _ _ _ P.1 P.2 (obj_new S)
  unfold addA at h
  split at h
  · rename_i xs ys e1 e2
    cases h
    obtain ⟨vs, l1, r1⟩ := intsA_of S hi ha e1
    obtain ⟨ws, l2, r2⟩ := intsA_of S hj hb e2
    have z1 := r1.length; have z2 := r2.length
    rw [intsA_len e1, intsA_len e2] at hz
    exact go vs ws l1 l2 (by rw [← Array.length_toList, ← Array.length_toList]; lia) ⟨_, _, rfl, by rw [Array.toList_append]; exact IntsAre.append r1 r2⟩
  · split at h
    · rename_i xs ys e1 e2
      cases h
      obtain ⟨vs, l1, r1⟩ := listA_of S hi ha e1
      obtain ⟨ws, l2, r2⟩ := listA_of S hj hb e2
      have z1 := r1.len; have z2 := r2.len
      rw [listA_len e1, listA_len e2] at hz
      exact go vs ws l1 l2 (by rw [← Array.length_toList, ← Array.length_toList]; lia) ⟨_, _, rfl, by rw [Array.toList_append]; exact r1.app r2⟩
    · cases h
theorem fold_rep (items : Array Value) : ∀ (n : Nat) (acc : Array Value), (List.foldl (fun x1 x2 => x1 ++ x2) acc (List.replicate n items)).toList = acc.toList ++ (List.replicate n items.toList).flatten
  | 0, acc => by simp
  | n + 1, acc => by rw [List.replicate_succ, List.foldl_cons, fold_rep items n]; simp [List.replicate_succ, List.append_assoc]
theorem rep_ints {vs : List Value} {xs : List Int} (h : IntsAre vs xs) : ∀ n, IntsAre (List.replicate n vs).flatten (repL xs n)
  | 0 => .nil
  | n + 1 => by unfold repL; rw [List.replicate_succ, List.replicate_succ, List.flatten_cons, List.flatten_cons]; exact IntsAre.append h (rep_ints h n)
theorem mul_obj {A : Around} {E : Value → Shared → Prop} {Q : Value → Shared → Prop} {i : Nat} {xs : List Int} {x : Int} {t : Tok} {a : Addr} (S : X.S θ as s) (e1 : as[i]? = some (.intx xs)) (ha : θ[i]? = some a) (z : 0 < xs.length ∧ 0 ≤ x ∧ x < 2 ^ 62 ∧ xs.length * x.toNat ≤ 100000)
    (c : ∀ θ' s' v, X.S θ' (as ++ [.intx (repL xs x.toNat)]) s' → Ext X.H θ s.heap θ' s'.heap → VR θ' (.obj as.length) v → Q v s') : wpAny X.M A (binaryOp .Mult (.ref a) (.int x t)) Q E s := by
  obtain ⟨z0, z1, z2, z3⟩ := z
  refine El_eaeea (S.ar.objs i _ a e1 ha) fun ob hl items k hr4 r => ?_; obtain rfl := hr4
  have hsz : items.size = xs.length := by rw [← Array.length_toList]; exact r.length
  rw [← hsz] at z3
  refine wpAny_binaryOp_repeat_ref (T := "list") (U := "int") (by decide) ⟨_, hl, rfl⟩ (fun s' => typeIs_int s' x t) noFill_list_mul PySem.F.fills_int_mul PySem.F.slot_int_rmul repeat_list PySem.F.slot_int_index.lookup
    (call_meets PySem.F.slot_int_rmul (typeIs_int s x t) PySem.F.entry_int_rmul (PySem.F.args_int_rmul_2 _ _) (int___rmul___int_list x t a items k)
      ⟨hl, rfl, ⟨_, hl, rfl⟩, call_meets PySem.F.slot_list_mul ⟨_, hl, rfl⟩ PySem.F.entry_list_mul (PySem.F.args_list_mul_2 _ _)
        (AutoListH.list___mul___list_int_3 a items k x t (by simp [Builtin.List.listFitsIndex]; lia) (by lia) (by simp [Builtin.List.listTooLong, sizeLine]; lia))
        ⟨hl, ?_⟩⟩)
  have hne : items.isEmpty = false := by
    cases q : items.isEmpty with
    | false => rfl
    | true => have : items.size = 0 := by simpa [Array.isEmpty] using q
              lia
  rw [hne]
  have P := S.push (o := .intx (repL xs x.toNat)) (ob := { cls := .type "list", data := .seq (List.foldl (fun x1 x2 => x1 ++ x2) #[] (List.replicate (if false = true then 0 else x.toNat) items)) }) rfl
    ⟨_, _, rfl, by rw [fold_rep]; simpa using rep_ints r x.toNat⟩
  exact c _ _ _ P.1 P.2 (obj_new S)
end
end Mine

end
section
open PySem PySem.W PyProof.Rows
namespace Mine
noncomputable def sliceR (xs : List Int) : Option Int → Option Int → (List Int → Prop) → Prop
  | none, none, K => K xs
  | none, some y, K => 0 ≤ y ∧ K (xs.take y.toNat)
  | some x, none, K => 0 ≤ x ∧ K (xs.drop x.toNat)
  | some x, some y, K => (0 ≤ x ∧ 0 ≤ y) ∧ K ((xs.drop x.toNat).take (min y.toNat xs.length - x.toNat))
theorem slice_ints {vs : List Value} {xs : List Int} (h : IntsAre vs xs) : ∀ {lo hi : Option Int} {K : List Int → Prop}, sliceR xs lo hi K → ∃ ys, IntsAre (slicePick vs.toArray lo hi none).toList ys ∧ K ys
  | none, none, K, k => by
    refine ⟨xs, ?_, k⟩
    have e : sliceBounds none none none vs.toArray.size = (((0 : Nat) : Int), ((vs.toArray.size : Nat) : Int), 1) := by
      simp only [sliceBounds, Option.getD_none, show (1 : Int) > 0 by decide, if_true]; rfl
    rw [kmk_pick_nat _ e]
    simpa using h
  | none, some y, K, k => ⟨_, kmk_upto h k.1, k.2⟩
  | some x, none, K, k => ⟨_, kmk_from h k.1, k.2⟩
  | some x, some y, K, k => ⟨_, kmk_run h k.1.1 k.1.2, k.2⟩
section
variable {X : Cx} {dp : Nat} {f : Fm} {as as' : List AO} {θ θ' : List Addr} {s s' : Shared} {L b : Addr} {env : Env} {D : Cls} {K : Frag}
noncomputable def PtS (X : Cx) (dp : Nat) (f : Fm) (e : Option Expr) (as : List AO) (Q : Option Int → List AO → Prop) : Prop := match e with
  | none => Q none as
  | some e => EvS X dp f e as fun v as₁ => ∃ i, v = .int i ∧ Q (some i) as₁
theorem part_ok {e : Option Expr} {Q : Option Int → List AO → Prop} {A : Around} {E : Value → Shared → Prop} {post : Value → Shared → Prop} (h : PtS X dp f e as Q) (R : Room A dp) (F : FrR X f L env θ s.heap) (S : X.S θ as s)
    (c : ∀ i as' θ' s' v, Q i as' → X.S θ' as' s' → Ext X.H θ s.heap θ' s'.heap → IsPart v i → post v s') : wpAny X.M A (evalPart e env) post E s := by
  cases e with
  | none => exact wpAny_pure (c none as θ s .none h S (Ext.refl _ _) .none)
  | some e =>
    rw [evalPart_some]
    refine h A θ s L env _ E R F S fun v as₁ θ₁ s₁ u q S₁ X₁ V₁ => ?_
    obtain ⟨i, rfl, q⟩ := q
    obtain ⟨t, rfl⟩ := V₁
    exact c _ _ _ _ _ q S₁ X₁ (.int i t)
theorem ev_slice {v : Expr} {lo hi : Option Expr} {p pos : Pos} {Q : PV}
    (h : EvS X dp f v as fun o as₁ => PtS X dp f lo as₁ fun x as₂ => PtS X dp f hi as₂ fun y as₃ => ∃ i ob xs, o = .obj i ∧ as₃[i]? = some ob ∧ ReadI ob xs ∧ xs.length ≤ 100000 ∧ sliceR xs x y fun ys => Q (.obj as₃.length) (as₃ ++ [.intx ys])) :
    EvS X dp f (.Subscript v (.Slice lo hi none p) pos) as Q := by
  intro A θ s L env post E R F S c
  refine Subscript_ (h A θ s L env _ E R F S fun o as₁ θ₁ s₁ ov q S₁ X₁ V₁ => ?_)
  refine wpAny_Slice (part_ok q R (F.ext X₁) S₁ fun x as₂ θ₂ s₂ vl q₂ S₂ X₂ P₂ => part_ok q₂ R (F.ext (X₁.trans X₂)) S₂ fun y as₃ θ₃ s₃ vu q₃ S₃ X₃ P₃ => ?_)
  rw [evalPart_none]
  refine wpAny_pure ?_
  refine El_eeeaaaa q₃ fun i ob xs hr3 e1 e2 e3 q₄ => ?_; obtain rfl := hr3; try clear q₃
  refine El_ea (V₁.mono (X₂.trans X₃).pre) fun a ha hr2 => ?_; obtain rfl := hr2
  refine El_ea (readI_of S₃ e1 ha e2) fun vs hl r => ?_
  have hz : vs.size = xs.length := by rw [← Array.length_toList]; exact r.length
  refine El_ea (slice_ints r q₄) fun ys r' q₅ => ?_
  obtain ⟨S₄, X₄⟩ := S₃.junk { cls := .type "slice", data := .fields #[vl, vu, .none] }
  refine tail_any (ops := [.ref s₃.heap.objs.size, .ref a]) (s := { s₃ with heap := s₃.heap.push { cls := .type "slice", data := .fields #[vl, vu, .none] } }) (Heap.IsList.typeIs (s := { s₃ with heap := s₃.heap.push { cls := .type "slice", data := .fields #[vl, vu, .none] } }) (hl.push _)) slot_list_getitem.lookup ?_ rfl
  refine wpAny_getItem_list_slice (hl.push _) (Heap.IsSliceOf.new ..) P₂ P₃ .none (by simp) ?_ (by rw [hz, sizeLine_eq]; lia)
  have P := S₄.push (o := .intx ys) (ob := { cls := .type "list", data := .seq (slicePick vs x y none) }) rfl ⟨_, _, rfl, by simpa using r'⟩
  exact c _ _ _ _ _ q₅ P.1 ((((X₁.trans X₂).trans X₃).trans X₄).trans P.2) (obj_new S₄)
noncomputable def itemL (D : Cls) (o k : AV) (as : List AO) (Q : AV → Prop) : Prop := match o, k with
  | .obj i, .int j => (match as[i]? with
    | some (.tuple xs) => (0 ≤ j ∧ j < 2 ^ 63) ∧ (match xs[j.toNat]? with | some v => Q v | none => False)
    | _ => itemW D o k as Q)
  | _, _ => itemW D o k as Q
theorem ev_subL {v i : Expr} {pos : Pos} {Q : PV} (O : ClsOK D K X.h₀) (hn : noSlice i = true) (h : EvS X dp f v as fun o as₁ => EvS X dp f i as₁ fun k as₂ => itemL D o k as₂ fun r => Q r as₂) : EvS X dp f (.Subscript v i pos) as Q := by
  intro A θ s L env post E R F S c
  refine Subscript_ (h A θ s L env _ E R F S fun o as₁ θ₁ s₁ ov q S₁ X₁ V₁ => q A θ₁ s₁ L env _ E R (F.ext X₁) S₁ fun k as₂ θ₂ s₂ kv q₂ S₂ X₂ V₂ => ?_)
  have gen : itemW D o k as₂ (fun r => Q r as₂) → wpAny X.M A (subscriptTail v i ov kv) post E s₂ := fun q₂ => by
    obtain ⟨a, rfl, ht, hw⟩ := item_ok (prog := X.prog) (w := X.w) (A := A) (E := E) (Q := post) O S₂ q₂ (V₁.mono X₂.pre) V₂ fun av v q' V' => c av as₂ θ₂ s₂ v q' S₂ (X₁.trans X₂) V'
    exact tail_any ht slot_list_getitem.lookup hw (sub_eq hn _ _)
  have q₂ : itemL D o k as₂ (fun r => Q r as₂) := q₂
  unfold itemL at q₂
  split at q₂
  · rename_i i' j _
    split at q₂
    · rename_i xs hx
      obtain ⟨⟨b1, b2⟩, q₂⟩ := q₂
      obtain ⟨a, ha, rfl⟩ := V₁.mono X₂.pre
      obtain ⟨t, rfl⟩ := V₂
      refine El_eaeea (S₂.ar.objs i' _ a hx ha) fun ob h1 vs n hr4 r => ?_; obtain rfl := hr4
      split at q₂
      · rename_i w hw
        obtain ⟨u, hu, ru⟩ := r.get hw
        have hj : j.toNat < vs.size := by
          have := (List.getElem?_eq_some_iff.mp hu).1
          simpa using this
        have ht : IsTup s₂.heap a vs := ⟨_, h1, rfl, n, rfl⟩
        refine tail_any ht.typeIs slot_tuple_getitem.lookup (getItem_tuple ht (by lia) b2 (j := j.toNat) ?_ (by rw [← Array.getElem?_toList]; exact hu) (c _ _ _ _ _ q₂ S₂ (X₁.trans X₂) ru)) (sub_eq hn _ _)
        unfold seqIndex?
        simp only [show ¬ (j < 0) by lia, if_false]
        rw [if_pos (by simp; lia)]
      · cases q₂
    · exact gen q₂
  · exact gen q₂
end
end Mine

end
section
open PySem PySem.W PyProof.Rows PySem.SeqAt
namespace Mine
noncomputable def intSeq : AO → Option (Bool × List Int)
  | .ints xs => some (true, xs)
  | .intx xs => some (true, xs)
  | .tuple vs => (match intsOf vs with | some xs => some (false, xs) | none => none)
  | _ => none
noncomputable def cmpV (op : CmpOp) (a b : AV) (as : List AO) (K : Bool → Prop) : Prop := match a, b with
  | .obj i, .obj j => (match as[i]?, as[j]? with
    | some oa, some ob => (match intSeq oa, intSeq ob with
      | some (true, xs), some (true, ys) => (match op with | .Eq => K (decide (xs = ys)) | .NotEq => K (!decide (xs = ys)) | _ => False)
      | some (false, xs), some (false, ys) => (match op with | .Eq => K (decide (xs = ys)) | _ => False)
      | _, _ => False)
    | _, _ => False)
  | _, _ => (match cmpA op a b with | some v => K v | none => False)
theorem all_eq (e : Nat → Bool) : ∀ (xs ys : List Int), xs.length = ys.length → (∀ j, (h1 : j < xs.length) → (h2 : j < ys.length) → e j = (xs[j] == ys[j])) → (List.range xs.length).all e = decide (xs = ys) := by
  intro xs ys hl he
  rw [Bool.eq_iff_iff, List.all_eq_true, decide_eq_true_iff]
  constructor
  · intro h
    refine List.ext_getElem hl fun j h1 h2 => ?_
    have := h j (List.mem_range.mpr h1)
    rw [he j h1 h2] at this
    simpa using this
  · rintro rfl j hj
    rw [he j (List.mem_range.mp hj) (List.mem_range.mp hj)]
    simp
theorem ints_at {vs : Array Value} {xs : List Int} (h : IntsAre vs.toList xs) (j : Nat) (h1 : j < vs.size) : ∃ (h2 : j < xs.length) (t : Tok), vs[j] = .int xs[j] t := by
  have hl := h.length
  rw [Array.length_toList] at hl
  have h2 : j < xs.length := by lia
  obtain ⟨t, ht⟩ := h.get j xs[j] (List.getElem?_eq_getElem h2)
  refine ⟨h2, t, ?_⟩
  rw [Array.getElem?_toList, Array.getElem?_eq_getElem h1] at ht
  exact Option.some.inj ht
section
variable {X : Cx} {dp : Nat} {f : Fm} {as as' : List AO} {θ θ' : List Addr} {s s' : Shared} {L b : Addr} {env : Env} {D : Cls} {K : Frag}
theorem seq_at (S : X.S θ as s) {i : Nat} {a : Addr} {o : AO} {t : Bool} {xs : List Int} (hi : as[i]? = some o) (ha : θ[i]? = some a) (h : intSeq o = some (t, xs)) : ∃ vs : Array Value, (if t then s.heap.IsList a vs else s.heap.IsTuple a vs) ∧ IntsAre vs.toList xs := by
  rcases o with ys | ys | v | ob | ys | ys | ⟨C, d⟩ | es | ⟨fa, i⟩
  · cases Option.some.inj (show some (true, ys) = some (t, xs) from h); exact ints_of S hi ha
  · cases Option.some.inj (show some (true, ys) = some (t, xs) from h); exact intx_of S hi ha
  · exact absurd (show none = some (t, xs) from h) (by simp)
  · exact absurd (show none = some (t, xs) from h) (by simp)
  · exact absurd (show none = some (t, xs) from h) (by simp)
  · have h : (match intsOf ys with | some xs => some (false, xs) | none => none) = some (t, xs) := h
    split at h
    · rename_i zs hz
      cases h
      refine El_eaeea (S.ar.objs i _ a hi ha) fun ob h1 vs n hr4 r => ?_; obtain rfl := hr4
      exact ⟨vs, ⟨_, h1, rfl, n, rfl⟩, intsOf_ok r hz⟩
    · cases h
  all_goals exact absurd (show none = some (t, xs) from h) (by simp)
theorem eq_at {A : Around} {vs ws : Array Value} {xs ys : List Int} (r1 : IntsAre vs.toList xs) (r2 : IntsAre ws.toList ys) : ∀ j (h1 : j < vs.size) (h2 : j < ws.size), EqAt A s vs[j] ws[j] (xs.getD j 0 == ys.getD j 0) := fun j h1 h2 => by
  refine El_ee (ints_at r1 j h1) fun l1 t1 e1 => ?_
  refine El_ee (ints_at r2 j h2) fun l2 t2 e2 => ?_
  rw [e1, e2, List.getD_eq_getElem?_getD, List.getD_eq_getElem?_getD, List.getElem?_eq_getElem l1, List.getElem?_eq_getElem l2]
  exact EqAt.int_int _ _ _ _
theorem cmp_vals {op : CmpOp} {a b : AV} {x y : Value} {P : Bool → Prop} {A : Around} {E : Value → Shared → Prop} {Q : Value → Shared → Prop} (hu : A.units < cLine) (S : X.S θ as s) (h : cmpV op a b as P) (ha : VR θ a x) (hb : VR θ b y)
    (c : ∀ r, P r → Q (.bool r) s) : wpAny X.M A (compareOp op x y) Q E s := by
  unfold cmpV at h
  split at h
  · rename_i i j
    obtain ⟨p, hp, rfl⟩ := ha
    obtain ⟨q, hq, rfl⟩ := hb
    split at h
    · rename_i oa ob ea eb
      split at h
      · rename_i xs ys e1 e2
        obtain ⟨vs, l1, r1⟩ := seq_at S ea hp e1
        obtain ⟨ws, l2, r2⟩ := seq_at S eb hq e2
        have l1 : s.heap.IsList p vs := l1
        have l2 : s.heap.IsList q ws := l2
        have z1 : vs.size = xs.length := by rw [← Array.length_toList]; exact r1.length
        have z2 : ws.size = ys.length := by rw [← Array.length_toList]; exact r2.length
        by_cases hz : xs.length = ys.length
        · have he : (List.range vs.size).all (fun j => xs.getD j 0 == ys.getD j 0) = decide (xs = ys) := by
            rw [z1]
            exact all_eq _ xs ys hz fun j h1 h2 => by rw [List.getD_eq_getElem?_getD, List.getD_eq_getElem?_getD, List.getElem?_eq_getElem h1, List.getElem?_eq_getElem h2]; rfl
          split at h
          · exact cmp_ofEq (RcAt.lists l1 l2 (by lia) hu (eq_at r1 r2) _ _ _ _ (by rw [he]; exact c _ h))
          · exact cmp_ofNotEq (RcNeAt.lists l1 l2 (by lia) hu (eq_at r1 r2) _ _ _ _ (by rw [he]; exact c _ h))
          · cases h
        · have hd : decide (xs = ys) = false := decide_eq_false fun e => hz (by rw [e])
          rw [hd] at h
          split at h
          · exact cmp_ofEq (RcAt.lists_lengths l1 l2 (by simp; lia) hu _ _ _ _ (c _ h))
          · exact cmp_ofNotEq (RcNeAt.lists_lengths l1 l2 (by simp; lia) hu _ _ _ _ (c _ h))
          · cases h
      · rename_i xs ys e1 e2
        obtain ⟨vs, l1, r1⟩ := seq_at S ea hp e1
        obtain ⟨ws, l2, r2⟩ := seq_at S eb hq e2
        have l1 : s.heap.IsTuple p vs := l1
        have l2 : s.heap.IsTuple q ws := l2
        have z1 : vs.size = xs.length := by rw [← Array.length_toList]; exact r1.length
        have z2 : ws.size = ys.length := by rw [← Array.length_toList]; exact r2.length
        split at h
        · refine cmp_ofEq (RcAt.tuples l1 l2 hu (eq_at r1 r2) _ _ _ _ ?_)
          by_cases hz : xs.length = ys.length
          · have he : ((List.range (min vs.size ws.size)).all (fun j => xs.getD j 0 == ys.getD j 0) && vs.size == ws.size) = decide (xs = ys) := by
              rw [z1, z2, hz, Nat.min_self, beq_self_eq_true, Bool.and_true, ← hz]
              exact all_eq _ xs ys hz fun j h1 h2 => by rw [List.getD_eq_getElem?_getD, List.getD_eq_getElem?_getD, List.getElem?_eq_getElem h1, List.getElem?_eq_getElem h2]; rfl
            rw [he]; exact c _ h
          · have hd : decide (xs = ys) = false := decide_eq_false fun e => hz (by rw [e])
            rw [hd] at h
            have : (vs.size == ws.size) = false := by simp; lia
            rw [this, Bool.and_false]; exact c _ h
        · cases h
      · cases h
    · cases h
  · split at h
    · rename_i v hv; exact cmp_av hv ha hb (c v h)
    · cases h
theorem ts_cmpV {l r : Expr} {op : CmpOp} {pos : Pos} {Q : PB} (hm : behindInMarks op r = false) (h : EvS X dp f l as fun a as₁ => EvS X dp f r as₁ fun b as₂ => cmpV op a b as₂ fun v => Q v as₂) : TsS X dp f (.Compare l [op] [r] pos) as Q := by
  intro A θ s L env post E R F S c
  refine wpAny_isTrue_Compare1 (h A θ s L env _ E R F S fun a as₁ θ₁ s₁ v q S₁ X₁ V₁ => q A θ₁ s₁ L env _ E R (F.ext X₁) S₁ fun b as₂ θ₂ s₂ u q₂ S₂ X₂ V₂ => ?_) hm
  exact cmp_vals (by have := R.2.1; lia) S₂ q₂ (V₁.mono X₂.pre) V₂ fun y q₃ => wpAny_truthy_bool (c _ _ θ₂ s₂ q₃ S₂ (X₁.trans X₂))
theorem ev_cmpV {l r : Expr} {op : CmpOp} {pos : Pos} {Q : PV} (hm : behindInMarks op r = false) (h : EvS X dp f l as fun a as₁ => EvS X dp f r as₁ fun b as₂ => cmpV op a b as₂ fun v => Q (.bool v) as₂) : EvS X dp f (.Compare l [op] [r] pos) as Q := by
  intro A θ s L env post E R F S c
  refine wpAny_Compare1 (h A θ s L env _ E R F S fun a as₁ θ₁ s₁ v q S₁ X₁ V₁ => q A θ₁ s₁ L env _ E R (F.ext X₁) S₁ fun b as₂ θ₂ s₂ u q₂ S₂ X₂ V₂ => ?_) hm
  exact cmp_vals (by have := R.2.1; lia) S₂ q₂ (V₁.mono X₂.pre) V₂ fun y q₃ => c _ _ θ₂ s₂ _ q₃ S₂ (X₁.trans X₂) rfl
end
end Mine

end
section
open PySem PySem.W PyProof.Rows PySem.SeqAt
namespace Mine
noncomputable def relN (sc : Scope) : List (Str × NameKind) → List (Str × NameKind)
  | [] => []
  | (n, k) :: r => (match k == .free, isKind .cell sc n with | true, true => (n, .cell) | _, _ => (n, k)) :: relN sc r
noncomputable def relS (scope sc : Scope) : Scope := { scope with names := relN sc scope.names }
noncomputable def cloA (cells : List (Str × Nat)) : List (Str × NameKind) → List (Str × Nat) → Option (List (Str × Nat))
  | [], acc => some acc
  | (n, k) :: r, acc => match k == .free with
    | true => (match lk cells n with | some i => cloA cells r ((n, i) :: acc) | none => none)
    | false => cloA cells r acc
section
variable {X : Cx} {dp : Nat} {f : Fm} {as as' : List AO} {θ θ' : List Addr} {s s' : Shared} {L b : Addr} {env : Env} {D : Cls} {K : Frag}
noncomputable def notDbg : List (Str × NameKind) → Bool
  | [] => true
  | (n, _) :: r => !seq n dbg && notDbg r
theorem relN_eq (F : FrR X f L env θ s.heap) : ∀ (names : List (Str × NameKind)), notDbg names = true → (names.map fun (n, k) => if (k == .free && env.scope.kind == .function && env.kindOf n == some .cell) then (n, NameKind.cell) else (n, k)) = relN f.sc names
  | [], _ => rfl
  | (n, k) :: r, h => by
    unfold notDbg at h
    simp only [Bool.and_eq_true, Bool.not_eq_true'] at h
    rw [List.map_cons, relN_eq F r h.2, show relN f.sc ((n, k) :: r) = (match k == .free, isKind .cell f.sc n with | true, true => (n, .cell) | _, _ => (n, k)) :: relN f.sc r from rfl]
    congr 1
    have kf : (env.scope.kind == ScopeKind.function) = true := by rw [F.scope, F.kind]; rfl
    have hk : (env.kindOf n == some NameKind.cell) = isKind .cell f.sc n := by
      unfold Env.kindOf isKind
      rw [F.scope, lk_lookup, h.1]
      cases f.sc.names.lookup n with
      | none => rfl
      | some j => cases j <;> rfl
    simp only [kf, Bool.and_true, hk]
    cases k == NameKind.free <;> cases isKind .cell f.sc n <;> rfl
theorem clo_rel (F : FrR X f L env θ s.heap) : ∀ (names : List (Str × NameKind)) (accA : List (Str × Nat)) (acc : List (Str × Addr)) {cA : List (Str × Nat)}, cloA f.cells names accA = some cA →
    (∀ x i, lk accA x = some i → ∃ a, θ[i]? = some a ∧ acc.lookup x = some a) → ∃ cs, clo env.cells names acc = some cs ∧ ∀ x i, lk cA x = some i → ∃ a, θ[i]? = some a ∧ cs.lookup x = some a
  | [], accA, acc, cA, h, r => by cases h; exact ⟨acc, rfl, r⟩
  | (n, k) :: rest, accA, acc, cA, h, r => by
    unfold cloA at h
    unfold clo
    cases hk : k == NameKind.free with
    | false => rw [hk] at h; exact clo_rel F rest accA acc h r
    | true =>
      rw [hk] at h
      simp only at h ⊢
      cases hl : lk f.cells n with
      | none => rw [hl] at h; cases h
      | some i =>
        rw [hl] at h
        refine El_ea (F.cells n i hl) fun a ha he => ?_
        rw [he]
        refine clo_rel F rest _ _ h fun x j q => ?_
        unfold lk at q
        rw [List.lookup_cons]
        cases hs : seq n x with
        | true =>
          rw [hs] at q; cases q
          have := seq_iff.mp hs; subst this
          exact ⟨a, ha, by simp⟩
        | false =>
          rw [hs] at q
          have hn : (x == n) = false := by
            cases h' : x == n with
            | false => rfl
            | true => have := eq_of_beq h'; subst this; rw [seq_iff.mpr rfl] at hs; cases hs
          rw [hn]; exact r x j q
theorem St.retype (S : X.S θ as s) {d : Nat} {o o' : AO} (hd : as[d]? = some o) (h : ∀ ob, OR θ o ob → OR θ o' ob) : X.S θ (as.set d o') s := by
  refine ⟨⟨by rw [List.length_set]; exact S.ar.len, S.ar.nodup, fun i oi a e1 e2 => ?_⟩, S.base, S.apart, S.gens, S.os, S.tabs, S.hnin, S.hbase, S.pin⟩
  by_cases q : i = d
  · subst q
    have hl : i < as.length := (List.getElem?_eq_some_iff.mp hd).1
    rw [List.getElem?_set_self hl] at e1
    cases e1
    obtain ⟨ob, x, y⟩ := S.ar.objs i o a hd e2
    exact ⟨ob, x, h ob y⟩
  · rw [List.getElem?_set_ne (Ne.symm q)] at e1
    exact S.ar.objs i oi a e1 e2
theorem list_mkL {vs : List AV} {ob : Obj} (h : OR θ (.list vs) ob) : OR θ (mkL vs) ob := by
  obtain ⟨us, n, rfl, r⟩ := h
  unfold mkL
  split
  · rename_i xs hx; exact ⟨us, n, rfl, intsOf_ok r hx⟩
  · exact ⟨us, n, rfl, r⟩
noncomputable def compFm (f : Fm) (scope : Scope) (cA : List (Str × Nat)) (loc : Loc) : Fm := ⟨relS scope f.sc, loc, cA, f.code, f.qual⟩
inductive CompOut (X : Cx) (θ : List Addr) (s : Shared) (n : Nat) (as' : List AO) (ys : List AV) (C dd : Addr) (s' : Shared) : Prop
  | mk (θ₂ : List Addr) (s₂ : Shared) (θ' : List Addr) (g : Fm) (cenv : Env) (x : Ext X.H θ s.heap θ₂ s₂.heap) (nC : s₂.heap.get? C = none) (nd : s₂.heap.get? dd = none ∧ dd ∉ X.H) (S : X.S θ' as' s') (F : FrR X g C cenv θ' s'.heap)
      (e : ExtL X.H C (θ₂ ++ [dd]) s₂.heap θ' s'.heap) (hy : as'[n]? = some (.list ys)) (hd : (θ₂ ++ [dd])[n]? = some dd) : CompOut X θ s n as' ys C dd s'
theorem frame_free {g : Fm} {C : Addr} {cenv : Env} (S : X.S θ as s) (F : FrR X g C cenv θ s.heap) : Free X θ s.heap C := by
  obtain ⟨o, ho⟩ := F.there
  refine ⟨F.nin, F.nhid, F.apart, fun e he l kk c' q r' => ?_, ⟨o, ho⟩⟩
  obtain ⟨mm, ⟨oL, es, ep, hoL, hdL, _⟩, _⟩ := F.ns
  rcases S.tabs e he with t' | ⟨c'', t1, ⟨c3, oc, vs', tt, e1, e2, e3, _⟩, _⟩
  · rw [show s.heap.get? e.P = _ from t'] at q; injection q with q; injection q with _ _ q _; injection q with q; have := congrArg Array.size q; simp at this
  · cases e1
    rw [show s.heap.get? e.P = _ from t1] at q; injection q with q
    have hc := tab_inj q
    rw [hc, r', show s.heap.get? C = _ from hoL] at e2
    cases e2; rw [hdL] at e3; cases e3
structure CompAt (X : Cx) (θ : List Addr) (s : Shared) (n : Nat) (as' : List AO) (ys : List AV) (C dd : Addr) (s' : Shared) (θ' : List Addr) : Prop where
  ns : ∃ m, s'.heap.Ns C m
  hd : θ'[n]? = some dd
  none : s.heap.get? C = none
  fr : Free X θ' s'.heap C
  out : ∀ h'', Heap.SameBut C s'.heap h'' → X.S θ' (as'.set n (mkL ys)) { s' with heap := h'' } ∧ Ext X.H θ s.heap θ' h''
theorem CompOut.at {n : Nat} {ys : List AV} {C dd : Addr} (O : CompOut X θ s n as' ys C dd s') : ∃ θ', CompAt X θ s n as' ys C dd s' θ' := by
  obtain ⟨θ₂, s₂, θ', g, cenv, x, nC, nd, S, F, e, hy, hd⟩ := O
  have FrC := frame_free S F
  refine ⟨θ', (let ⟨m, hm, _⟩ := F.ns; ⟨m, hm⟩), get_pre e.pre hd, ?_, FrC, fun h'' hs'' => ?_⟩
  · cases q : s.heap.get? C with
    | none => rfl
    | some o => obtain ⟨o', z⟩ := x.ex _ _ q; rw [nC] at z; cases z
  have S7 := S.retype hy (o' := mkL ys) fun ob => list_mkL
  have hz : ∀ b' o, b' ≠ C → s'.heap.get? b' = some o → h''.get? b' = some o := fun b' o n e => (hs''.2 b' n).trans e
  refine ⟨S7.free (fs := [C]) (one_mem FrC) (h' := h'') (k := s'.toks) fun a' o m e => hz a' o (by simpa using m) e, x.pre.trans (List.IsPrefix.trans ⟨_, rfl⟩ e.pre), fun a' m' n' => ?_, fun b' o e' n' nh' => ?_, fun b' o e' => ?_, ?_⟩
  · by_cases z : a' ∈ θ₂
    · exact x.fresh a' z n'
    · have zz : s₂.heap.get? a' = none ∧ a' ∉ X.H := by
        by_cases zd : a' = dd
        · rw [zd]; exact nd
        · exact e.fresh a' m' (fun mm => by
            rcases List.mem_append.mp mm with mm | mm
            · exact z mm
            · exact zd (by simpa using mm))
      refine ⟨?_, zz.2⟩
      cases rr : s.heap.get? a' with
      | none => rfl
      | some o => obtain ⟨o', z3⟩ := x.ex _ _ rr; rw [zz.1] at z3; cases z3
  · have e2 := x.keep b' o e' n' nh'
    have n2 : b' ∉ θ₂ := fun m' => by have := (x.fresh b' m' n').1; rw [e'] at this; cases this
    have n3 : b' ≠ C := fun z => by rw [z, nC] at e2; cases e2
    have n4 : b' ∉ θ₂ ++ [dd] := fun mm => by
      rcases List.mem_append.mp mm with mm | mm
      · exact n2 mm
      · have : b' = dd := by simpa using mm
        rw [this, nd.1] at e2; cases e2
    exact hz b' o n3 (e.keep b' o e2 n4 nh' n3)
  · obtain ⟨o2, e2⟩ := x.ex b' o e'
    have n3 : b' ≠ C := fun z => by rw [z, nC] at e2; cases e2
    obtain ⟨o3, e3⟩ := e.ex b' o2 e2
    exact ⟨o3, hz b' o3 n3 e3⟩
  · exact tab_trans x.ex x.tab (tab_trans e.ex e.tab fun P m' => .inl (hs''.2 P fun z => F.nhid (z ▸ m')))
structure CmpS (X : Cx) (dp : Nat) (f : Fm) (elt tg iter : Expr) (ifs : List Expr) (scope : Scope) (pos : Pos) (as : List AO) (Q : PV) : Prop where
  fold : ∀ env x, foldedSetIterable iter env x = pure x
  kind : scope.kind = .function
  names : ∀ y ∈ scope.names, y.2 = .local → scope.names.lookup y.1 = some .local
  run : ∀ (A : Around) (θ : List Addr) (s : Shared) (L : Addr) (env : Env) (E : Value → Shared → Prop), Room A dp → FrR X f L env θ s.heap → X.S θ as s → ∃ cs, clo env.cells scope.names [] = some cs ∧ ∀ RR : Value → Addr → Result → Shared → Prop,
    (∀ as' ys n C dd s', Q (.obj n) (as'.set n (mkL ys)) → CompOut X θ s n as' ys C dd s' → RR (.ref dd) C (.ok .next) s') →
    wpAny X.M A (eval iter env) (fun x s₁ => wpAny X.M A (pyIter x) (fun it s₂ => wpAny X.M A (newList []) (fun acc s₃ => wpAny X.M A (newFunctionEnv scope env.globals cs [] env.qual none .none (some env)) (fun cenv s₄ =>
      codeAny X.M A (.compStart (.ListComp elt [⟨tg, iter, ifs, 0⟩] scope pos) 0 it acc { cenv with scope := relabel scope env }) (RR acc cenv.locals) s₄) E s₃) E s₂) E s₁) E s
theorem ev_cmp {elt tg iter : Expr} {ifs : List Expr} {scope : Scope} {pos : Pos} {Q : PV} (h : CmpS X dp f elt tg iter ifs scope pos as Q) : EvS X dp f (.ListComp elt [⟨tg, iter, ifs, 0⟩] scope pos) as Q := by
  intro A θ s L env post E R F S c
  obtain ⟨cs, hclo, hr⟩ := h.run A θ s L env E R F S
  rw [eval_ListComp]
  refine wpAny_comprehension_free (g := ⟨tg, iter, ifs, 0⟩) (gs := []) rfl (fun x => h.fold env x) (closure_eq hclo) h.kind h.names (hr _ fun as' ys n C dd s' hQ O => ?_)
  obtain ⟨θ', a⟩ := O.at
  obtain ⟨m, hm⟩ := a.ns
  exact ⟨m, hm, fun h'' hs'' => c _ _ θ' _ _ hQ (a.out h'' hs'').1 (a.out h'' hs'').2 ⟨dd, a.hd, rfl⟩⟩
theorem cmp_R {elt : Expr} {x r : Str} {px pr pc pos : Pos} {args : List Expr} {scope : Scope} {cA : List (Str × Nat)} {Q : PV} (hr : isKind .globalImplicit f.sc r = true) (G : GlobV X r (.type "range")) (hs : noStar args = true)
    (hcA : cloA f.cells scope.names [] = some cA) (hdbg : notDbg scope.names = true) (hkind : scope.kind = .function) (hnames : ∀ y ∈ scope.names, y.2 = .local → scope.names.lookup y.1 = some .local) (hcell : ∀ y ∈ scope.names, y.2 ≠ .cell)
    (h : EvsS X dp f args as fun vs as₁ => ∃ a b, RngArgs vs a b ∧ (Small a ∧ Small b) ∧ ∃ Inv Bd : Nat → Loc → List AO → Prop, Inv 0 [] (as₁ ++ [.list []]) ∧
      (∀ (k : Nat) loc as₂, Inv k loc as₂ → ∃ ys, as₂[as₁.length]? = some (.list ys) ∧ ys.length ≤ k) ∧
      (∀ (k : Nat) loc as₂, a + k < b → Inv k loc as₂ → storeW (compFm f scope cA loc) x (.int (a + k)) as₂ fun loc' as' => Bd k loc' as') ∧
      (∀ (k : Nat) loc as₂, a + k < b → Bd k loc as₂ → EvS X dp (compFm f scope cA loc) elt as₂ fun y as₃ => ∃ ys, as₃[as₁.length]? = some (.list ys) ∧ ys.length ≤ k ∧ Inv (k + 1) loc (as₃.set as₁.length (.list (ys ++ [y])))) ∧
      b - a ≤ 100000 ∧ (∀ loc as₂, Inv (b - a).toNat loc as₂ → ∃ ys, as₂[as₁.length]? = some (.list ys) ∧ Q (.obj as₁.length) (as₂.set as₁.length (mkL ys)))) :
    CmpS X dp f elt (.Name x px) (.Call (.Name r pr) args [] pc) [] scope pos as Q := by
  refine ⟨fun _ _ => rfl, hkind, hnames, fun A θ s L env E R F S => ?_⟩
  refine El_ea (clo_rel F scope.names [] [] hcA (fun x i q => by cases q)) fun cs hclo hcs => ?_
  refine ⟨cs, hclo, fun RR c => ?_⟩
  refine wpAny_Call_Name_kw (ev_glob (av := .ty "range") (Q := fun av as₁ => av = .ty "range" ∧ as₁ = as) hr G rfl ⟨rfl, rfl⟩ A θ s L env _ E R F S fun av as₁ θ₁ s₁ v q S₁ X₁ V₁ => ?_)
  obtain ⟨rfl, rfl⟩ := q
  cases V₁
  rw [back_eq pc env args hs]
  refine PyProof.Rows.callWith_type (by rw [plain_any _ (fun _ => rfl)]) (args_ok ?_)
  refine h A θ₁ s₁ L env _ E R (F.ext X₁) S₁ fun vs as₂ θ₂ s₂ us q S₂ X₂ V₂ => ?_
  refine El_eeaaeeaaaaa q fun a b hab hc3 Inv Bd h0 hac hst hel hbd hend => ?_; obtain ⟨sa, sb⟩ := hc3; try clear q
  have X₁₂ := X₁.trans X₂
  refine call_rng (X := X) V₂ hab fun t u v k => ?_
  refine wpAny_pyIter_range (IsRange.new _ a b 1 t u v) (small_one sa.1 sa.2 sb.1 sb.2) ?_
  have G3 := S₂.junk { cls := .type "range", data := .fields #[.int a t, .int b u, .int 1 v] }
  have G4 := G3.1.junk { cls := .type "range_iterator", data := .fields #[rawInt a, rawInt (Builtin.Range.rangeSize a b 1), rawInt 1] }
  have hN : Builtin.Range.rangeSize a b 1 = ((b - a).toNat : Int) := by rw [rangeSize_one]; split <;> lia
  have J0 : IsRangeIter ((s₂.heap.push { cls := .type "range", data := .fields #[.int a t, .int b u, .int 1 v] }).push { cls := .type "range_iterator", data := .fields #[rawInt a, rawInt (Builtin.Range.rangeSize a b 1), rawInt 1] }) (s₂.heap.push { cls := .type "range", data := .fields #[.int a t, .int b u, .int 1 v] }).objs.size (a + (0 : Nat)) ((b - a).toNat - (0 : Nat)) 1 := by
    show Heap.get? _ _ = _
    rw [Heap.get?_push_size _ rfl, hN]
    simp
  have ni : s₂.heap.get? (s₂.heap.push { cls := .type "range", data := .fields #[.int a t, .int b u, .int 1 v] }).objs.size = none := none_ge (by rw [Heap.size_push]; lia)
  have Fi := Free.new G3.1 (b := (s₂.heap.push { cls := .type "range", data := .fields #[.int a t, .int b u, .int 1 v] }).objs.size) (h' := (s₂.heap.push { cls := .type "range", data := .fields #[.int a t, .int b u, .int 1 v] }).push { cls := .type "range_iterator", data := .fields #[rawInt a, rawInt (Builtin.Range.rangeSize a b 1), rawInt 1] }) (Nat.le_refl _) (fun a' o e => Heap.get?_push_of_some _ e) ⟨_, J0⟩
  have X34 := G3.2.trans G4.2
  have S4 := G4.1
  revert J0 ni Fi X34 S4
  show ∀ (_ : IsRangeIter _ (s₂.heap.push { cls := .type "range", data := .fields #[.int a t, .int b u, .int 1 v] }).objs.size _ _ _) (_ : _) (_ : Free X θ₂ _ (s₂.heap.push { cls := .type "range", data := .fields #[.int a t, .int b u, .int 1 v] }).objs.size) _ _, wpAny X.M A (newList []) (fun acc s₃ => wpAny X.M A (newFunctionEnv _ _ _ _ _ _ _ _) (fun cenv s₄ => codeAny X.M A (.compStart _ 0 (.ref (s₂.heap.push { cls := .type "range", data := .fields #[.int a t, .int b u, .int 1 v] }).objs.size) _ _) _ s₄) E s₃) E _
  generalize (s₂.heap.push { cls := .type "range", data := .fields #[.int a t, .int b u, .int 1 v] }).objs.size = it
  generalize (s₂.heap.push { cls := .type "range", data := .fields #[.int a t, .int b u, .int 1 v] }).push { cls := .type "range_iterator", data := .fields #[rawInt a, rawInt (Builtin.Range.rangeSize a b 1), rawInt 1] } = h4
  intro J0 ni Fi X34 S4
  have S4 : X.S θ₂ as₂ { s₂ with heap := h4, toks := k } := S4.toks k
  refine wpAny_newObj_type ?_ (by size_fits)
  obtain ⟨S5, X5⟩ := S4.push (o := .list []) (ob := { cls := .type "list", data := .seq #[] }) rfl ⟨#[], 0, rfl, .nil⟩
  have Fi5 : Free X (θ₂ ++ [h4.objs.size]) (h4.push { cls := .type "list", data := .seq #[] }) it := Fi.extL (s := { s₂ with heap := h4, toks := k }) (s' := { s₂ with heap := h4.push { cls := .type "list", data := .seq #[] }, toks := k }) (L := it + 1) X5.toL (Nat.ne_of_lt (Nat.lt_succ_self _))
  have J5 : IsRangeIter (h4.push { cls := .type "list", data := .seq #[] }) it (a + (0 : Nat)) ((b - a).toNat - (0 : Nat)) 1 := Heap.get?_push_of_some _ J0
  have hD : (θ₂ ++ [h4.objs.size])[as₂.length]? = some h4.objs.size := by rw [S₂.ar.len]; simp
  have X25 : Ext X.H θ₂ s₂.heap (θ₂ ++ [h4.objs.size]) (h4.push { cls := .type "list", data := .seq #[] }) := X34.trans X5
  have F5 : FrR X f L env (θ₂ ++ [h4.objs.size]) (h4.push { cls := .type "list", data := .seq #[] }) := (F.ext X₁₂).ext X25
  revert S5 Fi5 J5 hD X25 F5
  show ∀ (_ : X.S (θ₂ ++ [h4.objs.size]) (as₂ ++ [.list []]) { s₂ with heap := h4.push { cls := .type "list", data := .seq #[] }, toks := k }) _ _ _ _ _, wpAny X.M A (newFunctionEnv _ _ _ _ _ _ _ _) (fun cenv s₄ => codeAny X.M A (.compStart _ 0 _ (.ref h4.objs.size) _) (RR (.ref h4.objs.size) _) s₄) E { s₂ with heap := h4.push { cls := .type "list", data := .seq #[] }, toks := k }
  generalize h4.push { cls := .type "list", data := .seq #[] } = h5
  generalize h4.objs.size = dd
  intro S5 Fi5 J5 hD X25 F5
  refine wpAny_newFunctionEnv hcell (fun y hy => by cases hy) (fun h6 hns hsb => ?_) hkind
  have hsb : Heap.SameBut h5.objs.size (h5.push { cls := .type "dict", data := .dict #[] }) h6 := hsb
  have hns : h6.Ns h5.objs.size (fun y => ([] : List (Str × Value)).reverse.lookup y) := hns
  have hk6 : ∀ b' o, h5.get? b' = some o → h6.get? b' = some o := fun b' o e => hsb.extBut b' o (Nat.ne_of_lt (Heap.lt_size e)) (Heap.get?_push_of_some _ e)
  have S6 : X.S (θ₂ ++ [dd]) (as₂ ++ [.list []]) { s₂ with heap := h6, toks := k + 0 } := S5.keeps (k := k + 0) hk6
  have X6 : Ext X.H (θ₂ ++ [dd]) h5 (θ₂ ++ [dd]) h6 := ⟨List.prefix_refl _, fun _ a b => absurd a b, fun b o q _ _ => hk6 b o q, fun b o q => ⟨o, hk6 b o q⟩, S5.tabKeep hk6⟩
  have Fi6 : Free X (θ₂ ++ [dd]) h6 it := Fi5.extL (s := { s₂ with heap := h5, toks := k }) (s' := { s₂ with heap := h6, toks := k }) (L := it + 1) X6.toL (Nat.ne_of_lt (Nat.lt_succ_self _))
  have J6 : IsRangeIter h6 it (a + (0 : Nat)) ((b - a).toNat - (0 : Nat)) 1 := hk6 _ _ J5
  have nC : h5.objs.size ∉ θ₂ ++ [dd] := fun m => Nat.lt_irrefl _ (S5.lt m)
  have nC2 : s₂.heap.get? h5.objs.size = none := by
    cases q : s₂.heap.get? h5.objs.size with
    | none => rfl
    | some o => obtain ⟨o', z⟩ := X25.ex _ _ q; exact absurd (Heap.lt_size z) (Nat.lt_irrefl _)
  have itC : it ≠ h5.objs.size := fun q => by rw [q] at J5; exact absurd (Heap.lt_size J5) (Nat.lt_irrefl _)
  have FC : FrR X (compFm f scope cA []) h5.objs.size { newEnv scope h5.objs.size env.globals cs env.qual none .none (some env) 0 with scope := relabel scope env } (θ₂ ++ [dd]) h6 := by
    refine ⟨?_, hkind, rfl, nC, S5.fresh, S5.freshH, ⟨_, hns, fun y av e => by cases e⟩, fun y i q => ?_, F.glob, F.blt, F.code, F.qual⟩
    · show relabel scope env = relS scope f.sc
      unfold relabel relS
      rw [relN_eq F scope.names hdbg]
    · refine El_ea (hcs y i q) fun a' h1 h2 => ?_
      exact ⟨a', get_pre ((X₁₂.pre.trans X25.pre)) h1, h2⟩
  revert FC
  show ∀ (_ : FrR X (compFm f scope cA []) h5.objs.size _ (θ₂ ++ [dd]) h6), codeAny X.M A (.compStart _ 0 (.ref it) (.ref dd) { newEnv scope h5.objs.size env.globals cs env.qual none .none (some env) 0 with scope := relabel scope env }) (RR (.ref dd) h5.objs.size) { s₂ with heap := h6, toks := k + 0 }
  generalize ({ newEnv scope h5.objs.size env.globals cs env.qual none .none (some env) 0 with scope := relabel scope env } : Env) = cenv
  generalize h5.objs.size = C at nC nC2 itC hsb hns ⊢
  intro FC
  have hf : ∀ b' ∈ [it], b' ≠ C ∧ s₂.heap.get? b' = none := one_mem ⟨itC, ni⟩
  have J1 : ∀ (k : Nat) (h h' : Heap), IsRangeIter h it (a + k) ((b - a).toNat - k) 1 → (∀ b' ∈ [it], ∀ o, h.get? b' = some o → h'.get? b' = some o) → IsRangeIter h' it (a + k) ((b - a).toNat - k) 1 := fun k h h' x y => y _ (List.mem_singleton.mpr rfl) _ x
  have hdn : s₂.heap.get? dd = none ∧ dd ∉ X.H := X25.fresh dd (by simp) (fun m => by
    have h1 := S5.ar.nodup
    rw [List.nodup_append] at h1
    exact h1.2.2 dd m dd (by simp) rfl)
  have X26 := X25.trans X6
  have E0 : ExtL X.H C (θ₂ ++ [dd]) s₂.heap (θ₂ ++ [dd]) h6 := ⟨List.prefix_refl _, fun _ x y => absurd x y, fun b' o e n nh nC' => X26.keep b' o e (fun m => n (List.mem_append_left _ m)) nh, X26.ex, X26.tab⟩
  have L0 : LoopAt X (compFm f scope cA []) C cenv (θ₂ ++ [dd]) s₂.heap [it] (fun h => IsRangeIter h it (a + (0 : Nat)) ((b - a).toNat - (0 : Nat)) 1) (Inv 0) { s₂ with heap := h6, toks := k + 0 } :=
    ⟨θ₂ ++ [dd], as₂ ++ [.list []], [], h0, S6, FC, E0, J6, one_mem Fi6⟩
  have go : codeAny X.M A (.compLoop (.ListComp elt [⟨.Name x px, .Call (.Name r pr) args [] pc, [], 0⟩] scope pos) 0 (.ref it) (.ref dd) cenv) (RR (.ref dd) C) { s₂ with heap := h6, toks := k + 0 } := by
    refine codeAny_compLoop_list (fun n s' => ∃ k, k ≤ (b - a).toNat ∧ n = (b - a).toNat - k ∧ LoopAt X (compFm f scope cA []) C cenv (θ₂ ++ [dd]) s₂.heap [it] (fun h => IsRangeIter h it (a + k) ((b - a).toNat - k) 1) (Inv k) s') ?_ (b - a).toNat ⟨0, Nat.zero_le _, rfl, L0⟩
    intro n s' hz; refine El_eaa hz fun k hk hr hI => ?_; obtain rfl := hr; clear hz
    refine El_eeeaaaaa (id hI.ex) fun θ' as' loc q1 q2 q3 q4 q5 q6 => ?_
    by_cases hq : k = (b - a).toNat
    · refine wpAny_pyNext_range_end R.2.2 q5 (by lia) fun h' hx => ?_
      have hI' := hI.free (k := s'.toks) (fs' := []) (J' := fun _ => True) hf (fun _ m => by cases m) (fun a' o m e => hx a' o (by simpa using m) e) (fun _ m => by cases m) trivial
      refine El_eeeaaaaa hI'.ex fun θ' as' loc q1 q2 q3 q4 q5 q6 => ?_
      rw [hq] at q1
      refine El_ea (hend loc as' q1) fun ys hys hQ => ?_
      exact c as' ys as₂.length C dd _ hQ ⟨θ₂, s₂, θ', _, cenv, X₁₂, nC2, hdn, q2, q3, q4, hys, hD⟩
    · refine wpAny_pyNext_range_item q5 (by lia) fun h' hi hs' => ?_
      have e1 : a + (k : Int) + 1 = a + ((k + 1 : Nat) : Int) := by lia
      have e2 : ((b - a).toNat : Int) - k - 1 = (b - a).toNat - ((k + 1 : Nat) : Int) := by lia
      rw [e1, e2] at hi
      have hI' := hI.free (k := s'.toks + 1) (J' := fun h => IsRangeIter h it (a + (k + 1 : Nat)) ((b - a).toNat - (k + 1 : Nat)) 1) hf (fun _ m => m) (fun a' o m e => (hs'.2 a' (by simpa using m)).trans e) (one_mem ⟨_, hi⟩) hi
      refine wpAny_assign_Name (wpAny_mono (hI'.store (av := .int (a + k)) hf (J1 (k + 1)) (fun θ => ⟨_, rfl⟩) fun loc as₂ q => hst k loc as₂ (by lia) q) (fun _ s₄ h₄ => ?_) fun _ _ z => z)
      refine El_eeeaaaaa h₄.ex fun θ₄ as₄ loc₄ p1 p2 p3 p4 p5 p6 => ?_
      refine hel k loc₄ as₄ (by lia) p1 A θ₄ s₄ C cenv _ _ R p3 p2 fun y as₅ θ₅ s₅ vy q₅ S₅ X₅ V₅ => ?_
      refine El_eaa q₅ fun ys hys hyl hInv => ?_; try clear q₅
      have pd : θ₅[as₂.length]? = some dd := get_pre (p4.pre.trans X₅.pre) hD
      refine El_eaeea (S₅.ar.objs as₂.length _ dd hys pd) fun ob g1 items nn hr4 gr => ?_; obtain rfl := hr4
      refine wpAny_list_append_plain (items := items) ⟨nn, g1⟩ (fun h₆ hpl hsb₆ => ?_) (by
        have := gr.len
        rw [← Array.length_toList, this, sizeLine_eq]; lia)
      obtain ⟨n6, g6⟩ := hpl
      have PU := S₅.upd (o' := .list (ys ++ [y])) pd hys hsb₆ g6 ⟨_, _, rfl, by rw [Array.toList_push]; exact gr.app (.cons V₅ .nil)⟩
      have X₄₆ := X₅.trans PU.2
      refine ⟨(b - a).toNat - (k + 1), by lia, k + 1, by lia, rfl, ⟨θ₅, _, loc₄, hInv, PU.1, p3.ext X₄₆, p4.thru p3.there X₄₆.toL, ?_, fun b' m' => (p6 b' m').extL (s' := { s₅ with heap := h₆ }) X₄₆.toL (hf b' m').1⟩⟩
      exact X₄₆.keep _ _ p5 (p6 it (.head _)).nin (p6 it (.head _)).nhid
  exact codeAny_compStart_list go (wpAny_pyIter_rangeiter J6 go)
end
end Mine

end
section
open PySem PySem.W PyProof.Rows PySem.SeqAt
namespace Mine
section
variable {X : Cx} {dp : Nat} {f : Fm} {as as' : List AO} {θ θ' : List Addr} {s s' : Shared} {L b : Addr} {env : Env} {D : Cls} {K : Frag}
theorem seq_list_iadd : seqSlot? (.type "list") (dunderI "add") = pure (some (.builtin "list.__iadd__")) := PySem.seqSlot_of PySem.F.slot_list_iadd.lookup (by decide +kernel)
theorem iadd_list {A : Around} {E : Value → Shared → Prop} {Q : Value → Shared → Prop} {a b : Addr} {vs ws : Array Value} {n n2 : Nat} (h1 : s.heap.get? a = some ⟨.type "list", none, .seq vs n, #[]⟩) (h2 : s.heap.get? b = some ⟨.type "list", none, .seq ws n2, #[]⟩) (hz : vs.size + ws.size ≤ 100000)
    (h : ∀ h' n', Heap.SameBut a s.heap h' → h'.get? a = some ⟨.type "list", none, .seq (vs ++ ws) n', #[]⟩ → Q (.ref a) { s with heap := h' }) : wpAny X.M A (inplaceOp .Add (.ref a) (.ref b)) Q E s := by
  have ta : s.TypeIs (.ref a) "list" := ⟨_, h1, rfl⟩
  have tb : s.TypeIs (.ref b) "list" := ⟨_, h2, rfl⟩
  unfold inplaceOp
  refine wpAny_holding ?_
  have hfi : fillsInplaceSlot (.type "list") "add" (Operator.Add == .Add) = pure false := by
    unfold fillsInplaceSlot
    show (typeLookup (.type "list") (dunderI "add") >>= fun fi => pure (fi.isSome && !isSeqSlot fi)) = pure false
    rw [PySem.F.slot_list_iadd.lookup]
    show (pure (true && !isSeqSlot (some (.builtin "list.__iadd__"))) : Sem Bool) = pure false
    rw [show isSeqSlot (some (.builtin "list.__iadd__")) = true by decide +kernel]; rfl
  refine wpAny_bind (wpAny_typeOf ta (wpAny_bind (wpAny_of_eq hfi ?_)))
  show wpAny X.M A (if false = true then _ else _) Q E s
  rw [if_neg Bool.false_ne_true]
  refine wpAny_bind (wpAny_binaryOp1_none (nm := "add") ta tb noFill_list_add ?_)
  refine wpAny_bind (wpAny_of_eq seq_list_iadd ?_)
  refine wpAny_bind (wpAny_rule ?_)
  refine call_meets PySem.F.slot_list_iadd ta PySem.F.entry_list_iadd (PySem.F.args_list_iadd_2 _ _) (PySem.AutoSeq1.list___iadd___list_list_0 a vs n b ws n2 ?_ ?_ ?_) ⟨h1, h2, ?_⟩
  · simp [Builtin.List.listTooLong, sizeLine]; lia
  · rw [sizeLine_eq]; lia
  · rw [sizeLine_eq]; lia
  · exact h _ _ (Heap.SameBut.update ..) (Heap.get?_update_self _ h1 rfl)
theorem st_augL {x : Str} {e : Expr} {i : Nat} {p pos : Pos} {Q : PF} (hx : isKind .local f.sc x = true) (hv : lk f.loc x = some (.obj i))
    (h : EvS X dp f e as fun b as₂ => ∃ j xs ys, b = .obj j ∧ as₂[i]? = some (.intx xs) ∧ as₂[j]? = some (.intx ys) ∧ xs.length + ys.length ≤ 100000 ∧ storeW f x (.obj i) (as₂.set i (.intx (xs ++ ys))) (Q .next)) : ExS X dp f (.AugAssign (.Name x p) .Add e pos) as Q := by
  intro A θ s L env post E R F S c
  obtain ⟨m, hm, r⟩ := F.ns
  refine El_eaea (r x _ hv) fun v hmx a ha hr4 => ?_; obtain rfl := hr4
  refine wpAny_AugAssign_Name (wpAny_loadName_local (by rw [F.scope]; exact F.kind) (F.kindOf hx) (F.loc ▸ hm) hmx ?_)
  refine h A θ s L env _ E R F S fun b as₂ θ₂ s₂ u q₂ S₂ X₂ V₂ => ?_
  refine El_eeeaaaa q₂ fun j xs ys hr3 e1 e2 e3 q₃ => ?_; obtain rfl := hr3; try clear q₂
  obtain ⟨b, hb, rfl⟩ := V₂
  have ha := get_pre X₂.pre ha
  refine El_eaeea (S₂.ar.objs i _ a e1 ha) fun ob g1 vs n hr4 r1 => ?_; obtain rfl := hr4
  refine El_eaeea (S₂.ar.objs j _ b e2 hb) fun ob g2 ws n2 hr4 r2 => ?_; obtain rfl := hr4
  have z1 : vs.size = xs.length := by rw [← Array.length_toList]; exact r1.length
  have z2 : ws.size = ys.length := by rw [← Array.length_toList]; exact r2.length
  refine iadd_list g1 g2 (by lia) fun h' n' hs hg => ?_
  have P := S₂.upd (o' := .intx (xs ++ ys)) ha e1 hs hg ⟨_, _, rfl, by rw [Array.toList_append]; exact IntsAre.append r1 r2⟩
  have X₃ := X₂.trans P.2
  exact store_ok (s := { s₂ with heap := h' }) q₃ (F.ext X₃) P.1 ⟨a, ha, rfl⟩ fun loc' as' s' q' S' X' F' => c _ _ _ θ₂ s' _ q' S' (X₃.toL.thru (F.ext X₃).there X') F' rfl
end
end Mine

end
section
open PySem PySem.W PyProof.Rows PySem.SeqAt
namespace Mine
structure MakeOK (X : Cx) (C fI : Addr) (d : FD) (n1 n2 : Str) : Prop where
  cls : ∃ K : Frag, K.In X.h₀ ∧ makesIn K C = true ∧ keepIn K (.ref C) = true ∧ findIn K (.ref C) "__init__" = some (some (.ref fI)) ∧ typeIn K (.ref fI) = some (.type "function")
  ex : ∃ o fd, X.h₀.get? fI = some o ∧ o.data = .func fd ∧ X.h₀.CodeRec fd.code fd.qualname ∧ fd.body = .stmts d.body ∧ fd.scope = d.scope ∧ fd.globals = 3 ∧ fd.builtins = 0 ∧ fd.code = d.code ∧ fd.qualname ++ ".<locals>." = d.qual ∧
    (∀ s : Shared, (∀ b o, X.h₀.get? b = some o → s.heap.get? b = some o) → ∀ x v1 v2, BindsTo s fd ⟨[x], [(n1, v1), (n2, v2)]⟩ (d.names.zip [x, v1, v2]))
  names : d.names.length = 3
  cell : ∀ x ∈ d.scope.names, x.2 ≠ .cell
  loc : ∀ x ∈ d.names, d.scope.names.lookup x = some .local
  co : d.scope.isCoroutine = false
  gen : d.scope.isGenerator = false
  kind : d.scope.kind = .function
  lim : X.h₀.NoLimit
section
variable {X : Cx} {dp : Nat} {f : Fm} {as as' : List AO} {θ θ' : List Addr} {s s' : Shared} {L b : Addr} {env : Env} {D : Cls} {K : Frag}
theorem call_make {C fI : Addr} {d : FD} {n1 n2 : Str} {v1 v2 : AV} {u1 u2 : Value} {Q : PV} (O : MakeOK X C fI d n1 n2) {A : Around} (R : Room A (dp + 2)) (S : X.S θ as s) (V1 : VR θ v1 u1) (V2 : VR θ v2 u2)
    (h : ExsS X dp ⟨d.scope, (d.names.zip [.obj (as.length + 1), v1, v2]).reverse, [], d.code, d.qual⟩ d.body (as ++ [.dict []] ++ [.inst C as.length]) fun fl _ as' => match fl with | .next => Q (.obj (as.length + 1)) as' | _ => False)
    {post : Value → Shared → Prop} {E : Value → Shared → Prop} (c : ∀ av as' θ' s' v, Q av as' → X.S θ' as' s' → Ext X.H θ s.heap θ' s'.heap → VR θ' av v → post v s') :
    wpAny X.M A (call (.ref C) [] [(n1, u1), (n2, u2)]) post E s := by
  refine El_eaaaa O.cls fun K hK hm hk hi hf => ?_
  have KS : K.In s.heap := hK.keeps S.base
  refine El_eeaaaaaaaaa O.ex fun o fd ho hd hc hb hs hg hbl hcd hql hbind => ?_
  have P1 := S.push (o := .dict []) (ob := emptyDict) rfl ⟨[], 0, rfl, .nil⟩
  have P2 := P1.1.push (o := .inst C as.length) (ob := instObj C s.heap.objs.size) rfl ⟨s.heap.objs.size, #[], by
    rw [S.ar.len, List.append_assoc, List.getElem?_append_right (Nat.le_refl _), Nat.sub_self]; rfl, rfl⟩
  refine wpAny_call ?_
  obtain ⟨hh, g, dr, t, os⟩ := s
  refine make_core (makes_of KS hm) (looks_findIn KS hi) (fun self => bind_fn KS self hf) (.inl rfl) ?_
  have e1 : ((hh.push emptyDict).objs.size) = hh.objs.size + 1 := Heap.size_push ..
  have S2 : X.S (θ ++ [hh.objs.size] ++ [hh.objs.size + 1]) (as ++ [.dict []] ++ [.inst C as.length]) ⟨(hh.push emptyDict).push (instObj C hh.objs.size), g, dr, t, os⟩ := by
    have := P2.1; rw [show ({ heap := hh, gens := g, drawn := dr, toks := t, os := os } : Shared).heap = hh from rfl] at this
    rw [← e1]; exact this
  have X2 : Ext X.H θ hh (θ ++ [hh.objs.size] ++ [hh.objs.size + 1]) ((hh.push emptyDict).push (instObj C hh.objs.size)) := by
    have := P1.2.trans P2.2; rw [← e1]; exact this
  have hw : (Code.builtin "type.__call__" ⟨[.ref C], [(n1, u1), (n2, u2)]⟩).weight = 1 := by kernel_rfl
  have hu : (Code.builtin "type.__call__" ⟨[.ref C], [(n1, u1), (n2, u2)]⟩).cUnits ≤ 4 := by
    have : (Code.builtin "type.__call__" ⟨[.ref C], [(n1, u1), (n2, u2)]⟩).cUnits = 1 := by kernel_rfl
    lia
  have hS : ∀ b o, X.h₀.get? b = some o → (⟨(hh.push emptyDict).push (instObj C hh.objs.size), g, dr, t, os⟩ : Shared).heap.get? b = some o := S2.base
  have hroom : (A.under (.builtin "type.__call__" ⟨[.ref C], [(n1, u1), (n2, u2)]⟩)).depth < recursionLimit := by
    show A.depth + _ < _; rw [hw]; have := R.1; lia
  refine codeAny_call_def hroom (hS _ _ ho) hd (O.lim.keeps hS) (Heap.CodeRec.keeps hc hS) hb (hbind _ hS (.ref (hh.objs.size + 1)) u1 u2) (by rw [hs]; exact O.cell) (fun x hx => by rw [hs]; exact O.loc _ (List.of_mem_zip hx).1) (fun h₁ hn hk => ?_) (by rw [hs]; exact O.co) (by rw [hs]; exact O.gen) (by rw [hs]; exact O.kind)
  have V : VRs (θ ++ [hh.objs.size] ++ [hh.objs.size + 1]) [.obj (as.length + 1), v1, v2] [.ref (hh.objs.size + 1), u1, u2] := by
    refine .cons ⟨hh.objs.size + 1, ?_, rfl⟩ (.cons (V1.mono X2.pre) (.cons (V2.mono X2.pre) .nil))
    rw [S.ar.len, List.getElem?_append_right (by simp)]
    simp
  revert hn hk
  generalize e3 : (⟨(hh.push emptyDict).push (instObj C hh.objs.size), g, dr, t, os⟩ : Shared) = s2 at S2 ⊢
  have X2' : Ext X.H θ hh (θ ++ [hh.objs.size] ++ [hh.objs.size + 1]) s2.heap := by rw [← e3]; exact X2
  intro hn hk
  have S₁ : X.S _ _ { s2 with heap := h₁, toks := s2.toks + (d.names.zip [.ref (hh.objs.size + 1), u1, u2]).length } := S2.keeps hk
  refine h (Around.deeper _ _) _ _ s2.heap.objs.size _ _ _ ⟨?_, ?_, R.2.2⟩ ⟨hs, O.kind, rfl, fun m => Nat.lt_irrefl _ (S2.lt m), S2.fresh, S2.freshH, ⟨_, hn, fun x av e => ((LRs.zip V d.names).rev).look x av e⟩, fun x i e => (by cases e), hg, hbl, hcd, hql⟩ S₁ fun fl loc' as' θ' s' g' q S' X' F' G => ?_
  · have := R.1; show A.depth + _ + 1 + dp < _; rw [hw]; lia
  · have := R.2.1; show A.units + _ + 3 + 4 * dp + 40 < _; lia
  · have X'' : Ext X.H (θ ++ [hh.objs.size] ++ [hh.objs.size + 1]) s2.heap θ' s'.heap := ⟨X'.pre, fun a m n => ⟨(by
        cases r : s2.heap.get? a with
        | none => rfl
        | some o => have := (X'.fresh a m n).1; rw [hk a o r] at this; cases this), (X'.fresh a m n).2⟩,
      fun b o e n nh => X'.keep b o (hk b o e) n nh fun q => (by rw [q] at e; rw [size_none] at e; cases e), fun b o e => X'.ex b o (hk b o e), tab_trans (fun b o e => ⟨o, hk b o e⟩) (S2.tabKeep hk) X'.tab⟩
    cases fl with
    | next =>
      cases G
      refine ⟨rfl, c _ _ θ' s' _ q S' (X2'.trans X'') ⟨_, get_pre X'.pre ?_, rfl⟩⟩
      rw [S.ar.len, List.getElem?_append_right (by simp)]
      simp
    | brk => exact q.elim
    | cont => exact q.elim
    | ret v => exact q.elim
theorem ev_make {C fI : Addr} {d : FD} {n1 n2 x : Str} {e1 e2 : Expr} {p p1 p2 pos : Pos} {Q : PV} (O : MakeOK X C fI d n1 n2) (hk : isKind .globalImplicit f.sc x = true) (G : GlobV X x (.ref C)) (hdp : 2 ≤ dp)
    (h : EvS X dp f e1 as fun v1 as₁ => EvS X dp f e2 as₁ fun v2 as₂ => ExsS X (dp - 2) ⟨d.scope, (d.names.zip [.obj (as₂.length + 1), v1, v2]).reverse, [], d.code, d.qual⟩ d.body (as₂ ++ [.dict []] ++ [.inst C as₂.length]) fun fl _ as' => match fl with | .next => Q (.obj (as₂.length + 1)) as' | _ => False) :
    EvS X dp f (.Call (.Name x p) [] [⟨some n1, e1, p1⟩, ⟨some n2, e2, p2⟩] pos) as Q := by
  intro A θ s L env post E R F S c
  refine wpAny_Call_Name_kw (ev_glob (av := .addr C) (Q := fun av as₁ => av = .addr C ∧ as₁ = as) hk G rfl ⟨rfl, rfl⟩ A θ s L env _ E R F S fun av as₁ θ₁ s₁ v q S₁ X₁ V₁ => ?_)
  obtain ⟨rfl, rfl⟩ := q
  cases V₁
  refine El_eaaaa O.cls fun K hK hm hkp hi hf => ?_
  refine callWith_of (P := fun h => K.In h) rfl (keeps_K hkp) (evalArgs_kw2_nil rfl ?_)
  refine kwAll_cons (h A θ₁ s₁ L env _ E R (F.ext X₁) S₁ fun v1 as₂ θ₂ s₂ u1 q S₂ X₂ V₂ => kwAll_cons (q A θ₂ s₂ L env _ E R (F.ext (X₁.trans X₂)) S₂ fun v2 as₃ θ₃ s₃ u2 q₂ S₃ X₃ V₃ => kwAll_nil ⟨hK.keeps S₃.base, ?_⟩))
  have R' : Room A (dp - 2 + 2) := by rw [Nat.sub_add_cancel hdp]; exact R
  exact call_make O R' S₃ (V₂.mono X₃.pre) V₃ q₂ fun av as' θ' s' v q' S' X' V' => c _ _ _ _ _ q' S' (((X₁.trans X₂).trans X₃).trans X') V'
end
end Mine

end
section
open PySem PySem.W PyProof.Rows PySem.SeqAt
namespace Mine
section
variable {X : Cx} {dp : Nat} {f : Fm} {as as' : List AO} {θ θ' : List Addr} {s s' : Shared} {L b : Addr} {env : Env} {n : Nat}
end
end Mine

end
section
open PySem PySem.W PyProof.Rows PySem.SeqAt
namespace Mine
theorem execs_two (env : Env) : ∀ (l1 l2 : List Stmt), execs (l1 ++ l2) env = (execs l1 env >>= fun g => match g with | .next => execs l2 env | g => pure g)
  | [], l2 => by
    show execs l2 env = (pure Flow.next >>= _)
    rw [pure_bind]
  | st :: r, l2 => by
    rw [List.cons_append, execs_cons, execs_cons, bind_assoc]
    refine congrArg _ (funext fun g => ?_)
    cases g with
    | next => exact execs_two env r l2
    | brk => rw [pure_bind]
    | cont => rw [pure_bind]
    | ret v => rw [pure_bind]
section
variable {X : Cx} {dp : Nat} {f : Fm} {as : List AO}
theorem exs_app {l1 l2 : List Stmt} {Q : PF} (h : ExsS X dp f l1 as fun fl loc as₁ => match fl with | .next => ExsS X dp { f with loc := loc } l2 as₁ Q | fl => Q fl loc as₁) : ExsS X dp f (l1 ++ l2) as Q := by
  intro A θ s L env post E R F S c
  rw [execs_two]
  refine wpAny_bind (h A θ s L env _ E R F S fun fl loc as₁ θ₁ s₁ g q S₁ X₁ F₁ G₁ => ?_)
  cases fl with
  | next =>
    cases G₁
    exact q A θ₁ s₁ L env _ E R F₁ S₁ fun fl loc as₂ θ₂ s₂ g q₂ S₂ X₂ F₂ G₂ => c _ _ _ θ₂ s₂ _ q₂ S₂ (X₁.thru F₁.there X₂) F₂ G₂
  | brk => cases G₁; exact wpAny_pure (c _ _ _ θ₁ s₁ _ q S₁ X₁ F₁ rfl)
  | cont => cases G₁; exact wpAny_pure (c _ _ _ θ₁ s₁ _ q S₁ X₁ F₁ rfl)
  | ret v => obtain ⟨u, rfl, hu⟩ := G₁; exact wpAny_pure (c _ _ _ θ₁ s₁ _ q S₁ X₁ F₁ ⟨u, rfl, hu⟩)
end
end Mine

end
section
open PySem PySem.W PyProof.Rows PySem.SeqAt
namespace Mine
section
variable {prog : Program} {w : World} {A : Around} {R : Result → Shared → Prop} {s : Shared}
noncomputable abbrev testsOf (ifs : List Expr) (env : Env) : Sem Bool := forIn ifs true fun c r => if r = true then do let ok ← isTrue c env (eval c env); pure (ForInStep.yield ok) else pure (ForInStep.yield r)
theorem compLoop_any {elt target iter : Expr} {ifs : List Expr} {scope : Scope} {pos : Pos} {it acc : Value} {env : Env} (I : Nat → Shared → Prop)
    (turn : ∀ n s, I n s → wpAny (model prog w) A (pyNext it) (fun r s₁ => match r with
      | none => R (.ok .next) s₁
      | some v => wpAny (model prog w) A (letOwnedTupleGo target it v) (fun _ s₁' => wpAny (model prog w) A (assign target env v) (fun _ s₂ =>
          wpAny (model prog w) A (testsOf ifs env) (fun ok s₃ =>
            if ok = true then wpAny (model prog w) A (eval elt env) (fun x s₄ =>
              wpAny (model prog w) A (call (.builtin "list.append") [acc, x]) (fun _ s₅ => ∃ m, m < n ∧ I m s₅) (notedBy (model prog w) A env fun e s' => R (.error e) s') s₄) (notedBy (model prog w) A env fun e s' => R (.error e) s') s₃
            else ∃ m, m < n ∧ I m s₃) (notedBy (model prog w) A env fun e s' => R (.error e) s') s₂) (notedBy (model prog w) A env fun e s' => R (.error e) s') s₁') (notedBy (model prog w) A env fun e s' => R (.error e) s') s₁) (notedBy (model prog w) A env fun e s' => R (.error e) s') s)
    (n : Nat) (h : I n s) : codeAny (model prog w) A (.compLoop (.ListComp elt [⟨target, iter, ifs, 0⟩] scope pos) 0 it acc env) R s := by
  refine codeAny_loop rfl I (fun n s hI => ?_) n h
  show wpAny _ A ((compTurn (.ListComp elt [⟨target, iter, ifs, 0⟩] scope pos) 0 it acc env).onRaise (fun x => do noteFrame x env; theTreesLotGoes x)) _ _ s
  refine wpAny_noted ?_
  rw [compTurn_list]
  refine wpAny_bind (wpAny_standAt (wpAny_bind (wpAny_mono (turn n s hI) (fun r s₁ h₁ => ?_) fun _ _ h' => h')))
  cases r with
  | none => exact wpAny_pure h₁
  | some v =>
    refine wpAny_bind (wpAny_mono h₁ (fun _ s₁' h₁' => ?_) fun _ _ h' => h')
    refine wpAny_bind (wpAny_mono h₁' (fun _ s₂ h₂ => wpAny_bind (wpAny_mono h₂ (fun ok s₃ h₃ => ?_) fun _ _ h' => h')) fun _ _ h' => h')
    cases ok with
    | false => exact wpAny_pure ⟨rfl, h₃⟩
    | true =>
      exact wpAny_bind (wpAny_bind (wpAny_mono h₃ (fun x s₄ h₄ => wpAny_bind (wpAny_mono h₄ (fun _ s₅ h₅ => wpAny_pure (wpAny_pure ⟨rfl, h₅⟩)) fun _ _ h' => h')) fun _ _ h' => h'))
theorem tests_nil {env : Env} {Q : Bool → Shared → Prop} {E : Value → Shared → Prop} (h : Q true s) : wpAny (model prog w) A (testsOf [] env) Q E s := wpAny_pure h
theorem tests_one {env : Env} {c : Expr} {Q : Bool → Shared → Prop} {E : Value → Shared → Prop} (h : wpAny (model prog w) A (isTrue c env (eval c env)) Q E s) : wpAny (model prog w) A (testsOf [c] env) Q E s := by
  unfold testsOf
  simp only [List.forIn_cons, List.forIn_nil, if_true]
  exact wpAny_bind (wpAny_bind (wpAny_mono h (fun b s' hb => wpAny_pure (wpAny_pure hb)) fun _ _ x => x))
end
noncomputable def FlS (X : Cx) (dp : Nat) (f : Fm) : List Expr → List AO → PB → Prop
  | [], as, Q => Q true as
  | [c], as, Q => TsS X dp f c as Q
  | _, _, _ => False
section
variable {X : Cx} {dp : Nat} {f : Fm} {as as' : List AO} {θ θ' : List Addr} {s s' : Shared} {L b : Addr} {env : Env} {D : Cls} {K : Frag}
theorem fl_ok {ifs : List Expr} {Q : PB} (h : FlS X dp f ifs as Q) {A : Around} {post : Bool → Shared → Prop} {E : Value → Shared → Prop} (R : Room A dp) (F : FrR X f L env θ s.heap) (S : X.S θ as s)
    (c : ∀ b as' θ' s', Q b as' → X.S θ' as' s' → Ext X.H θ s.heap θ' s'.heap → post b s') : wpAny X.M A (testsOf ifs env) post E s := by
  match ifs, h with
  | [], h => exact tests_nil (c true as θ s h S (Ext.refl _ _))
  | [e], h => exact tests_one (h A θ s L env post E R F S c)
theorem cmp_L {elt target iter : Expr} {ifs : List Expr} {scope : Scope} {pos : Pos} {cA : List (Str × Nat)} {Q : PV} (hfold : ∀ env x, foldedSetIterable iter env x = pure x)
    (hcA : cloA f.cells scope.names [] = some cA) (hdbg : notDbg scope.names = true) (hkind : scope.kind = .function) (hnames : ∀ y ∈ scope.names, y.2 = .local → scope.names.lookup y.1 = some .local) (hcell : ∀ y ∈ scope.names, y.2 ≠ .cell)
    (h : EvS X dp f iter as fun o as₁ => ∃ i xs, o = .obj i ∧ xs.length ≤ 100000 ∧ ∃ Inv Bd : Nat → Loc → List AO → Prop, Inv 0 [] (as₁ ++ [.list []]) ∧ i < as₁.length ∧
      (∀ (k : Nat) loc as₂, Inv k loc as₂ → ∃ ob, as₂[i]? = some ob ∧ listA ob = some xs) ∧
      (∀ (k : Nat) loc as₂, Inv k loc as₂ → ∃ ys, as₂[as₁.length]? = some (.list ys) ∧ ys.length ≤ k) ∧
      (∀ (k : Nat) loc as₂ av, xs[k]? = some av → Inv k loc as₂ → bindW (compFm f scope cA loc) target av as₂ fun loc' as' => Bd k loc' as') ∧
      (∀ (k : Nat) loc as₂, k < xs.length → Bd k loc as₂ → FlS X dp (compFm f scope cA loc) ifs as₂ fun b as₃ => ifB b (EvS X dp (compFm f scope cA loc) elt as₃ fun y as₄ => ∃ ys, as₄[as₁.length]? = some (.list ys) ∧ ys.length ≤ k ∧ Inv (k + 1) loc (as₄.set as₁.length (.list (ys ++ [y])))) (Inv (k + 1) loc as₃)) ∧
      (∀ loc as₂, Inv xs.length loc as₂ → ∃ ys, as₂[as₁.length]? = some (.list ys) ∧ Q (.obj as₁.length) (as₂.set as₁.length (mkL ys)))) :
    CmpS X dp f elt target iter ifs scope pos as Q := by
  refine ⟨hfold, hkind, hnames, fun A θ s L env E R F S => ?_⟩
  obtain ⟨cs, hclo, hcs⟩ := clo_rel F scope.names [] [] hcA (fun x i q => by cases q)
  refine ⟨cs, hclo, fun RR c => ?_⟩
  refine h A θ s L env _ E R F S fun o as₂ θ₂ s₂ v q S₂ X₂ V₂ => ?_
  refine El_eeaaeeaaaaaa q fun i xs hr2 hbd Inv Bd h0 hilt hls hac hst hel hend => ?_; obtain rfl := hr2; try clear q
  have X₁₂ := X₂
  refine El_ea V₂ fun l hl hr2 => ?_; obtain rfl := hr2; try clear V₂
  have il : ∃ vs, s₂.heap.IsList l vs := by
    obtain ⟨ob, hob, hxs⟩ := hls 0 _ _ h0
    rw [List.getElem?_append_left hilt] at hob
    obtain ⟨vs, il, _⟩ := listA_of S₂ hob hl hxs
    exact ⟨vs, il⟩
  obtain ⟨vs0, il⟩ := il
  refine wpAny_pyIter_list il ?_
  have G4 := S₂.junk { cls := .type "list_iterator", data := .fields #[.ref l, .int 0 0] }
  have ni : s₂.heap.get? s₂.heap.objs.size = none := size_none _
  have J0 : (s₂.heap.push { cls := .type "list_iterator", data := .fields #[.ref l, .int 0 0] }).IsListIter s₂.heap.objs.size l 0 := ⟨_, Heap.get?_push_size _ rfl, rfl, rfl⟩
  have Fi := Free.new S₂ (b := s₂.heap.objs.size) (h' := s₂.heap.push { cls := .type "list_iterator", data := .fields #[.ref l, .int 0 0] }) (Nat.le_refl _) (fun a' o e => Heap.get?_push_of_some _ e) ⟨_, Heap.get?_push_size _ rfl⟩
  have X34 := G4.2
  have S4 := G4.1
  revert J0 ni Fi X34 S4
  show ∀ (_ : s₂.heap.get? s₂.heap.objs.size = none) (_ : Heap.IsListIter _ s₂.heap.objs.size _ _) (_ : Free X θ₂ _ s₂.heap.objs.size) _ _, wpAny X.M A (newList []) (fun acc s₃ => wpAny X.M A (newFunctionEnv _ _ _ _ _ _ _ _) (fun cenv s₄ => codeAny X.M A (.compStart _ 0 (.ref s₂.heap.objs.size) _ _) _ s₄) E s₃) E _
  generalize hit : s₂.heap.objs.size = it
  generalize s₂.heap.push { cls := .type "list_iterator", data := .fields #[.ref l, .int 0 0] } = h4
  intro ni J0 Fi X34 S4
  refine wpAny_newObj_type ?_ (by size_fits)
  obtain ⟨S5, X5⟩ := S4.push (o := .list []) (ob := { cls := .type "list", data := .seq #[] }) rfl ⟨#[], 0, rfl, .nil⟩
  have Fi5 : Free X (θ₂ ++ [h4.objs.size]) (h4.push { cls := .type "list", data := .seq #[] }) it := Fi.extL (s := { s₂ with heap := h4 }) (s' := { s₂ with heap := h4.push { cls := .type "list", data := .seq #[] } }) (L := it + 1) X5.toL (Nat.ne_of_lt (Nat.lt_succ_self _))
  have J5 : (h4.push { cls := .type "list", data := .seq #[] }).IsListIter it l 0 := let ⟨o, a, r⟩ := J0; ⟨o, Heap.get?_push_of_some _ a, r⟩
  have hD : (θ₂ ++ [h4.objs.size])[as₂.length]? = some h4.objs.size := by rw [S₂.ar.len]; simp
  have X25 : Ext X.H θ₂ s₂.heap (θ₂ ++ [h4.objs.size]) (h4.push { cls := .type "list", data := .seq #[] }) := X34.trans X5
  have F5 : FrR X f L env (θ₂ ++ [h4.objs.size]) (h4.push { cls := .type "list", data := .seq #[] }) := (F.ext X₁₂).ext X25
  revert S5 Fi5 J5 hD X25 F5
  show ∀ (_ : X.S (θ₂ ++ [h4.objs.size]) (as₂ ++ [.list []]) { s₂ with heap := h4.push { cls := .type "list", data := .seq #[] } }) _ _ _ _ _, wpAny X.M A (newFunctionEnv _ _ _ _ _ _ _ _) (fun cenv s₄ => codeAny X.M A (.compStart _ 0 _ (.ref h4.objs.size) _) (RR (.ref h4.objs.size) _) s₄) E { s₂ with heap := h4.push { cls := .type "list", data := .seq #[] } }
  generalize h4.push { cls := .type "list", data := .seq #[] } = h5
  generalize h4.objs.size = dd
  intro S5 Fi5 J5 hD X25 F5
  refine wpAny_newFunctionEnv hcell (fun y hy => by cases hy) (fun h6 hns hsb => ?_) hkind
  have hsb : Heap.SameBut h5.objs.size (h5.push { cls := .type "dict", data := .dict #[] }) h6 := hsb
  have hns : h6.Ns h5.objs.size (fun y => ([] : List (Str × Value)).reverse.lookup y) := hns
  have hk6 : ∀ b' o, h5.get? b' = some o → h6.get? b' = some o := fun b' o e => hsb.extBut b' o (Nat.ne_of_lt (Heap.lt_size e)) (Heap.get?_push_of_some _ e)
  have S6 : X.S (θ₂ ++ [dd]) (as₂ ++ [.list []]) { s₂ with heap := h6, toks := s₂.toks + 0 } := S5.keeps (k := s₂.toks + 0) hk6
  have X6 : Ext X.H (θ₂ ++ [dd]) h5 (θ₂ ++ [dd]) h6 := ⟨List.prefix_refl _, fun _ a b => absurd a b, fun b o q _ _ => hk6 b o q, fun b o q => ⟨o, hk6 b o q⟩, S5.tabKeep hk6⟩
  have Fi6 : Free X (θ₂ ++ [dd]) h6 it := Fi5.extL (s := { s₂ with heap := h5 }) (s' := { s₂ with heap := h6 }) (L := it + 1) X6.toL (Nat.ne_of_lt (Nat.lt_succ_self _))
  have J6 : h6.IsListIter it l 0 := let ⟨o, a, r⟩ := J5; ⟨o, hk6 _ _ a, r⟩
  have nC : h5.objs.size ∉ θ₂ ++ [dd] := fun m => Nat.lt_irrefl _ (S5.lt m)
  have nC2 : s₂.heap.get? h5.objs.size = none := by
    cases q : s₂.heap.get? h5.objs.size with
    | none => rfl
    | some o => obtain ⟨o', z⟩ := X25.ex _ _ q; exact absurd (Heap.lt_size z) (Nat.lt_irrefl _)
  have itC : it ≠ h5.objs.size := fun q => by obtain ⟨o, a, _⟩ := J5; rw [q] at a; exact absurd (Heap.lt_size a) (Nat.lt_irrefl _)
  have FC : FrR X (compFm f scope cA []) h5.objs.size { newEnv scope h5.objs.size env.globals cs env.qual none .none (some env) 0 with scope := relabel scope env } (θ₂ ++ [dd]) h6 := by
    refine ⟨?_, hkind, rfl, nC, S5.fresh, S5.freshH, ⟨_, hns, fun y av e => by cases e⟩, fun y i q => ?_, F.glob, F.blt, F.code, F.qual⟩
    · show relabel scope env = relS scope f.sc
      unfold relabel relS
      rw [relN_eq F scope.names hdbg]
    · refine El_ea (hcs y i q) fun a' h1 h2 => ?_
      exact ⟨a', get_pre ((X₁₂.pre.trans X25.pre)) h1, h2⟩
  revert FC
  show ∀ (_ : FrR X (compFm f scope cA []) h5.objs.size _ (θ₂ ++ [dd]) h6), codeAny X.M A (.compStart _ 0 (.ref it) (.ref dd) { newEnv scope h5.objs.size env.globals cs env.qual none .none (some env) 0 with scope := relabel scope env }) (RR (.ref dd) h5.objs.size) { s₂ with heap := h6, toks := s₂.toks + 0 }
  generalize ({ newEnv scope h5.objs.size env.globals cs env.qual none .none (some env) 0 with scope := relabel scope env } : Env) = cenv
  generalize h5.objs.size = C at nC nC2 itC hsb hns ⊢
  intro FC
  have hf : ∀ b' ∈ [it], b' ≠ C ∧ s₂.heap.get? b' = none := one_mem ⟨itC, ni⟩
  have J1 : ∀ (k : Nat) (h h' : Heap), h.IsListIter it l k → (∀ b' ∈ [it], ∀ o, h.get? b' = some o → h'.get? b' = some o) → h'.IsListIter it l k := fun k h h' ⟨o, x, r⟩ y => ⟨o, y _ (List.mem_singleton.mpr rfl) _ x, r⟩
  have hdn : s₂.heap.get? dd = none ∧ dd ∉ X.H := X25.fresh dd (by simp) (fun m => by
    have h1 := S5.ar.nodup
    rw [List.nodup_append] at h1
    exact h1.2.2 dd m dd (by simp) rfl)
  have X26 := X25.trans X6
  have E0 : ExtL X.H C (θ₂ ++ [dd]) s₂.heap (θ₂ ++ [dd]) h6 := ⟨List.prefix_refl _, fun _ x y => absurd x y, fun b' o e n nh nC' => X26.keep b' o e (fun m => n (List.mem_append_left _ m)) nh, X26.ex, X26.tab⟩
  have L0 : LoopAt X (compFm f scope cA []) C cenv (θ₂ ++ [dd]) s₂.heap [it] (fun h => h.IsListIter it l 0) (Inv 0) { s₂ with heap := h6, toks := s₂.toks + 0 } :=
    ⟨θ₂ ++ [dd], as₂ ++ [.list []], [], h0, S6, FC, E0, J6, one_mem Fi6⟩
  have go : codeAny X.M A (.compLoop (.ListComp elt [⟨target, iter, ifs, 0⟩] scope pos) 0 (.ref it) (.ref dd) cenv) (RR (.ref dd) C) { s₂ with heap := h6, toks := s₂.toks + 0 } := by
    refine compLoop_any (fun n s' => ∃ k, k ≤ xs.length ∧ n = xs.length - k ∧ LoopAt X (compFm f scope cA []) C cenv (θ₂ ++ [dd]) s₂.heap [it] (fun h => h.IsListIter it l k) (Inv k) s') ?_ xs.length ⟨0, Nat.zero_le _, rfl, L0⟩
    intro n s' hz; refine El_eaa hz fun k hk hr hI => ?_; obtain rfl := hr; clear hz
    refine El_eeeaaaaa (id hI.ex) fun θ' as' loc q1 q2 q3 q4 q5 q6 => ?_
    have pl : θ'[i]? = some l := get_pre (List.IsPrefix.trans ⟨_, rfl⟩ q4.pre) hl
    refine El_ea (hls k _ _ q1) fun ob hob hxs => ?_
    refine El_ea (listA_of q2 hob pl hxs) fun vs' il' r' => ?_
    by_cases hq : k = xs.length
    · refine wpAny_pyNext_list_end R.2.2 q5 il' (by rw [← Array.getElem?_toList, List.getElem?_eq_none_iff, r'.len, hq]; exact Nat.le_refl _) fun h' hx => ?_
      have hI' := hI.free (k := s'.toks) (fs' := []) (J' := fun _ => True) hf (fun _ m => by cases m) (fun a' o m e => hx a' o (by simpa using m) e) (fun _ m => by cases m) trivial
      refine El_eeeaaaaa hI'.ex fun θ' as' loc q1 q2 q3 q4 q5 q6 => ?_
      rw [hq] at q1
      refine El_ea (hend loc as' q1) fun ys hys hQ => ?_
      exact c as' ys as₂.length C dd _ hQ ⟨θ₂, s₂, θ', _, cenv, X₁₂, nC2, hdn, q2, q3, q4, hys, hD⟩
    · have hk' : k < xs.length := by lia
      have hav : xs[k]? = some xs[k] := List.getElem?_eq_getElem hk'
      refine El_ea (r'.get hav) fun v hv rv => ?_
      refine wpAny_pyNext_list_item q5 il' (by rw [← Array.getElem?_toList]; exact hv) fun h' hi hs' => letOwned_list (s := { s' with heap := h' }) hi ?_
      have hI' := hI.free (k := s'.toks) (J' := fun h => h.IsListIter it l (k + 1)) hf (fun _ m => m) (fun a' o m e => (hs'.2 a' (by simpa using m)).trans e) (one_mem (let ⟨o, x, _⟩ := hi; ⟨o, x⟩)) hi
      refine wpAny_mono (hI'.bind (I' := Bd k) (t := target) (av := xs[k]) R.2.2 hf (J1 (k + 1)) fun loc₂ as₂ θ₂ q S' pre => ⟨?_, hst k loc₂ as₂ _ hav q⟩) (fun _ s₄ h₄ => ?_) fun _ _ z => z
      · obtain ⟨ob, hob, hxs⟩ := hls k _ _ q
        have pl₂ : θ₂[i]? = some l := get_pre (List.IsPrefix.trans ⟨_, rfl⟩ pre) hl
        obtain ⟨vs'', ⟨o2, e2, _, n2, d2⟩, r''⟩ := listA_of S' hob pl₂ hxs
        obtain ⟨v', hv', rv'⟩ := r''.get hav
        refine El_eaae il' fun o1 e1 _ n1 d1 => ?_; try clear il'
        have nl : l ≠ it := fun e => by
          obtain ⟨oz, ez⟩ := St.at S₂ hl
          rw [e, ni] at ez; cases ez
        rw [show ({ s' with heap := h' } : Shared).heap.get? l = _ from hs'.2 l nl, e1] at e2
        cases e2
        rw [d1] at d2; cases d2
        rw [hv] at hv'; cases hv'
        exact rv'
      · refine El_eeeaaaaa h₄.ex fun θ₄ as₄ loc₄ p1 p2 p3 p4 p5 p6 => ?_
        refine fl_ok (hel k loc₄ as₄ hk' p1) R p3 p2 fun ok as₅ θ₅ s₅ q₅ S₅ X₅ => ?_
        have F5' := p3.ext X₅
        have p4' := p4.thru p3.there X₅.toL
        have p5' : s₅.heap.IsListIter it l (k + 1) := let ⟨o, x, r⟩ := p5; ⟨o, X₅.keep _ _ x (p6 it (.head _)).nin (p6 it (.head _)).nhid, r⟩
        have p6' : ∀ b' ∈ [it], Free X θ₅ s₅.heap b' := fun b' m' => (p6 b' m').extL X₅.toL (hf b' m').1
        cases ok with
        | false =>
          rw [if_neg (by simp)]
          exact ⟨xs.length - (k + 1), by lia, k + 1, by lia, rfl, ⟨θ₅, as₅, loc₄, q₅, S₅, F5', p4', p5', p6'⟩⟩
        | true =>
          rw [if_pos rfl]
          refine q₅ A θ₅ s₅ C cenv _ _ R F5' S₅ fun y as₆ θ₆ s₆ vy q₆ S₆ X₆ V₆ => ?_
          refine El_eaa q₆ fun ys hys hyl hInv => ?_; try clear q₆
          have pd : θ₆[as₂.length]? = some dd := get_pre (p4'.pre.trans X₆.pre) hD
          refine El_eaeea (S₆.ar.objs as₂.length _ dd hys pd) fun ob g1 items nn hr4 gr => ?_; obtain rfl := hr4
          refine wpAny_list_append_plain (items := items) ⟨nn, g1⟩ (fun h₆ hpl hsb₆ => ?_) (by
            have := gr.len
            rw [← Array.length_toList, this, sizeLine_eq]; lia)
          obtain ⟨n6, g6⟩ := hpl
          have PU := S₆.upd (o' := .list (ys ++ [y])) pd hys hsb₆ g6 ⟨_, _, rfl, by rw [Array.toList_push]; exact gr.app (.cons V₆ .nil)⟩
          have X₅₇ := X₆.trans PU.2
          refine ⟨xs.length - (k + 1), by lia, k + 1, by lia, rfl, ⟨θ₆, _, loc₄, hInv, PU.1, F5'.ext X₅₇, p4'.thru F5'.there X₅₇.toL, ?_, fun b' m' => (p6' b' m').extL (s' := { s₆ with heap := h₆ }) X₅₇.toL (hf b' m').1⟩⟩
          obtain ⟨o, x, r⟩ := p5'
          exact ⟨o, X₅₇.keep _ _ x (p6' it (.head _)).nin (p6' it (.head _)).nhid, r⟩
  exact codeAny_compStart_list go (wpAny_pyIter_listiter J6 go)
end
end Mine

end
section
open PySem PySem.W PyProof.Rows
namespace Mine
section
variable {X : Cx} {dp : Nat} {f : Fm} {as as' : List AO} {θ θ' : List Addr} {s s' : Shared} {L b : Addr} {env : Env}
theorem ev_neg {x : Expr} {pos} {Q : PV} (h : EvS X dp f x as fun a as₁ => ∃ i, a = .int i ∧ Q (.int (-i)) as₁) : EvS X dp f (.UnaryOp .USub x pos) as Q := by
  intro A θ s L env post E R F S c
  refine wpAny_UnaryOp (h A θ s L env _ E R F S fun a as₁ θ₁ s₁ v q S₁ X₁ V₁ => ?_)
  obtain ⟨i, rfl, q⟩ := q
  obtain ⟨t, rfl⟩ := V₁
  exact neg_int (c _ _ θ₁ { s₁ with toks := s₁.toks + 1 } _ q (S₁.toks _) X₁ ⟨_, rfl⟩)
theorem sum_ok {A : Around} {E : Value → Shared → Prop} {s : Shared} {l : Addr} {vs : Array Value} {ns : List Int} {Q : Value → Shared → Prop} (hh : A.handled = none) (hl : s.heap.IsList l vs) (hi : IntsAre vs.toList ns)
    (h : ∀ h' tk t', (∀ b o, s.heap.get? b = some o → h'.get? b = some o) → Q (.int ns.sum t') { s with heap := h', toks := tk }) : wpAny X.M A (call (.builtin "sum") [.ref l]) Q E s := by
  obtain ⟨xs, hx⟩ := hi.allInts.items
  have hx' : vs = intItems xs := by simpa using hx
  have hl' : s.heap.IsList l (intItems xs) := hx' ▸ hl
  refine sum_intListG hh hl' fun h' tk t' hk => ?_
  have e1 : ns = xs.toList.map (·.1) := by
    rw [← nums_intItems, ← hx']
    exact (show numsOf vs.toList = ns from hi.numsOf).symm
  have e2 : preSum (numAt xs) xs.size = ns.sum := by
    rw [preSum_eq, List.take_of_length_le (by simp), e1]
  rw [e2]
  exact h h' tk t' hk
theorem ev_sum {x : Str} {p pos : Pos} {arg : Expr} {Q : PV} (hk : isKind .globalImplicit f.sc x = true) (G : GlobV X x (.builtin "sum")) (hs : noStar [arg] = true)
    (h : EvS X dp f arg as fun o as₁ => ∃ i ob xs, o = .obj i ∧ as₁[i]? = some ob ∧ ReadI ob xs ∧ Q (.int xs.sum) as₁) : EvS X dp f (.Call (.Name x p) [arg] [] pos) as Q := by
  intro A θ s L env post E R F S c
  refine wpAny_Call_Name_kw (ev_glob (av := .bi "sum") (Q := fun av as₁ => av = .bi "sum" ∧ as₁ = as) hk G rfl ⟨rfl, rfl⟩ A θ s L env _ E R F S fun av as₁ θ₁ s₁ v q S₁ X₁ V₁ => ?_)
  obtain ⟨rfl, rfl⟩ := q
  cases V₁
  rw [back_eq pos env [arg] hs]
  refine Calls.callWith_builtin (by rw [plain_any _ (fun _ => rfl)]) (args_ok ?_)
  refine (evs_cons (Q := fun vs as₂ => ∃ o, vs = [o] ∧ ∃ i ob xs, o = .obj i ∧ as₂[i]? = some ob ∧ ReadI ob xs ∧ Q (.int xs.sum) as₂) (h.mono fun o as₂ q => evs_nil ⟨o, rfl, q⟩)) A θ₁ s₁ L env _ E R (F.ext X₁) S₁ fun vs as₂ θ₂ s₂ us q S₂ X₂ V₂ => ?_
  obtain ⟨o, rfl, i, ob, xs, rfl, hob, hxs, q⟩ := q
  obtain ⟨l, hl, rfl⟩ : ∃ l, θ₂[i]? = some l ∧ us = [.ref l] := by
    cases V₂ with
    | cons a r => cases r with | nil => obtain ⟨l, hl, rfl⟩ := a; exact ⟨l, hl, rfl⟩
  obtain ⟨vs, il, hn⟩ := readI_of S₂ hob hl hxs
  refine sum_ok R.2.2 il hn fun h' tk t' hk => ?_
  have S₃ : X.S θ₂ as₂ { s₂ with heap := h', toks := tk } := S₂.keeps (k := tk) hk
  have X₃ : Ext X.H θ₂ s₂.heap θ₂ h' := ⟨List.prefix_refl _, fun _ a b => absurd a b, fun b o q _ _ => hk b o q, fun b o q => ⟨o, hk b o q⟩, S₂.tabKeep hk⟩
  exact c _ _ θ₂ _ _ q S₃ ((X₁.trans X₂).trans X₃) ⟨_, rfl⟩
noncomputable def negG (xs : List AV) (c : Nat) (Q : AV → Prop) : Prop := match Nat.ble 1 c && Nat.ble c xs.length, xs[xs.length - c]? with
  | true, some v => Q v
  | _, _ => False
noncomputable def negW (o : AV) (c : Nat) (as : List AO) (Q : AV → Prop) : Prop := c < 2 ^ 62 ∧ (match o with
  | .obj i => (match as[i]? with
    | some (.tuple xs) => negG xs c Q
    | some ob => (match listA ob with | some xs => negG xs c Q | none => False)
    | none => False)
  | _ => False)
theorem negG_ok {xs : List AV} {c : Nat} {Q : AV → Prop} (h : negG xs c Q) : 1 ≤ c ∧ c ≤ xs.length ∧ ∃ v, xs[xs.length - c]? = some v ∧ Q v := by
  unfold negG at h
  split at h
  · rename_i v hb hv
    simp only [Bool.and_eq_true] at hb
    exact ⟨Nat.le_of_ble_eq_true hb.1, Nat.le_of_ble_eq_true hb.2, v, hv, h⟩
  · cases h
theorem ev_subN {v : Expr} {p1 p2 pos : Pos} {k0 : Nat} {c : Nat} {Q : PV} (h : EvS X dp f v as fun o as₁ => negW o c as₁ fun r => Q r as₁) : EvS X dp f (.Subscript v (.UnaryOp .USub (.Constant (.int (c : Int)) k0 p1) p2) pos) as Q := by
  intro A θ s L env post E R F S cc
  refine Subscript_ (h A θ s L env _ E R F S fun o as₁ θ₁ s₁ ov q S₁ X₁ V₁ => ?_)
  refine ev_neg (Q := fun a as₂ => a = .int (-(c : Int)) ∧ as₂ = as₁) (ev_int ⟨_, rfl, rfl, rfl⟩) A θ₁ s₁ L env _ E R (F.ext X₁) S₁ fun k as₂ θ₂ s₂ kv q₂ S₂ X₂ V₂ => ?_
  obtain ⟨rfl, rfl⟩ := q₂
  have q : negW o c as₂ (fun r => Q r as₂) := q
  unfold negW at q
  obtain ⟨hc, q⟩ := q
  split at q
  · rename_i i' _
    obtain ⟨a, ha, rfl⟩ := V₁.mono X₂.pre
    obtain ⟨t, rfl⟩ := V₂
    split at q
    · rename_i xs hx
      refine El_aaea (negG_ok q) fun c1 c2 w hw q => ?_
      refine El_eaeea (S₂.ar.objs i' _ a hx ha) fun ob h1 vs n hr4 r => ?_; obtain rfl := hr4
      obtain ⟨u, hu, ru⟩ := r.get hw
      have hz : vs.size = xs.length := by rw [← Array.length_toList]; exact r.len
      have ht : IsTup s₂.heap a vs := ⟨_, h1, rfl, n, rfl⟩
      refine tail_any ht.typeIs slot_tuple_getitem.lookup (getItem_tuple ht (by lia) (by lia) (j := xs.length - c) ?_ (by rw [← Array.getElem?_toList]; exact hu) (cc _ _ _ _ _ q S₂ (X₁.trans X₂) ru)) (sub_eq rfl _ _)
      unfold seqIndex?
      simp only [show (-(c : Int)) < 0 by lia, if_true]
      rw [hz, if_pos (by simp; lia)]
      simp; lia
    · rename_i ob _ hob
      split at q
      · rename_i xs hxs
        refine El_aaea (negG_ok q) fun c1 c2 w hw q => ?_
        obtain ⟨vs, il, r⟩ := listA_of S₂ hob ha hxs
        obtain ⟨u, hu, ru⟩ := r.get hw
        have hz : vs.size = xs.length := by rw [← Array.length_toList]; exact r.len
        refine tail_any il.typeIs slot_list_getitem.lookup (wpAny_getItem_list_neg il (by lia) (by lia) (by lia) ?_ (cc _ _ _ _ _ q S₂ (X₁.trans X₂) ru)) (sub_eq rfl _ _)
        rw [← Array.getElem?_toList, show (-(c : Int) + vs.size).toNat = xs.length - c by lia]
        exact hu
      · cases q
    · cases q
  · cases q
theorem LoopAt.storesB {θ₀ : List Addr} {h₀ : Heap} {fs : List Addr} {J : Heap → Prop} {I I' : Loc → List AO → Prop} {ns : List Str} {ps : List Pos} {vs : List AV} {us : List Value} {A : Around} {E : Value → Shared → Prop} (h : LoopAt X f L env θ₀ h₀ fs J I s) (hf : ∀ b ∈ fs, b ≠ L ∧ h₀.get? b = none)
    (hJ : ∀ h h', J h → (∀ b ∈ fs, ∀ o, h.get? b = some o → h'.get? b = some o) → J h') (hp : ps.length = ns.length)
    (hI : ∀ loc as θ, I loc as → X.S θ as s → θ₀ <+: θ → VRs θ vs us ∧ storesW { f with loc := loc } ns vs as fun loc' as' => I' loc' as') : wpAny X.M A (assignInOrder ((ns.zip ps).map fun x => assign (.Name x.1 x.2) env) us) (fun _ s₃ => LoopAt X f L env θ₀ h₀ fs J I' s₃) E s := by
  refine El_eeeaaaaa h.ex fun θ as loc q1 q2 q3 q4 q5 q6 => ?_
  have z := hI loc as θ q1 q2 q4.pre
  refine stores_ok ns ps vs us _ as s hp z.2 q3 q2 z.1 fun loc' as' s' p1 p2 p3 p4 => ?_
  exact ⟨θ, as', loc', p1, p2, p4, q4.thru q3.there p3, hJ _ _ q5 fun b hb o ho => p3.keep _ _ ho (q6 b hb).nin (q6 b hb).nhid (hf b hb).1, fun b hb => (q6 b hb).extL p3 (hf b hb).1⟩
theorem st_forEA {xi xv en : Str} {pi pv pt pe pc pos : Pos} {tk0 : Nat} {arg : Expr} {body : List Stmt} {Q : PF} (he : isKind .globalImplicit f.sc en = true) (G : GlobV X en (.type "enumerate")) (hs : noStar [arg] = true)
    (h : EvS X dp f arg as fun o as₁ => ∃ i, ∃ xs : List AV, o = .obj i ∧ ∃ Inv Bd : Nat → Loc → List AO → Prop, Inv 0 f.loc as₁ ∧
      (∀ (k : Nat) loc as₂, Inv k loc as₂ → ∃ ob, as₂[i]? = some ob ∧ listA ob = some xs) ∧
      (∀ (k : Nat) loc as₂ y, xs[k]? = some y → Inv k loc as₂ → storesW { f with loc := loc } [xi, xv] [.int k, y] as₂ fun loc' as' => Bd k loc' as') ∧
      (∀ (k : Nat) loc as₂, Bd k loc as₂ → ExsS X dp { f with loc := loc } body as₂ fun fl loc' as' => match fl with | .next | .cont => Inv (k + 1) loc' as' | .brk => Q .next loc' as' | .ret v => Q (.ret v) loc' as') ∧
      (∀ loc as₂, Inv xs.length loc as₂ → Q .next loc as₂)) : ExS X dp f (.For (.Tuple [.Name xi pi, .Name xv pv] tk0 pt) (.Call (.Name en pe) [arg] [] pc) body [] pos) as Q := by
  intro A θ s L env post E R F S c
  refine wpAny_For ?_
  refine wpAny_Call_Name_kw (ev_glob (av := .ty "enumerate") (Q := fun av as₁ => av = .ty "enumerate" ∧ as₁ = as) he G rfl ⟨rfl, rfl⟩ A θ s L env _ E R F S fun av as₁ θ₁ s₁ v q S₁ X₁ V₁ => ?_)
  obtain ⟨rfl, rfl⟩ := q
  cases V₁
  rw [back_eq pc env [arg] hs]
  refine PyProof.Rows.callWith_type (by rw [plain_any _ (fun _ => rfl)]) (args_ok ?_)
  refine (evs_cons (Q := fun vs as₂ => ∃ o, vs = [o] ∧ ∃ i, ∃ xs : List AV, o = .obj i ∧ ∃ Inv Bd : Nat → Loc → List AO → Prop, Inv 0 f.loc as₂ ∧
      (∀ (k : Nat) loc as₂, Inv k loc as₂ → ∃ ob, as₂[i]? = some ob ∧ listA ob = some xs) ∧
      (∀ (k : Nat) loc as₂ y, xs[k]? = some y → Inv k loc as₂ → storesW { f with loc := loc } [xi, xv] [.int k, y] as₂ fun loc' as' => Bd k loc' as') ∧
      (∀ (k : Nat) loc as₂, Bd k loc as₂ → ExsS X dp { f with loc := loc } body as₂ fun fl loc' as' => match fl with | .next | .cont => Inv (k + 1) loc' as' | .brk => Q .next loc' as' | .ret v => Q (.ret v) loc' as') ∧
      (∀ loc as₂, Inv xs.length loc as₂ → Q .next loc as₂)) (h.mono fun o as₂ q => evs_nil ⟨o, rfl, q⟩)) A θ₁ s₁ L env _ E R (F.ext X₁) S₁ fun vs as₂ θ₂ s₂ us q S₂ X₂ V₂ => ?_
  refine El_eaeeaeeaaaa q fun o hr1 i xs hr4 Inv Bd h0 hls hst hrun hend => ?_; obtain rfl := hr1; obtain rfl := hr4; try clear q
  obtain ⟨l, hl, rfl⟩ : ∃ l, θ₂[i]? = some l ∧ us = [.ref l] := by
    cases V₂ with
    | cons a r => cases r with | nil => refine El_ea a fun l hl hr2 => ?_; obtain rfl := hr2; try clear a; exact ⟨l, hl, rfl⟩
  refine El_ea (hls 0 _ _ h0) fun ob hob hxs => ?_
  refine El_ea (listA_of S₂ hob hl hxs) fun vs il _ => ?_
  refine call_enumerate_list il fun h' E0 J0 hz hk => ?_
  have F₂ := F.ext (X₁.trans X₂)
  have S₃ : X.S θ₂ as₂ { s₂ with heap := h' } := S₂.keeps (k := s₂.toks) hk
  have X₃ : Ext X.H θ₂ s₂.heap θ₂ h' := ⟨List.prefix_refl _, fun _ a b => absurd a b, fun b o q _ _ => hk b o q, fun b o q => ⟨o, hk b o q⟩, S₂.tabKeep hk⟩
  have Fe := Free.new S₂ (b := s₂.heap.objs.size + 1) (Nat.le_succ _) hk ⟨_, E0⟩
  have Fi := Free.new S₂ (b := s₂.heap.objs.size) (Nat.le_refl _) hk (let ⟨o, x, _⟩ := J0; ⟨o, x⟩)
  have ne := none_ge (h := s₂.heap) (c := s₂.heap.objs.size + 1) (Nat.le_succ _)
  have ni := size_none s₂.heap
  have nei : s₂.heap.objs.size + 1 ≠ s₂.heap.objs.size := by lia
  refine wpAny_pyIter_enum (s := { s₂ with heap := h' }) E0 ?_
  revert E0 J0 Fe Fi ne ni nei
  generalize s₂.heap.objs.size + 1 = e
  generalize s₂.heap.objs.size = it
  intro E0 J0 Fe Fi ne ni nei
  have hf : ∀ b' ∈ [e, it], b' ≠ L ∧ s₂.heap.get? b' = none := by
    obtain ⟨o, ho⟩ := F₂.there
    exact two_mem ⟨fun q => (by rw [q, ho] at ne; cases ne), ne⟩ ⟨fun q => (by rw [q, ho] at ni; cases ni), ni⟩
  have nl : l ≠ e ∧ l ≠ it := by
    obtain ⟨o, ho⟩ := S₂.at hl
    exact ⟨fun q => (by rw [q, ne] at ho; cases ho), fun q => (by rw [q, ni] at ho; cases ho)⟩
  have J1 : ∀ (k : Nat) (h h' : Heap), (∃ old, IsEnum h e it (k : Int) old) ∧ h.IsListIter it l k → (∀ b' ∈ [e, it], ∀ o, h.get? b' = some o → h'.get? b' = some o) → (∃ old, IsEnum h' e it (k : Int) old) ∧ h'.IsListIter it l k :=
    fun k h h' ⟨⟨old, x⟩, o, z, r⟩ y => ⟨⟨old, y _ (.head _) _ x⟩, o, y _ (.tail _ (.head _)) _ z, r⟩
  refine for_core (dp := dp) (f := f) (L := L) (θ₀ := θ₂) (h₀ := s₂.heap) (fs := [e, it]) (N := xs.length) (J := fun k h => (∃ old, IsEnum h e it (k : Int) old) ∧ h.IsListIter it l k) (Inv := Inv) (Bd := Bd) (Q := Q) R hf F₂.there F₂.nin J1 ?_ ?_ hrun
    (fun fl loc' as' θ' s' g p1 p2 p3 p4 p5 => c fl loc' as' θ' s' g p1 p2 ((X₁.trans X₂).toL.trans F.there F.nin F₂.there p3) p4 p5) ?_
  · intro k s₆ E' hk' hI
    refine El_eeeaaaaa (id hI.ex) fun θ' as' loc q1 q2 q3 q4 hc7 q6 => ?_; obtain ⟨⟨old, q5⟩, q5'⟩ := hc7
    refine El_ea (hls k _ _ q1) fun ob hob hxs => ?_
    refine El_ea (listA_of q2 hob (get_pre q4.pre hl) hxs) fun vs' il' r' => ?_
    have hav : xs[k]? = some xs[k] := List.getElem?_eq_getElem hk'
    refine El_ea (r'.get hav) fun v hv rv => ?_
    refine wpAny_pyNext_enum_item q5 q5' il' (by rw [← Array.getElem?_toList]; exact hv) nei fun h₁ e1 e2 e3 e4 e5 => ⟨_, rfl, ?_⟩
    refine wpAny_letOwnedTupleGo_enum (s := { s₆ with heap := h₁, toks := s₆.toks + 1 }) e1 fun h₂ e6 e7 => ?_
    have e7 : Heap.SameBut e h₁ h₂ := e7
    have g1 : e < s₆.heap.objs.size := Heap.lt_size q5
    have hkeep : ∀ a' o, a' ∉ [e, it] → s₆.heap.get? a' = some o → h₂.get? a' = some o := fun a' o m z => by
      have m1 : a' ≠ e := fun q => m (q ▸ .head _)
      have m2 : a' ≠ it := fun q => m (q ▸ .tail _ (.head _))
      exact (e7.2 a' m1).trans (e5 a' o m1 m2 z)
    have eI : IsEnum h₂ e it ((k + 1 : Nat) : Int) v := by
      have : ((k + 1 : Nat) : Int) = (k : Int) + 1 := by lia
      rw [this]; exact e6
    have eL : h₂.IsListIter it l (k + 1) := by
      obtain ⟨o, z, r⟩ := e2
      exact ⟨o, (e7.2 it (Ne.symm nei)).trans z, r⟩
    have eT : h₂.IsTuple s₆.heap.objs.size #[.int (k : Int) s₆.toks, v] := ⟨_, (e7.2 _ (Nat.ne_of_gt g1)).trans e3, rfl, _, rfl⟩
    have hI' := hI.free (k := s₆.toks + 1) (h' := h₂) (J' := fun h => (∃ old, IsEnum h e it ((k + 1 : Nat) : Int) old) ∧ h.IsListIter it l (k + 1)) hf (fun _ m => m) hkeep (two_mem ⟨_, eI⟩ (let ⟨o, z, _⟩ := eL; ⟨o, z⟩)) ⟨⟨_, eI⟩, eL⟩
    refine wpAny_assign_Tuple (s := { s₆ with heap := h₂, toks := s₆.toks + 1 }) R.2.2 eT rfl rfl fun h₃ hx₃ => ?_
    have hI'' := hI'.keep (k := s₆.toks + 1) (J1 (k + 1)) (h' := h₃) fun a' o z => hx₃ a' o (Nat.ne_of_lt (Heap.lt_size z)) z
    refine hI''.storesB (ns := [xi, xv]) (ps := [pi, pv]) (vs := [.int k, xs[k]]) (us := [.int (k : Int) s₆.toks, v]) hf (J1 (k + 1)) rfl fun loc₂ as₂ θ₂' q S' pre => ⟨?_, hst k loc₂ as₂ _ hav q⟩
    refine El_ea (hls k _ _ q) fun ob hob hxs => ?_
    have pl₂ : θ₂'[i]? = some l := get_pre pre hl
    refine El_ea (listA_of S' hob pl₂ hxs) fun vs'' hc1 r'' => ?_; obtain ⟨o2, e2, _, n2, d2⟩ := hc1
    refine El_ea (r''.get hav) fun v' hv' rv' => ?_
    refine El_eaae il' fun o1 e1' _ n1 d1 => ?_; try clear il'
    have e2 : h₃.get? l = some o2 := e2
    have zk := hkeep l o1 (by simpa using nl) e1'
    have z := hx₃ l o1 (Nat.ne_of_lt (Heap.lt_size zk)) zk
    rw [z] at e2
    cases e2
    rw [d1] at d2; cases d2
    rw [hv] at hv'; cases hv'
    exact .cons ⟨_, rfl⟩ (.cons rv' .nil)
  · intro s₆ E' hI
    refine El_eeeaaaaa (id hI.ex) fun θ' as' loc q1 q2 q3 q4 hc7 q6 => ?_; obtain ⟨⟨old, q5⟩, q5'⟩ := hc7
    refine El_ea (hls _ _ _ q1) fun ob hob hxs => ?_
    refine El_ea (listA_of q2 hob (get_pre q4.pre hl) hxs) fun vs' il' r' => ?_
    refine wpAny_pyNext_enum_end R.2.2 q5 q5' il' (by rw [← Array.getElem?_toList, List.getElem?_eq_none_iff, r'.len]; exact Nat.le_refl _) fun h' hx => ⟨rfl, ?_⟩
    have hI' := hI.free (k := s₆.toks) (fs' := []) (J' := fun _ => True) hf (fun _ m => by cases m) (fun a' o m z => hx a' o (fun q => m (q ▸ .tail _ (.head _))) z) (fun _ m => by cases m) trivial
    refine El_eeeaaaaa hI'.ex fun θ' as' loc q1 q2 q3 q4 q5 q6 => ?_
    exact ⟨θ', as', loc, hend loc as' q1, q2, q3, q4, q5, q6⟩
  · exact ⟨θ₂, as₂, f.loc, h0, S₃, F₂.ext X₃, X₃.toL, ⟨⟨_, E0⟩, J0⟩, two_mem Fe Fi⟩
end
end Mine

end
section
open PySem PySem.W PyProof.Rows PySem.SeqAt
namespace Mine
section
variable {X : Cx} {dp : Nat} {f : Fm} {as as' : List AO} {θ θ' : List Addr} {s s' : Shared} {L b : Addr} {env : Env}
theorem comp_use {n : Nat} {ys : List AV} {C dd : Addr} {y : Str} {py : Pos} {Q : PF} {A : Around} {post : Flow → Shared → Prop} {E : Value → Shared → Prop} (O : CompOut X θ s n as' ys C dd s') (F : FrR X f L env θ s.heap)
    (hQ : storeW f y (.obj n) (as'.set n (mkL ys)) (Q .next))
    (c : ∀ fl loc' as' θ' s' g, Q fl loc' as' → X.S θ' as' s' → ExtL X.H L θ s.heap θ' s'.heap → FrR X { f with loc := loc' } L env θ' s'.heap → FlR θ' fl g → post g s') :
    compPost X.M A E (some (assign (.Name y py) env)) (fun _ s'' => post .next s'') (.ref dd) C (.ok .next) s' := by
  obtain ⟨θ', a⟩ := O.at
  have P := a.out s'.heap (Heap.SameBut.refl _ _)
  have F' := F.ext P.2
  show wpAny X.M A (assign (.Name y py) env (.ref dd)) _ E s'
  refine wpAny_assign_Name (store_ok hQ F' P.1 ⟨dd, a.hd, rfl⟩ fun loc' as₂ s₄ q' S' X' F'' => ?_)
  obtain ⟨m, ⟨o, es, ep, ho, hdd, hk, hf⟩⟩ := a.ns
  have nL : C ≠ L := fun z => by obtain ⟨o, ho⟩ := F.there; rw [← z, a.none] at ho; cases ho
  have ho4 : s₄.heap.get? C = some o := X'.keep C o ho a.fr.nin a.fr.nhid nL
  refine ⟨m, ⟨o, es, ep, ho4, hdd, hk, hf⟩, fun h'' hs'' => ?_⟩
  have FrC4 : Free X θ' s₄.heap C := a.fr.extL (s := s') X' nL
  have hz : ∀ a o, a ∉ [C] → s₄.heap.get? a = some o → h''.get? a = some o := fun a o m e => (hs''.2 a (by simpa using m)).trans e
  exact c .next loc' as₂ θ' _ .next q' (S'.free (fs := [C]) (one_mem FrC4) (h' := h'') (k := s₄.toks) hz) ((P.2.toL.thru F'.there X').free (fs := [C]) (one_mem a.none) hz (S'.tabSame (one_mem FrC4) hz)) (F''.free (fs := [C]) (by simpa using Ne.symm nL) hz) rfl
noncomputable def noLoc (y : Str) : List (Str × NameKind) → Bool
  | [] => true
  | (n, k) :: r => !(seq n y && (k == .local || k == .cell)) && noLoc y r
theorem noLoc_ok {y : Str} : ∀ {l : List (Str × NameKind)}, noLoc y l = true → (l.any fun (n, k) => n == y && (k == .local || k == .cell)) = false
  | [], _ => rfl
  | (n, k) :: r, h => by
    unfold noLoc at h
    have h := Bool.and_eq_true_iff.mp h
    rw [List.any_cons, noLoc_ok h.2, Bool.or_false]
    have h1 := h.1
    rw [Bool.not_eq_true'] at h1
    rw [← h1]
    have e : (n == y) = seq n y := by
      cases q : seq n y with
      | true => exact beq_iff_eq.mpr (seq_iff.mp q)
      | false => exact Bool.eq_false_iff.mpr fun z => by rw [seq_iff.mpr (beq_iff_eq.mp z)] at q; cases q
    show (n == y && _) = _
    rw [e]
theorem st_cmp {elt tg iter : Expr} {ifs : List Expr} {scope : Scope} {pos spos py : Pos} {y : Str} {Q : PF} (hy : isKind .local f.sc y = true) (hl : Nat.beq py.line pos.line = true) (hn : noLoc y scope.names = true)
    (h : CmpS X dp f elt tg iter ifs scope pos as fun v as₁ => storeW f y v as₁ (Q .next)) : ExS X dp f (.Assign [.Name y py] (.ListComp elt [⟨tg, iter, ifs, 0⟩] scope pos) spos) as Q := by
  intro A θ s L env post E R F S c
  obtain ⟨cs, hclo, hr⟩ := h.run A θ s L env E R F S
  have hsw : swapsWith (.ListComp elt [⟨tg, iter, ifs, 0⟩] scope pos) (some (.Name y py)) spos.line env = pure true := by
    show (pure (env.blockKind == .function && env.kindOf y == some .local && py.line == pos.line && !(scope.names.any fun (n, k) => n == y && (k == .local || k == .cell))) : Sem Bool) = pure true
    rw [noLoc_ok hn, F.kindOf hy, Nat.eq_of_beq_eq_true hl]
    have : env.blockKind = .function := by
      unfold Env.blockKind
      rw [F.scope, F.kind]; rfl
    rw [this]
    simp
  rw [exec_Assign_Name_used _ _ _ _ hsw]
  refine wpAny_bind (wpAny_standAt (wpAny_bind ?_))
  show wpAny X.M A (do let _ ← comprehension (.ListComp elt [⟨tg, iter, ifs, 0⟩] scope pos) scope env _ (newList []) false (eval iter env) (some (assign (.Name y py) env))) _ _ s
  exact wpAny_bind (wpAny_mono (wpAny_comprehension_free (use := some (assign (.Name y py) env)) (Q := fun _ s' => post .next s') (g := ⟨tg, iter, ifs, 0⟩) (gs := []) rfl (fun x => h.fold env x) (closure_eq hclo) h.kind h.names
    (hr _ fun as' ys n C dd s' hQ O => comp_use O F hQ c)) (fun _ s' hq => wpAny_pure (wpAny_pure hq)) fun _ _ e => e)
end
end Mine

end
section
open PySem PySem.W PyProof.Rows PySem.SeqAt
namespace Mine
structure Ken where
  D : Cls
  P : Prims
  gv : Str → Option AV
  made : Option (Addr × Addr × FD × Str × Str)
noncomputable def binA (op : Operator) (i j : Int) (as : List AO) (Q : PV) : Prop := match op with
  | .Pow => (0 ≤ j ∧ (Builtin.Int.intBits i : Int) * j ≤ 2 ^ 27) ∧ Q (.int (i ^ j.toNat)) as
  | op => binW op i j fun k => Q (.int k) as
noncomputable def addV (op : Operator) (i j : Nat) (as : List AO) (Q : PV) : Prop := match op with
  | .Add => (match as[i]? with
    | some oa => (match as[j]? with
      | some ob => (match addA oa ob with | some rr => lenA oa + lenA ob ≤ 100000 ∧ Q (.obj as.length) (as ++ [rr]) | none => False)
      | none => False)
    | none => False)
  | _ => False
noncomputable def mulV (op : Operator) (i : Nat) (k : Int) (as : List AO) (Q : PV) : Prop := match op with
  | .Mult => (match as[i]? with
    | some (.intx xs) => (0 < xs.length ∧ 0 ≤ k ∧ k < 2 ^ 62 ∧ xs.length * k.toNat ≤ 100000) ∧ Q (.obj as.length) (as ++ [.intx (repL xs k.toNat)])
    | _ => False)
  | _ => False
noncomputable def binV (op : Operator) (a b : AV) (as : List AO) (Q : PV) : Prop := match a with
  | .int i => (match b with | .int j => binA op i j as Q | _ => False)
  | .obj i => (match b with | .obj j => addV op i j as Q | .int k => mulV op i k as Q | _ => False)
  | _ => False
noncomputable def nameG (N : Ken) (f : Fm) (x : Str) (as : List AO) (Q : PV) : Prop := match isKind .globalImplicit f.sc x with
  | true => (match N.gv x with | some v => Q v as | none => False)
  | false => nameW f x as Q
noncomputable def rngW (vs : List AV) (Q : Int → Int → Prop) : Prop := match vs with
  | [.int b] => Q 0 b
  | [.int a, .int b] => Q a b
  | _ => False
noncomputable def loopW (B : Nat → Loc → List AO → PF → Prop) : Nat → Nat → Loc → List AO → PF → Prop
  | 0, _, loc, as, Q => Q .next loc as
  | c + 1, k, loc, as, Q => B k loc as fun fl loc' as' => match fl with
    | .next => loopW B c (k + 1) loc' as' Q
    | .cont => loopW B c (k + 1) loc' as' Q
    | .brk => Q .next loc' as'
    | .ret v => Q (.ret v) loc' as'
noncomputable def compW (d : Nat) (B : Nat → Loc → List AO → (Loc → AV → List AO → Prop) → Prop) : Nat → Nat → Loc → List AO → PV → Prop
  | 0, _, loc, as, Q => (match as[d]? with | some (.list ys) => Q (.obj d) (as.set d (mkL ys)) | _ => False)
  | c + 1, k, loc, as, Q => B k loc as fun loc' y as' => (match as'[d]? with | some (.list ys) => (match Nat.ble ys.length k with | true => compW d B c (k + 1) loc' (as'.set d (.list (ys ++ [y]))) Q | false => False) | _ => False)
noncomputable def compOk (scope : Scope) : Bool := notDbg scope.names && (scope.kind == .function) && scope.names.all fun y => (match y.2 with
  | .cell => false
  | .local => (match lk scope.names y.1 with | some .local => true | _ => false)
  | _ => true)
noncomputable def intsF (ob : AO) (K : List Int → Prop) : Prop := match ob with
  | .fix o => ∃ xs, FixI o xs ∧ K xs
  | ob => (match intsA ob with | some xs => K xs | none => False)
noncomputable def lenF (ob : AO) (K : Nat → Prop) : Prop := match ob with
  | .fix o => ∃ xs, FixI o xs ∧ K xs.length
  | ob => (match listA ob with | some _ => K (lenA ob) | none => False)
noncomputable def onL (o : AV) (as : List AO) (K : Nat → List AV → Prop) : Prop := match o with
  | .obj i => (match as[i]? with | some ob => (match listA ob with | some xs => K i xs | none => False) | none => False)
  | _ => False
noncomputable def accW (as : List AO) (d k : Nat) (K : List AV → Prop) : Prop := match as[d]? with
  | some (.list ys) => (match Nat.ble ys.length k with | true => K ys | false => False)
  | _ => False
noncomputable def flW (B : Expr → List AO → PB → Prop) : List Expr → List AO → PB → Prop
  | [], as, Q => Q true as
  | [c], as, Q => B c as Q
  | _, _, _ => False
noncomputable def compLW (i d : Nat) (xs : List AV) (B : AV → Nat → Loc → List AO → (Loc → List AO → Prop) → Prop) : List AV → Nat → Loc → List AO → PV → Prop
  | [], _, loc, as, Q => as[i]?.bind listA = some xs ∧ (match as[d]? with | some (.list ys) => Q (.obj d) (as.set d (mkL ys)) | _ => False)
  | x :: r, k, loc, as, Q => as[i]?.bind listA = some xs ∧ B x k loc as fun loc' as' => compLW i d xs B r (k + 1) loc' as' Q
noncomputable def loopE (i : Nat) (xs : List AV) (B : AV → Nat → Loc → List AO → PF → Prop) : List AV → Nat → Loc → List AO → PF → Prop
  | [], _, loc, as, Q => as[i]?.bind listA = some xs ∧ Q .next loc as
  | x :: r, k, loc, as, Q => as[i]?.bind listA = some xs ∧ B x k loc as fun fl loc' as' => match fl with
    | .next => loopE i xs B r (k + 1) loc' as' Q
    | .cont => loopE i xs B r (k + 1) loc' as' Q
    | .brk => Q .next loc' as'
    | .ret v => Q (.ret v) loc' as'
structure RecL where
  ev : Nat → Fm → Expr → List AO → PV → Prop
  evs : Nat → Fm → List Expr → List AO → PVs → Prop
  pt : Nat → Fm → Option Expr → List AO → (Option Int → List AO → Prop) → Prop
  ts : Nat → Fm → Expr → List AO → PB → Prop
  an : Nat → Fm → List Expr → List AO → PB → Prop
structure RecX where
  ex : Nat → Fm → Stmt → List AO → PF → Prop
  exs : Nat → Fm → List Stmt → List AO → PF → Prop
noncomputable def attrLW (N : Ken) (f : Fm) (o : Expr) (a : Str) (as : List AO) (Q : PV) : Prop := match o with
  | .Name x _ => nameG N f x as fun o as₁ => (match o with | .obj i => attrW N.D i a as₁ Q | _ => False)
  | _ => False
noncomputable def sliceLW (R : RecL) (dp : Nat) (f : Fm) (v : Expr) (lo hi : Option Expr) (as : List AO) (Q : PV) : Prop := R.ev dp f v as fun o as₁ => R.pt dp f lo as₁ fun x as₂ => R.pt dp f hi as₂ fun y as₃ => (match o with
  | .obj i => (match as₃[i]? with
    | some ob => intsF ob fun xs => xs.length ≤ 100000 ∧ sliceR xs x y fun ys => Q (.obj as₃.length) (as₃ ++ [.intx ys])
    | none => False)
  | _ => False)
noncomputable def negC : Expr → Option Nat
  | .Constant (.int (.ofNat c)) _ _ => some c
  | _ => none
noncomputable def negOf : Expr → Option Nat
  | .UnaryOp .USub x _ => negC x
  | _ => none
noncomputable def itemLW (N : Ken) (R : RecL) (dp : Nat) (f : Fm) (v i : Expr) (as : List AO) (Q : PV) : Prop := match negOf i with
  | some c => R.ev dp f v as fun o as₁ => negW o c as₁ fun r => Q r as₁
  | none => (match noSlice i with | true => R.ev dp f v as fun o as₁ => R.ev dp f i as₁ fun k as₂ => itemL N.D o k as₂ fun r => Q r as₂ | false => False)
noncomputable def sliceOf : Expr → Option (Option Expr × Option Expr × Option Expr)
  | .Slice lo hi st _ => some (lo, hi, st)
  | _ => none
noncomputable def subLW (N : Ken) (R : RecL) (dp : Nat) (f : Fm) (v i : Expr) (as : List AO) (Q : PV) : Prop := match sliceOf i with
  | some (lo, hi, none) => sliceLW R dp f v lo hi as Q
  | some _ => False
  | none => itemLW N R dp f v i as Q
noncomputable def unLW (R : RecL) (dp : Nat) (f : Fm) (op : UnaryOp) (x : Expr) (as : List AO) (Q : PV) : Prop := match op with
  | .USub => R.ev dp f x as fun a as₁ => (match a with | .int i => Q (.int (-i)) as₁ | _ => False)
  | _ => False
noncomputable def listLW (R : RecL) (dp : Nat) (f : Fm) (elts : List Expr) (mk : List AV → AO) (as : List AO) (Q : PV) : Prop := match noStar elts with
  | true => R.evs dp f elts as fun vs as₁ => (match Nat.ble vs.length 100000 with | true => Q (.obj as₁.length) (as₁ ++ [mk vs]) | false => False)
  | false => False
noncomputable def boolLW (R : RecL) (dp : Nat) (f : Fm) (op : BoolOp) (es : List Expr) (as : List AO) (Q : PV) : Prop := match op, es with
  | .And, [x, y] => R.ev dp f x as fun v as₁ => (match truA v with | some t => ifB t (R.ev dp f y as₁ Q) (Q v as₁) | none => False)
  | _, _ => False
noncomputable def cmpLW (R : RecL) (dp : Nat) (f : Fm) (l : Expr) (op : CmpOp) (r : Expr) (as : List AO) (Q : PB) : Prop := match behindInMarks op r with
  | false => R.ev dp f l as fun a as₁ => R.ev dp f r as₁ fun b as₂ => cmpV op a b as₂ fun v => Q v as₂
  | true => False
noncomputable def cmpELW (R : RecL) (dp : Nat) (f : Fm) (l : Expr) (ops : List CmpOp) (rs : List Expr) (as : List AO) (Q : PV) : Prop := match ops, rs with
  | [op], [r] => cmpLW R dp f l op r as fun v as₁ => Q (.bool v) as₁
  | _, _ => False
noncomputable def lenLW (R : RecL) (dp : Nat) (f : Fm) (arg : Expr) (as : List AO) (Q : PV) : Prop := R.ev dp f arg as fun o as₁ => (match o with
  | .obj i => (match as₁[i]? with
    | some ob => lenF ob fun n => n ≤ 1000000 ∧ Q (.int n) as₁
    | none => False)
  | _ => False)
noncomputable def sumLW (R : RecL) (dp : Nat) (f : Fm) (arg : Expr) (as : List AO) (Q : PV) : Prop := R.ev dp f arg as fun o as₁ => (match o with
  | .obj i => (match as₁[i]? with
    | some ob => intsF ob fun xs => Q (.int xs.sum) as₁
    | none => False)
  | _ => False)
noncomputable def bi1LW (N : Ken) (R : RecL) (dp : Nat) (f : Fm) (x : Str) (arg : Expr) (as : List AO) (Q : PV) : Prop := match noStar [arg], isKind .globalImplicit f.sc x, N.gv x with
  | true, true, some (.bi s) => (match s == "len" with
    | true => lenLW R dp f arg as Q
    | false => (match s == "sum" with
      | true => sumLW R dp f arg as Q
      | false => False))
  | _, _, _ => False
noncomputable def kw2 (kws : List Keyword) : Option ((Str × Expr × Pos) × (Str × Expr × Pos)) := match kws with
  | [a, b] => (match a with
    | ⟨k1, e1, p1⟩ => (match k1 with
      | some k1 => (match b with
        | ⟨k2, e2, p2⟩ => (match k2 with
          | some k2 => some ((k1, e1, p1), (k2, e2, p2))
          | none => none))
      | none => none))
  | _ => none
noncomputable def adrOf (v : Option AV) : Option Addr := match v with
  | some v => (match v with | .addr C => some C | _ => none)
  | none => none
noncomputable def makeLW (N : Ken) (n : Nat) (R : RecL) (dp : Nat) (f : Fm) (x : Str) (kws : List Keyword) (as : List AO) (Q : PV) : Prop := match isKind .globalImplicit f.sc x && Nat.ble 2 dp with
  | true => (match kw2 kws with
    | some ((k1, e1, _), (k2, e2, _)) => (match adrOf (N.gv x) with
      | some C => (match N.made with
        | some (C', fI, d, n1, n2) => (match Nat.beq C C' && seq k1 n1 && seq k2 n2 with
          | true => R.ev dp f e1 as fun v1 as₁ => R.ev dp f e2 as₁ fun v2 as₂ => exsW N.D N.P n (dp - 2) ⟨d.scope, (d.names.zip [.obj (as₂.length + 1), v1, v2]).reverse, [], d.code, d.qual⟩ d.body (as₂ ++ [.dict []] ++ [.inst C as₂.length]) fun fl _ as' => (match fl with | .next => Q (.obj (as₂.length + 1)) as' | _ => False)
          | false => False)
        | none => False)
      | none => False)
    | none => False)
  | false => False
noncomputable def methLW (N : Ken) (n dp : Nat) (f : Fm) (o : Expr) (name : Str) (apos pos : Pos) (as : List AO) (Q : PV) : Prop := match o with
  | .Name x _ => (match Nat.beq apos.endLine pos.line with
    | true => nameG N f x as fun o as₁ => (match o with
      | .obj i => (match methA N.D i name as₁ with | some fa => clW N.D N.P n dp fa [.obj i] as₁ Q | none => False)
      | _ => False)
    | false => False)
  | _ => False
noncomputable def callLW (N : Ken) (n : Nat) (R : RecL) (dp : Nat) (f : Fm) (fn : Expr) (args : List Expr) (kws : List Keyword) (pos : Pos) (as : List AO) (Q : PV) : Prop := match fn with
  | .Name x _ => (match args with
    | [] => makeLW N n R dp f x kws as Q
    | [arg] => (match kws with | [] => bi1LW N R dp f x arg as Q | _ => False)
    | _ => False)
  | .Attribute o name apos => (match args, kws with
    | [], [] => methLW N n dp f o name apos pos as Q
    | _, _ => False)
  | _ => False
noncomputable def compRW (N : Ken) (R : RecL) (dp : Nat) (f : Fm) (elt : Expr) (x r : Str) (args : List Expr) (scope : Scope) (as : List AO) (Q : PV) : Prop := match isKind .globalImplicit f.sc r, N.gv r, noStar args, compOk scope, cloA f.cells scope.names [] with
  | true, some (.ty t), true, true, some cA => (match t == "range" with
    | true => R.evs dp f args as fun vs as₁ => rngW vs fun a b => ((Small a ∧ Small b) ∧ b - a ≤ 100000) ∧
      compW as₁.length (fun k loc as₂ K => storeW (compFm f scope cA loc) x (.int (a + k)) as₂ fun loc' as₃ => R.ev dp (compFm f scope cA loc') elt as₃ fun y as₄ => K loc' y as₄) (b - a).toNat 0 [] (as₁ ++ [.list []]) Q
    | false => False)
  | _, _, _, _, _ => False
noncomputable def cmpB (R : RecL) (dp : Nat) (f : Fm) (scope : Scope) (cA : List (Str × Nat)) (tg elt : Expr) (ifs : List Expr) (d : Nat) (x : AV) (k : Nat) (loc : Loc) (as₂ : List AO) (K : Loc → List AO → Prop) : Prop :=
  bindW (compFm f scope cA loc) tg x as₂ fun loc' as₃ => flW (fun c as₄ P => R.ts dp (compFm f scope cA loc') c as₄ P) ifs as₃ fun b as₄ =>
    ifB b (R.ev dp (compFm f scope cA loc') elt as₄ fun y as₅ => accW as₅ d k fun ys => K loc' (as₅.set d (.list (ys ++ [y])))) (accW as₄ d k fun _ => K loc' as₄)
noncomputable def compLLW (N : Ken) (R : RecL) (dp : Nat) (f : Fm) (elt tg : Expr) (y : Str) (ifs : List Expr) (scope : Scope) (as : List AO) (Q : PV) : Prop := match compOk scope, cloA f.cells scope.names [] with
  | true, some cA => nameG N f y as fun o as₁ => onL o as₁ fun i xs => (match Nat.ble xs.length 100000 with
    | true => compLW i as₁.length xs (cmpB R dp f scope cA tg elt ifs as₁.length) xs 0 [] (as₁ ++ [.list []]) Q
    | false => False)
  | _, _ => False
noncomputable def rngOf : Expr → Option (Str × Pos × List Expr × Pos)
  | .Call (.Name r p) args [] pc => some (r, p, args, pc)
  | _ => none
noncomputable def nmOf : Expr → Option (Str × Pos)
  | .Name x p => some (x, p)
  | _ => none
noncomputable def comp1LW (N : Ken) (R : RecL) (dp : Nat) (f : Fm) (elt tg iter : Expr) (ifs : List Expr) (scope : Scope) (as : List AO) (Q : PV) : Prop := match rngOf iter with
  | some (r, _, args, _) => (match nmOf tg, ifs with
    | some (x, _), [] => compRW N R dp f elt x r args scope as Q
    | _, _ => False)
  | none => (match nmOf iter with
    | some (y, _) => compLLW N R dp f elt tg y ifs scope as Q
    | none => False)
noncomputable def compELW (N : Ken) (R : RecL) (dp : Nat) (f : Fm) (elt : Expr) (gens : List Comprehension) (scope : Scope) (as : List AO) (Q : PV) : Prop := match gens with
  | [⟨tg, iter, ifs, 0⟩] => comp1LW N R dp f elt tg iter ifs scope as Q
  | _ => False
noncomputable def lvF (N : Ken) (n : Nat) (R : RecL) (dp : Nat) (f : Fm) (e : Expr) (as : List AO) (Q : PV) : Prop := match e with
  | .Constant c _ _ => constW c as Q
  | .Name x _ => nameG N f x as Q
  | .Attribute o a _ => attrLW N f o a as Q
  | .BinOp l op r _ => R.ev dp f l as fun a as₁ => R.ev dp f r as₁ fun b as₂ => binV op a b as₂ Q
  | .UnaryOp op x _ => unLW R dp f op x as Q
  | .Subscript v i _ => subLW N R dp f v i as Q
  | .List elts _ => listLW R dp f elts mkL as Q
  | .Tuple elts _ _ => listLW R dp f elts .tuple as Q
  | .IfExp t a b _ => R.ts dp f t as fun c as₁ => ifB c (R.ev dp f a as₁ Q) (R.ev dp f b as₁ Q)
  | .BoolOp op es _ => boolLW R dp f op es as Q
  | .Compare l ops rs _ => cmpELW R dp f l ops rs as Q
  | .Call fn args kws pos => callLW N n R dp f fn args kws pos as Q
  | .ListComp elt gens scope _ => compELW N R dp f elt gens scope as Q
  | _ => False
noncomputable def lvsF (R : RecL) (dp : Nat) (f : Fm) (es : List Expr) (as : List AO) (Q : PVs) : Prop := match es with
  | [] => Q [] as
  | e :: r => R.ev dp f e as fun a as₁ => R.evs dp f r as₁ fun l as₂ => Q (a :: l) as₂
noncomputable def lpF (R : RecL) (dp : Nat) (f : Fm) (e : Option Expr) (as : List AO) (Q : Option Int → List AO → Prop) : Prop := match e with
  | none => Q none as
  | some e => R.ev dp f e as fun v as₁ => (match v with | .int i => Q (some i) as₁ | _ => False)
noncomputable def plainLW (R : RecL) (dp : Nat) (f : Fm) (e : Expr) (as : List AO) (Q : PB) : Prop := match plainTest e with
  | true => R.ev dp f e as fun a as₁ => (match truA a with | some v => Q v as₁ | none => False)
  | false => False
noncomputable def andOf : Expr → Option (List Expr × Pos)
  | .BoolOp .And es p => some (es, p)
  | _ => none
noncomputable def ltF (R : RecL) (dp : Nat) (f : Fm) (e : Expr) (as : List AO) (Q : PB) : Prop := match cmpOf e with
  | some (l, op, r, _) => cmpLW R dp f l op r as Q
  | none => (match andOf e with
    | some (es, _) => R.an dp f es as Q
    | none => plainLW R dp f e as Q)
noncomputable def laF (R : RecL) (dp : Nat) (f : Fm) (es : List Expr) (as : List AO) (Q : PB) : Prop := match es with
  | [] => Q true as
  | e :: r => R.ts dp f e as fun b as₁ => ifB b (R.an dp f r as₁ Q) (Q false as₁)
noncomputable def recL (N : Ken) : Nat → RecL
  | 0 => ⟨fun _ _ _ _ _ => False, fun _ _ _ _ _ => False, fun _ _ _ _ _ => False, fun _ _ _ _ _ => False, fun _ _ _ _ _ => False⟩
  | n + 1 => ⟨lvF N n (recL N n), lvsF (recL N n), lpF (recL N n), ltF (recL N n), laF (recL N n)⟩
noncomputable abbrev lv (N : Ken) (n : Nat) := (recL N n).ev
noncomputable abbrev lvs (N : Ken) (n : Nat) := (recL N n).evs
noncomputable abbrev lp (N : Ken) (n : Nat) := (recL N n).pt
noncomputable abbrev lt (N : Ken) (n : Nat) := (recL N n).ts
noncomputable abbrev la (N : Ken) (n : Nat) := (recL N n).an
noncomputable def asgnCW (N : Ken) (R : RecL) (dp : Nat) (f : Fm) (x : Str) (p : Pos) (e : Expr) (as : List AO) (Q : PF) : Prop := match e with
  | .ListComp elt gens scope pos => (match isKind .local f.sc x && Nat.beq p.line pos.line && noLoc x scope.names with
    | true => compELW N R dp f elt gens scope as fun v as₁ => storeW f x v as₁ (Q .next)
    | false => False)
  | _ => False
noncomputable def asgnLW (N : Ken) (R : RecL) (dp : Nat) (f : Fm) (t e : Expr) (as : List AO) (Q : PF) : Prop := match t with
  | .Name x p => (match noComp e with | true => R.ev dp f e as fun v as₁ => storeW f x v as₁ (Q .next) | false => asgnCW N R dp f x p e as Q)
  | .Subscript o k _ => (match noComp e with
    | true => R.ev dp f e as fun v as₁ => R.ev dp f o as₁ fun ov as₂ => R.ev dp f k as₂ fun kv as₃ => putW ov kv v as₃ fun as₄ => Q .next f.loc as₄
    | false => False)
  | _ => False
noncomputable def augNLW (R : RecL) (dp : Nat) (f : Fm) (x : Str) (op : Operator) (e : Expr) (as : List AO) (Q : PF) : Prop := match isKind .local f.sc x, isMod op with
  | true, false => (match lk f.loc x with
    | some (.int i) => R.ev dp f e as fun b as₁ => (match b with | .int j => binW op i j fun k => storeW f x (.int k) as₁ (Q .next) | _ => False)
    | some (.obj i) => (match op with
      | .Add => R.ev dp f e as fun b as₁ => (match b with
        | .obj j => (match as₁[i]?, as₁[j]? with
          | some (.intx xs), some (.intx ys) => xs.length + ys.length ≤ 100000 ∧ storeW f x (.obj i) (as₁.set i (.intx (xs ++ ys))) (Q .next)
          | _, _ => False)
        | _ => False)
      | _ => False)
    | _ => False)
  | _, _ => False
noncomputable def augLW (N : Ken) (R : RecL) (dp : Nat) (f : Fm) (t : Expr) (op : Operator) (e : Expr) (as : List AO) (Q : PF) : Prop := match t with
  | .Name x _ => augNLW R dp f x op e as Q
  | _ => False
noncomputable def twoOf (es : List Expr) : Option ((Str × Pos) × (Str × Pos)) := match es with
  | [a, b] => (match nmOf a with
    | some u => (match nmOf b with
      | some v => some (u, v)
      | none => none)
    | none => none)
  | _ => none
noncomputable def pairOf (e : Expr) : Option ((Str × Pos) × (Str × Pos) × Nat × Pos) := match e with
  | .Tuple es k p => (match twoOf es with
    | some (u, v) => some (u, v, k, p)
    | none => none)
  | _ => none
noncomputable def forRLW (R : RecL) (T : RecX) (dp : Nat) (f : Fm) (x : Str) (args : List Expr) (body : List Stmt) (as : List AO) (Q : PF) : Prop := R.evs dp f args as fun vs as₁ => rngW vs fun a b => (Small a ∧ Small b) ∧
  loopW (fun k loc as₂ K => storeW { f with loc := loc } x (.int (a + k)) as₂ fun loc' as₃ => T.exs dp { f with loc := loc' } body as₃ K) (b - a).toNat 0 f.loc as₁ Q
noncomputable def forELW (R : RecL) (T : RecX) (dp : Nat) (f : Fm) (xi xv : Str) (arg : Expr) (body : List Stmt) (as : List AO) (Q : PF) : Prop := R.ev dp f arg as fun o as₁ => onL o as₁ fun i xs =>
  loopE i xs (fun x k loc as₂ K => storesW { f with loc := loc } [xi, xv] [.int k, x] as₂ fun loc' as₃ => T.exs dp { f with loc := loc' } body as₃ K) xs 0 f.loc as₁ Q
noncomputable def forCLW (N : Ken) (R : RecL) (T : RecX) (dp : Nat) (f : Fm) (tg : Expr) (r : Str) (args : List Expr) (body : List Stmt) (as : List AO) (Q : PF) : Prop := match isKind .globalImplicit f.sc r, N.gv r, noStar args with
  | true, some (.ty t), true => (match t == "range" with
    | true => (match nmOf tg with | some (x, _) => forRLW R T dp f x args body as Q | none => False)
    | false => (match t == "enumerate" with
      | true => (match args, pairOf tg with
        | [arg], some ((xi, _), (xv, _), _, _) => forELW R T dp f xi xv arg body as Q
        | _, _ => False)
      | false => False))
  | _, _, _ => False
noncomputable def forLW (N : Ken) (R : RecL) (T : RecX) (dp : Nat) (f : Fm) (tg iter : Expr) (body : List Stmt) (as : List AO) (Q : PF) : Prop := match rngOf iter with
  | some (r, _, args, _) => forCLW N R T dp f tg r args body as Q
  | none => False
noncomputable def lxF (N : Ken) (R : RecL) (T : RecX) (dp : Nat) (f : Fm) (st : Stmt) (as : List AO) (Q : PF) : Prop := match st with
  | .Pass _ => Q .next f.loc as
  | .Break _ => Q .brk f.loc as
  | .Continue _ => Q .cont f.loc as
  | .Expr e _ => (match noComp e with | true => R.ev dp f e as fun _ as₁ => Q .next f.loc as₁ | false => False)
  | .Return v _ => (match v with | some e => R.ev dp f e as fun v as₁ => Q (.ret v) f.loc as₁ | none => False)
  | .Assign ts e _ => (match ts with | [t] => asgnLW N R dp f t e as Q | _ => False)
  | .AugAssign t op e _ => augLW N R dp f t op e as Q
  | .If t b o _ => R.ts dp f t as fun c as₁ => ifB c (T.exs dp f b as₁ Q) (T.exs dp f o as₁ Q)
  | .For tg iter body els _ => (match els with | [] => forLW N R T dp f tg iter body as Q | _ => False)
  | _ => False
noncomputable def lxsF (T : RecX) (dp : Nat) (f : Fm) (ss : List Stmt) (as : List AO) (Q : PF) : Prop := match ss with
  | [] => Q .next f.loc as
  | st :: r => T.ex dp f st as fun fl loc as₁ => (match fl with | .next => T.exs dp { f with loc := loc } r as₁ Q | fl => Q fl loc as₁)
noncomputable def recX (N : Ken) : Nat → RecX
  | 0 => ⟨fun _ _ _ _ _ => False, fun _ _ _ _ _ => False⟩
  | n + 1 => ⟨lxF N (recL N n) (recX N n), lxsF (recX N n)⟩
noncomputable abbrev lx (N : Ken) (n : Nat) := (recX N n).ex
noncomputable abbrev lxs (N : Ken) (n : Nat) := (recX N n).exs
end Mine

end
section
open PySem PySem.W PyProof.Rows PySem.SeqAt
namespace Mine
structure KenOK (X : Cx) (N : Ken) : Prop where
  cls : ClassOK X N.D N.P
  gvs : ∀ x av, N.gv x = some av → ∃ v, GlobV X x v ∧ VR [] av v
  mades : ∀ C fI d n1 n2, N.made = some (C, fI, d, n1, n2) → MakeOK X C fI d n1 n2
section
variable {X : Cx} {N : Ken}
theorem storeW_mono {f : Fm} {x : Str} {v : AV} {as : List AO} {P P' : Loc → List AO → Prop} (h : storeW f x v as P) (k : ∀ a b, P a b → P' a b) : storeW f x v as P' := by
  unfold storeW at h ⊢
  split at h
  · exact k _ _ h
  · split at h
    · split at h
      · exact k _ _ h
      · cases h
    · cases h
theorem storesW_mono {P P' : Loc → List AO → Prop} : ∀ {ns : List Str} {f : Fm} {vs : List AV} {as : List AO}, storesW f ns vs as P → (∀ a b, P a b → P' a b) → storesW f ns vs as P'
  | [], _, [], _, h, k => k _ _ h
  | x :: xs, f, v :: vs, as, h, k => by
    unfold storesW at h ⊢
    exact storeW_mono h fun _ _ q => storesW_mono q k
  | [], _, _ :: _, _, h, _ => by unfold storesW at h; cases h
  | _ :: _, _, [], _, h, _ => by unfold storesW at h; cases h
theorem onL_ok {o : AV} {as : List AO} {K : Nat → List AV → Prop} (h : onL o as K) : ∃ i xs ob, o = .obj i ∧ as[i]? = some ob ∧ listA ob = some xs ∧ K i xs := by
  unfold onL at h
  split at h
  · split at h
    · rename_i ob hob
      split at h
      · rename_i xs hxs; exact ⟨_, xs, ob, rfl, hob, hxs, h⟩
      · cases h
    · cases h
  · cases h
theorem at_list {as : List AO} {i : Nat} {xs : List AV} (h : as[i]?.bind listA = some xs) : ∃ ob, as[i]? = some ob ∧ listA ob = some xs := by
  cases e : as[i]? with
  | none => rw [e] at h; cases h
  | some ob => rw [e] at h; exact ⟨ob, rfl, h⟩
theorem drop_at {xs : List AV} {k : Nat} {av : AV} (h : xs[k]? = some av) : xs.drop k = av :: xs.drop (k + 1) := by
  obtain ⟨hk, rfl⟩ := List.getElem?_eq_some_iff.mp h
  exact List.drop_eq_getElem_cons hk
theorem loopE_at {i : Nat} {xs : List AV} {B : AV → Nat → Loc → List AO → PF → Prop} {l : List AV} {k : Nat} {loc : Loc} {as : List AO} {Q : PF} (h : loopE i xs B l k loc as Q) : as[i]?.bind listA = some xs := by
  cases l with
  | nil => unfold loopE at h; exact h.1
  | cons x r => unfold loopE at h; exact h.1
theorem compLW_at {i d : Nat} {xs : List AV} {B : AV → Nat → Loc → List AO → (Loc → List AO → Prop) → Prop} {l : List AV} {k : Nat} {loc : Loc} {as : List AO} {Q : PV} (h : compLW i d xs B l k loc as Q) : as[i]?.bind listA = some xs := by
  cases l with
  | nil => unfold compLW at h; exact h.1
  | cons x r => unfold compLW at h; exact h.1
theorem nameG_ok (O : KenOK X N) {dp : Nat} {f : Fm} {as : List AO} {x : Str} {p : Pos} {Q : PV} (h : nameG N f x as Q) : EvS X dp f (.Name x p) as Q := by
  unfold nameG at h
  split at h
  · rename_i hk
    split at h
    · rename_i v hv
      obtain ⟨u, G, V⟩ := O.gvs x v hv
      exact ev_glob hk G V h
    · cases h
  · exact nameW_ok h
theorem rngW_ok {vs : List AV} {Q : Int → Int → Prop} (h : rngW vs Q) : ∃ a b, RngArgs vs a b ∧ Q a b := by
  unfold rngW at h
  split at h
  · exact ⟨_, _, .one _, h⟩
  · exact ⟨_, _, .two _ _, h⟩
  · cases h
theorem addV_ok {op : Operator} {i j : Nat} {as : List AO} {Q : PV} (h : addV op i j as Q) : ∃ oa ob rr, as[i]? = some oa ∧ as[j]? = some ob ∧ addA oa ob = some rr ∧ lenA oa + lenA ob ≤ 100000 ∧ Q (.obj as.length) (as ++ [rr]) := by
  unfold addV at h
  split at h
  · split at h
    · split at h
      · split at h
        · exact ⟨_, _, _, by assumption, by assumption, by assumption, h⟩
        · cases h
      · cases h
    · cases h
  · cases h
theorem mulV_ok {op : Operator} {i : Nat} {k : Int} {as : List AO} {Q : PV} (h : mulV op i k as Q) : ∃ xs, as[i]? = some (.intx xs) ∧ (0 < xs.length ∧ 0 ≤ k ∧ k < 2 ^ 62 ∧ xs.length * k.toNat ≤ 100000) ∧ Q (.obj as.length) (as ++ [.intx (repL xs k.toNat)]) := by
  unfold mulV at h
  split at h
  · split at h
    · exact ⟨_, by assumption, h⟩
    · cases h
  · cases h
theorem kw2_ok {kws : List Keyword} {k1 k2 : Str} {e1 e2 : Expr} {p1 p2 : Pos} (h : kw2 kws = some ((k1, e1, p1), (k2, e2, p2))) : kws = [⟨some k1, e1, p1⟩, ⟨some k2, e2, p2⟩] := by
  cases kws with
  | nil => exact nosome h
  | cons a r => cases r with
    | nil => exact nosome h
    | cons b r => cases r with
      | cons _ _ => exact nosome h
      | nil => cases a with | mk n1 _ _ => cases n1 with
        | none => exact nosome h
        | some _ => cases b with | mk n2 _ _ => cases n2 with
          | none => exact nosome h
          | some _ => cases h; rfl
theorem adrOf_ok {v : Option AV} {C : Addr} (h : adrOf v = some C) : v = some (.addr C) := by
  cases v with
  | none => exact nosome h
  | some v => cases v with
    | addr _ => cases h; rfl
    | _ => exact nosome h
theorem binV_ok {dp : Nat} {f : Fm} {l r : Expr} {op : Operator} {pos : Pos} {as : List AO} {Q : PV} (h : EvS X dp f l as fun a as₁ => EvS X dp f r as₁ fun b as₂ => binV op a b as₂ Q) : EvS X dp f (.BinOp l op r pos) as Q := by
  intro A θ s L env post E R F S c
  refine wpAny_BinOp (h A θ s L env _ E R F S fun a as₁ θ₁ s₁ v q S₁ X₁ V₁ => q A θ₁ s₁ L env _ E R (F.ext X₁) S₁ fun b as₂ θ₂ s₂ u q₂ S₂ X₂ V₂ => ?_)
  have V₁ := V₁.mono X₂.pre
  have X₁₂ := X₁.trans X₂
  have q₂ : binV op a b as₂ Q := q₂
  cases a with
  | int i => cases b with
    | int j =>
      obtain ⟨t, rfl⟩ := V₁
      obtain ⟨t', rfl⟩ := V₂
      have q₂ : binA op i j as₂ Q := q₂
      unfold binA at q₂
      split at q₂
      · exact pow_int q₂.1.1 q₂.1.2 (c _ _ θ₂ { s₂ with toks := s₂.toks + 1 } _ q₂.2 (S₂.toks _) X₁₂ ⟨_, rfl⟩)
      · obtain ⟨k, e, q₃⟩ := binW_ok q₂
        exact bin_int e (c _ _ θ₂ { s₂ with toks := s₂.toks + 1 } _ q₃ (S₂.toks _) X₁₂ ⟨_, rfl⟩)
    | _ => exact False.elim q₂
  | obj i => cases b with
    | obj j =>
      obtain ⟨a, ha, rfl⟩ := V₁
      obtain ⟨b, hb, rfl⟩ := V₂
      cases op with
      | Add =>
        obtain ⟨oa, ob, rr, e1, e2, e3, q₂⟩ := addV_ok (op := .Add) q₂
        exact add_objs S₂ e1 e2 ha hb e3 q₂.1 fun θ' s' v S' X' V' => c _ _ θ' s' v q₂.2 S' (X₁₂.trans X') V'
      | _ => exact False.elim q₂
    | int k =>
      obtain ⟨a, ha, rfl⟩ := V₁
      obtain ⟨t, rfl⟩ := V₂
      cases op with
      | Mult =>
        obtain ⟨xs, e1, q₂⟩ := mulV_ok (op := .Mult) q₂
        exact mul_obj S₂ e1 ha q₂.1 fun θ' s' v S' X' V' => c _ _ θ' s' v q₂.2 S' (X₁₂.trans X') V'
      | _ => exact False.elim q₂
    | _ => exact False.elim q₂
  | _ => exact False.elim q₂
end
end Mine

end
section
open PySem PySem.W PyProof.Rows PySem.SeqAt
namespace Mine
section
variable {X : Cx} {N : Ken}
theorem range_of (O : KenOK X N) {r : Str} {t : String} (h : N.gv r = some (.ty t)) (e : (t == "range") = true) : GlobV X r (.type "range") := by
  obtain ⟨v, G, V⟩ := O.gvs r _ h
  have := eq_of_beq e; subst this
  cases V; exact G
theorem compOk_of {scope : Scope} (h : compOk scope = true) : notDbg scope.names = true ∧ scope.kind = .function ∧ (∀ y ∈ scope.names, y.2 = .local → scope.names.lookup y.1 = some .local) ∧ (∀ y ∈ scope.names, y.2 ≠ .cell) := by
  unfold compOk at h
  simp only [Bool.and_eq_true, List.all_eq_true, beq_iff_eq] at h
  obtain ⟨⟨h1, h2⟩, h3⟩ := h
  refine ⟨h1, h2, fun y hy e => ?_, fun y hy e => ?_⟩
  · have := h3 y hy
    rw [e] at this
    simp only at this
    rw [lk_lookup] at this
    split at this
    · assumption
    · cases this
  · have := h3 y hy
    rw [e] at this
    cases this
theorem intsF_ok {ob : AO} {K : List Int → Prop} (h : intsF ob K) : ∃ xs, ReadI ob xs ∧ K xs := by
  unfold intsF at h
  split at h
  · obtain ⟨xs, e, h⟩ := h; exact ⟨xs, .inr ⟨_, rfl, e⟩, h⟩
  · split at h
    · rename_i xs e; exact ⟨xs, .inl e, h⟩
    · cases h
theorem lenF_ok {ob : AO} {K : Nat → Prop} (h : lenF ob K) : ∃ n, LenI ob n ∧ K n := by
  unfold lenF at h
  split at h
  · obtain ⟨xs, e, h⟩ := h; exact ⟨_, .inr ⟨_, xs, rfl, e, rfl⟩, h⟩
  · split at h
    · rename_i xs e
      have l := listA_len e
      exact ⟨_, .inl ⟨xs, e, l⟩, h⟩
    · cases h
structure SpecL (X : Cx) (R : RecL) : Prop where
  ev : ∀ dp f e as Q, R.ev dp f e as Q → EvS X dp f e as Q
  evs : ∀ dp f es as Q, R.evs dp f es as Q → EvsS X dp f es as Q
  pt : ∀ dp f e as Q, R.pt dp f e as Q → PtS X dp f e as Q
  ts : ∀ dp f e as Q, R.ts dp f e as Q → TsS X dp f e as Q
  an : ∀ dp f es as Q, R.an dp f es as Q → AndS X dp f es as Q
theorem PtS.mono {dp : Nat} {f : Fm} {e : Option Expr} {as : List AO} {Q Q' : Option Int → List AO → Prop} (h : PtS X dp f e as Q) (k : ∀ a b, Q a b → Q' a b) : PtS X dp f e as Q' := by
  cases e with
  | none => exact k _ _ h
  | some e => exact EvS.mono h fun v as₁ ⟨i, a, b⟩ => ⟨i, a, k _ _ b⟩
theorem compW_ok {R : RecL} {dp : Nat} {f : Fm} {elt : Expr} {x : Str} {scope : Scope} {cA : List (Str × Nat)} {as₁ : List AO} {a b : Int} {Q : PV} (ev : ∀ f e as Q, R.ev dp f e as Q → EvS X dp f e as Q) (hbd : b - a ≤ 100000)
    (q : compW as₁.length (fun k loc as₂ K => storeW (compFm f scope cA loc) x (.int (a + k)) as₂ fun loc' as₃ => R.ev dp (compFm f scope cA loc') elt as₃ fun y as₄ => K loc' y as₄) (b - a).toNat 0 [] (as₁ ++ [.list []]) Q) :
    ∃ Inv Bd : Nat → Loc → List AO → Prop, Inv 0 [] (as₁ ++ [.list []]) ∧
      (∀ (k : Nat) loc as₂, Inv k loc as₂ → ∃ ys, as₂[as₁.length]? = some (.list ys) ∧ ys.length ≤ k) ∧
      (∀ (k : Nat) loc as₂, a + k < b → Inv k loc as₂ → storeW (compFm f scope cA loc) x (.int (a + k)) as₂ fun loc' as' => Bd k loc' as') ∧
      (∀ (k : Nat) loc as₂, a + k < b → Bd k loc as₂ → EvS X dp (compFm f scope cA loc) elt as₂ fun y as₃ => ∃ ys, as₃[as₁.length]? = some (.list ys) ∧ ys.length ≤ k ∧ Inv (k + 1) loc (as₃.set as₁.length (.list (ys ++ [y])))) ∧
      b - a ≤ 100000 ∧ (∀ loc as₂, Inv (b - a).toNat loc as₂ → ∃ ys, as₂[as₁.length]? = some (.list ys) ∧ Q (.obj as₁.length) (as₂.set as₁.length (mkL ys))) := by
  refine ⟨fun k loc as₂ => k ≤ (b - a).toNat ∧ (∃ ys, as₂[as₁.length]? = some (.list ys) ∧ ys.length ≤ k) ∧ compW as₁.length (fun k loc as₂ K => storeW (compFm f scope cA loc) x (.int (a + k)) as₂ fun loc' as₃ => R.ev dp (compFm f scope cA loc') elt as₃ fun y as₄ => K loc' y as₄) ((b - a).toNat - k) k loc as₂ Q,
    fun k loc as₂ => k < (b - a).toNat ∧ R.ev dp (compFm f scope cA loc) elt as₂ fun y as₄ => (match as₄[as₁.length]? with | some (.list ys) => (match Nat.ble ys.length k with | true => compW as₁.length (fun k loc as₂ K => storeW (compFm f scope cA loc) x (.int (a + k)) as₂ fun loc' as₃ => R.ev dp (compFm f scope cA loc') elt as₃ fun y as₄ => K loc' y as₄) ((b - a).toNat - (k + 1)) (k + 1) loc (as₄.set as₁.length (.list (ys ++ [y]))) Q | false => False) | _ => False),
    ⟨Nat.zero_le _, ⟨[], by simp, Nat.le_refl _⟩, q⟩, fun k loc as₂ hI => hI.2.1, fun k loc as₂ hlt hI => ?_, fun k loc as₂ hlt hB => ?_, hbd, fun loc as₂ hI => ?_⟩
  · refine El_aa hI fun h1 h2 h3 => ?_; try clear hI
    have hk : k < (b - a).toNat := by lia
    rw [show (b - a).toNat - k = ((b - a).toNat - (k + 1)) + 1 by lia] at h3
    unfold compW at h3
    exact storeW_mono h3 fun loc' as' q => ⟨hk, q⟩
  · obtain ⟨h1, h2⟩ := hB
    refine (ev _ _ _ _ h2).mono fun y as₃ q => ?_
    split at q
    · rename_i ys hys
      split at q
      · rename_i hbl
        have hyl := Nat.le_of_ble_eq_true hbl
        refine ⟨ys, hys, hyl, by lia, ⟨ys ++ [y], ?_, by simp; lia⟩, q⟩
        rw [List.getElem?_set_self ((List.getElem?_eq_some_iff.mp hys).1)]
      · cases q
    · cases q
  · refine El_aa hI fun h1 h2 h3 => ?_; try clear hI
    rw [Nat.sub_self] at h3
    unfold compW at h3
    split at h3
    · rename_i ys hys; exact ⟨ys, hys, h3⟩
    · cases h3
theorem flW_ok {X : Cx} {R : RecL} {dp : Nat} {f : Fm} {ifs : List Expr} {as : List AO} {Q : PB} (ts : ∀ e as Q, R.ts dp f e as Q → TsS X dp f e as Q) (h : flW (fun c as P => R.ts dp f c as P) ifs as Q) : FlS X dp f ifs as Q := by
  match ifs, h with
  | [], h => exact h
  | [c], h => exact ts _ _ _ h
theorem FlS.mono {X : Cx} {dp : Nat} {f : Fm} {ifs : List Expr} {as : List AO} {Q Q' : PB} (h : FlS X dp f ifs as Q) (k : ∀ a b, Q a b → Q' a b) : FlS X dp f ifs as Q' := by
  match ifs, h with
  | [], h => exact k _ _ h
  | [c], h => exact TsS.mono (show TsS X dp f c as Q from h) k
theorem accW_ok {as : List AO} {d k : Nat} {K : List AV → Prop} (h : accW as d k K) : ∃ ys, as[d]? = some (.list ys) ∧ ys.length ≤ k ∧ K ys := by
  unfold accW at h
  split at h
  · rename_i ys hys
    split at h
    · rename_i hb; exact ⟨ys, hys, Nat.le_of_ble_eq_true hb, h⟩
    · cases h
  · cases h
theorem compLW_ok {X : Cx} {R : RecL} {dp : Nat} {f : Fm} {elt tg : Expr} {ifs : List Expr} {scope : Scope} {cA : List (Str × Nat)} {as₁ : List AO} {i : Nat} {xs : List AV} {Q : PV} (ev : ∀ f e as Q, R.ev dp f e as Q → EvS X dp f e as Q) (ts : ∀ f e as Q, R.ts dp f e as Q → TsS X dp f e as Q)
    (q : compLW i as₁.length xs (cmpB R dp f scope cA tg elt ifs as₁.length) xs 0 [] (as₁ ++ [.list []]) Q) :
    ∃ Inv Bd : Nat → Loc → List AO → Prop, Inv 0 [] (as₁ ++ [.list []]) ∧
      (∀ (k : Nat) loc as₂, Inv k loc as₂ → ∃ ob, as₂[i]? = some ob ∧ listA ob = some xs) ∧
      (∀ (k : Nat) loc as₂, Inv k loc as₂ → ∃ ys, as₂[as₁.length]? = some (.list ys) ∧ ys.length ≤ k) ∧
      (∀ (k : Nat) loc as₂ av, xs[k]? = some av → Inv k loc as₂ → bindW (compFm f scope cA loc) tg av as₂ fun loc' as' => Bd k loc' as') ∧
      (∀ (k : Nat) loc as₂, k < xs.length → Bd k loc as₂ → FlS X dp (compFm f scope cA loc) ifs as₂ fun b as₃ => ifB b (EvS X dp (compFm f scope cA loc) elt as₃ fun y as₄ => ∃ ys, as₄[as₁.length]? = some (.list ys) ∧ ys.length ≤ k ∧ Inv (k + 1) loc (as₄.set as₁.length (.list (ys ++ [y])))) (Inv (k + 1) loc as₃)) ∧
      (∀ loc as₂, Inv xs.length loc as₂ → ∃ ys, as₂[as₁.length]? = some (.list ys) ∧ Q (.obj as₁.length) (as₂.set as₁.length (mkL ys))) := by
  refine ⟨fun k loc as₂ => (∃ ys, as₂[as₁.length]? = some (.list ys) ∧ ys.length ≤ k) ∧ compLW i as₁.length xs (cmpB R dp f scope cA tg elt ifs as₁.length) (xs.drop k) k loc as₂ Q,
    fun k loc as₂ => flW (fun c as₄ P => R.ts dp (compFm f scope cA loc) c as₄ P) ifs as₂ fun b as₄ =>
            ifB b (R.ev dp (compFm f scope cA loc) elt as₄ fun y as₅ => accW as₅ as₁.length k fun ys => compLW i as₁.length xs (cmpB R dp f scope cA tg elt ifs as₁.length) (xs.drop (k + 1)) (k + 1) loc (as₅.set as₁.length (.list (ys ++ [y]))) Q)
              (accW as₄ as₁.length k fun _ => compLW i as₁.length xs (cmpB R dp f scope cA tg elt ifs as₁.length) (xs.drop (k + 1)) (k + 1) loc as₄ Q), ⟨⟨[], by simp, Nat.le_refl _⟩, q⟩, fun k loc as₂ hI => at_list (compLW_at hI.2), fun k loc as₂ hI => hI.1, fun k loc as₂ av hav hI => ?_, fun k loc as₂ _ hB => ?_, fun loc as₂ hI => ?_⟩
  · have h := hI.2
    rw [drop_at hav] at h
    unfold compLW at h
    exact h.2
  · refine (flW_ok (fun e as Q h => ts _ _ _ _ h) hB).mono fun b as₃ q => ?_
    cases b with
    | true =>
      refine (ev _ _ _ _ q).mono fun y as₄ q => ?_
      refine El_eaa (accW_ok q) fun ys hys hl q => ?_
      exact ⟨ys, hys, hl, ⟨ys ++ [y], by rw [List.getElem?_set_self ((List.getElem?_eq_some_iff.mp hys).1)], by simp; lia⟩, q⟩
    | false =>
      refine El_eaa (accW_ok q) fun ys hys hl q => ?_
      exact ⟨⟨ys, hys, by lia⟩, q⟩
  · obtain ⟨_, h⟩ := hI
    rw [List.drop_length] at h
    unfold compLW at h
    have h := h.2
    split at h
    · rename_i ys hys; exact ⟨ys, hys, h⟩
    · cases h
section
variable {R : RecL} {dp : Nat} {f : Fm} {as : List AO} {Q : PV}
theorem attrLW_ok (O : KenOK X N) {o : Expr} {a : Str} {p : Pos} (h : attrLW N f o a as Q) : EvS X dp f (.Attribute o a p) as Q := by
  obtain ⟨K, OK⟩ := O.cls.cls
  cases o with
  | Name x p' =>
    unfold attrLW at h
    dsimp only at h
    refine ev_attr OK ((nameG_ok O h).mono fun o as₁ q => ?_)
    split at q
    · exact ⟨_, rfl, q⟩
    · cases q
  | _ => exact False.elim h
theorem sliceLW_ok (ih : SpecL X R) {v : Expr} {lo hi : Option Expr} {p p' : Pos} (h : sliceLW R dp f v lo hi as Q) : EvS X dp f (.Subscript v (.Slice lo hi none p') p) as Q := by
  refine ev_slice ((ih.ev _ _ _ _ _ h).mono fun o as₁ q => (ih.pt _ _ _ _ _ q).mono fun x as₂ q => (ih.pt _ _ _ _ _ q).mono fun y as₃ q => ?_)
  split at q
  · split at q
    · rename_i ob hob
      refine El_ea (intsF_ok q) fun xs hxs q => ?_
      exact ⟨_, ob, xs, rfl, hob, hxs, q.1, q.2⟩
    · cases q
  · cases q
theorem negC_ok {e : Expr} {c : Nat} (h : negC e = some c) : ∃ k p, e = .Constant (.int (c : Int)) k p := by
  cases e with
  | Constant v k p => cases v with
    | int i => cases i with
      | ofNat d => cases h; exact ⟨k, p, rfl⟩
      | negSucc d => exact nosome h
    | _ => exact nosome h
  | _ => exact nosome h
theorem negOf_ok {e : Expr} {c : Nat} (h : negOf e = some c) : ∃ k p p', e = .UnaryOp .USub (.Constant (.int (c : Int)) k p) p' := by
  cases e with
  | UnaryOp op x p => cases op with
    | USub => obtain ⟨k, p', rfl⟩ := negC_ok h; exact ⟨k, p', p, rfl⟩
    | _ => exact nosome h
  | _ => exact nosome h
theorem itemLW_ok (O : KenOK X N) (ih : SpecL X R) {v i : Expr} {p : Pos} (h : itemLW N R dp f v i as Q) : EvS X dp f (.Subscript v i p) as Q := by
  obtain ⟨K, OK⟩ := O.cls.cls
  unfold itemLW at h
  split at h
  · rename_i c hc
    obtain ⟨k, p1, p2, rfl⟩ := negOf_ok hc
    exact ev_subN (ih.ev _ _ _ _ _ h)
  · split at h
    · rename_i hn; exact ev_subL OK hn ((ih.ev _ _ _ _ _ h).mono fun a as₁ q => ih.ev _ _ _ _ _ q)
    · cases h
theorem sliceOf_ok {e : Expr} {lo hi st : Option Expr} (h : sliceOf e = some (lo, hi, st)) : ∃ p, e = .Slice lo hi st p := by
  cases e with
  | Slice a b c p => cases h; exact ⟨p, rfl⟩
  | _ => exact nosome h
theorem subLW_ok (O : KenOK X N) (ih : SpecL X R) {v i : Expr} {p : Pos} (h : subLW N R dp f v i as Q) : EvS X dp f (.Subscript v i p) as Q := by
  unfold subLW at h
  split at h
  · rename_i lo hi hs
    obtain ⟨p', rfl⟩ := sliceOf_ok hs
    exact sliceLW_ok ih h
  · cases h
  · exact itemLW_ok O ih h
theorem unLW_ok (ih : SpecL X R) {op : UnaryOp} {x : Expr} {p : Pos} (h : unLW R dp f op x as Q) : EvS X dp f (.UnaryOp op x p) as Q := by
  cases op with
  | USub =>
    refine ev_neg ((ih.ev _ _ _ _ _ h).mono fun a as₁ q => ?_)
    split at q
    · exact ⟨_, rfl, q⟩
    · cases q
  | _ => exact False.elim h
theorem listLW_ok (ih : SpecL X R) {elts : List Expr} {mk : List AV → AO} (h : listLW R dp f elts mk as Q) : noStar elts = true ∧ EvsS X dp f elts as fun vs as₁ => vs.length ≤ 100000 ∧ Q (.obj as₁.length) (as₁ ++ [mk vs]) := by
  unfold listLW at h
  split at h
  · rename_i hs
    refine ⟨hs, (ih.evs _ _ _ _ _ h).mono fun vs as₁ q => ?_⟩
    split at q
    · rename_i hb; exact ⟨Nat.le_of_ble_eq_true hb, q⟩
    · cases q
  · cases h
theorem boolLW_ok (ih : SpecL X R) {op : BoolOp} {es : List Expr} {p : Pos} (h : boolLW R dp f op es as Q) : EvS X dp f (.BoolOp op es p) as Q := by
  unfold boolLW at h
  split at h
  · refine ev_and ((ih.ev _ _ _ _ _ h).mono fun v as₁ q => ?_)
    split at q
    · rename_i t ht
      refine ⟨t, ht, ?_⟩
      cases t with
      | true => exact ih.ev _ _ _ _ _ q
      | false => exact q
    · cases q
  · cases h
theorem cmpELW_ok (ih : SpecL X R) {l : Expr} {ops : List CmpOp} {rs : List Expr} {p : Pos} (h : cmpELW R dp f l ops rs as Q) : EvS X dp f (.Compare l ops rs p) as Q := by
  unfold cmpELW at h
  split at h
  · unfold cmpLW at h
    split at h
    · rename_i hm; exact ev_cmpV hm ((ih.ev _ _ _ _ _ h).mono fun a as₁ q => ih.ev _ _ _ _ _ q)
    · cases h
  · cases h
theorem lenLW_ok (ih : SpecL X R) {x : Str} {arg : Expr} {p pos : Pos} (hk : isKind .globalImplicit f.sc x = true) (G : GlobV X x (.builtin "len")) (hs : noStar [arg] = true) (h : lenLW R dp f arg as Q) : EvS X dp f (.Call (.Name x p) [arg] [] pos) as Q := by
  refine ev_len hk G hs ((ih.ev _ _ _ _ _ h).mono fun o as₁ q => ?_)
  split at q
  · split at q
    · rename_i ob hob
      refine El_ea (lenF_ok q) fun n hn q => ?_
      exact ⟨_, ob, n, rfl, hob, hn, q.1, q.2⟩
    · cases q
  · cases q
theorem sumLW_ok (ih : SpecL X R) {x : Str} {arg : Expr} {p pos : Pos} (hk : isKind .globalImplicit f.sc x = true) (G : GlobV X x (.builtin "sum")) (hs : noStar [arg] = true) (h : sumLW R dp f arg as Q) : EvS X dp f (.Call (.Name x p) [arg] [] pos) as Q := by
  refine ev_sum hk G hs ((ih.ev _ _ _ _ _ h).mono fun o as₁ q => ?_)
  split at q
  · split at q
    · rename_i ob hob
      refine El_ea (intsF_ok q) fun xs hx q => ?_
      exact ⟨_, ob, xs, rfl, hob, hx, q⟩
    · cases q
  · cases q
theorem bi1LW_ok (O : KenOK X N) (ih : SpecL X R) {x : Str} {arg : Expr} {p pos : Pos} (h : bi1LW N R dp f x arg as Q) : EvS X dp f (.Call (.Name x p) [arg] [] pos) as Q := by
  unfold bi1LW at h
  split at h
  · rename_i s hs hk hg
    obtain ⟨v, G, V⟩ := O.gvs _ _ hg
    cases V
    split at h
    · rename_i hb; have := eq_of_beq hb; subst this; exact lenLW_ok ih hk G hs h
    · split at h
      · rename_i hb; have := eq_of_beq hb; subst this; exact sumLW_ok ih hk G hs h
      · cases h
  · cases h
theorem makeLW_ok (O : KenOK X N) {n : Nat} (ih : SpecL X R) {x : Str} {kws : List Keyword} {p pos : Pos} (h : makeLW N n R dp f x kws as Q) : EvS X dp f (.Call (.Name x p) [] kws pos) as Q := by
  unfold makeLW at h
  split at h
  · rename_i hkd
    have hkd := Bool.and_eq_true_iff.mp hkd
    split at h
    · rename_i k1 e1 _ k2 e2 _ hkw
      rw [kw2_ok hkw]
      split at h
      · rename_i C hg
        split at h
        · rename_i C' fI d n1 n2 hm
          split at h
          · rename_i hb
            have hb := Bool.and_eq_true_iff.mp hb
            have b1 := Bool.and_eq_true_iff.mp hb.1
            have := Nat.eq_of_beq_eq_true b1.1; subst this
            have := seq_iff.mp b1.2; subst this
            have := seq_iff.mp hb.2; subst this
            obtain ⟨v, G, V⟩ := O.gvs _ _ (adrOf_ok hg)
            cases V
            exact ev_make (O.mades _ _ _ _ _ hm) hkd.1 G (Nat.le_of_ble_eq_true hkd.2) ((ih.ev _ _ _ _ _ h).mono fun v1 as₁ q => (ih.ev _ _ _ _ _ q).mono fun v2 as₂ q => (spec O.cls n).exs _ _ _ _ _ q)
          · cases h
        · cases h
      · cases h
    · cases h
  · cases h
theorem methLW_ok (O : KenOK X N) {n : Nat} {o : Expr} {name : Str} {apos pos : Pos} (h : methLW N n dp f o name apos pos as Q) : EvS X dp f (.Call (.Attribute o name apos) [] [] pos) as Q := by
  obtain ⟨K, OK⟩ := O.cls.cls
  cases o with
  | Name x p =>
    change (match Nat.beq apos.endLine pos.line with | true => _ | false => _) at h
    split at h
    · rename_i hl
      refine ev_callM OK rfl (by decide) (by simpa using hl) ((nameG_ok O h).mono fun o as₁ q => ?_)
      split at q
      · split at q
        · rename_i fa hm; exact ⟨_, fa, rfl, hm, evs_nil ((spec O.cls n).cl _ _ _ _ _ q)⟩
        · cases q
      · cases q
    · cases h
  | _ => exact False.elim h
theorem callLW_ok (O : KenOK X N) {n : Nat} (ih : SpecL X R) {fn : Expr} {args : List Expr} {kws : List Keyword} {pos : Pos} (h : callLW N n R dp f fn args kws pos as Q) : EvS X dp f (.Call fn args kws pos) as Q := by
  cases fn with
  | Name x p => cases args with
    | nil => exact makeLW_ok O ih h
    | cons a r => cases r with
      | nil => cases kws with
        | nil => exact bi1LW_ok O ih h
        | cons _ _ => exact False.elim h
      | cons _ _ => exact False.elim h
  | Attribute o name apos => cases args with
    | nil => cases kws with
      | nil => exact methLW_ok O h
      | cons _ _ => exact False.elim h
    | cons _ _ => exact False.elim h
  | _ => exact False.elim h
theorem compRW_ok (O : KenOK X N) (ih : SpecL X R) {elt : Expr} {x r : Str} {args : List Expr} {scope : Scope} {px pr pc pos : Pos} (h : compRW N R dp f elt x r args scope as Q) : CmpS X dp f elt (.Name x px) (.Call (.Name r pr) args [] pc) [] scope pos as Q := by
  unfold compRW at h
  split at h
  · rename_i t cA hk hg hs hc hcl
    split at h
    · rename_i hb
      refine El_aaa (compOk_of hc) fun c1 c2 c3 c4 => ?_
      refine cmp_R hk (range_of O hg hb) hs hcl c1 c2 c3 c4 ((ih.evs _ _ _ _ _ h).mono fun vs as₁ q => ?_)
      refine El_eeaa (rngW_ok q) fun a b hab hc3 q => ?_; obtain ⟨hsm, hbd⟩ := hc3
      exact ⟨a, b, hab, hsm, compW_ok (ih.ev dp) hbd q⟩
    · cases h
  · cases h
theorem compLLW_ok (O : KenOK X N) (ih : SpecL X R) {elt tg : Expr} {y : Str} {ifs : List Expr} {scope : Scope} {p pos : Pos} (h : compLLW N R dp f elt tg y ifs scope as Q) : CmpS X dp f elt tg (.Name y p) ifs scope pos as Q := by
  unfold compLLW at h
  split at h
  · rename_i cA hc hcl
    obtain ⟨c1, c2, c3, c4⟩ := compOk_of hc
    refine cmp_L (fun _ _ => rfl) hcl c1 c2 c3 c4 ((nameG_ok O h).mono fun o as₁ q => ?_)
    obtain ⟨i, xs, ob, rfl, hob, hxs, q⟩ := onL_ok q
    split at q
    · rename_i hb
      refine El_eeaaaaa (compLW_ok (ih.ev dp) (ih.ts dp) q) fun Inv Bd h1 h2 h3 h4 h5 h6 => ?_
      exact ⟨i, xs, rfl, Nat.le_of_ble_eq_true hb, Inv, Bd, h1, (List.getElem?_eq_some_iff.mp hob).1, h2, h3, h4, h5, h6⟩
    · cases q
  · cases h
theorem rngOf_ok {e : Expr} {r : Str} {p pc : Pos} {args : List Expr} (h : rngOf e = some (r, p, args, pc)) : e = .Call (.Name r p) args [] pc := by
  cases e with
  | Call fn as kws pos => cases fn with
    | Name x q => cases kws with
      | nil => cases h; rfl
      | cons _ _ => exact nosome h
    | _ => exact nosome h
  | _ => exact nosome h
theorem nmOf_ok {e : Expr} {x : Str} {p : Pos} (h : nmOf e = some (x, p)) : e = .Name x p := by
  cases e with
  | Name y q => cases h; rfl
  | _ => exact nosome h
theorem comp1LW_ok (O : KenOK X N) (ih : SpecL X R) {elt tg iter : Expr} {ifs : List Expr} {scope : Scope} {pos : Pos} (h : comp1LW N R dp f elt tg iter ifs scope as Q) : CmpS X dp f elt tg iter ifs scope pos as Q := by
  unfold comp1LW at h
  split at h
  · rename_i hr
    split at h
    · rename_i hn
      rw [rngOf_ok hr, nmOf_ok hn]
      exact compRW_ok O ih h
    · cases h
  · split at h
    · rename_i hn
      rw [nmOf_ok hn]
      exact compLLW_ok O ih h
    · cases h
theorem compELW_cm (O : KenOK X N) (ih : SpecL X R) {elt : Expr} {gens : List Comprehension} {scope : Scope} {pos : Pos} (h : compELW N R dp f elt gens scope as Q) : ∃ tg iter ifs, gens = [⟨tg, iter, ifs, 0⟩] ∧ CmpS X dp f elt tg iter ifs scope pos as Q := by
  unfold compELW at h
  split at h
  · exact ⟨_, _, _, rfl, comp1LW_ok O ih h⟩
  · cases h
theorem compELW_ok (O : KenOK X N) (ih : SpecL X R) {elt : Expr} {gens : List Comprehension} {scope : Scope} {pos : Pos} (h : compELW N R dp f elt gens scope as Q) : EvS X dp f (.ListComp elt gens scope pos) as Q := by
  obtain ⟨tg, iter, ifs, rfl, z⟩ := compELW_cm (pos := pos) O ih h
  exact ev_cmp z
theorem plainLW_ok (ih : SpecL X R) {e : Expr} {Q : PB} (h : plainLW R dp f e as Q) : TsS X dp f e as Q := by
  unfold plainLW at h
  split at h
  · rename_i hp
    refine ts_val hp ((ih.ev _ _ _ _ _ h).mono fun a as₁ q => ?_)
    split at q
    · rename_i v hv; exact ⟨v, hv, q⟩
    · cases q
  · cases h
theorem cmpLW_ok (ih : SpecL X R) {l r : Expr} {op : CmpOp} {p : Pos} {Q : PB} (h : cmpLW R dp f l op r as Q) : TsS X dp f (.Compare l [op] [r] p) as Q := by
  unfold cmpLW at h
  split at h
  · rename_i hm; exact ts_cmpV hm ((ih.ev _ _ _ _ _ h).mono fun a as₁ q => ih.ev _ _ _ _ _ q)
  · cases h
theorem andOf_ok {e : Expr} {es : List Expr} {p : Pos} (h : andOf e = some (es, p)) : e = .BoolOp .And es p := by
  cases e with
  | BoolOp op vs q => cases op with
    | And => cases h; rfl
    | _ => exact nosome h
  | _ => exact nosome h
theorem ltF_ok (ih : SpecL X R) {e : Expr} {Q : PB} (h : ltF R dp f e as Q) : TsS X dp f e as Q := by
  unfold ltF at h
  split at h
  · rename_i hc; rw [cmpOf_ok hc]; exact cmpLW_ok ih h
  · split at h
    · rename_i ha; rw [andOf_ok ha]; exact ts_and (ih.an _ _ _ _ _ h)
    · exact plainLW_ok ih h
theorem lvF_ok (O : KenOK X N) {n : Nat} (ih : SpecL X R) {e : Expr} (h : lvF N n R dp f e as Q) : EvS X dp f e as Q := by
  cases e with
  | Constant c k p => exact constW_ok h
  | Name x p => exact nameG_ok O h
  | Attribute o a p => exact attrLW_ok O h
  | BinOp l op r p => exact binV_ok ((ih.ev _ _ _ _ _ h).mono fun a as₁ q => ih.ev _ _ _ _ _ q)
  | UnaryOp op x p => exact unLW_ok ih h
  | Subscript v i p => exact subLW_ok O ih h
  | List elts p => have z := listLW_ok ih h; exact ev_list z.1 z.2
  | Tuple elts k p => have z := listLW_ok ih h; exact ev_tuple z.1 z.2
  | IfExp t a b p =>
    refine ev_ifexp ((ih.ts _ _ _ _ _ h).mono fun c as₁ q => ?_)
    cases c with
    | true => exact ih.ev _ _ _ _ _ q
    | false => exact ih.ev _ _ _ _ _ q
  | BoolOp op es p => exact boolLW_ok ih h
  | Compare l ops rs p => exact cmpELW_ok ih h
  | Call fn args kws pos => exact callLW_ok O ih h
  | ListComp elt gens scope p => exact compELW_ok O ih h
  | _ => exact False.elim h
end
theorem specL0 (O : KenOK X N) : ∀ n, SpecL X (recL N n)
  | 0 => ⟨fun _ _ _ _ _ h => False.elim h, fun _ _ _ _ _ h => False.elim h, fun _ _ _ _ _ h => False.elim h, fun _ _ _ _ _ h => False.elim h, fun _ _ _ _ _ h => False.elim h⟩
  | n + 1 => by
    have ih := specL0 O n
    refine ⟨fun dp f e as Q h => lvF_ok O ih h, fun dp f es as Q h => ?_, fun dp f e as Q h => ?_, fun dp f e as Q h => ltF_ok ih h, fun dp f es as Q h => ?_⟩
    · cases es with
      | nil => exact evs_nil h
      | cons e r => exact evs_cons ((ih.ev _ _ _ _ _ h).mono fun a as₁ q => ih.evs _ _ _ _ _ q)
    · cases e with
      | none => exact h
      | some e =>
        refine (ih.ev _ _ _ _ _ h).mono fun v as₁ q => ?_
        split at q
        · exact ⟨_, rfl, q⟩
        · cases q
    · cases es with
      | nil => exact and_nil h
      | cons e r =>
        refine and_cons ((ih.ts _ _ _ _ _ h).mono fun b as₁ q => ?_)
        cases b with
        | true => exact ih.an _ _ _ _ _ q
        | false => exact q
structure SpecLN (X : Cx) (N : Ken) (n : Nat) : Prop where
  ev : ∀ dp f e as Q, lv N n dp f e as Q → EvS X dp f e as Q
  evs : ∀ dp f es as Q, lvs N n dp f es as Q → EvsS X dp f es as Q
  pt : ∀ dp f e as Q, lp N n dp f e as Q → PtS X dp f e as Q
  ts : ∀ dp f e as Q, lt N n dp f e as Q → TsS X dp f e as Q
  an : ∀ dp f es as Q, la N n dp f es as Q → AndS X dp f es as Q
theorem specL (O : KenOK X N) (n : Nat) : SpecLN X N n := let z := specL0 O n; ⟨z.ev, z.evs, z.pt, z.ts, z.an⟩
end
end Mine

end
section
open PySem PySem.W PyProof.Rows PySem.SeqAt
namespace Mine
section
variable {X : Cx} {N : Ken}
theorem loopW_ok {T : RecX} {dp : Nat} {f : Fm} {x : Str} {body : List Stmt} {as₁ : List AO} {a b : Int} {Q : PF} (exs : ∀ f ss as Q, T.exs dp f ss as Q → ExsS X dp f ss as Q)
    (q : loopW (fun k loc as₂ K => storeW { f with loc := loc } x (.int (a + k)) as₂ fun loc' as₃ => T.exs dp { f with loc := loc' } body as₃ K) (b - a).toNat 0 f.loc as₁ Q) :
    ∃ Inv Bd : Nat → Loc → List AO → Prop, Inv 0 f.loc as₁ ∧
      (∀ (k : Nat) loc as₂, a + k < b → Inv k loc as₂ → storeW { f with loc := loc } x (.int (a + k)) as₂ fun loc' as' => Bd k loc' as') ∧
      (∀ (k : Nat) loc as₂, Bd k loc as₂ → ExsS X dp { f with loc := loc } body as₂ fun fl loc' as' => match fl with | .next | .cont => Inv (k + 1) loc' as' | .brk => Q .next loc' as' | .ret v => Q (.ret v) loc' as') ∧
      (∀ loc as₂, Inv (b - a).toNat loc as₂ → Q .next loc as₂) := by
  refine ⟨fun k loc as₂ => k ≤ (b - a).toNat ∧ loopW (fun k loc as₂ K => storeW { f with loc := loc } x (.int (a + k)) as₂ fun loc' as₃ => T.exs dp { f with loc := loc' } body as₃ K) ((b - a).toNat - k) k loc as₂ Q,
    fun k loc as₂ => k < (b - a).toNat ∧ T.exs dp { f with loc := loc } body as₂ fun fl loc' as' => (match fl with
      | .next => loopW (fun k loc as₂ K => storeW { f with loc := loc } x (.int (a + k)) as₂ fun loc' as₃ => T.exs dp { f with loc := loc' } body as₃ K) ((b - a).toNat - (k + 1)) (k + 1) loc' as' Q
      | .cont => loopW (fun k loc as₂ K => storeW { f with loc := loc } x (.int (a + k)) as₂ fun loc' as₃ => T.exs dp { f with loc := loc' } body as₃ K) ((b - a).toNat - (k + 1)) (k + 1) loc' as' Q
      | .brk => Q .next loc' as'
      | .ret v => Q (.ret v) loc' as'), ⟨Nat.zero_le _, q⟩, fun k loc as₂ hlt hI => ?_, fun k loc as₂ hB => ?_, fun loc as₂ hI => ?_⟩
  · obtain ⟨h1, h3⟩ := hI
    have hk : k < (b - a).toNat := by lia
    rw [show (b - a).toNat - k = ((b - a).toNat - (k + 1)) + 1 by lia] at h3
    unfold loopW at h3
    exact storeW_mono h3 fun loc' as' q => ⟨hk, q⟩
  · obtain ⟨h1, h2⟩ := hB
    refine (exs _ _ _ _ h2).mono fun fl loc' as' q => ?_
    cases fl with
    | next => exact ⟨by lia, q⟩
    | cont => exact ⟨by lia, q⟩
    | brk => exact q
    | ret v => exact q
  · obtain ⟨h1, h3⟩ := hI
    rw [Nat.sub_self] at h3
    exact h3
theorem loopE_ok {xs : List AV} {i : Nat} {B : AV → Nat → Loc → List AO → PF → Prop} {loc₁ : Loc} {as₁ : List AO} {Q : PF} {St : AV → Nat → Loc → List AO → (Loc → List AO → Prop) → Prop} {Run : Loc → List AO → PF → Prop}
    (mono : ∀ x k loc as (P P' : Loc → List AO → Prop), St x k loc as P → (∀ a b, P a b → P' a b) → St x k loc as P')
    (hB : ∀ x k loc as K, B x k loc as K → St x k loc as fun loc' as' => Run loc' as' K)
    (q : loopE i xs B xs 0 loc₁ as₁ Q) :
    ∃ Inv Bd : Nat → Loc → List AO → Prop, Inv 0 loc₁ as₁ ∧
      (∀ (k : Nat) loc as₂, Inv k loc as₂ → ∃ ob, as₂[i]? = some ob ∧ listA ob = some xs) ∧
      (∀ (k : Nat) loc as₂ y, xs[k]? = some y → Inv k loc as₂ → St y k loc as₂ fun loc' as' => Bd k loc' as') ∧
      (∀ (k : Nat) loc as₂, Bd k loc as₂ → Run loc as₂ fun fl loc' as' => match fl with
        | .next => Inv (k + 1) loc' as'
        | .cont => Inv (k + 1) loc' as'
        | .brk => Q .next loc' as'
        | .ret v => Q (.ret v) loc' as') ∧
      (∀ loc as₂, Inv xs.length loc as₂ → Q .next loc as₂) := by
  refine ⟨fun k loc as₂ => loopE i xs B (xs.drop k) k loc as₂ Q, fun k loc as₂ => Run loc as₂ fun fl loc' as' => match fl with
        | .next => loopE i xs B (xs.drop (k + 1)) (k + 1) loc' as' Q
        | .cont => loopE i xs B (xs.drop (k + 1)) (k + 1) loc' as' Q
        | .brk => Q .next loc' as'
        | .ret v => Q (.ret v) loc' as', q, fun k loc as₂ hI => at_list (loopE_at hI), fun k loc as₂ y hy hI => ?_, fun k loc as₂ hB => hB, fun loc as₂ hI => ?_⟩
  · have h : loopE i xs B (xs.drop k) k loc as₂ Q := hI
    rw [drop_at hy] at h
    unfold loopE at h
    exact hB _ _ _ _ _ h.2
  · have h : loopE i xs B (xs.drop xs.length) xs.length loc as₂ Q := hI
    rw [List.drop_length] at h
    unfold loopE at h
    exact h.2
structure SpecX (X : Cx) (T : RecX) : Prop where
  ex : ∀ dp f st as Q, T.ex dp f st as Q → ExS X dp f st as Q
  exs : ∀ dp f ss as Q, T.exs dp f ss as Q → ExsS X dp f ss as Q
section
variable {R : RecL} {T : RecX} {dp : Nat} {f : Fm} {as : List AO} {Q : PF}
theorem asgnCW_ok (O : KenOK X N) (ih : SpecL X R) {x : Str} {p : Pos} {e : Expr} {pos : Pos} (h : asgnCW N R dp f x p e as Q) : ExS X dp f (.Assign [.Name x p] e pos) as Q := by
  cases e with
  | ListComp elt gens scope q =>
    unfold asgnCW at h
    dsimp only at h
    split at h
    · rename_i hc
      have hc := Bool.and_eq_true_iff.mp hc
      have hd := Bool.and_eq_true_iff.mp hc.1
      refine El_eeea (compELW_cm (pos := q) O ih h) fun tg iter ifs hr3 z => ?_; obtain rfl := hr3
      exact st_cmp hd.1 hd.2 hc.2 z
    · cases h
  | _ => exact False.elim h
theorem asgnLW_ok (O : KenOK X N) (ih : SpecL X R) {t e : Expr} {pos : Pos} (h : asgnLW N R dp f t e as Q) : ExS X dp f (.Assign [t] e pos) as Q := by
  cases t with
  | Name x p =>
    unfold asgnLW at h
    dsimp only at h
    split at h
    · rename_i hn; exact st_name hn (ih.ev _ _ _ _ _ h)
    · exact asgnCW_ok O ih h
  | Subscript o k p =>
    unfold asgnLW at h
    dsimp only at h
    split at h
    · rename_i hn
      exact st_sub hn ((ih.ev _ _ _ _ _ h).mono fun a as₁ q => (ih.ev _ _ _ _ _ q).mono fun b as₂ q => ih.ev _ _ _ _ _ q)
    · cases h
  | _ => exact False.elim h
theorem augNLW_ok (ih : SpecL X R) {x : Str} {op : Operator} {e : Expr} {px pos : Pos} (h : augNLW R dp f x op e as Q) : ExS X dp f (.AugAssign (.Name x px) op e pos) as Q := by
  unfold augNLW at h
  split at h
  · rename_i hk hm
    split at h
    · rename_i i hv
      refine st_augN hm hk hv ((ih.ev _ _ _ _ _ h).mono fun a as₁ q => ?_)
      split at q
      · obtain ⟨k, e, q⟩ := binW_ok q; exact ⟨_, k, rfl, e, q⟩
      · cases q
    · rename_i i hv
      cases op with
      | Add =>
        refine st_augL hk hv ((ih.ev _ _ _ _ _ h).mono fun a as₁ q => ?_)
        split at q
        · split at q
          · rename_i xs ys e1 e2; exact ⟨_, xs, ys, rfl, e1, e2, q.1, q.2⟩
          · cases q
        · cases q
      | _ => exact False.elim h
    · cases h
  · cases h
theorem augLW_ok (O : KenOK X N) (ih : SpecL X R) {t : Expr} {op : Operator} {e : Expr} {pos : Pos} (h : augLW N R dp f t op e as Q) : ExS X dp f (.AugAssign t op e pos) as Q := by
  cases t with
  | Name x p => exact augNLW_ok ih h
  | _ => exact False.elim h
theorem twoOf_ok {es : List Expr} {xi xv : Str} {pi pv : Pos} (h : twoOf es = some ((xi, pi), (xv, pv))) : es = [.Name xi pi, .Name xv pv] := by
  cases es with
  | nil => exact nosome h
  | cons a r => cases r with
    | nil => exact nosome h
    | cons b r => cases r with
      | cons _ _ => exact nosome h
      | nil =>
        unfold twoOf at h
        dsimp only at h
        split at h
        · rename_i u hu
          split at h
          · rename_i v hv
            cases h
            rw [nmOf_ok hu, nmOf_ok hv]
          · cases h
        · cases h
theorem pairOf_ok {e : Expr} {xi xv : Str} {pi pv p : Pos} {k : Nat} (h : pairOf e = some ((xi, pi), (xv, pv), k, p)) : e = .Tuple [.Name xi pi, .Name xv pv] k p := by
  cases e with
  | Tuple es k' p' =>
    unfold pairOf at h
    dsimp only at h
    split at h
    · rename_i u v hu
      cases h
      rw [twoOf_ok hu]
    · cases h
  | _ => exact nosome h
theorem forCLW_ok (O : KenOK X N) (ih : SpecL X R) (it : SpecX X T) {tg : Expr} {r : Str} {args : List Expr} {body : List Stmt} {pr pc pos : Pos} (h : forCLW N R T dp f tg r args body as Q) : ExS X dp f (.For tg (.Call (.Name r pr) args [] pc) body [] pos) as Q := by
  unfold forCLW at h
  split at h
  · rename_i t hk hg hs
    split at h
    · rename_i hb
      split at h
      · rename_i hn
        rw [nmOf_ok hn]
        refine st_forR hk (range_of O hg hb) hs ((ih.evs _ _ _ _ _ h).mono fun vs as₁ q => ?_)
        refine El_eeaa (rngW_ok q) fun a b hab hsm q => ?_
        exact ⟨a, b, hab, hsm, loopW_ok (it.exs dp) q⟩
      · cases h
    · split at h
      · rename_i hb
        obtain ⟨v, G, V⟩ := O.gvs _ _ hg
        have := eq_of_beq hb; subst this
        cases V
        split at h
        · rename_i hn
          rw [pairOf_ok hn]
          refine st_forEA hk G hs ((ih.ev _ _ _ _ _ h).mono fun o as₁ q => ?_)
          obtain ⟨i, xs, ob, rfl, hob, hxs, q⟩ := onL_ok q
          obtain ⟨Inv, Bd, h1, h2, h3, h4, h5⟩ := loopE_ok (St := fun x k loc as₂ K => storesW { f with loc := loc } _ [.int k, x] as₂ K) (Run := fun loc as K => T.exs dp { f with loc := loc } _ as K) (fun x k loc as P P' a b => storesW_mono a b) (fun x k loc as K a => a) q
          refine ⟨i, xs, rfl, Inv, Bd, h1, h2, h3, fun k loc as₂ hb => ((it.exs dp) _ _ _ _ (h4 k loc as₂ hb)).mono fun fl loc' as' q => ?_, h5⟩
          cases fl <;> exact q
        · cases h
      · cases h
  · cases h
theorem forLW_ok (O : KenOK X N) (ih : SpecL X R) (it : SpecX X T) {tg iter : Expr} {body : List Stmt} {pos : Pos} (h : forLW N R T dp f tg iter body as Q) : ExS X dp f (.For tg iter body [] pos) as Q := by
  unfold forLW at h
  split at h
  · rename_i hr; rw [rngOf_ok hr]; exact forCLW_ok O ih it h
  · cases h
theorem lxF_ok (O : KenOK X N) (ih : SpecL X R) (it : SpecX X T) {st : Stmt} (h : lxF N R T dp f st as Q) : ExS X dp f st as Q := by
  cases st with
  | Pass p => exact st_pass h
  | Break p => exact st_brk h
  | Continue p => exact st_cont h
  | Expr e p =>
    unfold lxF at h
    dsimp only at h
    split at h
    · rename_i hn; exact st_expr hn (ih.ev _ _ _ _ _ h)
    · cases h
  | Return v p => cases v with
    | some e => exact st_ret (ih.ev _ _ _ _ _ h)
    | none => exact False.elim h
  | Assign ts e p => cases ts with
    | nil => exact False.elim h
    | cons t ts => cases ts with
      | nil => exact asgnLW_ok O ih h
      | cons _ _ => exact False.elim h
  | AugAssign t op e p => exact augLW_ok O ih h
  | If t b o p =>
    refine st_if ((ih.ts _ _ _ _ _ h).mono fun c as₁ q => ?_)
    cases c with
    | true => exact it.exs _ _ _ _ _ q
    | false => exact it.exs _ _ _ _ _ q
  | For tg iter body els p => cases els with
    | nil => exact forLW_ok O ih it h
    | cons _ _ => exact False.elim h
  | _ => exact False.elim h
end
theorem specX0 (O : KenOK X N) : ∀ n, SpecX X (recX N n)
  | 0 => ⟨fun _ _ _ _ _ h => False.elim h, fun _ _ _ _ _ h => False.elim h⟩
  | n + 1 => by
    have ih := specL0 O n
    have it := specX0 O n
    refine ⟨fun dp f st as Q h => lxF_ok O ih it h, fun dp f ss as Q h => ?_⟩
    cases ss with
    | nil => exact exs_nil h
    | cons st r =>
      refine exs_cons ((it.ex _ _ _ _ _ h).mono fun fl loc as₁ q => ?_)
      cases fl with
      | next => exact it.exs _ _ _ _ _ q
      | brk => exact q
      | cont => exact q
      | ret v => exact q
structure SpecXN (X : Cx) (N : Ken) (n : Nat) : Prop where
  ex : ∀ dp f st as Q, lx N n dp f st as Q → ExS X dp f st as Q
  exs : ∀ dp f ss as Q, lxs N n dp f ss as Q → ExsS X dp f ss as Q
theorem specX (O : KenOK X N) (n : Nat) : SpecXN X N n := let z := specX0 O n; ⟨z.ex, z.exs⟩
end
end Mine

end
section
open PySem PySem.W PyProof.Rows
namespace Mine
noncomputable section
noncomputable def stepP : Prim := fun vs as Q => ∃ i d q m m', vs = [.obj i] ∧ as[i]? = some (.inst 1428 d) ∧ as[d]? = some (.dict (esL m q)) ∧ as[q]? = some (.ints m.mem) ∧ (Mine.flat m.ad ∧ Mine.flat m.st ∧ Mine.flat m'.ad ∧ Mine.flat m'.st) ∧ Stp m m' ∧ Q (.obj i) ((as.set d (.dict (esL m' q))).set q (.ints m'.mem))
noncomputable def lP : Prims := fun a => match Nat.beq a 85, Nat.beq a 43 with
  | true, _ => some (5, wrapP)
  | _, true => some (12, stepP)
  | _, _ => none
noncomputable def dI : FD := (fdOf 15 36 clsB[15]?).getD dW
noncomputable def lGv (x : Str) : Option AV := match seq x (nS [108, 101, 110]), seq x (nS [114, 97, 110, 103, 101]), seq x (nS [101, 110, 117, 109, 101, 114, 97, 116, 101]), seq x (nS [77, 80, 85]), seq x (nS [115, 117, 109]) with
  | true, _, _, _, _ => some (.bi "len")
  | _, true, _, _, _ => some (.ty "range")
  | _, _, true, _, _ => some (.ty "enumerate")
  | _, _, _, true, _ => some (.addr 1428)
  | _, _, _, _, true => some (.bi "sum")
  | _, _, _, _, _ => none
noncomputable def nMem : Str := nS [109, 101, 109, 111, 114, 121]
noncomputable def nPc : Str := nS [112, 99]
noncomputable def kN : Ken := ⟨mD, lP, lGv, some (1428, 36, dI, nMem, nPc)⟩
noncomputable def lF (cd : Value) : FD := ⟨lawD.params.args.map (·.arg), lawD.body, lawD.scope, cd, lawD.name ++ ".<locals>."⟩
theorem l_fm (cd : Value) : cellFm (lF cd) [.obj 0] 1 = ⟨lawD.scope, [(nS [115, 99, 114, 105, 112, 116], .obj 0)], [(nS [115, 105, 122, 101], 1), (nS [100, 114, 97, 119, 110], 2)], cd, (lF cd).qual⟩ := by kernel_rfl
theorem l_as (cd : Value) : cellAs (lF cd) [.obj 0] = [.cell none, .cell none] := by kernel_rfl
noncomputable def stL (i : Nat) : Stmt := match lawD.body[i]? with | some s => s | none => .Pass default
noncomputable abbrev F0 (cd : Value) (loc : Loc) : Fm := ⟨lawD.scope, loc, [(nS [115, 105, 122, 101], 1), (nS [100, 114, 97, 119, 110], 2)], cd, (lF cd).qual⟩
noncomputable def lsc : Loc := [(nS [115, 99, 114, 105, 112, 116], .obj 0)]
end
end Mine

end
section
open PySem PySem.W PyProof.Rows
namespace Mine
noncomputable section
structure MpuB (h : Heap) (es : Array DictEntry) (n : Nat) : Prop where
  cls : h.get? 1428 = some clsO
  nso : h.get? 1427 = some ⟨.type "dict", none, .dict es n, #[]⟩
  look : allNames.map (fun x => (lookIn x ⟨.type "dict", none, .dict es n, #[]⟩).map (Option.map bare)) = allVals
  fns : ∀ x ∈ metNames, h.get? x.2.2 = some (fObj x.2.1 x.2.2)
  codes : ∀ x ∈ metNames, ∃ o, h.get? (x.2.2 - 1) = some o ∧ codeQ o = some (fQual x.2.1)
  tabs : ∀ (i : Nat) (x : Str × Addr), tabNames[i]? = some x → ∃ o, h.get? x.2 = some o ∧ some (seqOf o) = tabVals[i]?
  dflt : ∃ o, h.get? 29 = some o ∧ seqOf o = some (.type "tuple", [.none, .int 0 0])
  code : ∃ o, h.get? 84 = some o ∧ codeHd o = some (.type "code", [some (.int 3 0), some (.bool true), some (.int 181 0), some (.ref 80), some (.str fileS 0)])
noncomputable def KF (es : Array DictEntry) (n : Nat) (o1 o2 o3 : Obj) : Frag :=
  (1428, clsO) :: (1427, ⟨.type "dict", none, .dict es n, #[]⟩) :: (1423, o1) :: (1424, o2) :: (1425, o3) :: methNames.map fun x => (x.2.2, fObj x.2.1 x.2.2)
theorem lookup_in {K : Frag} : ∀ {a : Addr} {o : Obj}, K.lookup a = some o → (a, o) ∈ K := by
  intro a o e
  induction K with
  | nil => cases e
  | cons p r ih =>
    obtain ⟨b, x⟩ := p
    rw [List.lookup_cons] at e
    cases q : a == b with
    | true => rw [q] at e; cases e; rw [eq_of_beq q]; exact .head _
    | false => rw [q] at e; exact .tail _ (ih e)
theorem KF_in {h : Heap} {es : Array DictEntry} {n : Nat} (M : MpuB h es n) {o1 o2 o3 : Obj} (h1 : h.get? 1423 = some o1) (h2 : h.get? 1424 = some o2) (h3 : h.get? 1425 = some o3) : (KF es n o1 o2 o3).In h := by
  intro a o e
  have m := lookup_in e
  unfold KF at m
  simp only [List.mem_cons, Prod.mk.injEq, List.mem_map] at m
  rcases m with ⟨rfl, rfl⟩ | ⟨rfl, rfl⟩ | ⟨rfl, rfl⟩ | ⟨rfl, rfl⟩ | ⟨rfl, rfl⟩ | ⟨x, hx, rfl, rfl⟩
  · exact M.cls
  · exact M.nso
  · exact h1
  · exact h2
  · exact h3
  · exact M.fns x (List.mem_append_left _ hx)
theorem KF_fn (es : Array DictEntry) (n : Nat) (o1 o2 o3 : Obj) : methNames.map (fun x => (KF es n o1 o2 o3).lookup x.2.2) = methNames.map fun x => some (fObj x.2.1 x.2.2) := by kernel_rfl
theorem fObj_cls : methNames.map (fun x => (fObj x.2.1 x.2.2).cls) = methNames.map fun _ => Value.type "function" := by kernel_rfl
section
variable {es : Array DictEntry} {n : Nat} {o1 o2 o3 : Obj}
noncomputable abbrev nsD (es : Array DictEntry) (n : Nat) : Obj := ⟨.type "dict", none, .dict es n, #[]⟩
theorem fnd (x : Str) : findIn (KF es n o1 o2 o3) (.ref 1428) x = match lookIn x (nsD es n) with
    | some (some v) => some (some v)
    | some none => (match fastBuiltinOwn "object" x with | some v => some (some v) | none => some none)
    | none => none := by
  have e1 : findIn (KF es n o1 o2 o3) (.ref 1428) x = alongIn (KF es n o1 o2 o3) x [.ref 1428, .type "object"] := rfl
  have e2 : ownIn (KF es n o1 o2 o3) x (.ref 1428) = lookIn x (nsD es n) := rfl
  rw [e1]
  unfold alongIn
  rw [e2]
  rcases lookIn x (nsD es n) with _ | _ | v
  · rfl
  · unfold alongIn
    have e3 : ownIn (KF es n o1 o2 o3) x (.type "object") = some (fastBuiltinOwn "object" x) := rfl
    rw [e3]
    cases fastBuiltinOwn "object" x <;> rfl
  · rfl
theorem bare_int {v : Value} {i : Int} (h : bare v = .int i 0) : ∃ t, v = .int i t := by
  cases v <;> simp [bare] at h
  rename_i j t; exact ⟨t, by rw [h]⟩
theorem bare_ref {v : Value} {a : Addr} (h : bare v = .ref a) : v = .ref a := by
  cases v <;> simp [bare] at h
  rw [h]
theorem lk_mem {α : Type} : ∀ {l : List (Str × α)} {x : Str} {a : α}, lk l x = some a → (x, a) ∈ l
  | (y, v) :: r, x, a, h => by
    unfold lk at h
    split at h
    · rename_i q; cases h; rw [seq_iff.mp q]; exact .head _
    · exact .tail _ (lk_mem h)
theorem hasN_mem : ∀ {l : List Str} {x : Str}, hasN l x = true → x ∈ l
  | y :: r, x, h => by
    unfold hasN at h
    split at h
    · rename_i q; rw [seq_iff.mp q]; exact .head _
    · exact .tail _ (hasN_mem h)
theorem looks4 {h : Heap} (M : MpuB h es n) : (∀ p ∈ cstNames, (lookIn p.1 (nsD es n)).map (Option.map bare) = some (some (.int p.2 0))) ∧ (∀ p ∈ methNames, (lookIn p.1 (nsD es n)).map (Option.map bare) = some (some (.ref p.2.2))) ∧
    (∀ p ∈ tabNames, (lookIn p.1 (nsD es n)).map (Option.map bare) = some (some (.ref p.2))) ∧ (∀ p ∈ absNames, (lookIn p (nsD es n)).map (Option.map bare) = some none) := by
  have L := M.look
  unfold allNames allVals at L
  simp only [List.map_append, List.map_map] at L
  obtain ⟨L, L4⟩ := List.append_inj' L (by simp)
  obtain ⟨L, L3⟩ := List.append_inj' L (by simp)
  obtain ⟨L1, L2⟩ := List.append_inj' L (by simp)
  exact ⟨fun p hp => map_all L1 p hp, fun p hp => map_all L2 p hp, fun p hp => map_all L3 p hp, fun p hp => map_all L4 p hp⟩
theorem look_some {x : Str} {b : Value} (h : (lookIn x (nsD es n)).map (Option.map bare) = some (some b)) : ∃ v, lookIn x (nsD es n) = some (some v) ∧ bare v = b := by
  cases q : lookIn x (nsD es n) with
  | none => rw [q] at h; cases h
  | some r =>
    rw [q] at h
    cases r with
    | none => cases h
    | some v => exact ⟨v, rfl, by simpa using h⟩
theorem look_none {x : Str} (h : (lookIn x (nsD es n)).map (Option.map bare) = some none) : lookIn x (nsD es n) = some none := by
  cases q : lookIn x (nsD es n) with
  | none => rw [q] at h; cases h
  | some r =>
    rw [q] at h
    cases r with
    | none => rfl
    | some v => cases h
theorem att_abs : attNames.all (fun x => hasN absNames x) = true := by kernel_rfl
theorem att_obj : attNames.map (fastBuiltinOwn "object") = attNames.map fun _ => none := by kernel_rfl
theorem fnd_abs {h : Heap} (M : MpuB h es n) {x : Str} (hx : x ∈ absNames) : findIn (KF es n o1 o2 o3) (.ref 1428) x = (match fastBuiltinOwn "object" x with | some v => some (some v) | none => some none) := by
  rw [fnd, look_none ((looks4 M).2.2.2 x hx)]
theorem sp_int (K : Frag) (i : Int) (t : Tok) : specialIn K (.int i t) "__get__" = some none := by kernel_rfl
theorem sp_fn (K : Frag) : findIn K (.type "function") "__get__" = some (some (.builtin "function.__get__")) ∧ findIn K (.type "function") "__set__" = some none ∧ findIn K (.type "function") "__delete__" = some none ∧ findIn K (.type "list") "__get__" = some none := ⟨by kernel_rfl, by kernel_rfl, by kernel_rfl, by kernel_rfl⟩
theorem cop_c : cstNames.all (fun p => !copiedNames.contains p.1) = true := by kernel_rfl
theorem cop_m : methNames.all (fun p => !copiedNames.contains p.1) = true := by kernel_rfl
theorem cop_t : tabNames.all (fun p => !copiedNames.contains p.1) = true := by kernel_rfl
theorem ns_all {α : Type} {l : List α} {f : α → Bool} (h : l.all (fun p => !f p) = true) {p : α} (hp : p ∈ l) : f p = false := by
  have := List.all_eq_true.mp h p hp
  simpa using this
theorem ty_fn {x : Str × Nat × Nat} (hx : x ∈ methNames) : typeIn (KF es n o1 o2 o3) (.ref x.2.2) = some (.type "function") := by
  show ((KF es n o1 o2 o3).lookup x.2.2).map (·.cls) = _
  rw [map_all (KF_fn es n o1 o2 o3) x hx]
  show some (fObj x.2.1 x.2.2).cls = _
  rw [map_all fObj_cls x hx]
theorem dunders : hasN absNames "__getattribute__" = true ∧ hasN absNames "__getattr__" = true ∧ hasN absNames "__setattr__" = true ∧ hasN absNames "__call__" = true := ⟨by kernel_rfl, by kernel_rfl, by kernel_rfl, by kernel_rfl⟩
theorem dobj : fastBuiltinOwn "object" "__getattribute__" = some (.builtin "object.__getattribute__") ∧ fastBuiltinOwn "object" "__getattr__" = none ∧ fastBuiltinOwn "object" "__setattr__" = some (.builtin "object.__setattr__") := ⟨by kernel_rfl, by kernel_rfl, by kernel_rfl⟩
theorem cf_ok {h : Heap} (M : MpuB h es n) : CF (KF es n o1 o2 o3) 1428 := by
  refine ⟨?_, rfl, ?_, by kernel_rfl⟩
  · unfold plainGet
    rw [fnd_abs M (hasN_mem dunders.1), fnd_abs M (hasN_mem dunders.2.1), dobj.1, dobj.2.1]; rfl
  · rw [fnd_abs M (hasN_mem dunders.2.2.1), dobj.2.2]
theorem seq_is {o : Obj} {c : Value} {vs : List Value} (h : seqOf o = some (c, vs)) : o.cls = c ∧ ∃ xs m, o.data = .seq xs m ∧ xs.toList.map bare = vs := by
  unfold seqOf at h
  split at h
  · rename_i xs m e
    simp only [Option.some.injEq, Prod.mk.injEq] at h
    exact ⟨h.1, xs, m, e, h.2⟩
  · cases h
theorem vrs_ref : ∀ {l : List Addr} {vs : List Value}, vs.map bare = l.map Value.ref → VRs [] (l.map AV.addr) vs
  | [], [], _ => .nil
  | [], _ :: _, h => by cases h
  | _ :: _, [], h => by cases h
  | a :: l, v :: vs, h => by
    simp only [List.map_cons, List.cons.injEq] at h
    exact .cons (show v = .ref a from bare_ref h.1) (vrs_ref h.2)
theorem vrs_int : ∀ {l : List Int} {vs : List Value}, vs.map bare = l.map (fun i => Value.int i 0) → VRs [] (l.map AV.int) vs
  | [], [], _ => .nil
  | [], _ :: _, h => by cases h
  | _ :: _, [], h => by cases h
  | a :: l, v :: vs, h => by
    simp only [List.map_cons, List.cons.injEq] at h
    exact .cons (show ∃ t, v = .int a t from bare_int h.1) (vrs_int h.2)
structure ClsM (K : Frag) (h : Heap) : Prop where
  ok : ClsOK mD K h
  mks : makesIn K 1428 = true
  kp : keepIn K (.ref 1428) = true
  ini : findIn K (.ref 1428) "__init__" = some (some (.ref 36))
  ty : typeIn K (.ref 36) = some (.type "function")
theorem ini_mem : lk methNames "__init__" = some (15, 36) := by kernel_rfl
theorem cls_ok {h : Heap} (M : MpuB h es n) (hl : h.NoLimit) : ∃ K, ClsM K h := by
  obtain ⟨o1, g1, e1⟩ := M.tabs 0 (_, 1423) rfl
  obtain ⟨o2, g2, e2⟩ := M.tabs 1 (_, 1424) rfl
  obtain ⟨o3, g3, e3⟩ := M.tabs 2 (_, 1425) rfl
  obtain ⟨c1, xs1, m1, d1, b1⟩ := seq_is (Option.some.inj e1)
  obtain ⟨c2, xs2, m2, d2, b2⟩ := seq_is (Option.some.inj e2)
  obtain ⟨c3, xs3, m3, d3, b3⟩ := seq_is (Option.some.inj e3)
  have IN := KF_in M g1 g2 g3
  have LK := looks4 M
  have fnM : ∀ p ∈ methNames, findIn (KF es n o1 o2 o3) (.ref 1428) p.1 = some (some (.ref p.2.2)) := fun p hp => by
    obtain ⟨v, ev, bv⟩ := look_some (LK.2.1 p hp)
    rw [fnd, ev, bare_ref bv]
  refine ⟨KF es n o1 o2 o3, ⟨IN, cf_ok M, hl, fun x hx => ?_, fun x i hx => ?_, fun x f hx => ?_, fun x a hx => ?_, fun a xs hx => ?_⟩, by kernel_rfl, by kernel_rfl, ?_, ?_⟩
  · have hx : mAttr x = .inst := hx
    unfold mAttr at hx
    split at hx
    · cases hx
    · split at hx
      · cases hx
      · split at hx
        · cases hx
        · split at hx
          · rename_i q
            have ha := hasN_mem q
            have hb := hasN_mem (List.all_eq_true.mp att_abs x ha)
            have hf : findIn (KF es n o1 o2 o3) (.ref 1428) x = some none := by rw [fnd_abs M hb, map_all att_obj x ha]
            exact ⟨hf, (by show takerIn _ 1428 x = _; unfold takerIn; rw [hf]; rfl)⟩
          · cases hx
  · have hx : mAttr x = .int i := hx
    unfold mAttr at hx
    split at hx
    · rename_i j q
      cases hx
      have hm := lk_mem q
      refine El_ea (look_some (LK.1 _ hm)) fun v ev bv => ?_
      obtain ⟨t, rfl⟩ := bare_int bv
      exact ⟨t, (fnd x).trans (by rw [ev]), sp_int _ _ _, ns_all cop_c hm⟩
    · split at hx
      · cases hx
      · split at hx
        · cases hx
        · split at hx <;> cases hx
  · have hx : mAttr x = .fn f := hx
    unfold mAttr at hx
    split at hx
    · cases hx
    · split at hx
      · rename_i j a q
        cases hx
        have hm := lk_mem q
        have ht := ty_fn (es := es) (n := n) (o1 := o1) (o2 := o2) (o3 := o3) hm
        refine ⟨fnM _ hm, ?_, ?_, ?_, ns_all cop_m hm⟩
        · unfold isFn; rw [ht]; rfl
        · unfold specialIn; rw [ht]; exact (sp_fn (KF es n o1 o2 o3)).1
        · unfold takesIn specialIn; rw [ht]
          show (match findIn (KF es n o1 o2 o3) (.type "function") "__set__" with | some (some _) => some true | some none => (findIn (KF es n o1 o2 o3) (.type "function") "__delete__").map Option.isSome | none => none) = _
          rw [(sp_fn (KF es n o1 o2 o3)).2.1, (sp_fn (KF es n o1 o2 o3)).2.2.1]; rfl
      · split at hx
        · cases hx
        · split at hx <;> cases hx
  · have hx : mAttr x = .tab a := hx
    unfold mAttr at hx
    split at hx
    · cases hx
    · split at hx
      · cases hx
      · split at hx
        · rename_i q
          cases hx
          have hm := lk_mem q
          refine El_ea (look_some (LK.2.2.1 _ hm)) fun v ev bv => ?_
          refine ⟨(fnd x).trans (by rw [ev, bare_ref bv]), ?_, ns_all cop_t hm⟩
          have ty : typeIn (KF es n o1 o2 o3) (.ref a) = some (.type "list") := by
            unfold tabNames at hm
            simp only [List.mem_cons, Prod.mk.injEq, List.not_mem_nil, or_false] at hm
            rcases hm with ⟨_, rfl⟩ | ⟨_, rfl⟩ | ⟨_, rfl⟩
            · show some o1.cls = _; rw [c1]
            · show some o2.cls = _; rw [c2]
            · show some o3.cls = _; rw [c3]
          unfold specialIn; rw [ty]; exact (sp_fn (KF es n o1 o2 o3)).2.2.2
        · split at hx <;> cases hx
  · have hx : mTab a = some xs := hx
    unfold mTab at hx
    cases q1 : Nat.beq a 1423 with
    | true =>
      rw [q1] at hx; cases hx; have := Nat.eq_of_beq_eq_true q1; subst this
      exact ⟨xs1, ⟨o1, g1, c1, m1, d1⟩, vrs_ref b1⟩
    | false =>
      rw [q1] at hx
      cases q2 : Nat.beq a 1424 with
      | true =>
        rw [q2] at hx; cases hx; have := Nat.eq_of_beq_eq_true q2; subst this
        exact ⟨xs2, ⟨o2, g2, c2, m2, d2⟩, vrs_int (by rw [b2])⟩
      | false =>
        rw [q2] at hx
        cases q3 : Nat.beq a 1425 with
        | true =>
          rw [q3] at hx; cases hx; have := Nat.eq_of_beq_eq_true q3; subst this
          exact ⟨xs3, ⟨o3, g3, c3, m3, d3⟩, vrs_int (by rw [b3])⟩
        | false => rw [q3] at hx; cases hx
  · exact fnM _ (lk_mem ini_mem)
  · exact ty_fn (lk_mem ini_mem)
theorem fnAt_mem : ∀ {l : List (Str × Nat × Nat)} {b : Addr} {j : Nat}, fnAt l b = some j → ∃ x, (x, j, b) ∈ l
  | (x, j', a) :: r, b, j, h => by
    unfold fnAt at h
    split at h
    · rename_i q; cases h; have := Nat.eq_of_beq_eq_true q; subst this; exact ⟨x, .head _⟩
    · obtain ⟨y, hy⟩ := fnAt_mem h; exact ⟨y, .tail _ hy⟩
noncomputable def defOk (j : Nat) : Bool := match clsB[j]? with
  | some (.FunctionDef _ args _ _ _ _ sc _ _ _) => sc.names.all (fun x => match x.2 with | .cell => false | _ => true) && (args.args.map (·.arg)).all (fun x => match lk sc.names x with | some .local => true | _ => false) &&
      (!sc.isCoroutine) && (!sc.isGenerator) && (match sc.kind with | .function => true | _ => false) && Nat.ble args.args.length 3 && Nat.ble 1 args.args.length
  | _ => false
theorem defs_ok : metNames.all (fun x => (Nat.beq x.2.2 85 || Nat.beq x.2.2 36) || defOk x.2.1) = true := by kernel_rfl
noncomputable def bindA (j a : Nat) (vs : List Value) : Option (Sem (List (Str × Value))) := match (fObj j a).data with
  | .func fd => some (bindArgs fd ⟨vs.take fd.params.args.length, []⟩)
  | _ => none
noncomputable def zipA (j : Nat) (vs : List Value) : Option (Sem (List (Str × Value))) := match clsB[j]? with
  | some (.FunctionDef _ args _ _ _ _ _ _ _ _) => some (pure ((args.args.map (·.arg)).zip (vs.take args.args.length)))
  | _ => none
theorem binds_all (a b c : Value) : metNames.tail.map (fun x => bindA x.2.1 x.2.2 [a, b, c]) = metNames.tail.map fun x => zipA x.2.1 [a, b, c] := by kernel_rfl
theorem met_tail : metNames = (⟨⟨[95, 95, 105, 110, 105, 116, 95, 95]⟩⟩, 15, 36) :: metNames.tail := by kernel_rfl
theorem mem_tail {x : Str} {j a : Nat} (h : (x, j, a) ∈ metNames) (n : a ≠ 36) : (x, j, a) ∈ metNames.tail := by
  rw [met_tail] at h
  rcases List.mem_cons.mp h with e | h
  · simp only [Prod.mk.injEq] at e; exact absurd e.2.2 n
  · exact h
theorem codeQ_of {o : Obj} {q : Str} (h : codeQ o = some q) : ∃ vs t, o.data = .fields vs ∧ vs[1]? = some (.str q t) := by
  unfold codeQ at h
  split at h
  · rename_i vs e
    split at h
    · rename_i t r ee
      cases h
      exact ⟨vs, t, e, by rw [← Array.getElem?_toList, ee]; rfl⟩
    · cases h
  · cases h
theorem code_rec {h : Heap} (M : MpuB h es n) {x : Str × Nat × Nat} (hx : x ∈ metNames) : h.CodeRec (.ref (x.2.2 - 1)) (fQual x.2.1) := by
  obtain ⟨o, g, e⟩ := M.codes x hx
  refine El_eea (codeQ_of e) fun vs t e1 e2 => ?_
  exact ⟨_, o, vs, t, rfl, g, e1, e2⟩
theorem take3 {vals : List Value} {k : Nat} (hk : k ≤ 3) (hv : vals.length = k) : ∃ a b c, vals = [a, b, c].take k := by
  match vals, hv with
  | [], rfl => exact ⟨.none, .none, .none, rfl⟩
  | [a], rfl => exact ⟨a, .none, .none, rfl⟩
  | [a, b], rfl => exact ⟨a, b, .none, rfl⟩
  | [a, b, c], rfl => exact ⟨a, b, c, rfl⟩
  | _ :: _ :: _ :: _ :: r, hv => simp at hv; lia
theorem fns_ok {h : Heap} (M : MpuB h es n) : ∀ fa d, mFn fa = some d → FnOK h fa d := by
  intro fa d hd
  unfold mFn at hd
  split at hd
  · rename_i j q hj
    obtain ⟨x, hx⟩ := fnAt_mem hj
    have h85 : (Nat.beq fa 85 || Nat.beq fa 36) = false := q
    have n36 : fa ≠ 36 := fun e => by subst e; cases h85
    have ok := List.all_eq_true.mp defs_ok _ hx
    dsimp only at ok
    rw [h85, Bool.false_or] at ok
    unfold defOk at ok
    split at ok
    · rename_i name args body _ _ _ sc _ _ _ hcl
      simp only [Bool.and_eq_true, Bool.not_eq_true', List.all_eq_true] at ok
      obtain ⟨⟨⟨⟨⟨⟨k1, k2⟩, k3⟩, k4⟩, k5⟩, k6⟩, k7⟩ := ok
      rw [hcl] at hd
      simp only [fdOf, Option.some.injEq] at hd
      subst hd
      have F := M.fns _ hx
      have C := code_rec M hx
      have B := fun a b c => map_all (binds_all a b c) _ (mem_tail hx n36)
      dsimp only at F C B
      unfold fQual at C
      unfold fObj at F
      unfold bindA fObj zipA at B
      rw [hcl] at F C B
      have kd : sc.kind = .function := by
        split at k5
        · assumption
        · cases k5
      refine ⟨⟨_, _, F, rfl, C, rfl, rfl, rfl, rfl, rfl, ?_, fun vals hv => ?_⟩, fun y hy e => ?_, fun y hy => ?_, k3, k4, kd⟩
      · show _ = fQual j ++ ".<locals>."
        unfold fQual; rw [hcl]
      · have hv : vals.length = args.args.length := by simpa using hv
        refine El_eee (take3 (Nat.le_of_ble_eq_true k6) hv) fun a b c hr3 => ?_; obtain rfl := hr3
        exact Option.some.inj (B a b c)
      · have := k1 y hy; rw [e] at this; cases this
      · have := k2 y hy
        rw [lk_lookup] at this
        split at this
        · assumption
        · cases this
    · cases ok
  · cases hd
theorem w_mem : ∃ x, (x, 22, 85) ∈ metNames := by
  obtain ⟨x, hx⟩ := fnAt_mem (show fnAt metNames 85 = some 22 by kernel_rfl)
  exact ⟨x, hx⟩
theorem w_bind (a b c : Value) : bindA 22 85 [a, b, c] = zipA 22 [a, b, c] := by kernel_rfl
theorem w_def : (match clsB[22]? with | some (.FunctionDef _ _ _ _ _ _ _ _ _ _) => true | _ => false) = true := by kernel_rfl
noncomputable def wLoc (x : Str) : Bool := match lk dW.scope.names x with | some .local => true | some .cell => hasN (cellNs dW.scope.names) x | _ => false
theorem w_facts : ((cellNs dW.scope.names) = [nSelf]) ∧ dW.names.all wLoc = true ∧ dW.scope.isCoroutine = false ∧ dW.scope.isGenerator = false ∧ dW.scope.kind = .function ∧ dW.names.length = 2 := ⟨by kernel_rfl, by kernel_rfl, by kernel_rfl, by kernel_rfl, by kernel_rfl, by kernel_rfl⟩
theorem fnW_ok {h : Heap} (M : MpuB h es n) : FnOKC h 85 dW := by
  obtain ⟨x, hx⟩ := w_mem
  have F := M.fns _ hx
  have C := code_rec M hx
  have hd := w_def
  have W := w_facts
  have B := w_bind
  split at hd
  · rename_i name args body _ _ _ sc _ _ _ hcl
    have e : dW = ⟨args.args.map (·.arg), body, sc, .ref 84, fQual 22 ++ ".<locals>."⟩ := by unfold dW; rw [hcl]; rfl
    dsimp only at F C
    unfold fQual at C
    unfold fObj at F
    unfold bindA fObj zipA at B
    rw [hcl] at F C B
    have hn : args.args.length = 2 := by have := W.2.2.2.2.2; rw [e] at this; simpa using this
    refine ⟨⟨_, _, F, rfl, C, by rw [e], by rw [e], rfl, rfl, by rw [e], ?_, rfl, fun vals hv => ?_⟩, by rw [W.1]; exact List.nodup_cons.mpr ⟨fun h => (by cases h), List.nodup_nil⟩, fun y hy => ?_, W.2.2.1, W.2.2.2.1, W.2.2.2.2.1⟩
    · rw [e]; show _ = fQual 22 ++ ".<locals>."
      unfold fQual; rw [hcl]
    · rw [W.2.2.2.2.2] at hv
      obtain ⟨a, b, rfl⟩ := two_list hv
      · have := B a b .none
        simp only [hn, List.take] at this
        have := Option.some.inj this
        rw [e]
        exact this
    · have := List.all_eq_true.mp W.2.1 y hy
      unfold wLoc at this
      rw [lk_lookup] at this
      split at this
      · rename_i q; exact .inl q
      · rename_i q; exact .inr ⟨q, hasN_mem this⟩
      · cases this
  · cases hd
theorem codeHd_ok {h : Heap} (M : MpuB h es n) : CodeHd h 84 80 := by
  obtain ⟨o, g, e⟩ := M.code
  unfold codeHd at e
  split at e
  · rename_i vs d
    simp only [Option.some.injEq, Prod.mk.injEq, List.map_cons, List.map_nil, List.cons.injEq, and_true] at e
    refine El_aaaaa e fun e0 e7 e9 e10 e11 e18 => ?_; try clear e
    have bm : ∀ {k : Nat} {b : Value}, (vs.toList[k]?).map bare = some b → ∃ v, vs[k]? = some v ∧ bare v = b := fun {k b} h => by
      rw [Array.getElem?_toList] at h
      obtain ⟨v, a, b⟩ := Option.map_eq_some_iff.mp h
      exact ⟨v, a, b⟩
    obtain ⟨v7, a7, b7⟩ := bm e7
    obtain ⟨v9, a9, b9⟩ := bm e9
    obtain ⟨v10, a10, b10⟩ := bm e10
    obtain ⟨v11, a11, b11⟩ := bm e11
    obtain ⟨v18, a18, b18⟩ := bm e18
    obtain ⟨t7, rfl⟩ := bare_int b7
    obtain ⟨t10, rfl⟩ := bare_int b10
    have := bare_ref b11; subst this
    have : v9 = .bool true := by cases v9 <;> simp [bare] at b9; rw [b9]
    subst this
    obtain ⟨t18, rfl⟩ : ∃ t, v18 = .str fileS t := by cases v18 <;> simp [bare] at b18; rename_i t; exact ⟨t, by rw [b18]⟩
    have gd : ∀ {k : Nat} {v : Value}, vs[k]? = some v → vs.getD k .none = v := fun h => by rw [Array.getD_eq_getD_getElem?, h]; rfl
    exact ⟨o, vs, fileS, t18, 3, t7, true, 181, t10, g, e0, d, a11, gd a11, gd a18, gd a7, gd a9, gd a10, by decide⟩
  · cases e
end
end
end Mine

end
section
open PySem PySem.W PyProof.Rows
namespace Mine
noncomputable section
noncomputable def mAY1 : Mode := fun m j K => wordW m m.pc fun w =>
  ifB (Builtin.bitAnd w 65280 != Builtin.bitAnd (Builtin.bitAnd (w + m.y) 65535) 65280) (K (Builtin.bitAnd (w + m.y) 65535) { m with ex := m.ex + 1 } j) (K (Builtin.bitAnd (w + m.y) 65535) m j)
noncomputable def cmpN (m : MS) (r v : Int) (K : MS → Prop) : Prop := K { m with p := Builtin.bitOr m.p (Builtin.bitAnd (r - v) 128) }
noncomputable def cmpT (m : MS) (r v : Int) (K : MS → Prop) : Prop := ifB (r == v) (cmpN { m with p := Builtin.bitOr (Builtin.bitAnd m.p (Builtin.bitNot (Builtin.bitOr (Builtin.bitOr 1 2) 128))) (Builtin.bitOr 1 2) } r v K)
  (ifB (decide (v < r)) (cmpN { m with p := Builtin.bitOr (Builtin.bitAnd m.p (Builtin.bitNot (Builtin.bitOr (Builtin.bitOr 1 2) 128))) 1 } r v K) (cmpN { m with p := Builtin.bitAnd m.p (Builtin.bitNot (Builtin.bitOr (Builtin.bitOr 1 2) 128)) } r v K))
noncomputable def oCMP (o : Mode) (r : Int) (m : MS) (j : JJ) (K : KM) : Prop := o m j fun a m j => rdW m.mem a fun v => cmpT m r v fun m => K m j
noncomputable abbrev shV (t : Int) : Prop := 0 ≤ (1 : Int) ∧ (1 : Int) ≤ 1000000 ∧ t.natAbs < 2 ^ 64
noncomputable def aslE (m : MS) (t : Int) (K : MS → Prop) : Prop := shV t ∧ ifB (Builtin.bitAnd (t * 2 ^ (1 : Int).toNat) 255 != 0) (K { m with p := Builtin.bitOr m.p (Builtin.bitAnd (Builtin.bitAnd (t * 2 ^ (1 : Int).toNat) 255) 128) }) (K { m with p := Builtin.bitOr m.p 2 })
noncomputable def aslP (m : MS) : Int := Builtin.bitAnd m.p (Builtin.bitNot (Builtin.bitOr (Builtin.bitOr 1 128) 2))
noncomputable def aslT (m : MS) (t : Int) (K : MS → Prop) : Prop := ifB (Builtin.bitAnd t 128 != 0) (aslE { m with p := Builtin.bitOr (aslP m) 1 } t K) (aslE { m with p := aslP m } t K)
noncomputable def oASL (o : Mode) (m : MS) (j : JJ) (K : KM) : Prop := o m j fun a m j => rdW m.mem a fun v => aslT m v fun m => wrW m a (Builtin.bitAnd (v * 2 ^ (1 : Int).toNat) 255) fun m => K m j
noncomputable def lsrT (m : MS) (t : Int) (K : MS → Prop) : Prop := 0 ≤ (1 : Int) ∧ ifB (t.fdiv (2 ^ (1 : Int).toNat) != 0) (K { m with p := Builtin.bitOr (aslP m) (Builtin.bitAnd t 1) }) (K { m with p := Builtin.bitOr (Builtin.bitOr (aslP m) (Builtin.bitAnd t 1)) 2 })
noncomputable def oLSR (o : Mode) (m : MS) (j : JJ) (K : KM) : Prop := o m j fun a m j => rdW m.mem a fun v => lsrT m v fun m => wrW m a (v.fdiv (2 ^ (1 : Int).toNat)) fun m => K m j
noncomputable def rolF (m : MS) (t : Int) (K : Int → MS → Prop) : Prop := flags m (Builtin.bitAnd t 255) fun m => K (Builtin.bitAnd t 255) m
noncomputable def rolT (m : MS) (t : Int) (K : Int → MS → Prop) : Prop := ifB (Builtin.bitAnd m.p 1 != 0)
  (ifB (Builtin.bitAnd t 128 != 0) (shV t ∧ rolF m (Builtin.bitOr (t * 2 ^ (1 : Int).toNat) 1) K) (shV t ∧ rolF { m with p := Builtin.bitAnd m.p (Builtin.bitNot 1) } (Builtin.bitOr (t * 2 ^ (1 : Int).toNat) 1) K))
  (ifB (Builtin.bitAnd t 128 != 0) (shV t ∧ rolF { m with p := Builtin.bitOr m.p 1 } (t * 2 ^ (1 : Int).toNat) K) (shV t ∧ rolF m (t * 2 ^ (1 : Int).toNat) K))
noncomputable def oROL (o : Mode) (m : MS) (j : JJ) (K : KM) : Prop := o m j fun a m j => rdW m.mem a fun v => rolT m v fun u m => wrW m a u fun m => K m j
noncomputable def rorF (m : MS) (t : Int) (K : Int → MS → Prop) : Prop := flags m t fun m => K t m
noncomputable def rorT (m : MS) (t : Int) (K : Int → MS → Prop) : Prop := ifB (Builtin.bitAnd m.p 1 != 0)
  (ifB (Builtin.bitAnd t 1 != 0) (0 ≤ (1 : Int) ∧ rorF m (Builtin.bitOr (t.fdiv (2 ^ (1 : Int).toNat)) 128) K) (0 ≤ (1 : Int) ∧ rorF { m with p := Builtin.bitAnd m.p (Builtin.bitNot 1) } (Builtin.bitOr (t.fdiv (2 ^ (1 : Int).toNat)) 128) K))
  (ifB (Builtin.bitAnd t 1 != 0) (0 ≤ (1 : Int) ∧ rorF { m with p := Builtin.bitOr m.p 1 } (t.fdiv (2 ^ (1 : Int).toNat)) K) (0 ≤ (1 : Int) ∧ rorF m (t.fdiv (2 ^ (1 : Int).toNat)) K))
noncomputable def oROR (o : Mode) (m : MS) (j : JJ) (K : KM) : Prop := o m j fun a m j => rdW m.mem a fun v => rorT m v fun u m => wrW m a u fun m => K m j
noncomputable def adR (m : MS) (v t : Int) : Int := v + m.a + t
noncomputable def adZ (m : MS) (d : Int) (K : MS → Prop) : Prop := ifB (d == 0) (K { m with p := Builtin.bitOr m.p 2, a := d }) (K { m with p := Builtin.bitOr m.p (Builtin.bitAnd d 128), a := d })
noncomputable def adY (m : MS) (p r : Int) (K : MS → Prop) : Prop := ifB (decide (255 < r)) (adZ { m with p := Builtin.bitOr p 1 } (Builtin.bitAnd r 255) K) (adZ { m with p := p } r K)
noncomputable def adP (m : MS) : Int := Builtin.bitAnd m.p (Builtin.bitNot (Builtin.bitOr (Builtin.bitOr (Builtin.bitOr 1 64) 128) 2))
noncomputable def adX (m : MS) (v r : Int) (K : MS → Prop) : Prop := ifB (Builtin.bitAnd (Builtin.bitAnd (Builtin.bitNot (Builtin.bitXor m.a v)) (Builtin.bitXor m.a r)) 128 != 0) (adY m (Builtin.bitOr (adP m) 64) r K) (adY m (adP m) r K)
noncomputable def adW (m : MS) (v : Int) (K : MS → Prop) : Prop := ifB (Builtin.bitAnd m.p 1 != 0) (adX m v (adR m v 1) K) (adX m v (adR m v 0) K)
noncomputable def oADC (o : Mode) (m : MS) (j : JJ) (K : KM) : Prop := o m j fun a m j => rdW m.mem a fun v => adW m v fun m => K m j

theorem o_a9 (m : MS) (Q : PV) : stp 0xa9 m Q = frm 0xa9 (oLDA mPC (pre m 0) [.meth 92 0] (inc 1 (fin 0xa9 2 Q))) := by kernel_rfl
theorem o_a2 (m : MS) (Q : PV) : stp 0xa2 m Q = frm 0xa2 (oLDX mPC (pre m 0) [.meth 92 0] (inc 1 (fin 0xa2 2 Q))) := by kernel_rfl
theorem o_46 (m : MS) (Q : PV) : stp 0x46 m Q = frm 0x46 (oLSR mZP (pre m 0) [.meth 106 0] (inc 1 (fin 0x46 5 Q))) := by kernel_rfl
theorem o_66 (m : MS) (Q : PV) : stp 0x66 m Q = frm 0x66 (oROR mZP (pre m 0) [.meth 106 0] (inc 1 (fin 0x66 5 Q))) := by kernel_rfl
theorem o_06 (m : MS) (Q : PV) : stp 0x06 m Q = frm 0x06 (oASL mZP (pre m 0) [.meth 106 0] (inc 1 (fin 0x06 5 Q))) := by kernel_rfl
theorem o_26 (m : MS) (Q : PV) : stp 0x26 m Q = frm 0x26 (oROL mZP (pre m 0) [.meth 106 0] (inc 1 (fin 0x26 5 Q))) := by kernel_rfl
theorem o_18 (m : MS) (Q : PV) : stp 0x18 m Q = frm 0x18 (fin 0x18 2 Q { pre m 0 with p := Builtin.bitAnd m.p (Builtin.bitNot 1) } []) := by kernel_rfl
theorem o_6a (m : MS) (Q : PV) : stp 0x6a m Q = frm 0x6a (rorT (pre m 0) m.a fun u m => fin 0x6a 2 Q { m with a := u } []) := by kernel_rfl
theorem o_2a (m : MS) (Q : PV) : stp 0x2a m Q = frm 0x2a (rolT (pre m 0) m.a fun u m => fin 0x2a 2 Q { m with a := u } []) := by kernel_rfl
theorem o_ca (m : MS) (Q : PV) : stp 0xca m Q = frm 0xca (flags { pre m 0 with x := Builtin.bitAnd (m.x - 1) 255 } (Builtin.bitAnd (m.x - 1) 255) fun m => fin 0xca 2 Q m []) := by kernel_rfl
theorem o_88 (m : MS) (Q : PV) : stp 0x88 m Q = frm 0x88 (flags { pre m 0 with y := Builtin.bitAnd (m.y - 1) 255 } (Builtin.bitAnd (m.y - 1) 255) fun m => fin 0x88 2 Q m []) := by kernel_rfl
theorem o_48 (m : MS) (Q : PV) : stp 0x48 m Q = frm 0x48 (pushW (pre m 0) m.a fun m => fin 0x48 3 Q m []) := by kernel_rfl
theorem o_68 (m : MS) (Q : PV) : stp 0x68 m Q = frm 0x68 (popW (pre m 0) fun v m => flags { m with a := v } v fun m => fin 0x68 4 Q m []) := by kernel_rfl
theorem o_90 (m : MS) (Q : PV) : stp 0x90 m Q = frm 0x90 (ifB (Builtin.bitAnd m.p 1 != 0) (inc 1 (fin 0x90 2 Q) (pre m 2) []) (brW (pre m 2) fun m => fin 0x90 2 Q m [])) := by kernel_rfl
theorem o_b9 (m : MS) (Q : PV) : stp 0xb9 m Q = frm 0xb9 (oLDA mAY1 (pre m 1) [.meth 155 0] (inc 2 (fin 0xb9 4 Q))) := by kernel_rfl
theorem o_c5 (m : MS) (Q : PV) : stp 0xc5 m Q = frm 0xc5 (oCMP mZP m.a (pre m 0) [.meth 106 0] (inc 1 (fin 0xc5 3 Q))) := by kernel_rfl
theorem o_e5 (m : MS) (Q : PV) (n v z c : Bool) : stp 0xe5 { m with p := pOf n v z c } Q = frm 0xe5 (oSBC mZP (pre { m with p := pOf n v z c } 0) [.meth 106 0] (inc 1 (fin 0xe5 3 Q))) := by
  cases n <;> cases v <;> cases z <;> cases c <;> kernel_rfl
theorem o_65 (m : MS) (Q : PV) (n v z c : Bool) : stp 0x65 { m with p := pOf n v z c } Q = frm 0x65 (oADC mZP (pre { m with p := pOf n v z c } 0) [.meth 106 0] (inc 1 (fin 0x65 3 Q))) := by
  cases n <;> cases v <;> cases z <;> cases c <;> kernel_rfl
end
end Mine
end
section
open PySem PySem.W PyProof.Rows
namespace Mine
structure Co where
  (a x y sp pc : Nat)
  (n v z c : Bool)
  (m : Nat → Nat)
noncomputable def up (m : Nat → Nat) (k v : Nat) : Nat → Nat := fun i => if i = k then v else m i
noncomputable def memL (N : Nat) (m : Nat → Nat) : List Int := (List.range N).map fun i => (m i : Int)
structure Ee where
  (ex cyc : Int)
  (ad st : AV)
noncomputable def FE (e : Ee) : Prop := Mine.flat e.ad ∧ Mine.flat e.st
noncomputable section
noncomputable def ms (N : Nat) (c : Co) (e : Ee) : MS := ⟨c.a, c.x, c.y, pOf c.n c.v c.z c.c, c.pc, c.sp, e.ex, e.cyc, e.ad, e.st, memL N c.m⟩
structure WF (L : List Nat) (N : Nat) (c : Co) : Prop where
  a : c.a < 256
  x : c.x < 256
  y : c.y < 256
  sp : c.sp < 256
  m : ∀ i, c.m i < 256
  fit : ∀ i b, L[i]? = some b → c.m (512 + i) = b
  len : 512 + L.length ≤ N
  big : N ≤ 50000
  pc : c.pc ≤ 60000
theorem memL_len (N : Nat) (m : Nat → Nat) : (memL N m).length = N := by unfold memL; simp
theorem memL_get {N : Nat} {m : Nat → Nat} {a : Nat} (h : a < N) : (memL N m).getD a 0 = m a := by
  unfold memL
  rw [List.getD_eq_getElem?_getD, List.getElem?_map, List.getElem?_range h]; rfl
theorem memL_set {N : Nat} {m : Nat → Nat} {a v : Nat} (h : a < N) : (memL N m).set a (v : Int) = memL N (up m a v) := by
  unfold memL up
  refine List.ext_getElem? fun i => ?_
  rw [List.getElem?_set]
  by_cases hi : i < N
  · rw [List.getElem?_map, List.getElem?_map, List.getElem?_range hi]
    by_cases q : a = i
    · subst q; simp [hi]
    · simp [q, Ne.symm q]
  · have h1 : (List.range N)[i]? = none := List.getElem?_eq_none (by simp; lia)
    rw [List.getElem?_map, List.getElem?_map, h1, if_neg (by lia)]; rfl
theorem rd_ok {N : Nat} {m : Nat → Nat} {a : Nat} {i : Int} {K : Int → Prop} (e : i = a) (h : a < N) (hb : N ≤ 50000) (k : K (m a)) : rdW (memL N m) i K := by
  subst e
  refine ⟨⟨by lia, by rw [memL_len]; lia, by lia⟩, ?_⟩
  rw [Int.toNat_natCast, memL_get h]; exact k
theorem wr_ok {N : Nat} {c : Co} {e : Ee} {a v : Nat} {i u : Int} {K : MS → Prop} (ei : i = a) (eu : u = v) (h : a < N) (hb : N ≤ 50000) (k : K (ms N { c with m := up c.m a v } e)) : wrW (ms N c e) i u K := by
  subst ei eu
  refine ⟨⟨by lia, by show _ < ((memL N c.m).length : Int); rw [memL_len]; lia, by lia⟩, ?_⟩
  show K { ms N c e with mem := (memL N c.m).set (a : Int).toNat v }
  rw [Int.toNat_natCast, memL_set h]; exact k
theorem WF.put {L : List Nat} {N : Nat} {c : Co} (W : WF L N c) {a v : Nat} (hs : a < 512 ∨ 512 + L.length ≤ a) (hv : v < 256) : WF L N { c with m := Mine.up c.m a v } :=
  ⟨W.a, W.x, W.y, W.sp, fun i => by show Mine.up c.m a v i < 256; unfold Mine.up; split; exact hv; exact W.m i, fun i b h => by
    show Mine.up c.m a v (512 + i) = b
    unfold Mine.up
    have := (List.getElem?_eq_some_iff.mp h).1
    rw [if_neg (by lia)]; exact W.fit i b h, W.len, W.big, W.pc⟩
theorem b_255 (x : Int) : Builtin.bitAnd x 255 = x % 256 := bitAnd_m8 x
theorem b_65535 (x : Int) : Builtin.bitAnd x 65535 = x % 65536 := bitAnd_m16 x
theorem b_128n : ∀ t < 256, (t &&& 128 : Nat) = if 128 ≤ t then 128 else 0 := by decide +kernel
theorem b_128 {t : Nat} (h : t < 256) : Builtin.bitAnd (t : Int) 128 = if 128 ≤ t then 128 else 0 := by
  rw [bitAnd_pp (by lia) (by decide)]
  show ((t &&& 128 : Nat) : Int) = _
  rw [b_128n t h]; split <;> rfl
theorem p_nz (n v z c : Bool) : Builtin.bitAnd (pOf n v z c) (Builtin.bitNot (Builtin.bitOr 2 128)) = pOf false v false c := by cases n <;> cases v <;> cases z <;> cases c <;> rfl
theorem p_z (n v z c : Bool) : Builtin.bitOr (pOf n v z c) 2 = pOf n v true c := by cases n <;> cases v <;> cases z <;> cases c <;> rfl
theorem p_128 (n v z c : Bool) : Builtin.bitOr (pOf n v z c) 128 = pOf true v z c := by cases n <;> cases v <;> cases z <;> cases c <;> rfl
theorem p_64 (n v z c : Bool) : Builtin.bitOr (pOf n v z c) 64 = pOf n true z c := by cases n <;> cases v <;> cases z <;> cases c <;> rfl
theorem p_1 (n v z c : Bool) : Builtin.bitOr (pOf n v z c) 1 = pOf n v z true := by cases n <;> cases v <;> cases z <;> cases c <;> rfl
theorem p_3 (n v z c : Bool) : Builtin.bitOr (pOf n v z c) (Builtin.bitOr 1 2) = pOf n v true true := by cases n <;> cases v <;> cases z <;> cases c <;> rfl
theorem p_0 (n v z c : Bool) : Builtin.bitOr (pOf n v z c) 0 = pOf n v z c := by cases n <;> cases v <;> cases z <;> cases c <;> rfl
theorem p_c1 (n v z c : Bool) : Builtin.bitAnd (pOf n v z c) (Builtin.bitNot 1) = pOf n v z false := by cases n <;> cases v <;> cases z <;> cases c <;> rfl
theorem p_cn (n v z c : Bool) : Builtin.bitAnd (pOf n v z c) (Builtin.bitNot (Builtin.bitOr (Builtin.bitOr 1 2) 128)) = pOf false v false false := by cases n <;> cases v <;> cases z <;> cases c <;> rfl
theorem p_as (n v z c : Bool) : Builtin.bitAnd (pOf n v z c) (Builtin.bitNot (Builtin.bitOr (Builtin.bitOr 1 128) 2)) = pOf false v false false := by cases n <;> cases v <;> cases z <;> cases c <;> rfl
theorem p_sb (n v z c : Bool) : Builtin.bitAnd (pOf n v z c) (Builtin.bitNot (Builtin.bitOr (Builtin.bitOr (Builtin.bitOr 1 2) 64) 128)) = pOf false false false false := by cases n <;> cases v <;> cases z <;> cases c <;> rfl
theorem p_ad (n v z c : Bool) : Builtin.bitAnd (pOf n v z c) (Builtin.bitNot (Builtin.bitOr (Builtin.bitOr (Builtin.bitOr 1 64) 128) 2)) = pOf false false false false := by cases n <;> cases v <;> cases z <;> cases c <;> rfl
theorem g_1 (n v z c : Bool) : (Builtin.bitAnd (pOf n v z c) 1 != 0) = c := by cases n <;> cases v <;> cases z <;> cases c <;> rfl
theorem g_1v (n v z c : Bool) : Builtin.bitAnd (pOf n v z c) 1 = (c.toNat : Int) := by cases n <;> cases v <;> cases z <;> cases c <;> rfl
theorem g_2 (n v z c : Bool) : (Builtin.bitAnd (pOf n v z c) 2 != 0) = z := by cases n <;> cases v <;> cases z <;> cases c <;> rfl
theorem p_or128 {t : Nat} (h : t < 256) (v z c : Bool) : Builtin.bitOr (pOf false v z c) (Builtin.bitAnd (t : Int) 128) = pOf (decide (128 ≤ t)) v z c := by
  rw [b_128 h]
  by_cases q : 128 ≤ t
  · rw [if_pos q, p_128, decide_eq_true q]
  · rw [if_neg q, p_0, decide_eq_false q]
theorem flags_ok {N : Nat} {c : Co} {e : Ee} {t : Nat} {i : Int} {K : MS → Prop} (ei : i = t) (h : t < 256) (k : K (ms N { c with n := decide (128 ≤ t), z := decide (t = 0) } e)) : flags (ms N c e) i K := by
  subst ei
  unfold flags
  have hp : (ms N c e).p = pOf c.n c.v c.z c.c := rfl
  rw [hp, p_nz, p_or128 h, p_z]
  by_cases q : t = 0
  · subst q; exact k
  · have : ((t : Int) == 0) = false := by simp; exact q
    rw [this]
    rw [decide_eq_false q] at k
    exact k

noncomputable def fe (L : List Nat) (i : Nat) (K : Nat → Prop) : Prop := match Nat.ble 512 i with
  | true => (match L[i - 512]? with | some b => K b | none => False)
  | false => False
theorem fe_ok {L : List Nat} {N : Nat} {c : Co} (W : WF L N c) {i : Nat} {K : Nat → Prop} (h : fe L i K) : 512 ≤ i ∧ i < N ∧ K (c.m i) := by
  unfold fe at h
  split at h
  · rename_i q
    have q := Nat.le_of_ble_eq_true q
    split at h
    · rename_i b e
      have l := (List.getElem?_eq_some_iff.mp e).1
      have f := W.fit _ _ e
      rw [show 512 + (i - 512) = i by omega] at f
      rw [f]
      exact ⟨q, by have := W.len; omega, h⟩
    · cases h
  · cases h
noncomputable def Go (L : List Nat) (N : Nat) (K : Co → Prop) (c : Co) (F : KM → Prop) : Prop := ∃ c' e', K c' ∧ WF L N c' ∧ c'.pc = c.pc ∧ FE e' ∧ ∀ Km : KM, (∀ j, Km (ms N c' e') j) → F Km
noncomputable abbrev RM := Co → (Nat → Prop) → Prop
noncomputable def RMok (L : List Nat) (N : Nat) (r : RM) (o : Mode) : Prop := ∀ c e (P : Nat → Prop), WF L N c → FE e → r c P → ∃ a e', a < N ∧ FE e' ∧ P (c.m a) ∧ ∀ j (Km : Int → MS → JJ → Prop), (∀ j', Km a (ms N c e') j') → o (ms N c e) j Km
noncomputable def AMok (L : List Nat) (N : Nat) (r : RM) (o : Mode) : Prop := ∀ c e (P : Nat → Prop), WF L N c → FE e → r c P → ∃ a e', a < N ∧ (a < 512 ∨ 512 + L.length ≤ a) ∧ FE e' ∧ P a ∧ ∀ j (Km : Int → MS → JJ → Prop), (∀ j', Km a (ms N c e') j') → o (ms N c e) j Km
noncomputable def rPC (L : List Nat) : RM := fun c P => fe L c.pc P
noncomputable def aZP (L : List Nat) : RM := fun c P => fe L c.pc P
noncomputable def aAY (L : List Nat) (N : Nat) : RM := fun c P => fe L c.pc fun l => fe L (c.pc + 1) fun h => (l + 256 * h + c.y < N) ∧ P (l + 256 * h + c.y)
noncomputable def rd (a : RM) : RM := fun c P => a c fun i => P (c.m i)
section
variable {L : List Nat} {N : Nat}
theorem WF.n512 {c : Co} (W : WF L N c) : 512 ≤ N := by have := W.len; lia
theorem PC_ok : RMok L N (rPC L) mPC := fun c e P W f h => by
  refine El_aa (fe_ok W h) fun h1 h2 h3 => ?_
  exact ⟨c.pc, e, h2, f, h3, fun j Km k => k j⟩
theorem ZP_a : AMok L N (aZP L) mZP := fun c e P W f h => by
  refine El_aa (fe_ok W h) fun h1 h2 h3 => ?_
  have := W.m c.pc
  have := W.n512
  exact ⟨c.m c.pc, e, by (clear h1; lia), .inl (by lia), f, h3, fun j Km k => rd_ok rfl h2 W.big (k j)⟩
theorem ZP_ok : RMok L N (rd (aZP L)) mZP := fun c e P W f h => by
  refine El_eeaaaa (ZP_a c e _ W f h) fun a e' h1 _ h2 h3 h4 => ?_
  exact ⟨a, e', h1, h2, h3, h4⟩
theorem shl_ok {u : Nat} (hu : u < 256) {K : Int → Prop} (k : K ((256 * u : Nat) : Int)) : shl u K := by
  refine ⟨⟨by decide, by decide, ?_⟩, ?_⟩
  · have : (u : Int).natAbs = u := by simp
    rw [this]; lia
  · rw [show (u : Int) * 2 ^ (8 : Int).toNat = ((256 * u : Nat) : Int) by
      rw [show (2 : Int) ^ (8 : Int).toNat = 256 by rfl]; lia]
    exact k
theorem word_ok {c : Co} {e : Ee} {K : Int → Prop} (W : WF L N c) {a : Nat} {i : Int} (ei : i = a) (ha : a + 1 < N) (k : K ((c.m a + 256 * c.m (a + 1) : Nat) : Int)) : wordW (ms N c e) i K := by
  subst ei
  unfold wordW
  refine rd_ok rfl (by lia) W.big (rd_ok (a := a + 1) (by lia) ha W.big (shl_ok (W.m _) ?_))
  rw [show (c.m a : Int) + ((256 * c.m (a + 1) : Nat) : Int) = ((c.m a + 256 * c.m (a + 1) : Nat) : Int) by lia]
  exact k
theorem at16 {w k : Nat} (h : w + k < 50000) : Builtin.bitAnd ((w : Int) + (k : Int)) 65535 = ((w + k : Nat) : Int) := by rw [b_65535]; lia
theorem ifB_e {b : Bool} {K : Ee → Prop} {e1 e2 : Ee} (h : K (cond b e1 e2)) : ifB b (K e1) (K e2) := by cases b; exact h; exact h
theorem FE_cond {b : Bool} {e : Ee} (f : FE e) : FE (cond b { e with ex := e.ex + 1 } e) := by cases b; exact f; exact f
theorem AY1_ok : RMok L N (rd (aAY L N)) mAY1 := fun c e P W f h => by
  refine El_aa (fe_ok W h) fun h1 h2 h => ?_
  refine El_aaa (fe_ok W h) fun h5 h6 h3 h4 => ?_
  refine ⟨_, cond (Builtin.bitAnd ((c.m c.pc + 256 * c.m (c.pc + 1) : Nat) : Int) 65280 != Builtin.bitAnd ((c.m c.pc + 256 * c.m (c.pc + 1) + c.y : Nat) : Int) 65280) { e with ex := e.ex + 1 } e, h3, FE_cond f, h4, fun j Km k => word_ok W rfl h6 ?_⟩
  have := W.big
  rw [show Builtin.bitAnd ((((c.m c.pc + 256 * c.m (c.pc + 1)) : Nat) : Int) + (ms N c e).y) 65535 = _ from at16 (k := c.y) (by lia)]
  exact ifB_e (K := fun e => Km _ (ms N c e) j) (k j)
end
end
end Mine

end
section
open PySem PySem.W PyProof.Rows
namespace Mine
noncomputable section
section
variable {L : List Nat} {N : Nat} {c : Co} {e : Ee} {K : Co → Prop} {r : RM} {o : Mode}
noncomputable def qLDA (r : RM) (c : Co) (K : Co → Prop) : Prop := r c fun v => K { c with a := v, n := decide (128 ≤ v), z := decide (v = 0) }
noncomputable def qLDX (r : RM) (c : Co) (K : Co → Prop) : Prop := r c fun v => K { c with x := v, n := decide (128 ≤ v), z := decide (v = 0) }
noncomputable def qLDY (r : RM) (c : Co) (K : Co → Prop) : Prop := r c fun v => K { c with y := v, n := decide (128 ≤ v), z := decide (v = 0) }
noncomputable def qSTA (r : RM) (c : Co) (K : Co → Prop) : Prop := r c fun i => K { c with m := up c.m i c.a }
noncomputable def qCMP (r : RM) (R : Nat) (c : Co) (K : Co → Prop) : Prop := r c fun v => K { c with n := decide (128 ≤ (R + 256 - v) % 256), z := decide (R = v), c := decide (v ≤ R) }
noncomputable def qINC (r : RM) (c : Co) (K : Co → Prop) : Prop := r c fun i => K { c with n := decide (128 ≤ (c.m i + 1) % 256), z := decide ((c.m i + 1) % 256 = 0), m := up c.m i ((c.m i + 1) % 256) }
theorem LDA_ok (h : RMok L N r o) (W : WF L N c) (f : FE e) (q : qLDA r c K) (j : JJ) : Go L N K c fun Km => oLDA o (ms N c e) j Km := by
  refine El_eeaaa (h c e _ W f q) fun a e' h1 h2 h3 h4 => ?_
  exact ⟨_, e', h3, ⟨W.m _, W.x, W.y, W.sp, W.m, W.fit, W.len, W.big, W.pc⟩, rfl, h2, fun Km k => h4 j _ fun j' => rd_ok rfl h1 W.big (flags_ok (c := { c with a := c.m a }) rfl (W.m _) (k j'))⟩
theorem LDX_ok (h : RMok L N r o) (W : WF L N c) (f : FE e) (q : qLDX r c K) (j : JJ) : Go L N K c fun Km => oLDX o (ms N c e) j Km := by
  refine El_eeaaa (h c e _ W f q) fun a e' h1 h2 h3 h4 => ?_
  exact ⟨_, e', h3, ⟨W.a, W.m _, W.y, W.sp, W.m, W.fit, W.len, W.big, W.pc⟩, rfl, h2, fun Km k => h4 j _ fun j' => rd_ok rfl h1 W.big (flags_ok (c := { c with x := c.m a }) rfl (W.m _) (k j'))⟩
theorem LDY_ok (h : RMok L N r o) (W : WF L N c) (f : FE e) (q : qLDY r c K) (j : JJ) : Go L N K c fun Km => oLDY o (ms N c e) j Km := by
  refine El_eeaaa (h c e _ W f q) fun a e' h1 h2 h3 h4 => ?_
  exact ⟨_, e', h3, ⟨W.a, W.x, W.m _, W.sp, W.m, W.fit, W.len, W.big, W.pc⟩, rfl, h2, fun Km k => h4 j _ fun j' => rd_ok rfl h1 W.big (flags_ok (c := { c with y := c.m a }) rfl (W.m _) (k j'))⟩
theorem STA_ok (h : AMok L N r o) (W : WF L N c) (f : FE e) (q : qSTA r c K) (j : JJ) : Go L N K c fun Km => oSTA o (ms N c e) j Km := by
  refine El_eeaaaa (h c e _ W f q) fun a e' h1 hs h2 h3 h4 => ?_
  exact ⟨_, e', h3, W.put hs W.a, rfl, h2, fun Km k => h4 j _ fun j' => wr_ok rfl rfl h1 W.big (k j')⟩
theorem b_128d {R v : Nat} (hR : R < 256) (hv : v < 256) : Builtin.bitAnd ((R : Int) - (v : Int)) 128 = Builtin.bitAnd (((R + 256 - v) % 256 : Nat) : Int) 128 := by
  have e := kbt_bit ((R : Int) - (v : Int)) 7
  rw [show (2 : Int) ^ 7 = 128 by rfl] at e
  rw [e, b_128 (by lia)]
  split <;> lia
theorem cmpT_ok {R v : Nat} {K : MS → Prop} (hR : R < 256) (hv : v < 256) (k : K (ms N { c with n := decide (128 ≤ (R + 256 - v) % 256), z := decide (R = v), c := decide (v ≤ R) } e)) : cmpT (ms N c e) R v K := by
  unfold cmpT cmpN
  have hp : (ms N c e).p = pOf c.n c.v c.z c.c := rfl
  rw [hp, p_cn, p_3, p_1, b_128d hR hv]
  have hd : (R + 256 - v) % 256 < 256 := by lia
  rcases Nat.lt_trichotomy R v with q | q | q
  · have h1 : ((R : Int) == (v : Int)) = false := by simp; lia
    have h2 : decide ((v : Int) < (R : Int)) = false := by simp; lia
    rw [h1, h2]
    rw [decide_eq_false (show ¬ R = v by lia), decide_eq_false (show ¬ v ≤ R by lia)] at k
    show K { ms N c e with p := Builtin.bitOr (pOf false c.v false false) _ }
    rw [p_or128 hd]; exact k
  · have h1 : ((R : Int) == (v : Int)) = true := by simp; lia
    rw [h1]
    rw [decide_eq_true (show R = v by assumption), decide_eq_true (show v ≤ R by lia)] at k
    show K { ms N c e with p := Builtin.bitOr (pOf false c.v true true) _ }
    rw [p_or128 hd]; exact k
  · have h1 : ((R : Int) == (v : Int)) = false := by simp; lia
    have h2 : decide ((v : Int) < (R : Int)) = true := by simp; assumption
    rw [h1, h2]
    rw [decide_eq_false (show ¬ R = v by lia), decide_eq_true (show v ≤ R by lia)] at k
    show K { ms N c e with p := Builtin.bitOr (pOf false c.v false true) _ }
    rw [p_or128 hd]; exact k
theorem CMP_ok {R : Nat} (h : RMok L N r o) (W : WF L N c) (f : FE e) (hR : R < 256) (q : qCMP r R c K) (j : JJ) : Go L N K c fun Km => oCMP o (R : Int) (ms N c e) j Km := by
  refine El_eeaaa (h c e _ W f q) fun a e' h1 h2 h3 h4 => ?_
  exact ⟨_, e', h3, ⟨W.a, W.x, W.y, W.sp, W.m, W.fit, W.len, W.big, W.pc⟩, rfl, h2, fun Km k => h4 j _ fun j' => rd_ok rfl h1 W.big (cmpT_ok hR (W.m _) (k j'))⟩
theorem flagT_ok {t : Nat} {i : Int} {K : MS → Prop} (ei : i = t) (h : t < 256) (k : K (ms N { c with n := decide (128 ≤ t), z := decide (t = 0) } e)) : flagT (ms N c e) i K := by
  subst ei
  unfold flagT
  have hp : (ms N c e).p = pOf c.n c.v c.z c.c := rfl
  rw [hp, p_nz, p_or128 h, p_z]
  by_cases q : t = 0
  · subst q; exact k
  · have : ((t : Int) != 0) = true := by simp; exact q
    rw [this]
    rw [decide_eq_false q] at k
    exact k
theorem m255 {v : Nat} : Builtin.bitAnd ((v : Int) + 1) 255 = (((v + 1) % 256 : Nat) : Int) := by rw [b_255]; lia
theorem d255 {v : Nat} : Builtin.bitAnd ((v : Int) - 1) 255 = (((v + 255) % 256 : Nat) : Int) := by rw [b_255]; lia
theorem WF.nz (W : WF L N c) (n z : Bool) : WF L N { c with n := n, z := z } := ⟨W.a, W.x, W.y, W.sp, W.m, W.fit, W.len, W.big, W.pc⟩
theorem INC_ok (h : AMok L N r o) (W : WF L N c) (f : FE e) (q : qINC r c K) (j : JJ) : Go L N K c fun Km => oINC o (ms N c e) j Km := by
  refine El_eeaaaa (h c e _ W f q) fun a e' h1 hs h2 h3 h4 => ?_
  have hb : (c.m a + 1) % 256 < 256 := by lia
  exact ⟨_, e', h3, (W.nz (decide (128 ≤ (c.m a + 1) % 256)) (decide ((c.m a + 1) % 256 = 0))).put hs hb, rfl, h2, fun Km k => h4 j _ fun j' => rd_ok rfl h1 W.big (flagT_ok m255 hb (wr_ok (c := { c with n := decide (128 ≤ (c.m a + 1) % 256), z := decide ((c.m a + 1) % 256 = 0) }) rfl m255 h1 W.big (k j')))⟩
end
end
end Mine

end
section
open PySem PySem.W PyProof.Rows
namespace Mine
noncomputable section
section
variable {L : List Nat} {N : Nat} {c : Co} {e : Ee} {K : Co → Prop} {r : RM} {o : Mode}
theorem WF.fl (W : WF L N c) (n v z cc : Bool) : WF L N { c with n := n, v := v, z := z, c := cc } := ⟨W.a, W.x, W.y, W.sp, W.m, W.fit, W.len, W.big, W.pc⟩
noncomputable def qASL (r : RM) (c : Co) (K : Co → Prop) : Prop := r c fun i => K { c with n := decide (128 ≤ 2 * c.m i % 256), z := decide (2 * c.m i % 256 = 0), c := decide (128 ≤ c.m i), m := up c.m i (2 * c.m i % 256) }
noncomputable def qLSR (r : RM) (c : Co) (K : Co → Prop) : Prop := r c fun i => K { c with n := false, z := decide (c.m i / 2 = 0), c := decide (c.m i % 2 = 1), m := up c.m i (c.m i / 2) }
noncomputable def qROL (r : RM) (c : Co) (K : Co → Prop) : Prop := r c fun i => K { c with n := decide (128 ≤ (2 * c.m i + c.c.toNat) % 256), z := decide ((2 * c.m i + c.c.toNat) % 256 = 0), c := decide (128 ≤ c.m i), m := up c.m i ((2 * c.m i + c.c.toNat) % 256) }
noncomputable def qROR (r : RM) (c : Co) (K : Co → Prop) : Prop := r c fun i => K { c with n := decide (128 ≤ c.m i / 2 + 128 * c.c.toNat), z := decide (c.m i / 2 + 128 * c.c.toNat = 0), c := decide (c.m i % 2 = 1), m := up c.m i (c.m i / 2 + 128 * c.c.toNat) }
noncomputable def qROLA (c : Co) (K : Co → Prop) : Prop := K { c with a := (2 * c.a + c.c.toNat) % 256, n := decide (128 ≤ (2 * c.a + c.c.toNat) % 256), z := decide ((2 * c.a + c.c.toNat) % 256 = 0), c := decide (128 ≤ c.a) }
noncomputable def qRORA (c : Co) (K : Co → Prop) : Prop := K { c with a := c.a / 2 + 128 * c.c.toNat, n := decide (128 ≤ c.a / 2 + 128 * c.c.toNat), z := decide (c.a / 2 + 128 * c.c.toNat = 0), c := decide (c.a % 2 = 1) }
theorem shV_ok {t : Nat} (h : t < 512) : shV t := ⟨by decide, by decide, by simp; lia⟩
theorem shl1 (t : Nat) : (t : Int) * 2 ^ (1 : Int).toNat = ((2 * t : Nat) : Int) := by
  rw [show (2 : Int) ^ (1 : Int).toNat = 2 by rfl]; lia
theorem shr1 (t : Nat) : (t : Int).fdiv (2 ^ (1 : Int).toNat) = ((t / 2 : Nat) : Int) := by
  rw [show (2 : Int) ^ (1 : Int).toNat = 2 by rfl, Int.fdiv_eq_ediv_of_nonneg _ (by decide)]; lia
theorem g128 {t : Nat} (h : t < 256) : (Builtin.bitAnd (t : Int) 128 != 0) = decide (128 ≤ t) := by
  rw [b_128 h]; by_cases q : 128 ≤ t
  · rw [if_pos q, decide_eq_true q]; rfl
  · rw [if_neg q, decide_eq_false q]; rfl
theorem g1 (t : Nat) : (Builtin.bitAnd (t : Int) 1 != 0) = decide (t % 2 = 1) := by
  rw [bitAnd_m1]
  by_cases q : t % 2 = 1
  · rw [decide_eq_true q]; simp; lia
  · rw [decide_eq_false q]; simp; lia
theorem aslE_ok {t : Nat} {K : MS → Prop} (ht : t < 256) (hn : c.n = false) (hz : c.z = false) (k : K (ms N { c with n := decide (128 ≤ 2 * t % 256), z := decide (2 * t % 256 = 0) } e)) : aslE (ms N c e) t K := by
  unfold aslE
  refine ⟨shV_ok (by lia), ?_⟩
  have hb : Builtin.bitAnd ((t : Int) * 2 ^ (1 : Int).toNat) 255 = ((2 * t % 256 : Nat) : Int) := by rw [shl1, b_255]; lia
  have hp : (ms N c e).p = pOf false c.v false c.c := by show pOf c.n c.v c.z c.c = _; rw [hn, hz]
  rw [hb, hp, p_or128 (by lia), p_z]
  by_cases q : 2 * t % 256 = 0
  · rw [q]; rw [q] at k; exact k
  · have : (((2 * t % 256 : Nat) : Int) != 0) = true := by simp; lia
    rw [this]
    rw [decide_eq_false q] at k
    exact k
theorem aslT_ok {t : Nat} {K : MS → Prop} (ht : t < 256) (k : K (ms N { c with n := decide (128 ≤ 2 * t % 256), z := decide (2 * t % 256 = 0), c := decide (128 ≤ t) } e)) : aslT (ms N c e) t K := by
  unfold aslT
  have hp : aslP (ms N c e) = pOf false c.v false false := by unfold aslP; exact p_as _ _ _ _
  rw [hp, p_1, g128 ht]
  by_cases q : 128 ≤ t
  · rw [decide_eq_true q] at k ⊢
    exact aslE_ok (c := { c with n := false, z := false, c := true }) ht rfl rfl k
  · rw [decide_eq_false q] at k ⊢
    exact aslE_ok (c := { c with n := false, z := false, c := false }) ht rfl rfl k
theorem ASL_ok (h : AMok L N r o) (W : WF L N c) (f : FE e) (q : qASL r c K) (j : JJ) : Go L N K c fun Km => oASL o (ms N c e) j Km := by
  refine El_eeaaaa (h c e _ W f q) fun a e' h1 hs h2 h3 h4 => ?_
  have hb : 2 * c.m a % 256 < 256 := by lia
  refine ⟨_, e', h3, (W.fl (decide (128 ≤ 2 * c.m a % 256)) c.v (decide (2 * c.m a % 256 = 0)) (decide (128 ≤ c.m a))).put hs hb, rfl, h2, fun Km k => h4 j _ fun j' => rd_ok rfl h1 W.big (aslT_ok (W.m _) ?_)⟩
  have eb : Builtin.bitAnd ((c.m a : Int) * 2 ^ (1 : Int).toNat) 255 = ((2 * c.m a % 256 : Nat) : Int) := by rw [shl1, b_255]; lia
  exact wr_ok (c := { c with n := decide (128 ≤ 2 * c.m a % 256), z := decide (2 * c.m a % 256 = 0), c := decide (128 ≤ c.m a) }) rfl eb h1 W.big (k j')
theorem p_or1 (t : Nat) (v : Bool) : Builtin.bitOr (pOf false v false false) (Builtin.bitAnd (t : Int) 1) = pOf false v false (decide (t % 2 = 1)) := by
  rw [bitAnd_m1]
  by_cases q : t % 2 = 1
  · rw [decide_eq_true q, show (t : Int) % 2 = 1 by lia, p_1]
  · rw [decide_eq_false q, show (t : Int) % 2 = 0 by lia, p_0]
theorem lsrT_ok {t : Nat} {K : MS → Prop} (ht : t < 256) (k : K (ms N { c with n := false, z := decide (t / 2 = 0), c := decide (t % 2 = 1) } e)) : lsrT (ms N c e) t K := by
  unfold lsrT
  have hp : aslP (ms N c e) = pOf false c.v false false := by unfold aslP; exact p_as _ _ _ _
  refine ⟨by decide, ?_⟩
  rw [hp, shr1, p_or1, p_z]
  by_cases q : t / 2 = 0
  · rw [q] at k ⊢; exact k
  · have : (((t / 2 : Nat) : Int) != 0) = true := by simp; lia
    rw [this]
    rw [decide_eq_false q] at k
    exact k
theorem LSR_ok (h : AMok L N r o) (W : WF L N c) (f : FE e) (q : qLSR r c K) (j : JJ) : Go L N K c fun Km => oLSR o (ms N c e) j Km := by
  refine El_eeaaaa (h c e _ W f q) fun a e' h1 hs h2 h3 h4 => ?_
  have hm := W.m a
  refine ⟨_, e', h3, (W.fl false c.v (decide (c.m a / 2 = 0)) (decide (c.m a % 2 = 1))).put hs (by lia), rfl, h2, fun Km k => h4 j _ fun j' => rd_ok rfl h1 W.big (lsrT_ok (W.m _) ?_)⟩
  exact wr_ok (c := { c with n := false, z := decide (c.m a / 2 = 0), c := decide (c.m a % 2 = 1) }) rfl (shr1 _) h1 W.big (k j')
theorem orr1 (t : Nat) : Builtin.bitOr ((2 * t : Nat) : Int) 1 = ((2 * t + 1 : Nat) : Int) := by
  rw [bitOr_and, bitAnd_m1]; lia
theorem rolF_ok {t u : Nat} {i : Int} {K : Int → MS → Prop} (ei : i = t) (eu : t % 256 = u) (k : K u (ms N { c with n := decide (128 ≤ u), z := decide (u = 0) } e)) : rolF (ms N c e) i K := by
  unfold rolF
  have : Builtin.bitAnd i 255 = (u : Int) := by rw [ei, b_255]; lia
  rw [this]
  exact flags_ok rfl (by lia) k
theorem rolT_ok {t : Nat} {K : Int → MS → Prop} (ht : t < 256) (k : K ((2 * t + c.c.toNat) % 256 : Nat) (ms N { c with n := decide (128 ≤ (2 * t + c.c.toNat) % 256), z := decide ((2 * t + c.c.toNat) % 256 = 0), c := decide (128 ≤ t) } e)) : rolT (ms N c e) t K := by
  unfold rolT
  have hp : (ms N c e).p = pOf c.n c.v c.z c.c := rfl
  rw [hp, g_1, p_c1, p_1, g128 ht, shl1, orr1]
  cases hc : c.c with
  | true =>
    rw [hc] at k
    by_cases q : 128 ≤ t
    · rw [decide_eq_true q] at k ⊢
      refine ⟨shV_ok (by lia), rolF_ok rfl rfl ?_⟩
      rw [show ({ c with n := decide (128 ≤ (2 * t + 1) % 256), z := decide ((2 * t + 1) % 256 = 0) } : Co) = { c with n := decide (128 ≤ (2 * t + 1) % 256), z := decide ((2 * t + 1) % 256 = 0), c := true } by rw [← hc]]
      exact k
    · rw [decide_eq_false q] at k ⊢
      exact ⟨shV_ok (by (clear q; lia)), rolF_ok (c := { c with c := false }) rfl rfl k⟩
  | false =>
    rw [hc] at k
    by_cases q : 128 ≤ t
    · rw [decide_eq_true q] at k ⊢
      exact ⟨shV_ok (by lia), rolF_ok (c := { c with c := true }) rfl rfl k⟩
    · rw [decide_eq_false q] at k ⊢
      refine ⟨shV_ok (by (clear q; lia)), rolF_ok rfl rfl ?_⟩
      rw [show ({ c with n := decide (128 ≤ (2 * t) % 256), z := decide ((2 * t) % 256 = 0) } : Co) = { c with n := decide (128 ≤ (2 * t) % 256), z := decide ((2 * t) % 256 = 0), c := false } by rw [← hc]]
      exact k
theorem ROL_ok (h : AMok L N r o) (W : WF L N c) (f : FE e) (q : qROL r c K) (j : JJ) : Go L N K c fun Km => oROL o (ms N c e) j Km := by
  refine El_eeaaaa (h c e _ W f q) fun a e' h1 hs h2 h3 h4 => ?_
  refine ⟨_, e', h3, (W.fl (decide (128 ≤ (2 * c.m a + c.c.toNat) % 256)) c.v (decide ((2 * c.m a + c.c.toNat) % 256 = 0)) (decide (128 ≤ c.m a))).put hs (by lia), rfl, h2, fun Km k => h4 j _ fun j' => rd_ok rfl h1 W.big (rolT_ok (W.m _) ?_)⟩
  exact wr_ok (c := { c with n := decide (128 ≤ (2 * c.m a + c.c.toNat) % 256), z := decide ((2 * c.m a + c.c.toNat) % 256 = 0), c := decide (128 ≤ c.m a) }) rfl rfl h1 W.big (k j')
theorem ROLA_ok (W : WF L N c) (f : FE e) (q : qROLA c K) : Go L N K c fun Km => rolT (ms N c e) c.a fun u m => Km { m with a := u } [] :=
  ⟨_, e, q, ⟨by show _ % 256 < 256; lia, W.x, W.y, W.sp, W.m, W.fit, W.len, W.big, W.pc⟩, rfl, f, fun Km k => rolT_ok W.a (k [])⟩
theorem or128 {t : Nat} (h : t < 128) : Builtin.bitOr (t : Int) 128 = ((t + 128 : Nat) : Int) := by
  rw [bitOr_and, b_128 (by lia), if_neg (by lia)]; lia
theorem rorT_ok {t : Nat} {K : Int → MS → Prop} (ht : t < 256) (k : K (t / 2 + 128 * c.c.toNat : Nat) (ms N { c with n := decide (128 ≤ t / 2 + 128 * c.c.toNat), z := decide (t / 2 + 128 * c.c.toNat = 0), c := decide (t % 2 = 1) } e)) : rorT (ms N c e) t K := by
  unfold rorT rorF
  have hp : (ms N c e).p = pOf c.n c.v c.z c.c := rfl
  have h2 : t / 2 < 128 := by lia
  rw [hp, g_1, p_c1, p_1, g1, shr1, or128 h2]
  cases hc : c.c with
  | true =>
    rw [hc] at k
    by_cases q : t % 2 = 1
    · rw [decide_eq_true q] at k ⊢
      refine ⟨by decide, flags_ok rfl (by lia) ?_⟩
      rw [show ({ c with n := decide (128 ≤ t / 2 + 128), z := decide (t / 2 + 128 = 0) } : Co) = { c with n := decide (128 ≤ t / 2 + 128), z := decide (t / 2 + 128 = 0), c := true } by rw [← hc]]
      exact k
    · rw [decide_eq_false q] at k ⊢
      exact ⟨by decide, flags_ok (c := { c with c := false }) rfl (by lia) k⟩
  | false =>
    rw [hc] at k
    by_cases q : t % 2 = 1
    · rw [decide_eq_true q] at k ⊢
      exact ⟨by decide, flags_ok (c := { c with c := true }) rfl (by lia) k⟩
    · rw [decide_eq_false q] at k ⊢
      refine ⟨by decide, flags_ok rfl (by lia) ?_⟩
      rw [show ({ c with n := decide (128 ≤ t / 2), z := decide (t / 2 = 0) } : Co) = { c with n := decide (128 ≤ t / 2), z := decide (t / 2 = 0), c := false } by rw [← hc]]
      exact k
theorem ror_lt (h : c.a < 256) : c.a / 2 + 128 * c.c.toNat < 256 := by cases c.c <;> simp <;> lia
theorem ROR_ok (h : AMok L N r o) (W : WF L N c) (f : FE e) (q : qROR r c K) (j : JJ) : Go L N K c fun Km => oROR o (ms N c e) j Km := by
  refine El_eeaaaa (h c e _ W f q) fun a e' h1 hs h2 h3 h4 => ?_
  have hm := W.m a
  have hb : c.m a / 2 + 128 * c.c.toNat < 256 := by cases c.c <;> simp <;> lia
  refine ⟨_, e', h3, (W.fl (decide (128 ≤ c.m a / 2 + 128 * c.c.toNat)) c.v (decide (c.m a / 2 + 128 * c.c.toNat = 0)) (decide (c.m a % 2 = 1))).put hs hb, rfl, h2, fun Km k => h4 j _ fun j' => rd_ok rfl h1 W.big (rorT_ok (W.m _) ?_)⟩
  exact wr_ok (c := { c with n := decide (128 ≤ c.m a / 2 + 128 * c.c.toNat), z := decide (c.m a / 2 + 128 * c.c.toNat = 0), c := decide (c.m a % 2 = 1) }) rfl rfl h1 W.big (k j')
theorem RORA_ok (W : WF L N c) (f : FE e) (q : qRORA c K) : Go L N K c fun Km => rorT (ms N c e) c.a fun u m => Km { m with a := u } [] :=
  ⟨_, e, q, ⟨ror_lt W.a, W.x, W.y, W.sp, W.m, W.fit, W.len, W.big, W.pc⟩, rfl, f, fun Km k => rorT_ok W.a (k [])⟩
noncomputable def sbV (a v r : Nat) : Bool := Builtin.bitAnd (Builtin.bitAnd (Builtin.bitXor a v) (Builtin.bitXor a r)) 128 != 0
noncomputable def adV (a v r : Nat) : Bool := Builtin.bitAnd (Builtin.bitAnd (Builtin.bitNot (Builtin.bitXor a v)) (Builtin.bitXor a r)) 128 != 0
noncomputable abbrev sbS (c : Co) (v : Nat) : Nat := c.a + (255 - v) + c.c.toNat
noncomputable abbrev adS (c : Co) (v : Nat) : Nat := v + c.a + c.c.toNat
noncomputable def qSBC (r : RM) (c : Co) (K : Co → Prop) : Prop := r c fun v => K { c with a := sbS c v % 256, n := decide (128 ≤ sbS c v % 256), v := sbV c.a v (sbS c v), z := decide (sbS c v % 256 = 0), c := decide (256 ≤ sbS c v) }
noncomputable def qADC (r : RM) (c : Co) (K : Co → Prop) : Prop := r c fun v => K { c with a := adS c v % 256, n := decide (128 ≤ adS c v % 256), v := adV c.a v (adS c v), z := decide (adS c v % 256 = 0), c := decide (256 ≤ adS c v) }
theorem z_dec (d : Nat) : (((d : Nat) : Int) == 0) = decide (d = 0) := by
  by_cases q : d = 0
  · subst q; rfl
  · rw [decide_eq_false q]; simp; assumption
theorem c_dec (S : Nat) : decide ((255 : Int) < ((S : Nat) : Int)) = decide (256 ≤ S) := by
  by_cases q : 256 ≤ S
  · rw [decide_eq_true q]; simp; lia
  · rw [decide_eq_false q]; simp; lia
theorem m_255 (S : Nat) : Builtin.bitAnd ((S : Nat) : Int) 255 = ((S % 256 : Nat) : Int) := by rw [b_255]; lia
theorem sbW_ok {v : Nat} {K : MS → Prop} (hv : v < 256) (k : K (ms N { c with a := sbS c v % 256, n := decide (128 ≤ sbS c v % 256), v := sbV c.a v (sbS c v), z := decide (sbS c v % 256 = 0), c := decide (256 ≤ sbS c v) } e)) : sbW (ms N c e) v K := by
  have e1 : sbR (ms N c e) v = ((sbS c v : Nat) : Int) := by
    unfold sbR
    have hp : (ms N c e).p = pOf c.n c.v c.z c.c := rfl
    have ha : (ms N c e).a = (c.a : Int) := rfl
    rw [hp, ha, g_1v, b_255]
    unfold Builtin.bitNot sbS
    lia
  have e2 : sbP (ms N c e) = pOf false false false false := by unfold sbP; exact p_sb _ _ _ _
  have e3 : Builtin.bitAnd ((sbS c v : Nat) : Int) 255 = ((sbS c v % 256 : Nat) : Int) := m_255 _
  unfold sbW sbX sbY sbZ
  rw [e1, e2, e3, p_64]
  have ea : (ms N c e).a = (c.a : Int) := rfl
  rw [ea]
  have hv' : (Builtin.bitAnd (Builtin.bitAnd (Builtin.bitXor (c.a : Int) v) (Builtin.bitXor (c.a : Int) ((sbS c v : Nat) : Int))) 128 != 0) = sbV c.a v (sbS c v) := rfl
  rw [hv']
  rw [z_dec, c_dec]
  have hm : sbS c v % 256 < 256 := Nat.mod_lt _ (by decide)
  revert k hm
  generalize sbS c v % 256 = d
  generalize decide (256 ≤ sbS c v) = cc
  generalize sbV c.a v (sbS c v) = vv
  intro k hm
  revert k
  generalize decide (d = 0) = zz
  intro k
  cases vv <;> cases zz <;> cases cc <;> (show K _; simp only [p_z, p_1, p_or128 hm]; exact k)
theorem SBC_ok (h : RMok L N r o) (W : WF L N c) (f : FE e) (q : qSBC r c K) (j : JJ) : Go L N K c fun Km => oSBC o (ms N c e) j Km := by
  refine El_eeaaa (h c e _ W f q) fun a e' h1 h2 h3 h4 => ?_
  exact ⟨_, e', h3, ⟨Nat.mod_lt _ (by decide), W.x, W.y, W.sp, W.m, W.fit, W.len, W.big, W.pc⟩, rfl, h2, fun Km k => h4 j _ fun j' => rd_ok rfl h1 W.big (sbW_ok (W.m _) (k j'))⟩
theorem adW_ok {v : Nat} {K : MS → Prop} (hv : v < 256) (ha : c.a < 256) (k : K (ms N { c with a := adS c v % 256, n := decide (128 ≤ adS c v % 256), v := adV c.a v (adS c v), z := decide (adS c v % 256 = 0), c := decide (256 ≤ adS c v) } e)) : adW (ms N c e) v K := by
  have hp : (ms N c e).p = pOf c.n c.v c.z c.c := rfl
  have ea : (ms N c e).a = (c.a : Int) := rfl
  have e2 : adP (ms N c e) = pOf false false false false := by unfold adP; exact p_ad _ _ _ _
  have key : adX (ms N c e) v ((adS c v : Nat) : Int) K := by
    unfold adX adY adZ
    rw [e2, p_64, ea]
    have hv' : (Builtin.bitAnd (Builtin.bitAnd (Builtin.bitNot (Builtin.bitXor (c.a : Int) v)) (Builtin.bitXor (c.a : Int) ((adS c v : Nat) : Int))) 128 != 0) = adV c.a v (adS c v) := rfl
    rw [hv']
    have e3 : Builtin.bitAnd ((adS c v : Nat) : Int) 255 = ((adS c v % 256 : Nat) : Int) := m_255 _
    have e4 : ¬ 256 ≤ adS c v → adS c v % 256 = adS c v := fun q => Nat.mod_eq_of_lt (Nat.lt_of_not_le q)
    rw [c_dec, e3]
    have hm : adS c v % 256 < 256 := Nat.mod_lt _ (by decide)
    by_cases q : 256 ≤ adS c v
    · rw [decide_eq_true q] at k ⊢
      rw [z_dec]
      revert k hm
      generalize adS c v % 256 = d
      generalize adV c.a v (adS c v) = vv
      intro k hm
      by_cases zz : d = 0
      · rw [decide_eq_true zz] at k ⊢
        subst zz
        cases vv <;> (show K _; simp only [p_z, p_1]; exact k)
      · rw [decide_eq_false zz] at k ⊢
        cases vv <;> (show K _; simp only [p_1, p_or128 hm]; exact k)
    · rw [decide_eq_false q] at k ⊢
      rw [e4 q] at k hm
      rw [z_dec (adS c v)]
      revert k hm
      generalize adV c.a v (adS c v) = vv
      generalize adS c v = d
      intro k hm
      by_cases zz : d = 0
      · rw [decide_eq_true zz] at k ⊢
        subst zz
        cases vv <;> (show K _; simp only [p_z]; exact k)
      · rw [decide_eq_false zz] at k ⊢
        cases vv <;> (show K _; simp only [p_or128 hm]; exact k)
  unfold adW
  rw [hp, g_1]
  cases hc : c.c with
  | true =>
    have : adR (ms N c e) v 1 = ((adS c v : Nat) : Int) := by unfold adR adS; rw [ea, hc]; simp
    show adX _ _ (adR (ms N c e) v 1) _
    rw [this]; exact key
  | false =>
    have : adR (ms N c e) v 0 = ((adS c v : Nat) : Int) := by unfold adR adS; rw [ea, hc]; simp
    show adX _ _ (adR (ms N c e) v 0) _
    rw [this]; exact key
theorem ADC_ok (h : RMok L N r o) (W : WF L N c) (f : FE e) (q : qADC r c K) (j : JJ) : Go L N K c fun Km => oADC o (ms N c e) j Km := by
  refine El_eeaaa (h c e _ W f q) fun a e' h1 h2 h3 h4 => ?_
  exact ⟨_, e', h3, ⟨Nat.mod_lt _ (by decide), W.x, W.y, W.sp, W.m, W.fit, W.len, W.big, W.pc⟩, rfl, h2, fun Km k => h4 j _ fun j' => rd_ok rfl h1 W.big (adW_ok (W.m _) W.a (k j'))⟩
end
end
end Mine

end
section
open PySem PySem.W PyProof.Rows
namespace Mine
noncomputable section
noncomputable def Done (L : List Nat) (N : Nat) (K : Co → Prop) (S : PV → Prop) : Prop := ∃ c' e', K c' ∧ WF L N c' ∧ FE e' ∧ ∀ Q : PV, (∀ j, Q (.obj 0) (stA (ms N c' e') j)) → S Q
noncomputable def inK (n : Nat) (K : Co → Prop) : Co → Prop := fun c => K { c with pc := c.pc + n }
section
variable {L : List Nat} {N : Nat} {c : Co} {e : Ee} {K : Co → Prop}
theorem pc16 {p n : Nat} (h : p + n < 65536) : Builtin.bitAnd ((p : Int) + (n : Int)) 65535 = ((p + n : Nat) : Int) := by rw [b_65535]; lia
theorem pcn {p : Nat} (h : p < 65536) : Builtin.bitAnd (p : Int) 65535 = (p : Int) := by rw [b_65535]; lia
theorem WF.at (W : WF L N c) {p : Nat} (h : p ≤ 60000) : WF L N { c with pc := p } := ⟨W.a, W.x, W.y, W.sp, W.m, W.fit, W.len, W.big, h⟩
theorem fin_ok {op : Nat} {cy : Int} {Q : PV} {c : Co} {e : Ee} (ho : op < 256) (h : c.pc ≤ 60000) (k : ∀ j, Q (.obj 0) (stA (ms N c { e with cyc := e.cyc + (cy + e.ex) }) j)) (j : JJ) : fin (op : Int) cy Q (ms N c e) j := by
  refine ⟨by unfold okk; lia, ?_⟩
  have hp : pst (ms N c e) cy = ms N c { e with cyc := e.cyc + (cy + e.ex) } := by
    unfold pst
    have : Builtin.bitAnd (ms N c e).pc 65535 = (c.pc : Int) := pcn (p := c.pc) (by lia)
    rw [this]; rfl
  rw [hp]; exact k j
theorem inc_ok {op n : Nat} {cy : Int} {Q : PV} {c : Co} {e : Ee} (ho : op < 256) (h : c.pc + n ≤ 60000) (k : ∀ j, Q (.obj 0) (stA (ms N { c with pc := c.pc + n } { e with cyc := e.cyc + (cy + e.ex) }) j)) (j : JJ) : inc (n : Int) (fin (op : Int) cy Q) (ms N c e) j := by
  unfold inc
  have hp : ({ ms N c e with pc := (ms N c e).pc + (n : Int) } : MS) = ms N { c with pc := c.pc + n } e := by
    unfold ms
    have : ((c.pc : Int) + (n : Int)) = ((c.pc + n : Nat) : Int) := by lia
    simp only [this]
  rw [hp]
  exact fin_ok (c := { c with pc := c.pc + n }) ho h k j
theorem done_inc {op n : Nat} {cy : Int} {F : KM → Prop} {S : PV → Prop} (g : Go L N (inK n K) c F) (ho : op < 256) (h : c.pc + n ≤ 60000) (hS : ∀ Q, S Q = frm (op : Int) (F (inc (n : Int) (fin (op : Int) cy Q)))) : Done L N K S := by
  obtain ⟨c', e', h1, h2, h3, h4, h5⟩ := g
  have hk : okk (op : Int) := by unfold okk; lia
  refine ⟨_, { e' with cyc := e'.cyc + (cy + e'.ex) }, h1, h2.at (by lia), h4, fun Q k => ?_⟩
  rw [hS]
  exact ⟨hk, hk, h5 _ fun j => inc_ok ho (by lia) k j⟩
theorem done_fin {op : Nat} {cy : Int} {F : KM → Prop} {S : PV → Prop} (g : Go L N K c F) (ho : op < 256) (h : c.pc ≤ 60000) (hS : ∀ Q, S Q = frm (op : Int) (F (fin (op : Int) cy Q))) : Done L N K S := by
  obtain ⟨c', e', h1, h2, h3, h4, h5⟩ := g
  have hk : okk (op : Int) := by unfold okk; lia
  refine ⟨_, { e' with cyc := e'.cyc + (cy + e'.ex) }, h1, h2, h4, fun Q k => ?_⟩
  rw [hS]
  exact ⟨hk, hk, h5 _ fun j => fin_ok ho (by lia) k j⟩
noncomputable abbrev ee (e : Ee) (k : Int) : Ee := ⟨0, e.cyc, .int k, e.st⟩
theorem ee_ok {e : Ee} {k : Int} (f : FE e) : FE (ee e k) := ⟨trivial, f.2⟩
theorem pre_eq {k : Int} (h : c.pc ≤ 60000) : pre (ms N c e) k = ms N { c with pc := c.pc + 1 } (ee e k) := by
  unfold pre
  have : Builtin.bitAnd ((ms N c e).pc + 1) 65535 = ((c.pc + 1 : Nat) : Int) := pc16 (p := c.pc) (n := 1) (by lia)
  rw [this]; rfl
noncomputable def qDEY (c : Co) (K : Co → Prop) : Prop := K { c with y := (c.y + 255) % 256, n := decide (128 ≤ (c.y + 255) % 256), z := decide ((c.y + 255) % 256 = 0) }
noncomputable def qDEX (c : Co) (K : Co → Prop) : Prop := K { c with x := (c.x + 255) % 256, n := decide (128 ≤ (c.x + 255) % 256), z := decide ((c.x + 255) % 256 = 0) }
theorem mod_lt (n : Nat) : n % 256 < 256 := Nat.mod_lt _ (by decide)
theorem DEY_ok (W : WF L N c) (f : FE e) (q : qDEY c K) : Go L N K c fun Km => flags { ms N c e with y := Builtin.bitAnd ((c.y : Int) - 1) 255 } (Builtin.bitAnd ((c.y : Int) - 1) 255) fun m => Km m [] := by
  rw [d255]
  exact ⟨_, e, q, ⟨W.a, W.x, mod_lt _, W.sp, W.m, W.fit, W.len, W.big, W.pc⟩, rfl, f, fun Km k => flags_ok (c := { c with y := (c.y + 255) % 256 }) rfl (mod_lt _) (k [])⟩
theorem DEX_ok (W : WF L N c) (f : FE e) (q : qDEX c K) : Go L N K c fun Km => flags { ms N c e with x := Builtin.bitAnd ((c.x : Int) - 1) 255 } (Builtin.bitAnd ((c.x : Int) - 1) 255) fun m => Km m [] := by
  rw [d255]
  exact ⟨_, e, q, ⟨W.a, mod_lt _, W.y, W.sp, W.m, W.fit, W.len, W.big, W.pc⟩, rfl, f, fun Km k => flags_ok (c := { c with x := (c.x + 255) % 256 }) rfl (mod_lt _) (k [])⟩
noncomputable def qCLC (c : Co) (K : Co → Prop) : Prop := K { c with c := false }
noncomputable def qSEC (c : Co) (K : Co → Prop) : Prop := K { c with c := true }
theorem CLC_ok (W : WF L N c) (f : FE e) (q : qCLC c K) : Go L N K c fun Km => Km { ms N c e with p := Builtin.bitAnd (pOf c.n c.v c.z c.c) (Builtin.bitNot 1) } [] := by
  rw [p_c1]
  exact ⟨_, e, q, W.fl c.n c.v c.z false, rfl, f, fun Km k => k []⟩
theorem SEC_ok (W : WF L N c) (f : FE e) (q : qSEC c K) : Go L N K c fun Km => Km { ms N c e with p := Builtin.bitOr (pOf c.n c.v c.z c.c) 1 } [] := by
  rw [p_1]
  exact ⟨_, e, q, W.fl c.n c.v c.z true, rfl, f, fun Km k => k []⟩
noncomputable def qPHA (c : Co) (K : Co → Prop) : Prop := K { c with m := up c.m (256 + c.sp) c.a, sp := (c.sp + 255) % 256 }
noncomputable def qPLA (c : Co) (K : Co → Prop) : Prop := K { c with a := c.m (256 + (c.sp + 1) % 256), n := decide (128 ≤ c.m (256 + (c.sp + 1) % 256)), z := decide (c.m (256 + (c.sp + 1) % 256) = 0), sp := (c.sp + 1) % 256 }
theorem push_wf (W : WF L N c) {v : Nat} (hv : v < 256) : WF L N { c with m := up c.m (256 + c.sp) v, sp := (c.sp + 255) % 256 } :=
  have W' := W.put (a := 256 + c.sp) (v := v) (.inl (by have := W.sp; lia)) hv
  ⟨W.a, W.x, W.y, mod_lt _, W'.m, W'.fit, W.len, W.big, W.pc⟩
theorem push_ok (W : WF L N c) {v : Nat} {i : Int} {K : MS → Prop} (ei : Builtin.bitAnd i 255 = v) (k : K (ms N { c with m := up c.m (256 + c.sp) v, sp := (c.sp + 255) % 256 } e)) : pushW (ms N c e) i K := by
  unfold pushW
  rw [ei]
  have h1 := W.n512
  have h2 := W.sp
  refine wr_ok (a := 256 + c.sp) (by show (c.sp : Int) + 256 = _; lia) rfl (by lia) W.big ?_
  have : Builtin.bitAnd ((ms N { c with m := up c.m (256 + c.sp) v } e).sp - 1) 255 = (((c.sp + 255) % 256 : Nat) : Int) := d255 (v := c.sp)
  rw [this]; exact k
theorem pop_ok (W : WF L N c) {K : Int → MS → Prop} (k : K (c.m (256 + (c.sp + 1) % 256)) (ms N { c with sp := (c.sp + 1) % 256 } e)) : popW (ms N c e) K := by
  unfold popW
  have h1 := W.n512
  have : Builtin.bitAnd ((ms N c e).sp + 1) 255 = (((c.sp + 1) % 256 : Nat) : Int) := m255 (v := c.sp)
  rw [this]
  exact rd_ok (a := 256 + (c.sp + 1) % 256) (by lia) (by lia) W.big k
theorem PHA_ok (W : WF L N c) (f : FE e) (q : qPHA c K) : Go L N K c fun Km => pushW (ms N c e) (c.a : Int) fun m => Km m [] :=
  ⟨_, e, q, push_wf W W.a, rfl, f, fun Km k => push_ok W (by rw [m_255, Nat.mod_eq_of_lt W.a]) (k [])⟩
theorem PLA_ok (W : WF L N c) (f : FE e) (q : qPLA c K) : Go L N K c fun Km => popW (ms N c e) fun v m => flags { m with a := v } v fun m => Km m [] :=
  ⟨_, e, q, ⟨W.m _, W.x, W.y, mod_lt _, W.m, W.fit, W.len, W.big, W.pc⟩, rfl, f, fun Km k => pop_ok W (flags_ok (c := { c with sp := (c.sp + 1) % 256, a := c.m (256 + (c.sp + 1) % 256) }) rfl (W.m _) (k []))⟩
noncomputable def tgt (p z : Nat) : Nat := match Nat.blt z 128 with | true => p + 1 + z | false => p + 1 + z - 256
noncomputable def qBR (L : List Nat) (b : Bool) (c : Co) (K : Co → Prop) : Prop := ifB b (fe L c.pc fun z => K { c with pc := tgt c.pc z }) (K { c with pc := c.pc + 1 })
theorem brT_ok {t : Nat} {i : Int} {K : MS → Prop} (ei : Builtin.bitAnd i 65535 = t) (k : K (ms N { c with pc := t } (cond (Builtin.bitAnd (c.pc : Int) 65280 != Builtin.bitAnd i 65280) { e with ex := e.ex + 1 } e))) : brT (ms N c e) i K := by
  unfold brT
  rw [ei]
  exact ifB_e (K := fun e => K (ms N { c with pc := t } e)) k
theorem br_ok (W : WF L N c) (f : FE e) (q : fe L c.pc fun z => K { c with pc := tgt c.pc z }) : ∃ c' e', K c' ∧ WF L N c' ∧ FE e' ∧ ∀ Km : MS → Prop, Km (ms N c' e') → brW (ms N c e) Km := by
  obtain ⟨h1, h2, h3⟩ := fe_ok W q
  have hz := W.m c.pc
  have hb := W.big
  by_cases g : c.m c.pc < 128
  · have ht : tgt c.pc (c.m c.pc) = c.pc + 1 + c.m c.pc := by unfold tgt; rw [show Nat.blt (c.m c.pc) 128 = true by simp; assumption]
    rw [ht] at h3
    refine ⟨_, cond (Builtin.bitAnd ((c.pc + 1 : Nat) : Int) 65280 != Builtin.bitAnd (((c.pc + 1 : Nat) : Int) + (c.m c.pc : Int)) 65280) { e with ex := e.ex + 1 + 1 } { e with ex := e.ex + 1 }, h3, W.at (by lia), ?_, fun Km k => ?_⟩
    · cases (Builtin.bitAnd ((c.pc + 1 : Nat) : Int) 65280 != Builtin.bitAnd (((c.pc + 1 : Nat) : Int) + (c.m c.pc : Int)) 65280) <;> exact f
    · unfold brW
      refine rd_ok rfl h2 W.big ?_
      rw [g128 hz, decide_eq_false (by lia)]
      exact brT_ok (c := { c with pc := c.pc + 1 }) (e := { e with ex := e.ex + 1 }) (i := ((c.pc + 1 : Nat) : Int) + (c.m c.pc : Int)) (by rw [b_65535]; lia) k
  · have ht : tgt c.pc (c.m c.pc) = c.pc + 1 + c.m c.pc - 256 := by unfold tgt; rw [show Nat.blt (c.m c.pc) 128 = false by rw [Bool.eq_false_iff]; simp; lia]
    rw [ht] at h3
    refine ⟨_, cond (Builtin.bitAnd ((c.pc + 1 : Nat) : Int) 65280 != Builtin.bitAnd (((c.pc + 1 : Nat) : Int) - Builtin.bitXor (c.m c.pc : Int) 255 - 1) 65280) { e with ex := e.ex + 1 + 1 } { e with ex := e.ex + 1 }, h3, W.at (by lia), ?_, fun Km k => ?_⟩
    · cases (Builtin.bitAnd ((c.pc + 1 : Nat) : Int) 65280 != Builtin.bitAnd (((c.pc + 1 : Nat) : Int) - Builtin.bitXor (c.m c.pc : Int) 255 - 1) 65280) <;> exact f
    · unfold brW
      refine rd_ok rfl h2 W.big ?_
      rw [g128 hz, decide_eq_true (by lia)]
      have hx : Builtin.bitXor (c.m c.pc : Int) 255 = 255 - (c.m c.pc : Int) := by rw [bitXor_and, b_255]; lia
      exact brT_ok (c := { c with pc := c.pc + 1 }) (e := { e with ex := e.ex + 1 }) (i := ((c.pc + 1 : Nat) : Int) - Builtin.bitXor (c.m c.pc : Int) 255 - 1) (by rw [hx, b_65535]; (clear g; lia)) k
theorem done_br {op : Nat} {cy : Int} {b : Bool} {S : PV → Prop} (W : WF L N c) (f : FE e) (hp : c.pc ≤ 50000) (q : qBR L b c K) (ho : op < 256) (hS : ∀ Q, S Q = frm (op : Int) (ifB b (brW (ms N c e) fun m => fin (op : Int) cy Q m []) (inc ((1 : Nat) : Int) (fin (op : Int) cy Q) (ms N c e) []))) : Done L N K S := by
  have hk : okk (op : Int) := by unfold okk; lia
  cases b with
  | true =>
    obtain ⟨c', e', h1, h2, h3, h4⟩ := br_ok W f q
    refine ⟨c', { e' with cyc := e'.cyc + (cy + e'.ex) }, h1, h2, h3, fun Q k => ?_⟩
    rw [hS]
    exact ⟨hk, hk, h4 _ (fin_ok ho h2.pc k [])⟩
  | false =>
    refine ⟨_, { e with cyc := e.cyc + (cy + e.ex) }, q, W.at (by lia), f, fun Q k => ?_⟩
    rw [hS]
    exact ⟨hk, hk, inc_ok ho (by lia) k []⟩
noncomputable def to16 (l h : Nat) (K : Nat → Prop) : Prop := match Nat.ble (l + 256 * h) 50000 with | true => K (l + 256 * h) | false => False
theorem to16_ok {l h : Nat} {K : Nat → Prop} (q : to16 l h K) : l + 256 * h ≤ 50000 ∧ K (l + 256 * h) := by
  unfold to16 at q
  split at q
  · rename_i b; exact ⟨Nat.le_of_ble_eq_true b, q⟩
  · cases q
noncomputable def qJSR (L : List Nat) (c : Co) (K : Co → Prop) : Prop := fe L c.pc fun l => fe L (c.pc + 1) fun h => to16 l h fun t => K { c with m := up (up c.m (256 + c.sp) ((c.pc + 1) / 256)) (256 + (c.sp + 255) % 256) ((c.pc + 1) % 256), sp := ((c.sp + 255) % 256 + 255) % 256, pc := t }
theorem done_jsr {op : Nat} {cy : Int} {S : PV → Prop} (W : WF L N c) (f : FE e) (q : qJSR L c K) (ho : op < 256) (hS : ∀ Q, S Q = frm (op : Int) (0 ≤ (8 : Int) ∧ pushW (ms N c e) (Builtin.bitAnd ((Builtin.bitAnd ((ms N c e).pc + 1) 65535).fdiv (2 ^ (8 : Int).toNat)) 255) fun m₁ => pushW m₁ (Builtin.bitAnd (Builtin.bitAnd ((ms N c e).pc + 1) 65535) 255) fun m₂ => wordW m₂ m₂.pc fun w => fin (op : Int) cy Q { m₂ with pc := w } [])) : Done L N K S := by
  have hk : okk (op : Int) := by unfold okk; lia
  obtain ⟨h1, h2, h3⟩ := fe_ok W q
  obtain ⟨h4, h5, h6⟩ := fe_ok W h3
  obtain ⟨h7, h8⟩ := to16_ok h6
  have hb := W.big
  have e1 : Builtin.bitAnd ((ms N c e).pc + 1) 65535 = ((c.pc + 1 : Nat) : Int) := pc16 (p := c.pc) (n := 1) (by (clear h5; lia))
  have e2 : ((c.pc + 1 : Nat) : Int).fdiv (2 ^ (8 : Int).toNat) = (((c.pc + 1) / 256 : Nat) : Int) := by
    rw [show (2 : Int) ^ (8 : Int).toNat = 256 by rfl, Int.fdiv_eq_ediv_of_nonneg _ (by decide)]; lia
  have l1 : (c.pc + 1) / 256 < 256 := by lia
  have W1 := push_wf W l1
  have W2 := push_wf W1 (v := (c.pc + 1) % 256) (mod_lt _)
  have s1 := W.sp
  refine ⟨_, { e with cyc := e.cyc + (cy + e.ex) }, h8, W2.at (p := c.m c.pc + 256 * c.m (c.pc + 1)) (by lia), f, fun Q k => ?_⟩
  rw [hS, e1, e2]
  refine ⟨hk, hk, by decide, push_ok W (by rw [m_255, m_255, Nat.mod_eq_of_lt l1, Nat.mod_eq_of_lt l1]) (push_ok W1 (v := (c.pc + 1) % 256) (by rw [m_255, m_255, Nat.mod_mod]) (word_ok W2 rfl h5 ?_))⟩
  have g1 : up (up c.m (256 + c.sp) ((c.pc + 1) / 256)) (256 + (c.sp + 255) % 256) ((c.pc + 1) % 256) c.pc = c.m c.pc := by unfold up; rw [if_neg (by (clear h4; lia)), if_neg (by (clear h4; lia))]
  have g2 : up (up c.m (256 + c.sp) ((c.pc + 1) / 256)) (256 + (c.sp + 255) % 256) ((c.pc + 1) % 256) (c.pc + 1) = c.m (c.pc + 1) := by unfold up; rw [if_neg (by lia), if_neg (by lia)]
  show fin _ _ _ { ms N { c with m := up (up c.m (256 + c.sp) ((c.pc + 1) / 256)) (256 + (c.sp + 255) % 256) ((c.pc + 1) % 256), sp := ((c.sp + 255) % 256 + 255) % 256 } e with pc := ((up (up c.m (256 + c.sp) ((c.pc + 1) / 256)) (256 + (c.sp + 255) % 256) ((c.pc + 1) % 256) c.pc + 256 * up (up c.m (256 + c.sp) ((c.pc + 1) / 256)) (256 + (c.sp + 255) % 256) ((c.pc + 1) % 256) (c.pc + 1) : Nat) : Int) } []
  rw [g1, g2]
  exact fin_ok (c := { c with m := up (up c.m (256 + c.sp) ((c.pc + 1) / 256)) (256 + (c.sp + 255) % 256) ((c.pc + 1) % 256), sp := ((c.sp + 255) % 256 + 255) % 256, pc := c.m c.pc + 256 * c.m (c.pc + 1) }) ho (by dsimp only; lia) k []
noncomputable def qRTS (N : Nat) (c : Co) (K : Co → Prop) : Prop := (c.m (256 + (c.sp + 1) % 256) + 256 * c.m (256 + ((c.sp + 1) % 256 + 1) % 256) + 1 < N) ∧ K { c with sp := ((c.sp + 1) % 256 + 1) % 256, pc := c.m (256 + (c.sp + 1) % 256) + 256 * c.m (256 + ((c.sp + 1) % 256 + 1) % 256) + 1 }
theorem done_rts {op : Nat} {cy : Int} {S : PV → Prop} (W : WF L N c) (f : FE e) (q : qRTS N c K) (ho : op < 256) (hS : ∀ Q, S Q = frm (op : Int) (popW (ms N c e) fun z m₁ => popW m₁ fun u m₂ => shl u fun k => fin (op : Int) cy Q { m₂ with pc := z + k + 1 } [])) : Done L N K S := by
  have hk : okk (op : Int) := by unfold okk; lia
  have hb := W.big
  have W1 : WF L N { c with sp := (c.sp + 1) % 256 } := ⟨W.a, W.x, W.y, mod_lt _, W.m, W.fit, W.len, W.big, W.pc⟩
  refine ⟨_, { e with cyc := e.cyc + (cy + e.ex) }, q.2, ⟨W.a, W.x, W.y, mod_lt _, W.m, W.fit, W.len, W.big, by have := q.1; dsimp only; lia⟩, f, fun Q k => ?_⟩
  rw [hS]
  refine ⟨hk, hk, pop_ok W (pop_ok W1 (shl_ok (W.m _) ?_))⟩
  have e1 : ∀ a b : Nat, (a : Int) + ((256 * b : Nat) : Int) + 1 = ((a + 256 * b + 1 : Nat) : Int) := fun a b => by lia
  rw [e1]
  exact fin_ok (c := { c with sp := ((c.sp + 1) % 256 + 1) % 256, pc := c.m (256 + (c.sp + 1) % 256) + 256 * c.m (256 + ((c.sp + 1) % 256 + 1) % 256) + 1 }) ho (by have := q.1; dsimp only; lia) k []

end
end
end Mine

end
section
open PySem PySem.W PyProof.Rows
namespace Mine
noncomputable section
section
variable {L : List Nat} {N : Nat} {c : Co} {e : Ee} {K : Co → Prop}
theorem gp_1 : (Builtin.bitAnd (ms N c e).p 1 != 0) = c.c := g_1 _ _ _ _
theorem gp_2 : (Builtin.bitAnd (ms N c e).p 2 != 0) = c.z := g_2 _ _ _ _
theorem msE : ({ ms N c e with p := pOf c.n c.v c.z c.c } : MS) = ms N c e := rfl
theorem ifB_not {b : Bool} {A B : Prop} : ifB b A B = ifB (!b) B A := by cases b <;> rfl
end
noncomputable def OpF : Type := List Nat → Nat → Co → (Co → Prop) → Prop
noncomputable def opT : List (Nat × OpF) := [
  (160, fun L N c K => qLDY (rPC L) c (inK 1 K)),
  (208, fun L N c K => qBR L (!c.z) c K),
  (96, fun L N c K => qRTS N c K),
  (56, fun L N c K => qSEC c K),
  (165, fun L N c K => qLDA (rd (aZP L)) c (inK 1 K)),
  (133, fun L N c K => qSTA (aZP L) c (inK 1 K)),
  (32, fun L N c K => qJSR L c K),
  (230, fun L N c K => qINC (aZP L) c (inK 1 K)),
  (169, fun L N c K => qLDA (rPC L) c (inK 1 K)),
  (162, fun L N c K => qLDX (rPC L) c (inK 1 K)),
  (70, fun L N c K => qLSR (aZP L) c (inK 1 K)),
  (144, fun L N c K => qBR L (!c.c) c K),
  (24, fun L N c K => qCLC c K),
  (101, fun L N c K => qADC (rd (aZP L)) c (inK 1 K)),
  (106, fun L N c K => qRORA c K),
  (102, fun L N c K => qROR (aZP L) c (inK 1 K)),
  (202, fun L N c K => qDEX c K),
  (6, fun L N c K => qASL (aZP L) c (inK 1 K)),
  (38, fun L N c K => qROL (aZP L) c (inK 1 K)),
  (42, fun L N c K => qROLA c K),
  (197, fun L N c K => qCMP (rd (aZP L)) c.a c (inK 1 K)),
  (229, fun L N c K => qSBC (rd (aZP L)) c (inK 1 K)),
  (136, fun L N c K => qDEY c K),
  (185, fun L N c K => qLDA (rd (aAY L N)) c (inK 2 K)),
  (72, fun L N c K => qPHA c K),
  (104, fun L N c K => qPLA c K)]
noncomputable def opRun : List (Nat × OpF) → Nat → List Nat → Nat → Co → (Co → Prop) → Prop
  | [], _, _, _, _, _ => False
  | (k, f) :: r, n, L, N, c, K => match Nat.beq n k with
    | true => f L N c K
    | false => opRun r n L N c K
noncomputable def ox (L : List Nat) (N : Nat) (c : Co) (K : Co → Prop) (op : Nat) : Prop := opRun opT op L N c K
noncomputable def nx (L : List Nat) (N : Nat) (c : Co) (K : Co → Prop) : Prop := fe L c.pc fun op => ox L N { c with pc := c.pc + 1 } K op
section
variable {L : List Nat} {N : Nat} {b : Co} {e : Ee} {K : Co → Prop}
theorem d_a0 (W0 : WF L N b) (f : FE e) (hb : b.pc < N) (h : qLDY (rPC L) ({ b with pc := b.pc + 1 } : Co) (inK 1 K)) : Done L N K (fun Q => stp ((160 : Nat) : Int) (ms N b e) Q) := by
  have hB := W0.big
  have hp : b.pc ≤ 60000 := by lia
  have W := W0.at (p := b.pc + 1) (by lia)
  exact done_inc (op := 160) (cy := 2) (n := 1) (LDY_ok (e := ee e 0) PC_ok W (ee_ok f) h [.meth 92 0]) (by decide) (by dsimp only; lia) fun Q => (o_a0 (ms N b e) Q).trans (by rw [pre_eq hp]; rfl)
theorem d_d0 (W0 : WF L N b) (f : FE e) (hb : b.pc < N) (h : qBR L (!({ b with pc := b.pc + 1 } : Co).z) ({ b with pc := b.pc + 1 } : Co) K) : Done L N K (fun Q => stp ((208 : Nat) : Int) (ms N b e) Q) := by
  have hB := W0.big
  have hp : b.pc ≤ 60000 := by lia
  have W := W0.at (p := b.pc + 1) (by lia)
  exact done_br (op := 208) (cy := 2) (e := ee e 2) W (ee_ok f) (by dsimp only; lia) h (by decide) fun Q => (o_d0 (ms N b e) Q).trans (by rw [pre_eq hp, gp_2, ifB_not]; rfl)
theorem d_60 (W0 : WF L N b) (f : FE e) (hb : b.pc < N) (h : qRTS N ({ b with pc := b.pc + 1 } : Co) K) : Done L N K (fun Q => stp ((96 : Nat) : Int) (ms N b e) Q) := by
  have hB := W0.big
  have hp : b.pc ≤ 60000 := by lia
  have W := W0.at (p := b.pc + 1) (by lia)
  exact done_rts (op := 96) (cy := 6) (e := ee e 0) W (ee_ok f) h (by decide) fun Q => (o_60 (ms N b e) Q).trans (by rw [pre_eq hp]; rfl)
theorem d_38 (W0 : WF L N b) (f : FE e) (hb : b.pc < N) (h : qSEC ({ b with pc := b.pc + 1 } : Co) K) : Done L N K (fun Q => stp ((56 : Nat) : Int) (ms N b e) Q) := by
  have hB := W0.big
  have hp : b.pc ≤ 60000 := by lia
  have W := W0.at (p := b.pc + 1) (by lia)
  exact done_fin (op := 56) (cy := 2) (SEC_ok (e := ee e 0) W (ee_ok f) h) (by decide) (by dsimp only; lia) fun Q => (o_38 (ms N b e) Q).trans (by rw [pre_eq hp]; rfl)
theorem d_a5 (W0 : WF L N b) (f : FE e) (hb : b.pc < N) (h : qLDA (rd (aZP L)) ({ b with pc := b.pc + 1 } : Co) (inK 1 K)) : Done L N K (fun Q => stp ((165 : Nat) : Int) (ms N b e) Q) := by
  have hB := W0.big
  have hp : b.pc ≤ 60000 := by lia
  have W := W0.at (p := b.pc + 1) (by lia)
  exact done_inc (op := 165) (cy := 3) (n := 1) (LDA_ok (e := ee e 0) ZP_ok W (ee_ok f) h [.meth 106 0]) (by decide) (by dsimp only; lia) fun Q => (o_a5 (ms N b e) Q).trans (by rw [pre_eq hp]; rfl)
theorem d_85 (W0 : WF L N b) (f : FE e) (hb : b.pc < N) (h : qSTA (aZP L) ({ b with pc := b.pc + 1 } : Co) (inK 1 K)) : Done L N K (fun Q => stp ((133 : Nat) : Int) (ms N b e) Q) := by
  have hB := W0.big
  have hp : b.pc ≤ 60000 := by lia
  have W := W0.at (p := b.pc + 1) (by lia)
  exact done_inc (op := 133) (cy := 3) (n := 1) (STA_ok (e := ee e 0) ZP_a W (ee_ok f) h [.meth 106 0]) (by decide) (by dsimp only; lia) fun Q => (o_85 (ms N b e) Q).trans (by rw [pre_eq hp]; rfl)
theorem d_20 (W0 : WF L N b) (f : FE e) (hb : b.pc < N) (h : qJSR L ({ b with pc := b.pc + 1 } : Co) K) : Done L N K (fun Q => stp ((32 : Nat) : Int) (ms N b e) Q) := by
  have hB := W0.big
  have hp : b.pc ≤ 60000 := by lia
  have W := W0.at (p := b.pc + 1) (by lia)
  exact done_jsr (op := 32) (cy := 6) (e := ee e 0) W (ee_ok f) h (by decide) fun Q => (o_20 (ms N b e) Q).trans (by rw [pre_eq hp]; rfl)
theorem d_e6 (W0 : WF L N b) (f : FE e) (hb : b.pc < N) (h : qINC (aZP L) ({ b with pc := b.pc + 1 } : Co) (inK 1 K)) : Done L N K (fun Q => stp ((230 : Nat) : Int) (ms N b e) Q) := by
  have hB := W0.big
  have hp : b.pc ≤ 60000 := by lia
  have W := W0.at (p := b.pc + 1) (by lia)
  exact done_inc (op := 230) (cy := 5) (n := 1) (INC_ok (e := ee e 0) ZP_a W (ee_ok f) h [.meth 106 0]) (by decide) (by dsimp only; lia) fun Q => (o_e6 (ms N b e) Q).trans (by rw [pre_eq hp]; rfl)
theorem d_a9 (W0 : WF L N b) (f : FE e) (hb : b.pc < N) (h : qLDA (rPC L) ({ b with pc := b.pc + 1 } : Co) (inK 1 K)) : Done L N K (fun Q => stp ((169 : Nat) : Int) (ms N b e) Q) := by
  have hB := W0.big
  have hp : b.pc ≤ 60000 := by lia
  have W := W0.at (p := b.pc + 1) (by lia)
  exact done_inc (op := 169) (cy := 2) (n := 1) (LDA_ok (e := ee e 0) PC_ok W (ee_ok f) h [.meth 92 0]) (by decide) (by dsimp only; lia) fun Q => (o_a9 (ms N b e) Q).trans (by rw [pre_eq hp]; rfl)
theorem d_a2 (W0 : WF L N b) (f : FE e) (hb : b.pc < N) (h : qLDX (rPC L) ({ b with pc := b.pc + 1 } : Co) (inK 1 K)) : Done L N K (fun Q => stp ((162 : Nat) : Int) (ms N b e) Q) := by
  have hB := W0.big
  have hp : b.pc ≤ 60000 := by lia
  have W := W0.at (p := b.pc + 1) (by lia)
  exact done_inc (op := 162) (cy := 2) (n := 1) (LDX_ok (e := ee e 0) PC_ok W (ee_ok f) h [.meth 92 0]) (by decide) (by dsimp only; lia) fun Q => (o_a2 (ms N b e) Q).trans (by rw [pre_eq hp]; rfl)
theorem d_46 (W0 : WF L N b) (f : FE e) (hb : b.pc < N) (h : qLSR (aZP L) ({ b with pc := b.pc + 1 } : Co) (inK 1 K)) : Done L N K (fun Q => stp ((70 : Nat) : Int) (ms N b e) Q) := by
  have hB := W0.big
  have hp : b.pc ≤ 60000 := by lia
  have W := W0.at (p := b.pc + 1) (by lia)
  exact done_inc (op := 70) (cy := 5) (n := 1) (LSR_ok (e := ee e 0) ZP_a W (ee_ok f) h [.meth 106 0]) (by decide) (by dsimp only; lia) fun Q => (o_46 (ms N b e) Q).trans (by rw [pre_eq hp]; rfl)
theorem d_90 (W0 : WF L N b) (f : FE e) (hb : b.pc < N) (h : qBR L (!({ b with pc := b.pc + 1 } : Co).c) ({ b with pc := b.pc + 1 } : Co) K) : Done L N K (fun Q => stp ((144 : Nat) : Int) (ms N b e) Q) := by
  have hB := W0.big
  have hp : b.pc ≤ 60000 := by lia
  have W := W0.at (p := b.pc + 1) (by lia)
  exact done_br (op := 144) (cy := 2) (e := ee e 2) W (ee_ok f) (by dsimp only; lia) h (by decide) fun Q => (o_90 (ms N b e) Q).trans (by rw [pre_eq hp, gp_1, ifB_not]; rfl)
theorem d_18 (W0 : WF L N b) (f : FE e) (hb : b.pc < N) (h : qCLC ({ b with pc := b.pc + 1 } : Co) K) : Done L N K (fun Q => stp ((24 : Nat) : Int) (ms N b e) Q) := by
  have hB := W0.big
  have hp : b.pc ≤ 60000 := by lia
  have W := W0.at (p := b.pc + 1) (by lia)
  exact done_fin (op := 24) (cy := 2) (CLC_ok (e := ee e 0) W (ee_ok f) h) (by decide) (by dsimp only; lia) fun Q => (o_18 (ms N b e) Q).trans (by rw [pre_eq hp]; rfl)
theorem d_65 (W0 : WF L N b) (f : FE e) (hb : b.pc < N) (h : qADC (rd (aZP L)) ({ b with pc := b.pc + 1 } : Co) (inK 1 K)) : Done L N K (fun Q => stp ((101 : Nat) : Int) (ms N b e) Q) := by
  have hB := W0.big
  have hp : b.pc ≤ 60000 := by lia
  have W := W0.at (p := b.pc + 1) (by lia)
  exact done_inc (op := 101) (cy := 3) (n := 1) (ADC_ok (e := ee e 0) ZP_ok W (ee_ok f) h [.meth 106 0]) (by decide) (by dsimp only; lia) fun Q => (o_65 (ms N b e) Q b.n b.v b.z b.c).trans (by rw [msE, pre_eq hp]; rfl)
theorem d_6a (W0 : WF L N b) (f : FE e) (hb : b.pc < N) (h : qRORA ({ b with pc := b.pc + 1 } : Co) K) : Done L N K (fun Q => stp ((106 : Nat) : Int) (ms N b e) Q) := by
  have hB := W0.big
  have hp : b.pc ≤ 60000 := by lia
  have W := W0.at (p := b.pc + 1) (by lia)
  exact done_fin (op := 106) (cy := 2) (RORA_ok (e := ee e 0) W (ee_ok f) h) (by decide) (by dsimp only; lia) fun Q => (o_6a (ms N b e) Q).trans (by rw [pre_eq hp]; rfl)
theorem d_66 (W0 : WF L N b) (f : FE e) (hb : b.pc < N) (h : qROR (aZP L) ({ b with pc := b.pc + 1 } : Co) (inK 1 K)) : Done L N K (fun Q => stp ((102 : Nat) : Int) (ms N b e) Q) := by
  have hB := W0.big
  have hp : b.pc ≤ 60000 := by lia
  have W := W0.at (p := b.pc + 1) (by lia)
  exact done_inc (op := 102) (cy := 5) (n := 1) (ROR_ok (e := ee e 0) ZP_a W (ee_ok f) h [.meth 106 0]) (by decide) (by dsimp only; lia) fun Q => (o_66 (ms N b e) Q).trans (by rw [pre_eq hp]; rfl)
theorem d_ca (W0 : WF L N b) (f : FE e) (hb : b.pc < N) (h : qDEX ({ b with pc := b.pc + 1 } : Co) K) : Done L N K (fun Q => stp ((202 : Nat) : Int) (ms N b e) Q) := by
  have hB := W0.big
  have hp : b.pc ≤ 60000 := by lia
  have W := W0.at (p := b.pc + 1) (by lia)
  exact done_fin (op := 202) (cy := 2) (DEX_ok (e := ee e 0) W (ee_ok f) h) (by decide) (by dsimp only; lia) fun Q => (o_ca (ms N b e) Q).trans (by rw [pre_eq hp]; rfl)
theorem d_06 (W0 : WF L N b) (f : FE e) (hb : b.pc < N) (h : qASL (aZP L) ({ b with pc := b.pc + 1 } : Co) (inK 1 K)) : Done L N K (fun Q => stp ((6 : Nat) : Int) (ms N b e) Q) := by
  have hB := W0.big
  have hp : b.pc ≤ 60000 := by lia
  have W := W0.at (p := b.pc + 1) (by lia)
  exact done_inc (op := 6) (cy := 5) (n := 1) (ASL_ok (e := ee e 0) ZP_a W (ee_ok f) h [.meth 106 0]) (by decide) (by dsimp only; lia) fun Q => (o_06 (ms N b e) Q).trans (by rw [pre_eq hp]; rfl)
theorem d_26 (W0 : WF L N b) (f : FE e) (hb : b.pc < N) (h : qROL (aZP L) ({ b with pc := b.pc + 1 } : Co) (inK 1 K)) : Done L N K (fun Q => stp ((38 : Nat) : Int) (ms N b e) Q) := by
  have hB := W0.big
  have hp : b.pc ≤ 60000 := by lia
  have W := W0.at (p := b.pc + 1) (by lia)
  exact done_inc (op := 38) (cy := 5) (n := 1) (ROL_ok (e := ee e 0) ZP_a W (ee_ok f) h [.meth 106 0]) (by decide) (by dsimp only; lia) fun Q => (o_26 (ms N b e) Q).trans (by rw [pre_eq hp]; rfl)
theorem d_2a (W0 : WF L N b) (f : FE e) (hb : b.pc < N) (h : qROLA ({ b with pc := b.pc + 1 } : Co) K) : Done L N K (fun Q => stp ((42 : Nat) : Int) (ms N b e) Q) := by
  have hB := W0.big
  have hp : b.pc ≤ 60000 := by lia
  have W := W0.at (p := b.pc + 1) (by lia)
  exact done_fin (op := 42) (cy := 2) (ROLA_ok (e := ee e 0) W (ee_ok f) h) (by decide) (by dsimp only; lia) fun Q => (o_2a (ms N b e) Q).trans (by rw [pre_eq hp]; rfl)
theorem d_c5 (W0 : WF L N b) (f : FE e) (hb : b.pc < N) (h : qCMP (rd (aZP L)) ({ b with pc := b.pc + 1 } : Co).a ({ b with pc := b.pc + 1 } : Co) (inK 1 K)) : Done L N K (fun Q => stp ((197 : Nat) : Int) (ms N b e) Q) := by
  have hB := W0.big
  have hp : b.pc ≤ 60000 := by lia
  have W := W0.at (p := b.pc + 1) (by lia)
  exact done_inc (op := 197) (cy := 3) (n := 1) (CMP_ok (e := ee e 0) ZP_ok W (ee_ok f) W.a h [.meth 106 0]) (by decide) (by dsimp only; lia) fun Q => (o_c5 (ms N b e) Q).trans (by rw [pre_eq hp]; rfl)
theorem d_e5 (W0 : WF L N b) (f : FE e) (hb : b.pc < N) (h : qSBC (rd (aZP L)) ({ b with pc := b.pc + 1 } : Co) (inK 1 K)) : Done L N K (fun Q => stp ((229 : Nat) : Int) (ms N b e) Q) := by
  have hB := W0.big
  have hp : b.pc ≤ 60000 := by lia
  have W := W0.at (p := b.pc + 1) (by lia)
  exact done_inc (op := 229) (cy := 3) (n := 1) (SBC_ok (e := ee e 0) ZP_ok W (ee_ok f) h [.meth 106 0]) (by decide) (by dsimp only; lia) fun Q => (o_e5 (ms N b e) Q b.n b.v b.z b.c).trans (by rw [msE, pre_eq hp]; rfl)
theorem d_88 (W0 : WF L N b) (f : FE e) (hb : b.pc < N) (h : qDEY ({ b with pc := b.pc + 1 } : Co) K) : Done L N K (fun Q => stp ((136 : Nat) : Int) (ms N b e) Q) := by
  have hB := W0.big
  have hp : b.pc ≤ 60000 := by lia
  have W := W0.at (p := b.pc + 1) (by lia)
  exact done_fin (op := 136) (cy := 2) (DEY_ok (e := ee e 0) W (ee_ok f) h) (by decide) (by dsimp only; lia) fun Q => (o_88 (ms N b e) Q).trans (by rw [pre_eq hp]; rfl)
theorem d_b9 (W0 : WF L N b) (f : FE e) (hb : b.pc < N) (h : qLDA (rd (aAY L N)) ({ b with pc := b.pc + 1 } : Co) (inK 2 K)) : Done L N K (fun Q => stp ((185 : Nat) : Int) (ms N b e) Q) := by
  have hB := W0.big
  have hp : b.pc ≤ 60000 := by lia
  have W := W0.at (p := b.pc + 1) (by lia)
  exact done_inc (op := 185) (cy := 4) (n := 2) (LDA_ok (e := ee e 1) AY1_ok W (ee_ok f) h [.meth 155 0]) (by decide) (by dsimp only; lia) fun Q => (o_b9 (ms N b e) Q).trans (by rw [pre_eq hp]; rfl)
theorem d_48 (W0 : WF L N b) (f : FE e) (hb : b.pc < N) (h : qPHA ({ b with pc := b.pc + 1 } : Co) K) : Done L N K (fun Q => stp ((72 : Nat) : Int) (ms N b e) Q) := by
  have hB := W0.big
  have hp : b.pc ≤ 60000 := by lia
  have W := W0.at (p := b.pc + 1) (by lia)
  exact done_fin (op := 72) (cy := 3) (PHA_ok (e := ee e 0) W (ee_ok f) h) (by decide) (by dsimp only; lia) fun Q => (o_48 (ms N b e) Q).trans (by rw [pre_eq hp]; rfl)
theorem d_68 (W0 : WF L N b) (f : FE e) (hb : b.pc < N) (h : qPLA ({ b with pc := b.pc + 1 } : Co) K) : Done L N K (fun Q => stp ((104 : Nat) : Int) (ms N b e) Q) := by
  have hB := W0.big
  have hp : b.pc ≤ 60000 := by lia
  have W := W0.at (p := b.pc + 1) (by lia)
  exact done_fin (op := 104) (cy := 4) (PLA_ok (e := ee e 0) W (ee_ok f) h) (by decide) (by dsimp only; lia) fun Q => (o_68 (ms N b e) Q).trans (by rw [pre_eq hp]; rfl)
noncomputable def OpOk (k : Nat) (f : OpF) : Prop := ∀ {L : List Nat} {N : Nat} {b : Co} {e : Ee} {K : Co → Prop}, WF L N b → FE e → b.pc < N → f L N { b with pc := b.pc + 1 } K → Done L N K (fun Q => stp (k : Int) (ms N b e) Q)
noncomputable def OpsOk : List (Nat × OpF) → Prop
  | [] => True
  | (k, f) :: r => OpOk k f ∧ OpsOk r
theorem run_ok : ∀ {T : List (Nat × OpF)}, OpsOk T → ∀ {n : Nat}, OpOk n (opRun T n)
  | [], _, _ => fun _ _ _ h => h.elim
  | (k, f) :: r, h, n => fun W F l q => by
    unfold opRun at q
    cases g : Nat.beq n k with
    | true =>
      rw [g] at q
      obtain rfl := Nat.eq_of_beq_eq_true g
      exact h.1 W F l q
    | false =>
      rw [g] at q
      exact run_ok h.2 W F l q
theorem ops_ok : OpsOk opT := ⟨d_a0, d_d0, d_60, d_38, d_a5, d_85, d_20, d_e6, d_a9, d_a2, d_46, d_90, d_18, d_65, d_6a, d_66, d_ca, d_06, d_26, d_2a, d_c5, d_e5, d_88, d_b9, d_48, d_68, trivial⟩
theorem ox_ok (W : WF L N b) (f : FE e) (hb : b.pc < N) (op : Nat) (h : ox L N { b with pc := b.pc + 1 } K op) : Done L N K (fun Q => stp (op : Int) (ms N b e) Q) := run_ok ops_ok W f hb h
theorem nx_ok (W : WF L N b) (f : FE e) (h : nx L N b K) : 512 ≤ b.pc ∧ b.pc < 512 + L.length ∧ ∃ c' e', K c' ∧ WF L N c' ∧ FE e' ∧ Stp (ms N b e) (ms N c' e') := by
  have hin : 512 ≤ b.pc ∧ b.pc < 512 + L.length := by
    unfold nx fe at h
    split at h
    · rename_i q
      have q := Nat.le_of_ble_eq_true q
      split at h
      · rename_i x ex
        have := (List.getElem?_eq_some_iff.mp ex).1
        exact ⟨q, by lia⟩
      · cases h
    · cases h
  obtain ⟨h1, h2, h3⟩ := fe_ok W h
  obtain ⟨c', e', k1, k2, k3, k4⟩ := ox_ok W f h2 _ h3
  refine ⟨hin.1, hin.2, c', e', k1, k2, k3, fun Q hQ => ?_⟩
  rw [step_head]
  exact rd_ok rfl h2 W.big (k4 Q hQ)
end
end
end Mine
end
section
open PySem PySem.W PyProof.Rows
namespace Mine
noncomputable section
inductive Runs (L : List Nat) (N : Nat) : Nat → Co → Ee → Co → Ee → Prop
  | nil {c e} : Runs L N 0 c e c e
  | cons {k c e c' e' c'' e''} : 512 ≤ c.pc → c.pc < 512 + L.length → FE e → FE e' → Stp (ms N c e) (ms N c' e') → Runs L N k c' e' c'' e'' → Runs L N (k + 1) c e c'' e''
theorem Runs.app {L : List Nat} {N : Nat} {k j : Nat} {c c' c'' : Co} {e e' e'' : Ee} (h : Runs L N k c e c' e') (g : Runs L N j c' e' c'' e'') : Runs L N (j + k) c e c'' e'' := by
  induction h with
  | nil => exact g
  | cons a b f1 f2 s _ ih => exact .cons a b f1 f2 s (ih g)
noncomputable def Wi (L : List Nat) (N : Nat) (n : Nat) (c : Co) (Q : Co → Prop) : Prop := ∀ e, WF L N c → FE e → ∃ k c' e', k ≤ n ∧ Runs L N k c e c' e' ∧ WF L N c' ∧ FE e' ∧ Q c'
section
variable {L : List Nat} {N : Nat} {c : Co} {Q Q' : Co → Prop} {n m : Nat}
theorem Wi.ret (h : Q c) : Wi L N 0 c Q := fun e W f => ⟨0, c, e, Nat.le_refl _, .nil, W, f, h⟩
theorem Wi.bind (h : Wi L N n c Q) (g : ∀ c', WF L N c' → Q c' → Wi L N m c' Q') : Wi L N (n + m) c Q' := fun e W f => by
  refine El_eeeaaaa (h e W f) fun k c' e' h1 h2 h3 h4 h5 => ?_
  refine El_eeeaaaa (g c' h3 h5 e' h3 h4) fun k' c'' e'' g1 g2 g3 g4 g5 => ?_
  exact ⟨k' + k, c'', e'', by lia, h2.app g2, g3, g4, g5⟩
theorem Wi.le (h : Wi L N n c Q) (l : n ≤ m) : Wi L N m c Q := fun e W f => by
  refine El_eeea (h e W f) fun k c' e' h1 h2 => ?_
  exact ⟨k, c', e', by lia, h2⟩
theorem Wi.mono (h : Wi L N n c Q) (g : ∀ c', Q c' → Q' c') : Wi L N n c Q' := fun e W f => by
  refine El_eeeaaaa (h e W f) fun k c' e' h1 h2 h3 h4 h5 => ?_
  exact ⟨k, c', e', h1, h2, h3, h4, g _ h5⟩
theorem Wi.wf (h : WF L N c → Wi L N n c Q) : Wi L N n c Q := fun e W f => h W e W f
end
noncomputable def gs (L : List Nat) (N : Nat) : Nat → Co → (Co → Prop) → Prop
  | 0, c, Q => Q c
  | k + 1, c, Q => nx L N c fun c' => gs L N k c' Q
theorem gs_ok {L : List Nat} {N : Nat} : ∀ {k : Nat} {c : Co} {Q : Co → Prop}, gs L N k c Q → Wi L N k c Q
  | 0, c, Q, h => Wi.ret h
  | k + 1, c, Q, h => fun e W f => by
    refine El_aaeeaaa (nx_ok W f h) fun h1 h2 c' e' h3 h4 h5 h6 => ?_
    refine El_eeeaaaa (gs_ok h3 e' h4 h5) fun k' c'' e'' g1 g2 g3 g4 g5 => ?_
    exact ⟨k' + 1, c'', e'', by lia, .cons h1 h2 f h5 h6 g2, g3, g4, g5⟩
end
end Mine

end
section
open PySem PySem.W PyProof.Rows
namespace Mine
noncomputable section
noncomputable abbrev c02_1 (f ta tb sa sb : Nat) : List Nat := [169, 0, 162, 8, 70, f + 1, 144, 3, 24, 101, f, 106, 102, f + 1, 202, 208, 245, 96, 169, 0, 133, f + 4, 133, f + 5, 133, f + 6, 160, 8, 6, f + 2, 38, f + 3, 38, f + 4, 38, f + 5, 6, f + 2, 38, f + 3, 38, f + 4, 38, f + 5, 6, f + 6, 165, f + 6, 56, 42, 133, f + 7, 169, 0, 42, 133, f + 8, 165, f + 4, 197, f + 7, 165, f + 5, 229, f + 8, 144, 10, 133, f + 5, 165, f + 4, 229, f + 7, 133, f + 4, 230, f + 6, 136, 208, 204, 96, 169, 0, 133, f + 2, 133, f + 3, 160, 0, 185, ta, tb, 133, f, 185, sa, sb, 133, f + 1, 32, 0, 2, 72, 24, 165, f + 1, 101, f + 2, 133, f + 2, 104, 101, f + 3, 133, f + 3, 32, 18, 2]
noncomputable abbrev c02_2 (f ta tb sa sb : Nat) : List Nat := [169, 0, 162, 8, 70, f + 1, 144, 3, 24, 101, f, 106, 102, f + 1, 202, 208, 245, 96, 169, 0, 133, f + 4, 133, f + 5, 133, f + 6, 160, 8, 6, f + 2, 38, f + 3, 38, f + 4, 38, f + 5, 6, f + 2, 38, f + 3, 38, f + 4, 38, f + 5, 6, f + 6, 165, f + 6, 56, 42, 133, f + 7, 169, 0, 42, 133, f + 8, 165, f + 4, 197, f + 7, 165, f + 5, 229, f + 8, 144, 10, 133, f + 5, 165, f + 4, 229, f + 7, 133, f + 4, 230, f + 6, 136, 208, 204, 96, 169, 0, 133, f + 2, 133, f + 3, 160, 0, 185, ta, tb, 133, f, 185, sa, sb, 133, f + 1, 32, 0, 2, 72, 24, 165, f + 1, 101, f + 2, 133, f + 2, 104, 101, f + 3, 133, f + 3, 160, 1, 185, ta, tb, 133, f, 185, sa, sb, 133, f + 1, 32, 0, 2, 72, 24, 165, f + 1, 101, f + 2, 133, f + 2, 104, 101, f + 3, 133, f + 3, 32, 18, 2]
theorem m_0_1 (f ta tb sa sb : Nat) (a x yy sp : Nat) (n v z cc : Bool) (m : Nat → Nat) (Q : Co → Prop) : gs (c02_1 f ta tb sa sb) 1024 3 ⟨a, x, yy, sp, 512, n, v, z, cc, m⟩ Q = (Q ⟨0, 8, yy, sp, 518, false, v, decide ((m ((f + 1))) / 2 = 0), decide ((m ((f + 1))) % 2 = 1), (up m ((f + 1)) ((m ((f + 1))) / 2))⟩) := by kernel_rfl
theorem m_1_1 (f ta tb sa sb : Nat) (a x yy sp : Nat) (n v z : Bool) (m : Nat → Nat) (Q : Co → Prop) : gs (c02_1 f ta tb sa sb) 1024 7 ⟨a, x, yy, sp, 518, n, v, z, true, m⟩ Q = (ifB (!(decide ((x + 255) % 256 = 0))) (Q ⟨(((m f) + a + Bool.toNat false) % 256) / 2 + 128 * Bool.toNat (decide (256 ≤ ((m f) + a + Bool.toNat false))), (x + 255) % 256, yy, sp, 518, decide (128 ≤ (x + 255) % 256), adV a (m f) ((m f) + a + Bool.toNat false), decide ((x + 255) % 256 = 0), decide ((m ((f + 1))) % 2 = 1), (up m ((f + 1)) ((m ((f + 1))) / 2 + 128 * Bool.toNat (decide ((((m f) + a + Bool.toNat false) % 256) % 2 = 1))))⟩) (Q ⟨(((m f) + a + Bool.toNat false) % 256) / 2 + 128 * Bool.toNat (decide (256 ≤ ((m f) + a + Bool.toNat false))), (x + 255) % 256, yy, sp, 529, decide (128 ≤ (x + 255) % 256), adV a (m f) ((m f) + a + Bool.toNat false), decide ((x + 255) % 256 = 0), decide ((m ((f + 1))) % 2 = 1), (up m ((f + 1)) ((m ((f + 1))) / 2 + 128 * Bool.toNat (decide ((((m f) + a + Bool.toNat false) % 256) % 2 = 1))))⟩)) := by kernel_rfl
theorem m_2_1 (f ta tb sa sb : Nat) (a x yy sp : Nat) (n v z : Bool) (m : Nat → Nat) (Q : Co → Prop) : gs (c02_1 f ta tb sa sb) 1024 5 ⟨a, x, yy, sp, 518, n, v, z, false, m⟩ Q = (ifB (!(decide ((x + 255) % 256 = 0))) (Q ⟨a / 2 + 128 * Bool.toNat false, (x + 255) % 256, yy, sp, 518, decide (128 ≤ (x + 255) % 256), v, decide ((x + 255) % 256 = 0), decide ((m ((f + 1))) % 2 = 1), (up m ((f + 1)) ((m ((f + 1))) / 2 + 128 * Bool.toNat (decide (a % 2 = 1))))⟩) (Q ⟨a / 2 + 128 * Bool.toNat false, (x + 255) % 256, yy, sp, 529, decide (128 ≤ (x + 255) % 256), v, decide ((x + 255) % 256 = 0), decide ((m ((f + 1))) % 2 = 1), (up m ((f + 1)) ((m ((f + 1))) / 2 + 128 * Bool.toNat (decide (a % 2 = 1))))⟩)) := by kernel_rfl
theorem m_r_1 (f ta tb sa sb : Nat) (a x yy sp : Nat) (n v z cc : Bool) (m : Nat → Nat) (Q : Co → Prop) : gs (c02_1 f ta tb sa sb) 1024 1 ⟨a, x, yy, sp, 529, n, v, z, cc, m⟩ Q = ((m (256 + (sp + 1) % 256) + 256 * m (256 + ((sp + 1) % 256 + 1) % 256) + 1 < 1024) ∧ Q ⟨a, x, yy, ((sp + 1) % 256 + 1) % 256, m (256 + (sp + 1) % 256) + 256 * m (256 + ((sp + 1) % 256 + 1) % 256) + 1, n, v, z, cc, m⟩) := by kernel_rfl
theorem r_0_1 (f ta tb sa sb : Nat) (a x yy sp : Nat) (n v z cc : Bool) (m : Nat → Nat) (Q : Co → Prop) : gs (c02_1 f ta tb sa sb) 1024 5 ⟨a, x, yy, sp, 530, n, v, z, cc, m⟩ Q = (Q ⟨0, x, 8, sp, 540, decide (128 ≤ 8), v, decide (8 = 0), cc, (up (up (up m ((f + 4)) 0) ((f + 5)) 0) ((f + 6)) 0)⟩) := by kernel_rfl
theorem r_1_1 (f ta tb sa sb : Nat) (a x yy sp : Nat) (n v z cc : Bool) (m : Nat → Nat) (Q : Co → Prop) : gs (c02_1 f ta tb sa sb) 1024 4 ⟨a, x, yy, sp, 540, n, v, z, cc, m⟩ Q = (Q ⟨a, x, yy, sp, 548, decide (128 ≤ (2 * ((up (up (up m ((f + 2)) (2 * (m ((f + 2))) % 256)) ((f + 3)) ((2 * ((up m ((f + 2)) (2 * (m ((f + 2))) % 256)) ((f + 3))) + Bool.toNat (decide (128 ≤ m ((f + 2))))) % 256)) ((f + 4)) ((2 * ((up (up m ((f + 2)) (2 * (m ((f + 2))) % 256)) ((f + 3)) ((2 * ((up m ((f + 2)) (2 * (m ((f + 2))) % 256)) ((f + 3))) + Bool.toNat (decide (128 ≤ m ((f + 2))))) % 256)) ((f + 4))) + Bool.toNat (decide (128 ≤ (up m ((f + 2)) (2 * (m ((f + 2))) % 256)) ((f + 3))))) % 256)) ((f + 5))) + Bool.toNat (decide (128 ≤ (up (up m ((f + 2)) (2 * (m ((f + 2))) % 256)) ((f + 3)) ((2 * ((up m ((f + 2)) (2 * (m ((f + 2))) % 256)) ((f + 3))) + Bool.toNat (decide (128 ≤ m ((f + 2))))) % 256)) ((f + 4))))) % 256), v, decide ((2 * ((up (up (up m ((f + 2)) (2 * (m ((f + 2))) % 256)) ((f + 3)) ((2 * ((up m ((f + 2)) (2 * (m ((f + 2))) % 256)) ((f + 3))) + Bool.toNat (decide (128 ≤ m ((f + 2))))) % 256)) ((f + 4)) ((2 * ((up (up m ((f + 2)) (2 * (m ((f + 2))) % 256)) ((f + 3)) ((2 * ((up m ((f + 2)) (2 * (m ((f + 2))) % 256)) ((f + 3))) + Bool.toNat (decide (128 ≤ m ((f + 2))))) % 256)) ((f + 4))) + Bool.toNat (decide (128 ≤ (up m ((f + 2)) (2 * (m ((f + 2))) % 256)) ((f + 3))))) % 256)) ((f + 5))) + Bool.toNat (decide (128 ≤ (up (up m ((f + 2)) (2 * (m ((f + 2))) % 256)) ((f + 3)) ((2 * ((up m ((f + 2)) (2 * (m ((f + 2))) % 256)) ((f + 3))) + Bool.toNat (decide (128 ≤ m ((f + 2))))) % 256)) ((f + 4))))) % 256 = 0), decide (128 ≤ (up (up (up m ((f + 2)) (2 * (m ((f + 2))) % 256)) ((f + 3)) ((2 * ((up m ((f + 2)) (2 * (m ((f + 2))) % 256)) ((f + 3))) + Bool.toNat (decide (128 ≤ m ((f + 2))))) % 256)) ((f + 4)) ((2 * ((up (up m ((f + 2)) (2 * (m ((f + 2))) % 256)) ((f + 3)) ((2 * ((up m ((f + 2)) (2 * (m ((f + 2))) % 256)) ((f + 3))) + Bool.toNat (decide (128 ≤ m ((f + 2))))) % 256)) ((f + 4))) + Bool.toNat (decide (128 ≤ (up m ((f + 2)) (2 * (m ((f + 2))) % 256)) ((f + 3))))) % 256)) ((f + 5))), (up (up (up (up m ((f + 2)) (2 * (m ((f + 2))) % 256)) ((f + 3)) ((2 * ((up m ((f + 2)) (2 * (m ((f + 2))) % 256)) ((f + 3))) + Bool.toNat (decide (128 ≤ m ((f + 2))))) % 256)) ((f + 4)) ((2 * ((up (up m ((f + 2)) (2 * (m ((f + 2))) % 256)) ((f + 3)) ((2 * ((up m ((f + 2)) (2 * (m ((f + 2))) % 256)) ((f + 3))) + Bool.toNat (decide (128 ≤ m ((f + 2))))) % 256)) ((f + 4))) + Bool.toNat (decide (128 ≤ (up m ((f + 2)) (2 * (m ((f + 2))) % 256)) ((f + 3))))) % 256)) ((f + 5)) ((2 * ((up (up (up m ((f + 2)) (2 * (m ((f + 2))) % 256)) ((f + 3)) ((2 * ((up m ((f + 2)) (2 * (m ((f + 2))) % 256)) ((f + 3))) + Bool.toNat (decide (128 ≤ m ((f + 2))))) % 256)) ((f + 4)) ((2 * ((up (up m ((f + 2)) (2 * (m ((f + 2))) % 256)) ((f + 3)) ((2 * ((up m ((f + 2)) (2 * (m ((f + 2))) % 256)) ((f + 3))) + Bool.toNat (decide (128 ≤ m ((f + 2))))) % 256)) ((f + 4))) + Bool.toNat (decide (128 ≤ (up m ((f + 2)) (2 * (m ((f + 2))) % 256)) ((f + 3))))) % 256)) ((f + 5))) + Bool.toNat (decide (128 ≤ (up (up m ((f + 2)) (2 * (m ((f + 2))) % 256)) ((f + 3)) ((2 * ((up m ((f + 2)) (2 * (m ((f + 2))) % 256)) ((f + 3))) + Bool.toNat (decide (128 ≤ m ((f + 2))))) % 256)) ((f + 4))))) % 256))⟩) := by kernel_rfl
theorem r_2_1 (f ta tb sa sb : Nat) (a x yy sp : Nat) (n v z cc : Bool) (m : Nat → Nat) (Q : Co → Prop) : gs (c02_1 f ta tb sa sb) 1024 4 ⟨a, x, yy, sp, 548, n, v, z, cc, m⟩ Q = (Q ⟨a, x, yy, sp, 556, decide (128 ≤ (2 * ((up (up (up m ((f + 2)) (2 * (m ((f + 2))) % 256)) ((f + 3)) ((2 * ((up m ((f + 2)) (2 * (m ((f + 2))) % 256)) ((f + 3))) + Bool.toNat (decide (128 ≤ m ((f + 2))))) % 256)) ((f + 4)) ((2 * ((up (up m ((f + 2)) (2 * (m ((f + 2))) % 256)) ((f + 3)) ((2 * ((up m ((f + 2)) (2 * (m ((f + 2))) % 256)) ((f + 3))) + Bool.toNat (decide (128 ≤ m ((f + 2))))) % 256)) ((f + 4))) + Bool.toNat (decide (128 ≤ (up m ((f + 2)) (2 * (m ((f + 2))) % 256)) ((f + 3))))) % 256)) ((f + 5))) + Bool.toNat (decide (128 ≤ (up (up m ((f + 2)) (2 * (m ((f + 2))) % 256)) ((f + 3)) ((2 * ((up m ((f + 2)) (2 * (m ((f + 2))) % 256)) ((f + 3))) + Bool.toNat (decide (128 ≤ m ((f + 2))))) % 256)) ((f + 4))))) % 256), v, decide ((2 * ((up (up (up m ((f + 2)) (2 * (m ((f + 2))) % 256)) ((f + 3)) ((2 * ((up m ((f + 2)) (2 * (m ((f + 2))) % 256)) ((f + 3))) + Bool.toNat (decide (128 ≤ m ((f + 2))))) % 256)) ((f + 4)) ((2 * ((up (up m ((f + 2)) (2 * (m ((f + 2))) % 256)) ((f + 3)) ((2 * ((up m ((f + 2)) (2 * (m ((f + 2))) % 256)) ((f + 3))) + Bool.toNat (decide (128 ≤ m ((f + 2))))) % 256)) ((f + 4))) + Bool.toNat (decide (128 ≤ (up m ((f + 2)) (2 * (m ((f + 2))) % 256)) ((f + 3))))) % 256)) ((f + 5))) + Bool.toNat (decide (128 ≤ (up (up m ((f + 2)) (2 * (m ((f + 2))) % 256)) ((f + 3)) ((2 * ((up m ((f + 2)) (2 * (m ((f + 2))) % 256)) ((f + 3))) + Bool.toNat (decide (128 ≤ m ((f + 2))))) % 256)) ((f + 4))))) % 256 = 0), decide (128 ≤ (up (up (up m ((f + 2)) (2 * (m ((f + 2))) % 256)) ((f + 3)) ((2 * ((up m ((f + 2)) (2 * (m ((f + 2))) % 256)) ((f + 3))) + Bool.toNat (decide (128 ≤ m ((f + 2))))) % 256)) ((f + 4)) ((2 * ((up (up m ((f + 2)) (2 * (m ((f + 2))) % 256)) ((f + 3)) ((2 * ((up m ((f + 2)) (2 * (m ((f + 2))) % 256)) ((f + 3))) + Bool.toNat (decide (128 ≤ m ((f + 2))))) % 256)) ((f + 4))) + Bool.toNat (decide (128 ≤ (up m ((f + 2)) (2 * (m ((f + 2))) % 256)) ((f + 3))))) % 256)) ((f + 5))), (up (up (up (up m ((f + 2)) (2 * (m ((f + 2))) % 256)) ((f + 3)) ((2 * ((up m ((f + 2)) (2 * (m ((f + 2))) % 256)) ((f + 3))) + Bool.toNat (decide (128 ≤ m ((f + 2))))) % 256)) ((f + 4)) ((2 * ((up (up m ((f + 2)) (2 * (m ((f + 2))) % 256)) ((f + 3)) ((2 * ((up m ((f + 2)) (2 * (m ((f + 2))) % 256)) ((f + 3))) + Bool.toNat (decide (128 ≤ m ((f + 2))))) % 256)) ((f + 4))) + Bool.toNat (decide (128 ≤ (up m ((f + 2)) (2 * (m ((f + 2))) % 256)) ((f + 3))))) % 256)) ((f + 5)) ((2 * ((up (up (up m ((f + 2)) (2 * (m ((f + 2))) % 256)) ((f + 3)) ((2 * ((up m ((f + 2)) (2 * (m ((f + 2))) % 256)) ((f + 3))) + Bool.toNat (decide (128 ≤ m ((f + 2))))) % 256)) ((f + 4)) ((2 * ((up (up m ((f + 2)) (2 * (m ((f + 2))) % 256)) ((f + 3)) ((2 * ((up m ((f + 2)) (2 * (m ((f + 2))) % 256)) ((f + 3))) + Bool.toNat (decide (128 ≤ m ((f + 2))))) % 256)) ((f + 4))) + Bool.toNat (decide (128 ≤ (up m ((f + 2)) (2 * (m ((f + 2))) % 256)) ((f + 3))))) % 256)) ((f + 5))) + Bool.toNat (decide (128 ≤ (up (up m ((f + 2)) (2 * (m ((f + 2))) % 256)) ((f + 3)) ((2 * ((up m ((f + 2)) (2 * (m ((f + 2))) % 256)) ((f + 3))) + Bool.toNat (decide (128 ≤ m ((f + 2))))) % 256)) ((f + 4))))) % 256))⟩) := by kernel_rfl
theorem r_3_1 (f ta tb sa sb : Nat) (a x yy sp : Nat) (n v z cc : Bool) (m : Nat → Nat) (Q : Co → Prop) : gs (c02_1 f ta tb sa sb) 1024 8 ⟨a, x, yy, sp, 556, n, v, z, cc, m⟩ Q = (Q ⟨(2 * 0 + Bool.toNat (decide (128 ≤ (up m ((f + 6)) (2 * (m ((f + 6))) % 256)) ((f + 6))))) % 256, x, yy, sp, 569, decide (128 ≤ (2 * 0 + Bool.toNat (decide (128 ≤ (up m ((f + 6)) (2 * (m ((f + 6))) % 256)) ((f + 6))))) % 256), v, decide ((2 * 0 + Bool.toNat (decide (128 ≤ (up m ((f + 6)) (2 * (m ((f + 6))) % 256)) ((f + 6))))) % 256 = 0), decide (128 ≤ 0), (up (up (up m ((f + 6)) (2 * (m ((f + 6))) % 256)) ((f + 7)) ((2 * ((up m ((f + 6)) (2 * (m ((f + 6))) % 256)) ((f + 6))) + Bool.toNat true) % 256)) ((f + 8)) ((2 * 0 + Bool.toNat (decide (128 ≤ (up m ((f + 6)) (2 * (m ((f + 6))) % 256)) ((f + 6))))) % 256))⟩) := by kernel_rfl
theorem r_4_1 (f ta tb sa sb : Nat) (a x yy sp : Nat) (n v z cc : Bool) (m : Nat → Nat) (Q : Co → Prop) : gs (c02_1 f ta tb sa sb) 1024 5 ⟨a, x, yy, sp, 569, n, v, z, cc, m⟩ Q = (ifB (!(decide (256 ≤ ((m ((f + 5))) + (255 - (m ((f + 8)))) + Bool.toNat (decide (m ((f + 7)) ≤ m ((f + 4)))))))) (Q ⟨((m ((f + 5))) + (255 - (m ((f + 8)))) + Bool.toNat (decide (m ((f + 7)) ≤ m ((f + 4))))) % 256, x, yy, sp, 589, decide (128 ≤ ((m ((f + 5))) + (255 - (m ((f + 8)))) + Bool.toNat (decide (m ((f + 7)) ≤ m ((f + 4))))) % 256), sbV (m ((f + 5))) (m ((f + 8))) ((m ((f + 5))) + (255 - (m ((f + 8)))) + Bool.toNat (decide (m ((f + 7)) ≤ m ((f + 4))))), decide (((m ((f + 5))) + (255 - (m ((f + 8)))) + Bool.toNat (decide (m ((f + 7)) ≤ m ((f + 4))))) % 256 = 0), decide (256 ≤ ((m ((f + 5))) + (255 - (m ((f + 8)))) + Bool.toNat (decide (m ((f + 7)) ≤ m ((f + 4)))))), m⟩) (Q ⟨((m ((f + 5))) + (255 - (m ((f + 8)))) + Bool.toNat (decide (m ((f + 7)) ≤ m ((f + 4))))) % 256, x, yy, sp, 579, decide (128 ≤ ((m ((f + 5))) + (255 - (m ((f + 8)))) + Bool.toNat (decide (m ((f + 7)) ≤ m ((f + 4))))) % 256), sbV (m ((f + 5))) (m ((f + 8))) ((m ((f + 5))) + (255 - (m ((f + 8)))) + Bool.toNat (decide (m ((f + 7)) ≤ m ((f + 4))))), decide (((m ((f + 5))) + (255 - (m ((f + 8)))) + Bool.toNat (decide (m ((f + 7)) ≤ m ((f + 4))))) % 256 = 0), decide (256 ≤ ((m ((f + 5))) + (255 - (m ((f + 8)))) + Bool.toNat (decide (m ((f + 7)) ≤ m ((f + 4)))))), m⟩)) := by kernel_rfl
theorem r_5_1 (f ta tb sa sb : Nat) (a x yy sp : Nat) (n v z cc : Bool) (m : Nat → Nat) (Q : Co → Prop) : gs (c02_1 f ta tb sa sb) 1024 5 ⟨a, x, yy, sp, 579, n, v, z, cc, m⟩ Q = (Q ⟨(((up m ((f + 5)) a) ((f + 4))) + (255 - ((up m ((f + 5)) a) ((f + 7)))) + Bool.toNat cc) % 256, x, yy, sp, 589, decide (128 ≤ ((up (up m ((f + 5)) a) ((f + 4)) ((((up m ((f + 5)) a) ((f + 4))) + (255 - ((up m ((f + 5)) a) ((f + 7)))) + Bool.toNat cc) % 256)) ((f + 6)) + 1) % 256), sbV ((up m ((f + 5)) a) ((f + 4))) ((up m ((f + 5)) a) ((f + 7))) (((up m ((f + 5)) a) ((f + 4))) + (255 - ((up m ((f + 5)) a) ((f + 7)))) + Bool.toNat cc), decide (((up (up m ((f + 5)) a) ((f + 4)) ((((up m ((f + 5)) a) ((f + 4))) + (255 - ((up m ((f + 5)) a) ((f + 7)))) + Bool.toNat cc) % 256)) ((f + 6)) + 1) % 256 = 0), decide (256 ≤ (((up m ((f + 5)) a) ((f + 4))) + (255 - ((up m ((f + 5)) a) ((f + 7)))) + Bool.toNat cc)), (up (up (up m ((f + 5)) a) ((f + 4)) ((((up m ((f + 5)) a) ((f + 4))) + (255 - ((up m ((f + 5)) a) ((f + 7)))) + Bool.toNat cc) % 256)) ((f + 6)) (((up (up m ((f + 5)) a) ((f + 4)) ((((up m ((f + 5)) a) ((f + 4))) + (255 - ((up m ((f + 5)) a) ((f + 7)))) + Bool.toNat cc) % 256)) ((f + 6)) + 1) % 256))⟩) := by kernel_rfl
theorem r_6_1 (f ta tb sa sb : Nat) (a x yy sp : Nat) (n v z cc : Bool) (m : Nat → Nat) (Q : Co → Prop) : gs (c02_1 f ta tb sa sb) 1024 2 ⟨a, x, yy, sp, 589, n, v, z, cc, m⟩ Q = (ifB (!(decide ((yy + 255) % 256 = 0))) (Q ⟨a, x, (yy + 255) % 256, sp, 540, decide (128 ≤ (yy + 255) % 256), v, decide ((yy + 255) % 256 = 0), cc, m⟩) (Q ⟨a, x, (yy + 255) % 256, sp, 592, decide (128 ≤ (yy + 255) % 256), v, decide ((yy + 255) % 256 = 0), cc, m⟩)) := by kernel_rfl
theorem r_r_1 (f ta tb sa sb : Nat) (a x yy sp : Nat) (n v z cc : Bool) (m : Nat → Nat) (Q : Co → Prop) : gs (c02_1 f ta tb sa sb) 1024 1 ⟨a, x, yy, sp, 592, n, v, z, cc, m⟩ Q = ((m (256 + (sp + 1) % 256) + 256 * m (256 + ((sp + 1) % 256 + 1) % 256) + 1 < 1024) ∧ Q ⟨a, x, yy, ((sp + 1) % 256 + 1) % 256, m (256 + (sp + 1) % 256) + 256 * m (256 + ((sp + 1) % 256 + 1) % 256) + 1, n, v, z, cc, m⟩) := by kernel_rfl
theorem a_0_1 (f ta tb sa sb : Nat) (a x yy sp : Nat) (n v z cc : Bool) (m : Nat → Nat) (Q : Co → Prop) : gs (c02_1 f ta tb sa sb) 1024 3 ⟨a, x, yy, sp, 593, n, v, z, cc, m⟩ Q = (Q ⟨0, x, yy, sp, 599, decide (128 ≤ 0), v, decide (0 = 0), cc, (up (up m ((f + 2)) 0) ((f + 3)) 0)⟩) := by kernel_rfl
theorem a_1_1 (f ta tb sa sb : Nat) (a x yy sp : Nat) (n v z cc : Bool) (m : Nat → Nat) (Q : Co → Prop) : gs (c02_1 f ta tb sa sb) 1024 6 ⟨a, x, yy, sp, 599, n, v, z, cc, m⟩ Q = ((ta + 256 * tb + 0 < 1024) ∧ (sa + 256 * sb + 0 < 1024) ∧ Q ⟨(up m f (m (ta + 256 * tb + 0))) (sa + 256 * sb + 0), x, 0, ((sp + 255) % 256 + 255) % 256, 512, decide (128 ≤ (up m f (m (ta + 256 * tb + 0))) (sa + 256 * sb + 0)), v, decide ((up m f (m (ta + 256 * tb + 0))) (sa + 256 * sb + 0) = 0), cc, (up (up (up (up m f (m (ta + 256 * tb + 0))) ((f + 1)) ((up m f (m (ta + 256 * tb + 0))) (sa + 256 * sb + 0))) (256 + sp) 2) (256 + (sp + 255) % 256) 101)⟩) := by kernel_rfl
theorem a_2_1 (f ta tb sa sb : Nat) (a x yy sp : Nat) (n v z cc : Bool) (m : Nat → Nat) (Q : Co → Prop) : gs (c02_1 f ta tb sa sb) 1024 8 ⟨a, x, yy, sp, 614, n, v, z, cc, m⟩ Q = (Q ⟨(((up (up m (256 + sp) a) ((f + 2)) ((((up m (256 + sp) a) ((f + 2))) + ((up m (256 + sp) a) ((f + 1))) + Bool.toNat false) % 256)) ((f + 3))) + ((up (up m (256 + sp) a) ((f + 2)) ((((up m (256 + sp) a) ((f + 2))) + ((up m (256 + sp) a) ((f + 1))) + Bool.toNat false) % 256)) (256 + (((sp + 255) % 256) + 1) % 256)) + Bool.toNat (decide (256 ≤ (((up m (256 + sp) a) ((f + 2))) + ((up m (256 + sp) a) ((f + 1))) + Bool.toNat false)))) % 256, x, yy, (((sp + 255) % 256) + 1) % 256, 627, decide (128 ≤ (((up (up m (256 + sp) a) ((f + 2)) ((((up m (256 + sp) a) ((f + 2))) + ((up m (256 + sp) a) ((f + 1))) + Bool.toNat false) % 256)) ((f + 3))) + ((up (up m (256 + sp) a) ((f + 2)) ((((up m (256 + sp) a) ((f + 2))) + ((up m (256 + sp) a) ((f + 1))) + Bool.toNat false) % 256)) (256 + (((sp + 255) % 256) + 1) % 256)) + Bool.toNat (decide (256 ≤ (((up m (256 + sp) a) ((f + 2))) + ((up m (256 + sp) a) ((f + 1))) + Bool.toNat false)))) % 256), adV ((up (up m (256 + sp) a) ((f + 2)) ((((up m (256 + sp) a) ((f + 2))) + ((up m (256 + sp) a) ((f + 1))) + Bool.toNat false) % 256)) (256 + (((sp + 255) % 256) + 1) % 256)) ((up (up m (256 + sp) a) ((f + 2)) ((((up m (256 + sp) a) ((f + 2))) + ((up m (256 + sp) a) ((f + 1))) + Bool.toNat false) % 256)) ((f + 3))) (((up (up m (256 + sp) a) ((f + 2)) ((((up m (256 + sp) a) ((f + 2))) + ((up m (256 + sp) a) ((f + 1))) + Bool.toNat false) % 256)) ((f + 3))) + ((up (up m (256 + sp) a) ((f + 2)) ((((up m (256 + sp) a) ((f + 2))) + ((up m (256 + sp) a) ((f + 1))) + Bool.toNat false) % 256)) (256 + (((sp + 255) % 256) + 1) % 256)) + Bool.toNat (decide (256 ≤ (((up m (256 + sp) a) ((f + 2))) + ((up m (256 + sp) a) ((f + 1))) + Bool.toNat false)))), decide ((((up (up m (256 + sp) a) ((f + 2)) ((((up m (256 + sp) a) ((f + 2))) + ((up m (256 + sp) a) ((f + 1))) + Bool.toNat false) % 256)) ((f + 3))) + ((up (up m (256 + sp) a) ((f + 2)) ((((up m (256 + sp) a) ((f + 2))) + ((up m (256 + sp) a) ((f + 1))) + Bool.toNat false) % 256)) (256 + (((sp + 255) % 256) + 1) % 256)) + Bool.toNat (decide (256 ≤ (((up m (256 + sp) a) ((f + 2))) + ((up m (256 + sp) a) ((f + 1))) + Bool.toNat false)))) % 256 = 0), decide (256 ≤ (((up (up m (256 + sp) a) ((f + 2)) ((((up m (256 + sp) a) ((f + 2))) + ((up m (256 + sp) a) ((f + 1))) + Bool.toNat false) % 256)) ((f + 3))) + ((up (up m (256 + sp) a) ((f + 2)) ((((up m (256 + sp) a) ((f + 2))) + ((up m (256 + sp) a) ((f + 1))) + Bool.toNat false) % 256)) (256 + (((sp + 255) % 256) + 1) % 256)) + Bool.toNat (decide (256 ≤ (((up m (256 + sp) a) ((f + 2))) + ((up m (256 + sp) a) ((f + 1))) + Bool.toNat false))))), (up (up (up m (256 + sp) a) ((f + 2)) ((((up m (256 + sp) a) ((f + 2))) + ((up m (256 + sp) a) ((f + 1))) + Bool.toNat false) % 256)) ((f + 3)) ((((up (up m (256 + sp) a) ((f + 2)) ((((up m (256 + sp) a) ((f + 2))) + ((up m (256 + sp) a) ((f + 1))) + Bool.toNat false) % 256)) ((f + 3))) + ((up (up m (256 + sp) a) ((f + 2)) ((((up m (256 + sp) a) ((f + 2))) + ((up m (256 + sp) a) ((f + 1))) + Bool.toNat false) % 256)) (256 + (((sp + 255) % 256) + 1) % 256)) + Bool.toNat (decide (256 ≤ (((up m (256 + sp) a) ((f + 2))) + ((up m (256 + sp) a) ((f + 1))) + Bool.toNat false)))) % 256))⟩) := by kernel_rfl
theorem a_9_1 (f ta tb sa sb : Nat) (a x yy sp : Nat) (n v z cc : Bool) (m : Nat → Nat) (Q : Co → Prop) : gs (c02_1 f ta tb sa sb) 1024 1 ⟨a, x, yy, sp, 627, n, v, z, cc, m⟩ Q = (Q ⟨a, x, yy, ((sp + 255) % 256 + 255) % 256, 530, n, v, z, cc, (up (up m (256 + sp) 2) (256 + (sp + 255) % 256) 117)⟩) := by kernel_rfl
theorem m_0_2 (f ta tb sa sb : Nat) (a x yy sp : Nat) (n v z cc : Bool) (m : Nat → Nat) (Q : Co → Prop) : gs (c02_2 f ta tb sa sb) 1024 3 ⟨a, x, yy, sp, 512, n, v, z, cc, m⟩ Q = (Q ⟨0, 8, yy, sp, 518, false, v, decide ((m ((f + 1))) / 2 = 0), decide ((m ((f + 1))) % 2 = 1), (up m ((f + 1)) ((m ((f + 1))) / 2))⟩) := by kernel_rfl
theorem m_1_2 (f ta tb sa sb : Nat) (a x yy sp : Nat) (n v z : Bool) (m : Nat → Nat) (Q : Co → Prop) : gs (c02_2 f ta tb sa sb) 1024 7 ⟨a, x, yy, sp, 518, n, v, z, true, m⟩ Q = (ifB (!(decide ((x + 255) % 256 = 0))) (Q ⟨(((m f) + a + Bool.toNat false) % 256) / 2 + 128 * Bool.toNat (decide (256 ≤ ((m f) + a + Bool.toNat false))), (x + 255) % 256, yy, sp, 518, decide (128 ≤ (x + 255) % 256), adV a (m f) ((m f) + a + Bool.toNat false), decide ((x + 255) % 256 = 0), decide ((m ((f + 1))) % 2 = 1), (up m ((f + 1)) ((m ((f + 1))) / 2 + 128 * Bool.toNat (decide ((((m f) + a + Bool.toNat false) % 256) % 2 = 1))))⟩) (Q ⟨(((m f) + a + Bool.toNat false) % 256) / 2 + 128 * Bool.toNat (decide (256 ≤ ((m f) + a + Bool.toNat false))), (x + 255) % 256, yy, sp, 529, decide (128 ≤ (x + 255) % 256), adV a (m f) ((m f) + a + Bool.toNat false), decide ((x + 255) % 256 = 0), decide ((m ((f + 1))) % 2 = 1), (up m ((f + 1)) ((m ((f + 1))) / 2 + 128 * Bool.toNat (decide ((((m f) + a + Bool.toNat false) % 256) % 2 = 1))))⟩)) := by kernel_rfl
theorem m_2_2 (f ta tb sa sb : Nat) (a x yy sp : Nat) (n v z : Bool) (m : Nat → Nat) (Q : Co → Prop) : gs (c02_2 f ta tb sa sb) 1024 5 ⟨a, x, yy, sp, 518, n, v, z, false, m⟩ Q = (ifB (!(decide ((x + 255) % 256 = 0))) (Q ⟨a / 2 + 128 * Bool.toNat false, (x + 255) % 256, yy, sp, 518, decide (128 ≤ (x + 255) % 256), v, decide ((x + 255) % 256 = 0), decide ((m ((f + 1))) % 2 = 1), (up m ((f + 1)) ((m ((f + 1))) / 2 + 128 * Bool.toNat (decide (a % 2 = 1))))⟩) (Q ⟨a / 2 + 128 * Bool.toNat false, (x + 255) % 256, yy, sp, 529, decide (128 ≤ (x + 255) % 256), v, decide ((x + 255) % 256 = 0), decide ((m ((f + 1))) % 2 = 1), (up m ((f + 1)) ((m ((f + 1))) / 2 + 128 * Bool.toNat (decide (a % 2 = 1))))⟩)) := by kernel_rfl
theorem m_r_2 (f ta tb sa sb : Nat) (a x yy sp : Nat) (n v z cc : Bool) (m : Nat → Nat) (Q : Co → Prop) : gs (c02_2 f ta tb sa sb) 1024 1 ⟨a, x, yy, sp, 529, n, v, z, cc, m⟩ Q = ((m (256 + (sp + 1) % 256) + 256 * m (256 + ((sp + 1) % 256 + 1) % 256) + 1 < 1024) ∧ Q ⟨a, x, yy, ((sp + 1) % 256 + 1) % 256, m (256 + (sp + 1) % 256) + 256 * m (256 + ((sp + 1) % 256 + 1) % 256) + 1, n, v, z, cc, m⟩) := by kernel_rfl
theorem r_0_2 (f ta tb sa sb : Nat) (a x yy sp : Nat) (n v z cc : Bool) (m : Nat → Nat) (Q : Co → Prop) : gs (c02_2 f ta tb sa sb) 1024 5 ⟨a, x, yy, sp, 530, n, v, z, cc, m⟩ Q = (Q ⟨0, x, 8, sp, 540, decide (128 ≤ 8), v, decide (8 = 0), cc, (up (up (up m ((f + 4)) 0) ((f + 5)) 0) ((f + 6)) 0)⟩) := by kernel_rfl
theorem r_1_2 (f ta tb sa sb : Nat) (a x yy sp : Nat) (n v z cc : Bool) (m : Nat → Nat) (Q : Co → Prop) : gs (c02_2 f ta tb sa sb) 1024 4 ⟨a, x, yy, sp, 540, n, v, z, cc, m⟩ Q = (Q ⟨a, x, yy, sp, 548, decide (128 ≤ (2 * ((up (up (up m ((f + 2)) (2 * (m ((f + 2))) % 256)) ((f + 3)) ((2 * ((up m ((f + 2)) (2 * (m ((f + 2))) % 256)) ((f + 3))) + Bool.toNat (decide (128 ≤ m ((f + 2))))) % 256)) ((f + 4)) ((2 * ((up (up m ((f + 2)) (2 * (m ((f + 2))) % 256)) ((f + 3)) ((2 * ((up m ((f + 2)) (2 * (m ((f + 2))) % 256)) ((f + 3))) + Bool.toNat (decide (128 ≤ m ((f + 2))))) % 256)) ((f + 4))) + Bool.toNat (decide (128 ≤ (up m ((f + 2)) (2 * (m ((f + 2))) % 256)) ((f + 3))))) % 256)) ((f + 5))) + Bool.toNat (decide (128 ≤ (up (up m ((f + 2)) (2 * (m ((f + 2))) % 256)) ((f + 3)) ((2 * ((up m ((f + 2)) (2 * (m ((f + 2))) % 256)) ((f + 3))) + Bool.toNat (decide (128 ≤ m ((f + 2))))) % 256)) ((f + 4))))) % 256), v, decide ((2 * ((up (up (up m ((f + 2)) (2 * (m ((f + 2))) % 256)) ((f + 3)) ((2 * ((up m ((f + 2)) (2 * (m ((f + 2))) % 256)) ((f + 3))) + Bool.toNat (decide (128 ≤ m ((f + 2))))) % 256)) ((f + 4)) ((2 * ((up (up m ((f + 2)) (2 * (m ((f + 2))) % 256)) ((f + 3)) ((2 * ((up m ((f + 2)) (2 * (m ((f + 2))) % 256)) ((f + 3))) + Bool.toNat (decide (128 ≤ m ((f + 2))))) % 256)) ((f + 4))) + Bool.toNat (decide (128 ≤ (up m ((f + 2)) (2 * (m ((f + 2))) % 256)) ((f + 3))))) % 256)) ((f + 5))) + Bool.toNat (decide (128 ≤ (up (up m ((f + 2)) (2 * (m ((f + 2))) % 256)) ((f + 3)) ((2 * ((up m ((f + 2)) (2 * (m ((f + 2))) % 256)) ((f + 3))) + Bool.toNat (decide (128 ≤ m ((f + 2))))) % 256)) ((f + 4))))) % 256 = 0), decide (128 ≤ (up (up (up m ((f + 2)) (2 * (m ((f + 2))) % 256)) ((f + 3)) ((2 * ((up m ((f + 2)) (2 * (m ((f + 2))) % 256)) ((f + 3))) + Bool.toNat (decide (128 ≤ m ((f + 2))))) % 256)) ((f + 4)) ((2 * ((up (up m ((f + 2)) (2 * (m ((f + 2))) % 256)) ((f + 3)) ((2 * ((up m ((f + 2)) (2 * (m ((f + 2))) % 256)) ((f + 3))) + Bool.toNat (decide (128 ≤ m ((f + 2))))) % 256)) ((f + 4))) + Bool.toNat (decide (128 ≤ (up m ((f + 2)) (2 * (m ((f + 2))) % 256)) ((f + 3))))) % 256)) ((f + 5))), (up (up (up (up m ((f + 2)) (2 * (m ((f + 2))) % 256)) ((f + 3)) ((2 * ((up m ((f + 2)) (2 * (m ((f + 2))) % 256)) ((f + 3))) + Bool.toNat (decide (128 ≤ m ((f + 2))))) % 256)) ((f + 4)) ((2 * ((up (up m ((f + 2)) (2 * (m ((f + 2))) % 256)) ((f + 3)) ((2 * ((up m ((f + 2)) (2 * (m ((f + 2))) % 256)) ((f + 3))) + Bool.toNat (decide (128 ≤ m ((f + 2))))) % 256)) ((f + 4))) + Bool.toNat (decide (128 ≤ (up m ((f + 2)) (2 * (m ((f + 2))) % 256)) ((f + 3))))) % 256)) ((f + 5)) ((2 * ((up (up (up m ((f + 2)) (2 * (m ((f + 2))) % 256)) ((f + 3)) ((2 * ((up m ((f + 2)) (2 * (m ((f + 2))) % 256)) ((f + 3))) + Bool.toNat (decide (128 ≤ m ((f + 2))))) % 256)) ((f + 4)) ((2 * ((up (up m ((f + 2)) (2 * (m ((f + 2))) % 256)) ((f + 3)) ((2 * ((up m ((f + 2)) (2 * (m ((f + 2))) % 256)) ((f + 3))) + Bool.toNat (decide (128 ≤ m ((f + 2))))) % 256)) ((f + 4))) + Bool.toNat (decide (128 ≤ (up m ((f + 2)) (2 * (m ((f + 2))) % 256)) ((f + 3))))) % 256)) ((f + 5))) + Bool.toNat (decide (128 ≤ (up (up m ((f + 2)) (2 * (m ((f + 2))) % 256)) ((f + 3)) ((2 * ((up m ((f + 2)) (2 * (m ((f + 2))) % 256)) ((f + 3))) + Bool.toNat (decide (128 ≤ m ((f + 2))))) % 256)) ((f + 4))))) % 256))⟩) := by kernel_rfl
theorem r_2_2 (f ta tb sa sb : Nat) (a x yy sp : Nat) (n v z cc : Bool) (m : Nat → Nat) (Q : Co → Prop) : gs (c02_2 f ta tb sa sb) 1024 4 ⟨a, x, yy, sp, 548, n, v, z, cc, m⟩ Q = (Q ⟨a, x, yy, sp, 556, decide (128 ≤ (2 * ((up (up (up m ((f + 2)) (2 * (m ((f + 2))) % 256)) ((f + 3)) ((2 * ((up m ((f + 2)) (2 * (m ((f + 2))) % 256)) ((f + 3))) + Bool.toNat (decide (128 ≤ m ((f + 2))))) % 256)) ((f + 4)) ((2 * ((up (up m ((f + 2)) (2 * (m ((f + 2))) % 256)) ((f + 3)) ((2 * ((up m ((f + 2)) (2 * (m ((f + 2))) % 256)) ((f + 3))) + Bool.toNat (decide (128 ≤ m ((f + 2))))) % 256)) ((f + 4))) + Bool.toNat (decide (128 ≤ (up m ((f + 2)) (2 * (m ((f + 2))) % 256)) ((f + 3))))) % 256)) ((f + 5))) + Bool.toNat (decide (128 ≤ (up (up m ((f + 2)) (2 * (m ((f + 2))) % 256)) ((f + 3)) ((2 * ((up m ((f + 2)) (2 * (m ((f + 2))) % 256)) ((f + 3))) + Bool.toNat (decide (128 ≤ m ((f + 2))))) % 256)) ((f + 4))))) % 256), v, decide ((2 * ((up (up (up m ((f + 2)) (2 * (m ((f + 2))) % 256)) ((f + 3)) ((2 * ((up m ((f + 2)) (2 * (m ((f + 2))) % 256)) ((f + 3))) + Bool.toNat (decide (128 ≤ m ((f + 2))))) % 256)) ((f + 4)) ((2 * ((up (up m ((f + 2)) (2 * (m ((f + 2))) % 256)) ((f + 3)) ((2 * ((up m ((f + 2)) (2 * (m ((f + 2))) % 256)) ((f + 3))) + Bool.toNat (decide (128 ≤ m ((f + 2))))) % 256)) ((f + 4))) + Bool.toNat (decide (128 ≤ (up m ((f + 2)) (2 * (m ((f + 2))) % 256)) ((f + 3))))) % 256)) ((f + 5))) + Bool.toNat (decide (128 ≤ (up (up m ((f + 2)) (2 * (m ((f + 2))) % 256)) ((f + 3)) ((2 * ((up m ((f + 2)) (2 * (m ((f + 2))) % 256)) ((f + 3))) + Bool.toNat (decide (128 ≤ m ((f + 2))))) % 256)) ((f + 4))))) % 256 = 0), decide (128 ≤ (up (up (up m ((f + 2)) (2 * (m ((f + 2))) % 256)) ((f + 3)) ((2 * ((up m ((f + 2)) (2 * (m ((f + 2))) % 256)) ((f + 3))) + Bool.toNat (decide (128 ≤ m ((f + 2))))) % 256)) ((f + 4)) ((2 * ((up (up m ((f + 2)) (2 * (m ((f + 2))) % 256)) ((f + 3)) ((2 * ((up m ((f + 2)) (2 * (m ((f + 2))) % 256)) ((f + 3))) + Bool.toNat (decide (128 ≤ m ((f + 2))))) % 256)) ((f + 4))) + Bool.toNat (decide (128 ≤ (up m ((f + 2)) (2 * (m ((f + 2))) % 256)) ((f + 3))))) % 256)) ((f + 5))), (up (up (up (up m ((f + 2)) (2 * (m ((f + 2))) % 256)) ((f + 3)) ((2 * ((up m ((f + 2)) (2 * (m ((f + 2))) % 256)) ((f + 3))) + Bool.toNat (decide (128 ≤ m ((f + 2))))) % 256)) ((f + 4)) ((2 * ((up (up m ((f + 2)) (2 * (m ((f + 2))) % 256)) ((f + 3)) ((2 * ((up m ((f + 2)) (2 * (m ((f + 2))) % 256)) ((f + 3))) + Bool.toNat (decide (128 ≤ m ((f + 2))))) % 256)) ((f + 4))) + Bool.toNat (decide (128 ≤ (up m ((f + 2)) (2 * (m ((f + 2))) % 256)) ((f + 3))))) % 256)) ((f + 5)) ((2 * ((up (up (up m ((f + 2)) (2 * (m ((f + 2))) % 256)) ((f + 3)) ((2 * ((up m ((f + 2)) (2 * (m ((f + 2))) % 256)) ((f + 3))) + Bool.toNat (decide (128 ≤ m ((f + 2))))) % 256)) ((f + 4)) ((2 * ((up (up m ((f + 2)) (2 * (m ((f + 2))) % 256)) ((f + 3)) ((2 * ((up m ((f + 2)) (2 * (m ((f + 2))) % 256)) ((f + 3))) + Bool.toNat (decide (128 ≤ m ((f + 2))))) % 256)) ((f + 4))) + Bool.toNat (decide (128 ≤ (up m ((f + 2)) (2 * (m ((f + 2))) % 256)) ((f + 3))))) % 256)) ((f + 5))) + Bool.toNat (decide (128 ≤ (up (up m ((f + 2)) (2 * (m ((f + 2))) % 256)) ((f + 3)) ((2 * ((up m ((f + 2)) (2 * (m ((f + 2))) % 256)) ((f + 3))) + Bool.toNat (decide (128 ≤ m ((f + 2))))) % 256)) ((f + 4))))) % 256))⟩) := by kernel_rfl
theorem r_3_2 (f ta tb sa sb : Nat) (a x yy sp : Nat) (n v z cc : Bool) (m : Nat → Nat) (Q : Co → Prop) : gs (c02_2 f ta tb sa sb) 1024 8 ⟨a, x, yy, sp, 556, n, v, z, cc, m⟩ Q = (Q ⟨(2 * 0 + Bool.toNat (decide (128 ≤ (up m ((f + 6)) (2 * (m ((f + 6))) % 256)) ((f + 6))))) % 256, x, yy, sp, 569, decide (128 ≤ (2 * 0 + Bool.toNat (decide (128 ≤ (up m ((f + 6)) (2 * (m ((f + 6))) % 256)) ((f + 6))))) % 256), v, decide ((2 * 0 + Bool.toNat (decide (128 ≤ (up m ((f + 6)) (2 * (m ((f + 6))) % 256)) ((f + 6))))) % 256 = 0), decide (128 ≤ 0), (up (up (up m ((f + 6)) (2 * (m ((f + 6))) % 256)) ((f + 7)) ((2 * ((up m ((f + 6)) (2 * (m ((f + 6))) % 256)) ((f + 6))) + Bool.toNat true) % 256)) ((f + 8)) ((2 * 0 + Bool.toNat (decide (128 ≤ (up m ((f + 6)) (2 * (m ((f + 6))) % 256)) ((f + 6))))) % 256))⟩) := by kernel_rfl
theorem r_4_2 (f ta tb sa sb : Nat) (a x yy sp : Nat) (n v z cc : Bool) (m : Nat → Nat) (Q : Co → Prop) : gs (c02_2 f ta tb sa sb) 1024 5 ⟨a, x, yy, sp, 569, n, v, z, cc, m⟩ Q = (ifB (!(decide (256 ≤ ((m ((f + 5))) + (255 - (m ((f + 8)))) + Bool.toNat (decide (m ((f + 7)) ≤ m ((f + 4)))))))) (Q ⟨((m ((f + 5))) + (255 - (m ((f + 8)))) + Bool.toNat (decide (m ((f + 7)) ≤ m ((f + 4))))) % 256, x, yy, sp, 589, decide (128 ≤ ((m ((f + 5))) + (255 - (m ((f + 8)))) + Bool.toNat (decide (m ((f + 7)) ≤ m ((f + 4))))) % 256), sbV (m ((f + 5))) (m ((f + 8))) ((m ((f + 5))) + (255 - (m ((f + 8)))) + Bool.toNat (decide (m ((f + 7)) ≤ m ((f + 4))))), decide (((m ((f + 5))) + (255 - (m ((f + 8)))) + Bool.toNat (decide (m ((f + 7)) ≤ m ((f + 4))))) % 256 = 0), decide (256 ≤ ((m ((f + 5))) + (255 - (m ((f + 8)))) + Bool.toNat (decide (m ((f + 7)) ≤ m ((f + 4)))))), m⟩) (Q ⟨((m ((f + 5))) + (255 - (m ((f + 8)))) + Bool.toNat (decide (m ((f + 7)) ≤ m ((f + 4))))) % 256, x, yy, sp, 579, decide (128 ≤ ((m ((f + 5))) + (255 - (m ((f + 8)))) + Bool.toNat (decide (m ((f + 7)) ≤ m ((f + 4))))) % 256), sbV (m ((f + 5))) (m ((f + 8))) ((m ((f + 5))) + (255 - (m ((f + 8)))) + Bool.toNat (decide (m ((f + 7)) ≤ m ((f + 4))))), decide (((m ((f + 5))) + (255 - (m ((f + 8)))) + Bool.toNat (decide (m ((f + 7)) ≤ m ((f + 4))))) % 256 = 0), decide (256 ≤ ((m ((f + 5))) + (255 - (m ((f + 8)))) + Bool.toNat (decide (m ((f + 7)) ≤ m ((f + 4)))))), m⟩)) := by kernel_rfl
theorem r_5_2 (f ta tb sa sb : Nat) (a x yy sp : Nat) (n v z cc : Bool) (m : Nat → Nat) (Q : Co → Prop) : gs (c02_2 f ta tb sa sb) 1024 5 ⟨a, x, yy, sp, 579, n, v, z, cc, m⟩ Q = (Q ⟨(((up m ((f + 5)) a) ((f + 4))) + (255 - ((up m ((f + 5)) a) ((f + 7)))) + Bool.toNat cc) % 256, x, yy, sp, 589, decide (128 ≤ ((up (up m ((f + 5)) a) ((f + 4)) ((((up m ((f + 5)) a) ((f + 4))) + (255 - ((up m ((f + 5)) a) ((f + 7)))) + Bool.toNat cc) % 256)) ((f + 6)) + 1) % 256), sbV ((up m ((f + 5)) a) ((f + 4))) ((up m ((f + 5)) a) ((f + 7))) (((up m ((f + 5)) a) ((f + 4))) + (255 - ((up m ((f + 5)) a) ((f + 7)))) + Bool.toNat cc), decide (((up (up m ((f + 5)) a) ((f + 4)) ((((up m ((f + 5)) a) ((f + 4))) + (255 - ((up m ((f + 5)) a) ((f + 7)))) + Bool.toNat cc) % 256)) ((f + 6)) + 1) % 256 = 0), decide (256 ≤ (((up m ((f + 5)) a) ((f + 4))) + (255 - ((up m ((f + 5)) a) ((f + 7)))) + Bool.toNat cc)), (up (up (up m ((f + 5)) a) ((f + 4)) ((((up m ((f + 5)) a) ((f + 4))) + (255 - ((up m ((f + 5)) a) ((f + 7)))) + Bool.toNat cc) % 256)) ((f + 6)) (((up (up m ((f + 5)) a) ((f + 4)) ((((up m ((f + 5)) a) ((f + 4))) + (255 - ((up m ((f + 5)) a) ((f + 7)))) + Bool.toNat cc) % 256)) ((f + 6)) + 1) % 256))⟩) := by kernel_rfl
theorem r_6_2 (f ta tb sa sb : Nat) (a x yy sp : Nat) (n v z cc : Bool) (m : Nat → Nat) (Q : Co → Prop) : gs (c02_2 f ta tb sa sb) 1024 2 ⟨a, x, yy, sp, 589, n, v, z, cc, m⟩ Q = (ifB (!(decide ((yy + 255) % 256 = 0))) (Q ⟨a, x, (yy + 255) % 256, sp, 540, decide (128 ≤ (yy + 255) % 256), v, decide ((yy + 255) % 256 = 0), cc, m⟩) (Q ⟨a, x, (yy + 255) % 256, sp, 592, decide (128 ≤ (yy + 255) % 256), v, decide ((yy + 255) % 256 = 0), cc, m⟩)) := by kernel_rfl
theorem r_r_2 (f ta tb sa sb : Nat) (a x yy sp : Nat) (n v z cc : Bool) (m : Nat → Nat) (Q : Co → Prop) : gs (c02_2 f ta tb sa sb) 1024 1 ⟨a, x, yy, sp, 592, n, v, z, cc, m⟩ Q = ((m (256 + (sp + 1) % 256) + 256 * m (256 + ((sp + 1) % 256 + 1) % 256) + 1 < 1024) ∧ Q ⟨a, x, yy, ((sp + 1) % 256 + 1) % 256, m (256 + (sp + 1) % 256) + 256 * m (256 + ((sp + 1) % 256 + 1) % 256) + 1, n, v, z, cc, m⟩) := by kernel_rfl
theorem a_0_2 (f ta tb sa sb : Nat) (a x yy sp : Nat) (n v z cc : Bool) (m : Nat → Nat) (Q : Co → Prop) : gs (c02_2 f ta tb sa sb) 1024 3 ⟨a, x, yy, sp, 593, n, v, z, cc, m⟩ Q = (Q ⟨0, x, yy, sp, 599, decide (128 ≤ 0), v, decide (0 = 0), cc, (up (up m ((f + 2)) 0) ((f + 3)) 0)⟩) := by kernel_rfl
theorem a_1_2 (f ta tb sa sb : Nat) (a x yy sp : Nat) (n v z cc : Bool) (m : Nat → Nat) (Q : Co → Prop) : gs (c02_2 f ta tb sa sb) 1024 6 ⟨a, x, yy, sp, 599, n, v, z, cc, m⟩ Q = ((ta + 256 * tb + 0 < 1024) ∧ (sa + 256 * sb + 0 < 1024) ∧ Q ⟨(up m f (m (ta + 256 * tb + 0))) (sa + 256 * sb + 0), x, 0, ((sp + 255) % 256 + 255) % 256, 512, decide (128 ≤ (up m f (m (ta + 256 * tb + 0))) (sa + 256 * sb + 0)), v, decide ((up m f (m (ta + 256 * tb + 0))) (sa + 256 * sb + 0) = 0), cc, (up (up (up (up m f (m (ta + 256 * tb + 0))) ((f + 1)) ((up m f (m (ta + 256 * tb + 0))) (sa + 256 * sb + 0))) (256 + sp) 2) (256 + (sp + 255) % 256) 101)⟩) := by kernel_rfl
theorem a_2_2 (f ta tb sa sb : Nat) (a x yy sp : Nat) (n v z cc : Bool) (m : Nat → Nat) (Q : Co → Prop) : gs (c02_2 f ta tb sa sb) 1024 8 ⟨a, x, yy, sp, 614, n, v, z, cc, m⟩ Q = (Q ⟨(((up (up m (256 + sp) a) ((f + 2)) ((((up m (256 + sp) a) ((f + 2))) + ((up m (256 + sp) a) ((f + 1))) + Bool.toNat false) % 256)) ((f + 3))) + ((up (up m (256 + sp) a) ((f + 2)) ((((up m (256 + sp) a) ((f + 2))) + ((up m (256 + sp) a) ((f + 1))) + Bool.toNat false) % 256)) (256 + (((sp + 255) % 256) + 1) % 256)) + Bool.toNat (decide (256 ≤ (((up m (256 + sp) a) ((f + 2))) + ((up m (256 + sp) a) ((f + 1))) + Bool.toNat false)))) % 256, x, yy, (((sp + 255) % 256) + 1) % 256, 627, decide (128 ≤ (((up (up m (256 + sp) a) ((f + 2)) ((((up m (256 + sp) a) ((f + 2))) + ((up m (256 + sp) a) ((f + 1))) + Bool.toNat false) % 256)) ((f + 3))) + ((up (up m (256 + sp) a) ((f + 2)) ((((up m (256 + sp) a) ((f + 2))) + ((up m (256 + sp) a) ((f + 1))) + Bool.toNat false) % 256)) (256 + (((sp + 255) % 256) + 1) % 256)) + Bool.toNat (decide (256 ≤ (((up m (256 + sp) a) ((f + 2))) + ((up m (256 + sp) a) ((f + 1))) + Bool.toNat false)))) % 256), adV ((up (up m (256 + sp) a) ((f + 2)) ((((up m (256 + sp) a) ((f + 2))) + ((up m (256 + sp) a) ((f + 1))) + Bool.toNat false) % 256)) (256 + (((sp + 255) % 256) + 1) % 256)) ((up (up m (256 + sp) a) ((f + 2)) ((((up m (256 + sp) a) ((f + 2))) + ((up m (256 + sp) a) ((f + 1))) + Bool.toNat false) % 256)) ((f + 3))) (((up (up m (256 + sp) a) ((f + 2)) ((((up m (256 + sp) a) ((f + 2))) + ((up m (256 + sp) a) ((f + 1))) + Bool.toNat false) % 256)) ((f + 3))) + ((up (up m (256 + sp) a) ((f + 2)) ((((up m (256 + sp) a) ((f + 2))) + ((up m (256 + sp) a) ((f + 1))) + Bool.toNat false) % 256)) (256 + (((sp + 255) % 256) + 1) % 256)) + Bool.toNat (decide (256 ≤ (((up m (256 + sp) a) ((f + 2))) + ((up m (256 + sp) a) ((f + 1))) + Bool.toNat false)))), decide ((((up (up m (256 + sp) a) ((f + 2)) ((((up m (256 + sp) a) ((f + 2))) + ((up m (256 + sp) a) ((f + 1))) + Bool.toNat false) % 256)) ((f + 3))) + ((up (up m (256 + sp) a) ((f + 2)) ((((up m (256 + sp) a) ((f + 2))) + ((up m (256 + sp) a) ((f + 1))) + Bool.toNat false) % 256)) (256 + (((sp + 255) % 256) + 1) % 256)) + Bool.toNat (decide (256 ≤ (((up m (256 + sp) a) ((f + 2))) + ((up m (256 + sp) a) ((f + 1))) + Bool.toNat false)))) % 256 = 0), decide (256 ≤ (((up (up m (256 + sp) a) ((f + 2)) ((((up m (256 + sp) a) ((f + 2))) + ((up m (256 + sp) a) ((f + 1))) + Bool.toNat false) % 256)) ((f + 3))) + ((up (up m (256 + sp) a) ((f + 2)) ((((up m (256 + sp) a) ((f + 2))) + ((up m (256 + sp) a) ((f + 1))) + Bool.toNat false) % 256)) (256 + (((sp + 255) % 256) + 1) % 256)) + Bool.toNat (decide (256 ≤ (((up m (256 + sp) a) ((f + 2))) + ((up m (256 + sp) a) ((f + 1))) + Bool.toNat false))))), (up (up (up m (256 + sp) a) ((f + 2)) ((((up m (256 + sp) a) ((f + 2))) + ((up m (256 + sp) a) ((f + 1))) + Bool.toNat false) % 256)) ((f + 3)) ((((up (up m (256 + sp) a) ((f + 2)) ((((up m (256 + sp) a) ((f + 2))) + ((up m (256 + sp) a) ((f + 1))) + Bool.toNat false) % 256)) ((f + 3))) + ((up (up m (256 + sp) a) ((f + 2)) ((((up m (256 + sp) a) ((f + 2))) + ((up m (256 + sp) a) ((f + 1))) + Bool.toNat false) % 256)) (256 + (((sp + 255) % 256) + 1) % 256)) + Bool.toNat (decide (256 ≤ (((up m (256 + sp) a) ((f + 2))) + ((up m (256 + sp) a) ((f + 1))) + Bool.toNat false)))) % 256))⟩) := by kernel_rfl
theorem a_3_2 (f ta tb sa sb : Nat) (a x yy sp : Nat) (n v z cc : Bool) (m : Nat → Nat) (Q : Co → Prop) : gs (c02_2 f ta tb sa sb) 1024 6 ⟨a, x, yy, sp, 627, n, v, z, cc, m⟩ Q = ((ta + 256 * tb + 1 < 1024) ∧ (sa + 256 * sb + 1 < 1024) ∧ Q ⟨(up m f (m (ta + 256 * tb + 1))) (sa + 256 * sb + 1), x, 1, ((sp + 255) % 256 + 255) % 256, 512, decide (128 ≤ (up m f (m (ta + 256 * tb + 1))) (sa + 256 * sb + 1)), v, decide ((up m f (m (ta + 256 * tb + 1))) (sa + 256 * sb + 1) = 0), cc, (up (up (up (up m f (m (ta + 256 * tb + 1))) ((f + 1)) ((up m f (m (ta + 256 * tb + 1))) (sa + 256 * sb + 1))) (256 + sp) 2) (256 + (sp + 255) % 256) 129)⟩) := by kernel_rfl
theorem a_4_2 (f ta tb sa sb : Nat) (a x yy sp : Nat) (n v z cc : Bool) (m : Nat → Nat) (Q : Co → Prop) : gs (c02_2 f ta tb sa sb) 1024 8 ⟨a, x, yy, sp, 642, n, v, z, cc, m⟩ Q = (Q ⟨(((up (up m (256 + sp) a) ((f + 2)) ((((up m (256 + sp) a) ((f + 2))) + ((up m (256 + sp) a) ((f + 1))) + Bool.toNat false) % 256)) ((f + 3))) + ((up (up m (256 + sp) a) ((f + 2)) ((((up m (256 + sp) a) ((f + 2))) + ((up m (256 + sp) a) ((f + 1))) + Bool.toNat false) % 256)) (256 + (((sp + 255) % 256) + 1) % 256)) + Bool.toNat (decide (256 ≤ (((up m (256 + sp) a) ((f + 2))) + ((up m (256 + sp) a) ((f + 1))) + Bool.toNat false)))) % 256, x, yy, (((sp + 255) % 256) + 1) % 256, 655, decide (128 ≤ (((up (up m (256 + sp) a) ((f + 2)) ((((up m (256 + sp) a) ((f + 2))) + ((up m (256 + sp) a) ((f + 1))) + Bool.toNat false) % 256)) ((f + 3))) + ((up (up m (256 + sp) a) ((f + 2)) ((((up m (256 + sp) a) ((f + 2))) + ((up m (256 + sp) a) ((f + 1))) + Bool.toNat false) % 256)) (256 + (((sp + 255) % 256) + 1) % 256)) + Bool.toNat (decide (256 ≤ (((up m (256 + sp) a) ((f + 2))) + ((up m (256 + sp) a) ((f + 1))) + Bool.toNat false)))) % 256), adV ((up (up m (256 + sp) a) ((f + 2)) ((((up m (256 + sp) a) ((f + 2))) + ((up m (256 + sp) a) ((f + 1))) + Bool.toNat false) % 256)) (256 + (((sp + 255) % 256) + 1) % 256)) ((up (up m (256 + sp) a) ((f + 2)) ((((up m (256 + sp) a) ((f + 2))) + ((up m (256 + sp) a) ((f + 1))) + Bool.toNat false) % 256)) ((f + 3))) (((up (up m (256 + sp) a) ((f + 2)) ((((up m (256 + sp) a) ((f + 2))) + ((up m (256 + sp) a) ((f + 1))) + Bool.toNat false) % 256)) ((f + 3))) + ((up (up m (256 + sp) a) ((f + 2)) ((((up m (256 + sp) a) ((f + 2))) + ((up m (256 + sp) a) ((f + 1))) + Bool.toNat false) % 256)) (256 + (((sp + 255) % 256) + 1) % 256)) + Bool.toNat (decide (256 ≤ (((up m (256 + sp) a) ((f + 2))) + ((up m (256 + sp) a) ((f + 1))) + Bool.toNat false)))), decide ((((up (up m (256 + sp) a) ((f + 2)) ((((up m (256 + sp) a) ((f + 2))) + ((up m (256 + sp) a) ((f + 1))) + Bool.toNat false) % 256)) ((f + 3))) + ((up (up m (256 + sp) a) ((f + 2)) ((((up m (256 + sp) a) ((f + 2))) + ((up m (256 + sp) a) ((f + 1))) + Bool.toNat false) % 256)) (256 + (((sp + 255) % 256) + 1) % 256)) + Bool.toNat (decide (256 ≤ (((up m (256 + sp) a) ((f + 2))) + ((up m (256 + sp) a) ((f + 1))) + Bool.toNat false)))) % 256 = 0), decide (256 ≤ (((up (up m (256 + sp) a) ((f + 2)) ((((up m (256 + sp) a) ((f + 2))) + ((up m (256 + sp) a) ((f + 1))) + Bool.toNat false) % 256)) ((f + 3))) + ((up (up m (256 + sp) a) ((f + 2)) ((((up m (256 + sp) a) ((f + 2))) + ((up m (256 + sp) a) ((f + 1))) + Bool.toNat false) % 256)) (256 + (((sp + 255) % 256) + 1) % 256)) + Bool.toNat (decide (256 ≤ (((up m (256 + sp) a) ((f + 2))) + ((up m (256 + sp) a) ((f + 1))) + Bool.toNat false))))), (up (up (up m (256 + sp) a) ((f + 2)) ((((up m (256 + sp) a) ((f + 2))) + ((up m (256 + sp) a) ((f + 1))) + Bool.toNat false) % 256)) ((f + 3)) ((((up (up m (256 + sp) a) ((f + 2)) ((((up m (256 + sp) a) ((f + 2))) + ((up m (256 + sp) a) ((f + 1))) + Bool.toNat false) % 256)) ((f + 3))) + ((up (up m (256 + sp) a) ((f + 2)) ((((up m (256 + sp) a) ((f + 2))) + ((up m (256 + sp) a) ((f + 1))) + Bool.toNat false) % 256)) (256 + (((sp + 255) % 256) + 1) % 256)) + Bool.toNat (decide (256 ≤ (((up m (256 + sp) a) ((f + 2))) + ((up m (256 + sp) a) ((f + 1))) + Bool.toNat false)))) % 256))⟩) := by kernel_rfl
theorem a_9_2 (f ta tb sa sb : Nat) (a x yy sp : Nat) (n v z cc : Bool) (m : Nat → Nat) (Q : Co → Prop) : gs (c02_2 f ta tb sa sb) 1024 1 ⟨a, x, yy, sp, 655, n, v, z, cc, m⟩ Q = (Q ⟨a, x, yy, ((sp + 255) % 256 + 255) % 256, 530, n, v, z, cc, (up (up m (256 + sp) 2) (256 + (sp + 255) % 256) 145)⟩) := by kernel_rfl
end
end Mine
end
section
open PySem PySem.W PyProof.Rows
namespace Mine
noncomputable section
theorem up_ne {m : Nat → Nat} {k v i : Nat} (h : i ≠ k) : up m k v i = m i := by unfold up; rw [if_neg h]
theorem up_eq {m : Nat → Nat} {k v i : Nat} (h : i = k) : up m k v i = v := by unfold up; rw [if_pos h]
theorem up_up (m : Nat → Nat) (k a b : Nat) : up (up m k a) k b = up m k b := by
  funext i; unfold up; split <;> rfl
theorem tn (p : Prop) [Decidable p] : (decide p).toNat = if p then 1 else 0 := by by_cases h : p <;> simp [h]
noncomputable abbrev C02 (two : Bool) (f ta tb sa sb : Nat) : List Nat := cond two (c02_2 f ta tb sa sb) (c02_1 f ta tb sa sb)
noncomputable abbrev W2 (two : Bool) (f ta tb sa sb : Nat) := Wi (C02 two f ta tb sa sb) 1024
theorem fr_half (F R : Nat) : F * R = F * (R % 2) + 2 * (F * (R / 2)) := by
  have : R = R % 2 + 2 * (R / 2) := by lia
  calc F * R = F * (R % 2 + 2 * (R / 2)) := by rw [← this]
    _ = F * (R % 2) + 2 * (F * (R / 2)) := by rw [Nat.mul_add, Nat.mul_left_comm]
theorem dec_mod {x y : Nat} (h : x % 2 = y % 2) : (decide (x % 2 = 1)).toNat = y % 2 := by
  rw [tn, h]; split <;> lia
theorem fc_lt {F : Nat} (c : Bool) (h : F < 256) : F * c.toNat < 256 := by cases c <;> simp <;> lia
theorem am_0 {F G A lo E R : Nat} (c : Bool) (hF : F < 256) (hA : A < 256) (h1 : F * G = 1 * A + E + 1 * (F * c.toNat) + 2 * (F * R)) (h2 : lo = 256 * E + R) (h3 : E < 1) (h4 : R < 128) : ∃ E' R', (A + F * c.toNat) / 2 < 256 ∧ F * G = 2 * ((A + F * c.toNat) / 2) + E' + 2 * (F * (decide (lo % 2 = 1)).toNat) + 4 * (F * R') ∧ (lo / 2 + 128 * ((A + F * c.toNat) % 2)) = 128 * E' + R' ∧ E' < 2 ∧ R' < 64 := by
  have e := fr_half F R
  have hc := fc_lt c hF
  rw [dec_mod (y := R) (by clear e hc h1; lia)]
  refine ⟨E + 1 * ((A + F * c.toNat) % 2), R / 2, ?_⟩
  revert e hc h1
  generalize F * c.toNat = X; generalize F * R = Y; generalize F * (R % 2) = Z; generalize F * (R / 2) = V; generalize F * G = U
  intro h1 e hc
  exact ⟨by clear h1 h2 e; lia, by clear h2 h3 h4 hF hA hc; lia, by clear h1 e hc hA hF; lia, by clear h1 h2 e hc; lia, by clear h1 h2 e hc; lia⟩
theorem am_1 {F G A lo E R : Nat} (c : Bool) (hF : F < 256) (hA : A < 256) (h1 : F * G = 2 * A + E + 2 * (F * c.toNat) + 4 * (F * R)) (h2 : lo = 128 * E + R) (h3 : E < 2) (h4 : R < 64) : ∃ E' R', (A + F * c.toNat) / 2 < 256 ∧ F * G = 4 * ((A + F * c.toNat) / 2) + E' + 4 * (F * (decide (lo % 2 = 1)).toNat) + 8 * (F * R') ∧ (lo / 2 + 128 * ((A + F * c.toNat) % 2)) = 64 * E' + R' ∧ E' < 4 ∧ R' < 32 := by
  have e := fr_half F R
  have hc := fc_lt c hF
  rw [dec_mod (y := R) (by clear e hc h1; lia)]
  refine ⟨E + 2 * ((A + F * c.toNat) % 2), R / 2, ?_⟩
  revert e hc h1
  generalize F * c.toNat = X; generalize F * R = Y; generalize F * (R % 2) = Z; generalize F * (R / 2) = V; generalize F * G = U
  intro h1 e hc
  exact ⟨by clear h1 h2 e; lia, by clear h2 h3 h4 hF hA hc; lia, by clear h1 e hc hA hF; lia, by clear h1 h2 e hc; lia, by clear h1 h2 e hc; lia⟩
theorem am_2 {F G A lo E R : Nat} (c : Bool) (hF : F < 256) (hA : A < 256) (h1 : F * G = 4 * A + E + 4 * (F * c.toNat) + 8 * (F * R)) (h2 : lo = 64 * E + R) (h3 : E < 4) (h4 : R < 32) : ∃ E' R', (A + F * c.toNat) / 2 < 256 ∧ F * G = 8 * ((A + F * c.toNat) / 2) + E' + 8 * (F * (decide (lo % 2 = 1)).toNat) + 16 * (F * R') ∧ (lo / 2 + 128 * ((A + F * c.toNat) % 2)) = 32 * E' + R' ∧ E' < 8 ∧ R' < 16 := by
  have e := fr_half F R
  have hc := fc_lt c hF
  rw [dec_mod (y := R) (by clear e hc h1; lia)]
  refine ⟨E + 4 * ((A + F * c.toNat) % 2), R / 2, ?_⟩
  revert e hc h1
  generalize F * c.toNat = X; generalize F * R = Y; generalize F * (R % 2) = Z; generalize F * (R / 2) = V; generalize F * G = U
  intro h1 e hc
  exact ⟨by clear h1 h2 e; lia, by clear h2 h3 h4 hF hA hc; lia, by clear h1 e hc hA hF; lia, by clear h1 h2 e hc; lia, by clear h1 h2 e hc; lia⟩
theorem am_3 {F G A lo E R : Nat} (c : Bool) (hF : F < 256) (hA : A < 256) (h1 : F * G = 8 * A + E + 8 * (F * c.toNat) + 16 * (F * R)) (h2 : lo = 32 * E + R) (h3 : E < 8) (h4 : R < 16) : ∃ E' R', (A + F * c.toNat) / 2 < 256 ∧ F * G = 16 * ((A + F * c.toNat) / 2) + E' + 16 * (F * (decide (lo % 2 = 1)).toNat) + 32 * (F * R') ∧ (lo / 2 + 128 * ((A + F * c.toNat) % 2)) = 16 * E' + R' ∧ E' < 16 ∧ R' < 8 := by
  have e := fr_half F R
  have hc := fc_lt c hF
  rw [dec_mod (y := R) (by clear e hc h1; lia)]
  refine ⟨E + 8 * ((A + F * c.toNat) % 2), R / 2, ?_⟩
  revert e hc h1
  generalize F * c.toNat = X; generalize F * R = Y; generalize F * (R % 2) = Z; generalize F * (R / 2) = V; generalize F * G = U
  intro h1 e hc
  exact ⟨by clear h1 h2 e; lia, by clear h2 h3 h4 hF hA hc; lia, by clear h1 e hc hA hF; lia, by clear h1 h2 e hc; lia, by clear h1 h2 e hc; lia⟩
theorem am_4 {F G A lo E R : Nat} (c : Bool) (hF : F < 256) (hA : A < 256) (h1 : F * G = 16 * A + E + 16 * (F * c.toNat) + 32 * (F * R)) (h2 : lo = 16 * E + R) (h3 : E < 16) (h4 : R < 8) : ∃ E' R', (A + F * c.toNat) / 2 < 256 ∧ F * G = 32 * ((A + F * c.toNat) / 2) + E' + 32 * (F * (decide (lo % 2 = 1)).toNat) + 64 * (F * R') ∧ (lo / 2 + 128 * ((A + F * c.toNat) % 2)) = 8 * E' + R' ∧ E' < 32 ∧ R' < 4 := by
  have e := fr_half F R
  have hc := fc_lt c hF
  rw [dec_mod (y := R) (by clear e hc h1; lia)]
  refine ⟨E + 16 * ((A + F * c.toNat) % 2), R / 2, ?_⟩
  revert e hc h1
  generalize F * c.toNat = X; generalize F * R = Y; generalize F * (R % 2) = Z; generalize F * (R / 2) = V; generalize F * G = U
  intro h1 e hc
  exact ⟨by clear h1 h2 e; lia, by clear h2 h3 h4 hF hA hc; lia, by clear h1 e hc hA hF; lia, by clear h1 h2 e hc; lia, by clear h1 h2 e hc; lia⟩
theorem am_5 {F G A lo E R : Nat} (c : Bool) (hF : F < 256) (hA : A < 256) (h1 : F * G = 32 * A + E + 32 * (F * c.toNat) + 64 * (F * R)) (h2 : lo = 8 * E + R) (h3 : E < 32) (h4 : R < 4) : ∃ E' R', (A + F * c.toNat) / 2 < 256 ∧ F * G = 64 * ((A + F * c.toNat) / 2) + E' + 64 * (F * (decide (lo % 2 = 1)).toNat) + 128 * (F * R') ∧ (lo / 2 + 128 * ((A + F * c.toNat) % 2)) = 4 * E' + R' ∧ E' < 64 ∧ R' < 2 := by
  have e := fr_half F R
  have hc := fc_lt c hF
  rw [dec_mod (y := R) (by clear e hc h1; lia)]
  refine ⟨E + 32 * ((A + F * c.toNat) % 2), R / 2, ?_⟩
  revert e hc h1
  generalize F * c.toNat = X; generalize F * R = Y; generalize F * (R % 2) = Z; generalize F * (R / 2) = V; generalize F * G = U
  intro h1 e hc
  exact ⟨by clear h1 h2 e; lia, by clear h2 h3 h4 hF hA hc; lia, by clear h1 e hc hA hF; lia, by clear h1 h2 e hc; lia, by clear h1 h2 e hc; lia⟩
theorem am_6 {F G A lo E R : Nat} (c : Bool) (hF : F < 256) (hA : A < 256) (h1 : F * G = 64 * A + E + 64 * (F * c.toNat) + 128 * (F * R)) (h2 : lo = 4 * E + R) (h3 : E < 64) (h4 : R < 2) : ∃ E' R', (A + F * c.toNat) / 2 < 256 ∧ F * G = 128 * ((A + F * c.toNat) / 2) + E' + 128 * (F * (decide (lo % 2 = 1)).toNat) + 256 * (F * R') ∧ (lo / 2 + 128 * ((A + F * c.toNat) % 2)) = 2 * E' + R' ∧ E' < 128 ∧ R' < 1 := by
  have e := fr_half F R
  have hc := fc_lt c hF
  rw [dec_mod (y := R) (by clear e hc h1; lia)]
  refine ⟨E + 64 * ((A + F * c.toNat) % 2), R / 2, ?_⟩
  revert e hc h1
  generalize F * c.toNat = X; generalize F * R = Y; generalize F * (R % 2) = Z; generalize F * (R / 2) = V; generalize F * G = U
  intro h1 e hc
  exact ⟨by clear h1 h2 e; lia, by clear h2 h3 h4 hF hA hc; lia, by clear h1 e hc hA hF; lia, by clear h1 h2 e hc; lia, by clear h1 h2 e hc; lia⟩
theorem am_7 {F G A lo E R : Nat} (c : Bool) (hF : F < 256) (hA : A < 256) (h1 : F * G = 128 * A + E + 128 * (F * c.toNat) + 256 * (F * R)) (h2 : lo = 2 * E + R) (h3 : E < 128) (h4 : R < 1) : (A + F * c.toNat) / 2 < 256 ∧ F * G = 256 * ((A + F * c.toNat) / 2) + (lo / 2 + 128 * ((A + F * c.toNat) % 2)) := by
  have hR : R = 0 := by lia
  subst hR
  cases c <;> simp at h1 ⊢ <;> lia
section
variable {two : Bool} {f ta tb sa sb : Nat}
theorem mstep {c : Bool} {a x yy sp : Nat} {n v z : Bool} {m : Nat → Nat} {Q : Co → Prop} (ha : a < 256) (hF : m f < 256) (k : ∀ n v z, Q ⟨(a + m f * c.toNat) / 2, (x + 255) % 256, yy, sp, if (x + 255) % 256 = 0 then 529 else 518, n, v, z, decide (m (f + 1) % 2 = 1), up m (f + 1) (m (f + 1) / 2 + 128 * ((a + m f * c.toNat) % 2))⟩) :
    W2 two f ta tb sa sb 7 ⟨a, x, yy, sp, 518, n, v, z, c, m⟩ Q := by
  cases c with
  | true =>
    have e1 : (m f + a + Bool.toNat false) % 256 / 2 + 128 * Bool.toNat (decide (256 ≤ m f + a + Bool.toNat false)) = (a + m f * true.toNat) / 2 := by
      rw [tn]; simp only [Bool.toNat_false, Bool.toNat_true]; split <;> lia
    have e2 : Bool.toNat (decide ((m f + a + Bool.toNat false) % 256 % 2 = 1)) = (a + m f * true.toNat) % 2 := by
      rw [tn]; simp only [Bool.toNat_false, Bool.toNat_true]; split <;> lia
    have g : gs (C02 two f ta tb sa sb) 1024 7 ⟨a, x, yy, sp, 518, n, v, z, true, m⟩ Q := by
      by_cases q : (x + 255) % 256 = 0
      · rw [if_pos q] at k
        cases two
        · rw [show C02 false f ta tb sa sb = c02_1 f ta tb sa sb from rfl, m_1_1, e1, e2, decide_eq_true q]; exact k _ _ _
        · rw [show C02 true f ta tb sa sb = c02_2 f ta tb sa sb from rfl, m_1_2, e1, e2, decide_eq_true q]; exact k _ _ _
      · rw [if_neg q] at k
        cases two
        · rw [show C02 false f ta tb sa sb = c02_1 f ta tb sa sb from rfl, m_1_1, e1, e2, decide_eq_false q]; exact k _ _ _
        · rw [show C02 true f ta tb sa sb = c02_2 f ta tb sa sb from rfl, m_1_2, e1, e2, decide_eq_false q]; exact k _ _ _
    exact gs_ok g
  | false =>
    have e1 : a / 2 + 128 * Bool.toNat false = (a + m f * false.toNat) / 2 := by simp
    have e2 : Bool.toNat (decide (a % 2 = 1)) = (a + m f * false.toNat) % 2 := by
      rw [tn]; simp only [Bool.toNat_false]; split <;> lia
    have g : gs (C02 two f ta tb sa sb) 1024 5 ⟨a, x, yy, sp, 518, n, v, z, false, m⟩ Q := by
      by_cases q : (x + 255) % 256 = 0
      · rw [if_pos q] at k
        cases two
        · rw [show C02 false f ta tb sa sb = c02_1 f ta tb sa sb from rfl, m_2_1, e1, e2, decide_eq_true q]; exact k _ _ _
        · rw [show C02 true f ta tb sa sb = c02_2 f ta tb sa sb from rfl, m_2_2, e1, e2, decide_eq_true q]; exact k _ _ _
      · rw [if_neg q] at k
        cases two
        · rw [show C02 false f ta tb sa sb = c02_1 f ta tb sa sb from rfl, m_2_1, e1, e2, decide_eq_false q]; exact k _ _ _
        · rw [show C02 true f ta tb sa sb = c02_2 f ta tb sa sb from rfl, m_2_2, e1, e2, decide_eq_false q]; exact k _ _ _
    exact Wi.le (gs_ok g) (by decide)
theorem ml_7 {F G E R a yy sp : Nat} {n v z c : Bool} {m : Nat → Nat} {Q : Co → Prop} (hF : m f = F) (hF2 : F < 256) (hA : a < 256) (h1 : F * G = 128 * a + E + 128 * (F * c.toNat) + 256 * (F * R)) (h2 : m (f + 1) = 2 * E + R) (h3 : E < 128) (h4 : R < 1)
    (k : ∀ a lo n v z c, a < 256 → F * G = 256 * a + lo → Q ⟨a, 0, yy, sp, 529, n, v, z, c, up m (f + 1) lo⟩) : W2 two f ta tb sa sb 7 ⟨a, 1, yy, sp, 518, n, v, z, c, m⟩ Q := by
  refine mstep hA (hF ▸ hF2) fun n v z => ?_
  obtain ⟨g1, g2⟩ := am_7 c hF2 hA h1 h2 h3 h4
  rw [hF]
  exact k _ _ n v z _ g1 g2
theorem ml_6 {F G E R a yy sp : Nat} {n v z c : Bool} {m : Nat → Nat} {Q : Co → Prop} (hF : m f = F) (hF2 : F < 256) (hA : a < 256) (h1 : F * G = 64 * a + E + 64 * (F * c.toNat) + 128 * (F * R)) (h2 : m (f + 1) = 4 * E + R) (h3 : E < 64) (h4 : R < 2)
    (k : ∀ a lo n v z c, a < 256 → F * G = 256 * a + lo → Q ⟨a, 0, yy, sp, 529, n, v, z, c, up m (f + 1) lo⟩) : W2 two f ta tb sa sb 14 ⟨a, 2, yy, sp, 518, n, v, z, c, m⟩ Q := by
  refine (mstep hA (hF ▸ hF2) fun n v z => ?_ : W2 two f ta tb sa sb 7 _ fun c => W2 two f ta tb sa sb 7 c Q).bind fun c' _ h => h
  refine El_eeaaaa (am_6 c hF2 hA h1 h2 h3 h4) fun E' R' g1 g2 g3 g4 g5 => ?_
  rw [hF]
  refine ml_7 (F := F) (G := G) (E := E') (R := R') ((up_ne (by lia)).trans hF) hF2 g1 g2 ((up_eq rfl).trans g3) g4 g5 fun a lo n v z c h1 h2 => ?_
  rw [up_up]; exact k a lo n v z c h1 h2
theorem ml_5 {F G E R a yy sp : Nat} {n v z c : Bool} {m : Nat → Nat} {Q : Co → Prop} (hF : m f = F) (hF2 : F < 256) (hA : a < 256) (h1 : F * G = 32 * a + E + 32 * (F * c.toNat) + 64 * (F * R)) (h2 : m (f + 1) = 8 * E + R) (h3 : E < 32) (h4 : R < 4)
    (k : ∀ a lo n v z c, a < 256 → F * G = 256 * a + lo → Q ⟨a, 0, yy, sp, 529, n, v, z, c, up m (f + 1) lo⟩) : W2 two f ta tb sa sb 21 ⟨a, 3, yy, sp, 518, n, v, z, c, m⟩ Q := by
  refine (mstep hA (hF ▸ hF2) fun n v z => ?_ : W2 two f ta tb sa sb 7 _ fun c => W2 two f ta tb sa sb 14 c Q).bind fun c' _ h => h
  refine El_eeaaaa (am_5 c hF2 hA h1 h2 h3 h4) fun E' R' g1 g2 g3 g4 g5 => ?_
  rw [hF]
  refine ml_6 (F := F) (G := G) (E := E') (R := R') ((up_ne (by lia)).trans hF) hF2 g1 g2 ((up_eq rfl).trans g3) g4 g5 fun a lo n v z c h1 h2 => ?_
  rw [up_up]; exact k a lo n v z c h1 h2
theorem ml_4 {F G E R a yy sp : Nat} {n v z c : Bool} {m : Nat → Nat} {Q : Co → Prop} (hF : m f = F) (hF2 : F < 256) (hA : a < 256) (h1 : F * G = 16 * a + E + 16 * (F * c.toNat) + 32 * (F * R)) (h2 : m (f + 1) = 16 * E + R) (h3 : E < 16) (h4 : R < 8)
    (k : ∀ a lo n v z c, a < 256 → F * G = 256 * a + lo → Q ⟨a, 0, yy, sp, 529, n, v, z, c, up m (f + 1) lo⟩) : W2 two f ta tb sa sb 28 ⟨a, 4, yy, sp, 518, n, v, z, c, m⟩ Q := by
  refine (mstep hA (hF ▸ hF2) fun n v z => ?_ : W2 two f ta tb sa sb 7 _ fun c => W2 two f ta tb sa sb 21 c Q).bind fun c' _ h => h
  refine El_eeaaaa (am_4 c hF2 hA h1 h2 h3 h4) fun E' R' g1 g2 g3 g4 g5 => ?_
  rw [hF]
  refine ml_5 (F := F) (G := G) (E := E') (R := R') ((up_ne (by lia)).trans hF) hF2 g1 g2 ((up_eq rfl).trans g3) g4 g5 fun a lo n v z c h1 h2 => ?_
  rw [up_up]; exact k a lo n v z c h1 h2
theorem ml_3 {F G E R a yy sp : Nat} {n v z c : Bool} {m : Nat → Nat} {Q : Co → Prop} (hF : m f = F) (hF2 : F < 256) (hA : a < 256) (h1 : F * G = 8 * a + E + 8 * (F * c.toNat) + 16 * (F * R)) (h2 : m (f + 1) = 32 * E + R) (h3 : E < 8) (h4 : R < 16)
    (k : ∀ a lo n v z c, a < 256 → F * G = 256 * a + lo → Q ⟨a, 0, yy, sp, 529, n, v, z, c, up m (f + 1) lo⟩) : W2 two f ta tb sa sb 35 ⟨a, 5, yy, sp, 518, n, v, z, c, m⟩ Q := by
  refine (mstep hA (hF ▸ hF2) fun n v z => ?_ : W2 two f ta tb sa sb 7 _ fun c => W2 two f ta tb sa sb 28 c Q).bind fun c' _ h => h
  refine El_eeaaaa (am_3 c hF2 hA h1 h2 h3 h4) fun E' R' g1 g2 g3 g4 g5 => ?_
  rw [hF]
  refine ml_4 (F := F) (G := G) (E := E') (R := R') ((up_ne (by lia)).trans hF) hF2 g1 g2 ((up_eq rfl).trans g3) g4 g5 fun a lo n v z c h1 h2 => ?_
  rw [up_up]; exact k a lo n v z c h1 h2
theorem ml_2 {F G E R a yy sp : Nat} {n v z c : Bool} {m : Nat → Nat} {Q : Co → Prop} (hF : m f = F) (hF2 : F < 256) (hA : a < 256) (h1 : F * G = 4 * a + E + 4 * (F * c.toNat) + 8 * (F * R)) (h2 : m (f + 1) = 64 * E + R) (h3 : E < 4) (h4 : R < 32)
    (k : ∀ a lo n v z c, a < 256 → F * G = 256 * a + lo → Q ⟨a, 0, yy, sp, 529, n, v, z, c, up m (f + 1) lo⟩) : W2 two f ta tb sa sb 42 ⟨a, 6, yy, sp, 518, n, v, z, c, m⟩ Q := by
  refine (mstep hA (hF ▸ hF2) fun n v z => ?_ : W2 two f ta tb sa sb 7 _ fun c => W2 two f ta tb sa sb 35 c Q).bind fun c' _ h => h
  refine El_eeaaaa (am_2 c hF2 hA h1 h2 h3 h4) fun E' R' g1 g2 g3 g4 g5 => ?_
  rw [hF]
  refine ml_3 (F := F) (G := G) (E := E') (R := R') ((up_ne (by lia)).trans hF) hF2 g1 g2 ((up_eq rfl).trans g3) g4 g5 fun a lo n v z c h1 h2 => ?_
  rw [up_up]; exact k a lo n v z c h1 h2
theorem ml_1 {F G E R a yy sp : Nat} {n v z c : Bool} {m : Nat → Nat} {Q : Co → Prop} (hF : m f = F) (hF2 : F < 256) (hA : a < 256) (h1 : F * G = 2 * a + E + 2 * (F * c.toNat) + 4 * (F * R)) (h2 : m (f + 1) = 128 * E + R) (h3 : E < 2) (h4 : R < 64)
    (k : ∀ a lo n v z c, a < 256 → F * G = 256 * a + lo → Q ⟨a, 0, yy, sp, 529, n, v, z, c, up m (f + 1) lo⟩) : W2 two f ta tb sa sb 49 ⟨a, 7, yy, sp, 518, n, v, z, c, m⟩ Q := by
  refine (mstep hA (hF ▸ hF2) fun n v z => ?_ : W2 two f ta tb sa sb 7 _ fun c => W2 two f ta tb sa sb 42 c Q).bind fun c' _ h => h
  refine El_eeaaaa (am_1 c hF2 hA h1 h2 h3 h4) fun E' R' g1 g2 g3 g4 g5 => ?_
  rw [hF]
  refine ml_2 (F := F) (G := G) (E := E') (R := R') ((up_ne (by lia)).trans hF) hF2 g1 g2 ((up_eq rfl).trans g3) g4 g5 fun a lo n v z c h1 h2 => ?_
  rw [up_up]; exact k a lo n v z c h1 h2
theorem ml_0 {F G E R a yy sp : Nat} {n v z c : Bool} {m : Nat → Nat} {Q : Co → Prop} (hF : m f = F) (hF2 : F < 256) (hA : a < 256) (h1 : F * G = 1 * a + E + 1 * (F * c.toNat) + 2 * (F * R)) (h2 : m (f + 1) = 256 * E + R) (h3 : E < 1) (h4 : R < 128)
    (k : ∀ a lo n v z c, a < 256 → F * G = 256 * a + lo → Q ⟨a, 0, yy, sp, 529, n, v, z, c, up m (f + 1) lo⟩) : W2 two f ta tb sa sb 56 ⟨a, 8, yy, sp, 518, n, v, z, c, m⟩ Q := by
  refine (mstep hA (hF ▸ hF2) fun n v z => ?_ : W2 two f ta tb sa sb 7 _ fun c => W2 two f ta tb sa sb 49 c Q).bind fun c' _ h => h
  refine El_eeaaaa (am_0 c hF2 hA h1 h2 h3 h4) fun E' R' g1 g2 g3 g4 g5 => ?_
  rw [hF]
  refine ml_1 (F := F) (G := G) (E := E') (R := R') ((up_ne (by lia)).trans hF) hF2 g1 g2 ((up_eq rfl).trans g3) g4 g5 fun a lo n v z c h1 h2 => ?_
  rw [up_up]; exact k a lo n v z c h1 h2
theorem mul_ok {F G a x yy sp r : Nat} {n v z c : Bool} {m : Nat → Nat} {Q : Co → Prop} (hF : m f = F) (hG : m (f + 1) = G) (hF2 : F < 256) (hG2 : G < 256) (hf : f < 240) (hs : sp ≤ 253) (hr : m (256 + (sp + 1)) + 256 * m (256 + (sp + 2)) = r) (hr' : r + 1 < 1024)
    (k : ∀ n v z c, Q ⟨F * G / 256, 0, yy, sp + 2, r + 1, n, v, z, c, up m (f + 1) (F * G % 256)⟩) : W2 two f ta tb sa sb 60 ⟨a, x, yy, sp, 512, n, v, z, c, m⟩ Q := by
  have st : gs (C02 two f ta tb sa sb) 1024 3 ⟨a, x, yy, sp, 512, n, v, z, c, m⟩ fun c => W2 two f ta tb sa sb 57 c Q := by
    have key : ∀ v z, W2 two f ta tb sa sb 57 ⟨0, 8, yy, sp, 518, false, v, z, decide (m (f + 1) % 2 = 1), up m (f + 1) (m (f + 1) / 2)⟩ Q := fun v z => by
      have e : F * G = F * (decide (m (f + 1) % 2 = 1)).toNat + 2 * (F * (G / 2)) := by
        rw [tn, hG]
        have : G = G % 2 + 2 * (G / 2) := by lia
        calc F * G = F * (G % 2 + 2 * (G / 2)) := by rw [← this]
          _ = F * (G % 2) + 2 * (F * (G / 2)) := by rw [Nat.mul_add, Nat.mul_left_comm]
          _ = _ := by congr 2; split <;> lia
      refine (ml_0 (F := F) (G := G) (E := 0) (R := G / 2) ((up_ne (by lia)).trans hF) hF2 (by decide) (by lia) ((up_eq rfl).trans (by rw [hG]; lia)) (by decide) (by lia) fun a lo n v z c h1 h2 => ?_ : W2 two f ta tb sa sb 56 _ fun c => W2 two f ta tb sa sb 1 c Q).bind fun c' _ h => h
      refine Wi.wf fun W => ?_
      have hlo : lo < 256 := by have := W.m (f + 1); dsimp only at this; rw [up_eq rfl] at this; exact this
      rw [up_up]
      have el : lo = F * G % 256 := by lia
      have ea : a = F * G / 256 := by lia
      subst el ea
      have e1 : (sp + 1) % 256 = sp + 1 := by lia
      have e2 : (sp + 1 + 1) % 256 = sp + 2 := by lia
      refine gs_ok ?_
      cases two
      · rw [show C02 false f ta tb sa sb = c02_1 f ta tb sa sb from rfl, m_r_1]
        simp only [e1, e2]
        rw [up_ne (show 256 + (sp + 1) ≠ f + 1 by lia), up_ne (show 256 + (sp + 2) ≠ f + 1 by lia), hr]
        exact ⟨hr', k _ _ _ _⟩
      · rw [show C02 true f ta tb sa sb = c02_2 f ta tb sa sb from rfl, m_r_2]
        simp only [e1, e2]
        rw [up_ne (show 256 + (sp + 1) ≠ f + 1 by lia), up_ne (show 256 + (sp + 2) ≠ f + 1 by lia), hr]
        exact ⟨hr', k _ _ _ _⟩
    cases two
    · rw [show C02 false f ta tb sa sb = c02_1 f ta tb sa sb from rfl, m_0_1]; exact key _ _
    · rw [show C02 true f ta tb sa sb = c02_2 f ta tb sa sb from rfl, m_0_2]; exact key _ _
  exact (gs_ok st).bind fun c' _ h => h
end
end
end Mine
end
section
open PySem PySem.W PyProof.Rows
namespace Mine
noncomputable section
theorem up_app (m : Nat → Nat) (k v i : Nat) : up m k v i = if i = k then v else m i := rfl
section
variable {two : Bool} {f ta tb sa sb : Nat}
theorem c02f : C02 false f ta tb sa sb = c02_1 f ta tb sa sb := rfl
theorem c02t : C02 true f ta tb sa sb = c02_2 f ta tb sa sb := rfl
theorem shd1 {a b : Nat} (ha : a < 256) (hb : b ≤ 1) : (2 * a + b) % 256 + 256 * Bool.toNat (decide (128 ≤ a)) = 2 * a + b ∧ (2 * a + b) % 256 < 256 ∧ Bool.toNat (decide (128 ≤ a)) ≤ 1 := by
  rw [tn]; split <;> exact ⟨by lia, by lia, by decide⟩
theorem sh16 {x2 x3 c2 c3 a2 a3 : Nat} (e2 : x2 + 256 * c2 = 2 * a2) (e3 : x3 + 256 * c3 = 2 * a3 + c2) (h2 : x2 < 256) (h3 : x3 < 256) : x2 + 256 * x3 = 2 * (a2 + 256 * a3) % 65536 ∧ c3 = (a2 + 256 * a3) / 32768 := by
  generalize hL : a2 + 256 * a3 = L
  have e : x2 + 256 * x3 + 65536 * c3 = 2 * L := by rw [← hL]; clear hL h2 h3; lia
  have l : x2 + 256 * x3 < 65536 := by clear e e2 e3 hL; lia
  generalize x2 + 256 * x3 = y at e l
  clear e2 e3 hL h2 h3
  exact ⟨by lia, by lia⟩
theorem shTop {x4 x5 c3 c4 a4 a5 : Nat} (e4 : x4 + 256 * c4 = 2 * a4 + c3) (h5 : 2 * a5 + c4 < 256) (e5 : x5 = (2 * a5 + c4) % 256) : x4 + 256 * x5 = 2 * (a4 + 256 * a5) + c3 := by
  rw [Nat.mod_eq_of_lt h5] at e5; subst e5; clear h5; lia
theorem shFin {m : Nat → Nat} (hm : ∀ i, m i < 256) (hL : m (f + 4) + 256 * m (f + 5) < 32768) {P : (Nat → Nat) → Prop}
    (k : ∀ m', m' (f + 2) + 256 * m' (f + 3) = 2 * (m (f + 2) + 256 * m (f + 3)) % 65536 → m' (f + 4) + 256 * m' (f + 5) = 2 * (m (f + 4) + 256 * m (f + 5)) + (m (f + 2) + 256 * m (f + 3)) / 32768 → (∀ i, i < f + 2 ∨ f + 6 ≤ i → m' i = m i) → P m') :
    P (up (up (up (up m (f + 2) (2 * m (f + 2) % 256)) (f + 3) ((2 * m (f + 3) + Bool.toNat (decide (128 ≤ m (f + 2)))) % 256)) (f + 4) ((2 * m (f + 4) + Bool.toNat (decide (128 ≤ m (f + 3)))) % 256)) (f + 5) ((2 * m (f + 5) + Bool.toNat (decide (128 ≤ m (f + 4)))) % 256)) := by
  have h2 := hm (f + 2); have h3 := hm (f + 3); have h4 := hm (f + 4); have h5 := hm (f + 5)
  have e2 := shd1 (b := 0) h2 (Nat.zero_le _)
  have e3 := shd1 h3 e2.2.2
  have e4 := shd1 h4 e3.2.2
  rw [Nat.add_zero] at e2
  refine k _ ?_ ?_ fun i hi => ?_
  · simp only [up_app, Nat.add_left_cancel_iff]
    simp only [show ¬ (2 = 5) by decide, show ¬ (2 = 4) by decide, show ¬ (2 = 3) by decide, show ¬ (3 = 5) by decide, show ¬ (3 = 4) by decide, if_true, if_false]
    exact (sh16 e2.1 e3.1 e2.2.1 e3.2.1).1
  · simp only [up_app, Nat.add_left_cancel_iff]
    simp only [show ¬ (4 = 5) by decide, if_true, if_false]
    rw [← (sh16 e2.1 e3.1 e2.2.1 e3.2.1).2]
    exact shTop e4.1 (by have := e4.1; have := e4.2; clear e2 e3 e4; lia) rfl
  · rw [up_ne (by lia), up_ne (by lia), up_ne (by lia), up_ne (by lia)]
theorem rshA {a x yy sp : Nat} {n v z c : Bool} {m : Nat → Nat} {Q : Co → Prop} (hm : ∀ i, m i < 256) (hL : m (f + 4) + 256 * m (f + 5) < 32768)
    (k : ∀ n z c m', m' (f + 2) + 256 * m' (f + 3) = 2 * (m (f + 2) + 256 * m (f + 3)) % 65536 → m' (f + 4) + 256 * m' (f + 5) = 2 * (m (f + 4) + 256 * m (f + 5)) + (m (f + 2) + 256 * m (f + 3)) / 32768 → (∀ i, i < f + 2 ∨ f + 6 ≤ i → m' i = m i) → Q ⟨a, x, yy, sp, 548, n, v, z, c, m'⟩) :
    W2 two f ta tb sa sb 4 ⟨a, x, yy, sp, 540, n, v, z, c, m⟩ Q := by
  have h2 := hm (f + 2); have h3 := hm (f + 3); have h4 := hm (f + 4); have h5 := hm (f + 5)
  have fin : ∀ n z c, Q ⟨a, x, yy, sp, 548, n, v, z, c, up (up (up (up m (f + 2) (2 * m (f + 2) % 256)) (f + 3) ((2 * m (f + 3) + Bool.toNat (decide (128 ≤ m (f + 2)))) % 256)) (f + 4) ((2 * m (f + 4) + Bool.toNat (decide (128 ≤ m (f + 3)))) % 256)) (f + 5) ((2 * m (f + 5) + Bool.toNat (decide (128 ≤ m (f + 4)))) % 256)⟩ := fun n z c => shFin hm hL (P := fun m' => Q ⟨a, x, yy, sp, 548, n, v, z, c, m'⟩) (k n z c)
  have s3 : ∀ v1, up m (f + 2) v1 (f + 3) = m (f + 3) := fun _ => up_ne (by lia)
  have s4 : ∀ v1 v2, up (up m (f + 2) v1) (f + 3) v2 (f + 4) = m (f + 4) := fun _ _ => by rw [up_ne (by lia), up_ne (by lia)]
  have s5 : ∀ v1 v2 v3, up (up (up m (f + 2) v1) (f + 3) v2) (f + 4) v3 (f + 5) = m (f + 5) := fun _ _ _ => by rw [up_ne (by lia), up_ne (by lia), up_ne (by lia)]
  refine gs_ok ?_
  cases two
  · rw [c02f, r_1_1]; simp only [s3, s4, s5]; exact fin _ _ _
  · rw [c02t, r_1_2]; simp only [s3, s4, s5]; exact fin _ _ _
theorem rshB {a x yy sp : Nat} {n v z c : Bool} {m : Nat → Nat} {Q : Co → Prop} (hm : ∀ i, m i < 256) (hL : m (f + 4) + 256 * m (f + 5) < 32768)
    (k : ∀ n z c m', m' (f + 2) + 256 * m' (f + 3) = 2 * (m (f + 2) + 256 * m (f + 3)) % 65536 → m' (f + 4) + 256 * m' (f + 5) = 2 * (m (f + 4) + 256 * m (f + 5)) + (m (f + 2) + 256 * m (f + 3)) / 32768 → (∀ i, i < f + 2 ∨ f + 6 ≤ i → m' i = m i) → Q ⟨a, x, yy, sp, 556, n, v, z, c, m'⟩) :
    W2 two f ta tb sa sb 4 ⟨a, x, yy, sp, 548, n, v, z, c, m⟩ Q := by
  have h2 := hm (f + 2); have h3 := hm (f + 3); have h4 := hm (f + 4); have h5 := hm (f + 5)
  have fin : ∀ n z c, Q ⟨a, x, yy, sp, 556, n, v, z, c, up (up (up (up m (f + 2) (2 * m (f + 2) % 256)) (f + 3) ((2 * m (f + 3) + Bool.toNat (decide (128 ≤ m (f + 2)))) % 256)) (f + 4) ((2 * m (f + 4) + Bool.toNat (decide (128 ≤ m (f + 3)))) % 256)) (f + 5) ((2 * m (f + 5) + Bool.toNat (decide (128 ≤ m (f + 4)))) % 256)⟩ := fun n z c => shFin hm hL (P := fun m' => Q ⟨a, x, yy, sp, 556, n, v, z, c, m'⟩) (k n z c)
  have s3 : ∀ v1, up m (f + 2) v1 (f + 3) = m (f + 3) := fun _ => up_ne (by lia)
  have s4 : ∀ v1 v2, up (up m (f + 2) v1) (f + 3) v2 (f + 4) = m (f + 4) := fun _ _ => by rw [up_ne (by lia), up_ne (by lia)]
  have s5 : ∀ v1 v2 v3, up (up (up m (f + 2) v1) (f + 3) v2) (f + 4) v3 (f + 5) = m (f + 5) := fun _ _ _ => by rw [up_ne (by lia), up_ne (by lia), up_ne (by lia)]
  refine gs_ok ?_
  cases two
  · rw [c02f, r_2_1]; simp only [s3, s4, s5]; exact fin _ _ _
  · rw [c02t, r_2_2]; simp only [s3, s4, s5]; exact fin _ _ _
theorem rtrial {a x yy sp : Nat} {n v z c : Bool} {m : Nat → Nat} {Q : Co → Prop} (hr : m (f + 6) ≤ 127)
    (k : ∀ a n z c m', m' (f + 6) = 2 * m (f + 6) → m' (f + 7) + 256 * m' (f + 8) = 4 * m (f + 6) + 1 → (∀ i, i < f + 6 ∨ f + 9 ≤ i → m' i = m i) → Q ⟨a, x, yy, sp, 569, n, v, z, c, m'⟩) :
    W2 two f ta tb sa sb 8 ⟨a, x, yy, sp, 556, n, v, z, c, m⟩ Q := by
  have e6 : ∀ v, up m (f + 6) v (f + 6) = v := fun _ => up_eq rfl
  have fin : ∀ a n z c, Q ⟨a, x, yy, sp, 569, n, v, z, c, up (up (up m (f + 6) (2 * m (f + 6) % 256)) (f + 7) ((2 * (2 * m (f + 6) % 256) + Bool.toNat true) % 256)) (f + 8) ((2 * 0 + Bool.toNat (decide (128 ≤ 2 * m (f + 6) % 256))) % 256)⟩ := fun a n z c => by
    refine k a n z c _ ?_ ?_ fun i hi => ?_
    · rw [up_ne (by lia), up_ne (by lia), up_eq rfl]; lia
    · rw [up_ne (show f + 7 ≠ f + 8 by lia), up_eq rfl, up_eq rfl, tn]
      simp only [Bool.toNat_true]
      split <;> lia
    · rw [up_ne (by lia), up_ne (by lia), up_ne (by lia)]
  refine gs_ok ?_
  cases two
  · rw [c02f, r_3_1]; simp only [e6]; exact fin _ _ _ _
  · rw [c02t, r_3_2]; simp only [e6]; exact fin _ _ _ _
theorem rcmp {a x yy sp : Nat} {n v z c : Bool} {m : Nat → Nat} {Q : Co → Prop} (hm : ∀ i, m i < 256)
    (k : ∀ n v z, Q ⟨(m (f + 5) + (255 - m (f + 8)) + Bool.toNat (decide (m (f + 7) ≤ m (f + 4)))) % 256, x, yy, sp, if m (f + 7) + 256 * m (f + 8) ≤ m (f + 4) + 256 * m (f + 5) then 579 else 589, n, v, z, decide (m (f + 7) + 256 * m (f + 8) ≤ m (f + 4) + 256 * m (f + 5)), m⟩) :
    W2 two f ta tb sa sb 5 ⟨a, x, yy, sp, 569, n, v, z, c, m⟩ Q := by
  have h4 := hm (f + 4); have h5 := hm (f + 5); have h7 := hm (f + 7); have h8 := hm (f + 8)
  have e : decide (256 ≤ m (f + 5) + (255 - m (f + 8)) + Bool.toNat (decide (m (f + 7) ≤ m (f + 4)))) = decide (m (f + 7) + 256 * m (f + 8) ≤ m (f + 4) + 256 * m (f + 5)) := by
    refine decide_eq_decide.mpr ?_
    rw [tn]; split <;> lia
  refine gs_ok ?_
  by_cases q : m (f + 7) + 256 * m (f + 8) ≤ m (f + 4) + 256 * m (f + 5)
  · rw [if_pos q] at k
    cases two
    · rw [c02f, r_4_1, e, decide_eq_true q]; rw [decide_eq_true q] at k; exact k _ _ _
    · rw [c02t, r_4_2, e, decide_eq_true q]; rw [decide_eq_true q] at k; exact k _ _ _
  · rw [if_neg q] at k
    cases two
    · rw [c02f, r_4_1, e, decide_eq_false q]; rw [decide_eq_false q] at k; exact k _ _ _
    · rw [c02t, r_4_2, e, decide_eq_false q]; rw [decide_eq_false q] at k; exact k _ _ _
theorem rsub {x yy sp : Nat} {n v z : Bool} {m : Nat → Nat} {Q : Co → Prop} (hm : ∀ i, m i < 256) (hr : m (f + 6) < 255) (hle : m (f + 7) + 256 * m (f + 8) ≤ m (f + 4) + 256 * m (f + 5))
    (k : ∀ a n v z c m', m' (f + 4) + 256 * m' (f + 5) = m (f + 4) + 256 * m (f + 5) - (m (f + 7) + 256 * m (f + 8)) → m' (f + 6) = m (f + 6) + 1 → (∀ i, i < f + 4 ∨ f + 7 ≤ i → m' i = m i) → Q ⟨a, x, yy, sp, 589, n, v, z, c, m'⟩) :
    W2 two f ta tb sa sb 5 ⟨(m (f + 5) + (255 - m (f + 8)) + Bool.toNat (decide (m (f + 7) ≤ m (f + 4)))) % 256, x, yy, sp, 579, n, v, z, true, m⟩ Q := by
  have h4 := hm (f + 4); have h5 := hm (f + 5); have h7 := hm (f + 7); have h8 := hm (f + 8)
  generalize ha : (m (f + 5) + (255 - m (f + 8)) + Bool.toNat (decide (m (f + 7) ≤ m (f + 4)))) % 256 = a
  have s4 : up m (f + 5) a (f + 4) = m (f + 4) := up_ne (by lia)
  have s7 : up m (f + 5) a (f + 7) = m (f + 7) := up_ne (by lia)
  have s6 : ∀ v, up (up m (f + 5) a) (f + 4) v (f + 6) = m (f + 6) := fun _ => by rw [up_ne (by lia), up_ne (by lia)]
  have fin : ∀ a' n v z c, Q ⟨a', x, yy, sp, 589, n, v, z, c, up (up (up m (f + 5) a) (f + 4) ((m (f + 4) + (255 - m (f + 7)) + Bool.toNat true) % 256)) (f + 6) ((m (f + 6) + 1) % 256)⟩ := fun a' n v z c => by
    refine k a' n v z c _ ?_ ?_ fun i hi => ?_
    · rw [up_ne (show f + 4 ≠ f + 6 by lia), up_eq rfl, up_ne (show f + 5 ≠ f + 6 by lia), up_ne (show f + 5 ≠ f + 4 by lia), up_eq rfl, ← ha, tn]
      simp only [Bool.toNat_true]
      split <;> lia
    · rw [up_eq rfl]; lia
    · rw [up_ne (by lia), up_ne (by lia), up_ne (by lia)]
  refine gs_ok ?_
  cases two
  · rw [c02f, r_5_1]; simp only [s4, s7, s6]; exact fin _ _ _ _ _
  · rw [c02t, r_5_2]; simp only [s4, s7, s6]; exact fin _ _ _ _ _
theorem rend {a x yy sp : Nat} {n v z c : Bool} {m : Nat → Nat} {Q : Co → Prop} (k : ∀ n v z, Q ⟨a, x, (yy + 255) % 256, sp, if (yy + 255) % 256 = 0 then 592 else 540, n, v, z, c, m⟩) : W2 two f ta tb sa sb 2 ⟨a, x, yy, sp, 589, n, v, z, c, m⟩ Q := by
  refine gs_ok ?_
  by_cases q : (yy + 255) % 256 = 0
  · rw [if_pos q] at k
    cases two
    · rw [c02f, r_6_1, decide_eq_true q]; exact k _ _ _
    · rw [c02t, r_6_2, decide_eq_true q]; exact k _ _ _
  · rw [if_neg q] at k
    cases two
    · rw [c02f, r_6_1, decide_eq_false q]; exact k _ _ _
    · rw [c02t, r_6_2, decide_eq_false q]; exact k _ _ _
theorem sh4 {W W1 W2 L L1 L2 : Nat} (a1 : W1 = 2 * W % 65536) (b1 : W2 = 2 * W1 % 65536) (a2 : L1 = 2 * L + W / 32768) (b2 : L2 = 2 * L1 + W1 / 32768) (hW : W < 65536) : W2 = 4 * W % 65536 ∧ L2 = 4 * L + 4 * W / 65536 := by
  subst b1 a2 b2
  exact ⟨by subst a1; lia, by subst a1; lia⟩
theorem rstep {a x yy sp : Nat} {n v z c : Bool} {m : Nat → Nat} {Q : Co → Prop} (hr : m (f + 6) ≤ 127) (hL : m (f + 4) + 256 * m (f + 5) ≤ 2 * m (f + 6))
    (k : ∀ a n v z c m' L r, m' (f + 2) + 256 * m' (f + 3) = 4 * (m (f + 2) + 256 * m (f + 3)) % 65536 → m' (f + 4) + 256 * m' (f + 5) = L → m' (f + 6) = r → m' (f + 7) + 256 * m' (f + 8) = 4 * m (f + 6) + 1 →
      ((r = 2 * m (f + 6) ∧ L = 4 * (m (f + 4) + 256 * m (f + 5)) + 4 * (m (f + 2) + 256 * m (f + 3)) / 65536 ∧ L ≤ 4 * m (f + 6)) ∨ (r = 2 * m (f + 6) + 1 ∧ L + 4 * m (f + 6) + 1 = 4 * (m (f + 4) + 256 * m (f + 5)) + 4 * (m (f + 2) + 256 * m (f + 3)) / 65536)) →
      (∀ i, i < f + 2 ∨ f + 9 ≤ i → m' i = m i) → Q ⟨a, x, (yy + 255) % 256, sp, if (yy + 255) % 256 = 0 then 592 else 540, n, v, z, c, m'⟩) :
    W2 two f ta tb sa sb 28 ⟨a, x, yy, sp, 540, n, v, z, c, m⟩ Q := by
  refine Wi.wf fun W0 => ?_
  have hm0 : ∀ i, m i < 256 := W0.m
  have g2 := hm0 (f + 2); have g3 := hm0 (f + 3)
  refine (rshA hm0 (by lia) fun n z c m1 a1 a2 a3 => ?_ : W2 two f ta tb sa sb 4 _ fun c => W2 two f ta tb sa sb 24 c Q).bind fun c' _ h => h
  refine Wi.wf fun W1 => ?_
  have hm1 : ∀ i, m1 i < 256 := W1.m
  have k2 := hm1 (f + 2); have k3 := hm1 (f + 3)
  refine (rshB hm1 (by lia) fun n z c m2 b1 b2 b3 => ?_ : W2 two f ta tb sa sb 4 _ fun c => W2 two f ta tb sa sb 20 c Q).bind fun c' _ h => h
  have hW : m (f + 2) + 256 * m (f + 3) < 65536 := by clear a1 a2 a3 b1 b2 b3 k2 k3 hL hr; lia
  obtain ⟨s1, s2⟩ := sh4 a1 b1 a2 b2 hW
  have r6 : m2 (f + 6) = m (f + 6) := (b3 _ (by lia)).trans (a3 _ (by lia))
  have s3 : 4 * (m (f + 2) + 256 * m (f + 3)) / 65536 ≤ 3 := by clear a1 a2 a3 b1 b2 b3 s1 s2 k2 k3 hL hr; lia
  clear a1 b1 a2 b2 k2 k3 g2 g3
  refine (rtrial (by clear s1 s2 s3 hW; lia) fun a n z c m3 c1 c2 c3 => ?_ : W2 two f ta tb sa sb 8 _ fun c => W2 two f ta tb sa sb 12 c Q).bind fun c' _ h => h
  refine Wi.wf fun W3 => ?_
  have hm3 : ∀ i, m3 i < 256 := W3.m
  have p2 : m3 (f + 2) = m2 (f + 2) := c3 _ (by lia)
  have p3 : m3 (f + 3) = m2 (f + 3) := c3 _ (by lia)
  have p4 : m3 (f + 4) = m2 (f + 4) := c3 _ (by lia)
  have p5 : m3 (f + 5) = m2 (f + 5) := c3 _ (by lia)
  refine (rcmp hm3 fun n v z => ?_ : W2 two f ta tb sa sb 5 _ fun c => W2 two f ta tb sa sb 7 c Q).bind fun c' _ h => h
  by_cases q : m3 (f + 7) + 256 * m3 (f + 8) ≤ m3 (f + 4) + 256 * m3 (f + 5)
  · rw [if_pos q, decide_eq_true q]
    refine (rsub hm3 (by lia) q fun a n v z c m4 d1 d2 d3 => ?_ : W2 two f ta tb sa sb 5 _ fun c => W2 two f ta tb sa sb 2 c Q).bind fun c' _ h => h
    have d1' := d1
    rw [p4, p5, s2] at d1
    refine rend fun n v z => k _ n v z _ m4 _ _ ?_ rfl rfl ?_ (.inr ⟨?_, ?_⟩) fun i hi => ?_
    · rw [d3 (f + 2) (by lia), d3 (f + 3) (by lia), p2, p3]; exact s1
    · rw [d3 (f + 7) (by lia), d3 (f + 8) (by lia)]; clear s1 s2 s3 hW d1 d1'; lia
    · clear s1 s2 s3 hW d1 d1'; lia
    · rw [p4, p5, s2] at q
      generalize 4 * (m (f + 2) + 256 * m (f + 3)) / 65536 = D at q d1 ⊢
      clear s1 hW d1' s2 s3 hr hL; lia
    · exact (d3 i (by lia)).trans ((c3 i (by lia)).trans ((b3 i (by lia)).trans (a3 i (by lia))))
  · rw [if_neg q, decide_eq_false q]
    rw [p4, p5, s2] at q
    refine Wi.le (rend fun n v z => k _ n v z _ m3 _ _ ?_ rfl rfl ?_ (.inl ⟨?_, ?_, ?_⟩) fun i hi => ?_) (by decide)
    · rw [p2, p3]; exact s1
    · clear s1 s2 s3 hW q; lia
    · clear s1 s2 s3 hW q; lia
    · rw [p4, p5]; exact s2
    · rw [p4, p5, s2]; clear s1 s2 hW; lia
    · exact (c3 i (by lia)).trans ((b3 i (by lia)).trans (a3 i (by lia)))
theorem rl_7 {T N a x sp : Nat} {n v z c : Bool} {m : Nat → Nat} {Q : Co → Prop} (hT : T < 65536) (h1 : 65536 * N + (m (f + 2) + 256 * m (f + 3)) = 16384 * T) (h2 : m (f + 6) * m (f + 6) + (m (f + 4) + 256 * m (f + 5)) = N) (h3 : m (f + 4) + 256 * m (f + 5) ≤ 2 * m (f + 6)) (h4 : m (f + 6) < 128)
    (k : ∀ a n v z c m' L r, m' (f + 2) + 256 * m' (f + 3) = 0 → m' (f + 4) + 256 * m' (f + 5) = L → m' (f + 6) = r → r * r + L = T → L ≤ 2 * r → m' (f + 7) + 256 * m' (f + 8) = 4 * (r / 2) + 1 → (∀ i, i < f + 2 ∨ f + 9 ≤ i → m' i = m i) → Q ⟨a, x, 0, sp, 592, n, v, z, c, m'⟩) : W2 two f ta tb sa sb 28 ⟨a, x, 1, sp, 540, n, v, z, c, m⟩ Q := by
  refine Wi.wf fun W => ?_
  have b2 := W.m (f + 2); have b3 := W.m (f + 3)
  dsimp only at b2 b3
  have sq : ∀ r : Nat, (2 * r) * (2 * r) = 4 * (r * r) ∧ (2 * r + 1) * (2 * r + 1) = 4 * (r * r) + 4 * r + 1 := fun r => ⟨by rw [Nat.mul_mul_mul_comm], by rw [Nat.add_mul, Nat.mul_add, Nat.mul_mul_mul_comm]; lia⟩
  obtain ⟨s1, s2⟩ := sq (m (f + 6))
  refine rstep (by lia) h3 fun a n v z c m' L r e1 e2 e3 e4 e5 e6 => ?_
  have hN : r * r + L = T ∧ L ≤ 2 * r ∧ r / 2 = m (f + 6) ∧ m' (f + 2) + 256 * m' (f + 3) = 0 := by
    rcases e5 with ⟨rfl, e5, e7⟩ | ⟨rfl, e5⟩
    · rw [s1]; refine ⟨by (clear e1 e2; lia), by omega, by lia, by lia⟩
    · rw [s2]; refine ⟨by (clear e1 e2; lia), by (clear h1 e1 e2; lia), by lia, by lia⟩
  exact k a n v z c m' L r hN.2.2.2 e2 e3 hN.1 hN.2.1 (by rw [hN.2.2.1]; exact e4) e6
theorem rl_6 {T N a x sp : Nat} {n v z c : Bool} {m : Nat → Nat} {Q : Co → Prop} (hT : T < 65536) (h1 : 65536 * N + (m (f + 2) + 256 * m (f + 3)) = 4096 * T) (h2 : m (f + 6) * m (f + 6) + (m (f + 4) + 256 * m (f + 5)) = N) (h3 : m (f + 4) + 256 * m (f + 5) ≤ 2 * m (f + 6)) (h4 : m (f + 6) < 64)
    (k : ∀ a n v z c m' L r, m' (f + 2) + 256 * m' (f + 3) = 0 → m' (f + 4) + 256 * m' (f + 5) = L → m' (f + 6) = r → r * r + L = T → L ≤ 2 * r → m' (f + 7) + 256 * m' (f + 8) = 4 * (r / 2) + 1 → (∀ i, i < f + 2 ∨ f + 9 ≤ i → m' i = m i) → Q ⟨a, x, 0, sp, 592, n, v, z, c, m'⟩) : W2 two f ta tb sa sb 56 ⟨a, x, 2, sp, 540, n, v, z, c, m⟩ Q := by
  refine Wi.wf fun W => ?_
  have b2 := W.m (f + 2); have b3 := W.m (f + 3)
  dsimp only at b2 b3
  have sq : ∀ r : Nat, (2 * r) * (2 * r) = 4 * (r * r) ∧ (2 * r + 1) * (2 * r + 1) = 4 * (r * r) + 4 * r + 1 := fun r => ⟨by rw [Nat.mul_mul_mul_comm], by rw [Nat.add_mul, Nat.mul_add, Nat.mul_mul_mul_comm]; lia⟩
  obtain ⟨s1, s2⟩ := sq (m (f + 6))
  refine (rstep (by lia) h3 fun a n v z c m' L r e1 e2 e3 e4 e5 e6 => ?_ : W2 two f ta tb sa sb 28 _ fun c => W2 two f ta tb sa sb 28 c Q).bind fun c' _ h => h
  have hN : r * r + L = 4 * N + 4 * (m (f + 2) + 256 * m (f + 3)) / 65536 ∧ L ≤ 2 * r ∧ r < 128 := by
    rcases e5 with ⟨rfl, e5, e7⟩ | ⟨rfl, e5⟩
    · rw [s1]; refine ⟨by (clear e2; lia), by omega, by lia⟩
    · rw [s2]; refine ⟨by (clear e2; lia), by (clear h1 e1 e2; lia), by lia⟩
  refine rl_7 (N := 4 * N + 4 * (m (f + 2) + 256 * m (f + 3)) / 65536) hT (by lia) (by rw [e3, e2]; exact hN.1) (by rw [e3, e2]; exact hN.2.1) (by rw [e3]; exact hN.2.2) fun a n v z c m'' L r g1 g2 g3 g4 g5 g6 g7 => ?_
  exact k a n v z c m'' L r g1 g2 g3 g4 g5 g6 fun i hi => (g7 i hi).trans (e6 i hi)
theorem rl_5 {T N a x sp : Nat} {n v z c : Bool} {m : Nat → Nat} {Q : Co → Prop} (hT : T < 65536) (h1 : 65536 * N + (m (f + 2) + 256 * m (f + 3)) = 1024 * T) (h2 : m (f + 6) * m (f + 6) + (m (f + 4) + 256 * m (f + 5)) = N) (h3 : m (f + 4) + 256 * m (f + 5) ≤ 2 * m (f + 6)) (h4 : m (f + 6) < 32)
    (k : ∀ a n v z c m' L r, m' (f + 2) + 256 * m' (f + 3) = 0 → m' (f + 4) + 256 * m' (f + 5) = L → m' (f + 6) = r → r * r + L = T → L ≤ 2 * r → m' (f + 7) + 256 * m' (f + 8) = 4 * (r / 2) + 1 → (∀ i, i < f + 2 ∨ f + 9 ≤ i → m' i = m i) → Q ⟨a, x, 0, sp, 592, n, v, z, c, m'⟩) : W2 two f ta tb sa sb 84 ⟨a, x, 3, sp, 540, n, v, z, c, m⟩ Q := by
  refine Wi.wf fun W => ?_
  have b2 := W.m (f + 2); have b3 := W.m (f + 3)
  dsimp only at b2 b3
  have sq : ∀ r : Nat, (2 * r) * (2 * r) = 4 * (r * r) ∧ (2 * r + 1) * (2 * r + 1) = 4 * (r * r) + 4 * r + 1 := fun r => ⟨by rw [Nat.mul_mul_mul_comm], by rw [Nat.add_mul, Nat.mul_add, Nat.mul_mul_mul_comm]; lia⟩
  obtain ⟨s1, s2⟩ := sq (m (f + 6))
  refine (rstep (by lia) h3 fun a n v z c m' L r e1 e2 e3 e4 e5 e6 => ?_ : W2 two f ta tb sa sb 28 _ fun c => W2 two f ta tb sa sb 56 c Q).bind fun c' _ h => h
  have hN : r * r + L = 4 * N + 4 * (m (f + 2) + 256 * m (f + 3)) / 65536 ∧ L ≤ 2 * r ∧ r < 64 := by
    rcases e5 with ⟨rfl, e5, e7⟩ | ⟨rfl, e5⟩
    · rw [s1]; refine ⟨by (clear e2; lia), by omega, by lia⟩
    · rw [s2]; refine ⟨by (clear e2; lia), by (clear h1 e1 e2; lia), by lia⟩
  refine rl_6 (N := 4 * N + 4 * (m (f + 2) + 256 * m (f + 3)) / 65536) hT (by lia) (by rw [e3, e2]; exact hN.1) (by rw [e3, e2]; exact hN.2.1) (by rw [e3]; exact hN.2.2) fun a n v z c m'' L r g1 g2 g3 g4 g5 g6 g7 => ?_
  exact k a n v z c m'' L r g1 g2 g3 g4 g5 g6 fun i hi => (g7 i hi).trans (e6 i hi)
theorem rl_4 {T N a x sp : Nat} {n v z c : Bool} {m : Nat → Nat} {Q : Co → Prop} (hT : T < 65536) (h1 : 65536 * N + (m (f + 2) + 256 * m (f + 3)) = 256 * T) (h2 : m (f + 6) * m (f + 6) + (m (f + 4) + 256 * m (f + 5)) = N) (h3 : m (f + 4) + 256 * m (f + 5) ≤ 2 * m (f + 6)) (h4 : m (f + 6) < 16)
    (k : ∀ a n v z c m' L r, m' (f + 2) + 256 * m' (f + 3) = 0 → m' (f + 4) + 256 * m' (f + 5) = L → m' (f + 6) = r → r * r + L = T → L ≤ 2 * r → m' (f + 7) + 256 * m' (f + 8) = 4 * (r / 2) + 1 → (∀ i, i < f + 2 ∨ f + 9 ≤ i → m' i = m i) → Q ⟨a, x, 0, sp, 592, n, v, z, c, m'⟩) : W2 two f ta tb sa sb 112 ⟨a, x, 4, sp, 540, n, v, z, c, m⟩ Q := by
  refine Wi.wf fun W => ?_
  have b2 := W.m (f + 2); have b3 := W.m (f + 3)
  dsimp only at b2 b3
  have sq : ∀ r : Nat, (2 * r) * (2 * r) = 4 * (r * r) ∧ (2 * r + 1) * (2 * r + 1) = 4 * (r * r) + 4 * r + 1 := fun r => ⟨by rw [Nat.mul_mul_mul_comm], by rw [Nat.add_mul, Nat.mul_add, Nat.mul_mul_mul_comm]; lia⟩
  obtain ⟨s1, s2⟩ := sq (m (f + 6))
  refine (rstep (by lia) h3 fun a n v z c m' L r e1 e2 e3 e4 e5 e6 => ?_ : W2 two f ta tb sa sb 28 _ fun c => W2 two f ta tb sa sb 84 c Q).bind fun c' _ h => h
  have hN : r * r + L = 4 * N + 4 * (m (f + 2) + 256 * m (f + 3)) / 65536 ∧ L ≤ 2 * r ∧ r < 32 := by
    rcases e5 with ⟨rfl, e5, e7⟩ | ⟨rfl, e5⟩
    · rw [s1]; refine ⟨by (clear e2; lia), by omega, by lia⟩
    · rw [s2]; refine ⟨by (clear e2; lia), by (clear h1 e1 e2; lia), by lia⟩
  refine rl_5 (N := 4 * N + 4 * (m (f + 2) + 256 * m (f + 3)) / 65536) hT (by lia) (by rw [e3, e2]; exact hN.1) (by rw [e3, e2]; exact hN.2.1) (by rw [e3]; exact hN.2.2) fun a n v z c m'' L r g1 g2 g3 g4 g5 g6 g7 => ?_
  exact k a n v z c m'' L r g1 g2 g3 g4 g5 g6 fun i hi => (g7 i hi).trans (e6 i hi)
theorem rl_3 {T N a x sp : Nat} {n v z c : Bool} {m : Nat → Nat} {Q : Co → Prop} (hT : T < 65536) (h1 : 65536 * N + (m (f + 2) + 256 * m (f + 3)) = 64 * T) (h2 : m (f + 6) * m (f + 6) + (m (f + 4) + 256 * m (f + 5)) = N) (h3 : m (f + 4) + 256 * m (f + 5) ≤ 2 * m (f + 6)) (h4 : m (f + 6) < 8)
    (k : ∀ a n v z c m' L r, m' (f + 2) + 256 * m' (f + 3) = 0 → m' (f + 4) + 256 * m' (f + 5) = L → m' (f + 6) = r → r * r + L = T → L ≤ 2 * r → m' (f + 7) + 256 * m' (f + 8) = 4 * (r / 2) + 1 → (∀ i, i < f + 2 ∨ f + 9 ≤ i → m' i = m i) → Q ⟨a, x, 0, sp, 592, n, v, z, c, m'⟩) : W2 two f ta tb sa sb 140 ⟨a, x, 5, sp, 540, n, v, z, c, m⟩ Q := by
  refine Wi.wf fun W => ?_
  have b2 := W.m (f + 2); have b3 := W.m (f + 3)
  dsimp only at b2 b3
  have sq : ∀ r : Nat, (2 * r) * (2 * r) = 4 * (r * r) ∧ (2 * r + 1) * (2 * r + 1) = 4 * (r * r) + 4 * r + 1 := fun r => ⟨by rw [Nat.mul_mul_mul_comm], by rw [Nat.add_mul, Nat.mul_add, Nat.mul_mul_mul_comm]; lia⟩
  obtain ⟨s1, s2⟩ := sq (m (f + 6))
  refine (rstep (by lia) h3 fun a n v z c m' L r e1 e2 e3 e4 e5 e6 => ?_ : W2 two f ta tb sa sb 28 _ fun c => W2 two f ta tb sa sb 112 c Q).bind fun c' _ h => h
  have hN : r * r + L = 4 * N + 4 * (m (f + 2) + 256 * m (f + 3)) / 65536 ∧ L ≤ 2 * r ∧ r < 16 := by
    rcases e5 with ⟨rfl, e5, e7⟩ | ⟨rfl, e5⟩
    · rw [s1]; refine ⟨by (clear e2; lia), by omega, by lia⟩
    · rw [s2]; refine ⟨by (clear e2; lia), by (clear h1 e1 e2; lia), by lia⟩
  refine rl_4 (N := 4 * N + 4 * (m (f + 2) + 256 * m (f + 3)) / 65536) hT (by lia) (by rw [e3, e2]; exact hN.1) (by rw [e3, e2]; exact hN.2.1) (by rw [e3]; exact hN.2.2) fun a n v z c m'' L r g1 g2 g3 g4 g5 g6 g7 => ?_
  exact k a n v z c m'' L r g1 g2 g3 g4 g5 g6 fun i hi => (g7 i hi).trans (e6 i hi)
theorem rl_2 {T N a x sp : Nat} {n v z c : Bool} {m : Nat → Nat} {Q : Co → Prop} (hT : T < 65536) (h1 : 65536 * N + (m (f + 2) + 256 * m (f + 3)) = 16 * T) (h2 : m (f + 6) * m (f + 6) + (m (f + 4) + 256 * m (f + 5)) = N) (h3 : m (f + 4) + 256 * m (f + 5) ≤ 2 * m (f + 6)) (h4 : m (f + 6) < 4)
    (k : ∀ a n v z c m' L r, m' (f + 2) + 256 * m' (f + 3) = 0 → m' (f + 4) + 256 * m' (f + 5) = L → m' (f + 6) = r → r * r + L = T → L ≤ 2 * r → m' (f + 7) + 256 * m' (f + 8) = 4 * (r / 2) + 1 → (∀ i, i < f + 2 ∨ f + 9 ≤ i → m' i = m i) → Q ⟨a, x, 0, sp, 592, n, v, z, c, m'⟩) : W2 two f ta tb sa sb 168 ⟨a, x, 6, sp, 540, n, v, z, c, m⟩ Q := by
  refine Wi.wf fun W => ?_
  have b2 := W.m (f + 2); have b3 := W.m (f + 3)
  dsimp only at b2 b3
  have sq : ∀ r : Nat, (2 * r) * (2 * r) = 4 * (r * r) ∧ (2 * r + 1) * (2 * r + 1) = 4 * (r * r) + 4 * r + 1 := fun r => ⟨by rw [Nat.mul_mul_mul_comm], by rw [Nat.add_mul, Nat.mul_add, Nat.mul_mul_mul_comm]; lia⟩
  obtain ⟨s1, s2⟩ := sq (m (f + 6))
  refine (rstep (by lia) h3 fun a n v z c m' L r e1 e2 e3 e4 e5 e6 => ?_ : W2 two f ta tb sa sb 28 _ fun c => W2 two f ta tb sa sb 140 c Q).bind fun c' _ h => h
  have hN : r * r + L = 4 * N + 4 * (m (f + 2) + 256 * m (f + 3)) / 65536 ∧ L ≤ 2 * r ∧ r < 8 := by
    rcases e5 with ⟨rfl, e5, e7⟩ | ⟨rfl, e5⟩
    · rw [s1]; refine ⟨by (clear e2; lia), by omega, by lia⟩
    · rw [s2]; refine ⟨by (clear e2; lia), by (clear h1 e1 e2; lia), by lia⟩
  refine rl_3 (N := 4 * N + 4 * (m (f + 2) + 256 * m (f + 3)) / 65536) hT (by lia) (by rw [e3, e2]; exact hN.1) (by rw [e3, e2]; exact hN.2.1) (by rw [e3]; exact hN.2.2) fun a n v z c m'' L r g1 g2 g3 g4 g5 g6 g7 => ?_
  exact k a n v z c m'' L r g1 g2 g3 g4 g5 g6 fun i hi => (g7 i hi).trans (e6 i hi)
theorem rl_1 {T N a x sp : Nat} {n v z c : Bool} {m : Nat → Nat} {Q : Co → Prop} (hT : T < 65536) (h1 : 65536 * N + (m (f + 2) + 256 * m (f + 3)) = 4 * T) (h2 : m (f + 6) * m (f + 6) + (m (f + 4) + 256 * m (f + 5)) = N) (h3 : m (f + 4) + 256 * m (f + 5) ≤ 2 * m (f + 6)) (h4 : m (f + 6) < 2)
    (k : ∀ a n v z c m' L r, m' (f + 2) + 256 * m' (f + 3) = 0 → m' (f + 4) + 256 * m' (f + 5) = L → m' (f + 6) = r → r * r + L = T → L ≤ 2 * r → m' (f + 7) + 256 * m' (f + 8) = 4 * (r / 2) + 1 → (∀ i, i < f + 2 ∨ f + 9 ≤ i → m' i = m i) → Q ⟨a, x, 0, sp, 592, n, v, z, c, m'⟩) : W2 two f ta tb sa sb 196 ⟨a, x, 7, sp, 540, n, v, z, c, m⟩ Q := by
  refine Wi.wf fun W => ?_
  have b2 := W.m (f + 2); have b3 := W.m (f + 3)
  dsimp only at b2 b3
  have sq : ∀ r : Nat, (2 * r) * (2 * r) = 4 * (r * r) ∧ (2 * r + 1) * (2 * r + 1) = 4 * (r * r) + 4 * r + 1 := fun r => ⟨by rw [Nat.mul_mul_mul_comm], by rw [Nat.add_mul, Nat.mul_add, Nat.mul_mul_mul_comm]; lia⟩
  obtain ⟨s1, s2⟩ := sq (m (f + 6))
  refine (rstep (by lia) h3 fun a n v z c m' L r e1 e2 e3 e4 e5 e6 => ?_ : W2 two f ta tb sa sb 28 _ fun c => W2 two f ta tb sa sb 168 c Q).bind fun c' _ h => h
  have hN : r * r + L = 4 * N + 4 * (m (f + 2) + 256 * m (f + 3)) / 65536 ∧ L ≤ 2 * r ∧ r < 4 := by
    rcases e5 with ⟨rfl, e5, e7⟩ | ⟨rfl, e5⟩
    · rw [s1]; refine ⟨by (clear e2; lia), by omega, by lia⟩
    · rw [s2]; refine ⟨by (clear e2; lia), by (clear h1 e1 e2; lia), by lia⟩
  refine rl_2 (N := 4 * N + 4 * (m (f + 2) + 256 * m (f + 3)) / 65536) hT (by lia) (by rw [e3, e2]; exact hN.1) (by rw [e3, e2]; exact hN.2.1) (by rw [e3]; exact hN.2.2) fun a n v z c m'' L r g1 g2 g3 g4 g5 g6 g7 => ?_
  exact k a n v z c m'' L r g1 g2 g3 g4 g5 g6 fun i hi => (g7 i hi).trans (e6 i hi)
theorem rl_0 {T N a x sp : Nat} {n v z c : Bool} {m : Nat → Nat} {Q : Co → Prop} (hT : T < 65536) (h1 : 65536 * N + (m (f + 2) + 256 * m (f + 3)) = 1 * T) (h2 : m (f + 6) * m (f + 6) + (m (f + 4) + 256 * m (f + 5)) = N) (h3 : m (f + 4) + 256 * m (f + 5) ≤ 2 * m (f + 6)) (h4 : m (f + 6) < 1)
    (k : ∀ a n v z c m' L r, m' (f + 2) + 256 * m' (f + 3) = 0 → m' (f + 4) + 256 * m' (f + 5) = L → m' (f + 6) = r → r * r + L = T → L ≤ 2 * r → m' (f + 7) + 256 * m' (f + 8) = 4 * (r / 2) + 1 → (∀ i, i < f + 2 ∨ f + 9 ≤ i → m' i = m i) → Q ⟨a, x, 0, sp, 592, n, v, z, c, m'⟩) : W2 two f ta tb sa sb 224 ⟨a, x, 8, sp, 540, n, v, z, c, m⟩ Q := by
  refine Wi.wf fun W => ?_
  have b2 := W.m (f + 2); have b3 := W.m (f + 3)
  dsimp only at b2 b3
  have sq : ∀ r : Nat, (2 * r) * (2 * r) = 4 * (r * r) ∧ (2 * r + 1) * (2 * r + 1) = 4 * (r * r) + 4 * r + 1 := fun r => ⟨by rw [Nat.mul_mul_mul_comm], by rw [Nat.add_mul, Nat.mul_add, Nat.mul_mul_mul_comm]; lia⟩
  obtain ⟨s1, s2⟩ := sq (m (f + 6))
  refine (rstep (by lia) h3 fun a n v z c m' L r e1 e2 e3 e4 e5 e6 => ?_ : W2 two f ta tb sa sb 28 _ fun c => W2 two f ta tb sa sb 196 c Q).bind fun c' _ h => h
  have hN : r * r + L = 4 * N + 4 * (m (f + 2) + 256 * m (f + 3)) / 65536 ∧ L ≤ 2 * r ∧ r < 2 := by
    rcases e5 with ⟨rfl, e5, e7⟩ | ⟨rfl, e5⟩
    · rw [s1]; refine ⟨by omega, by (clear h4; omega), by lia⟩
    · rw [s2]; refine ⟨by (clear h3 h4 e2; lia), by (clear hT h2 h4 e1 e2; lia), by lia⟩
  refine rl_1 (N := 4 * N + 4 * (m (f + 2) + 256 * m (f + 3)) / 65536) hT (by (clear h2; lia)) (by rw [e3, e2]; exact hN.1) (by rw [e3, e2]; exact hN.2.1) (by rw [e3]; exact hN.2.2) fun a n v z c m'' L r g1 g2 g3 g4 g5 g6 g7 => ?_
  exact k a n v z c m'' L r g1 g2 g3 g4 g5 g6 fun i hi => (g7 i hi).trans (e6 i hi)
theorem root_ok {T a x yy sp r : Nat} {n v z c : Bool} {m : Nat → Nat} {Q : Co → Prop} (hf : f < 240) (hT : m (f + 2) + 256 * m (f + 3) = T) (hs : sp ≤ 253) (hr : m (256 + (sp + 1)) + 256 * m (256 + (sp + 2)) = r) (hr' : r + 1 < 1024)
    (k : ∀ a n v z c m' L q, m' (f + 2) + 256 * m' (f + 3) = 0 → m' (f + 4) + 256 * m' (f + 5) = L → m' (f + 6) = q → q * q + L = T → L ≤ 2 * q → m' (f + 7) + 256 * m' (f + 8) = 4 * (q / 2) + 1 → (∀ i, i < f + 2 ∨ f + 9 ≤ i → m' i = m i) → Q ⟨a, x, 0, sp + 2, r + 1, n, v, z, c, m'⟩) :
    W2 two f ta tb sa sb 230 ⟨a, x, yy, sp, 530, n, v, z, c, m⟩ Q := by
  have st : gs (C02 two f ta tb sa sb) 1024 5 ⟨a, x, yy, sp, 530, n, v, z, c, m⟩ fun c => W2 two f ta tb sa sb 225 c Q := by
    have key : ∀ n v z c, W2 two f ta tb sa sb 225 ⟨0, x, 8, sp, 540, n, v, z, c, up (up (up m (f + 4) 0) (f + 5) 0) (f + 6) 0⟩ Q := fun n v z c => by
      refine Wi.wf fun W => ?_
      have b2 := W.m (f + 2); have b3 := W.m (f + 3)
      have u2 : up (up (up m (f + 4) 0) (f + 5) 0) (f + 6) 0 (f + 2) = m (f + 2) := by rw [up_ne (by lia), up_ne (by lia), up_ne (by lia)]
      have u3 : up (up (up m (f + 4) 0) (f + 5) 0) (f + 6) 0 (f + 3) = m (f + 3) := by rw [up_ne (by lia), up_ne (by lia), up_ne (by lia)]
      have u4 : up (up (up m (f + 4) 0) (f + 5) 0) (f + 6) 0 (f + 4) = 0 := by rw [up_ne (by lia), up_ne (by lia), up_eq rfl]
      have u5 : up (up (up m (f + 4) 0) (f + 5) 0) (f + 6) 0 (f + 5) = 0 := by rw [up_ne (by lia), up_eq rfl]
      have u6 : up (up (up m (f + 4) 0) (f + 5) 0) (f + 6) 0 (f + 6) = 0 := up_eq rfl
      dsimp only at b2 b3
      rw [u2] at b2; rw [u3] at b3
      refine (rl_0 (T := T) (N := 0) (by lia) (by rw [u2, u3]; lia) (by rw [u4, u5, u6]) (by rw [u4, u5, u6]; decide) (by rw [u6]; decide) fun a n v z c m' L q g1 g2 g3 g4 g5 g6 g7 => ?_ : W2 two f ta tb sa sb 224 _ fun c => W2 two f ta tb sa sb 1 c Q).bind fun c' _ h => h
      have fr : ∀ i, i < f + 2 ∨ f + 9 ≤ i → m' i = m i := fun i hi => (g7 i hi).trans (by rw [up_ne (by lia), up_ne (by lia), up_ne (by lia)])
      have e1 : (sp + 1) % 256 = sp + 1 := by lia
      have e2 : (sp + 1 + 1) % 256 = sp + 2 := by lia
      refine gs_ok ?_
      cases two
      · rw [c02f, r_r_1]
        simp only [e1, e2]
        rw [fr _ (by lia), fr _ (by lia), hr]
        exact ⟨hr', k _ _ _ _ _ m' L q g1 g2 g3 g4 g5 g6 fr⟩
      · rw [c02t, r_r_2]
        simp only [e1, e2]
        rw [fr _ (by lia), fr _ (by lia), hr]
        exact ⟨hr', k _ _ _ _ _ m' L q g1 g2 g3 g4 g5 g6 fr⟩
    cases two
    · rw [c02f, r_0_1]; exact key _ _ _ _
    · rw [c02t, r_0_2]; exact key _ _ _ _
  exact (gs_ok st).bind fun c' _ h => h
end
end
end Mine
end
section
open PySem PySem.W PyProof.Rows
namespace Mine
noncomputable section
section
variable {f ta tb sa sb : Nat}
theorem term_1_0 {a x yy p q W : Nat} {n v z c : Bool} {m : Nat → Nat} {Q : Co → Prop} (hf : f < 240) (hT : 768 ≤ ta + 256 * tb ∧ ta + 256 * tb + 2 ≤ 1024) (hS : 768 ≤ sa + 256 * sb ∧ sa + 256 * sb + 2 ≤ 1024) (hp : m (ta + 256 * tb + 0) = p) (hq : m (sa + 256 * sb + 0) = q) (hW : m (f + 2) + 256 * m (f + 3) = W) (hs : W + p * q < 65536)
    (k : ∀ a n v z c m', m' f = p → m' (f + 1) = p * q % 256 → m' (f + 2) + 256 * m' (f + 3) = W + p * q → (∀ i, (i < f ∨ f + 4 ≤ i) → i ≠ 510 → i ≠ 511 → m' i = m i) → Q ⟨a, 0, 0, 255, 627, n, v, z, c, m'⟩) :
    W2 false f ta tb sa sb 74 ⟨a, x, yy, 255, 599, n, v, z, c, m⟩ Q := by
  refine Wi.wf fun W0 => ?_
  have hm : ∀ i, m i < 256 := W0.m
  have hp2 : p < 256 := hp ▸ hm _
  have hq2 : q < 256 := hq ▸ hm _
  have st : gs (C02 false f ta tb sa sb) 1024 6 ⟨a, x, yy, 255, 599, n, v, z, c, m⟩ fun c => W2 false f ta tb sa sb 68 c Q := by
    rw [c02f, a_1_1]
    have e1 : up m f p (sa + 256 * sb + 0) = q := by rw [up_ne (by lia)]; exact hq
    simp only [hp, e1, Nat.reduceAdd, Nat.reduceMod]
    refine ⟨by lia, by lia, ?_⟩
    generalize hM : up (up (up (up m f p) (f + 1) q) 511 2) 510 101 = M
    have m1 : ∀ i, (i < f ∨ f + 2 ≤ i) → i ≠ 510 → i ≠ 511 → M i = m i := fun i h1 h2 h3 => by rw [← hM, up_ne h2, up_ne h3, up_ne (by lia), up_ne (by lia)]
    refine (mul_ok (two := false) (F := p) (G := q) (r := 613) (by rw [← hM, up_ne (by lia), up_ne (by lia), up_ne (by lia), up_eq rfl]) (by rw [← hM, up_ne (by lia), up_ne (by lia), up_eq rfl]) hp2 hq2 hf (by decide) (by rw [← hM]; rfl) (by decide) fun n v z c => ?_ : W2 false f ta tb sa sb 60 _ fun c => W2 false f ta tb sa sb 8 c Q).bind fun c' _ h => h
    refine Wi.wf fun W1 => ?_
    have hm1 : ∀ i, up M (f + 1) (p * q % 256) i < 256 := W1.m
    have g2 := hm (f + 2); have g3 := hm (f + 3)
    have M2 : up M (f + 1) (p * q % 256) (f + 2) = m (f + 2) := by rw [up_ne (by lia)]; exact m1 _ (by lia) (by lia) (by lia)
    have M3 : up M (f + 1) (p * q % 256) (f + 3) = m (f + 3) := by rw [up_ne (by lia)]; exact m1 _ (by lia) (by lia) (by lia)
    have M1 : up M (f + 1) (p * q % 256) (f + 1) = p * q % 256 := up_eq rfl
    have M0 : up M (f + 1) (p * q % 256) f = p := by rw [up_ne (by lia), ← hM, up_ne (by lia), up_ne (by lia), up_ne (by lia), up_eq rfl]
    have MF : ∀ i, (i < f ∨ f + 4 ≤ i) → i ≠ 510 → i ≠ 511 → up M (f + 1) (p * q % 256) i = m i := fun i h1 h2 h3 => by rw [up_ne (by lia)]; exact m1 i (by lia) h2 h3
    generalize up M (f + 1) (p * q % 256) = M' at hm1 M0 M1 M2 M3 MF ⊢
    refine gs_ok ?_
    rw [c02f, a_2_1]
    have n1 : up M' 511 (p * q / 256) (f + 1) = p * q % 256 := by rw [up_ne (by lia)]; exact M1
    have n2 : up M' 511 (p * q / 256) (f + 2) = m (f + 2) := by rw [up_ne (by lia)]; exact M2
    have n3 : ∀ v, up (up M' 511 (p * q / 256)) (f + 2) v 511 = p * q / 256 := fun v => by rw [up_ne (by lia), up_eq rfl]
    have n4 : ∀ v, up (up M' 511 (p * q / 256)) (f + 2) v (f + 3) = m (f + 3) := fun v => by rw [up_ne (by lia), up_ne (by lia)]; exact M3
    simp only [Nat.reduceAdd, Nat.reduceMod, n1, n2, n3, n4]
    refine k _ _ _ _ _ _ ?_ ?_ ?_ fun i h1 h2 h3 => ?_
    · rw [up_ne (by lia), up_ne (by lia), up_ne (by lia)]; exact M0
    · rw [up_ne (by lia), up_ne (by lia), up_ne (by lia)]; exact M1
    · rw [up_ne (show f + 2 ≠ f + 3 by lia), up_eq rfl, up_eq rfl, tn]
      simp only [Bool.toNat_false]
      split <;> lia
    · rw [up_ne (by lia), up_ne (by lia), up_ne h3]; exact MF i h1 h2 h3
  exact (gs_ok st).bind fun c' _ h => h
theorem term_2_0 {a x yy p q W : Nat} {n v z c : Bool} {m : Nat → Nat} {Q : Co → Prop} (hf : f < 240) (hT : 768 ≤ ta + 256 * tb ∧ ta + 256 * tb + 2 ≤ 1024) (hS : 768 ≤ sa + 256 * sb ∧ sa + 256 * sb + 2 ≤ 1024) (hp : m (ta + 256 * tb + 0) = p) (hq : m (sa + 256 * sb + 0) = q) (hW : m (f + 2) + 256 * m (f + 3) = W) (hs : W + p * q < 65536)
    (k : ∀ a n v z c m', m' f = p → m' (f + 1) = p * q % 256 → m' (f + 2) + 256 * m' (f + 3) = W + p * q → (∀ i, (i < f ∨ f + 4 ≤ i) → i ≠ 510 → i ≠ 511 → m' i = m i) → Q ⟨a, 0, 0, 255, 627, n, v, z, c, m'⟩) :
    W2 true f ta tb sa sb 74 ⟨a, x, yy, 255, 599, n, v, z, c, m⟩ Q := by
  refine Wi.wf fun W0 => ?_
  have hm : ∀ i, m i < 256 := W0.m
  have hp2 : p < 256 := hp ▸ hm _
  have hq2 : q < 256 := hq ▸ hm _
  have st : gs (C02 true f ta tb sa sb) 1024 6 ⟨a, x, yy, 255, 599, n, v, z, c, m⟩ fun c => W2 true f ta tb sa sb 68 c Q := by
    rw [c02t, a_1_2]
    have e1 : up m f p (sa + 256 * sb + 0) = q := by rw [up_ne (by lia)]; exact hq
    simp only [hp, e1, Nat.reduceAdd, Nat.reduceMod]
    refine ⟨by lia, by lia, ?_⟩
    generalize hM : up (up (up (up m f p) (f + 1) q) 511 2) 510 101 = M
    have m1 : ∀ i, (i < f ∨ f + 2 ≤ i) → i ≠ 510 → i ≠ 511 → M i = m i := fun i h1 h2 h3 => by rw [← hM, up_ne h2, up_ne h3, up_ne (by lia), up_ne (by lia)]
    refine (mul_ok (two := true) (F := p) (G := q) (r := 613) (by rw [← hM, up_ne (by lia), up_ne (by lia), up_ne (by lia), up_eq rfl]) (by rw [← hM, up_ne (by lia), up_ne (by lia), up_eq rfl]) hp2 hq2 hf (by decide) (by rw [← hM]; rfl) (by decide) fun n v z c => ?_ : W2 true f ta tb sa sb 60 _ fun c => W2 true f ta tb sa sb 8 c Q).bind fun c' _ h => h
    refine Wi.wf fun W1 => ?_
    have hm1 : ∀ i, up M (f + 1) (p * q % 256) i < 256 := W1.m
    have g2 := hm (f + 2); have g3 := hm (f + 3)
    have M2 : up M (f + 1) (p * q % 256) (f + 2) = m (f + 2) := by rw [up_ne (by lia)]; exact m1 _ (by lia) (by lia) (by lia)
    have M3 : up M (f + 1) (p * q % 256) (f + 3) = m (f + 3) := by rw [up_ne (by lia)]; exact m1 _ (by lia) (by lia) (by lia)
    have M1 : up M (f + 1) (p * q % 256) (f + 1) = p * q % 256 := up_eq rfl
    have M0 : up M (f + 1) (p * q % 256) f = p := by rw [up_ne (by lia), ← hM, up_ne (by lia), up_ne (by lia), up_ne (by lia), up_eq rfl]
    have MF : ∀ i, (i < f ∨ f + 4 ≤ i) → i ≠ 510 → i ≠ 511 → up M (f + 1) (p * q % 256) i = m i := fun i h1 h2 h3 => by rw [up_ne (by lia)]; exact m1 i (by lia) h2 h3
    generalize up M (f + 1) (p * q % 256) = M' at hm1 M0 M1 M2 M3 MF ⊢
    refine gs_ok ?_
    rw [c02t, a_2_2]
    have n1 : up M' 511 (p * q / 256) (f + 1) = p * q % 256 := by rw [up_ne (by lia)]; exact M1
    have n2 : up M' 511 (p * q / 256) (f + 2) = m (f + 2) := by rw [up_ne (by lia)]; exact M2
    have n3 : ∀ v, up (up M' 511 (p * q / 256)) (f + 2) v 511 = p * q / 256 := fun v => by rw [up_ne (by lia), up_eq rfl]
    have n4 : ∀ v, up (up M' 511 (p * q / 256)) (f + 2) v (f + 3) = m (f + 3) := fun v => by rw [up_ne (by lia), up_ne (by lia)]; exact M3
    simp only [Nat.reduceAdd, Nat.reduceMod, n1, n2, n3, n4]
    refine k _ _ _ _ _ _ ?_ ?_ ?_ fun i h1 h2 h3 => ?_
    · rw [up_ne (by lia), up_ne (by lia), up_ne (by lia)]; exact M0
    · rw [up_ne (by lia), up_ne (by lia), up_ne (by lia)]; exact M1
    · rw [up_ne (show f + 2 ≠ f + 3 by lia), up_eq rfl, up_eq rfl, tn]
      simp only [Bool.toNat_false]
      split <;> lia
    · rw [up_ne (by lia), up_ne (by lia), up_ne h3]; exact MF i h1 h2 h3
  exact (gs_ok st).bind fun c' _ h => h
theorem term_2_1 {a x yy p q W : Nat} {n v z c : Bool} {m : Nat → Nat} {Q : Co → Prop} (hf : f < 240) (hT : 768 ≤ ta + 256 * tb ∧ ta + 256 * tb + 2 ≤ 1024) (hS : 768 ≤ sa + 256 * sb ∧ sa + 256 * sb + 2 ≤ 1024) (hp : m (ta + 256 * tb + 1) = p) (hq : m (sa + 256 * sb + 1) = q) (hW : m (f + 2) + 256 * m (f + 3) = W) (hs : W + p * q < 65536)
    (k : ∀ a n v z c m', m' f = p → m' (f + 1) = p * q % 256 → m' (f + 2) + 256 * m' (f + 3) = W + p * q → (∀ i, (i < f ∨ f + 4 ≤ i) → i ≠ 510 → i ≠ 511 → m' i = m i) → Q ⟨a, 0, 1, 255, 655, n, v, z, c, m'⟩) :
    W2 true f ta tb sa sb 74 ⟨a, x, yy, 255, 627, n, v, z, c, m⟩ Q := by
  refine Wi.wf fun W0 => ?_
  have hm : ∀ i, m i < 256 := W0.m
  have hp2 : p < 256 := hp ▸ hm _
  have hq2 : q < 256 := hq ▸ hm _
  have st : gs (C02 true f ta tb sa sb) 1024 6 ⟨a, x, yy, 255, 627, n, v, z, c, m⟩ fun c => W2 true f ta tb sa sb 68 c Q := by
    rw [c02t, a_3_2]
    have e1 : up m f p (sa + 256 * sb + 1) = q := by rw [up_ne (by lia)]; exact hq
    simp only [hp, e1, Nat.reduceAdd, Nat.reduceMod]
    refine ⟨by lia, by lia, ?_⟩
    generalize hM : up (up (up (up m f p) (f + 1) q) 511 2) 510 129 = M
    have m1 : ∀ i, (i < f ∨ f + 2 ≤ i) → i ≠ 510 → i ≠ 511 → M i = m i := fun i h1 h2 h3 => by rw [← hM, up_ne h2, up_ne h3, up_ne (by lia), up_ne (by lia)]
    refine (mul_ok (two := true) (F := p) (G := q) (r := 641) (by rw [← hM, up_ne (by lia), up_ne (by lia), up_ne (by lia), up_eq rfl]) (by rw [← hM, up_ne (by lia), up_ne (by lia), up_eq rfl]) hp2 hq2 hf (by decide) (by rw [← hM]; rfl) (by decide) fun n v z c => ?_ : W2 true f ta tb sa sb 60 _ fun c => W2 true f ta tb sa sb 8 c Q).bind fun c' _ h => h
    refine Wi.wf fun W1 => ?_
    have hm1 : ∀ i, up M (f + 1) (p * q % 256) i < 256 := W1.m
    have g2 := hm (f + 2); have g3 := hm (f + 3)
    have M2 : up M (f + 1) (p * q % 256) (f + 2) = m (f + 2) := by rw [up_ne (by lia)]; exact m1 _ (by lia) (by lia) (by lia)
    have M3 : up M (f + 1) (p * q % 256) (f + 3) = m (f + 3) := by rw [up_ne (by lia)]; exact m1 _ (by lia) (by lia) (by lia)
    have M1 : up M (f + 1) (p * q % 256) (f + 1) = p * q % 256 := up_eq rfl
    have M0 : up M (f + 1) (p * q % 256) f = p := by rw [up_ne (by lia), ← hM, up_ne (by lia), up_ne (by lia), up_ne (by lia), up_eq rfl]
    have MF : ∀ i, (i < f ∨ f + 4 ≤ i) → i ≠ 510 → i ≠ 511 → up M (f + 1) (p * q % 256) i = m i := fun i h1 h2 h3 => by rw [up_ne (by lia)]; exact m1 i (by lia) h2 h3
    generalize up M (f + 1) (p * q % 256) = M' at hm1 M0 M1 M2 M3 MF ⊢
    refine gs_ok ?_
    rw [c02t, a_4_2]
    have n1 : up M' 511 (p * q / 256) (f + 1) = p * q % 256 := by rw [up_ne (by lia)]; exact M1
    have n2 : up M' 511 (p * q / 256) (f + 2) = m (f + 2) := by rw [up_ne (by lia)]; exact M2
    have n3 : ∀ v, up (up M' 511 (p * q / 256)) (f + 2) v 511 = p * q / 256 := fun v => by rw [up_ne (by lia), up_eq rfl]
    have n4 : ∀ v, up (up M' 511 (p * q / 256)) (f + 2) v (f + 3) = m (f + 3) := fun v => by rw [up_ne (by lia), up_ne (by lia)]; exact M3
    simp only [Nat.reduceAdd, Nat.reduceMod, n1, n2, n3, n4]
    refine k _ _ _ _ _ _ ?_ ?_ ?_ fun i h1 h2 h3 => ?_
    · rw [up_ne (by lia), up_ne (by lia), up_ne (by lia)]; exact M0
    · rw [up_ne (by lia), up_ne (by lia), up_ne (by lia)]; exact M1
    · rw [up_ne (show f + 2 ≠ f + 3 by lia), up_eq rfl, up_eq rfl, tn]
      simp only [Bool.toNat_false]
      split <;> lia
    · rw [up_ne (by lia), up_ne (by lia), up_ne h3]; exact MF i h1 h2 h3
  exact (gs_ok st).bind fun c' _ h => h
structure End2 (two : Bool) (f p q T : Nat) (m : Nat → Nat) (c : Co) : Prop where
  hpc : c.pc = cond two 658 630
  hx : c.x = 0
  hy : c.y = 0
  hsp : c.sp = 255
  h0 : c.m f = p
  h1 : c.m (f + 1) = p * q % 256
  h2 : c.m (f + 2) + 256 * c.m (f + 3) = 0
  root : ∃ L r, c.m (f + 4) + 256 * c.m (f + 5) = L ∧ c.m (f + 6) = r ∧ r * r + L = T ∧ L ≤ 2 * r ∧ c.m (f + 7) + 256 * c.m (f + 8) = 4 * (r / 2) + 1
  h510 : c.m 510 = cond two 145 117
  h511 : c.m 511 = 2
  fr : ∀ i, (i < f ∨ f + 9 ≤ i) → i ≠ 510 → i ≠ 511 → c.m i = m i
theorem start2_1 {p q : Nat} {m : Nat → Nat} (hf : f < 240) (hT : 768 ≤ ta + 256 * tb ∧ ta + 256 * tb + 2 ≤ 1024) (hS : 768 ≤ sa + 256 * sb ∧ sa + 256 * sb + 2 ≤ 1024) (hp : m (ta + 256 * tb + 0) = p) (hq : m (sa + 256 * sb + 0) = q) (hs : p * q < 65536) :
    W2 false f ta tb sa sb 499 ⟨0, 0, 0, 255, 593, false, false, false, false, m⟩ (End2 false f p q (p * q) m) := by
  have lastR : ∀ (M : Nat → Nat) (a y : Nat) (n v z c : Bool), M f = p → M (f + 1) = p * q % 256 → M (f + 2) + 256 * M (f + 3) = p * q → (∀ i, (i < f ∨ f + 9 ≤ i) → i ≠ 510 → i ≠ 511 → M i = m i) → W2 false f ta tb sa sb 230 ⟨a, 0, y, 253, 530, n, v, z, c, up (up M 511 2) 510 117⟩ (End2 false f p q (p * q) m) := fun M a y n v z c e0 e1 e2 eF => by
    refine (root_ok (two := false) (T := p * q) (r := 629) (sp := 253) hf ?_ (by decide) ?_ (by decide) fun a n v z c m'' L r g1 g2 g3 g4 g5 g6 g7 => ?_ : W2 false f ta tb sa sb 230 _ fun c => End2 false f p q (p * q) m c)
    · rw [up_ne (show f + 2 ≠ 510 by lia), up_ne (show f + 2 ≠ 511 by lia), up_ne (show f + 3 ≠ 510 by lia), up_ne (show f + 3 ≠ 511 by lia)]; assumption
    · rfl
    · have u : ∀ i, i ≠ 510 → i ≠ 511 → i < f + 2 ∨ f + 9 ≤ i → m'' i = M i := fun i h1 h2 h3 => by rw [g7 i h3, up_ne h1, up_ne h2]
      refine ⟨rfl, rfl, rfl, rfl, ?_, ?_, g1, ⟨L, r, g2, g3, g4, g5, g6⟩, ?_, ?_, fun i h1 h2 h3 => ?_⟩
      · exact (u f (by lia) (by lia) (by lia)).trans e0
      · exact (u (f + 1) (by lia) (by lia) (by lia)).trans e1
      · exact (g7 510 (by lia)).trans (up_eq rfl)
      · exact (g7 511 (by lia)).trans ((up_ne (by decide)).trans (up_eq rfl))
      · exact (u i h2 h3 (by lia)).trans (eF i h1 h2 h3)
  have last : ∀ (M : Nat → Nat) (a y : Nat) (n v z c : Bool), M f = p → M (f + 1) = p * q % 256 → M (f + 2) + 256 * M (f + 3) = p * q → (∀ i, (i < f ∨ f + 9 ≤ i) → i ≠ 510 → i ≠ 511 → M i = m i) → W2 false f ta tb sa sb 231 ⟨a, 0, y, 255, 627, n, v, z, c, M⟩ (End2 false f p q (p * q) m) := fun M a y n v z c e0 e1 e2 eF => by
    have g : gs (C02 false f ta tb sa sb) 1024 1 ⟨a, 0, y, 255, 627, n, v, z, c, M⟩ fun c => W2 false f ta tb sa sb 230 c (End2 false f p q (p * q) m) := by
      rw [c02f, a_9_1]
      simp only [Nat.reduceAdd, Nat.reduceMod]
      exact lastR M a y n v z c e0 e1 e2 eF
    exact (gs_ok g).bind fun c' _ h => h
  have s0 : gs (C02 false f ta tb sa sb) 1024 3 ⟨0, 0, 0, 255, 593, false, false, false, false, m⟩ fun c => W2 false f ta tb sa sb 496 c (End2 false f p q (p * q) m) := by
    rw [c02f, a_0_1]
    generalize hM : up (up m (f + 2) 0) (f + 3) 0 = M
    have z2 : M (f + 2) + 256 * M (f + 3) = 0 := by rw [← hM, up_ne (show f + 2 ≠ f + 3 by lia), up_eq rfl, up_eq rfl]
    have F0 : ∀ i, i < f + 2 ∨ f + 4 ≤ i → M i = m i := fun i hi => by rw [← hM, up_ne (by lia), up_ne (by lia)]
    refine Wi.le (n := 74 + 231) ((term_1_0 hf hT hS ((F0 _ (by lia)).trans hp) ((F0 _ (by lia)).trans hq) z2 (by lia) fun a n v z c m1 g0 g1 g2 g3 => ?_ : W2 false f ta tb sa sb 74 _ fun c => W2 false f ta tb sa sb 231 c _).bind fun c' _ h => h) (by decide)
    exact last m1 _ _ _ _ _ _ g0 g1 (by lia) fun i h1 h2 h3 => (g3 i (by lia) h2 h3).trans (F0 i (by lia))
  exact (gs_ok s0).bind fun c' _ h => h
theorem start2_2 {p q p0 q0 : Nat} {m : Nat → Nat} (hf : f < 240) (hT : 768 ≤ ta + 256 * tb ∧ ta + 256 * tb + 2 ≤ 1024) (hS : 768 ≤ sa + 256 * sb ∧ sa + 256 * sb + 2 ≤ 1024) (hp0 : m (ta + 256 * tb + 0) = p0) (hq0 : m (sa + 256 * sb + 0) = q0) (hp : m (ta + 256 * tb + 1) = p) (hq : m (sa + 256 * sb + 1) = q) (hs : p0 * q0 + p * q < 65536) :
    W2 true f ta tb sa sb 499 ⟨0, 0, 0, 255, 593, false, false, false, false, m⟩ (End2 true f p q (p0 * q0 + p * q) m) := by
  have lastR : ∀ (M : Nat → Nat) (a y : Nat) (n v z c : Bool), M f = p → M (f + 1) = p * q % 256 → M (f + 2) + 256 * M (f + 3) = p0 * q0 + p * q → (∀ i, (i < f ∨ f + 9 ≤ i) → i ≠ 510 → i ≠ 511 → M i = m i) → W2 true f ta tb sa sb 230 ⟨a, 0, y, 253, 530, n, v, z, c, up (up M 511 2) 510 145⟩ (End2 true f p q (p0 * q0 + p * q) m) := fun M a y n v z c e0 e1 e2 eF => by
    refine (root_ok (two := true) (T := p0 * q0 + p * q) (r := 657) (sp := 253) hf ?_ (by decide) ?_ (by decide) fun a n v z c m'' L r g1 g2 g3 g4 g5 g6 g7 => ?_ : W2 true f ta tb sa sb 230 _ fun c => End2 true f p q (p0 * q0 + p * q) m c)
    · rw [up_ne (show f + 2 ≠ 510 by lia), up_ne (show f + 2 ≠ 511 by lia), up_ne (show f + 3 ≠ 510 by lia), up_ne (show f + 3 ≠ 511 by lia)]; assumption
    · rfl
    · have u : ∀ i, i ≠ 510 → i ≠ 511 → i < f + 2 ∨ f + 9 ≤ i → m'' i = M i := fun i h1 h2 h3 => by rw [g7 i h3, up_ne h1, up_ne h2]
      refine ⟨rfl, rfl, rfl, rfl, ?_, ?_, g1, ⟨L, r, g2, g3, g4, g5, g6⟩, ?_, ?_, fun i h1 h2 h3 => ?_⟩
      · exact (u f (by lia) (by lia) (by lia)).trans e0
      · exact (u (f + 1) (by lia) (by lia) (by lia)).trans e1
      · exact (g7 510 (by lia)).trans (up_eq rfl)
      · exact (g7 511 (by lia)).trans ((up_ne (by decide)).trans (up_eq rfl))
      · exact (u i h2 h3 (by lia)).trans (eF i h1 h2 h3)
  have last : ∀ (M : Nat → Nat) (a y : Nat) (n v z c : Bool), M f = p → M (f + 1) = p * q % 256 → M (f + 2) + 256 * M (f + 3) = p0 * q0 + p * q → (∀ i, (i < f ∨ f + 9 ≤ i) → i ≠ 510 → i ≠ 511 → M i = m i) → W2 true f ta tb sa sb 231 ⟨a, 0, y, 255, 655, n, v, z, c, M⟩ (End2 true f p q (p0 * q0 + p * q) m) := fun M a y n v z c e0 e1 e2 eF => by
    have g : gs (C02 true f ta tb sa sb) 1024 1 ⟨a, 0, y, 255, 655, n, v, z, c, M⟩ fun c => W2 true f ta tb sa sb 230 c (End2 true f p q (p0 * q0 + p * q) m) := by
      rw [c02t, a_9_2]
      simp only [Nat.reduceAdd, Nat.reduceMod]
      exact lastR M a y n v z c e0 e1 e2 eF
    exact (gs_ok g).bind fun c' _ h => h
  have s0 : gs (C02 true f ta tb sa sb) 1024 3 ⟨0, 0, 0, 255, 593, false, false, false, false, m⟩ fun c => W2 true f ta tb sa sb 496 c (End2 true f p q (p0 * q0 + p * q) m) := by
    rw [c02t, a_0_2]
    generalize hM : up (up m (f + 2) 0) (f + 3) 0 = M
    have z2 : M (f + 2) + 256 * M (f + 3) = 0 := by rw [← hM, up_ne (show f + 2 ≠ f + 3 by lia), up_eq rfl, up_eq rfl]
    have F0 : ∀ i, i < f + 2 ∨ f + 4 ≤ i → M i = m i := fun i hi => by rw [← hM, up_ne (by lia), up_ne (by lia)]
    refine Wi.le (n := 74 + (74 + 231)) ((term_2_0 hf hT hS ((F0 _ (by lia)).trans hp0) ((F0 _ (by lia)).trans hq0) z2 (by lia) fun a n v z c m1 g0 g1 g2 g3 => ?_ : W2 true f ta tb sa sb 74 _ fun c => W2 true f ta tb sa sb (74 + 231) c _).bind fun c' _ h => h) (by decide)
    refine (term_2_1 hf hT hS ((g3 _ (by lia) (by lia) (by lia)).trans ((F0 _ (by lia)).trans hp)) ((g3 _ (by lia) (by lia) (by lia)).trans ((F0 _ (by lia)).trans hq)) g2 (by lia) fun a n v z c m2 d0 d1 d2 d3 => ?_ : W2 true f ta tb sa sb 74 _ fun c => W2 true f ta tb sa sb 231 c _).bind fun c' _ h => h
    exact last m2 _ _ _ _ _ _ d0 d1 (by lia) fun i h1 h2 h3 => (d3 i (by lia) h2 h3).trans ((g3 i (by lia) h2 h3).trans (F0 i (by lia)))
  exact (gs_ok s0).bind fun c' _ h => h
end
end
end Mine
end
section
open PySem PySem.W PyProof.Rows
namespace Mine
noncomputable section
noncomputable def forOf : Stmt → Option (Expr × Expr × List Stmt × Pos)
  | .For t i b [] p => some (t, i, b, p)
  | _ => none
noncomputable def forBody (i : Nat) : List Stmt := match forOf (stL i) with
  | some (_, _, b, _) => b
  | none => []
structure EnumB where
  (xi xv en cn : Str)
  (pi pv pt pe pc pa pos : Pos)
  (k : Nat)
noncomputable def enumOf : Stmt → EnumB
  | .For (.Tuple [.Name xi pi, .Name xv pv] k pt) (.Call (.Name en pe) [.Name cn pa] [] pc) _ [] pos => ⟨xi, xv, en, cn, pi, pv, pt, pe, pc, pa, pos, k⟩
  | _ => ⟨nS [], nS [], nS [], nS [], default, default, default, default, default, default, default, 0⟩
noncomputable def EnumB.stmt (b : EnumB) (body : List Stmt) : Stmt := .For (.Tuple [.Name b.xi b.pi, .Name b.xv b.pv] b.k b.pt) (.Call (.Name b.en b.pe) [.Name b.cn b.pa] [] b.pc) body [] b.pos
structure ForR where
  (x r : Str)
  (px pr pc pos : Pos)
  (args : List Expr)
noncomputable def forROf : Stmt → ForR
  | .For (.Name x px) (.Call (.Name r pr) args [] pc) _ [] pos => ⟨x, r, px, pr, pc, pos, args⟩
  | _ => ⟨nS [], nS [], default, default, default, default, []⟩
noncomputable def ForR.stmt (b : ForR) (body : List Stmt) : Stmt := .For (.Name b.x b.px) (.Call (.Name b.r b.pr) b.args [] b.pc) body [] b.pos
noncomputable abbrev nRange : Str := nS [114, 97, 110, 103, 101]

noncomputable def nEnum : Str := nS [101, 110, 117, 109, 101, 114, 97, 116, 101]
theorem kRange : isKind .globalImplicit lawD.scope nRange = true := by kernel_rfl
theorem gRange {X : Cx} (O : KenOK X kN) : GlobV X nRange (.type "range") := by
  obtain ⟨v, G, V⟩ := O.gvs nRange (.ty "range") (by kernel_rfl)
  cases V; exact G
noncomputable def memE (c : List Int) : Nat → List Int
  | 0 => repL [170] 1024
  | k + 1 => (memE c k).set (512 + k) (c.getD k 0)
theorem repL_len (k : Nat) : (repL [170] k).length = k := by unfold repL; simp
theorem memE_len (c : List Int) : ∀ k, (memE c k).length = 1024
  | 0 => repL_len 1024
  | k + 1 => by unfold memE; rw [List.length_set]; exact memE_len c k
theorem ifB_f {A B : Prop} (h : B) : ifB false A B := h
theorem ifB_t {A B : Prop} (h : A) : ifB true A B := h
theorem st_layG {X : Cx} (O : KenOK X kN) (cd : Value) {i : Nat} {xi xv cn : Str} (e : stL i = (enumOf (stL i)).stmt (forBody i)) (en : ((enumOf (stL i)).xi, (enumOf (stL i)).xv, (enumOf (stL i)).en, (enumOf (stL i)).cn) = (xi, xv, nEnum, cn))
    (ek : (isKind .globalImplicit lawD.scope nEnum, isKind .local lawD.scope cn) = (true, true)) (eg : kN.gv nEnum = some (.ty "enumerate")) {LD : Loc} {LP : Int → Int → Loc} {W : AO → List AO} {ic : Nat} {c : List Int}
    (s0 : ∀ p o as Q, storesW (F0 cd LD) [xi, xv] [.int p, .int o] as Q = Q (LP p o) as) (s1 : ∀ p o p' o' as Q, storesW (F0 cd (LP p' o')) [xi, xv] [.int p, .int o] as Q = Q (LP p o) as)
    (hc : lk LD cn = some (.obj ic)) (hW : ∀ m, (W m)[ic]? = some (.intx c))
    (b1 : ∀ m p o Q, lxs kN 20 40 (F0 cd (LP p o)) (forBody i) (W (.ints m)) Q = ((0 ≤ 512 + p ∧ 512 + p < m.length ∧ 512 + p < 2 ^ 63) ∧ Q .next (LP p o) (W (.ints (m.set (512 + p).toNat o)))))
    (b2 : ∀ m p o Q, lxs kN 20 40 (F0 cd (LP p o)) (forBody i) (W (.intx m)) Q = ((0 ≤ 512 + p ∧ 512 + p < m.length ∧ 512 + p < 2 ^ 63) ∧ Q .next (LP p o) (W (.ints (m.set (512 + p).toNat o)))))
    (h0 : 0 < c.length) (h1 : c.length ≤ 512) {Q : PF} (h : Q .next (LP (c.length - 1 : Nat) (c.getD (c.length - 1) 0)) (W (.ints (memE c c.length)))) : ExS X 40 (F0 cd LD) (stL i) (W (.intx (repL [170] 1024))) Q := by
  simp only [Prod.mk.injEq] at en ek
  rw [e]
  unfold EnumB.stmt
  rw [en.1, en.2.1, en.2.2.1, en.2.2.2]
  obtain ⟨v, G, V⟩ := O.gvs nEnum (.ty "enumerate") eg
  cases V
  refine st_forEA ek.1 G rfl (ev_local ek.2 (av := .obj ic) hc ⟨ic, c.map .int, rfl,
    fun k loc as => (k = 0 ∧ loc = LD ∧ as = W (.intx (repL [170] 1024))) ∨ (0 < k ∧ k ≤ c.length ∧ loc = LP (k - 1 : Nat) (c.getD (k - 1) 0) ∧ as = W (.ints (memE c k))),
    fun k loc as => k < c.length ∧ loc = LP k (c.getD k 0) ∧ ((k = 0 ∧ as = W (.intx (repL [170] 1024))) ∨ as = W (.ints (memE c k))),
    .inl ⟨rfl, rfl, rfl⟩, ?_, ?_, ?_, ?_⟩)
  · rintro k loc as (⟨_, _, rfl⟩ | ⟨_, _, _, rfl⟩) <;> exact ⟨.intx c, hW _, rfl⟩
  · intro k loc as yv hy hI
    rw [List.getElem?_map] at hy
    obtain ⟨yi, hz, rfl⟩ := Option.map_eq_some_iff.mp hy
    have hk : k < c.length := (List.getElem?_eq_some_iff.mp hz).1
    have ey : yi = c.getD k 0 := by rw [List.getD_eq_getElem?_getD, hz]; rfl
    subst ey
    rcases hI with ⟨rfl, rfl, rfl⟩ | ⟨h1, h2, rfl, rfl⟩
    · exact Eq.mpr (s0 _ _ _ _) ⟨hk, rfl, .inl ⟨rfl, rfl⟩⟩
    · exact Eq.mpr (s1 _ _ _ _ _ _) ⟨hk, rfl, .inr rfl⟩
  · rintro k loc as ⟨hk, rfl, has⟩
    refine (specX O 20).exs 40 (F0 cd (LP k (c.getD k 0))) (forBody i) as _ ?_
    have hlen := memE_len c k
    rcases has with ⟨rfl, rfl⟩ | rfl
    · rw [b2]
      exact ⟨⟨by lia, by rw [repL_len]; lia, by lia⟩, .inr ⟨by lia, by lia, rfl, rfl⟩⟩
    · rw [b1]
      refine ⟨⟨by lia, by rw [hlen]; lia, by lia⟩, .inr ⟨by lia, by lia, ?_, ?_⟩⟩
      · rw [Nat.add_sub_cancel]
      · rw [show (512 + (k : Int)).toNat = 512 + k by lia]; rfl
  · intro loc as hI
    rw [List.length_map] at hI
    rcases hI with ⟨h1, _⟩ | ⟨_, _, rfl, rfl⟩
    · exact absurd h0 (by rw [h1]; exact Nat.lt_irrefl 0)
    · exact h
theorem st_runG {X : Cx} (O : KenOK X kN) (cd : Value) {i nT : Nat} {tn : Str} (e : stL i = (forROf (stL i)).stmt (forBody i)) (en : ((forROf (stL i)).x, (forROf (stL i)).r, noStar (forROf (stL i)).args) = (tn, nRange, true))
    (ea : ∀ (f : Fm) (as : List AO) (Q : PVs), lvs kN 5 40 f (forROf (stL i)).args as Q = Q [.int (nT : Int)] as) (hT : nT ≤ 100000) {LS : Loc} {LT : Int → Loc} {W : MS → List AO} {io id im : Nat} {pe : Nat}
    (s0 : ∀ t as Q, storeW (F0 cd LS) tn (.int t) as Q = Q (LT t) as) (s1 : ∀ t t' as Q, storeW (F0 cd (LT t')) tn (.int t) as Q = Q (LT t) as)
    (hb : ∀ m t Q, lxs kN 30 40 (F0 cd (LT t)) (forBody i) (W m) Q = ifB (m.pc == (pe : Int)) (Q .brk (LT t) (W m)) (stepP [.obj io] (W m) fun _ as' => Q .next (LT t) as'))
    (w1 : ∀ m, (W m)[io]? = some (.inst 1428 id)) (w2 : ∀ m, (W m)[id]? = some (.dict (esL m im))) (w3 : ∀ m, (W m)[im]? = some (.ints m.mem)) (w4 : ∀ m m', ((W m).set id (.dict (esL m' im))).set im (.ints m'.mem) = W m')
    {L : List Nat} {c0 c' : Co} {e0 e' : Ee} {k : Nat} (hk : k < nT) (hr : Runs L 1024 k c0 e0 c' e') (f0 : FE e0) (hpc : c'.pc = pe) (hpe : 512 + L.length = pe) {Q : PF} (hQ : ∀ t, Q .next (LT t) (W (ms 1024 c' e'))) : ExS X 40 (F0 cd LS) (stL i) (W (ms 1024 c0 e0)) Q := by
  simp only [Prod.mk.injEq] at en
  rw [e]
  unfold ForR.stmt
  rw [en.1, en.2.1]
  refine st_forR kRange (gRange O) en.2.2 ((specL O 5).evs 40 _ _ _ _ (by
    rw [ea]
    refine ⟨0, nT, .one _, ⟨⟨by decide, by decide⟩, ⟨by lia, by lia⟩⟩,
      fun j loc as => (loc = LS ∨ ∃ t, loc = LT t) ∧ ∃ cj ej i, FE ej ∧ Runs L 1024 i cj ej c' e' ∧ j + i = k ∧ as = W (ms 1024 cj ej),
      fun j loc as => (∃ t, loc = LT t) ∧ ∃ cj ej i, FE ej ∧ Runs L 1024 i cj ej c' e' ∧ j + i = k ∧ as = W (ms 1024 cj ej), ⟨.inl rfl, c0, e0, k, f0, hr, Nat.zero_add _, rfl⟩, ?_, ?_, ?_⟩
    · rintro j loc as hj ⟨(rfl | ⟨t, rfl⟩), r⟩
      · exact Eq.mpr (s0 _ _ _) ⟨⟨_, rfl⟩, r⟩
      · exact Eq.mpr (s1 _ _ _ _) ⟨⟨_, rfl⟩, r⟩
    · rintro j loc as ⟨⟨t, rfl⟩, cj, ej, i', fj, rj, ij, rfl⟩
      refine (specX O 30).exs 40 (F0 cd (LT t)) (forBody i) _ _ ?_
      refine Eq.mpr (hb _ _ _) ?_
      cases rj with
      | nil =>
        rw [show ((ms 1024 c' e').pc == (pe : Int)) = true by show ((c'.pc : Int) == (pe : Int)) = true; rw [hpc]; exact beq_self_eq_true _]
        exact ifB_t (hQ t)
      | @cons i _ _ c2 e2 _ _ h1 h2 f1 f2 sp rest =>
        have hne : ((ms 1024 cj ej).pc == (pe : Int)) = false := by
          show ((cj.pc : Int) == (pe : Int)) = false
          simp; lia
        rw [hne]
        exact ifB_f ⟨io, id, im, ms 1024 cj ej, ms 1024 c2 e2, rfl, w1 _, w2 _, w3 _, ⟨f1.1, f1.2, f2.1, f2.2⟩, sp, .inr ⟨t, rfl⟩, c2, e2, i, f2, rest, by lia, w4 _ _⟩
    · rintro loc as ⟨_, cj, ej, i', _, rj, ij, rfl⟩
      exfalso
      have e : ((nT : Int) - 0).toNat = nT := by lia
      rw [e] at ij
      lia))
end
end Mine

end
section
open PySem PySem.W PyProof.Rows
namespace Mine
noncomputable section
theorem memL_congr {N : Nat} {F F' : Nat → Nat} (h : ∀ i < N, F i = F' i) : memL N F = memL N F' := by
  unfold memL
  refine List.map_congr_left fun i hi => ?_
  rw [h i (List.mem_range.mp hi)]
theorem memL_set' {N : Nat} {F : Nat → Nat} {k : Int} {v : Int} {a w : Nat} (hk : k = a) (hv : v = w) (h : a < N) : (memL N F).set k.toNat v = memL N (up F a w) := by
  subst hk hv; rw [Int.toNat_natCast]; exact memL_set h
theorem fdiv_c (a b : Nat) : (a : Int).fdiv (b : Int) = ((a / b : Nat) : Int) := by rw [Int.fdiv_eq_ediv_of_nonneg _ (by lia)]; lia
theorem fmod_c (a b : Nat) : (a : Int).fmod (b : Int) = ((a % b : Nat) : Int) := by rw [Int.fmod_eq_emod_of_nonneg _ (by lia)]; lia
theorem dstep {a r n : Nat} (h : a + 256 * r = n) (ha : a < 256) : n % 256 = a ∧ n / 256 = r := ⟨by lia, by lia⟩
noncomputable def cF (L : List Nat) (k : Nat) : Nat → Nat := fun i => if 512 ≤ i ∧ i < 512 + k then L.getD (i - 512) 0 else 170
theorem cF_zero (L : List Nat) : cF L 0 = fun _ => 170 := by funext i; unfold cF; rw [if_neg (by lia)]
theorem repL_n (n : Nat) : repL [170] n = memL n fun _ => 170 := by
  unfold repL memL
  refine List.ext_getElem (by simp) fun i h1 h2 => ?_
  have : ∀ x ∈ (List.replicate n [(170 : Int)]).flatten, x = 170 := fun x hx => by
    simp only [List.mem_flatten, List.mem_replicate] at hx
    obtain ⟨l, ⟨_, rfl⟩, hx⟩ := hx
    simpa using hx
  rw [this _ (List.getElem_mem h1)]
  simp
theorem repL_F : repL [170] 1024 = memL 1024 fun _ => 170 := repL_n 1024
theorem memE_F (L : List Nat) : ∀ k, k ≤ L.length → L.length ≤ 512 → memE (L.map fun (b : Nat) => (b : Int)) k = memL 1024 (cF L k)
  | 0, _, _ => by rw [cF_zero]; exact repL_F
  | k + 1, h, h2 => by
    unfold memE
    rw [memE_F L k (by lia) h2]
    have e : (L.map fun (b : Nat) => (b : Int)).getD k 0 = ((L.getD k 0 : Nat) : Int) := by
      rw [List.getD_eq_getElem?_getD, List.getElem?_map, List.getD_eq_getElem?_getD]
      cases L[k]? <;> rfl
    rw [e, memL_set (by lia)]
    refine memL_congr fun i hi => ?_
    unfold cF up
    by_cases q : i = 512 + k
    · subst q; rw [if_pos rfl, if_pos (by lia), show 512 + k - 512 = k by lia]
    · rw [if_neg q]
      show (if 512 ≤ i ∧ i < 512 + k then L.getD (i - 512) 0 else 170) = _
      by_cases q2 : 512 ≤ i ∧ i < 512 + k
      · rw [if_pos q2, if_pos (by lia)]
      · rw [if_neg q2, if_neg (by lia)]
theorem bound_up {F : Nat → Nat} {k v : Nat} (h1 : ∀ i, F i < 256) (h2 : v < 256) : ∀ i, up F k v i < 256 := fun i => by unfold up; split; exact h2; exact h1 i
theorem ifB_d {p : Prop} {d : Decidable p} {A B : Prop} (hp : p) (h : A) : ifB (@decide p d) A B := by rw [decide_eq_true hp]; exact h
theorem retQ {Q : PF} {p : Prop} {d : Decidable p} (hp : p) {a0 : AO} (hQ : ∀ loc as, as[0]? = some a0 → Q (.ret (.bool true)) loc as) (loc : Loc) (as : List AO) (h : as[0]? = some a0) : Q (.ret (.bool (@decide p d))) loc as := by rw [decide_eq_true hp]; exact hQ _ _ h
noncomputable def M0 (m : List Int) (pc : Int) : MS := ⟨0, 0, 0, 48, pc, 255, 0, 0, .bool false, .int pc, m⟩
theorem M0_ms (F : Nat → Nat) (pc : Nat) : M0 (memL 1024 F) pc = ms 1024 ⟨0, 0, 0, 255, pc, false, false, false, false, F⟩ ⟨0, 0, .bool false, .int pc⟩ := rfl
theorem nat_of {x : Int} (h : 0 ≤ x) : ∃ n : Nat, x = n := ⟨x.toNat, by lia⟩
theorem fm_pos (a : Int) {b : Int} (h : 0 < b) : 0 ≤ a.fmod b ∧ a.fmod b < b := ⟨Int.fmod_nonneg_of_pos a h, Int.fmod_lt_of_pos a h⟩
theorem idx_ok {n : Nat} {k : Int} (a : Nat) (hk : k = a) (ha : a < 1024) (hn : n = 1024) : 0 ≤ k ∧ k < (n : Int) ∧ k < 9223372036854775808 := by subst hk hn; exact ⟨by lia, by lia, by lia⟩
theorem set_F {F : Nat → Nat} {k v : Int} (a w : Nat) (hk : k = a) (hv : v = w) (h : a < 1024) : (memL 1024 F).set k.toNat v = memL 1024 (up F a w) := memL_set' hk hv h
theorem bits256 : ∀ u < 256, Builtin.Int.intBits ((u : Nat) : Int) ≤ 64 := by decide +kernel
theorem bits512 : ∀ u < 512, Builtin.Int.intBits ((u : Nat) : Int) ≤ 64 := by decide +kernel
theorem cF_at {L : List Nat} {n i b : Nat} (hn : L.length = n) (h : L[i]? = some b) : cF L n (512 + i) = b := by
  have hl : i < n := hn ▸ (List.getElem?_eq_some_iff.mp h).1
  unfold cF
  rw [if_pos ⟨Nat.le_add_right _ _, Nat.add_lt_add_left hl _⟩, Nat.add_sub_cancel_left, List.getD_eq_getElem?_getD, h]; rfl
theorem cF_lt {L : List Nat} {n : Nat} (hn : L.length = n) (h : ∀ x ∈ L, x < 256) (i : Nat) : cF L n i < 256 := by
  unfold cF; split
  · rename_i q
    have hl : i - 512 < L.length := by lia
    rw [List.getD_eq_getElem?_getD, List.getElem?_eq_getElem hl]
    exact h _ (List.getElem_mem hl)
  · decide
end
end Mine

end
section
open PySem PySem.W PyProof.Rows
namespace Mine
noncomputable section
noncomputable def Fp2 (F : Nat → Nat) (f p q T r e : Nat) : Nat → Nat :=
  up (up (up (up (up (up (up (up (up (up (up F f p) (f + 1) (p * q % 256)) (f + 2) 0) (f + 3) 0) (f + 4) ((T - r * r) % 256)) (f + 5) ((T - r * r) / 256)) (f + 6) r) (f + 7) ((4 * (r / 2) + 1) % 256)) (f + 8) ((4 * (r / 2) + 1) / 256)) 510 (e % 256)) 511 (e / 256)
theorem root_one {r s T L : Nat} (h1 : r * r + L = T) (h2 : L ≤ 2 * r) (h3 : s * s ≤ T) (h4 : T < (s + 1) * (s + 1)) : r = s := by
  rcases Nat.lt_trichotomy r s with h | h | h
  · have := Nat.mul_le_mul (show r + 1 ≤ s from h) (show r + 1 ≤ s from h)
    rw [show (r + 1) * (r + 1) = r * r + 2 * r + 1 by rw [Nat.add_mul, Nat.mul_add]; lia] at this
    lia
  · exact h
  · have := Nat.mul_le_mul (show s + 1 ≤ r from h) (show s + 1 ≤ r from h)
    omega
theorem fin2 {two : Bool} {f p q T s : Nat} {m : Nat → Nat} {c : Co} (hf : f < 240) (E : End2 two f p q T m c) (hm : ∀ i, c.m i < 256) (h3 : s * s ≤ T) (h4 : T < (s + 1) * (s + 1)) : ∀ i < 1024, c.m i = Fp2 m f p q T s (cond two 657 629) i := by
  obtain ⟨L, r, r1, r2, r3, r4, r5⟩ := E.root
  have e := root_one r3 r4 h3 h4
  subst e
  have eL : T - r * r = L := by rw [← r3, Nat.add_sub_cancel_left]
  have d1 := dstep r1 (hm _)
  have d2 := dstep r5 (hm _)
  have z := E.h2
  intro i hi
  unfold Fp2
  rw [eL]
  by_cases q11 : i = 511
  · rw [up_eq q11, q11, E.h511]; cases two <;> rfl
  rw [up_ne q11]
  by_cases q10 : i = 510
  · rw [up_eq q10, q10, E.h510]; cases two <;> rfl
  rw [up_ne q10]
  by_cases q8 : i = f + 8
  · rw [up_eq q8, q8]; exact d2.2.symm
  rw [up_ne q8]
  by_cases q7 : i = f + 7
  · rw [up_eq q7, q7]; exact d2.1.symm
  rw [up_ne q7]
  by_cases q6 : i = f + 6
  · rw [up_eq q6, q6]; exact r2
  rw [up_ne q6]
  by_cases q5 : i = f + 5
  · rw [up_eq q5, q5]; exact d1.2.symm
  rw [up_ne q5]
  by_cases q4 : i = f + 4
  · rw [up_eq q4, q4]; exact d1.1.symm
  rw [up_ne q4]
  by_cases q3 : i = f + 3
  · rw [up_eq q3, q3]; clear d1 d2 r1 r3 r4 r5 h3 h4; lia
  rw [up_ne q3]
  by_cases q2 : i = f + 2
  · rw [up_eq q2, q2]; clear d1 d2 r1 r3 r4 r5 h3 h4; lia
  rw [up_ne q2]
  by_cases q1 : i = f + 1
  · rw [up_eq q1, q1]; exact E.h1
  rw [up_ne q1]
  by_cases q0 : i = f
  · rw [up_eq q0, q0]; exact E.h0
  rw [up_ne q0]
  exact E.fr i (by clear d1 d2 r1 r3 r4 r5 h3 h4 z; lia) q10 q11
end
end Mine

end
section
open PySem PySem.W PyProof.Rows
namespace Mine
noncomputable section
noncomputable abbrev v_script : Str := nS [115, 99, 114, 105, 112, 116]
noncomputable abbrev v_terms : Str := nS [116, 101, 114, 109, 115]
noncomputable abbrev v_pairs : Str := nS [112, 97, 105, 114, 115]
noncomputable abbrev v_factor : Str := nS [102, 97, 99, 116, 111, 114]
noncomputable abbrev v_low : Str := nS [108, 111, 119]
noncomputable abbrev v_whole : Str := nS [119, 104, 111, 108, 101]
noncomputable abbrev v_left : Str := nS [108, 101, 102, 116]
noncomputable abbrev v_root : Str := nS [114, 111, 111, 116]
noncomputable abbrev v_trial : Str := nS [116, 114, 105, 97, 108]
noncomputable abbrev v_these : Str := nS [116, 104, 101, 115, 101]
noncomputable abbrev v_those : Str := nS [116, 104, 111, 115, 101]
noncomputable abbrev v_times : Str := nS [116, 105, 109, 101, 115]
noncomputable abbrev v_loop : Str := nS [108, 111, 111, 112]
noncomputable abbrev v_roots : Str := nS [114, 111, 111, 116, 115]
noncomputable abbrev v_code : Str := nS [99, 111, 100, 101]
noncomputable abbrev v_start : Str := nS [115, 116, 97, 114, 116]
noncomputable abbrev v_term : Str := nS [116, 101, 114, 109]
noncomputable abbrev v_end : Str := nS [101, 110, 100]
noncomputable abbrev v_memory : Str := nS [109, 101, 109, 111, 114, 121]
noncomputable abbrev v_plain : Str := nS [112, 108, 97, 105, 110]
noncomputable abbrev v_total : Str := nS [116, 111, 116, 97, 108]
noncomputable abbrev v_told : Str := nS [116, 111, 108, 100]
noncomputable abbrev v_mpu : Str := nS [109, 112, 117]
noncomputable abbrev v_turn : Str := nS [116, 117, 114, 110]
noncomputable abbrev v_place : Str := nS [112, 108, 97, 99, 101]
noncomputable abbrev v_octet : Str := nS [111, 99, 116, 101, 116]
noncomputable abbrev v_pair : Str := nS [112, 97, 105, 114]
noncomputable def stG (i j : Nat) : List Stmt := (lawD.body.drop i).take (j - i)
end
end Mine

end
section
open PySem PySem.W PyProof.Rows
namespace Mine
noncomputable section
theorem e27 : stL 27 = (enumOf (stL 27)).stmt (forBody 27) := by kernel_rfl
theorem e27n : ((enumOf (stL 27)).xi, (enumOf (stL 27)).xv, (enumOf (stL 27)).en, (enumOf (stL 27)).cn) = (v_place, v_octet, nEnum, v_code) := by kernel_rfl
theorem e27k : (isKind .globalImplicit lawD.scope nEnum, isKind .local lawD.scope v_code) = (true, true) := by kernel_rfl
theorem e27g : kN.gv nEnum = some (.ty "enumerate") := by kernel_rfl
theorem e45 : stL 45 = (forROf (stL 45)).stmt (forBody 45) := by kernel_rfl
theorem e45n : ((forROf (stL 45)).x, (forROf (stL 45)).r, noStar (forROf (stL 45)).args) = (v_turn, nRange, true) := by kernel_rfl
theorem e45a (f : Fm) (as : List AO) (Q : PVs) : lvs kN 5 40 f (forROf (stL 45)).args as Q = Q [.int ((500 : Nat) : Int)] as := by kernel_rfl
noncomputable def whT : Stmt → Expr
  | .While t _ _ _ => t
  | _ => .Tuple [] 0 default
noncomputable def whB : Stmt → List Stmt
  | .While _ b _ _ => b
  | _ => []
noncomputable def whP : Stmt → Pos
  | .While _ _ _ p => p
  | _ => default
theorem e32 : stL 32 = .While (whT (stL 32)) (whB (stL 32)) [] (whP (stL 32)) := by kernel_rfl
theorem body33 : lawD.body.drop 33 = stG 33 37 ++ (stG 37 44 ++ (stG 44 45 ++ [stL 45, stL 46])) := by kernel_rfl
theorem body24 : lawD.body.drop 24 = stG 24 27 ++ (stL 27 :: (stG 28 29 ++ (stG 29 32 ++ (stL 32 :: lawD.body.drop 33)))) := by kernel_rfl
theorem body4 : lawD.body.drop 4 = stG 4 12 ++ (stG 12 16 ++ (stG 16 19 ++ (stG 19 20 ++ (stG 20 23 ++ (stG 23 24 ++ lawD.body.drop 24))))) := by kernel_rfl
theorem body0 : lawD.body = stL 0 :: stL 1 :: (stG 2 4 ++ lawD.body.drop 4) := by kernel_rfl
theorem lt240 {f : Nat} (h : f < 240) (k : Nat) (hk : k ≤ 700 := by decide) : f + k < 1024 := by lia
theorem sub_c {T s : Nat} (h : s * s ≤ T) : (T : Int) - (s : Int) * (s : Int) = ((T - s * s : Nat) : Int) := by rw [Int.ofNat_sub h, Int.natCast_mul]
theorem half_c (s : Nat) : 4 * Int.fdiv (s : Int) 2 + 1 = ((4 * (s / 2) + 1 : Nat) : Int) := by rw [show Int.fdiv (s : Int) 2 = ((s / 2 : Nat) : Int) from fdiv_c s 2]; lia
theorem mod_c {x : Int} {n : Nat} (h : x = n) : x.fmod 256 = ((n % 256 : Nat) : Int) := by rw [h]; exact fmod_c n 256
theorem div_c {x : Int} {n : Nat} (h : x = n) : x.fdiv 256 = ((n / 256 : Nat) : Int) := by rw [h]; exact fdiv_c n 256
theorem len7 {n : Nat} {m : List Int} (h : m.length = n) {k : Nat} {v : Int} : (m.set k v).length = n := by rw [List.length_set]; exact h
end
end Mine

end
section
open PySem PySem.W PyProof.Rows
namespace Mine
noncomputable section
theorem r1_2 (cd : Value) (a0 a3 a4 a5 : AO) (d0 d1 d2 d3 d4 d5 : Int) (Q : PF) : lxs kN 40 40 (F0 cd ([(v_script, AV.obj 0), (v_terms, AV.int 1)])) (stG 2 4) [a0, AO.cell none, AO.cell (some (AV.obj 6)), a3, a4, a5, AO.intx [d0, d1, d2, d3, d4, d5]] Q =
   (((Small (0 : Int) ∧ Small (1 : Int)) ∧ (1 : Int) ≤ (100000 : Int)) ∧ ((2 : Nat) ≤ (64 : Nat) ∨ (0 : Nat) ≤ (64 : Nat)) ∧ ((0 : Int) ≤ (2 : Int) ∧ (2 : Int) < (6 : Int) ∧ (2 : Int) < (9223372036854775808 : Int)) ∧ (256 : Int) ≠ (0 : Int) ∧ ((2 : Nat) ≤ (64 : Nat) ∨ (0 : Nat) ≤ (64 : Nat)) ∧ ((0 : Int) ≤ (3 : Int) ∧ (3 : Int) < (6 : Int) ∧ (3 : Int) < (9223372036854775808 : Int)) ∧ (256 : Int) ≠ (0 : Int) ∧ Q AF.next [(v_script, AV.obj (0 : Nat)), (v_terms, AV.int (1 : Int)), (v_pairs, AV.obj (7 : Nat))] [a0, AO.cell (some (AV.int (256 : Int))), AO.cell (some (AV.obj (6 : Nat))), a3, a4, a5, AO.intx [d0, d1, d2, d3, d4, d5], AO.list [AV.obj (8 : Nat)], AO.tuple [AV.int (Int.fmod d2 (256 : Int)), AV.int (Int.fmod d3 (256 : Int))]]) := by kernel_rfl
theorem r1_4 (cd : Value) (a0 a1 a3 a4 a5 a7 a8 : AO) (d0 d1 d2 d3 d4 d5 : Int) (Q : PF) : lxs kN 40 40 (F0 cd ([(v_script, AV.obj (0 : Nat)), (v_terms, AV.int (1 : Int)), (v_pairs, AV.obj (7 : Nat))])) (stG 4 12) [a0, a1, AO.cell (some (AV.obj 6)), a3, a4, a5, AO.intx [d0, d1, d2, d3, d4, d5], a7, a8] Q =
   (((0 : Int) ≤ (1 : Int) ∧ (1 : Int) < (6 : Int) ∧ (1 : Int) < (9223372036854775808 : Int)) ∧ (200 : Int) ≠ (0 : Int) ∧ ((0 : Int) ≤ (1 : Int) ∧ (1 : Int) < (6 : Int) ∧ (1 : Int) < (9223372036854775808 : Int)) ∧ ((2 : Nat) ≤ (64 : Nat) ∨ Builtin.Int.intBits d1 ≤ (64 : Nat)) ∧ (100 : Int) ≠ (0 : Int) ∧ ((0 : Int) ≤ (1 : Int) ∧ (1 : Int) < (6 : Int) ∧ (1 : Int) < (9223372036854775808 : Int)) ∧ ((3 : Nat) ≤ (64 : Nat) ∨ Builtin.Int.intBits d1 ≤ (64 : Nat)) ∧ (100 : Int) ≠ (0 : Int) ∧ Q AF.next [(v_script, AV.obj (0 : Nat)), (v_terms, AV.int (1 : Int)), (v_pairs, AV.obj (7 : Nat)), (v_factor, AV.int ((16 : Int) + Int.fmod d1 (200 : Int))), (v_low, AV.int ((16 : Int) + Int.fmod d1 (200 : Int) + (1 : Int))), (v_whole, AV.int ((16 : Int) + Int.fmod d1 (200 : Int) + (2 : Int))), (v_left, AV.int ((16 : Int) + Int.fmod d1 (200 : Int) + (4 : Int))), (v_root, AV.int ((16 : Int) + Int.fmod d1 (200 : Int) + (6 : Int))), (v_trial, AV.int ((16 : Int) + Int.fmod d1 (200 : Int) + (7 : Int))), (v_these, AV.int ((768 : Int) + Int.fmod ((3 : Int) * d1) (100 : Int))), (v_those, AV.int ((896 : Int) + Int.fmod ((7 : Int) * d1) (100 : Int)))] [a0, a1, AO.cell (some (AV.obj (6 : Nat))), a3, a4, a5, AO.intx [d0, d1, d2, d3, d4, d5], a7, a8]) := by kernel_rfl
theorem r1_12 (cd : Value) (a0 a1 a2 a3 a4 a5 a6 a7 a8 : AO) (f tt ss : Int) (Q : PF) : lxs kN 60 40 (F0 cd ([(v_script, AV.obj (0 : Nat)), (v_terms, AV.int (1 : Int)), (v_pairs, AV.obj (7 : Nat)), (v_factor, AV.int f), (v_low, AV.int (f + 1)), (v_whole, AV.int (f + 2)), (v_left, AV.int (f + 4)), (v_root, AV.int (f + 6)), (v_trial, AV.int (f + 7)), (v_these, AV.int tt), (v_those, AV.int ss)])) (stG 12 16) [a0, a1, a2, a3, a4, a5, a6, a7, a8] Q =
   ((6 : Nat) + (12 : Nat) ≤ (100000 : Nat) ∧ ((0 : Nat) < (8 : Nat) ∧ (0 : Int) ≤ (2 : Int) ∧ (2 : Int) < (4611686018427387904 : Int) ∧ (8 : Nat) * (2 : Nat) ≤ (100000 : Nat)) ∧ (16 : Nat) + (13 : Nat) ≤ (100000 : Nat) ∧ Q AF.next [(v_script, AV.obj (0 : Nat)), (v_terms, AV.int (1 : Int)), (v_pairs, AV.obj (7 : Nat)), (v_factor, AV.int f), (v_low, AV.int (f + (1 : Int))), (v_whole, AV.int (f + (2 : Int))), (v_left, AV.int (f + (4 : Int))), (v_root, AV.int (f + (6 : Int))), (v_trial, AV.int (f + (7 : Int))), (v_these, AV.int tt), (v_those, AV.int ss), (v_times, AV.obj (9 : Nat)), (v_loop, AV.obj (12 : Nat))] [a0, a1, a2, a3, a4, a5, a6, a7, a8, AO.intx [169, 0, 162, 8, 70, f + 1, 144, 3, 24, 101, f, 106, 102, f + 1, 202, 208, 245, 96], AO.intx [144, 3, 24, 101, f, 106, 102, f + 1, 202, 208, 245, 96], AO.intx [6, f + 2, 38, f + 2 + 1, 38, f + 4, 38, f + 4 + 1], AO.intx (repL [(6 : Int), f + (2 : Int), (38 : Int), f + (2 : Int) + (1 : Int), (38 : Int), f + (4 : Int), (38 : Int), f + (4 : Int) + (1 : Int)] (2 : Nat) ++ [(6 : Int), f + (6 : Int), (165 : Int), f + (6 : Int), (56 : Int), (42 : Int), (133 : Int), f + (7 : Int), (169 : Int), (0 : Int), (42 : Int), (133 : Int), f + (7 : Int) + (1 : Int)]), AO.intx [6, f + 6, 165, f + 6, 56, 42, 133, f + 7, 169, 0, 42, 133, f + 7 + 1]]) := by kernel_rfl
theorem r1_16 (cd : Value) (a0 a1 a2 a3 a4 a5 a6 a7 a8 a10 a11 a13 : AO) (f tt ss : Int) (Q : PF) : lxs kN 60 40 (F0 cd ([(v_script, AV.obj (0 : Nat)), (v_terms, AV.int (1 : Int)), (v_pairs, AV.obj (7 : Nat)), (v_factor, AV.int f), (v_low, AV.int (f + (1 : Int))), (v_whole, AV.int (f + (2 : Int))), (v_left, AV.int (f + (4 : Int))), (v_root, AV.int (f + (6 : Int))), (v_trial, AV.int (f + (7 : Int))), (v_these, AV.int tt), (v_those, AV.int ss), (v_times, AV.obj (9 : Nat)), (v_loop, AV.obj (12 : Nat))])) (stG 16 19) [a0, a1, a2, a3, a4, a5, a6, a7, a8, AO.intx [169, 0, 162, 8, 70, f + 1, 144, 3, 24, 101, f, 106, 102, f + 1, 202, 208, 245, 96], a10, a11, AO.intx (repL [(6 : Int), f + (2 : Int), (38 : Int), f + (2 : Int) + (1 : Int), (38 : Int), f + (4 : Int), (38 : Int), f + (4 : Int) + (1 : Int)] (2 : Nat) ++ [(6 : Int), f + (6 : Int), (165 : Int), f + (6 : Int), (56 : Int), (42 : Int), (133 : Int), f + (7 : Int), (169 : Int), (0 : Int), (42 : Int), (133 : Int), f + (7 : Int) + (1 : Int)]), a13] Q =
   ((29 : Nat) + (10 : Nat) ≤ (100000 : Nat) ∧ (39 : Nat) + (11 : Nat) ≤ (100000 : Nat) ∧ Q AF.next [(v_script, AV.obj (0 : Nat)), (v_terms, AV.int (1 : Int)), (v_pairs, AV.obj (7 : Nat)), (v_factor, AV.int f), (v_low, AV.int (f + (1 : Int))), (v_whole, AV.int (f + (2 : Int))), (v_left, AV.int (f + (4 : Int))), (v_root, AV.int (f + (6 : Int))), (v_trial, AV.int (f + (7 : Int))), (v_these, AV.int tt), (v_those, AV.int ss), (v_times, AV.obj (9 : Nat)), (v_loop, AV.obj (12 : Nat)), (v_roots, AV.obj (16 : Nat))] [a0, a1, a2, a3, a4, a5, a6, a7, a8, AO.intx [169, 0, 162, 8, 70, f + 1, 144, 3, 24, 101, f, 106, 102, f + 1, 202, 208, 245, 96], a10, a11, AO.intx (repL [(6 : Int), f + (2 : Int), (38 : Int), f + (2 : Int) + (1 : Int), (38 : Int), f + (4 : Int), (38 : Int), f + (4 : Int) + (1 : Int)] (2 : Nat) ++ [(6 : Int), f + (6 : Int), (165 : Int), f + (6 : Int), (56 : Int), (42 : Int), (133 : Int), f + (7 : Int), (169 : Int), (0 : Int), (42 : Int), (133 : Int), f + (7 : Int) + (1 : Int)] ++ [(165 : Int), f + (4 : Int), (197 : Int), f + (7 : Int), (165 : Int), f + (4 : Int) + (1 : Int), (229 : Int), f + (7 : Int) + (1 : Int), (144 : Int), (10 : Int)] ++ [(133 : Int), f + (4 : Int) + (1 : Int), (165 : Int), f + (4 : Int), (229 : Int), f + (7 : Int), (133 : Int), f + (4 : Int), (230 : Int), f + (6 : Int), (136 : Int)]), a13, AO.intx [165, f + 4, 197, f + 7, 165, f + 4 + 1, 229, f + 7 + 1, 144, 10], AO.intx [133, f + 4 + 1, 165, f + 4, 229, f + 7, 133, f + 4, 230, f + 6, 136], AO.intx [169, 0, 133, f + 4, 133, f + 4 + 1, 133, f + 6, 160, 8]]) := by kernel_rfl
theorem r1_19 (cd : Value) (a0 a1 a2 a3 a4 a5 a6 a7 a8 a10 a11 a13 a14 a15 : AO) (f tt ss : Int) (Q : PF) : lxs kN 60 40 (F0 cd ([(v_script, AV.obj (0 : Nat)), (v_terms, AV.int (1 : Int)), (v_pairs, AV.obj (7 : Nat)), (v_factor, AV.int f), (v_low, AV.int (f + (1 : Int))), (v_whole, AV.int (f + (2 : Int))), (v_left, AV.int (f + (4 : Int))), (v_root, AV.int (f + (6 : Int))), (v_trial, AV.int (f + (7 : Int))), (v_these, AV.int tt), (v_those, AV.int ss), (v_times, AV.obj (9 : Nat)), (v_loop, AV.obj (12 : Nat)), (v_roots, AV.obj (16 : Nat))])) (stG 19 20) [a0, a1, a2, a3, a4, a5, a6, a7, a8, AO.intx [169, 0, 162, 8, 70, f + 1, 144, 3, 24, 101, f, 106, 102, f + 1, 202, 208, 245, 96], a10, a11, AO.intx (repL [(6 : Int), f + (2 : Int), (38 : Int), f + (2 : Int) + (1 : Int), (38 : Int), f + (4 : Int), (38 : Int), f + (4 : Int) + (1 : Int)] (2 : Nat) ++ [(6 : Int), f + (6 : Int), (165 : Int), f + (6 : Int), (56 : Int), (42 : Int), (133 : Int), f + (7 : Int), (169 : Int), (0 : Int), (42 : Int), (133 : Int), f + (7 : Int) + (1 : Int)] ++ [(165 : Int), f + (4 : Int), (197 : Int), f + (7 : Int), (165 : Int), f + (4 : Int) + (1 : Int), (229 : Int), f + (7 : Int) + (1 : Int), (144 : Int), (10 : Int)] ++ [(133 : Int), f + (4 : Int) + (1 : Int), (165 : Int), f + (4 : Int), (229 : Int), f + (7 : Int), (133 : Int), f + (4 : Int), (230 : Int), f + (6 : Int), (136 : Int)]), a13, a14, a15, AO.intx [169, 0, 133, f + 4, 133, f + 4 + 1, 133, f + 6, 160, 8]] Q =
   ((50 : Nat) ≤ (1000000 : Nat) ∧ (50 : Nat) + (3 : Nat) ≤ (100000 : Nat) ∧ (10 : Nat) + (53 : Nat) ≤ (100000 : Nat) ∧ Q AF.next [(v_script, AV.obj (0 : Nat)), (v_terms, AV.int (1 : Int)), (v_pairs, AV.obj (7 : Nat)), (v_factor, AV.int f), (v_low, AV.int (f + (1 : Int))), (v_whole, AV.int (f + (2 : Int))), (v_left, AV.int (f + (4 : Int))), (v_root, AV.int (f + (6 : Int))), (v_trial, AV.int (f + (7 : Int))), (v_these, AV.int tt), (v_those, AV.int ss), (v_times, AV.obj (9 : Nat)), (v_loop, AV.obj (12 : Nat)), (v_roots, AV.obj (16 : Nat))] [a0, a1, a2, a3, a4, a5, a6, a7, a8, AO.intx [169, 0, 162, 8, 70, f + 1, 144, 3, 24, 101, f, 106, 102, f + 1, 202, 208, 245, 96], a10, a11, AO.intx (repL [(6 : Int), f + (2 : Int), (38 : Int), f + (2 : Int) + (1 : Int), (38 : Int), f + (4 : Int), (38 : Int), f + (4 : Int) + (1 : Int)] (2 : Nat) ++ [(6 : Int), f + (6 : Int), (165 : Int), f + (6 : Int), (56 : Int), (42 : Int), (133 : Int), f + (7 : Int), (169 : Int), (0 : Int), (42 : Int), (133 : Int), f + (7 : Int) + (1 : Int)] ++ [(165 : Int), f + (4 : Int), (197 : Int), f + (7 : Int), (165 : Int), f + (4 : Int) + (1 : Int), (229 : Int), f + (7 : Int) + (1 : Int), (144 : Int), (10 : Int)] ++ [(133 : Int), f + (4 : Int) + (1 : Int), (165 : Int), f + (4 : Int), (229 : Int), f + (7 : Int), (133 : Int), f + (4 : Int), (230 : Int), f + (6 : Int), (136 : Int)]), a13, a14, a15, AO.intx ([(169 : Int), (0 : Int), (133 : Int), f + (4 : Int), (133 : Int), f + (4 : Int) + (1 : Int), (133 : Int), f + (6 : Int), (160 : Int), (8 : Int)] ++ (repL [(6 : Int), f + (2 : Int), (38 : Int), f + (2 : Int) + (1 : Int), (38 : Int), f + (4 : Int), (38 : Int), f + (4 : Int) + (1 : Int)] (2 : Nat) ++ [(6 : Int), f + (6 : Int), (165 : Int), f + (6 : Int), (56 : Int), (42 : Int), (133 : Int), f + (7 : Int), (169 : Int), (0 : Int), (42 : Int), (133 : Int), f + (7 : Int) + (1 : Int)] ++ [(165 : Int), f + (4 : Int), (197 : Int), f + (7 : Int), (165 : Int), f + (4 : Int) + (1 : Int), (229 : Int), f + (7 : Int) + (1 : Int), (144 : Int), (10 : Int)] ++ [(133 : Int), f + (4 : Int) + (1 : Int), (165 : Int), f + (4 : Int), (229 : Int), f + (7 : Int), (133 : Int), f + (4 : Int), (230 : Int), f + (6 : Int), (136 : Int)] ++ [(208 : Int), (254 : Int) - (50 : Int), (96 : Int)])), AO.intx [208, 254 - 50, 96], AO.intx (repL [(6 : Int), f + (2 : Int), (38 : Int), f + (2 : Int) + (1 : Int), (38 : Int), f + (4 : Int), (38 : Int), f + (4 : Int) + (1 : Int)] (2 : Nat) ++ [(6 : Int), f + (6 : Int), (165 : Int), f + (6 : Int), (56 : Int), (42 : Int), (133 : Int), f + (7 : Int), (169 : Int), (0 : Int), (42 : Int), (133 : Int), f + (7 : Int) + (1 : Int)] ++ [(165 : Int), f + (4 : Int), (197 : Int), f + (7 : Int), (165 : Int), f + (4 : Int) + (1 : Int), (229 : Int), f + (7 : Int) + (1 : Int), (144 : Int), (10 : Int)] ++ [(133 : Int), f + (4 : Int) + (1 : Int), (165 : Int), f + (4 : Int), (229 : Int), f + (7 : Int), (133 : Int), f + (4 : Int), (230 : Int), f + (6 : Int), (136 : Int)] ++ [(208 : Int), (254 : Int) - (50 : Int), (96 : Int)])]) := by kernel_rfl
theorem r1_20 (cd : Value) (a0 a1 a2 a3 a4 a5 a6 a7 a8 a10 a11 a13 a14 a15 a17 a18 : AO) (f tt ss : Int) (Q : PF) : lxs kN 60 40 (F0 cd ([(v_script, AV.obj (0 : Nat)), (v_terms, AV.int (1 : Int)), (v_pairs, AV.obj (7 : Nat)), (v_factor, AV.int f), (v_low, AV.int (f + (1 : Int))), (v_whole, AV.int (f + (2 : Int))), (v_left, AV.int (f + (4 : Int))), (v_root, AV.int (f + (6 : Int))), (v_trial, AV.int (f + (7 : Int))), (v_these, AV.int tt), (v_those, AV.int ss), (v_times, AV.obj (9 : Nat)), (v_loop, AV.obj (12 : Nat)), (v_roots, AV.obj (16 : Nat))])) (stG 20 23) [a0, a1, a2, a3, a4, a5, a6, a7, a8, AO.intx [169, 0, 162, 8, 70, f + 1, 144, 3, 24, 101, f, 106, 102, f + 1, 202, 208, 245, 96], a10, a11, AO.intx (repL [(6 : Int), f + (2 : Int), (38 : Int), f + (2 : Int) + (1 : Int), (38 : Int), f + (4 : Int), (38 : Int), f + (4 : Int) + (1 : Int)] (2 : Nat) ++ [(6 : Int), f + (6 : Int), (165 : Int), f + (6 : Int), (56 : Int), (42 : Int), (133 : Int), f + (7 : Int), (169 : Int), (0 : Int), (42 : Int), (133 : Int), f + (7 : Int) + (1 : Int)] ++ [(165 : Int), f + (4 : Int), (197 : Int), f + (7 : Int), (165 : Int), f + (4 : Int) + (1 : Int), (229 : Int), f + (7 : Int) + (1 : Int), (144 : Int), (10 : Int)] ++ [(133 : Int), f + (4 : Int) + (1 : Int), (165 : Int), f + (4 : Int), (229 : Int), f + (7 : Int), (133 : Int), f + (4 : Int), (230 : Int), f + (6 : Int), (136 : Int)]), a13, a14, a15, AO.intx ([(169 : Int), (0 : Int), (133 : Int), f + (4 : Int), (133 : Int), f + (4 : Int) + (1 : Int), (133 : Int), f + (6 : Int), (160 : Int), (8 : Int)] ++ (repL [(6 : Int), f + (2 : Int), (38 : Int), f + (2 : Int) + (1 : Int), (38 : Int), f + (4 : Int), (38 : Int), f + (4 : Int) + (1 : Int)] (2 : Nat) ++ [(6 : Int), f + (6 : Int), (165 : Int), f + (6 : Int), (56 : Int), (42 : Int), (133 : Int), f + (7 : Int), (169 : Int), (0 : Int), (42 : Int), (133 : Int), f + (7 : Int) + (1 : Int)] ++ [(165 : Int), f + (4 : Int), (197 : Int), f + (7 : Int), (165 : Int), f + (4 : Int) + (1 : Int), (229 : Int), f + (7 : Int) + (1 : Int), (144 : Int), (10 : Int)] ++ [(133 : Int), f + (4 : Int) + (1 : Int), (165 : Int), f + (4 : Int), (229 : Int), f + (7 : Int), (133 : Int), f + (4 : Int), (230 : Int), f + (6 : Int), (136 : Int)] ++ [(208 : Int), (254 : Int) - (50 : Int), (96 : Int)])), a17, a18] Q =
   ((18 : Nat) + (63 : Nat) ≤ (100000 : Nat) ∧ (81 : Nat) ≤ (1000000 : Nat) ∧ (81 : Nat) + (6 : Nat) ≤ (100000 : Nat) ∧ Q AF.next [(v_script, AV.obj (0 : Nat)), (v_terms, AV.int (1 : Int)), (v_pairs, AV.obj (7 : Nat)), (v_factor, AV.int f), (v_low, AV.int (f + (1 : Int))), (v_whole, AV.int (f + (2 : Int))), (v_left, AV.int (f + (4 : Int))), (v_root, AV.int (f + (6 : Int))), (v_trial, AV.int (f + (7 : Int))), (v_these, AV.int tt), (v_those, AV.int ss), (v_times, AV.obj (9 : Nat)), (v_loop, AV.obj (12 : Nat)), (v_roots, AV.obj (16 : Nat)), (v_code, AV.obj (19 : Nat)), (v_start, AV.int ((512 : Int) + (81 : Int)))] [a0, a1, a2, a3, a4, a5, a6, a7, a8, AO.intx [169, 0, 162, 8, 70, f + 1, 144, 3, 24, 101, f, 106, 102, f + 1, 202, 208, 245, 96], a10, a11, AO.intx (repL [(6 : Int), f + (2 : Int), (38 : Int), f + (2 : Int) + (1 : Int), (38 : Int), f + (4 : Int), (38 : Int), f + (4 : Int) + (1 : Int)] (2 : Nat) ++ [(6 : Int), f + (6 : Int), (165 : Int), f + (6 : Int), (56 : Int), (42 : Int), (133 : Int), f + (7 : Int), (169 : Int), (0 : Int), (42 : Int), (133 : Int), f + (7 : Int) + (1 : Int)] ++ [(165 : Int), f + (4 : Int), (197 : Int), f + (7 : Int), (165 : Int), f + (4 : Int) + (1 : Int), (229 : Int), f + (7 : Int) + (1 : Int), (144 : Int), (10 : Int)] ++ [(133 : Int), f + (4 : Int) + (1 : Int), (165 : Int), f + (4 : Int), (229 : Int), f + (7 : Int), (133 : Int), f + (4 : Int), (230 : Int), f + (6 : Int), (136 : Int)]), a13, a14, a15, AO.intx ([(169 : Int), (0 : Int), (133 : Int), f + (4 : Int), (133 : Int), f + (4 : Int) + (1 : Int), (133 : Int), f + (6 : Int), (160 : Int), (8 : Int)] ++ (repL [(6 : Int), f + (2 : Int), (38 : Int), f + (2 : Int) + (1 : Int), (38 : Int), f + (4 : Int), (38 : Int), f + (4 : Int) + (1 : Int)] (2 : Nat) ++ [(6 : Int), f + (6 : Int), (165 : Int), f + (6 : Int), (56 : Int), (42 : Int), (133 : Int), f + (7 : Int), (169 : Int), (0 : Int), (42 : Int), (133 : Int), f + (7 : Int) + (1 : Int)] ++ [(165 : Int), f + (4 : Int), (197 : Int), f + (7 : Int), (165 : Int), f + (4 : Int) + (1 : Int), (229 : Int), f + (7 : Int) + (1 : Int), (144 : Int), (10 : Int)] ++ [(133 : Int), f + (4 : Int) + (1 : Int), (165 : Int), f + (4 : Int), (229 : Int), f + (7 : Int), (133 : Int), f + (4 : Int), (230 : Int), f + (6 : Int), (136 : Int)] ++ [(208 : Int), (204 : Int), (96 : Int)])), a17, a18, AO.intx ([(169 : Int), (0 : Int), (162 : Int), (8 : Int), (70 : Int), f + (1 : Int), (144 : Int), (3 : Int), (24 : Int), (101 : Int), f, (106 : Int), (102 : Int), f + (1 : Int), (202 : Int), (208 : Int), (245 : Int), (96 : Int)] ++ ([(169 : Int), (0 : Int), (133 : Int), f + (4 : Int), (133 : Int), f + (4 : Int) + (1 : Int), (133 : Int), f + (6 : Int), (160 : Int), (8 : Int)] ++ (repL [(6 : Int), f + (2 : Int), (38 : Int), f + (2 : Int) + (1 : Int), (38 : Int), f + (4 : Int), (38 : Int), f + (4 : Int) + (1 : Int)] (2 : Nat) ++ [(6 : Int), f + (6 : Int), (165 : Int), f + (6 : Int), (56 : Int), (42 : Int), (133 : Int), f + (7 : Int), (169 : Int), (0 : Int), (42 : Int), (133 : Int), f + (7 : Int) + (1 : Int)] ++ [(165 : Int), f + (4 : Int), (197 : Int), f + (7 : Int), (165 : Int), f + (4 : Int) + (1 : Int), (229 : Int), f + (7 : Int) + (1 : Int), (144 : Int), (10 : Int)] ++ [(133 : Int), f + (4 : Int) + (1 : Int), (165 : Int), f + (4 : Int), (229 : Int), f + (7 : Int), (133 : Int), f + (4 : Int), (230 : Int), f + (6 : Int), (136 : Int)] ++ [(208 : Int), (204 : Int), (96 : Int)])) ++ [(169 : Int), (0 : Int), (133 : Int), f + (2 : Int), (133 : Int), f + (2 : Int) + (1 : Int)]), AO.intx [169, 0, 133, f + 2, 133, f + 2 + 1]]) := by kernel_rfl
theorem r1_23 (cd : Value) (a0 a1 a2 a3 a4 a5 a6 a7 a8 a10 a11 a13 a14 a15 a17 a18 a20 : AO) (f tt ss : Int) (Q : PF) : lxs kN 60 40 (F0 cd ([(v_script, AV.obj (0 : Nat)), (v_terms, AV.int (1 : Int)), (v_pairs, AV.obj (7 : Nat)), (v_factor, AV.int f), (v_low, AV.int (f + (1 : Int))), (v_whole, AV.int (f + (2 : Int))), (v_left, AV.int (f + (4 : Int))), (v_root, AV.int (f + (6 : Int))), (v_trial, AV.int (f + (7 : Int))), (v_these, AV.int tt), (v_those, AV.int ss), (v_times, AV.obj (9 : Nat)), (v_loop, AV.obj (12 : Nat)), (v_roots, AV.obj (16 : Nat)), (v_code, AV.obj (19 : Nat)), (v_start, AV.int ((512 : Int) + (81 : Int)))])) (stG 23 24) [a0, a1, a2, a3, a4, a5, a6, a7, a8, AO.intx [169, 0, 162, 8, 70, f + 1, 144, 3, 24, 101, f, 106, 102, f + 1, 202, 208, 245, 96], a10, a11, AO.intx (repL [(6 : Int), f + (2 : Int), (38 : Int), f + (2 : Int) + (1 : Int), (38 : Int), f + (4 : Int), (38 : Int), f + (4 : Int) + (1 : Int)] (2 : Nat) ++ [(6 : Int), f + (6 : Int), (165 : Int), f + (6 : Int), (56 : Int), (42 : Int), (133 : Int), f + (7 : Int), (169 : Int), (0 : Int), (42 : Int), (133 : Int), f + (7 : Int) + (1 : Int)] ++ [(165 : Int), f + (4 : Int), (197 : Int), f + (7 : Int), (165 : Int), f + (4 : Int) + (1 : Int), (229 : Int), f + (7 : Int) + (1 : Int), (144 : Int), (10 : Int)] ++ [(133 : Int), f + (4 : Int) + (1 : Int), (165 : Int), f + (4 : Int), (229 : Int), f + (7 : Int), (133 : Int), f + (4 : Int), (230 : Int), f + (6 : Int), (136 : Int)]), a13, a14, a15, AO.intx ([(169 : Int), (0 : Int), (133 : Int), f + (4 : Int), (133 : Int), f + (4 : Int) + (1 : Int), (133 : Int), f + (6 : Int), (160 : Int), (8 : Int)] ++ (repL [(6 : Int), f + (2 : Int), (38 : Int), f + (2 : Int) + (1 : Int), (38 : Int), f + (4 : Int), (38 : Int), f + (4 : Int) + (1 : Int)] (2 : Nat) ++ [(6 : Int), f + (6 : Int), (165 : Int), f + (6 : Int), (56 : Int), (42 : Int), (133 : Int), f + (7 : Int), (169 : Int), (0 : Int), (42 : Int), (133 : Int), f + (7 : Int) + (1 : Int)] ++ [(165 : Int), f + (4 : Int), (197 : Int), f + (7 : Int), (165 : Int), f + (4 : Int) + (1 : Int), (229 : Int), f + (7 : Int) + (1 : Int), (144 : Int), (10 : Int)] ++ [(133 : Int), f + (4 : Int) + (1 : Int), (165 : Int), f + (4 : Int), (229 : Int), f + (7 : Int), (133 : Int), f + (4 : Int), (230 : Int), f + (6 : Int), (136 : Int)] ++ [(208 : Int), (204 : Int), (96 : Int)])), a17, a18, AO.intx ([(169 : Int), (0 : Int), (162 : Int), (8 : Int), (70 : Int), f + (1 : Int), (144 : Int), (3 : Int), (24 : Int), (101 : Int), f, (106 : Int), (102 : Int), f + (1 : Int), (202 : Int), (208 : Int), (245 : Int), (96 : Int)] ++ ([(169 : Int), (0 : Int), (133 : Int), f + (4 : Int), (133 : Int), f + (4 : Int) + (1 : Int), (133 : Int), f + (6 : Int), (160 : Int), (8 : Int)] ++ (repL [(6 : Int), f + (2 : Int), (38 : Int), f + (2 : Int) + (1 : Int), (38 : Int), f + (4 : Int), (38 : Int), f + (4 : Int) + (1 : Int)] (2 : Nat) ++ [(6 : Int), f + (6 : Int), (165 : Int), f + (6 : Int), (56 : Int), (42 : Int), (133 : Int), f + (7 : Int), (169 : Int), (0 : Int), (42 : Int), (133 : Int), f + (7 : Int) + (1 : Int)] ++ [(165 : Int), f + (4 : Int), (197 : Int), f + (7 : Int), (165 : Int), f + (4 : Int) + (1 : Int), (229 : Int), f + (7 : Int) + (1 : Int), (144 : Int), (10 : Int)] ++ [(133 : Int), f + (4 : Int) + (1 : Int), (165 : Int), f + (4 : Int), (229 : Int), f + (7 : Int), (133 : Int), f + (4 : Int), (230 : Int), f + (6 : Int), (136 : Int)] ++ [(208 : Int), (204 : Int), (96 : Int)])) ++ [(169 : Int), (0 : Int), (133 : Int), f + (2 : Int), (133 : Int), f + (2 : Int) + (1 : Int)]), a20] Q =
   ((Small (0 : Int) ∧ Small (1 : Int)) ∧ (256 : Int) ≠ (0 : Int) ∧ ((256 : Int) ≠ (0 : Int) ∧ false = false) ∧ (87 : Nat) + (7 : Nat) ≤ (100000 : Nat) ∧ (256 : Int) ≠ (0 : Int) ∧ ((256 : Int) ≠ (0 : Int) ∧ false = false) ∧ (94 : Nat) + (9 : Nat) ≤ (100000 : Nat) ∧ (103 : Nat) + (12 : Nat) ≤ (100000 : Nat) ∧ Q AF.next [(v_script, AV.obj (0 : Nat)), (v_terms, AV.int (1 : Int)), (v_pairs, AV.obj (7 : Nat)), (v_factor, AV.int f), (v_low, AV.int (f + (1 : Int))), (v_whole, AV.int (f + (2 : Int))), (v_left, AV.int (f + (4 : Int))), (v_root, AV.int (f + (6 : Int))), (v_trial, AV.int (f + (7 : Int))), (v_these, AV.int tt), (v_those, AV.int ss), (v_times, AV.obj (9 : Nat)), (v_loop, AV.obj (12 : Nat)), (v_roots, AV.obj (16 : Nat)), (v_code, AV.obj (19 : Nat)), (v_start, AV.int (593 : Int)), (v_term, AV.int (0 : Int))] [a0, a1, a2, a3, a4, a5, a6, a7, a8, AO.intx [169, 0, 162, 8, 70, f + 1, 144, 3, 24, 101, f, 106, 102, f + 1, 202, 208, 245, 96], a10, a11, AO.intx (repL [(6 : Int), f + (2 : Int), (38 : Int), f + (2 : Int) + (1 : Int), (38 : Int), f + (4 : Int), (38 : Int), f + (4 : Int) + (1 : Int)] (2 : Nat) ++ [(6 : Int), f + (6 : Int), (165 : Int), f + (6 : Int), (56 : Int), (42 : Int), (133 : Int), f + (7 : Int), (169 : Int), (0 : Int), (42 : Int), (133 : Int), f + (7 : Int) + (1 : Int)] ++ [(165 : Int), f + (4 : Int), (197 : Int), f + (7 : Int), (165 : Int), f + (4 : Int) + (1 : Int), (229 : Int), f + (7 : Int) + (1 : Int), (144 : Int), (10 : Int)] ++ [(133 : Int), f + (4 : Int) + (1 : Int), (165 : Int), f + (4 : Int), (229 : Int), f + (7 : Int), (133 : Int), f + (4 : Int), (230 : Int), f + (6 : Int), (136 : Int)]), a13, a14, a15, AO.intx ([(169 : Int), (0 : Int), (133 : Int), f + (4 : Int), (133 : Int), f + (4 : Int) + (1 : Int), (133 : Int), f + (6 : Int), (160 : Int), (8 : Int)] ++ (repL [(6 : Int), f + (2 : Int), (38 : Int), f + (2 : Int) + (1 : Int), (38 : Int), f + (4 : Int), (38 : Int), f + (4 : Int) + (1 : Int)] (2 : Nat) ++ [(6 : Int), f + (6 : Int), (165 : Int), f + (6 : Int), (56 : Int), (42 : Int), (133 : Int), f + (7 : Int), (169 : Int), (0 : Int), (42 : Int), (133 : Int), f + (7 : Int) + (1 : Int)] ++ [(165 : Int), f + (4 : Int), (197 : Int), f + (7 : Int), (165 : Int), f + (4 : Int) + (1 : Int), (229 : Int), f + (7 : Int) + (1 : Int), (144 : Int), (10 : Int)] ++ [(133 : Int), f + (4 : Int) + (1 : Int), (165 : Int), f + (4 : Int), (229 : Int), f + (7 : Int), (133 : Int), f + (4 : Int), (230 : Int), f + (6 : Int), (136 : Int)] ++ [(208 : Int), (204 : Int), (96 : Int)])), a17, a18, AO.intx ([(169 : Int), (0 : Int), (162 : Int), (8 : Int), (70 : Int), f + (1 : Int), (144 : Int), (3 : Int), (24 : Int), (101 : Int), f, (106 : Int), (102 : Int), f + (1 : Int), (202 : Int), (208 : Int), (245 : Int), (96 : Int)] ++ ([(169 : Int), (0 : Int), (133 : Int), f + (4 : Int), (133 : Int), f + (4 : Int) + (1 : Int), (133 : Int), f + (6 : Int), (160 : Int), (8 : Int)] ++ (repL [(6 : Int), f + (2 : Int), (38 : Int), f + (2 : Int) + (1 : Int), (38 : Int), f + (4 : Int), (38 : Int), f + (4 : Int) + (1 : Int)] (2 : Nat) ++ [(6 : Int), f + (6 : Int), (165 : Int), f + (6 : Int), (56 : Int), (42 : Int), (133 : Int), f + (7 : Int), (169 : Int), (0 : Int), (42 : Int), (133 : Int), f + (7 : Int) + (1 : Int)] ++ [(165 : Int), f + (4 : Int), (197 : Int), f + (7 : Int), (165 : Int), f + (4 : Int) + (1 : Int), (229 : Int), f + (7 : Int) + (1 : Int), (144 : Int), (10 : Int)] ++ [(133 : Int), f + (4 : Int) + (1 : Int), (165 : Int), f + (4 : Int), (229 : Int), f + (7 : Int), (133 : Int), f + (4 : Int), (230 : Int), f + (6 : Int), (136 : Int)] ++ [(208 : Int), (204 : Int), (96 : Int)])) ++ [(169 : Int), (0 : Int), (133 : Int), f + (2 : Int), (133 : Int), f + (2 : Int) + (1 : Int)] ++ [(160 : Int), (0 : Int), (185 : Int), Int.fmod tt (256 : Int), Int.fdiv tt (256 : Int), (133 : Int), f] ++ [(185 : Int), Int.fmod ss (256 : Int), Int.fdiv ss (256 : Int), (133 : Int), f + (1 : Int), (32 : Int), (0 : Int), (2 : Int), (72 : Int)] ++ [(24 : Int), (165 : Int), f + (1 : Int), (101 : Int), f + (2 : Int), (133 : Int), f + (2 : Int), (104 : Int), (101 : Int), f + (2 : Int) + (1 : Int), (133 : Int), f + (2 : Int) + (1 : Int)]), a20, AO.intx [160, 0, 185, Int.fmod tt 256, Int.fdiv tt 256, 133, f], AO.intx [185, Int.fmod ss 256, Int.fdiv ss 256, 133, f + 1, 32, 0, 2, 72], AO.intx [24, 165, f + 1, 101, f + 2, 133, f + 2, 104, 101, f + 2 + 1, 133, f + 2 + 1]]) := by kernel_rfl
theorem r1_24 (cd : Value) (a0 a1 a2 a3 a4 a5 a6 a7 a8 a10 a11 a13 a14 a15 a17 a18 a20 a21 a22 a23 : AO) (f tt ss : Int) (Q : PF) : lxs kN 60 40 (F0 cd ([(v_script, AV.obj (0 : Nat)), (v_terms, AV.int (1 : Int)), (v_pairs, AV.obj (7 : Nat)), (v_factor, AV.int f), (v_low, AV.int (f + (1 : Int))), (v_whole, AV.int (f + (2 : Int))), (v_left, AV.int (f + (4 : Int))), (v_root, AV.int (f + (6 : Int))), (v_trial, AV.int (f + (7 : Int))), (v_these, AV.int tt), (v_those, AV.int ss), (v_times, AV.obj (9 : Nat)), (v_loop, AV.obj (12 : Nat)), (v_roots, AV.obj (16 : Nat)), (v_code, AV.obj (19 : Nat)), (v_start, AV.int (593 : Int)), (v_term, AV.int (0 : Int))])) (stG 24 27) [a0, a1, a2, a3, a4, a5, a6, a7, a8, AO.intx [169, 0, 162, 8, 70, f + 1, 144, 3, 24, 101, f, 106, 102, f + 1, 202, 208, 245, 96], a10, a11, AO.intx (repL [(6 : Int), f + (2 : Int), (38 : Int), f + (2 : Int) + (1 : Int), (38 : Int), f + (4 : Int), (38 : Int), f + (4 : Int) + (1 : Int)] (2 : Nat) ++ [(6 : Int), f + (6 : Int), (165 : Int), f + (6 : Int), (56 : Int), (42 : Int), (133 : Int), f + (7 : Int), (169 : Int), (0 : Int), (42 : Int), (133 : Int), f + (7 : Int) + (1 : Int)] ++ [(165 : Int), f + (4 : Int), (197 : Int), f + (7 : Int), (165 : Int), f + (4 : Int) + (1 : Int), (229 : Int), f + (7 : Int) + (1 : Int), (144 : Int), (10 : Int)] ++ [(133 : Int), f + (4 : Int) + (1 : Int), (165 : Int), f + (4 : Int), (229 : Int), f + (7 : Int), (133 : Int), f + (4 : Int), (230 : Int), f + (6 : Int), (136 : Int)]), a13, a14, a15, AO.intx ([(169 : Int), (0 : Int), (133 : Int), f + (4 : Int), (133 : Int), f + (4 : Int) + (1 : Int), (133 : Int), f + (6 : Int), (160 : Int), (8 : Int)] ++ (repL [(6 : Int), f + (2 : Int), (38 : Int), f + (2 : Int) + (1 : Int), (38 : Int), f + (4 : Int), (38 : Int), f + (4 : Int) + (1 : Int)] (2 : Nat) ++ [(6 : Int), f + (6 : Int), (165 : Int), f + (6 : Int), (56 : Int), (42 : Int), (133 : Int), f + (7 : Int), (169 : Int), (0 : Int), (42 : Int), (133 : Int), f + (7 : Int) + (1 : Int)] ++ [(165 : Int), f + (4 : Int), (197 : Int), f + (7 : Int), (165 : Int), f + (4 : Int) + (1 : Int), (229 : Int), f + (7 : Int) + (1 : Int), (144 : Int), (10 : Int)] ++ [(133 : Int), f + (4 : Int) + (1 : Int), (165 : Int), f + (4 : Int), (229 : Int), f + (7 : Int), (133 : Int), f + (4 : Int), (230 : Int), f + (6 : Int), (136 : Int)] ++ [(208 : Int), (204 : Int), (96 : Int)])), a17, a18, AO.intx ([(169 : Int), (0 : Int), (162 : Int), (8 : Int), (70 : Int), f + (1 : Int), (144 : Int), (3 : Int), (24 : Int), (101 : Int), f, (106 : Int), (102 : Int), f + (1 : Int), (202 : Int), (208 : Int), (245 : Int), (96 : Int)] ++ ([(169 : Int), (0 : Int), (133 : Int), f + (4 : Int), (133 : Int), f + (4 : Int) + (1 : Int), (133 : Int), f + (6 : Int), (160 : Int), (8 : Int)] ++ (repL [(6 : Int), f + (2 : Int), (38 : Int), f + (2 : Int) + (1 : Int), (38 : Int), f + (4 : Int), (38 : Int), f + (4 : Int) + (1 : Int)] (2 : Nat) ++ [(6 : Int), f + (6 : Int), (165 : Int), f + (6 : Int), (56 : Int), (42 : Int), (133 : Int), f + (7 : Int), (169 : Int), (0 : Int), (42 : Int), (133 : Int), f + (7 : Int) + (1 : Int)] ++ [(165 : Int), f + (4 : Int), (197 : Int), f + (7 : Int), (165 : Int), f + (4 : Int) + (1 : Int), (229 : Int), f + (7 : Int) + (1 : Int), (144 : Int), (10 : Int)] ++ [(133 : Int), f + (4 : Int) + (1 : Int), (165 : Int), f + (4 : Int), (229 : Int), f + (7 : Int), (133 : Int), f + (4 : Int), (230 : Int), f + (6 : Int), (136 : Int)] ++ [(208 : Int), (204 : Int), (96 : Int)])) ++ [(169 : Int), (0 : Int), (133 : Int), f + (2 : Int), (133 : Int), f + (2 : Int) + (1 : Int)] ++ [(160 : Int), (0 : Int), (185 : Int), Int.fmod tt (256 : Int), Int.fdiv tt (256 : Int), (133 : Int), f] ++ [(185 : Int), Int.fmod ss (256 : Int), Int.fdiv ss (256 : Int), (133 : Int), f + (1 : Int), (32 : Int), (0 : Int), (2 : Int), (72 : Int)] ++ [(24 : Int), (165 : Int), f + (1 : Int), (101 : Int), f + (2 : Int), (133 : Int), f + (2 : Int), (104 : Int), (101 : Int), f + (2 : Int) + (1 : Int), (133 : Int), f + (2 : Int) + (1 : Int)]), a20, a21, a22, a23] Q =
   ((18 : Nat) ≤ (1000000 : Nat) ∧ (115 : Nat) + (3 : Nat) ≤ (100000 : Nat) ∧ (118 : Nat) ≤ (1000000 : Nat) ∧ ((0 : Nat) < (1 : Nat) ∧ (0 : Int) ≤ (1024 : Int) ∧ (1024 : Int) < (4611686018427387904 : Int) ∧ (1024 : Nat) ≤ (100000 : Nat)) ∧ Q AF.next [(v_script, AV.obj (0 : Nat)), (v_terms, AV.int (1 : Int)), (v_pairs, AV.obj (7 : Nat)), (v_factor, AV.int f), (v_low, AV.int (f + (1 : Int))), (v_whole, AV.int (f + (2 : Int))), (v_left, AV.int (f + (4 : Int))), (v_root, AV.int (f + (6 : Int))), (v_trial, AV.int (f + (7 : Int))), (v_these, AV.int tt), (v_those, AV.int ss), (v_times, AV.obj (9 : Nat)), (v_loop, AV.obj (12 : Nat)), (v_roots, AV.obj (16 : Nat)), (v_code, AV.obj (19 : Nat)), (v_start, AV.int (593 : Int)), (v_term, AV.int (0 : Int)), (v_end, AV.int ((512 : Int) + (118 : Int))), (v_memory, AV.obj (26 : Nat))] [a0, a1, a2, a3, a4, a5, a6, a7, a8, AO.intx [169, 0, 162, 8, 70, f + 1, 144, 3, 24, 101, f, 106, 102, f + 1, 202, 208, 245, 96], a10, a11, AO.intx (repL [(6 : Int), f + (2 : Int), (38 : Int), f + (2 : Int) + (1 : Int), (38 : Int), f + (4 : Int), (38 : Int), f + (4 : Int) + (1 : Int)] (2 : Nat) ++ [(6 : Int), f + (6 : Int), (165 : Int), f + (6 : Int), (56 : Int), (42 : Int), (133 : Int), f + (7 : Int), (169 : Int), (0 : Int), (42 : Int), (133 : Int), f + (7 : Int) + (1 : Int)] ++ [(165 : Int), f + (4 : Int), (197 : Int), f + (7 : Int), (165 : Int), f + (4 : Int) + (1 : Int), (229 : Int), f + (7 : Int) + (1 : Int), (144 : Int), (10 : Int)] ++ [(133 : Int), f + (4 : Int) + (1 : Int), (165 : Int), f + (4 : Int), (229 : Int), f + (7 : Int), (133 : Int), f + (4 : Int), (230 : Int), f + (6 : Int), (136 : Int)]), a13, a14, a15, AO.intx ([(169 : Int), (0 : Int), (133 : Int), f + (4 : Int), (133 : Int), f + (4 : Int) + (1 : Int), (133 : Int), f + (6 : Int), (160 : Int), (8 : Int)] ++ (repL [(6 : Int), f + (2 : Int), (38 : Int), f + (2 : Int) + (1 : Int), (38 : Int), f + (4 : Int), (38 : Int), f + (4 : Int) + (1 : Int)] (2 : Nat) ++ [(6 : Int), f + (6 : Int), (165 : Int), f + (6 : Int), (56 : Int), (42 : Int), (133 : Int), f + (7 : Int), (169 : Int), (0 : Int), (42 : Int), (133 : Int), f + (7 : Int) + (1 : Int)] ++ [(165 : Int), f + (4 : Int), (197 : Int), f + (7 : Int), (165 : Int), f + (4 : Int) + (1 : Int), (229 : Int), f + (7 : Int) + (1 : Int), (144 : Int), (10 : Int)] ++ [(133 : Int), f + (4 : Int) + (1 : Int), (165 : Int), f + (4 : Int), (229 : Int), f + (7 : Int), (133 : Int), f + (4 : Int), (230 : Int), f + (6 : Int), (136 : Int)] ++ [(208 : Int), (204 : Int), (96 : Int)])), a17, a18, AO.intx ([(169 : Int), (0 : Int), (162 : Int), (8 : Int), (70 : Int), f + (1 : Int), (144 : Int), (3 : Int), (24 : Int), (101 : Int), f, (106 : Int), (102 : Int), f + (1 : Int), (202 : Int), (208 : Int), (245 : Int), (96 : Int)] ++ ([(169 : Int), (0 : Int), (133 : Int), f + (4 : Int), (133 : Int), f + (4 : Int) + (1 : Int), (133 : Int), f + (6 : Int), (160 : Int), (8 : Int)] ++ (repL [(6 : Int), f + (2 : Int), (38 : Int), f + (2 : Int) + (1 : Int), (38 : Int), f + (4 : Int), (38 : Int), f + (4 : Int) + (1 : Int)] (2 : Nat) ++ [(6 : Int), f + (6 : Int), (165 : Int), f + (6 : Int), (56 : Int), (42 : Int), (133 : Int), f + (7 : Int), (169 : Int), (0 : Int), (42 : Int), (133 : Int), f + (7 : Int) + (1 : Int)] ++ [(165 : Int), f + (4 : Int), (197 : Int), f + (7 : Int), (165 : Int), f + (4 : Int) + (1 : Int), (229 : Int), f + (7 : Int) + (1 : Int), (144 : Int), (10 : Int)] ++ [(133 : Int), f + (4 : Int) + (1 : Int), (165 : Int), f + (4 : Int), (229 : Int), f + (7 : Int), (133 : Int), f + (4 : Int), (230 : Int), f + (6 : Int), (136 : Int)] ++ [(208 : Int), (204 : Int), (96 : Int)])) ++ [(169 : Int), (0 : Int), (133 : Int), f + (2 : Int), (133 : Int), f + (2 : Int) + (1 : Int)] ++ [(160 : Int), (0 : Int), (185 : Int), Int.fmod tt (256 : Int), Int.fdiv tt (256 : Int), (133 : Int), f] ++ [(185 : Int), Int.fmod ss (256 : Int), Int.fdiv ss (256 : Int), (133 : Int), f + (1 : Int), (32 : Int), (0 : Int), (2 : Int), (72 : Int)] ++ [(24 : Int), (165 : Int), f + (1 : Int), (101 : Int), f + (2 : Int), (133 : Int), f + (2 : Int), (104 : Int), (101 : Int), f + (2 : Int) + (1 : Int), (133 : Int), f + (2 : Int) + (1 : Int)] ++ [(32 : Int), (18 : Int), (2 : Int)]), a20, a21, a22, a23, AO.intx [32, 18, 2], AO.intx [170], AO.intx (repL [(170 : Int)] (1024 : Nat))]) := by kernel_rfl
theorem r1_28 (cd : Value) (a0 a1 a2 a3 a4 a5 a6 a9 a10 a11 a12 a13 a14 a15 a16 a17 a18 a19 a20 a21 a22 a23 a24 a25 : AO) (m : List Int) (f tt ss p o p0 q0 : Int) (Q : PF) : lxs kN 60 40 (F0 cd ([(v_script, AV.obj (0 : Nat)), (v_terms, AV.int (1 : Int)), (v_pairs, AV.obj (7 : Nat)), (v_factor, AV.int f), (v_low, AV.int (f + (1 : Int))), (v_whole, AV.int (f + (2 : Int))), (v_left, AV.int (f + (4 : Int))), (v_root, AV.int (f + (6 : Int))), (v_trial, AV.int (f + (7 : Int))), (v_these, AV.int tt), (v_those, AV.int ss), (v_times, AV.obj (9 : Nat)), (v_loop, AV.obj (12 : Nat)), (v_roots, AV.obj (16 : Nat)), (v_code, AV.obj (19 : Nat)), (v_start, AV.int (593 : Int)), (v_term, AV.int (0 : Int)), (v_end, AV.int 630), (v_memory, AV.obj (26 : Nat)), (v_place, AV.int p), (v_octet, AV.int o)])) (stG 28 29) [a0, a1, a2, a3, a4, a5, a6, AO.list [AV.obj 8], AO.tuple [AV.int p0, AV.int q0], a9, a10, a11, a12, a13, a14, a15, a16, a17, a18, a19, a20, a21, a22, a23, a24, a25, AO.ints m] Q =
   (some [AV.obj (8 : Nat)] = some [AV.obj (8 : Nat)] ∧ ((0 : Int) ≤ (0 : Int) ∧ (0 : Int) < (9223372036854775808 : Int)) ∧ ((0 : Int) ≤ tt + (0 : Int) ∧ tt + (0 : Int) < ↑(List.length m) ∧ tt + (0 : Int) < (9223372036854775808 : Int)) ∧ ((0 : Int) ≤ (1 : Int) ∧ (1 : Int) < (9223372036854775808 : Int)) ∧ ((0 : Int) ≤ ss + (0 : Int) ∧ ss + (0 : Int) < ↑(List.length (List.set m (Int.toNat (tt + (0 : Int))) p0)) ∧ ss + (0 : Int) < (9223372036854775808 : Int)) ∧ some [AV.obj (8 : Nat)] = some [AV.obj (8 : Nat)] ∧ Q AF.next [(v_script, AV.obj (0 : Nat)), (v_terms, AV.int (1 : Int)), (v_pairs, AV.obj (7 : Nat)), (v_factor, AV.int f), (v_low, AV.int (f + (1 : Int))), (v_whole, AV.int (f + (2 : Int))), (v_left, AV.int (f + (4 : Int))), (v_root, AV.int (f + (6 : Int))), (v_trial, AV.int (f + (7 : Int))), (v_these, AV.int tt), (v_those, AV.int ss), (v_times, AV.obj (9 : Nat)), (v_loop, AV.obj (12 : Nat)), (v_roots, AV.obj (16 : Nat)), (v_code, AV.obj (19 : Nat)), (v_start, AV.int (593 : Int)), (v_term, AV.int (0 : Int)), (v_end, AV.int (630 : Int)), (v_memory, AV.obj (26 : Nat)), (v_place, AV.int p), (v_octet, AV.int o), (v_pair, AV.obj (8 : Nat))] [a0, a1, a2, a3, a4, a5, a6, AO.list [AV.obj (8 : Nat)], AO.tuple [AV.int p0, AV.int q0], a9, a10, a11, a12, a13, a14, a15, a16, a17, a18, a19, a20, a21, a22, a23, a24, a25, AO.ints (List.set (List.set m (Int.toNat (tt + (0 : Int))) p0) (Int.toNat (ss + (0 : Int))) q0)]) := by kernel_rfl
theorem r1_29 (cd : Value) (a0 a1 a2 a3 a4 a5 a6 a9 a10 a11 a12 a13 a14 a15 a16 a17 a18 a19 a20 a21 a22 a23 a24 a25 : AO) (m : List Int) (f tt ss p o p0 q0 : Int) (Q : PF) : lxs kN 60 40 (F0 cd ([(v_script, AV.obj (0 : Nat)), (v_terms, AV.int (1 : Int)), (v_pairs, AV.obj (7 : Nat)), (v_factor, AV.int f), (v_low, AV.int (f + (1 : Int))), (v_whole, AV.int (f + (2 : Int))), (v_left, AV.int (f + (4 : Int))), (v_root, AV.int (f + (6 : Int))), (v_trial, AV.int (f + (7 : Int))), (v_these, AV.int tt), (v_those, AV.int ss), (v_times, AV.obj (9 : Nat)), (v_loop, AV.obj (12 : Nat)), (v_roots, AV.obj (16 : Nat)), (v_code, AV.obj (19 : Nat)), (v_start, AV.int (593 : Int)), (v_term, AV.int (0 : Int)), (v_end, AV.int (630 : Int)), (v_memory, AV.obj (26 : Nat)), (v_place, AV.int p), (v_octet, AV.int o), (v_pair, AV.obj 8)])) (stG 29 32) [a0, a1, a2, a3, a4, a5, a6, AO.list [AV.obj (8 : Nat)], AO.tuple [AV.int p0, AV.int q0], a9, a10, a11, a12, a13, a14, a15, a16, a17, a18, a19, a20, a21, a22, a23, a24, a25, AO.ints m] Q =
   (List.length m ≤ (100000 : Nat) ∧ some [AV.obj (8 : Nat)] = some [AV.obj (8 : Nat)] ∧ (2 : Nat) = (2 : Nat) ∧ (Builtin.Int.intBits p0 ≤ (64 : Nat) ∨ Builtin.Int.intBits q0 ≤ (64 : Nat)) ∧ some [AV.obj (8 : Nat)] = some [AV.obj (8 : Nat)] ∧ Q AF.next [(v_script, AV.obj (0 : Nat)), (v_terms, AV.int (1 : Int)), (v_pairs, AV.obj (7 : Nat)), (v_factor, AV.int f), (v_low, AV.int (f + (1 : Int))), (v_whole, AV.int (f + (2 : Int))), (v_left, AV.int (f + (4 : Int))), (v_root, AV.int (f + (6 : Int))), (v_trial, AV.int (f + (7 : Int))), (v_these, AV.int tt), (v_those, AV.int ss), (v_times, AV.obj (9 : Nat)), (v_loop, AV.obj (12 : Nat)), (v_roots, AV.obj (16 : Nat)), (v_code, AV.obj (19 : Nat)), (v_start, AV.int (593 : Int)), (v_term, AV.int (0 : Int)), (v_end, AV.int (630 : Int)), (v_memory, AV.obj (26 : Nat)), (v_place, AV.int p), (v_octet, AV.int o), (v_pair, AV.obj (8 : Nat)), (v_plain, AV.obj (27 : Nat)), (v_total, AV.int (List.sum [p0 * q0])), (v_told, AV.int (0 : Int))] [a0, a1, a2, a3, a4, a5, a6, AO.list [AV.obj (8 : Nat)], AO.tuple [AV.int p0, AV.int q0], a9, a10, a11, a12, a13, a14, a15, a16, a17, a18, a19, a20, a21, a22, a23, a24, a25, AO.ints m, AO.intx m, AO.intx [p0 * q0]]) := by kernel_rfl
theorem r1_33 (cd : Value) (a0 a1 a2 a3 a4 a5 a6 a9 a10 a11 a12 a13 a14 a15 a16 a17 a18 a19 a20 a21 a22 a23 a24 a25 a28 : AO) (m pn : List Int) (f tt ss p o p0 q0 tot told : Int) (Q : PF) : lxs kN 60 40 (F0 cd ([(v_script, AV.obj (0 : Nat)), (v_terms, AV.int (1 : Int)), (v_pairs, AV.obj (7 : Nat)), (v_factor, AV.int f), (v_low, AV.int (f + (1 : Int))), (v_whole, AV.int (f + (2 : Int))), (v_left, AV.int (f + (4 : Int))), (v_root, AV.int (f + (6 : Int))), (v_trial, AV.int (f + (7 : Int))), (v_these, AV.int tt), (v_those, AV.int ss), (v_times, AV.obj (9 : Nat)), (v_loop, AV.obj (12 : Nat)), (v_roots, AV.obj (16 : Nat)), (v_code, AV.obj (19 : Nat)), (v_start, AV.int (593 : Int)), (v_term, AV.int (0 : Int)), (v_end, AV.int (630 : Int)), (v_memory, AV.obj (26 : Nat)), (v_place, AV.int p), (v_octet, AV.int o), (v_pair, AV.obj (8 : Nat)), (v_plain, AV.obj (27 : Nat)), (v_total, AV.int tot), (v_told, AV.int told)])) (stG 33 37) [a0, a1, a2, a3, a4, a5, a6, AO.list [AV.obj (8 : Nat)], AO.tuple [AV.int p0, AV.int q0], a9, a10, a11, a12, a13, a14, a15, a16, a17, a18, a19, a20, a21, a22, a23, a24, a25, AO.ints m, AO.intx pn, a28] Q =
   ((1 : Nat) < (4611686018427387904 : Nat) ∧ ((0 : Int) ≤ (0 : Int) ∧ (0 : Int) < (9223372036854775808 : Int)) ∧ ((0 : Int) ≤ f ∧ f < ↑(List.length pn) ∧ f < (9223372036854775808 : Int)) ∧ (1 : Nat) < (4611686018427387904 : Nat) ∧ ((0 : Int) ≤ (0 : Int) ∧ (0 : Int) < (9223372036854775808 : Int)) ∧ (1 : Nat) < (4611686018427387904 : Nat) ∧ ((0 : Int) ≤ (1 : Int) ∧ (1 : Int) < (9223372036854775808 : Int)) ∧ (Builtin.Int.intBits p0 ≤ (64 : Nat) ∨ Builtin.Int.intBits q0 ≤ (64 : Nat)) ∧ (256 : Int) ≠ (0 : Int) ∧ ((0 : Int) ≤ f + (1 : Int) ∧ f + (1 : Int) < ↑(List.length (List.set pn (Int.toNat f) p0)) ∧ f + (1 : Int) < (9223372036854775808 : Int)) ∧ ((0 : Int) ≤ f + (2 : Int) ∧ f + (2 : Int) < ↑(List.length (List.set (List.set pn (Int.toNat f) p0) (Int.toNat (f + (1 : Int))) (Int.fmod (p0 * q0) (256 : Int)))) ∧ f + (2 : Int) < (9223372036854775808 : Int)) ∧ ((0 : Int) ≤ f + (2 : Int) + (1 : Int) ∧ f + (2 : Int) + (1 : Int) < ↑(List.length (List.set (List.set (List.set pn (Int.toNat f) p0) (Int.toNat (f + (1 : Int))) (Int.fmod (p0 * q0) (256 : Int))) (Int.toNat (f + (2 : Int))) (0 : Int))) ∧ f + (2 : Int) + (1 : Int) < (9223372036854775808 : Int)) ∧ Q AF.next [(v_script, AV.obj (0 : Nat)), (v_terms, AV.int (1 : Int)), (v_pairs, AV.obj (7 : Nat)), (v_factor, AV.int f), (v_low, AV.int (f + (1 : Int))), (v_whole, AV.int (f + (2 : Int))), (v_left, AV.int (f + (4 : Int))), (v_root, AV.int (f + (6 : Int))), (v_trial, AV.int (f + (7 : Int))), (v_these, AV.int tt), (v_those, AV.int ss), (v_times, AV.obj (9 : Nat)), (v_loop, AV.obj (12 : Nat)), (v_roots, AV.obj (16 : Nat)), (v_code, AV.obj (19 : Nat)), (v_start, AV.int (593 : Int)), (v_term, AV.int (0 : Int)), (v_end, AV.int (630 : Int)), (v_memory, AV.obj (26 : Nat)), (v_place, AV.int p), (v_octet, AV.int o), (v_pair, AV.obj (8 : Nat)), (v_plain, AV.obj (27 : Nat)), (v_total, AV.int tot), (v_told, AV.int told)] [a0, a1, a2, a3, a4, a5, a6, AO.list [AV.obj (8 : Nat)], AO.tuple [AV.int p0, AV.int q0], a9, a10, a11, a12, a13, a14, a15, a16, a17, a18, a19, a20, a21, a22, a23, a24, a25, AO.ints m, AO.ints (List.set (List.set (List.set (List.set pn (Int.toNat f) p0) (Int.toNat (f + (1 : Int))) (Int.fmod (p0 * q0) (256 : Int))) (Int.toNat (f + (2 : Int))) (0 : Int)) (Int.toNat (f + (2 : Int) + (1 : Int))) (0 : Int)), a28]) := by kernel_rfl
theorem r1_37 (cd : Value) (a0 a1 a2 a3 a4 a5 a6 a9 a10 a11 a12 a13 a14 a15 a16 a17 a18 a19 a20 a21 a22 a23 a24 a25 a28 : AO) (m pn : List Int) (f tt ss p o p0 q0 tot told : Int) (Q : PF) : lxs kN 60 40 (F0 cd ([(v_script, AV.obj (0 : Nat)), (v_terms, AV.int (1 : Int)), (v_pairs, AV.obj (7 : Nat)), (v_factor, AV.int f), (v_low, AV.int (f + (1 : Int))), (v_whole, AV.int (f + (2 : Int))), (v_left, AV.int (f + (4 : Int))), (v_root, AV.int (f + (6 : Int))), (v_trial, AV.int (f + (7 : Int))), (v_these, AV.int tt), (v_those, AV.int ss), (v_times, AV.obj (9 : Nat)), (v_loop, AV.obj (12 : Nat)), (v_roots, AV.obj (16 : Nat)), (v_code, AV.obj (19 : Nat)), (v_start, AV.int (593 : Int)), (v_term, AV.int (0 : Int)), (v_end, AV.int (630 : Int)), (v_memory, AV.obj (26 : Nat)), (v_place, AV.int p), (v_octet, AV.int o), (v_pair, AV.obj (8 : Nat)), (v_plain, AV.obj (27 : Nat)), (v_total, AV.int tot), (v_told, AV.int told)])) (stG 37 44) [a0, a1, a2, a3, a4, a5, a6, AO.list [AV.obj (8 : Nat)], AO.tuple [AV.int p0, AV.int q0], a9, a10, a11, a12, a13, a14, a15, a16, a17, a18, a19, a20, a21, a22, a23, a24, a25, AO.ints m, AO.ints pn, a28] Q =
   ((Builtin.Int.intBits told ≤ (64 : Nat) ∨ Builtin.Int.intBits told ≤ (64 : Nat)) ∧ (256 : Int) ≠ (0 : Int) ∧ ((0 : Int) ≤ f + (4 : Int) ∧ f + (4 : Int) < ↑(List.length pn) ∧ f + (4 : Int) < (9223372036854775808 : Int)) ∧ (Builtin.Int.intBits told ≤ (64 : Nat) ∨ Builtin.Int.intBits told ≤ (64 : Nat)) ∧ ((256 : Int) ≠ (0 : Int) ∧ false = false) ∧ ((0 : Int) ≤ f + (4 : Int) + (1 : Int) ∧ f + (4 : Int) + (1 : Int) < ↑(List.length (List.set pn (Int.toNat (f + (4 : Int))) (Int.fmod (tot - told * told) (256 : Int)))) ∧ f + (4 : Int) + (1 : Int) < (9223372036854775808 : Int)) ∧ ((0 : Int) ≤ f + (6 : Int) ∧ f + (6 : Int) < ↑(List.length (List.set (List.set pn (Int.toNat (f + (4 : Int))) (Int.fmod (tot - told * told) (256 : Int))) (Int.toNat (f + (4 : Int) + (1 : Int))) (Int.fdiv (tot - told * told) (256 : Int)))) ∧ f + (6 : Int) < (9223372036854775808 : Int)) ∧ ((2 : Int) ≠ (0 : Int) ∧ false = false) ∧ ((3 : Nat) ≤ (64 : Nat) ∨ Builtin.Int.intBits (Int.fdiv told (2 : Int)) ≤ (64 : Nat)) ∧ (256 : Int) ≠ (0 : Int) ∧ ((0 : Int) ≤ f + (7 : Int) ∧ f + (7 : Int) < ↑(List.length (List.set (List.set (List.set pn (Int.toNat (f + (4 : Int))) (Int.fmod (tot - told * told) (256 : Int))) (Int.toNat (f + (4 : Int) + (1 : Int))) (Int.fdiv (tot - told * told) (256 : Int))) (Int.toNat (f + (6 : Int))) told)) ∧ f + (7 : Int) < (9223372036854775808 : Int)) ∧ ((2 : Int) ≠ (0 : Int) ∧ false = false) ∧ ((3 : Nat) ≤ (64 : Nat) ∨ Builtin.Int.intBits (Int.fdiv told (2 : Int)) ≤ (64 : Nat)) ∧ ((256 : Int) ≠ (0 : Int) ∧ false = false) ∧ ((0 : Int) ≤ f + (7 : Int) + (1 : Int) ∧ f + (7 : Int) + (1 : Int) < ↑(List.length (List.set (List.set (List.set (List.set pn (Int.toNat (f + (4 : Int))) (Int.fmod (tot - told * told) (256 : Int))) (Int.toNat (f + (4 : Int) + (1 : Int))) (Int.fdiv (tot - told * told) (256 : Int))) (Int.toNat (f + (6 : Int))) told) (Int.toNat (f + (7 : Int))) (Int.fmod ((4 : Int) * Int.fdiv told (2 : Int) + (1 : Int)) (256 : Int)))) ∧ f + (7 : Int) + (1 : Int) < (9223372036854775808 : Int)) ∧ (256 : Int) ≠ (0 : Int) ∧ ((0 : Int) ≤ (510 : Int) ∧ (510 : Int) < ↑(List.length (List.set (List.set (List.set (List.set (List.set pn (Int.toNat (f + (4 : Int))) (Int.fmod (tot - told * told) (256 : Int))) (Int.toNat (f + (4 : Int) + (1 : Int))) (Int.fdiv (tot - told * told) (256 : Int))) (Int.toNat (f + (6 : Int))) told) (Int.toNat (f + (7 : Int))) (Int.fmod ((4 : Int) * Int.fdiv told (2 : Int) + (1 : Int)) (256 : Int))) (Int.toNat (f + (7 : Int) + (1 : Int))) (Int.fdiv ((4 : Int) * Int.fdiv told (2 : Int) + (1 : Int)) (256 : Int)))) ∧ (510 : Int) < (9223372036854775808 : Int)) ∧ ((256 : Int) ≠ (0 : Int) ∧ false = false) ∧ ((0 : Int) ≤ (511 : Int) ∧ (511 : Int) < ↑(List.length (List.set (List.set (List.set (List.set (List.set (List.set pn (Int.toNat (f + (4 : Int))) (Int.fmod (tot - told * told) (256 : Int))) (Int.toNat (f + (4 : Int) + (1 : Int))) (Int.fdiv (tot - told * told) (256 : Int))) (Int.toNat (f + (6 : Int))) told) (Int.toNat (f + (7 : Int))) (Int.fmod ((4 : Int) * Int.fdiv told (2 : Int) + (1 : Int)) (256 : Int))) (Int.toNat (f + (7 : Int) + (1 : Int))) (Int.fdiv ((4 : Int) * Int.fdiv told (2 : Int) + (1 : Int)) (256 : Int))) (510 : Nat) (117 : Int))) ∧ (511 : Int) < (9223372036854775808 : Int)) ∧ Q AF.next [(v_script, AV.obj (0 : Nat)), (v_terms, AV.int (1 : Int)), (v_pairs, AV.obj (7 : Nat)), (v_factor, AV.int f), (v_low, AV.int (f + (1 : Int))), (v_whole, AV.int (f + (2 : Int))), (v_left, AV.int (f + (4 : Int))), (v_root, AV.int (f + (6 : Int))), (v_trial, AV.int (f + (7 : Int))), (v_these, AV.int tt), (v_those, AV.int ss), (v_times, AV.obj (9 : Nat)), (v_loop, AV.obj (12 : Nat)), (v_roots, AV.obj (16 : Nat)), (v_code, AV.obj (19 : Nat)), (v_start, AV.int (593 : Int)), (v_term, AV.int (0 : Int)), (v_end, AV.int (630 : Int)), (v_memory, AV.obj (26 : Nat)), (v_place, AV.int p), (v_octet, AV.int o), (v_pair, AV.obj (8 : Nat)), (v_plain, AV.obj (27 : Nat)), (v_total, AV.int tot), (v_told, AV.int told)] [a0, a1, a2, a3, a4, a5, a6, AO.list [AV.obj (8 : Nat)], AO.tuple [AV.int p0, AV.int q0], a9, a10, a11, a12, a13, a14, a15, a16, a17, a18, a19, a20, a21, a22, a23, a24, a25, AO.ints m, AO.ints (List.set (List.set (List.set (List.set (List.set (List.set (List.set pn (Int.toNat (f + (4 : Int))) (Int.fmod (tot - told * told) (256 : Int))) (Int.toNat (f + (4 : Int) + (1 : Int))) (Int.fdiv (tot - told * told) (256 : Int))) (Int.toNat (f + (6 : Int))) told) (Int.toNat (f + (7 : Int))) (Int.fmod ((4 : Int) * Int.fdiv told (2 : Int) + (1 : Int)) (256 : Int))) (Int.toNat (f + (7 : Int) + (1 : Int))) (Int.fdiv ((4 : Int) * Int.fdiv told (2 : Int) + (1 : Int)) (256 : Int))) (510 : Nat) (117 : Int)) (511 : Nat) (2 : Int)), a28]) := by kernel_rfl
end
end Mine

end
section
open PySem PySem.W PyProof.Rows
namespace Mine
noncomputable section
noncomputable abbrev L32_1 (f tt ss p o tot told : Int) : Loc := [(v_script, AV.obj (0 : Nat)), (v_terms, AV.int (1 : Int)), (v_pairs, AV.obj (7 : Nat)), (v_factor, AV.int f), (v_low, AV.int (f + (1 : Int))), (v_whole, AV.int (f + (2 : Int))), (v_left, AV.int (f + (4 : Int))), (v_root, AV.int (f + (6 : Int))), (v_trial, AV.int (f + (7 : Int))), (v_these, AV.int tt), (v_those, AV.int ss), (v_times, AV.obj (9 : Nat)), (v_loop, AV.obj (12 : Nat)), (v_roots, AV.obj (16 : Nat)), (v_code, AV.obj (19 : Nat)), (v_start, AV.int (593 : Int)), (v_term, AV.int (0 : Int)), (v_end, AV.int (630 : Int)), (v_memory, AV.obj (26 : Nat)), (v_place, AV.int p), (v_octet, AV.int o), (v_pair, AV.obj (8 : Nat)), (v_plain, AV.obj (27 : Nat)), (v_total, AV.int tot), (v_told, AV.int told)]
noncomputable abbrev LS_1 (f tt ss p o tot told : Int) : Loc := L32_1 f tt ss p o tot told ++ [(v_mpu, .obj 30)]
noncomputable abbrev LT_1 (f tt ss p o tot told t : Int) : Loc := LS_1 f tt ss p o tot told ++ [(v_turn, .int t)]
noncomputable abbrev Z_1 (a0 a1 a2 a3 a4 a5 a6 a7 a8 a9 a10 a11 a12 a13 a14 a15 a16 a17 a18 a19 a20 a21 a22 a23 a24 a25 a28 mm pl : AO) : List AO := [a0, a1, a2, a3, a4, a5, a6, a7, a8, a9, a10, a11, a12, a13, a14, a15, a16, a17, a18, a19, a20, a21, a22, a23, a24, a25, mm, pl, a28]
noncomputable abbrev ZM_1 (a0 a1 a2 a3 a4 a5 a6 a7 a8 a9 a10 a11 a12 a13 a14 a15 a16 a17 a18 a19 a20 a21 a22 a23 a24 a25 a28 : AO) (pn : List Int) (M : MS) : List AO := Z_1 a0 a1 a2 a3 a4 a5 a6 a7 a8 a9 a10 a11 a12 a13 a14 a15 a16 a17 a18 a19 a20 a21 a22 a23 a24 a25 a28 (.ints M.mem) (.ints pn) ++ [.dict (esL M 26), .inst 1428 29]
theorem s1_44 (cd : Value) (a0 a1 a2 a3 a4 a5 a6 a7 a8 a9 a10 a11 a12 a13 a14 a15 a16 a17 a18 a19 a20 a21 a22 a23 a24 a25 a28 : AO) (m pn : List Int) (f tt ss p o tot told : Int) (Q : PF) : lxs kN 90 40 (F0 cd (L32_1 f tt ss p o tot told)) (stG 44 45) (Z_1 a0 a1 a2 a3 a4 a5 a6 a7 a8 a9 a10 a11 a12 a13 a14 a15 a16 a17 a18 a19 a20 a21 a22 a23 a24 a25 a28 (.ints m) (.ints pn)) Q =
  ((((0 : Int) ≤ (8 : Int) ∧ (8 : Int) ≤ (1000000 : Int) ∧ (1 : Nat) < (18446744073709551616 : Nat)) ∧ ((0 : Int) ≤ (16 : Int) ∧ (16 : Int) ≤ (1000000 : Int) ∧ (1 : Nat) < (18446744073709551616 : Nat)) ∧ ((0 : Int) ≤ (8 : Int) ∧ (8 : Int) ≤ (1000000 : Int) ∧ (255 : Nat) < (18446744073709551616 : Nat)) ∧ ((0 : Int) ≤ (8 : Int) ∧ (8 : Int) ≤ (1000000 : Int) ∧ (1 : Nat) < (18446744073709551616 : Nat)) ∧ Q .next (LS_1 f tt ss p o tot told) (ZM_1 a0 a1 a2 a3 a4 a5 a6 a7 a8 a9 a10 a11 a12 a13 a14 a15 a16 a17 a18 a19 a20 a21 a22 a23 a24 a25 a28 pn (M0 m 593)))) := by kernel_rfl
theorem s1_45a (cd : Value) (f tt ss p o tot told : Int) (t : Int) (as : List AO) (Q : Loc → List AO → Prop) : storeW (F0 cd (LS_1 f tt ss p o tot told)) v_turn (.int t) as Q = Q (LT_1 f tt ss p o tot told t) as := by kernel_rfl
theorem s1_45b (cd : Value) (f tt ss p o tot told : Int) (t t' : Int) (as : List AO) (Q : Loc → List AO → Prop) : storeW (F0 cd (LT_1 f tt ss p o tot told t')) v_turn (.int t) as Q = Q (LT_1 f tt ss p o tot told t) as := by kernel_rfl
theorem s1_45 (cd : Value) (a0 a1 a2 a3 a4 a5 a6 a7 a8 a9 a10 a11 a12 a13 a14 a15 a16 a17 a18 a19 a20 a21 a22 a23 a24 a25 a28 : AO) (pn : List Int) (f tt ss p o tot told : Int) (M : MS) (t : Int) (Q : PF) : lxs kN 30 40 (F0 cd (LT_1 f tt ss p o tot told t)) (forBody 45) (ZM_1 a0 a1 a2 a3 a4 a5 a6 a7 a8 a9 a10 a11 a12 a13 a14 a15 a16 a17 a18 a19 a20 a21 a22 a23 a24 a25 a28 pn M) Q = ifB (M.pc == ((630 : Nat) : Int)) (Q .brk (LT_1 f tt ss p o tot told t) (ZM_1 a0 a1 a2 a3 a4 a5 a6 a7 a8 a9 a10 a11 a12 a13 a14 a15 a16 a17 a18 a19 a20 a21 a22 a23 a24 a25 a28 pn M)) (stepP [.obj 30] (ZM_1 a0 a1 a2 a3 a4 a5 a6 a7 a8 a9 a10 a11 a12 a13 a14 a15 a16 a17 a18 a19 a20 a21 a22 a23 a24 a25 a28 pn M) fun _ as' => Q .next (LT_1 f tt ss p o tot told t) as') := by kernel_rfl
theorem s1_46 (cd : Value) (a0 a1 a2 a3 a4 a5 a6 a7 a8 a9 a10 a11 a12 a13 a14 a15 a16 a17 a18 a19 a20 a21 a22 a23 a24 a25 a28 : AO) (pn : List Int) (f tt ss p o tot told : Int) (M : MS) (t : Int) (Q : PF) : lx kN 30 40 (F0 cd (LT_1 f tt ss p o tot told t)) (stL 46) (ZM_1 a0 a1 a2 a3 a4 a5 a6 a7 a8 a9 a10 a11 a12 a13 a14 a15 a16 a17 a18 a19 a20 a21 a22 a23 a24 a25 a28 pn M) Q = ifB (decide ([M.pc, M.x, M.y, M.sp] = [(630 : Int), 0, 0, 255])) (Q (.ret (.bool (decide (M.mem = pn)))) (LT_1 f tt ss p o tot told t) (ZM_1 a0 a1 a2 a3 a4 a5 a6 a7 a8 a9 a10 a11 a12 a13 a14 a15 a16 a17 a18 a19 a20 a21 a22 a23 a24 a25 a28 pn M ++ [.tuple [.int M.pc, .int M.x, .int M.y, .int M.sp]] ++ [.tuple [.int 630, .int 0, .int 0, .int 255]])) (Q (.ret (.bool (decide ([M.pc, M.x, M.y, M.sp] = [(630 : Int), 0, 0, 255])))) (LT_1 f tt ss p o tot told t) (ZM_1 a0 a1 a2 a3 a4 a5 a6 a7 a8 a9 a10 a11 a12 a13 a14 a15 a16 a17 a18 a19 a20 a21 a22 a23 a24 a25 a28 pn M ++ [.tuple [.int M.pc, .int M.x, .int M.y, .int M.sp]] ++ [.tuple [.int 630, .int 0, .int 0, .int 255]])) := by kernel_rfl
theorem tail1 {X : Cx} (O : KenOK X kN) (cd : Value) (a0 a1 a2 a3 a4 a5 a6 a9 a10 a11 a12 a13 a14 a15 a16 a17 a18 a19 a20 a21 a22 a23 a24 a25 a28 : AO) {f ta tb sa sb P0 Q0 Tt s : Nat} (tt ss p o : Int) {F : Nat → Nat} (hf : f < 240) (hP : P0 < 256) (hs : s < 256) (h3 : s * s ≤ Tt) (h4 : Tt < (s + 1) * (s + 1))
    (W0 : WF (C02 false f ta tb sa sb) 1024 ⟨0, 0, 0, 255, 593, false, false, false, false, F⟩) (R0 : W2 false f ta tb sa sb 499 ⟨0, 0, 0, 255, 593, false, false, false, false, F⟩ (End2 false f P0 Q0 Tt F)) (Q : PF) (hQ : ∀ loc as, as[0]? = some a0 → Q (.ret (.bool true)) loc as) :
    ExsS X 40 (F0 cd (L32_1 f tt ss p o (Tt : Int) (s : Int))) (lawD.body.drop 33) (Z_1 a0 a1 a2 a3 a4 a5 a6 (.list [.obj 8]) (.tuple [.int (P0 : Int), .int (Q0 : Int)]) a9 a10 a11 a12 a13 a14 a15 a16 a17 a18 a19 a20 a21 a22 a23 a24 a25 a28 (.ints (memL 1024 F)) (.intx (memL 1024 F))) Q := by
  refine El_eeeaaaa (R0 ⟨0, 0, .bool false, .int 593⟩ W0 ⟨trivial, trivial⟩) fun k c' e' hk hr W' f' E => ?_
  have fin := memL_congr (fin2 hf E W'.m h3 h4)
  rw [body33]
  refine exs_app ((specX O 60).exs 40 (F0 cd _) _ _ _ ?_)
  refine Eq.mpr (r1_33 cd _ _ _ _ _ _ _ _ _ _ _ _ _ _ _ _ _ _ _ _ _ _ _ _ _ _ _ f tt ss p o P0 Q0 (Tt : Int) (s : Int) _) ?_
  have l0 : (memL 1024 F).length = 1024 := memL_len _ _
  refine ⟨by decide, by decide, idx_ok f rfl (lt240 hf 0) l0, by decide, by decide, by decide, by decide, .inl (bits256 _ hP), by decide, idx_ok (f + 1) rfl (lt240 hf 1) (len7 l0), idx_ok (f + 2) rfl (lt240 hf 2) (len7 (len7 l0)), idx_ok (f + 3) rfl (lt240 hf 3) (len7 (len7 (len7 l0))), ?_⟩
  rw [set_F (k := (f : Int)) (v := (P0 : Int)) f P0 rfl rfl (lt240 hf 0), set_F (k := (f : Int) + 1) (v := Int.fmod ((P0 : Int) * (Q0 : Int)) 256) (f + 1) (P0 * Q0 % 256) rfl (mod_c (by rw [Int.natCast_mul])) (lt240 hf 1), set_F (k := (f : Int) + 2) (v := (0 : Int)) (f + 2) 0 rfl rfl (lt240 hf 2), set_F (k := (f : Int) + 2 + 1) (v := (0 : Int)) (f + 3) 0 rfl rfl (lt240 hf 3)]
  refine exs_app ((specX O 60).exs 40 (F0 cd _) _ _ _ ?_)
  refine Eq.mpr (r1_37 cd _ _ _ _ _ _ _ _ _ _ _ _ _ _ _ _ _ _ _ _ _ _ _ _ _ _ _ f tt ss p o P0 Q0 (Tt : Int) (s : Int) _) ?_
  have l1 : (memL 1024 (up (up (up (up F f P0) (f + 1) (P0 * Q0 % 256)) (f + 2) 0) (f + 3) 0)).length = 1024 := memL_len _ _
  refine ⟨.inl (bits256 _ hs), by decide, idx_ok (f + 4) rfl (lt240 hf 4) l1, .inl (bits256 _ hs), ⟨by decide, rfl⟩, idx_ok (f + 5) rfl (lt240 hf 5) (len7 l1), idx_ok (f + 6) rfl (lt240 hf 6) (len7 (len7 l1)), ⟨by decide, rfl⟩, .inl (by decide), by decide, idx_ok (f + 7) rfl (lt240 hf 7) (len7 (len7 (len7 l1))), ⟨by decide, rfl⟩, .inl (by decide), ⟨by decide, rfl⟩, idx_ok (f + 8) rfl (lt240 hf 8) (len7 (len7 (len7 (len7 l1)))),
    by decide, idx_ok 510 rfl (by decide) (len7 (len7 (len7 (len7 (len7 l1))))), ⟨by decide, rfl⟩, idx_ok 511 rfl (by decide) (len7 (len7 (len7 (len7 (len7 (len7 l1)))))), ?_⟩
  have hd := sub_c h3
  rw [set_F (k := (f : Int) + 4) (v := Int.fmod ((Tt : Int) - (s : Int) * (s : Int)) 256) (f + 4) ((Tt - s * s) % 256) rfl (mod_c hd) (lt240 hf 4), set_F (k := (f : Int) + 4 + 1) (v := Int.fdiv ((Tt : Int) - (s : Int) * (s : Int)) 256) (f + 5) ((Tt - s * s) / 256) rfl (div_c hd) (lt240 hf 5), set_F (k := (f : Int) + 6) (v := (s : Int)) (f + 6) s rfl rfl (lt240 hf 6),
    set_F (k := (f : Int) + 7) (v := Int.fmod (4 * Int.fdiv (s : Int) 2 + 1) 256) (f + 7) ((4 * (s / 2) + 1) % 256) rfl (mod_c (half_c s)) (lt240 hf 7), set_F (k := (f : Int) + 7 + 1) (v := Int.fdiv (4 * Int.fdiv (s : Int) 2 + 1) 256) (f + 8) ((4 * (s / 2) + 1) / 256) rfl (div_c (half_c s)) (lt240 hf 8)]
  rw [show (memL 1024 (up (up (up (up (up (up (up (up (up F f P0) (f + 1) (P0 * Q0 % 256)) (f + 2) 0) (f + 3) 0) (f + 4) ((Tt - s * s) % 256)) (f + 5) ((Tt - s * s) / 256)) (f + 6) s) (f + 7) ((4 * (s / 2) + 1) % 256)) (f + 8) ((4 * (s / 2) + 1) / 256))).set 510 117 = memL 1024 (up (up (up (up (up (up (up (up (up (up F f P0) (f + 1) (P0 * Q0 % 256)) (f + 2) 0) (f + 3) 0) (f + 4) ((Tt - s * s) % 256)) (f + 5) ((Tt - s * s) / 256)) (f + 6) s) (f + 7) ((4 * (s / 2) + 1) % 256)) (f + 8) ((4 * (s / 2) + 1) / 256)) 510 (629 % 256)) from set_F (k := 510) (v := 117) 510 (629 % 256) rfl rfl (by decide)]
  rw [show (memL 1024 (up (up (up (up (up (up (up (up (up (up F f P0) (f + 1) (P0 * Q0 % 256)) (f + 2) 0) (f + 3) 0) (f + 4) ((Tt - s * s) % 256)) (f + 5) ((Tt - s * s) / 256)) (f + 6) s) (f + 7) ((4 * (s / 2) + 1) % 256)) (f + 8) ((4 * (s / 2) + 1) / 256)) 510 (629 % 256))).set 511 2 = memL 1024 (up (up (up (up (up (up (up (up (up (up (up F f P0) (f + 1) (P0 * Q0 % 256)) (f + 2) 0) (f + 3) 0) (f + 4) ((Tt - s * s) % 256)) (f + 5) ((Tt - s * s) / 256)) (f + 6) s) (f + 7) ((4 * (s / 2) + 1) % 256)) (f + 8) ((4 * (s / 2) + 1) / 256)) 510 (629 % 256)) 511 (629 / 256)) from set_F (k := 511) (v := 2) 511 (629 / 256) rfl rfl (by decide)]
  refine exs_app ((specX O 90).exs 40 (F0 cd _) _ _ _ ?_)
  refine Eq.mpr (s1_44 cd _ _ _ _ _ _ _ _ _ _ _ _ _ _ _ _ _ _ _ _ _ _ _ _ _ _ _ _ _ f tt ss p o (Tt : Int) (s : Int) _) ?_
  refine ⟨by decide, by decide, by decide, by decide, ?_⟩
  rw [show M0 (memL 1024 F) 593 = ms 1024 ⟨0, 0, 0, 255, 593, false, false, false, false, F⟩ ⟨0, 0, .bool false, .int 593⟩ from M0_ms F 593]
  refine exs_cons (st_runG O cd (i := 45) (W := ZM_1 a0 a1 a2 a3 a4 a5 a6 (.list [.obj 8]) (.tuple [.int (P0 : Int), .int (Q0 : Int)]) a9 a10 a11 a12 a13 a14 a15 a16 a17 a18 a19 a20 a21 a22 a23 a24 a25 a28 (memL 1024 (up (up (up (up (up (up (up (up (up (up (up F f P0) (f + 1) (P0 * Q0 % 256)) (f + 2) 0) (f + 3) 0) (f + 4) ((Tt - s * s) % 256)) (f + 5) ((Tt - s * s) / 256)) (f + 6) s) (f + 7) ((4 * (s / 2) + 1) % 256)) (f + 8) ((4 * (s / 2) + 1) / 256)) 510 (629 % 256)) 511 (629 / 256)))) (LS := LS_1 f tt ss p o (Tt : Int) (s : Int)) (LT := LT_1 f tt ss p o (Tt : Int) (s : Int)) (io := 30) (id := 29) (im := 26) (pe := 630) e45 e45n e45a (by decide) (s1_45a cd f tt ss p o (Tt : Int) (s : Int)) (s1_45b cd f tt ss p o (Tt : Int) (s : Int)) (s1_45 cd a0 a1 a2 a3 a4 a5 a6 (.list [.obj 8]) (.tuple [.int (P0 : Int), .int (Q0 : Int)]) a9 a10 a11 a12 a13 a14 a15 a16 a17 a18 a19 a20 a21 a22 a23 a24 a25 a28 _ f tt ss p o (Tt : Int) (s : Int)) (fun _ => rfl) (fun _ => rfl) (fun _ => rfl) (fun _ _ => rfl) (Nat.lt_succ_of_le hk) hr ⟨trivial, trivial⟩ E.hpc rfl fun t => ?_)
  refine exs_cons ((specX O 30).ex 40 (F0 cd (LT_1 f tt ss p o (Tt : Int) (s : Int) t)) _ _ _ ?_)
  refine Eq.mpr (s1_46 cd _ _ _ _ _ _ _ _ _ _ _ _ _ _ _ _ _ _ _ _ _ _ _ _ _ _ _ _ f tt ss p o (Tt : Int) (s : Int) (ms 1024 c' e') t _) ?_
  have e1 : [((ms 1024 c' e').pc : Int), (ms 1024 c' e').x, (ms 1024 c' e').y, (ms 1024 c' e').sp] = [(630 : Int), 0, 0, 255] := by
    show [(c'.pc : Int), (c'.x : Int), (c'.y : Int), (c'.sp : Int)] = _
    rw [E.hpc, E.hx, E.hy, E.hsp]; rfl
  exact ifB_d e1 (retQ fin hQ _ _ rfl)
end
end Mine

end
section
open PySem PySem.W PyProof.Rows
namespace Mine
noncomputable section
noncomputable abbrev LC_1 (f tt ss : Int) : Loc := [(v_script, AV.obj (0 : Nat)), (v_terms, AV.int (1 : Int)), (v_pairs, AV.obj (7 : Nat)), (v_factor, AV.int f), (v_low, AV.int (f + (1 : Int))), (v_whole, AV.int (f + (2 : Int))), (v_left, AV.int (f + (4 : Int))), (v_root, AV.int (f + (6 : Int))), (v_trial, AV.int (f + (7 : Int))), (v_these, AV.int tt), (v_those, AV.int ss), (v_times, AV.obj (9 : Nat)), (v_loop, AV.obj (12 : Nat)), (v_roots, AV.obj (16 : Nat)), (v_code, AV.obj (19 : Nat)), (v_start, AV.int (593 : Int)), (v_term, AV.int (0 : Int)), (v_end, AV.int 630), (v_memory, AV.obj (26 : Nat))]
noncomputable abbrev LP_1 (f tt ss p o : Int) : Loc := LC_1 f tt ss ++ [(v_place, .int p), (v_octet, .int o)]
noncomputable abbrev ZC_1 (a0 a1 a2 a3 a4 a5 a6 a7 a8 a9 a10 a11 a12 a13 a14 a15 a16 a17 a18 a20 a21 a22 a23 a24 a25 : AO) (c : List Int) (mm : AO) : List AO := [a0, a1, a2, a3, a4, a5, a6, a7, a8, a9, a10, a11, a12, a13, a14, a15, a16, a17, a18, .intx c, a20, a21, a22, a23, a24, a25, mm]
theorem s1_27a (cd : Value) (f tt ss p o : Int) (as : List AO) (Q : Loc → List AO → Prop) : storesW (F0 cd (LC_1 f tt ss)) [v_place, v_octet] [.int p, .int o] as Q = Q (LP_1 f tt ss p o) as := by kernel_rfl
theorem s1_27b (cd : Value) (f tt ss p o p' o' : Int) (as : List AO) (Q : Loc → List AO → Prop) : storesW (F0 cd (LP_1 f tt ss p' o')) [v_place, v_octet] [.int p, .int o] as Q = Q (LP_1 f tt ss p o) as := by kernel_rfl
theorem s1_27c (cd : Value) (a0 a1 a2 a3 a4 a5 a6 a7 a8 a9 a10 a11 a12 a13 a14 a15 a16 a17 a18 a20 a21 a22 a23 a24 a25 : AO) (c m : List Int) (f tt ss p o : Int) (Q : PF) : lxs kN 20 40 (F0 cd (LP_1 f tt ss p o)) (forBody 27) (ZC_1 a0 a1 a2 a3 a4 a5 a6 a7 a8 a9 a10 a11 a12 a13 a14 a15 a16 a17 a18 a20 a21 a22 a23 a24 a25 c (.ints m)) Q = ((0 ≤ 512 + p ∧ 512 + p < m.length ∧ 512 + p < 2 ^ 63) ∧ Q .next (LP_1 f tt ss p o) (ZC_1 a0 a1 a2 a3 a4 a5 a6 a7 a8 a9 a10 a11 a12 a13 a14 a15 a16 a17 a18 a20 a21 a22 a23 a24 a25 c (.ints (m.set (512 + p).toNat o)))) := by kernel_rfl
theorem s1_27d (cd : Value) (a0 a1 a2 a3 a4 a5 a6 a7 a8 a9 a10 a11 a12 a13 a14 a15 a16 a17 a18 a20 a21 a22 a23 a24 a25 : AO) (c m : List Int) (f tt ss p o : Int) (Q : PF) : lxs kN 20 40 (F0 cd (LP_1 f tt ss p o)) (forBody 27) (ZC_1 a0 a1 a2 a3 a4 a5 a6 a7 a8 a9 a10 a11 a12 a13 a14 a15 a16 a17 a18 a20 a21 a22 a23 a24 a25 c (.intx m)) Q = ((0 ≤ 512 + p ∧ 512 + p < m.length ∧ 512 + p < 2 ^ 63) ∧ Q .next (LP_1 f tt ss p o) (ZC_1 a0 a1 a2 a3 a4 a5 a6 a7 a8 a9 a10 a11 a12 a13 a14 a15 a16 a17 a18 a20 a21 a22 a23 a24 a25 c (.ints (m.set (512 + p).toNat o)))) := by kernel_rfl
theorem s1_32t (cd : Value) (as : List AO) (f tt ss p o tot told : Int) (Q : PB) : lt kN 20 40 (F0 cd (L32_1 f tt ss p o tot told)) (whT (stL 32)) as Q = ((Builtin.Int.intBits (told + 1) ≤ 64 ∨ Builtin.Int.intBits (told + 1) ≤ 64) ∧ Q (decide ((told + 1) * (told + 1) ≤ tot)) as) := by kernel_rfl
theorem s1_32b (cd : Value) (as : List AO) (f tt ss p o tot told : Int) (Q : PF) : lxs kN 20 40 (F0 cd (L32_1 f tt ss p o tot told)) (whB (stL 32)) as Q = Q .next (L32_1 f tt ss p o tot (told + 1)) as := by kernel_rfl
theorem wh1 {X : Cx} (O : KenOK X kN) (cd : Value) (as : List AO) (f tt ss p o : Int) {Tt : Nat} (hT : Tt < 65536) {Q : PF} (h : ∀ s : Nat, s < 256 → s * s ≤ Tt → Tt < (s + 1) * (s + 1) → Q .next (L32_1 f tt ss p o (Tt : Int) (s : Int)) as) :
    ExS X 40 (F0 cd (L32_1 f tt ss p o (Tt : Int) 0)) (stL 32) as Q := by
  rw [e32]
  refine st_while (N := 256) (fun n loc as' => ∃ u : Nat, loc = L32_1 f tt ss p o (Tt : Int) (u : Int) ∧ as' = as ∧ u * u ≤ Tt ∧ u + n = 256) ⟨0, rfl, rfl, Nat.zero_le _, rfl⟩ ?_
  rintro n loc as' ⟨u, rfl, rfl, hu, hn⟩
  have hu2 : u < 256 := by
    rcases Nat.lt_or_ge u 256 with q | q
    · exact q
    · have := Nat.mul_le_mul q q
      omega
  refine (specL O 20).ts 40 (F0 cd (L32_1 f tt ss p o (Tt : Int) (u : Int))) _ _ _ ?_
  refine Eq.mpr (s1_32t cd _ f tt ss p o (Tt : Int) (u : Int) _) ?_
  refine ⟨.inl (by rw [show (u : Int) + 1 = ((u + 1 : Nat) : Int) from rfl]; exact bits512 _ (by lia)), ?_⟩
  have ec : ((u : Int) + 1) * ((u : Int) + 1) = (((u + 1) * (u + 1) : Nat) : Int) := by rw [Int.natCast_mul]; rfl
  by_cases q : (u + 1) * (u + 1) ≤ Tt
  · rw [decide_eq_true (show ((u : Int) + 1) * ((u : Int) + 1) ≤ (Tt : Int) by rw [ec]; exact Int.ofNat_le.mpr q)]
    refine ifB_t ((specX O 20).exs 40 (F0 cd (L32_1 f tt ss p o (Tt : Int) (u : Int))) _ _ _ ?_)
    refine Eq.mpr (s1_32b cd _ f tt ss p o (Tt : Int) (u : Int) _) ?_
    exact ⟨n - 1, by omega, u + 1, rfl, rfl, q, by lia⟩
  · rw [decide_eq_false (show ¬ ((u : Int) + 1) * ((u : Int) + 1) ≤ (Tt : Int) by rw [ec]; exact fun z => q (Int.ofNat_le.mp z))]
    exact ifB_f (h u hu2 hu (Nat.lt_of_not_le q))
theorem mid1 {X : Cx} (O : KenOK X kN) (cd : Value) (a0 a1 a2 a3 a4 a5 a6 a9 a10 a11 a12 a13 a14 a15 a16 a17 a18 a20 a21 a22 a23 a24 a25 : AO) {f t u P0 Q0 : Nat} (hf0 : 16 ≤ f) (hf : f < 216) (ht : 768 ≤ t ∧ t < 868) (hu : 896 ≤ u ∧ u < 996) (hP0 : P0 < 256) (hQ0 : Q0 < 256) (hT : P0 * Q0 < 65536) (Q : PF) (hQ : ∀ loc as, as[0]? = some a0 → Q (.ret (.bool true)) loc as) :
    ExsS X 40 (F0 cd (LC_1 (f : Int) (t : Int) (u : Int))) (stL 27 :: (stG 28 29 ++ (stG 29 32 ++ (stL 32 :: lawD.body.drop 33)))) (ZC_1 a0 a1 a2 a3 a4 a5 a6 (.list [.obj 8]) (.tuple [.int (P0 : Int), .int (Q0 : Int)]) a9 a10 a11 a12 a13 a14 a15 a16 a17 a18 a20 a21 a22 a23 a24 a25 ((C02 false f (t % 256) (t / 256) (u % 256) (u / 256)).map fun (b : Nat) => (b : Int)) (.intx (repL [170] 1024))) Q := by
  have hl : ((C02 false f (t % 256) (t / 256) (u % 256) (u / 256)).map fun (b : Nat) => (b : Int)).length = 118 := by rw [List.length_map]; rfl
  refine exs_cons (st_layG O cd (i := 27) (LD := LC_1 (f : Int) (t : Int) (u : Int)) (LP := LP_1 (f : Int) (t : Int) (u : Int)) (W := ZC_1 a0 a1 a2 a3 a4 a5 a6 (.list [.obj 8]) (.tuple [.int (P0 : Int), .int (Q0 : Int)]) a9 a10 a11 a12 a13 a14 a15 a16 a17 a18 a20 a21 a22 a23 a24 a25 ((C02 false f (t % 256) (t / 256) (u % 256) (u / 256)).map fun (b : Nat) => (b : Int))) (ic := 19) e27 e27n e27k e27g (s1_27a cd _ _ _) (s1_27b cd _ _ _) (by kernel_rfl) (fun _ => rfl) (fun m p o Q => s1_27c cd _ _ _ _ _ _ _ _ _ _ _ _ _ _ _ _ _ _ _ _ _ _ _ _ _ _ m _ _ _ p o Q) (fun m p o Q => s1_27d cd _ _ _ _ _ _ _ _ _ _ _ _ _ _ _ _ _ _ _ _ _ _ _ _ _ _ m _ _ _ p o Q) (by rw [hl]; decide) (by rw [hl]; decide) ?_)
  rw [hl, memE_F (C02 false f (t % 256) (t / 256) (u % 256) (u / 256)) 118 (Nat.le_refl _) (by show (118 : Nat) ≤ 512; decide)]
  have l0 : (memL 1024 (cF (C02 false f (t % 256) (t / 256) (u % 256) (u / 256)) 118)).length = 1024 := memL_len _ _
  refine exs_app ((specX O 60).exs 40 (F0 cd _) _ _ _ ?_)
  refine Eq.mpr (r1_28 cd _ _ _ _ _ _ _ _ _ _ _ _ _ _ _ _ _ _ _ _ _ _ _ _ _ (f : Int) (t : Int) (u : Int) _ _ (P0 : Int) (Q0 : Int) _) ?_
  refine ⟨rfl, ⟨by decide, by decide⟩, idx_ok (t + 0) rfl (by lia) l0, ⟨by decide, by decide⟩, idx_ok (u + 0) rfl (by lia) (len7 l0), rfl, ?_⟩
  rw [set_F (k := (t : Int) + 0) (v := (P0 : Int)) (t + 0) P0 rfl rfl (by lia), set_F (k := (u : Int) + 0) (v := (Q0 : Int)) (u + 0) Q0 rfl rfl (by lia)]
  have l1 : (memL 1024 (up (up (cF (C02 false f (t % 256) (t / 256) (u % 256) (u / 256)) 118) (t + 0) P0) (u + 0) Q0)).length = 1024 := memL_len _ _
  refine exs_app ((specX O 60).exs 40 (F0 cd _) _ _ _ ?_)
  refine Eq.mpr (r1_29 cd _ _ _ _ _ _ _ _ _ _ _ _ _ _ _ _ _ _ _ _ _ _ _ _ _ (f : Int) (t : Int) (u : Int) _ _ (P0 : Int) (Q0 : Int) _) ?_
  refine ⟨by rw [l1]; decide, rfl, rfl, .inl (bits256 _ hP0), rfl, ?_⟩
  have etot : List.sum [(P0 : Int) * (Q0 : Int)] = ((P0 * Q0 : Nat) : Int) := by simp
  rw [etot]
  have et : t % 256 + 256 * (t / 256) = t := Nat.mod_add_div t 256
  have eu : u % 256 + 256 * (u / 256) = u := Nat.mod_add_div u 256
  have hm : ∀ i, (up (up (cF (C02 false f (t % 256) (t / 256) (u % 256) (u / 256)) 118) (t + 0) P0) (u + 0) Q0) i < 256 := bound_up (bound_up (cF_lt rfl (by
    have b0 : f < 256 := by lia
    have b1 : f + 1 < 256 := by lia
    have b2 : f + 2 < 256 := by lia
    have b3 : f + 3 < 256 := by lia
    have b4 : f + 4 < 256 := by lia
    have b5 : f + 5 < 256 := by lia
    have b6 : f + 6 < 256 := by lia
    have b7 : f + 7 < 256 := by lia
    have b8 : f + 8 < 256 := by lia
    have c0 : t % 256 < 256 := Nat.mod_lt _ (by decide)
    have c1 : t / 256 < 256 := by lia
    have c2 : u % 256 < 256 := Nat.mod_lt _ (by decide)
    have c3 : u / 256 < 256 := by lia
    unfold C02 c02_1
    dsimp only [cond]
    repeat first
      | exact fun x hx => absurd hx List.not_mem_nil
      | refine List.forall_mem_cons.mpr ⟨by first | assumption | decide, ?_⟩)) hP0) hQ0
  have W0 : WF (C02 false f (t % 256) (t / 256) (u % 256) (u / 256)) 1024 ⟨0, 0, 0, 255, 593, false, false, false, false, (up (up (cF (C02 false f (t % 256) (t / 256) (u % 256) (u / 256)) 118) (t + 0) P0) (u + 0) Q0)⟩ := by
    refine ⟨show (0 : Nat) < 256 by decide, show (0 : Nat) < 256 by decide, show (0 : Nat) < 256 by decide, show (255 : Nat) < 256 by decide, hm, fun i b hib => ?_, by show 512 + 118 ≤ 1024; decide, by decide, by show (593 : Nat) ≤ 60000; decide⟩
    have hi : i < 118 := (List.getElem?_eq_some_iff.mp hib).1
    show (up (up (cF (C02 false f (t % 256) (t / 256) (u % 256) (u / 256)) 118) (t + 0) P0) (u + 0) Q0) (512 + i) = b
    rw [up_ne (by lia), up_ne (by lia)]
    exact cF_at rfl hib
  have R0 : W2 false f (t % 256) (t / 256) (u % 256) (u / 256) 499 ⟨0, 0, 0, 255, 593, false, false, false, false, (up (up (cF (C02 false f (t % 256) (t / 256) (u % 256) (u / 256)) 118) (t + 0) P0) (u + 0) Q0)⟩ (End2 false f P0 Q0 (P0 * Q0) (up (up (cF (C02 false f (t % 256) (t / 256) (u % 256) (u / 256)) 118) (t + 0) P0) (u + 0) Q0)) := by
    refine start2_1 (by lia) (by rw [et]; lia) (by rw [eu]; lia) ?_ ?_ hT
    · rw [et, up_ne (by lia), up_eq rfl]
    · rw [eu, up_eq rfl]
  refine exs_cons (wh1 O cd _ _ _ _ _ _ hT fun s hs h3 h4 => ?_)
  exact tail1 O cd _ _ _ _ _ _ _ _ _ _ _ _ _ _ _ _ _ _ _ _ _ _ _ _ _ _ _ _ _ (by lia) hP0 hs h3 h4 W0 R0 Q hQ
end
end Mine

end
section
open PySem PySem.W PyProof.Rows
namespace Mine
noncomputable section
theorem midc1 {X : Cx} (O : KenOK X kN) (cd : Value) (a0 a1 a2 a3 a4 a5 a6 a9 a10 a11 a12 a13 a14 a15 a16 a17 a18 a20 a21 a22 a23 a24 a25 : AO) {f t u P0 Q0 : Nat} {c : List Int} (hf0 : 16 ≤ f) (hf : f < 216) (ht : 768 ≤ t ∧ t < 868) (hu : 896 ≤ u ∧ u < 996) (hP0 : P0 < 256) (hQ0 : Q0 < 256) (hT : P0 * Q0 < 65536) (Q : PF) (hQ : ∀ loc as, as[0]? = some a0 → Q (.ret (.bool true)) loc as)
    (hc : c = (C02 false f (t % 256) (t / 256) (u % 256) (u / 256)).map fun (b : Nat) => (b : Int)) : ExsS X 40 (F0 cd (LC_1 (f : Int) (t : Int) (u : Int))) (stL 27 :: (stG 28 29 ++ (stG 29 32 ++ (stL 32 :: lawD.body.drop 33)))) (ZC_1 a0 a1 a2 a3 a4 a5 a6 (.list [.obj 8]) (.tuple [.int (P0 : Int), .int (Q0 : Int)]) a9 a10 a11 a12 a13 a14 a15 a16 a17 a18 a20 a21 a22 a23 a24 a25 c (.intx (repL [170] 1024))) Q := by
  subst hc
  exact mid1 O cd a0 a1 a2 a3 a4 a5 a6 a9 a10 a11 a12 a13 a14 a15 a16 a17 a18 a20 a21 a22 a23 a24 a25 hf0 hf ht hu hP0 hQ0 hT Q hQ
theorem head1 {X : Cx} (O : KenOK X kN) (cd : Value) (a0 a3 a4 a5 : AO) {d0 d1 d2 d3 d4 d5 : Int} {f t u P0 Q0 : Nat} (ef : 16 + d1.fmod 200 = (f : Int)) (et : 768 + (3 * d1).fmod 100 = (t : Int)) (eu : 896 + (7 * d1).fmod 100 = (u : Int)) (eP0 : d2.fmod 256 = (P0 : Int)) (eQ0 : d3.fmod 256 = (Q0 : Int)) (hP0 : P0 < 256) (hQ0 : Q0 < 256) (hf0 : 16 ≤ f) (hf : f < 216) (ht : 768 ≤ t ∧ t < 868) (hu : 896 ≤ u ∧ u < 996) (hT : P0 * Q0 < 65536) (Q : PF) (hQ : ∀ loc as, as[0]? = some a0 → Q (.ret (.bool true)) loc as) :
    ExsS X 40 (F0 cd (lsc ++ [(v_terms, .int 1)])) (stG 2 4 ++ lawD.body.drop 4) [a0, .cell none, .cell (some (.obj 6)), a3, a4, a5, .intx [d0, d1, d2, d3, d4, d5]] Q := by
  refine exs_app ((specX O 40).exs 40 (F0 cd _) _ _ _ ?_)
  refine Eq.mpr (r1_2 cd _ _ _ _ d0 d1 d2 d3 d4 d5 _) ?_
  refine ⟨⟨⟨⟨by decide, by decide⟩, by decide, by decide⟩, by decide⟩, .inl (by decide), by decide, by decide, .inl (by decide), by decide, by decide, ?_⟩
  rw [eP0, eQ0]
  rw [body4]
  refine exs_app ((specX O 40).exs 40 (F0 cd _) _ _ _ ?_)
  refine Eq.mpr (r1_4 cd _ _ _ _ _ _ _ d0 d1 d2 d3 d4 d5 _) ?_
  refine ⟨by decide, by decide, by decide, .inl (by decide), by decide, by decide, .inl (by decide), by decide, ?_⟩
  rw [ef, et, eu]
  refine exs_app ((specX O 60).exs 40 (F0 cd _) _ _ _ ?_)
  refine Eq.mpr (r1_12 cd _ _ _ _ _ _ _ _ _ (f : Int) (t : Int) (u : Int) _) ?_
  refine ⟨by decide, by decide, by decide, ?_⟩
  refine exs_app ((specX O 60).exs 40 (F0 cd _) _ _ _ ?_)
  refine Eq.mpr (r1_16 cd _ _ _ _ _ _ _ _ _ _ _ _ (f : Int) (t : Int) (u : Int) _) ?_
  refine ⟨by decide, by decide, ?_⟩
  refine exs_app ((specX O 60).exs 40 (F0 cd _) _ _ _ ?_)
  refine Eq.mpr (r1_19 cd _ _ _ _ _ _ _ _ _ _ _ _ _ _ (f : Int) (t : Int) (u : Int) _) ?_
  refine ⟨by decide, by decide, by decide, ?_⟩
  refine exs_app ((specX O 60).exs 40 (F0 cd _) _ _ _ ?_)
  refine Eq.mpr (r1_20 cd _ _ _ _ _ _ _ _ _ _ _ _ _ _ _ _ (f : Int) (t : Int) (u : Int) _) ?_
  refine ⟨by decide, by decide, by decide, ?_⟩
  refine exs_app ((specX O 60).exs 40 (F0 cd _) _ _ _ ?_)
  refine Eq.mpr (r1_23 cd _ _ _ _ _ _ _ _ _ _ _ _ _ _ _ _ _ (f : Int) (t : Int) (u : Int) _) ?_
  refine ⟨⟨⟨by decide, by decide⟩, by decide, by decide⟩, by decide, ⟨by decide, rfl⟩, by decide, by decide, ⟨by decide, rfl⟩, by decide, by decide, ?_⟩
  rw [body24]
  refine exs_app ((specX O 60).exs 40 (F0 cd _) _ _ _ ?_)
  refine Eq.mpr (r1_24 cd _ _ _ _ _ _ _ _ _ _ _ _ _ _ _ _ _ _ _ _ (f : Int) (t : Int) (u : Int) _) ?_
  refine ⟨by decide, by decide, by decide, by decide, ?_⟩
  refine midc1 O cd a0 _ _ _ _ _ _ _ _ _ _ _ _ _ _ _ _ _ _ _ _ _ _ hf0 hf ht hu hP0 hQ0 hT Q hQ ?_
  rw [mod_c (rfl : (t : Int) = (t : Int)), div_c (rfl : (t : Int) = (t : Int)), mod_c (rfl : (u : Int) = (u : Int)), div_c (rfl : (u : Int) = (u : Int))]
  kernel_rfl
end
end Mine

end
section
open PySem PySem.W PyProof.Rows
namespace Mine
noncomputable section
theorem r2_2 (cd : Value) (a0 a3 a4 a5 : AO) (d0 d1 d2 d3 d4 d5 : Int) (Q : PF) : lxs kN 40 40 (F0 cd ([(v_script, AV.obj 0), (v_terms, AV.int 2)])) (stG 2 4) [a0, AO.cell none, AO.cell (some (AV.obj 6)), a3, a4, a5, AO.intx [d0, d1, d2, d3, d4, d5]] Q =
   (((Small (0 : Int) ∧ Small (2 : Int)) ∧ (2 : Int) ≤ (100000 : Int)) ∧ ((2 : Nat) ≤ (64 : Nat) ∨ (0 : Nat) ≤ (64 : Nat)) ∧ ((0 : Int) ≤ (2 : Int) ∧ (2 : Int) < (6 : Int) ∧ (2 : Int) < (9223372036854775808 : Int)) ∧ (182 : Int) ≠ (0 : Int) ∧ ((2 : Nat) ≤ (64 : Nat) ∨ (0 : Nat) ≤ (64 : Nat)) ∧ ((0 : Int) ≤ (3 : Int) ∧ (3 : Int) < (6 : Int) ∧ (3 : Int) < (9223372036854775808 : Int)) ∧ (182 : Int) ≠ (0 : Int) ∧ ((2 : Nat) ≤ (64 : Nat) ∨ (1 : Nat) ≤ (64 : Nat)) ∧ ((0 : Int) ≤ (4 : Int) ∧ (4 : Int) < (6 : Int) ∧ (4 : Int) < (9223372036854775808 : Int)) ∧ (182 : Int) ≠ (0 : Int) ∧ ((2 : Nat) ≤ (64 : Nat) ∨ (1 : Nat) ≤ (64 : Nat)) ∧ ((0 : Int) ≤ (5 : Int) ∧ (5 : Int) < (6 : Int) ∧ (5 : Int) < (9223372036854775808 : Int)) ∧ (182 : Int) ≠ (0 : Int) ∧ Q AF.next [(v_script, AV.obj (0 : Nat)), (v_terms, AV.int (2 : Int)), (v_pairs, AV.obj (7 : Nat))] [a0, AO.cell (some (AV.int (182 : Int))), AO.cell (some (AV.obj (6 : Nat))), a3, a4, a5, AO.intx [d0, d1, d2, d3, d4, d5], AO.list [AV.obj (8 : Nat), AV.obj (9 : Nat)], AO.tuple [AV.int (Int.fmod d2 (182 : Int)), AV.int (Int.fmod d3 (182 : Int))], AO.tuple [AV.int (Int.fmod d4 (182 : Int)), AV.int (Int.fmod d5 (182 : Int))]]) := by kernel_rfl
theorem r2_4 (cd : Value) (a0 a1 a3 a4 a5 a7 a8 a9 : AO) (d0 d1 d2 d3 d4 d5 : Int) (Q : PF) : lxs kN 40 40 (F0 cd ([(v_script, AV.obj (0 : Nat)), (v_terms, AV.int (2 : Int)), (v_pairs, AV.obj (7 : Nat))])) (stG 4 12) [a0, a1, AO.cell (some (AV.obj 6)), a3, a4, a5, AO.intx [d0, d1, d2, d3, d4, d5], a7, a8, a9] Q =
   (((0 : Int) ≤ (1 : Int) ∧ (1 : Int) < (6 : Int) ∧ (1 : Int) < (9223372036854775808 : Int)) ∧ (200 : Int) ≠ (0 : Int) ∧ ((0 : Int) ≤ (1 : Int) ∧ (1 : Int) < (6 : Int) ∧ (1 : Int) < (9223372036854775808 : Int)) ∧ ((2 : Nat) ≤ (64 : Nat) ∨ Builtin.Int.intBits d1 ≤ (64 : Nat)) ∧ (100 : Int) ≠ (0 : Int) ∧ ((0 : Int) ≤ (1 : Int) ∧ (1 : Int) < (6 : Int) ∧ (1 : Int) < (9223372036854775808 : Int)) ∧ ((3 : Nat) ≤ (64 : Nat) ∨ Builtin.Int.intBits d1 ≤ (64 : Nat)) ∧ (100 : Int) ≠ (0 : Int) ∧ Q AF.next [(v_script, AV.obj (0 : Nat)), (v_terms, AV.int (2 : Int)), (v_pairs, AV.obj (7 : Nat)), (v_factor, AV.int ((16 : Int) + Int.fmod d1 (200 : Int))), (v_low, AV.int ((16 : Int) + Int.fmod d1 (200 : Int) + (1 : Int))), (v_whole, AV.int ((16 : Int) + Int.fmod d1 (200 : Int) + (2 : Int))), (v_left, AV.int ((16 : Int) + Int.fmod d1 (200 : Int) + (4 : Int))), (v_root, AV.int ((16 : Int) + Int.fmod d1 (200 : Int) + (6 : Int))), (v_trial, AV.int ((16 : Int) + Int.fmod d1 (200 : Int) + (7 : Int))), (v_these, AV.int ((768 : Int) + Int.fmod ((3 : Int) * d1) (100 : Int))), (v_those, AV.int ((896 : Int) + Int.fmod ((7 : Int) * d1) (100 : Int)))] [a0, a1, AO.cell (some (AV.obj (6 : Nat))), a3, a4, a5, AO.intx [d0, d1, d2, d3, d4, d5], a7, a8, a9]) := by kernel_rfl
theorem r2_12 (cd : Value) (a0 a1 a2 a3 a4 a5 a6 a7 a8 a9 : AO) (f tt ss : Int) (Q : PF) : lxs kN 60 40 (F0 cd ([(v_script, AV.obj (0 : Nat)), (v_terms, AV.int (2 : Int)), (v_pairs, AV.obj (7 : Nat)), (v_factor, AV.int f), (v_low, AV.int (f + 1)), (v_whole, AV.int (f + 2)), (v_left, AV.int (f + 4)), (v_root, AV.int (f + 6)), (v_trial, AV.int (f + 7)), (v_these, AV.int tt), (v_those, AV.int ss)])) (stG 12 16) [a0, a1, a2, a3, a4, a5, a6, a7, a8, a9] Q =
   ((6 : Nat) + (12 : Nat) ≤ (100000 : Nat) ∧ ((0 : Nat) < (8 : Nat) ∧ (0 : Int) ≤ (2 : Int) ∧ (2 : Int) < (4611686018427387904 : Int) ∧ (8 : Nat) * (2 : Nat) ≤ (100000 : Nat)) ∧ (16 : Nat) + (13 : Nat) ≤ (100000 : Nat) ∧ Q AF.next [(v_script, AV.obj (0 : Nat)), (v_terms, AV.int (2 : Int)), (v_pairs, AV.obj (7 : Nat)), (v_factor, AV.int f), (v_low, AV.int (f + (1 : Int))), (v_whole, AV.int (f + (2 : Int))), (v_left, AV.int (f + (4 : Int))), (v_root, AV.int (f + (6 : Int))), (v_trial, AV.int (f + (7 : Int))), (v_these, AV.int tt), (v_those, AV.int ss), (v_times, AV.obj (10 : Nat)), (v_loop, AV.obj (13 : Nat))] [a0, a1, a2, a3, a4, a5, a6, a7, a8, a9, AO.intx [169, 0, 162, 8, 70, f + 1, 144, 3, 24, 101, f, 106, 102, f + 1, 202, 208, 245, 96], AO.intx [144, 3, 24, 101, f, 106, 102, f + 1, 202, 208, 245, 96], AO.intx [6, f + 2, 38, f + 2 + 1, 38, f + 4, 38, f + 4 + 1], AO.intx (repL [(6 : Int), f + (2 : Int), (38 : Int), f + (2 : Int) + (1 : Int), (38 : Int), f + (4 : Int), (38 : Int), f + (4 : Int) + (1 : Int)] (2 : Nat) ++ [(6 : Int), f + (6 : Int), (165 : Int), f + (6 : Int), (56 : Int), (42 : Int), (133 : Int), f + (7 : Int), (169 : Int), (0 : Int), (42 : Int), (133 : Int), f + (7 : Int) + (1 : Int)]), AO.intx [6, f + 6, 165, f + 6, 56, 42, 133, f + 7, 169, 0, 42, 133, f + 7 + 1]]) := by kernel_rfl
theorem r2_16 (cd : Value) (a0 a1 a2 a3 a4 a5 a6 a7 a8 a9 a11 a12 a14 : AO) (f tt ss : Int) (Q : PF) : lxs kN 60 40 (F0 cd ([(v_script, AV.obj (0 : Nat)), (v_terms, AV.int (2 : Int)), (v_pairs, AV.obj (7 : Nat)), (v_factor, AV.int f), (v_low, AV.int (f + (1 : Int))), (v_whole, AV.int (f + (2 : Int))), (v_left, AV.int (f + (4 : Int))), (v_root, AV.int (f + (6 : Int))), (v_trial, AV.int (f + (7 : Int))), (v_these, AV.int tt), (v_those, AV.int ss), (v_times, AV.obj (10 : Nat)), (v_loop, AV.obj (13 : Nat))])) (stG 16 19) [a0, a1, a2, a3, a4, a5, a6, a7, a8, a9, AO.intx [169, 0, 162, 8, 70, f + 1, 144, 3, 24, 101, f, 106, 102, f + 1, 202, 208, 245, 96], a11, a12, AO.intx (repL [(6 : Int), f + (2 : Int), (38 : Int), f + (2 : Int) + (1 : Int), (38 : Int), f + (4 : Int), (38 : Int), f + (4 : Int) + (1 : Int)] (2 : Nat) ++ [(6 : Int), f + (6 : Int), (165 : Int), f + (6 : Int), (56 : Int), (42 : Int), (133 : Int), f + (7 : Int), (169 : Int), (0 : Int), (42 : Int), (133 : Int), f + (7 : Int) + (1 : Int)]), a14] Q =
   ((29 : Nat) + (10 : Nat) ≤ (100000 : Nat) ∧ (39 : Nat) + (11 : Nat) ≤ (100000 : Nat) ∧ Q AF.next [(v_script, AV.obj (0 : Nat)), (v_terms, AV.int (2 : Int)), (v_pairs, AV.obj (7 : Nat)), (v_factor, AV.int f), (v_low, AV.int (f + (1 : Int))), (v_whole, AV.int (f + (2 : Int))), (v_left, AV.int (f + (4 : Int))), (v_root, AV.int (f + (6 : Int))), (v_trial, AV.int (f + (7 : Int))), (v_these, AV.int tt), (v_those, AV.int ss), (v_times, AV.obj (10 : Nat)), (v_loop, AV.obj (13 : Nat)), (v_roots, AV.obj (17 : Nat))] [a0, a1, a2, a3, a4, a5, a6, a7, a8, a9, AO.intx [169, 0, 162, 8, 70, f + 1, 144, 3, 24, 101, f, 106, 102, f + 1, 202, 208, 245, 96], a11, a12, AO.intx (repL [(6 : Int), f + (2 : Int), (38 : Int), f + (2 : Int) + (1 : Int), (38 : Int), f + (4 : Int), (38 : Int), f + (4 : Int) + (1 : Int)] (2 : Nat) ++ [(6 : Int), f + (6 : Int), (165 : Int), f + (6 : Int), (56 : Int), (42 : Int), (133 : Int), f + (7 : Int), (169 : Int), (0 : Int), (42 : Int), (133 : Int), f + (7 : Int) + (1 : Int)] ++ [(165 : Int), f + (4 : Int), (197 : Int), f + (7 : Int), (165 : Int), f + (4 : Int) + (1 : Int), (229 : Int), f + (7 : Int) + (1 : Int), (144 : Int), (10 : Int)] ++ [(133 : Int), f + (4 : Int) + (1 : Int), (165 : Int), f + (4 : Int), (229 : Int), f + (7 : Int), (133 : Int), f + (4 : Int), (230 : Int), f + (6 : Int), (136 : Int)]), a14, AO.intx [165, f + 4, 197, f + 7, 165, f + 4 + 1, 229, f + 7 + 1, 144, 10], AO.intx [133, f + 4 + 1, 165, f + 4, 229, f + 7, 133, f + 4, 230, f + 6, 136], AO.intx [169, 0, 133, f + 4, 133, f + 4 + 1, 133, f + 6, 160, 8]]) := by kernel_rfl
theorem r2_19 (cd : Value) (a0 a1 a2 a3 a4 a5 a6 a7 a8 a9 a11 a12 a14 a15 a16 : AO) (f tt ss : Int) (Q : PF) : lxs kN 60 40 (F0 cd ([(v_script, AV.obj (0 : Nat)), (v_terms, AV.int (2 : Int)), (v_pairs, AV.obj (7 : Nat)), (v_factor, AV.int f), (v_low, AV.int (f + (1 : Int))), (v_whole, AV.int (f + (2 : Int))), (v_left, AV.int (f + (4 : Int))), (v_root, AV.int (f + (6 : Int))), (v_trial, AV.int (f + (7 : Int))), (v_these, AV.int tt), (v_those, AV.int ss), (v_times, AV.obj (10 : Nat)), (v_loop, AV.obj (13 : Nat)), (v_roots, AV.obj (17 : Nat))])) (stG 19 20) [a0, a1, a2, a3, a4, a5, a6, a7, a8, a9, AO.intx [169, 0, 162, 8, 70, f + 1, 144, 3, 24, 101, f, 106, 102, f + 1, 202, 208, 245, 96], a11, a12, AO.intx (repL [(6 : Int), f + (2 : Int), (38 : Int), f + (2 : Int) + (1 : Int), (38 : Int), f + (4 : Int), (38 : Int), f + (4 : Int) + (1 : Int)] (2 : Nat) ++ [(6 : Int), f + (6 : Int), (165 : Int), f + (6 : Int), (56 : Int), (42 : Int), (133 : Int), f + (7 : Int), (169 : Int), (0 : Int), (42 : Int), (133 : Int), f + (7 : Int) + (1 : Int)] ++ [(165 : Int), f + (4 : Int), (197 : Int), f + (7 : Int), (165 : Int), f + (4 : Int) + (1 : Int), (229 : Int), f + (7 : Int) + (1 : Int), (144 : Int), (10 : Int)] ++ [(133 : Int), f + (4 : Int) + (1 : Int), (165 : Int), f + (4 : Int), (229 : Int), f + (7 : Int), (133 : Int), f + (4 : Int), (230 : Int), f + (6 : Int), (136 : Int)]), a14, a15, a16, AO.intx [169, 0, 133, f + 4, 133, f + 4 + 1, 133, f + 6, 160, 8]] Q =
   ((50 : Nat) ≤ (1000000 : Nat) ∧ (50 : Nat) + (3 : Nat) ≤ (100000 : Nat) ∧ (10 : Nat) + (53 : Nat) ≤ (100000 : Nat) ∧ Q AF.next [(v_script, AV.obj (0 : Nat)), (v_terms, AV.int (2 : Int)), (v_pairs, AV.obj (7 : Nat)), (v_factor, AV.int f), (v_low, AV.int (f + (1 : Int))), (v_whole, AV.int (f + (2 : Int))), (v_left, AV.int (f + (4 : Int))), (v_root, AV.int (f + (6 : Int))), (v_trial, AV.int (f + (7 : Int))), (v_these, AV.int tt), (v_those, AV.int ss), (v_times, AV.obj (10 : Nat)), (v_loop, AV.obj (13 : Nat)), (v_roots, AV.obj (17 : Nat))] [a0, a1, a2, a3, a4, a5, a6, a7, a8, a9, AO.intx [169, 0, 162, 8, 70, f + 1, 144, 3, 24, 101, f, 106, 102, f + 1, 202, 208, 245, 96], a11, a12, AO.intx (repL [(6 : Int), f + (2 : Int), (38 : Int), f + (2 : Int) + (1 : Int), (38 : Int), f + (4 : Int), (38 : Int), f + (4 : Int) + (1 : Int)] (2 : Nat) ++ [(6 : Int), f + (6 : Int), (165 : Int), f + (6 : Int), (56 : Int), (42 : Int), (133 : Int), f + (7 : Int), (169 : Int), (0 : Int), (42 : Int), (133 : Int), f + (7 : Int) + (1 : Int)] ++ [(165 : Int), f + (4 : Int), (197 : Int), f + (7 : Int), (165 : Int), f + (4 : Int) + (1 : Int), (229 : Int), f + (7 : Int) + (1 : Int), (144 : Int), (10 : Int)] ++ [(133 : Int), f + (4 : Int) + (1 : Int), (165 : Int), f + (4 : Int), (229 : Int), f + (7 : Int), (133 : Int), f + (4 : Int), (230 : Int), f + (6 : Int), (136 : Int)]), a14, a15, a16, AO.intx ([(169 : Int), (0 : Int), (133 : Int), f + (4 : Int), (133 : Int), f + (4 : Int) + (1 : Int), (133 : Int), f + (6 : Int), (160 : Int), (8 : Int)] ++ (repL [(6 : Int), f + (2 : Int), (38 : Int), f + (2 : Int) + (1 : Int), (38 : Int), f + (4 : Int), (38 : Int), f + (4 : Int) + (1 : Int)] (2 : Nat) ++ [(6 : Int), f + (6 : Int), (165 : Int), f + (6 : Int), (56 : Int), (42 : Int), (133 : Int), f + (7 : Int), (169 : Int), (0 : Int), (42 : Int), (133 : Int), f + (7 : Int) + (1 : Int)] ++ [(165 : Int), f + (4 : Int), (197 : Int), f + (7 : Int), (165 : Int), f + (4 : Int) + (1 : Int), (229 : Int), f + (7 : Int) + (1 : Int), (144 : Int), (10 : Int)] ++ [(133 : Int), f + (4 : Int) + (1 : Int), (165 : Int), f + (4 : Int), (229 : Int), f + (7 : Int), (133 : Int), f + (4 : Int), (230 : Int), f + (6 : Int), (136 : Int)] ++ [(208 : Int), (254 : Int) - (50 : Int), (96 : Int)])), AO.intx [208, 254 - 50, 96], AO.intx (repL [(6 : Int), f + (2 : Int), (38 : Int), f + (2 : Int) + (1 : Int), (38 : Int), f + (4 : Int), (38 : Int), f + (4 : Int) + (1 : Int)] (2 : Nat) ++ [(6 : Int), f + (6 : Int), (165 : Int), f + (6 : Int), (56 : Int), (42 : Int), (133 : Int), f + (7 : Int), (169 : Int), (0 : Int), (42 : Int), (133 : Int), f + (7 : Int) + (1 : Int)] ++ [(165 : Int), f + (4 : Int), (197 : Int), f + (7 : Int), (165 : Int), f + (4 : Int) + (1 : Int), (229 : Int), f + (7 : Int) + (1 : Int), (144 : Int), (10 : Int)] ++ [(133 : Int), f + (4 : Int) + (1 : Int), (165 : Int), f + (4 : Int), (229 : Int), f + (7 : Int), (133 : Int), f + (4 : Int), (230 : Int), f + (6 : Int), (136 : Int)] ++ [(208 : Int), (254 : Int) - (50 : Int), (96 : Int)])]) := by kernel_rfl
theorem r2_20 (cd : Value) (a0 a1 a2 a3 a4 a5 a6 a7 a8 a9 a11 a12 a14 a15 a16 a18 a19 : AO) (f tt ss : Int) (Q : PF) : lxs kN 60 40 (F0 cd ([(v_script, AV.obj (0 : Nat)), (v_terms, AV.int (2 : Int)), (v_pairs, AV.obj (7 : Nat)), (v_factor, AV.int f), (v_low, AV.int (f + (1 : Int))), (v_whole, AV.int (f + (2 : Int))), (v_left, AV.int (f + (4 : Int))), (v_root, AV.int (f + (6 : Int))), (v_trial, AV.int (f + (7 : Int))), (v_these, AV.int tt), (v_those, AV.int ss), (v_times, AV.obj (10 : Nat)), (v_loop, AV.obj (13 : Nat)), (v_roots, AV.obj (17 : Nat))])) (stG 20 23) [a0, a1, a2, a3, a4, a5, a6, a7, a8, a9, AO.intx [169, 0, 162, 8, 70, f + 1, 144, 3, 24, 101, f, 106, 102, f + 1, 202, 208, 245, 96], a11, a12, AO.intx (repL [(6 : Int), f + (2 : Int), (38 : Int), f + (2 : Int) + (1 : Int), (38 : Int), f + (4 : Int), (38 : Int), f + (4 : Int) + (1 : Int)] (2 : Nat) ++ [(6 : Int), f + (6 : Int), (165 : Int), f + (6 : Int), (56 : Int), (42 : Int), (133 : Int), f + (7 : Int), (169 : Int), (0 : Int), (42 : Int), (133 : Int), f + (7 : Int) + (1 : Int)] ++ [(165 : Int), f + (4 : Int), (197 : Int), f + (7 : Int), (165 : Int), f + (4 : Int) + (1 : Int), (229 : Int), f + (7 : Int) + (1 : Int), (144 : Int), (10 : Int)] ++ [(133 : Int), f + (4 : Int) + (1 : Int), (165 : Int), f + (4 : Int), (229 : Int), f + (7 : Int), (133 : Int), f + (4 : Int), (230 : Int), f + (6 : Int), (136 : Int)]), a14, a15, a16, AO.intx ([(169 : Int), (0 : Int), (133 : Int), f + (4 : Int), (133 : Int), f + (4 : Int) + (1 : Int), (133 : Int), f + (6 : Int), (160 : Int), (8 : Int)] ++ (repL [(6 : Int), f + (2 : Int), (38 : Int), f + (2 : Int) + (1 : Int), (38 : Int), f + (4 : Int), (38 : Int), f + (4 : Int) + (1 : Int)] (2 : Nat) ++ [(6 : Int), f + (6 : Int), (165 : Int), f + (6 : Int), (56 : Int), (42 : Int), (133 : Int), f + (7 : Int), (169 : Int), (0 : Int), (42 : Int), (133 : Int), f + (7 : Int) + (1 : Int)] ++ [(165 : Int), f + (4 : Int), (197 : Int), f + (7 : Int), (165 : Int), f + (4 : Int) + (1 : Int), (229 : Int), f + (7 : Int) + (1 : Int), (144 : Int), (10 : Int)] ++ [(133 : Int), f + (4 : Int) + (1 : Int), (165 : Int), f + (4 : Int), (229 : Int), f + (7 : Int), (133 : Int), f + (4 : Int), (230 : Int), f + (6 : Int), (136 : Int)] ++ [(208 : Int), (254 : Int) - (50 : Int), (96 : Int)])), a18, a19] Q =
   ((18 : Nat) + (63 : Nat) ≤ (100000 : Nat) ∧ (81 : Nat) ≤ (1000000 : Nat) ∧ (81 : Nat) + (6 : Nat) ≤ (100000 : Nat) ∧ Q AF.next [(v_script, AV.obj (0 : Nat)), (v_terms, AV.int (2 : Int)), (v_pairs, AV.obj (7 : Nat)), (v_factor, AV.int f), (v_low, AV.int (f + (1 : Int))), (v_whole, AV.int (f + (2 : Int))), (v_left, AV.int (f + (4 : Int))), (v_root, AV.int (f + (6 : Int))), (v_trial, AV.int (f + (7 : Int))), (v_these, AV.int tt), (v_those, AV.int ss), (v_times, AV.obj (10 : Nat)), (v_loop, AV.obj (13 : Nat)), (v_roots, AV.obj (17 : Nat)), (v_code, AV.obj (20 : Nat)), (v_start, AV.int ((512 : Int) + (81 : Int)))] [a0, a1, a2, a3, a4, a5, a6, a7, a8, a9, AO.intx [169, 0, 162, 8, 70, f + 1, 144, 3, 24, 101, f, 106, 102, f + 1, 202, 208, 245, 96], a11, a12, AO.intx (repL [(6 : Int), f + (2 : Int), (38 : Int), f + (2 : Int) + (1 : Int), (38 : Int), f + (4 : Int), (38 : Int), f + (4 : Int) + (1 : Int)] (2 : Nat) ++ [(6 : Int), f + (6 : Int), (165 : Int), f + (6 : Int), (56 : Int), (42 : Int), (133 : Int), f + (7 : Int), (169 : Int), (0 : Int), (42 : Int), (133 : Int), f + (7 : Int) + (1 : Int)] ++ [(165 : Int), f + (4 : Int), (197 : Int), f + (7 : Int), (165 : Int), f + (4 : Int) + (1 : Int), (229 : Int), f + (7 : Int) + (1 : Int), (144 : Int), (10 : Int)] ++ [(133 : Int), f + (4 : Int) + (1 : Int), (165 : Int), f + (4 : Int), (229 : Int), f + (7 : Int), (133 : Int), f + (4 : Int), (230 : Int), f + (6 : Int), (136 : Int)]), a14, a15, a16, AO.intx ([(169 : Int), (0 : Int), (133 : Int), f + (4 : Int), (133 : Int), f + (4 : Int) + (1 : Int), (133 : Int), f + (6 : Int), (160 : Int), (8 : Int)] ++ (repL [(6 : Int), f + (2 : Int), (38 : Int), f + (2 : Int) + (1 : Int), (38 : Int), f + (4 : Int), (38 : Int), f + (4 : Int) + (1 : Int)] (2 : Nat) ++ [(6 : Int), f + (6 : Int), (165 : Int), f + (6 : Int), (56 : Int), (42 : Int), (133 : Int), f + (7 : Int), (169 : Int), (0 : Int), (42 : Int), (133 : Int), f + (7 : Int) + (1 : Int)] ++ [(165 : Int), f + (4 : Int), (197 : Int), f + (7 : Int), (165 : Int), f + (4 : Int) + (1 : Int), (229 : Int), f + (7 : Int) + (1 : Int), (144 : Int), (10 : Int)] ++ [(133 : Int), f + (4 : Int) + (1 : Int), (165 : Int), f + (4 : Int), (229 : Int), f + (7 : Int), (133 : Int), f + (4 : Int), (230 : Int), f + (6 : Int), (136 : Int)] ++ [(208 : Int), (204 : Int), (96 : Int)])), a18, a19, AO.intx ([(169 : Int), (0 : Int), (162 : Int), (8 : Int), (70 : Int), f + (1 : Int), (144 : Int), (3 : Int), (24 : Int), (101 : Int), f, (106 : Int), (102 : Int), f + (1 : Int), (202 : Int), (208 : Int), (245 : Int), (96 : Int)] ++ ([(169 : Int), (0 : Int), (133 : Int), f + (4 : Int), (133 : Int), f + (4 : Int) + (1 : Int), (133 : Int), f + (6 : Int), (160 : Int), (8 : Int)] ++ (repL [(6 : Int), f + (2 : Int), (38 : Int), f + (2 : Int) + (1 : Int), (38 : Int), f + (4 : Int), (38 : Int), f + (4 : Int) + (1 : Int)] (2 : Nat) ++ [(6 : Int), f + (6 : Int), (165 : Int), f + (6 : Int), (56 : Int), (42 : Int), (133 : Int), f + (7 : Int), (169 : Int), (0 : Int), (42 : Int), (133 : Int), f + (7 : Int) + (1 : Int)] ++ [(165 : Int), f + (4 : Int), (197 : Int), f + (7 : Int), (165 : Int), f + (4 : Int) + (1 : Int), (229 : Int), f + (7 : Int) + (1 : Int), (144 : Int), (10 : Int)] ++ [(133 : Int), f + (4 : Int) + (1 : Int), (165 : Int), f + (4 : Int), (229 : Int), f + (7 : Int), (133 : Int), f + (4 : Int), (230 : Int), f + (6 : Int), (136 : Int)] ++ [(208 : Int), (204 : Int), (96 : Int)])) ++ [(169 : Int), (0 : Int), (133 : Int), f + (2 : Int), (133 : Int), f + (2 : Int) + (1 : Int)]), AO.intx [169, 0, 133, f + 2, 133, f + 2 + 1]]) := by kernel_rfl
theorem r2_23 (cd : Value) (a0 a1 a2 a3 a4 a5 a6 a7 a8 a9 a11 a12 a14 a15 a16 a18 a19 a21 : AO) (f tt ss : Int) (Q : PF) : lxs kN 60 40 (F0 cd ([(v_script, AV.obj (0 : Nat)), (v_terms, AV.int (2 : Int)), (v_pairs, AV.obj (7 : Nat)), (v_factor, AV.int f), (v_low, AV.int (f + (1 : Int))), (v_whole, AV.int (f + (2 : Int))), (v_left, AV.int (f + (4 : Int))), (v_root, AV.int (f + (6 : Int))), (v_trial, AV.int (f + (7 : Int))), (v_these, AV.int tt), (v_those, AV.int ss), (v_times, AV.obj (10 : Nat)), (v_loop, AV.obj (13 : Nat)), (v_roots, AV.obj (17 : Nat)), (v_code, AV.obj (20 : Nat)), (v_start, AV.int ((512 : Int) + (81 : Int)))])) (stG 23 24) [a0, a1, a2, a3, a4, a5, a6, a7, a8, a9, AO.intx [169, 0, 162, 8, 70, f + 1, 144, 3, 24, 101, f, 106, 102, f + 1, 202, 208, 245, 96], a11, a12, AO.intx (repL [(6 : Int), f + (2 : Int), (38 : Int), f + (2 : Int) + (1 : Int), (38 : Int), f + (4 : Int), (38 : Int), f + (4 : Int) + (1 : Int)] (2 : Nat) ++ [(6 : Int), f + (6 : Int), (165 : Int), f + (6 : Int), (56 : Int), (42 : Int), (133 : Int), f + (7 : Int), (169 : Int), (0 : Int), (42 : Int), (133 : Int), f + (7 : Int) + (1 : Int)] ++ [(165 : Int), f + (4 : Int), (197 : Int), f + (7 : Int), (165 : Int), f + (4 : Int) + (1 : Int), (229 : Int), f + (7 : Int) + (1 : Int), (144 : Int), (10 : Int)] ++ [(133 : Int), f + (4 : Int) + (1 : Int), (165 : Int), f + (4 : Int), (229 : Int), f + (7 : Int), (133 : Int), f + (4 : Int), (230 : Int), f + (6 : Int), (136 : Int)]), a14, a15, a16, AO.intx ([(169 : Int), (0 : Int), (133 : Int), f + (4 : Int), (133 : Int), f + (4 : Int) + (1 : Int), (133 : Int), f + (6 : Int), (160 : Int), (8 : Int)] ++ (repL [(6 : Int), f + (2 : Int), (38 : Int), f + (2 : Int) + (1 : Int), (38 : Int), f + (4 : Int), (38 : Int), f + (4 : Int) + (1 : Int)] (2 : Nat) ++ [(6 : Int), f + (6 : Int), (165 : Int), f + (6 : Int), (56 : Int), (42 : Int), (133 : Int), f + (7 : Int), (169 : Int), (0 : Int), (42 : Int), (133 : Int), f + (7 : Int) + (1 : Int)] ++ [(165 : Int), f + (4 : Int), (197 : Int), f + (7 : Int), (165 : Int), f + (4 : Int) + (1 : Int), (229 : Int), f + (7 : Int) + (1 : Int), (144 : Int), (10 : Int)] ++ [(133 : Int), f + (4 : Int) + (1 : Int), (165 : Int), f + (4 : Int), (229 : Int), f + (7 : Int), (133 : Int), f + (4 : Int), (230 : Int), f + (6 : Int), (136 : Int)] ++ [(208 : Int), (204 : Int), (96 : Int)])), a18, a19, AO.intx ([(169 : Int), (0 : Int), (162 : Int), (8 : Int), (70 : Int), f + (1 : Int), (144 : Int), (3 : Int), (24 : Int), (101 : Int), f, (106 : Int), (102 : Int), f + (1 : Int), (202 : Int), (208 : Int), (245 : Int), (96 : Int)] ++ ([(169 : Int), (0 : Int), (133 : Int), f + (4 : Int), (133 : Int), f + (4 : Int) + (1 : Int), (133 : Int), f + (6 : Int), (160 : Int), (8 : Int)] ++ (repL [(6 : Int), f + (2 : Int), (38 : Int), f + (2 : Int) + (1 : Int), (38 : Int), f + (4 : Int), (38 : Int), f + (4 : Int) + (1 : Int)] (2 : Nat) ++ [(6 : Int), f + (6 : Int), (165 : Int), f + (6 : Int), (56 : Int), (42 : Int), (133 : Int), f + (7 : Int), (169 : Int), (0 : Int), (42 : Int), (133 : Int), f + (7 : Int) + (1 : Int)] ++ [(165 : Int), f + (4 : Int), (197 : Int), f + (7 : Int), (165 : Int), f + (4 : Int) + (1 : Int), (229 : Int), f + (7 : Int) + (1 : Int), (144 : Int), (10 : Int)] ++ [(133 : Int), f + (4 : Int) + (1 : Int), (165 : Int), f + (4 : Int), (229 : Int), f + (7 : Int), (133 : Int), f + (4 : Int), (230 : Int), f + (6 : Int), (136 : Int)] ++ [(208 : Int), (204 : Int), (96 : Int)])) ++ [(169 : Int), (0 : Int), (133 : Int), f + (2 : Int), (133 : Int), f + (2 : Int) + (1 : Int)]), a21] Q =
   ((Small (0 : Int) ∧ Small (2 : Int)) ∧ (256 : Int) ≠ (0 : Int) ∧ ((256 : Int) ≠ (0 : Int) ∧ false = false) ∧ (87 : Nat) + (7 : Nat) ≤ (100000 : Nat) ∧ (256 : Int) ≠ (0 : Int) ∧ ((256 : Int) ≠ (0 : Int) ∧ false = false) ∧ (94 : Nat) + (9 : Nat) ≤ (100000 : Nat) ∧ (103 : Nat) + (12 : Nat) ≤ (100000 : Nat) ∧ (256 : Int) ≠ (0 : Int) ∧ ((256 : Int) ≠ (0 : Int) ∧ false = false) ∧ (115 : Nat) + (7 : Nat) ≤ (100000 : Nat) ∧ (256 : Int) ≠ (0 : Int) ∧ ((256 : Int) ≠ (0 : Int) ∧ false = false) ∧ (122 : Nat) + (9 : Nat) ≤ (100000 : Nat) ∧ (131 : Nat) + (12 : Nat) ≤ (100000 : Nat) ∧ Q AF.next [(v_script, AV.obj (0 : Nat)), (v_terms, AV.int (2 : Int)), (v_pairs, AV.obj (7 : Nat)), (v_factor, AV.int f), (v_low, AV.int (f + (1 : Int))), (v_whole, AV.int (f + (2 : Int))), (v_left, AV.int (f + (4 : Int))), (v_root, AV.int (f + (6 : Int))), (v_trial, AV.int (f + (7 : Int))), (v_these, AV.int tt), (v_those, AV.int ss), (v_times, AV.obj (10 : Nat)), (v_loop, AV.obj (13 : Nat)), (v_roots, AV.obj (17 : Nat)), (v_code, AV.obj (20 : Nat)), (v_start, AV.int (593 : Int)), (v_term, AV.int (1 : Int))] [a0, a1, a2, a3, a4, a5, a6, a7, a8, a9, AO.intx [169, 0, 162, 8, 70, f + 1, 144, 3, 24, 101, f, 106, 102, f + 1, 202, 208, 245, 96], a11, a12, AO.intx (repL [(6 : Int), f + (2 : Int), (38 : Int), f + (2 : Int) + (1 : Int), (38 : Int), f + (4 : Int), (38 : Int), f + (4 : Int) + (1 : Int)] (2 : Nat) ++ [(6 : Int), f + (6 : Int), (165 : Int), f + (6 : Int), (56 : Int), (42 : Int), (133 : Int), f + (7 : Int), (169 : Int), (0 : Int), (42 : Int), (133 : Int), f + (7 : Int) + (1 : Int)] ++ [(165 : Int), f + (4 : Int), (197 : Int), f + (7 : Int), (165 : Int), f + (4 : Int) + (1 : Int), (229 : Int), f + (7 : Int) + (1 : Int), (144 : Int), (10 : Int)] ++ [(133 : Int), f + (4 : Int) + (1 : Int), (165 : Int), f + (4 : Int), (229 : Int), f + (7 : Int), (133 : Int), f + (4 : Int), (230 : Int), f + (6 : Int), (136 : Int)]), a14, a15, a16, AO.intx ([(169 : Int), (0 : Int), (133 : Int), f + (4 : Int), (133 : Int), f + (4 : Int) + (1 : Int), (133 : Int), f + (6 : Int), (160 : Int), (8 : Int)] ++ (repL [(6 : Int), f + (2 : Int), (38 : Int), f + (2 : Int) + (1 : Int), (38 : Int), f + (4 : Int), (38 : Int), f + (4 : Int) + (1 : Int)] (2 : Nat) ++ [(6 : Int), f + (6 : Int), (165 : Int), f + (6 : Int), (56 : Int), (42 : Int), (133 : Int), f + (7 : Int), (169 : Int), (0 : Int), (42 : Int), (133 : Int), f + (7 : Int) + (1 : Int)] ++ [(165 : Int), f + (4 : Int), (197 : Int), f + (7 : Int), (165 : Int), f + (4 : Int) + (1 : Int), (229 : Int), f + (7 : Int) + (1 : Int), (144 : Int), (10 : Int)] ++ [(133 : Int), f + (4 : Int) + (1 : Int), (165 : Int), f + (4 : Int), (229 : Int), f + (7 : Int), (133 : Int), f + (4 : Int), (230 : Int), f + (6 : Int), (136 : Int)] ++ [(208 : Int), (204 : Int), (96 : Int)])), a18, a19, AO.intx ([(169 : Int), (0 : Int), (162 : Int), (8 : Int), (70 : Int), f + (1 : Int), (144 : Int), (3 : Int), (24 : Int), (101 : Int), f, (106 : Int), (102 : Int), f + (1 : Int), (202 : Int), (208 : Int), (245 : Int), (96 : Int)] ++ ([(169 : Int), (0 : Int), (133 : Int), f + (4 : Int), (133 : Int), f + (4 : Int) + (1 : Int), (133 : Int), f + (6 : Int), (160 : Int), (8 : Int)] ++ (repL [(6 : Int), f + (2 : Int), (38 : Int), f + (2 : Int) + (1 : Int), (38 : Int), f + (4 : Int), (38 : Int), f + (4 : Int) + (1 : Int)] (2 : Nat) ++ [(6 : Int), f + (6 : Int), (165 : Int), f + (6 : Int), (56 : Int), (42 : Int), (133 : Int), f + (7 : Int), (169 : Int), (0 : Int), (42 : Int), (133 : Int), f + (7 : Int) + (1 : Int)] ++ [(165 : Int), f + (4 : Int), (197 : Int), f + (7 : Int), (165 : Int), f + (4 : Int) + (1 : Int), (229 : Int), f + (7 : Int) + (1 : Int), (144 : Int), (10 : Int)] ++ [(133 : Int), f + (4 : Int) + (1 : Int), (165 : Int), f + (4 : Int), (229 : Int), f + (7 : Int), (133 : Int), f + (4 : Int), (230 : Int), f + (6 : Int), (136 : Int)] ++ [(208 : Int), (204 : Int), (96 : Int)])) ++ [(169 : Int), (0 : Int), (133 : Int), f + (2 : Int), (133 : Int), f + (2 : Int) + (1 : Int)] ++ [(160 : Int), (0 : Int), (185 : Int), Int.fmod tt (256 : Int), Int.fdiv tt (256 : Int), (133 : Int), f] ++ [(185 : Int), Int.fmod ss (256 : Int), Int.fdiv ss (256 : Int), (133 : Int), f + (1 : Int), (32 : Int), (0 : Int), (2 : Int), (72 : Int)] ++ [(24 : Int), (165 : Int), f + (1 : Int), (101 : Int), f + (2 : Int), (133 : Int), f + (2 : Int), (104 : Int), (101 : Int), f + (2 : Int) + (1 : Int), (133 : Int), f + (2 : Int) + (1 : Int)] ++ [(160 : Int), (1 : Int), (185 : Int), Int.fmod tt (256 : Int), Int.fdiv tt (256 : Int), (133 : Int), f] ++ [(185 : Int), Int.fmod ss (256 : Int), Int.fdiv ss (256 : Int), (133 : Int), f + (1 : Int), (32 : Int), (0 : Int), (2 : Int), (72 : Int)] ++ [(24 : Int), (165 : Int), f + (1 : Int), (101 : Int), f + (2 : Int), (133 : Int), f + (2 : Int), (104 : Int), (101 : Int), f + (2 : Int) + (1 : Int), (133 : Int), f + (2 : Int) + (1 : Int)]), a21, AO.intx [160, 0, 185, Int.fmod tt 256, Int.fdiv tt 256, 133, f], AO.intx [185, Int.fmod ss 256, Int.fdiv ss 256, 133, f + 1, 32, 0, 2, 72], AO.intx [24, 165, f + 1, 101, f + 2, 133, f + 2, 104, 101, f + 2 + 1, 133, f + 2 + 1], AO.intx [160, 1, 185, Int.fmod tt 256, Int.fdiv tt 256, 133, f], AO.intx [185, Int.fmod ss 256, Int.fdiv ss 256, 133, f + 1, 32, 0, 2, 72], AO.intx [24, 165, f + 1, 101, f + 2, 133, f + 2, 104, 101, f + 2 + 1, 133, f + 2 + 1]]) := by kernel_rfl
theorem r2_24 (cd : Value) (a0 a1 a2 a3 a4 a5 a6 a7 a8 a9 a11 a12 a14 a15 a16 a18 a19 a21 a22 a23 a24 a25 a26 a27 : AO) (f tt ss : Int) (Q : PF) : lxs kN 60 40 (F0 cd ([(v_script, AV.obj (0 : Nat)), (v_terms, AV.int (2 : Int)), (v_pairs, AV.obj (7 : Nat)), (v_factor, AV.int f), (v_low, AV.int (f + (1 : Int))), (v_whole, AV.int (f + (2 : Int))), (v_left, AV.int (f + (4 : Int))), (v_root, AV.int (f + (6 : Int))), (v_trial, AV.int (f + (7 : Int))), (v_these, AV.int tt), (v_those, AV.int ss), (v_times, AV.obj (10 : Nat)), (v_loop, AV.obj (13 : Nat)), (v_roots, AV.obj (17 : Nat)), (v_code, AV.obj (20 : Nat)), (v_start, AV.int (593 : Int)), (v_term, AV.int (1 : Int))])) (stG 24 27) [a0, a1, a2, a3, a4, a5, a6, a7, a8, a9, AO.intx [169, 0, 162, 8, 70, f + 1, 144, 3, 24, 101, f, 106, 102, f + 1, 202, 208, 245, 96], a11, a12, AO.intx (repL [(6 : Int), f + (2 : Int), (38 : Int), f + (2 : Int) + (1 : Int), (38 : Int), f + (4 : Int), (38 : Int), f + (4 : Int) + (1 : Int)] (2 : Nat) ++ [(6 : Int), f + (6 : Int), (165 : Int), f + (6 : Int), (56 : Int), (42 : Int), (133 : Int), f + (7 : Int), (169 : Int), (0 : Int), (42 : Int), (133 : Int), f + (7 : Int) + (1 : Int)] ++ [(165 : Int), f + (4 : Int), (197 : Int), f + (7 : Int), (165 : Int), f + (4 : Int) + (1 : Int), (229 : Int), f + (7 : Int) + (1 : Int), (144 : Int), (10 : Int)] ++ [(133 : Int), f + (4 : Int) + (1 : Int), (165 : Int), f + (4 : Int), (229 : Int), f + (7 : Int), (133 : Int), f + (4 : Int), (230 : Int), f + (6 : Int), (136 : Int)]), a14, a15, a16, AO.intx ([(169 : Int), (0 : Int), (133 : Int), f + (4 : Int), (133 : Int), f + (4 : Int) + (1 : Int), (133 : Int), f + (6 : Int), (160 : Int), (8 : Int)] ++ (repL [(6 : Int), f + (2 : Int), (38 : Int), f + (2 : Int) + (1 : Int), (38 : Int), f + (4 : Int), (38 : Int), f + (4 : Int) + (1 : Int)] (2 : Nat) ++ [(6 : Int), f + (6 : Int), (165 : Int), f + (6 : Int), (56 : Int), (42 : Int), (133 : Int), f + (7 : Int), (169 : Int), (0 : Int), (42 : Int), (133 : Int), f + (7 : Int) + (1 : Int)] ++ [(165 : Int), f + (4 : Int), (197 : Int), f + (7 : Int), (165 : Int), f + (4 : Int) + (1 : Int), (229 : Int), f + (7 : Int) + (1 : Int), (144 : Int), (10 : Int)] ++ [(133 : Int), f + (4 : Int) + (1 : Int), (165 : Int), f + (4 : Int), (229 : Int), f + (7 : Int), (133 : Int), f + (4 : Int), (230 : Int), f + (6 : Int), (136 : Int)] ++ [(208 : Int), (204 : Int), (96 : Int)])), a18, a19, AO.intx ([(169 : Int), (0 : Int), (162 : Int), (8 : Int), (70 : Int), f + (1 : Int), (144 : Int), (3 : Int), (24 : Int), (101 : Int), f, (106 : Int), (102 : Int), f + (1 : Int), (202 : Int), (208 : Int), (245 : Int), (96 : Int)] ++ ([(169 : Int), (0 : Int), (133 : Int), f + (4 : Int), (133 : Int), f + (4 : Int) + (1 : Int), (133 : Int), f + (6 : Int), (160 : Int), (8 : Int)] ++ (repL [(6 : Int), f + (2 : Int), (38 : Int), f + (2 : Int) + (1 : Int), (38 : Int), f + (4 : Int), (38 : Int), f + (4 : Int) + (1 : Int)] (2 : Nat) ++ [(6 : Int), f + (6 : Int), (165 : Int), f + (6 : Int), (56 : Int), (42 : Int), (133 : Int), f + (7 : Int), (169 : Int), (0 : Int), (42 : Int), (133 : Int), f + (7 : Int) + (1 : Int)] ++ [(165 : Int), f + (4 : Int), (197 : Int), f + (7 : Int), (165 : Int), f + (4 : Int) + (1 : Int), (229 : Int), f + (7 : Int) + (1 : Int), (144 : Int), (10 : Int)] ++ [(133 : Int), f + (4 : Int) + (1 : Int), (165 : Int), f + (4 : Int), (229 : Int), f + (7 : Int), (133 : Int), f + (4 : Int), (230 : Int), f + (6 : Int), (136 : Int)] ++ [(208 : Int), (204 : Int), (96 : Int)])) ++ [(169 : Int), (0 : Int), (133 : Int), f + (2 : Int), (133 : Int), f + (2 : Int) + (1 : Int)] ++ [(160 : Int), (0 : Int), (185 : Int), Int.fmod tt (256 : Int), Int.fdiv tt (256 : Int), (133 : Int), f] ++ [(185 : Int), Int.fmod ss (256 : Int), Int.fdiv ss (256 : Int), (133 : Int), f + (1 : Int), (32 : Int), (0 : Int), (2 : Int), (72 : Int)] ++ [(24 : Int), (165 : Int), f + (1 : Int), (101 : Int), f + (2 : Int), (133 : Int), f + (2 : Int), (104 : Int), (101 : Int), f + (2 : Int) + (1 : Int), (133 : Int), f + (2 : Int) + (1 : Int)] ++ [(160 : Int), (1 : Int), (185 : Int), Int.fmod tt (256 : Int), Int.fdiv tt (256 : Int), (133 : Int), f] ++ [(185 : Int), Int.fmod ss (256 : Int), Int.fdiv ss (256 : Int), (133 : Int), f + (1 : Int), (32 : Int), (0 : Int), (2 : Int), (72 : Int)] ++ [(24 : Int), (165 : Int), f + (1 : Int), (101 : Int), f + (2 : Int), (133 : Int), f + (2 : Int), (104 : Int), (101 : Int), f + (2 : Int) + (1 : Int), (133 : Int), f + (2 : Int) + (1 : Int)]), a21, a22, a23, a24, a25, a26, a27] Q =
   ((18 : Nat) ≤ (1000000 : Nat) ∧ (143 : Nat) + (3 : Nat) ≤ (100000 : Nat) ∧ (146 : Nat) ≤ (1000000 : Nat) ∧ ((0 : Nat) < (1 : Nat) ∧ (0 : Int) ≤ (1024 : Int) ∧ (1024 : Int) < (4611686018427387904 : Int) ∧ (1024 : Nat) ≤ (100000 : Nat)) ∧ Q AF.next [(v_script, AV.obj (0 : Nat)), (v_terms, AV.int (2 : Int)), (v_pairs, AV.obj (7 : Nat)), (v_factor, AV.int f), (v_low, AV.int (f + (1 : Int))), (v_whole, AV.int (f + (2 : Int))), (v_left, AV.int (f + (4 : Int))), (v_root, AV.int (f + (6 : Int))), (v_trial, AV.int (f + (7 : Int))), (v_these, AV.int tt), (v_those, AV.int ss), (v_times, AV.obj (10 : Nat)), (v_loop, AV.obj (13 : Nat)), (v_roots, AV.obj (17 : Nat)), (v_code, AV.obj (20 : Nat)), (v_start, AV.int (593 : Int)), (v_term, AV.int (1 : Int)), (v_end, AV.int ((512 : Int) + (146 : Int))), (v_memory, AV.obj (30 : Nat))] [a0, a1, a2, a3, a4, a5, a6, a7, a8, a9, AO.intx [169, 0, 162, 8, 70, f + 1, 144, 3, 24, 101, f, 106, 102, f + 1, 202, 208, 245, 96], a11, a12, AO.intx (repL [(6 : Int), f + (2 : Int), (38 : Int), f + (2 : Int) + (1 : Int), (38 : Int), f + (4 : Int), (38 : Int), f + (4 : Int) + (1 : Int)] (2 : Nat) ++ [(6 : Int), f + (6 : Int), (165 : Int), f + (6 : Int), (56 : Int), (42 : Int), (133 : Int), f + (7 : Int), (169 : Int), (0 : Int), (42 : Int), (133 : Int), f + (7 : Int) + (1 : Int)] ++ [(165 : Int), f + (4 : Int), (197 : Int), f + (7 : Int), (165 : Int), f + (4 : Int) + (1 : Int), (229 : Int), f + (7 : Int) + (1 : Int), (144 : Int), (10 : Int)] ++ [(133 : Int), f + (4 : Int) + (1 : Int), (165 : Int), f + (4 : Int), (229 : Int), f + (7 : Int), (133 : Int), f + (4 : Int), (230 : Int), f + (6 : Int), (136 : Int)]), a14, a15, a16, AO.intx ([(169 : Int), (0 : Int), (133 : Int), f + (4 : Int), (133 : Int), f + (4 : Int) + (1 : Int), (133 : Int), f + (6 : Int), (160 : Int), (8 : Int)] ++ (repL [(6 : Int), f + (2 : Int), (38 : Int), f + (2 : Int) + (1 : Int), (38 : Int), f + (4 : Int), (38 : Int), f + (4 : Int) + (1 : Int)] (2 : Nat) ++ [(6 : Int), f + (6 : Int), (165 : Int), f + (6 : Int), (56 : Int), (42 : Int), (133 : Int), f + (7 : Int), (169 : Int), (0 : Int), (42 : Int), (133 : Int), f + (7 : Int) + (1 : Int)] ++ [(165 : Int), f + (4 : Int), (197 : Int), f + (7 : Int), (165 : Int), f + (4 : Int) + (1 : Int), (229 : Int), f + (7 : Int) + (1 : Int), (144 : Int), (10 : Int)] ++ [(133 : Int), f + (4 : Int) + (1 : Int), (165 : Int), f + (4 : Int), (229 : Int), f + (7 : Int), (133 : Int), f + (4 : Int), (230 : Int), f + (6 : Int), (136 : Int)] ++ [(208 : Int), (204 : Int), (96 : Int)])), a18, a19, AO.intx ([(169 : Int), (0 : Int), (162 : Int), (8 : Int), (70 : Int), f + (1 : Int), (144 : Int), (3 : Int), (24 : Int), (101 : Int), f, (106 : Int), (102 : Int), f + (1 : Int), (202 : Int), (208 : Int), (245 : Int), (96 : Int)] ++ ([(169 : Int), (0 : Int), (133 : Int), f + (4 : Int), (133 : Int), f + (4 : Int) + (1 : Int), (133 : Int), f + (6 : Int), (160 : Int), (8 : Int)] ++ (repL [(6 : Int), f + (2 : Int), (38 : Int), f + (2 : Int) + (1 : Int), (38 : Int), f + (4 : Int), (38 : Int), f + (4 : Int) + (1 : Int)] (2 : Nat) ++ [(6 : Int), f + (6 : Int), (165 : Int), f + (6 : Int), (56 : Int), (42 : Int), (133 : Int), f + (7 : Int), (169 : Int), (0 : Int), (42 : Int), (133 : Int), f + (7 : Int) + (1 : Int)] ++ [(165 : Int), f + (4 : Int), (197 : Int), f + (7 : Int), (165 : Int), f + (4 : Int) + (1 : Int), (229 : Int), f + (7 : Int) + (1 : Int), (144 : Int), (10 : Int)] ++ [(133 : Int), f + (4 : Int) + (1 : Int), (165 : Int), f + (4 : Int), (229 : Int), f + (7 : Int), (133 : Int), f + (4 : Int), (230 : Int), f + (6 : Int), (136 : Int)] ++ [(208 : Int), (204 : Int), (96 : Int)])) ++ [(169 : Int), (0 : Int), (133 : Int), f + (2 : Int), (133 : Int), f + (2 : Int) + (1 : Int)] ++ [(160 : Int), (0 : Int), (185 : Int), Int.fmod tt (256 : Int), Int.fdiv tt (256 : Int), (133 : Int), f] ++ [(185 : Int), Int.fmod ss (256 : Int), Int.fdiv ss (256 : Int), (133 : Int), f + (1 : Int), (32 : Int), (0 : Int), (2 : Int), (72 : Int)] ++ [(24 : Int), (165 : Int), f + (1 : Int), (101 : Int), f + (2 : Int), (133 : Int), f + (2 : Int), (104 : Int), (101 : Int), f + (2 : Int) + (1 : Int), (133 : Int), f + (2 : Int) + (1 : Int)] ++ [(160 : Int), (1 : Int), (185 : Int), Int.fmod tt (256 : Int), Int.fdiv tt (256 : Int), (133 : Int), f] ++ [(185 : Int), Int.fmod ss (256 : Int), Int.fdiv ss (256 : Int), (133 : Int), f + (1 : Int), (32 : Int), (0 : Int), (2 : Int), (72 : Int)] ++ [(24 : Int), (165 : Int), f + (1 : Int), (101 : Int), f + (2 : Int), (133 : Int), f + (2 : Int), (104 : Int), (101 : Int), f + (2 : Int) + (1 : Int), (133 : Int), f + (2 : Int) + (1 : Int)] ++ [(32 : Int), (18 : Int), (2 : Int)]), a21, a22, a23, a24, a25, a26, a27, AO.intx [32, 18, 2], AO.intx [170], AO.intx (repL [(170 : Int)] (1024 : Nat))]) := by kernel_rfl
theorem r2_28 (cd : Value) (a0 a1 a2 a3 a4 a5 a6 a10 a11 a12 a13 a14 a15 a16 a17 a18 a19 a20 a21 a22 a23 a24 a25 a26 a27 a28 a29 : AO) (m : List Int) (f tt ss p o p0 q0 p1 q1 : Int) (Q : PF) : lxs kN 60 40 (F0 cd ([(v_script, AV.obj (0 : Nat)), (v_terms, AV.int (2 : Int)), (v_pairs, AV.obj (7 : Nat)), (v_factor, AV.int f), (v_low, AV.int (f + (1 : Int))), (v_whole, AV.int (f + (2 : Int))), (v_left, AV.int (f + (4 : Int))), (v_root, AV.int (f + (6 : Int))), (v_trial, AV.int (f + (7 : Int))), (v_these, AV.int tt), (v_those, AV.int ss), (v_times, AV.obj (10 : Nat)), (v_loop, AV.obj (13 : Nat)), (v_roots, AV.obj (17 : Nat)), (v_code, AV.obj (20 : Nat)), (v_start, AV.int (593 : Int)), (v_term, AV.int (1 : Int)), (v_end, AV.int 658), (v_memory, AV.obj (30 : Nat)), (v_place, AV.int p), (v_octet, AV.int o)])) (stG 28 29) [a0, a1, a2, a3, a4, a5, a6, AO.list [AV.obj 8, AV.obj 9], AO.tuple [AV.int p0, AV.int q0], AO.tuple [AV.int p1, AV.int q1], a10, a11, a12, a13, a14, a15, a16, a17, a18, a19, a20, a21, a22, a23, a24, a25, a26, a27, a28, a29, AO.ints m] Q =
   (some [AV.obj (8 : Nat), AV.obj (9 : Nat)] = some [AV.obj (8 : Nat), AV.obj (9 : Nat)] ∧ ((0 : Int) ≤ (0 : Int) ∧ (0 : Int) < (9223372036854775808 : Int)) ∧ ((0 : Int) ≤ tt + (0 : Int) ∧ tt + (0 : Int) < ↑(List.length m) ∧ tt + (0 : Int) < (9223372036854775808 : Int)) ∧ ((0 : Int) ≤ (1 : Int) ∧ (1 : Int) < (9223372036854775808 : Int)) ∧ ((0 : Int) ≤ ss + (0 : Int) ∧ ss + (0 : Int) < ↑(List.length (List.set m (Int.toNat (tt + (0 : Int))) p0)) ∧ ss + (0 : Int) < (9223372036854775808 : Int)) ∧ some [AV.obj (8 : Nat), AV.obj (9 : Nat)] = some [AV.obj (8 : Nat), AV.obj (9 : Nat)] ∧ ((0 : Int) ≤ (0 : Int) ∧ (0 : Int) < (9223372036854775808 : Int)) ∧ ((0 : Int) ≤ tt + (1 : Int) ∧ tt + (1 : Int) < ↑(List.length (List.set (List.set m (Int.toNat (tt + (0 : Int))) p0) (Int.toNat (ss + (0 : Int))) q0)) ∧ tt + (1 : Int) < (9223372036854775808 : Int)) ∧ ((0 : Int) ≤ (1 : Int) ∧ (1 : Int) < (9223372036854775808 : Int)) ∧ ((0 : Int) ≤ ss + (1 : Int) ∧ ss + (1 : Int) < ↑(List.length (List.set (List.set (List.set m (Int.toNat (tt + (0 : Int))) p0) (Int.toNat (ss + (0 : Int))) q0) (Int.toNat (tt + (1 : Int))) p1)) ∧ ss + (1 : Int) < (9223372036854775808 : Int)) ∧ some [AV.obj (8 : Nat), AV.obj (9 : Nat)] = some [AV.obj (8 : Nat), AV.obj (9 : Nat)] ∧ Q AF.next [(v_script, AV.obj (0 : Nat)), (v_terms, AV.int (2 : Int)), (v_pairs, AV.obj (7 : Nat)), (v_factor, AV.int f), (v_low, AV.int (f + (1 : Int))), (v_whole, AV.int (f + (2 : Int))), (v_left, AV.int (f + (4 : Int))), (v_root, AV.int (f + (6 : Int))), (v_trial, AV.int (f + (7 : Int))), (v_these, AV.int tt), (v_those, AV.int ss), (v_times, AV.obj (10 : Nat)), (v_loop, AV.obj (13 : Nat)), (v_roots, AV.obj (17 : Nat)), (v_code, AV.obj (20 : Nat)), (v_start, AV.int (593 : Int)), (v_term, AV.int (1 : Int)), (v_end, AV.int (658 : Int)), (v_memory, AV.obj (30 : Nat)), (v_place, AV.int p), (v_octet, AV.int o), (v_pair, AV.obj (9 : Nat))] [a0, a1, a2, a3, a4, a5, a6, AO.list [AV.obj (8 : Nat), AV.obj (9 : Nat)], AO.tuple [AV.int p0, AV.int q0], AO.tuple [AV.int p1, AV.int q1], a10, a11, a12, a13, a14, a15, a16, a17, a18, a19, a20, a21, a22, a23, a24, a25, a26, a27, a28, a29, AO.ints (List.set (List.set (List.set (List.set m (Int.toNat (tt + (0 : Int))) p0) (Int.toNat (ss + (0 : Int))) q0) (Int.toNat (tt + (1 : Int))) p1) (Int.toNat (ss + (1 : Int))) q1)]) := by kernel_rfl
theorem r2_29 (cd : Value) (a0 a1 a2 a3 a4 a5 a6 a10 a11 a12 a13 a14 a15 a16 a17 a18 a19 a20 a21 a22 a23 a24 a25 a26 a27 a28 a29 : AO) (m : List Int) (f tt ss p o p0 q0 p1 q1 : Int) (Q : PF) : lxs kN 60 40 (F0 cd ([(v_script, AV.obj (0 : Nat)), (v_terms, AV.int (2 : Int)), (v_pairs, AV.obj (7 : Nat)), (v_factor, AV.int f), (v_low, AV.int (f + (1 : Int))), (v_whole, AV.int (f + (2 : Int))), (v_left, AV.int (f + (4 : Int))), (v_root, AV.int (f + (6 : Int))), (v_trial, AV.int (f + (7 : Int))), (v_these, AV.int tt), (v_those, AV.int ss), (v_times, AV.obj (10 : Nat)), (v_loop, AV.obj (13 : Nat)), (v_roots, AV.obj (17 : Nat)), (v_code, AV.obj (20 : Nat)), (v_start, AV.int (593 : Int)), (v_term, AV.int (1 : Int)), (v_end, AV.int (658 : Int)), (v_memory, AV.obj (30 : Nat)), (v_place, AV.int p), (v_octet, AV.int o), (v_pair, AV.obj 9)])) (stG 29 32) [a0, a1, a2, a3, a4, a5, a6, AO.list [AV.obj (8 : Nat), AV.obj (9 : Nat)], AO.tuple [AV.int p0, AV.int q0], AO.tuple [AV.int p1, AV.int q1], a10, a11, a12, a13, a14, a15, a16, a17, a18, a19, a20, a21, a22, a23, a24, a25, a26, a27, a28, a29, AO.ints m] Q =
   (List.length m ≤ (100000 : Nat) ∧ some [AV.obj (8 : Nat), AV.obj (9 : Nat)] = some [AV.obj (8 : Nat), AV.obj (9 : Nat)] ∧ (2 : Nat) = (2 : Nat) ∧ (Builtin.Int.intBits p0 ≤ (64 : Nat) ∨ Builtin.Int.intBits q0 ≤ (64 : Nat)) ∧ some [AV.obj (8 : Nat), AV.obj (9 : Nat)] = some [AV.obj (8 : Nat), AV.obj (9 : Nat)] ∧ (2 : Nat) = (2 : Nat) ∧ (Builtin.Int.intBits p1 ≤ (64 : Nat) ∨ Builtin.Int.intBits q1 ≤ (64 : Nat)) ∧ some [AV.obj (8 : Nat), AV.obj (9 : Nat)] = some [AV.obj (8 : Nat), AV.obj (9 : Nat)] ∧ Q AF.next [(v_script, AV.obj (0 : Nat)), (v_terms, AV.int (2 : Int)), (v_pairs, AV.obj (7 : Nat)), (v_factor, AV.int f), (v_low, AV.int (f + (1 : Int))), (v_whole, AV.int (f + (2 : Int))), (v_left, AV.int (f + (4 : Int))), (v_root, AV.int (f + (6 : Int))), (v_trial, AV.int (f + (7 : Int))), (v_these, AV.int tt), (v_those, AV.int ss), (v_times, AV.obj (10 : Nat)), (v_loop, AV.obj (13 : Nat)), (v_roots, AV.obj (17 : Nat)), (v_code, AV.obj (20 : Nat)), (v_start, AV.int (593 : Int)), (v_term, AV.int (1 : Int)), (v_end, AV.int (658 : Int)), (v_memory, AV.obj (30 : Nat)), (v_place, AV.int p), (v_octet, AV.int o), (v_pair, AV.obj (9 : Nat)), (v_plain, AV.obj (31 : Nat)), (v_total, AV.int (List.sum [p0 * q0, p1 * q1])), (v_told, AV.int (0 : Int))] [a0, a1, a2, a3, a4, a5, a6, AO.list [AV.obj (8 : Nat), AV.obj (9 : Nat)], AO.tuple [AV.int p0, AV.int q0], AO.tuple [AV.int p1, AV.int q1], a10, a11, a12, a13, a14, a15, a16, a17, a18, a19, a20, a21, a22, a23, a24, a25, a26, a27, a28, a29, AO.ints m, AO.intx m, AO.intx [p0 * q0, p1 * q1]]) := by kernel_rfl
theorem r2_33 (cd : Value) (a0 a1 a2 a3 a4 a5 a6 a10 a11 a12 a13 a14 a15 a16 a17 a18 a19 a20 a21 a22 a23 a24 a25 a26 a27 a28 a29 a32 : AO) (m pn : List Int) (f tt ss p o p0 q0 p1 q1 tot told : Int) (Q : PF) : lxs kN 60 40 (F0 cd ([(v_script, AV.obj (0 : Nat)), (v_terms, AV.int (2 : Int)), (v_pairs, AV.obj (7 : Nat)), (v_factor, AV.int f), (v_low, AV.int (f + (1 : Int))), (v_whole, AV.int (f + (2 : Int))), (v_left, AV.int (f + (4 : Int))), (v_root, AV.int (f + (6 : Int))), (v_trial, AV.int (f + (7 : Int))), (v_these, AV.int tt), (v_those, AV.int ss), (v_times, AV.obj (10 : Nat)), (v_loop, AV.obj (13 : Nat)), (v_roots, AV.obj (17 : Nat)), (v_code, AV.obj (20 : Nat)), (v_start, AV.int (593 : Int)), (v_term, AV.int (1 : Int)), (v_end, AV.int (658 : Int)), (v_memory, AV.obj (30 : Nat)), (v_place, AV.int p), (v_octet, AV.int o), (v_pair, AV.obj (9 : Nat)), (v_plain, AV.obj (31 : Nat)), (v_total, AV.int tot), (v_told, AV.int told)])) (stG 33 37) [a0, a1, a2, a3, a4, a5, a6, AO.list [AV.obj (8 : Nat), AV.obj (9 : Nat)], AO.tuple [AV.int p0, AV.int q0], AO.tuple [AV.int p1, AV.int q1], a10, a11, a12, a13, a14, a15, a16, a17, a18, a19, a20, a21, a22, a23, a24, a25, a26, a27, a28, a29, AO.ints m, AO.intx pn, a32] Q =
   ((1 : Nat) < (4611686018427387904 : Nat) ∧ ((0 : Int) ≤ (0 : Int) ∧ (0 : Int) < (9223372036854775808 : Int)) ∧ ((0 : Int) ≤ f ∧ f < ↑(List.length pn) ∧ f < (9223372036854775808 : Int)) ∧ (1 : Nat) < (4611686018427387904 : Nat) ∧ ((0 : Int) ≤ (0 : Int) ∧ (0 : Int) < (9223372036854775808 : Int)) ∧ (1 : Nat) < (4611686018427387904 : Nat) ∧ ((0 : Int) ≤ (1 : Int) ∧ (1 : Int) < (9223372036854775808 : Int)) ∧ (Builtin.Int.intBits p1 ≤ (64 : Nat) ∨ Builtin.Int.intBits q1 ≤ (64 : Nat)) ∧ (256 : Int) ≠ (0 : Int) ∧ ((0 : Int) ≤ f + (1 : Int) ∧ f + (1 : Int) < ↑(List.length (List.set pn (Int.toNat f) p1)) ∧ f + (1 : Int) < (9223372036854775808 : Int)) ∧ ((0 : Int) ≤ f + (2 : Int) ∧ f + (2 : Int) < ↑(List.length (List.set (List.set pn (Int.toNat f) p1) (Int.toNat (f + (1 : Int))) (Int.fmod (p1 * q1) (256 : Int)))) ∧ f + (2 : Int) < (9223372036854775808 : Int)) ∧ ((0 : Int) ≤ f + (2 : Int) + (1 : Int) ∧ f + (2 : Int) + (1 : Int) < ↑(List.length (List.set (List.set (List.set pn (Int.toNat f) p1) (Int.toNat (f + (1 : Int))) (Int.fmod (p1 * q1) (256 : Int))) (Int.toNat (f + (2 : Int))) (0 : Int))) ∧ f + (2 : Int) + (1 : Int) < (9223372036854775808 : Int)) ∧ Q AF.next [(v_script, AV.obj (0 : Nat)), (v_terms, AV.int (2 : Int)), (v_pairs, AV.obj (7 : Nat)), (v_factor, AV.int f), (v_low, AV.int (f + (1 : Int))), (v_whole, AV.int (f + (2 : Int))), (v_left, AV.int (f + (4 : Int))), (v_root, AV.int (f + (6 : Int))), (v_trial, AV.int (f + (7 : Int))), (v_these, AV.int tt), (v_those, AV.int ss), (v_times, AV.obj (10 : Nat)), (v_loop, AV.obj (13 : Nat)), (v_roots, AV.obj (17 : Nat)), (v_code, AV.obj (20 : Nat)), (v_start, AV.int (593 : Int)), (v_term, AV.int (1 : Int)), (v_end, AV.int (658 : Int)), (v_memory, AV.obj (30 : Nat)), (v_place, AV.int p), (v_octet, AV.int o), (v_pair, AV.obj (9 : Nat)), (v_plain, AV.obj (31 : Nat)), (v_total, AV.int tot), (v_told, AV.int told)] [a0, a1, a2, a3, a4, a5, a6, AO.list [AV.obj (8 : Nat), AV.obj (9 : Nat)], AO.tuple [AV.int p0, AV.int q0], AO.tuple [AV.int p1, AV.int q1], a10, a11, a12, a13, a14, a15, a16, a17, a18, a19, a20, a21, a22, a23, a24, a25, a26, a27, a28, a29, AO.ints m, AO.ints (List.set (List.set (List.set (List.set pn (Int.toNat f) p1) (Int.toNat (f + (1 : Int))) (Int.fmod (p1 * q1) (256 : Int))) (Int.toNat (f + (2 : Int))) (0 : Int)) (Int.toNat (f + (2 : Int) + (1 : Int))) (0 : Int)), a32]) := by kernel_rfl
theorem r2_37 (cd : Value) (a0 a1 a2 a3 a4 a5 a6 a10 a11 a12 a13 a14 a15 a16 a17 a18 a19 a20 a21 a22 a23 a24 a25 a26 a27 a28 a29 a32 : AO) (m pn : List Int) (f tt ss p o p0 q0 p1 q1 tot told : Int) (Q : PF) : lxs kN 60 40 (F0 cd ([(v_script, AV.obj (0 : Nat)), (v_terms, AV.int (2 : Int)), (v_pairs, AV.obj (7 : Nat)), (v_factor, AV.int f), (v_low, AV.int (f + (1 : Int))), (v_whole, AV.int (f + (2 : Int))), (v_left, AV.int (f + (4 : Int))), (v_root, AV.int (f + (6 : Int))), (v_trial, AV.int (f + (7 : Int))), (v_these, AV.int tt), (v_those, AV.int ss), (v_times, AV.obj (10 : Nat)), (v_loop, AV.obj (13 : Nat)), (v_roots, AV.obj (17 : Nat)), (v_code, AV.obj (20 : Nat)), (v_start, AV.int (593 : Int)), (v_term, AV.int (1 : Int)), (v_end, AV.int (658 : Int)), (v_memory, AV.obj (30 : Nat)), (v_place, AV.int p), (v_octet, AV.int o), (v_pair, AV.obj (9 : Nat)), (v_plain, AV.obj (31 : Nat)), (v_total, AV.int tot), (v_told, AV.int told)])) (stG 37 44) [a0, a1, a2, a3, a4, a5, a6, AO.list [AV.obj (8 : Nat), AV.obj (9 : Nat)], AO.tuple [AV.int p0, AV.int q0], AO.tuple [AV.int p1, AV.int q1], a10, a11, a12, a13, a14, a15, a16, a17, a18, a19, a20, a21, a22, a23, a24, a25, a26, a27, a28, a29, AO.ints m, AO.ints pn, a32] Q =
   ((Builtin.Int.intBits told ≤ (64 : Nat) ∨ Builtin.Int.intBits told ≤ (64 : Nat)) ∧ (256 : Int) ≠ (0 : Int) ∧ ((0 : Int) ≤ f + (4 : Int) ∧ f + (4 : Int) < ↑(List.length pn) ∧ f + (4 : Int) < (9223372036854775808 : Int)) ∧ (Builtin.Int.intBits told ≤ (64 : Nat) ∨ Builtin.Int.intBits told ≤ (64 : Nat)) ∧ ((256 : Int) ≠ (0 : Int) ∧ false = false) ∧ ((0 : Int) ≤ f + (4 : Int) + (1 : Int) ∧ f + (4 : Int) + (1 : Int) < ↑(List.length (List.set pn (Int.toNat (f + (4 : Int))) (Int.fmod (tot - told * told) (256 : Int)))) ∧ f + (4 : Int) + (1 : Int) < (9223372036854775808 : Int)) ∧ ((0 : Int) ≤ f + (6 : Int) ∧ f + (6 : Int) < ↑(List.length (List.set (List.set pn (Int.toNat (f + (4 : Int))) (Int.fmod (tot - told * told) (256 : Int))) (Int.toNat (f + (4 : Int) + (1 : Int))) (Int.fdiv (tot - told * told) (256 : Int)))) ∧ f + (6 : Int) < (9223372036854775808 : Int)) ∧ ((2 : Int) ≠ (0 : Int) ∧ false = false) ∧ ((3 : Nat) ≤ (64 : Nat) ∨ Builtin.Int.intBits (Int.fdiv told (2 : Int)) ≤ (64 : Nat)) ∧ (256 : Int) ≠ (0 : Int) ∧ ((0 : Int) ≤ f + (7 : Int) ∧ f + (7 : Int) < ↑(List.length (List.set (List.set (List.set pn (Int.toNat (f + (4 : Int))) (Int.fmod (tot - told * told) (256 : Int))) (Int.toNat (f + (4 : Int) + (1 : Int))) (Int.fdiv (tot - told * told) (256 : Int))) (Int.toNat (f + (6 : Int))) told)) ∧ f + (7 : Int) < (9223372036854775808 : Int)) ∧ ((2 : Int) ≠ (0 : Int) ∧ false = false) ∧ ((3 : Nat) ≤ (64 : Nat) ∨ Builtin.Int.intBits (Int.fdiv told (2 : Int)) ≤ (64 : Nat)) ∧ ((256 : Int) ≠ (0 : Int) ∧ false = false) ∧ ((0 : Int) ≤ f + (7 : Int) + (1 : Int) ∧ f + (7 : Int) + (1 : Int) < ↑(List.length (List.set (List.set (List.set (List.set pn (Int.toNat (f + (4 : Int))) (Int.fmod (tot - told * told) (256 : Int))) (Int.toNat (f + (4 : Int) + (1 : Int))) (Int.fdiv (tot - told * told) (256 : Int))) (Int.toNat (f + (6 : Int))) told) (Int.toNat (f + (7 : Int))) (Int.fmod ((4 : Int) * Int.fdiv told (2 : Int) + (1 : Int)) (256 : Int)))) ∧ f + (7 : Int) + (1 : Int) < (9223372036854775808 : Int)) ∧ (256 : Int) ≠ (0 : Int) ∧ ((0 : Int) ≤ (510 : Int) ∧ (510 : Int) < ↑(List.length (List.set (List.set (List.set (List.set (List.set pn (Int.toNat (f + (4 : Int))) (Int.fmod (tot - told * told) (256 : Int))) (Int.toNat (f + (4 : Int) + (1 : Int))) (Int.fdiv (tot - told * told) (256 : Int))) (Int.toNat (f + (6 : Int))) told) (Int.toNat (f + (7 : Int))) (Int.fmod ((4 : Int) * Int.fdiv told (2 : Int) + (1 : Int)) (256 : Int))) (Int.toNat (f + (7 : Int) + (1 : Int))) (Int.fdiv ((4 : Int) * Int.fdiv told (2 : Int) + (1 : Int)) (256 : Int)))) ∧ (510 : Int) < (9223372036854775808 : Int)) ∧ ((256 : Int) ≠ (0 : Int) ∧ false = false) ∧ ((0 : Int) ≤ (511 : Int) ∧ (511 : Int) < ↑(List.length (List.set (List.set (List.set (List.set (List.set (List.set pn (Int.toNat (f + (4 : Int))) (Int.fmod (tot - told * told) (256 : Int))) (Int.toNat (f + (4 : Int) + (1 : Int))) (Int.fdiv (tot - told * told) (256 : Int))) (Int.toNat (f + (6 : Int))) told) (Int.toNat (f + (7 : Int))) (Int.fmod ((4 : Int) * Int.fdiv told (2 : Int) + (1 : Int)) (256 : Int))) (Int.toNat (f + (7 : Int) + (1 : Int))) (Int.fdiv ((4 : Int) * Int.fdiv told (2 : Int) + (1 : Int)) (256 : Int))) (510 : Nat) (145 : Int))) ∧ (511 : Int) < (9223372036854775808 : Int)) ∧ Q AF.next [(v_script, AV.obj (0 : Nat)), (v_terms, AV.int (2 : Int)), (v_pairs, AV.obj (7 : Nat)), (v_factor, AV.int f), (v_low, AV.int (f + (1 : Int))), (v_whole, AV.int (f + (2 : Int))), (v_left, AV.int (f + (4 : Int))), (v_root, AV.int (f + (6 : Int))), (v_trial, AV.int (f + (7 : Int))), (v_these, AV.int tt), (v_those, AV.int ss), (v_times, AV.obj (10 : Nat)), (v_loop, AV.obj (13 : Nat)), (v_roots, AV.obj (17 : Nat)), (v_code, AV.obj (20 : Nat)), (v_start, AV.int (593 : Int)), (v_term, AV.int (1 : Int)), (v_end, AV.int (658 : Int)), (v_memory, AV.obj (30 : Nat)), (v_place, AV.int p), (v_octet, AV.int o), (v_pair, AV.obj (9 : Nat)), (v_plain, AV.obj (31 : Nat)), (v_total, AV.int tot), (v_told, AV.int told)] [a0, a1, a2, a3, a4, a5, a6, AO.list [AV.obj (8 : Nat), AV.obj (9 : Nat)], AO.tuple [AV.int p0, AV.int q0], AO.tuple [AV.int p1, AV.int q1], a10, a11, a12, a13, a14, a15, a16, a17, a18, a19, a20, a21, a22, a23, a24, a25, a26, a27, a28, a29, AO.ints m, AO.ints (List.set (List.set (List.set (List.set (List.set (List.set (List.set pn (Int.toNat (f + (4 : Int))) (Int.fmod (tot - told * told) (256 : Int))) (Int.toNat (f + (4 : Int) + (1 : Int))) (Int.fdiv (tot - told * told) (256 : Int))) (Int.toNat (f + (6 : Int))) told) (Int.toNat (f + (7 : Int))) (Int.fmod ((4 : Int) * Int.fdiv told (2 : Int) + (1 : Int)) (256 : Int))) (Int.toNat (f + (7 : Int) + (1 : Int))) (Int.fdiv ((4 : Int) * Int.fdiv told (2 : Int) + (1 : Int)) (256 : Int))) (510 : Nat) (145 : Int)) (511 : Nat) (2 : Int)), a32]) := by kernel_rfl
end
end Mine

end
section
open PySem PySem.W PyProof.Rows
namespace Mine
noncomputable section
noncomputable abbrev L32_2 (f tt ss p o tot told : Int) : Loc := [(v_script, AV.obj (0 : Nat)), (v_terms, AV.int (2 : Int)), (v_pairs, AV.obj (7 : Nat)), (v_factor, AV.int f), (v_low, AV.int (f + (1 : Int))), (v_whole, AV.int (f + (2 : Int))), (v_left, AV.int (f + (4 : Int))), (v_root, AV.int (f + (6 : Int))), (v_trial, AV.int (f + (7 : Int))), (v_these, AV.int tt), (v_those, AV.int ss), (v_times, AV.obj (10 : Nat)), (v_loop, AV.obj (13 : Nat)), (v_roots, AV.obj (17 : Nat)), (v_code, AV.obj (20 : Nat)), (v_start, AV.int (593 : Int)), (v_term, AV.int (1 : Int)), (v_end, AV.int (658 : Int)), (v_memory, AV.obj (30 : Nat)), (v_place, AV.int p), (v_octet, AV.int o), (v_pair, AV.obj (9 : Nat)), (v_plain, AV.obj (31 : Nat)), (v_total, AV.int tot), (v_told, AV.int told)]
noncomputable abbrev LS_2 (f tt ss p o tot told : Int) : Loc := L32_2 f tt ss p o tot told ++ [(v_mpu, .obj 34)]
noncomputable abbrev LT_2 (f tt ss p o tot told t : Int) : Loc := LS_2 f tt ss p o tot told ++ [(v_turn, .int t)]
noncomputable abbrev Z_2 (a0 a1 a2 a3 a4 a5 a6 a7 a8 a9 a10 a11 a12 a13 a14 a15 a16 a17 a18 a19 a20 a21 a22 a23 a24 a25 a26 a27 a28 a29 a32 mm pl : AO) : List AO := [a0, a1, a2, a3, a4, a5, a6, a7, a8, a9, a10, a11, a12, a13, a14, a15, a16, a17, a18, a19, a20, a21, a22, a23, a24, a25, a26, a27, a28, a29, mm, pl, a32]
noncomputable abbrev ZM_2 (a0 a1 a2 a3 a4 a5 a6 a7 a8 a9 a10 a11 a12 a13 a14 a15 a16 a17 a18 a19 a20 a21 a22 a23 a24 a25 a26 a27 a28 a29 a32 : AO) (pn : List Int) (M : MS) : List AO := Z_2 a0 a1 a2 a3 a4 a5 a6 a7 a8 a9 a10 a11 a12 a13 a14 a15 a16 a17 a18 a19 a20 a21 a22 a23 a24 a25 a26 a27 a28 a29 a32 (.ints M.mem) (.ints pn) ++ [.dict (esL M 30), .inst 1428 33]
theorem s2_44 (cd : Value) (a0 a1 a2 a3 a4 a5 a6 a7 a8 a9 a10 a11 a12 a13 a14 a15 a16 a17 a18 a19 a20 a21 a22 a23 a24 a25 a26 a27 a28 a29 a32 : AO) (m pn : List Int) (f tt ss p o tot told : Int) (Q : PF) : lxs kN 90 40 (F0 cd (L32_2 f tt ss p o tot told)) (stG 44 45) (Z_2 a0 a1 a2 a3 a4 a5 a6 a7 a8 a9 a10 a11 a12 a13 a14 a15 a16 a17 a18 a19 a20 a21 a22 a23 a24 a25 a26 a27 a28 a29 a32 (.ints m) (.ints pn)) Q =
  ((((0 : Int) ≤ (8 : Int) ∧ (8 : Int) ≤ (1000000 : Int) ∧ (1 : Nat) < (18446744073709551616 : Nat)) ∧ ((0 : Int) ≤ (16 : Int) ∧ (16 : Int) ≤ (1000000 : Int) ∧ (1 : Nat) < (18446744073709551616 : Nat)) ∧ ((0 : Int) ≤ (8 : Int) ∧ (8 : Int) ≤ (1000000 : Int) ∧ (255 : Nat) < (18446744073709551616 : Nat)) ∧ ((0 : Int) ≤ (8 : Int) ∧ (8 : Int) ≤ (1000000 : Int) ∧ (1 : Nat) < (18446744073709551616 : Nat)) ∧ Q .next (LS_2 f tt ss p o tot told) (ZM_2 a0 a1 a2 a3 a4 a5 a6 a7 a8 a9 a10 a11 a12 a13 a14 a15 a16 a17 a18 a19 a20 a21 a22 a23 a24 a25 a26 a27 a28 a29 a32 pn (M0 m 593)))) := by kernel_rfl
theorem s2_45a (cd : Value) (f tt ss p o tot told : Int) (t : Int) (as : List AO) (Q : Loc → List AO → Prop) : storeW (F0 cd (LS_2 f tt ss p o tot told)) v_turn (.int t) as Q = Q (LT_2 f tt ss p o tot told t) as := by kernel_rfl
theorem s2_45b (cd : Value) (f tt ss p o tot told : Int) (t t' : Int) (as : List AO) (Q : Loc → List AO → Prop) : storeW (F0 cd (LT_2 f tt ss p o tot told t')) v_turn (.int t) as Q = Q (LT_2 f tt ss p o tot told t) as := by kernel_rfl
theorem s2_45 (cd : Value) (a0 a1 a2 a3 a4 a5 a6 a7 a8 a9 a10 a11 a12 a13 a14 a15 a16 a17 a18 a19 a20 a21 a22 a23 a24 a25 a26 a27 a28 a29 a32 : AO) (pn : List Int) (f tt ss p o tot told : Int) (M : MS) (t : Int) (Q : PF) : lxs kN 30 40 (F0 cd (LT_2 f tt ss p o tot told t)) (forBody 45) (ZM_2 a0 a1 a2 a3 a4 a5 a6 a7 a8 a9 a10 a11 a12 a13 a14 a15 a16 a17 a18 a19 a20 a21 a22 a23 a24 a25 a26 a27 a28 a29 a32 pn M) Q = ifB (M.pc == ((658 : Nat) : Int)) (Q .brk (LT_2 f tt ss p o tot told t) (ZM_2 a0 a1 a2 a3 a4 a5 a6 a7 a8 a9 a10 a11 a12 a13 a14 a15 a16 a17 a18 a19 a20 a21 a22 a23 a24 a25 a26 a27 a28 a29 a32 pn M)) (stepP [.obj 34] (ZM_2 a0 a1 a2 a3 a4 a5 a6 a7 a8 a9 a10 a11 a12 a13 a14 a15 a16 a17 a18 a19 a20 a21 a22 a23 a24 a25 a26 a27 a28 a29 a32 pn M) fun _ as' => Q .next (LT_2 f tt ss p o tot told t) as') := by kernel_rfl
theorem s2_46 (cd : Value) (a0 a1 a2 a3 a4 a5 a6 a7 a8 a9 a10 a11 a12 a13 a14 a15 a16 a17 a18 a19 a20 a21 a22 a23 a24 a25 a26 a27 a28 a29 a32 : AO) (pn : List Int) (f tt ss p o tot told : Int) (M : MS) (t : Int) (Q : PF) : lx kN 30 40 (F0 cd (LT_2 f tt ss p o tot told t)) (stL 46) (ZM_2 a0 a1 a2 a3 a4 a5 a6 a7 a8 a9 a10 a11 a12 a13 a14 a15 a16 a17 a18 a19 a20 a21 a22 a23 a24 a25 a26 a27 a28 a29 a32 pn M) Q = ifB (decide ([M.pc, M.x, M.y, M.sp] = [(658 : Int), 0, 0, 255])) (Q (.ret (.bool (decide (M.mem = pn)))) (LT_2 f tt ss p o tot told t) (ZM_2 a0 a1 a2 a3 a4 a5 a6 a7 a8 a9 a10 a11 a12 a13 a14 a15 a16 a17 a18 a19 a20 a21 a22 a23 a24 a25 a26 a27 a28 a29 a32 pn M ++ [.tuple [.int M.pc, .int M.x, .int M.y, .int M.sp]] ++ [.tuple [.int 658, .int 0, .int 0, .int 255]])) (Q (.ret (.bool (decide ([M.pc, M.x, M.y, M.sp] = [(658 : Int), 0, 0, 255])))) (LT_2 f tt ss p o tot told t) (ZM_2 a0 a1 a2 a3 a4 a5 a6 a7 a8 a9 a10 a11 a12 a13 a14 a15 a16 a17 a18 a19 a20 a21 a22 a23 a24 a25 a26 a27 a28 a29 a32 pn M ++ [.tuple [.int M.pc, .int M.x, .int M.y, .int M.sp]] ++ [.tuple [.int 658, .int 0, .int 0, .int 255]])) := by kernel_rfl
theorem tail2 {X : Cx} (O : KenOK X kN) (cd : Value) (a0 a1 a2 a3 a4 a5 a6 a10 a11 a12 a13 a14 a15 a16 a17 a18 a19 a20 a21 a22 a23 a24 a25 a26 a27 a28 a29 a32 : AO) {f ta tb sa sb P0 Q0 P1 Q1 Tt s : Nat} (tt ss p o : Int) {F : Nat → Nat} (hf : f < 240) (hP : P1 < 256) (hs : s < 256) (h3 : s * s ≤ Tt) (h4 : Tt < (s + 1) * (s + 1))
    (W0 : WF (C02 true f ta tb sa sb) 1024 ⟨0, 0, 0, 255, 593, false, false, false, false, F⟩) (R0 : W2 true f ta tb sa sb 499 ⟨0, 0, 0, 255, 593, false, false, false, false, F⟩ (End2 true f P1 Q1 Tt F)) (Q : PF) (hQ : ∀ loc as, as[0]? = some a0 → Q (.ret (.bool true)) loc as) :
    ExsS X 40 (F0 cd (L32_2 f tt ss p o (Tt : Int) (s : Int))) (lawD.body.drop 33) (Z_2 a0 a1 a2 a3 a4 a5 a6 (.list [.obj 8, .obj 9]) (.tuple [.int (P0 : Int), .int (Q0 : Int)]) (.tuple [.int (P1 : Int), .int (Q1 : Int)]) a10 a11 a12 a13 a14 a15 a16 a17 a18 a19 a20 a21 a22 a23 a24 a25 a26 a27 a28 a29 a32 (.ints (memL 1024 F)) (.intx (memL 1024 F))) Q := by
  refine El_eeeaaaa (R0 ⟨0, 0, .bool false, .int 593⟩ W0 ⟨trivial, trivial⟩) fun k c' e' hk hr W' f' E => ?_
  have fin := memL_congr (fin2 hf E W'.m h3 h4)
  rw [body33]
  refine exs_app ((specX O 60).exs 40 (F0 cd _) _ _ _ ?_)
  refine Eq.mpr (r2_33 cd _ _ _ _ _ _ _ _ _ _ _ _ _ _ _ _ _ _ _ _ _ _ _ _ _ _ _ _ _ _ f tt ss p o P0 Q0 P1 Q1 (Tt : Int) (s : Int) _) ?_
  have l0 : (memL 1024 F).length = 1024 := memL_len _ _
  refine ⟨by decide, by decide, idx_ok f rfl (lt240 hf 0) l0, by decide, by decide, by decide, by decide, .inl (bits256 _ hP), by decide, idx_ok (f + 1) rfl (lt240 hf 1) (len7 l0), idx_ok (f + 2) rfl (lt240 hf 2) (len7 (len7 l0)), idx_ok (f + 3) rfl (lt240 hf 3) (len7 (len7 (len7 l0))), ?_⟩
  rw [set_F (k := (f : Int)) (v := (P1 : Int)) f P1 rfl rfl (lt240 hf 0), set_F (k := (f : Int) + 1) (v := Int.fmod ((P1 : Int) * (Q1 : Int)) 256) (f + 1) (P1 * Q1 % 256) rfl (mod_c (by rw [Int.natCast_mul])) (lt240 hf 1), set_F (k := (f : Int) + 2) (v := (0 : Int)) (f + 2) 0 rfl rfl (lt240 hf 2), set_F (k := (f : Int) + 2 + 1) (v := (0 : Int)) (f + 3) 0 rfl rfl (lt240 hf 3)]
  refine exs_app ((specX O 60).exs 40 (F0 cd _) _ _ _ ?_)
  refine Eq.mpr (r2_37 cd _ _ _ _ _ _ _ _ _ _ _ _ _ _ _ _ _ _ _ _ _ _ _ _ _ _ _ _ _ _ f tt ss p o P0 Q0 P1 Q1 (Tt : Int) (s : Int) _) ?_
  have l1 : (memL 1024 (up (up (up (up F f P1) (f + 1) (P1 * Q1 % 256)) (f + 2) 0) (f + 3) 0)).length = 1024 := memL_len _ _
  refine ⟨.inl (bits256 _ hs), by decide, idx_ok (f + 4) rfl (lt240 hf 4) l1, .inl (bits256 _ hs), ⟨by decide, rfl⟩, idx_ok (f + 5) rfl (lt240 hf 5) (len7 l1), idx_ok (f + 6) rfl (lt240 hf 6) (len7 (len7 l1)), ⟨by decide, rfl⟩, .inl (by decide), by decide, idx_ok (f + 7) rfl (lt240 hf 7) (len7 (len7 (len7 l1))), ⟨by decide, rfl⟩, .inl (by decide), ⟨by decide, rfl⟩, idx_ok (f + 8) rfl (lt240 hf 8) (len7 (len7 (len7 (len7 l1)))),
    by decide, idx_ok 510 rfl (by decide) (len7 (len7 (len7 (len7 (len7 l1))))), ⟨by decide, rfl⟩, idx_ok 511 rfl (by decide) (len7 (len7 (len7 (len7 (len7 (len7 l1)))))), ?_⟩
  have hd := sub_c h3
  rw [set_F (k := (f : Int) + 4) (v := Int.fmod ((Tt : Int) - (s : Int) * (s : Int)) 256) (f + 4) ((Tt - s * s) % 256) rfl (mod_c hd) (lt240 hf 4), set_F (k := (f : Int) + 4 + 1) (v := Int.fdiv ((Tt : Int) - (s : Int) * (s : Int)) 256) (f + 5) ((Tt - s * s) / 256) rfl (div_c hd) (lt240 hf 5), set_F (k := (f : Int) + 6) (v := (s : Int)) (f + 6) s rfl rfl (lt240 hf 6),
    set_F (k := (f : Int) + 7) (v := Int.fmod (4 * Int.fdiv (s : Int) 2 + 1) 256) (f + 7) ((4 * (s / 2) + 1) % 256) rfl (mod_c (half_c s)) (lt240 hf 7), set_F (k := (f : Int) + 7 + 1) (v := Int.fdiv (4 * Int.fdiv (s : Int) 2 + 1) 256) (f + 8) ((4 * (s / 2) + 1) / 256) rfl (div_c (half_c s)) (lt240 hf 8)]
  rw [show (memL 1024 (up (up (up (up (up (up (up (up (up F f P1) (f + 1) (P1 * Q1 % 256)) (f + 2) 0) (f + 3) 0) (f + 4) ((Tt - s * s) % 256)) (f + 5) ((Tt - s * s) / 256)) (f + 6) s) (f + 7) ((4 * (s / 2) + 1) % 256)) (f + 8) ((4 * (s / 2) + 1) / 256))).set 510 145 = memL 1024 (up (up (up (up (up (up (up (up (up (up F f P1) (f + 1) (P1 * Q1 % 256)) (f + 2) 0) (f + 3) 0) (f + 4) ((Tt - s * s) % 256)) (f + 5) ((Tt - s * s) / 256)) (f + 6) s) (f + 7) ((4 * (s / 2) + 1) % 256)) (f + 8) ((4 * (s / 2) + 1) / 256)) 510 (657 % 256)) from set_F (k := 510) (v := 145) 510 (657 % 256) rfl rfl (by decide)]
  rw [show (memL 1024 (up (up (up (up (up (up (up (up (up (up F f P1) (f + 1) (P1 * Q1 % 256)) (f + 2) 0) (f + 3) 0) (f + 4) ((Tt - s * s) % 256)) (f + 5) ((Tt - s * s) / 256)) (f + 6) s) (f + 7) ((4 * (s / 2) + 1) % 256)) (f + 8) ((4 * (s / 2) + 1) / 256)) 510 (657 % 256))).set 511 2 = memL 1024 (up (up (up (up (up (up (up (up (up (up (up F f P1) (f + 1) (P1 * Q1 % 256)) (f + 2) 0) (f + 3) 0) (f + 4) ((Tt - s * s) % 256)) (f + 5) ((Tt - s * s) / 256)) (f + 6) s) (f + 7) ((4 * (s / 2) + 1) % 256)) (f + 8) ((4 * (s / 2) + 1) / 256)) 510 (657 % 256)) 511 (657 / 256)) from set_F (k := 511) (v := 2) 511 (657 / 256) rfl rfl (by decide)]
  refine exs_app ((specX O 90).exs 40 (F0 cd _) _ _ _ ?_)
  refine Eq.mpr (s2_44 cd _ _ _ _ _ _ _ _ _ _ _ _ _ _ _ _ _ _ _ _ _ _ _ _ _ _ _ _ _ _ _ _ _ f tt ss p o (Tt : Int) (s : Int) _) ?_
  refine ⟨by decide, by decide, by decide, by decide, ?_⟩
  rw [show M0 (memL 1024 F) 593 = ms 1024 ⟨0, 0, 0, 255, 593, false, false, false, false, F⟩ ⟨0, 0, .bool false, .int 593⟩ from M0_ms F 593]
  refine exs_cons (st_runG O cd (i := 45) (W := ZM_2 a0 a1 a2 a3 a4 a5 a6 (.list [.obj 8, .obj 9]) (.tuple [.int (P0 : Int), .int (Q0 : Int)]) (.tuple [.int (P1 : Int), .int (Q1 : Int)]) a10 a11 a12 a13 a14 a15 a16 a17 a18 a19 a20 a21 a22 a23 a24 a25 a26 a27 a28 a29 a32 (memL 1024 (up (up (up (up (up (up (up (up (up (up (up F f P1) (f + 1) (P1 * Q1 % 256)) (f + 2) 0) (f + 3) 0) (f + 4) ((Tt - s * s) % 256)) (f + 5) ((Tt - s * s) / 256)) (f + 6) s) (f + 7) ((4 * (s / 2) + 1) % 256)) (f + 8) ((4 * (s / 2) + 1) / 256)) 510 (657 % 256)) 511 (657 / 256)))) (LS := LS_2 f tt ss p o (Tt : Int) (s : Int)) (LT := LT_2 f tt ss p o (Tt : Int) (s : Int)) (io := 34) (id := 33) (im := 30) (pe := 658) e45 e45n e45a (by decide) (s2_45a cd f tt ss p o (Tt : Int) (s : Int)) (s2_45b cd f tt ss p o (Tt : Int) (s : Int)) (s2_45 cd a0 a1 a2 a3 a4 a5 a6 (.list [.obj 8, .obj 9]) (.tuple [.int (P0 : Int), .int (Q0 : Int)]) (.tuple [.int (P1 : Int), .int (Q1 : Int)]) a10 a11 a12 a13 a14 a15 a16 a17 a18 a19 a20 a21 a22 a23 a24 a25 a26 a27 a28 a29 a32 _ f tt ss p o (Tt : Int) (s : Int)) (fun _ => rfl) (fun _ => rfl) (fun _ => rfl) (fun _ _ => rfl) (Nat.lt_succ_of_le hk) hr ⟨trivial, trivial⟩ E.hpc rfl fun t => ?_)
  refine exs_cons ((specX O 30).ex 40 (F0 cd (LT_2 f tt ss p o (Tt : Int) (s : Int) t)) _ _ _ ?_)
  refine Eq.mpr (s2_46 cd _ _ _ _ _ _ _ _ _ _ _ _ _ _ _ _ _ _ _ _ _ _ _ _ _ _ _ _ _ _ _ _ f tt ss p o (Tt : Int) (s : Int) (ms 1024 c' e') t _) ?_
  have e1 : [((ms 1024 c' e').pc : Int), (ms 1024 c' e').x, (ms 1024 c' e').y, (ms 1024 c' e').sp] = [(658 : Int), 0, 0, 255] := by
    show [(c'.pc : Int), (c'.x : Int), (c'.y : Int), (c'.sp : Int)] = _
    rw [E.hpc, E.hx, E.hy, E.hsp]; rfl
  exact ifB_d e1 (retQ fin hQ _ _ rfl)
end
end Mine

end
section
open PySem PySem.W PyProof.Rows
namespace Mine
noncomputable section
noncomputable abbrev LC_2 (f tt ss : Int) : Loc := [(v_script, AV.obj (0 : Nat)), (v_terms, AV.int (2 : Int)), (v_pairs, AV.obj (7 : Nat)), (v_factor, AV.int f), (v_low, AV.int (f + (1 : Int))), (v_whole, AV.int (f + (2 : Int))), (v_left, AV.int (f + (4 : Int))), (v_root, AV.int (f + (6 : Int))), (v_trial, AV.int (f + (7 : Int))), (v_these, AV.int tt), (v_those, AV.int ss), (v_times, AV.obj (10 : Nat)), (v_loop, AV.obj (13 : Nat)), (v_roots, AV.obj (17 : Nat)), (v_code, AV.obj (20 : Nat)), (v_start, AV.int (593 : Int)), (v_term, AV.int (1 : Int)), (v_end, AV.int 658), (v_memory, AV.obj (30 : Nat))]
noncomputable abbrev LP_2 (f tt ss p o : Int) : Loc := LC_2 f tt ss ++ [(v_place, .int p), (v_octet, .int o)]
noncomputable abbrev ZC_2 (a0 a1 a2 a3 a4 a5 a6 a7 a8 a9 a10 a11 a12 a13 a14 a15 a16 a17 a18 a19 a21 a22 a23 a24 a25 a26 a27 a28 a29 : AO) (c : List Int) (mm : AO) : List AO := [a0, a1, a2, a3, a4, a5, a6, a7, a8, a9, a10, a11, a12, a13, a14, a15, a16, a17, a18, a19, .intx c, a21, a22, a23, a24, a25, a26, a27, a28, a29, mm]
theorem s2_27a (cd : Value) (f tt ss p o : Int) (as : List AO) (Q : Loc → List AO → Prop) : storesW (F0 cd (LC_2 f tt ss)) [v_place, v_octet] [.int p, .int o] as Q = Q (LP_2 f tt ss p o) as := by kernel_rfl
theorem s2_27b (cd : Value) (f tt ss p o p' o' : Int) (as : List AO) (Q : Loc → List AO → Prop) : storesW (F0 cd (LP_2 f tt ss p' o')) [v_place, v_octet] [.int p, .int o] as Q = Q (LP_2 f tt ss p o) as := by kernel_rfl
theorem s2_27c (cd : Value) (a0 a1 a2 a3 a4 a5 a6 a7 a8 a9 a10 a11 a12 a13 a14 a15 a16 a17 a18 a19 a21 a22 a23 a24 a25 a26 a27 a28 a29 : AO) (c m : List Int) (f tt ss p o : Int) (Q : PF) : lxs kN 20 40 (F0 cd (LP_2 f tt ss p o)) (forBody 27) (ZC_2 a0 a1 a2 a3 a4 a5 a6 a7 a8 a9 a10 a11 a12 a13 a14 a15 a16 a17 a18 a19 a21 a22 a23 a24 a25 a26 a27 a28 a29 c (.ints m)) Q = ((0 ≤ 512 + p ∧ 512 + p < m.length ∧ 512 + p < 2 ^ 63) ∧ Q .next (LP_2 f tt ss p o) (ZC_2 a0 a1 a2 a3 a4 a5 a6 a7 a8 a9 a10 a11 a12 a13 a14 a15 a16 a17 a18 a19 a21 a22 a23 a24 a25 a26 a27 a28 a29 c (.ints (m.set (512 + p).toNat o)))) := by kernel_rfl
theorem s2_27d (cd : Value) (a0 a1 a2 a3 a4 a5 a6 a7 a8 a9 a10 a11 a12 a13 a14 a15 a16 a17 a18 a19 a21 a22 a23 a24 a25 a26 a27 a28 a29 : AO) (c m : List Int) (f tt ss p o : Int) (Q : PF) : lxs kN 20 40 (F0 cd (LP_2 f tt ss p o)) (forBody 27) (ZC_2 a0 a1 a2 a3 a4 a5 a6 a7 a8 a9 a10 a11 a12 a13 a14 a15 a16 a17 a18 a19 a21 a22 a23 a24 a25 a26 a27 a28 a29 c (.intx m)) Q = ((0 ≤ 512 + p ∧ 512 + p < m.length ∧ 512 + p < 2 ^ 63) ∧ Q .next (LP_2 f tt ss p o) (ZC_2 a0 a1 a2 a3 a4 a5 a6 a7 a8 a9 a10 a11 a12 a13 a14 a15 a16 a17 a18 a19 a21 a22 a23 a24 a25 a26 a27 a28 a29 c (.ints (m.set (512 + p).toNat o)))) := by kernel_rfl
theorem s2_32t (cd : Value) (as : List AO) (f tt ss p o tot told : Int) (Q : PB) : lt kN 20 40 (F0 cd (L32_2 f tt ss p o tot told)) (whT (stL 32)) as Q = ((Builtin.Int.intBits (told + 1) ≤ 64 ∨ Builtin.Int.intBits (told + 1) ≤ 64) ∧ Q (decide ((told + 1) * (told + 1) ≤ tot)) as) := by kernel_rfl
theorem s2_32b (cd : Value) (as : List AO) (f tt ss p o tot told : Int) (Q : PF) : lxs kN 20 40 (F0 cd (L32_2 f tt ss p o tot told)) (whB (stL 32)) as Q = Q .next (L32_2 f tt ss p o tot (told + 1)) as := by kernel_rfl
theorem wh2 {X : Cx} (O : KenOK X kN) (cd : Value) (as : List AO) (f tt ss p o : Int) {Tt : Nat} (hT : Tt < 65536) {Q : PF} (h : ∀ s : Nat, s < 256 → s * s ≤ Tt → Tt < (s + 1) * (s + 1) → Q .next (L32_2 f tt ss p o (Tt : Int) (s : Int)) as) :
    ExS X 40 (F0 cd (L32_2 f tt ss p o (Tt : Int) 0)) (stL 32) as Q := by
  rw [e32]
  refine st_while (N := 256) (fun n loc as' => ∃ u : Nat, loc = L32_2 f tt ss p o (Tt : Int) (u : Int) ∧ as' = as ∧ u * u ≤ Tt ∧ u + n = 256) ⟨0, rfl, rfl, Nat.zero_le _, rfl⟩ ?_
  rintro n loc as' ⟨u, rfl, rfl, hu, hn⟩
  have hu2 : u < 256 := by
    rcases Nat.lt_or_ge u 256 with q | q
    · exact q
    · have := Nat.mul_le_mul q q
      omega
  refine (specL O 20).ts 40 (F0 cd (L32_2 f tt ss p o (Tt : Int) (u : Int))) _ _ _ ?_
  refine Eq.mpr (s2_32t cd _ f tt ss p o (Tt : Int) (u : Int) _) ?_
  refine ⟨.inl (by rw [show (u : Int) + 1 = ((u + 1 : Nat) : Int) from rfl]; exact bits512 _ (by lia)), ?_⟩
  have ec : ((u : Int) + 1) * ((u : Int) + 1) = (((u + 1) * (u + 1) : Nat) : Int) := by rw [Int.natCast_mul]; rfl
  by_cases q : (u + 1) * (u + 1) ≤ Tt
  · rw [decide_eq_true (show ((u : Int) + 1) * ((u : Int) + 1) ≤ (Tt : Int) by rw [ec]; exact Int.ofNat_le.mpr q)]
    refine ifB_t ((specX O 20).exs 40 (F0 cd (L32_2 f tt ss p o (Tt : Int) (u : Int))) _ _ _ ?_)
    refine Eq.mpr (s2_32b cd _ f tt ss p o (Tt : Int) (u : Int) _) ?_
    exact ⟨n - 1, by omega, u + 1, rfl, rfl, q, by lia⟩
  · rw [decide_eq_false (show ¬ ((u : Int) + 1) * ((u : Int) + 1) ≤ (Tt : Int) by rw [ec]; exact fun z => q (Int.ofNat_le.mp z))]
    exact ifB_f (h u hu2 hu (Nat.lt_of_not_le q))
theorem mid2 {X : Cx} (O : KenOK X kN) (cd : Value) (a0 a1 a2 a3 a4 a5 a6 a10 a11 a12 a13 a14 a15 a16 a17 a18 a19 a21 a22 a23 a24 a25 a26 a27 a28 a29 : AO) {f t u P0 Q0 P1 Q1 : Nat} (hf0 : 16 ≤ f) (hf : f < 216) (ht : 768 ≤ t ∧ t < 868) (hu : 896 ≤ u ∧ u < 996) (hP0 : P0 < 256) (hQ0 : Q0 < 256) (hP1 : P1 < 256) (hQ1 : Q1 < 256) (hT : P0 * Q0 + P1 * Q1 < 65536) (Q : PF) (hQ : ∀ loc as, as[0]? = some a0 → Q (.ret (.bool true)) loc as) :
    ExsS X 40 (F0 cd (LC_2 (f : Int) (t : Int) (u : Int))) (stL 27 :: (stG 28 29 ++ (stG 29 32 ++ (stL 32 :: lawD.body.drop 33)))) (ZC_2 a0 a1 a2 a3 a4 a5 a6 (.list [.obj 8, .obj 9]) (.tuple [.int (P0 : Int), .int (Q0 : Int)]) (.tuple [.int (P1 : Int), .int (Q1 : Int)]) a10 a11 a12 a13 a14 a15 a16 a17 a18 a19 a21 a22 a23 a24 a25 a26 a27 a28 a29 ((C02 true f (t % 256) (t / 256) (u % 256) (u / 256)).map fun (b : Nat) => (b : Int)) (.intx (repL [170] 1024))) Q := by
  have hl : ((C02 true f (t % 256) (t / 256) (u % 256) (u / 256)).map fun (b : Nat) => (b : Int)).length = 146 := by rw [List.length_map]; rfl
  refine exs_cons (st_layG O cd (i := 27) (LD := LC_2 (f : Int) (t : Int) (u : Int)) (LP := LP_2 (f : Int) (t : Int) (u : Int)) (W := ZC_2 a0 a1 a2 a3 a4 a5 a6 (.list [.obj 8, .obj 9]) (.tuple [.int (P0 : Int), .int (Q0 : Int)]) (.tuple [.int (P1 : Int), .int (Q1 : Int)]) a10 a11 a12 a13 a14 a15 a16 a17 a18 a19 a21 a22 a23 a24 a25 a26 a27 a28 a29 ((C02 true f (t % 256) (t / 256) (u % 256) (u / 256)).map fun (b : Nat) => (b : Int))) (ic := 20) e27 e27n e27k e27g (s2_27a cd _ _ _) (s2_27b cd _ _ _) (by kernel_rfl) (fun _ => rfl) (fun m p o Q => s2_27c cd _ _ _ _ _ _ _ _ _ _ _ _ _ _ _ _ _ _ _ _ _ _ _ _ _ _ _ _ _ _ m _ _ _ p o Q) (fun m p o Q => s2_27d cd _ _ _ _ _ _ _ _ _ _ _ _ _ _ _ _ _ _ _ _ _ _ _ _ _ _ _ _ _ _ m _ _ _ p o Q) (by rw [hl]; decide) (by rw [hl]; decide) ?_)
  rw [hl, memE_F (C02 true f (t % 256) (t / 256) (u % 256) (u / 256)) 146 (Nat.le_refl _) (by show (146 : Nat) ≤ 512; decide)]
  have l0 : (memL 1024 (cF (C02 true f (t % 256) (t / 256) (u % 256) (u / 256)) 146)).length = 1024 := memL_len _ _
  refine exs_app ((specX O 60).exs 40 (F0 cd _) _ _ _ ?_)
  refine Eq.mpr (r2_28 cd _ _ _ _ _ _ _ _ _ _ _ _ _ _ _ _ _ _ _ _ _ _ _ _ _ _ _ _ (f : Int) (t : Int) (u : Int) _ _ (P0 : Int) (Q0 : Int) (P1 : Int) (Q1 : Int) _) ?_
  refine ⟨rfl, ⟨by decide, by decide⟩, idx_ok (t + 0) rfl (by lia) l0, ⟨by decide, by decide⟩, idx_ok (u + 0) rfl (by lia) (len7 l0), rfl, ⟨by decide, by decide⟩, idx_ok (t + 1) rfl (by lia) (len7 (len7 l0)), ⟨by decide, by decide⟩, idx_ok (u + 1) rfl (by lia) (len7 (len7 (len7 l0))), rfl, ?_⟩
  rw [set_F (k := (t : Int) + 0) (v := (P0 : Int)) (t + 0) P0 rfl rfl (by lia), set_F (k := (u : Int) + 0) (v := (Q0 : Int)) (u + 0) Q0 rfl rfl (by lia), set_F (k := (t : Int) + 1) (v := (P1 : Int)) (t + 1) P1 rfl rfl (by lia), set_F (k := (u : Int) + 1) (v := (Q1 : Int)) (u + 1) Q1 rfl rfl (by lia)]
  have l1 : (memL 1024 (up (up (up (up (cF (C02 true f (t % 256) (t / 256) (u % 256) (u / 256)) 146) (t + 0) P0) (u + 0) Q0) (t + 1) P1) (u + 1) Q1)).length = 1024 := memL_len _ _
  refine exs_app ((specX O 60).exs 40 (F0 cd _) _ _ _ ?_)
  refine Eq.mpr (r2_29 cd _ _ _ _ _ _ _ _ _ _ _ _ _ _ _ _ _ _ _ _ _ _ _ _ _ _ _ _ (f : Int) (t : Int) (u : Int) _ _ (P0 : Int) (Q0 : Int) (P1 : Int) (Q1 : Int) _) ?_
  refine ⟨by rw [l1]; decide, rfl, rfl, .inl (bits256 _ hP0), rfl, rfl, .inl (bits256 _ hP1), rfl, ?_⟩
  have etot : List.sum [(P0 : Int) * (Q0 : Int), (P1 : Int) * (Q1 : Int)] = ((P0 * Q0 + P1 * Q1 : Nat) : Int) := by simp
  rw [etot]
  have et : t % 256 + 256 * (t / 256) = t := Nat.mod_add_div t 256
  have eu : u % 256 + 256 * (u / 256) = u := Nat.mod_add_div u 256
  have hm : ∀ i, (up (up (up (up (cF (C02 true f (t % 256) (t / 256) (u % 256) (u / 256)) 146) (t + 0) P0) (u + 0) Q0) (t + 1) P1) (u + 1) Q1) i < 256 := bound_up (bound_up (bound_up (bound_up (cF_lt rfl (by
    have b0 : f < 256 := by lia
    have b1 : f + 1 < 256 := by lia
    have b2 : f + 2 < 256 := by lia
    have b3 : f + 3 < 256 := by lia
    have b4 : f + 4 < 256 := by lia
    have b5 : f + 5 < 256 := by lia
    have b6 : f + 6 < 256 := by lia
    have b7 : f + 7 < 256 := by lia
    have b8 : f + 8 < 256 := by lia
    have c0 : t % 256 < 256 := Nat.mod_lt _ (by decide)
    have c1 : t / 256 < 256 := by lia
    have c2 : u % 256 < 256 := Nat.mod_lt _ (by decide)
    have c3 : u / 256 < 256 := by lia
    unfold C02 c02_2
    dsimp only [cond]
    repeat first
      | exact fun x hx => absurd hx List.not_mem_nil
      | refine List.forall_mem_cons.mpr ⟨by first | assumption | decide, ?_⟩)) hP0) hQ0) hP1) hQ1
  have W0 : WF (C02 true f (t % 256) (t / 256) (u % 256) (u / 256)) 1024 ⟨0, 0, 0, 255, 593, false, false, false, false, (up (up (up (up (cF (C02 true f (t % 256) (t / 256) (u % 256) (u / 256)) 146) (t + 0) P0) (u + 0) Q0) (t + 1) P1) (u + 1) Q1)⟩ := by
    refine ⟨show (0 : Nat) < 256 by decide, show (0 : Nat) < 256 by decide, show (0 : Nat) < 256 by decide, show (255 : Nat) < 256 by decide, hm, fun i b hib => ?_, by show 512 + 146 ≤ 1024; decide, by decide, by show (593 : Nat) ≤ 60000; decide⟩
    have hi : i < 146 := (List.getElem?_eq_some_iff.mp hib).1
    show (up (up (up (up (cF (C02 true f (t % 256) (t / 256) (u % 256) (u / 256)) 146) (t + 0) P0) (u + 0) Q0) (t + 1) P1) (u + 1) Q1) (512 + i) = b
    rw [up_ne (by lia), up_ne (by lia), up_ne (by lia), up_ne (by lia)]
    exact cF_at rfl hib
  have R0 : W2 true f (t % 256) (t / 256) (u % 256) (u / 256) 499 ⟨0, 0, 0, 255, 593, false, false, false, false, (up (up (up (up (cF (C02 true f (t % 256) (t / 256) (u % 256) (u / 256)) 146) (t + 0) P0) (u + 0) Q0) (t + 1) P1) (u + 1) Q1)⟩ (End2 true f P1 Q1 (P0 * Q0 + P1 * Q1) (up (up (up (up (cF (C02 true f (t % 256) (t / 256) (u % 256) (u / 256)) 146) (t + 0) P0) (u + 0) Q0) (t + 1) P1) (u + 1) Q1)) := by
    refine start2_2 (by lia) (by rw [et]; lia) (by rw [eu]; lia) ?_ ?_ ?_ ?_ hT
    · rw [et, up_ne (by lia), up_ne (by lia), up_ne (by lia), up_eq rfl]
    · rw [eu, up_ne (by lia), up_ne (by lia), up_eq rfl]
    · rw [et, up_ne (by lia), up_eq rfl]
    · rw [eu, up_eq rfl]
  refine exs_cons (wh2 O cd _ _ _ _ _ _ hT fun s hs h3 h4 => ?_)
  exact tail2 O cd _ _ _ _ _ _ _ _ _ _ _ _ _ _ _ _ _ _ _ _ _ _ _ _ _ _ _ _ _ _ _ _ (by lia) hP1 hs h3 h4 W0 R0 Q hQ
end
end Mine

end
section
open PySem PySem.W PyProof.Rows
namespace Mine
noncomputable section
theorem midc2 {X : Cx} (O : KenOK X kN) (cd : Value) (a0 a1 a2 a3 a4 a5 a6 a10 a11 a12 a13 a14 a15 a16 a17 a18 a19 a21 a22 a23 a24 a25 a26 a27 a28 a29 : AO) {f t u P0 Q0 P1 Q1 : Nat} {c : List Int} (hf0 : 16 ≤ f) (hf : f < 216) (ht : 768 ≤ t ∧ t < 868) (hu : 896 ≤ u ∧ u < 996) (hP0 : P0 < 256) (hQ0 : Q0 < 256) (hP1 : P1 < 256) (hQ1 : Q1 < 256) (hT : P0 * Q0 + P1 * Q1 < 65536) (Q : PF) (hQ : ∀ loc as, as[0]? = some a0 → Q (.ret (.bool true)) loc as)
    (hc : c = (C02 true f (t % 256) (t / 256) (u % 256) (u / 256)).map fun (b : Nat) => (b : Int)) : ExsS X 40 (F0 cd (LC_2 (f : Int) (t : Int) (u : Int))) (stL 27 :: (stG 28 29 ++ (stG 29 32 ++ (stL 32 :: lawD.body.drop 33)))) (ZC_2 a0 a1 a2 a3 a4 a5 a6 (.list [.obj 8, .obj 9]) (.tuple [.int (P0 : Int), .int (Q0 : Int)]) (.tuple [.int (P1 : Int), .int (Q1 : Int)]) a10 a11 a12 a13 a14 a15 a16 a17 a18 a19 a21 a22 a23 a24 a25 a26 a27 a28 a29 c (.intx (repL [170] 1024))) Q := by
  subst hc
  exact mid2 O cd a0 a1 a2 a3 a4 a5 a6 a10 a11 a12 a13 a14 a15 a16 a17 a18 a19 a21 a22 a23 a24 a25 a26 a27 a28 a29 hf0 hf ht hu hP0 hQ0 hP1 hQ1 hT Q hQ
theorem head2 {X : Cx} (O : KenOK X kN) (cd : Value) (a0 a3 a4 a5 : AO) {d0 d1 d2 d3 d4 d5 : Int} {f t u P0 Q0 P1 Q1 : Nat} (ef : 16 + d1.fmod 200 = (f : Int)) (et : 768 + (3 * d1).fmod 100 = (t : Int)) (eu : 896 + (7 * d1).fmod 100 = (u : Int)) (eP0 : d2.fmod 182 = (P0 : Int)) (eQ0 : d3.fmod 182 = (Q0 : Int)) (hP0 : P0 < 256) (hQ0 : Q0 < 256) (eP1 : d4.fmod 182 = (P1 : Int)) (eQ1 : d5.fmod 182 = (Q1 : Int)) (hP1 : P1 < 256) (hQ1 : Q1 < 256) (hf0 : 16 ≤ f) (hf : f < 216) (ht : 768 ≤ t ∧ t < 868) (hu : 896 ≤ u ∧ u < 996) (hT : P0 * Q0 + P1 * Q1 < 65536) (Q : PF) (hQ : ∀ loc as, as[0]? = some a0 → Q (.ret (.bool true)) loc as) :
    ExsS X 40 (F0 cd (lsc ++ [(v_terms, .int 2)])) (stG 2 4 ++ lawD.body.drop 4) [a0, .cell none, .cell (some (.obj 6)), a3, a4, a5, .intx [d0, d1, d2, d3, d4, d5]] Q := by
  refine exs_app ((specX O 40).exs 40 (F0 cd _) _ _ _ ?_)
  refine Eq.mpr (r2_2 cd _ _ _ _ d0 d1 d2 d3 d4 d5 _) ?_
  refine ⟨⟨⟨⟨by decide, by decide⟩, by decide, by decide⟩, by decide⟩, .inl (by decide), by decide, by decide, .inl (by decide), by decide, by decide, .inl (by decide), by decide, by decide, .inl (by decide), by decide, by decide, ?_⟩
  rw [eP0, eQ0, eP1, eQ1]
  rw [body4]
  refine exs_app ((specX O 40).exs 40 (F0 cd _) _ _ _ ?_)
  refine Eq.mpr (r2_4 cd _ _ _ _ _ _ _ _ d0 d1 d2 d3 d4 d5 _) ?_
  refine ⟨by decide, by decide, by decide, .inl (by decide), by decide, by decide, .inl (by decide), by decide, ?_⟩
  rw [ef, et, eu]
  refine exs_app ((specX O 60).exs 40 (F0 cd _) _ _ _ ?_)
  refine Eq.mpr (r2_12 cd _ _ _ _ _ _ _ _ _ _ (f : Int) (t : Int) (u : Int) _) ?_
  refine ⟨by decide, by decide, by decide, ?_⟩
  refine exs_app ((specX O 60).exs 40 (F0 cd _) _ _ _ ?_)
  refine Eq.mpr (r2_16 cd _ _ _ _ _ _ _ _ _ _ _ _ _ (f : Int) (t : Int) (u : Int) _) ?_
  refine ⟨by decide, by decide, ?_⟩
  refine exs_app ((specX O 60).exs 40 (F0 cd _) _ _ _ ?_)
  refine Eq.mpr (r2_19 cd _ _ _ _ _ _ _ _ _ _ _ _ _ _ _ (f : Int) (t : Int) (u : Int) _) ?_
  refine ⟨by decide, by decide, by decide, ?_⟩
  refine exs_app ((specX O 60).exs 40 (F0 cd _) _ _ _ ?_)
  refine Eq.mpr (r2_20 cd _ _ _ _ _ _ _ _ _ _ _ _ _ _ _ _ _ (f : Int) (t : Int) (u : Int) _) ?_
  refine ⟨by decide, by decide, by decide, ?_⟩
  refine exs_app ((specX O 60).exs 40 (F0 cd _) _ _ _ ?_)
  refine Eq.mpr (r2_23 cd _ _ _ _ _ _ _ _ _ _ _ _ _ _ _ _ _ _ (f : Int) (t : Int) (u : Int) _) ?_
  refine ⟨⟨⟨by decide, by decide⟩, by decide, by decide⟩, by decide, ⟨by decide, rfl⟩, by decide, by decide, ⟨by decide, rfl⟩, by decide, by decide, by decide, ⟨by decide, rfl⟩, by decide, by decide, ⟨by decide, rfl⟩, by decide, by decide, ?_⟩
  rw [body24]
  refine exs_app ((specX O 60).exs 40 (F0 cd _) _ _ _ ?_)
  refine Eq.mpr (r2_24 cd _ _ _ _ _ _ _ _ _ _ _ _ _ _ _ _ _ _ _ _ _ _ _ _ (f : Int) (t : Int) (u : Int) _) ?_
  refine ⟨by decide, by decide, by decide, by decide, ?_⟩
  refine midc2 O cd a0 _ _ _ _ _ _ _ _ _ _ _ _ _ _ _ _ _ _ _ _ _ _ _ _ _ hf0 hf ht hu hP0 hQ0 hP1 hQ1 hT Q hQ ?_
  rw [mod_c (rfl : (t : Int) = (t : Int)), div_c (rfl : (t : Int) = (t : Int)), mod_c (rfl : (u : Int) = (u : Int)), div_c (rfl : (u : Int) = (u : Int))]
  kernel_rfl
end
end Mine

end
section
open PySem PySem.W PyProof.Rows
namespace Mine
noncomputable section
noncomputable abbrev dfl6 : List Int := [0, 0, 200, 177, 90, 33]
theorem r0_0 (cd : Value) (o : Obj) (Q : PF) : lx kN 30 40 (F0 cd lsc) (stL 0) [.fix o, .cell none, .cell none] Q =
    (∃ ns, FixI o ns ∧ ns.length ≤ 100000 ∧ (0 : Int) ≤ 6 ∧ ∃ ms, FixI o ms ∧ ms.length ≤ 1000000 ∧ dfl6.length ≤ 100000 ∧ (0 : Int) ≤ ms.length ∧ (ns.take 6).length + (dfl6.drop ms.length).length ≤ 100000 ∧
      Q .next lsc [.fix o, .cell none, .cell (some (.obj 6)), .intx (ns.take 6), .intx dfl6, .intx (dfl6.drop ms.length), .intx (ns.take 6 ++ dfl6.drop ms.length)]) := by kernel_rfl
theorem r0_1 (cd : Value) (a0 a1 a3 a4 a5 : AO) (d0 d1 d2 d3 d4 d5 : Int) (Q : PF) : lx kN 30 40 (F0 cd lsc) (stL 1) [a0, a1, .cell (some (.obj 6)), a3, a4, a5, .intx [d0, d1, d2, d3, d4, d5]] Q =
    (((0 : Int) ≤ 0 ∧ (0 : Int) < 6 ∧ (0 : Int) < 9223372036854775808) ∧ (2 : Int) ≠ 0 ∧ Q .next (lsc ++ [(v_terms, .int (Int.fmod d0 2 + 1))]) [a0, a1, .cell (some (.obj 6)), a3, a4, a5, .intx [d0, d1, d2, d3, d4, d5]]) := by kernel_rfl
theorem six {l : List Int} (h : l.length = 6) : ∃ a b c d e f, l = [a, b, c, d, e, f] := by
  match l, h with
  | [a, b, c, d, e, f], _ => exact ⟨a, b, c, d, e, f, rfl⟩
theorem drawn6 (ns : List Int) : (ns.take 6 ++ dfl6.drop ns.length).length = 6 := by
  rw [List.length_append, List.length_take, List.length_drop]
  show min 6 ns.length + (6 - ns.length) = 6
  omega
theorem fm_nat (a : Int) {b : Nat} (h : 0 < b) : ∃ n : Nat, a.fmod (b : Int) = n ∧ n < b := by
  have p := fm_pos a (b := (b : Int)) (by lia)
  obtain ⟨n, hn⟩ := nat_of p.1
  exact ⟨n, hn, by have := p.2; rw [hn] at this; (clear p; lia)⟩
theorem mul_lt {a b c : Nat} (ha : a < c) (hb : b < c) : a * b ≤ (c - 1) * (c - 1) := Nat.mul_le_mul (by lia) (by lia)
theorem law02 {X : Cx} (O : KenOK X kN) (cd : Value) (ob : Obj) (ns : List Int) (hI : FixI ob ns) (hl : ns.length ≤ 63) (Q : PF) (hQ : ∀ loc as, as[0]? = some (.fix ob) → Q (.ret (.bool true)) loc as) :
    ExsS X 40 (F0 cd lsc) lawD.body [.fix ob, .cell none, .cell none] Q := by
  rw [body0]
  refine exs_cons ((specX O 30).ex 40 (F0 cd lsc) _ _ _ ?_)
  refine Eq.mpr (r0_0 cd ob _) ?_
  refine ⟨ns, hI, by lia, by decide, ns, hI, by lia, by decide, by lia, ?_, ?_⟩
  · have := drawn6 ns
    rw [List.length_append] at this
    lia
  obtain ⟨d0, d1, d2, d3, d4, d5, hD⟩ := six (drawn6 ns)
  rw [hD]
  refine exs_cons ((specX O 30).ex 40 (F0 cd lsc) _ _ _ ?_)
  refine Eq.mpr (r0_1 cd _ _ _ _ _ d0 d1 d2 d3 d4 d5 _) ?_
  refine ⟨by decide, by decide, ?_⟩
  refine El_ea (fm_nat d1 (b := 200) (by decide)) fun f hf hf2 => ?_
  refine El_ea (fm_nat (3 * d1) (b := 100) (by decide)) fun t ht ht2 => ?_
  refine El_ea (fm_nat (7 * d1) (b := 100) (by decide)) fun u hu hu2 => ?_
  have ef : 16 + d1.fmod 200 = ((16 + f : Nat) : Int) := by rw [show d1.fmod 200 = (f : Int) from hf]; lia
  have et : 768 + (3 * d1).fmod 100 = ((768 + t : Nat) : Int) := by rw [show (3 * d1).fmod 100 = (t : Int) from ht]; lia
  have eu : 896 + (7 * d1).fmod 100 = ((896 + u : Nat) : Int) := by rw [show (7 * d1).fmod 100 = (u : Int) from hu]; lia
  refine El_ea (fm_nat d0 (b := 2) (by decide)) fun k hk hk2 => ?_
  rw [show Int.fmod d0 2 = (k : Int) from hk]
  rcases (show k = 0 ∨ k = 1 by (clear hk; lia)) with rfl | rfl
  · refine El_ea (fm_nat d2 (b := 256) (by decide)) fun p0 e0 b0 => ?_
    refine El_ea (fm_nat d3 (b := 256) (by decide)) fun q0 g0 c0 => ?_
    exact head1 O cd _ _ _ _ ef et eu e0 g0 b0 c0 (by lia) (by (clear hf; lia)) (by (clear et; omega)) (by (clear eu; omega)) (Nat.lt_of_le_of_lt (mul_lt b0 c0) (by decide)) Q hQ
  · refine El_ea (fm_nat d2 (b := 182) (by decide)) fun p0 e0 b0 => ?_
    refine El_ea (fm_nat d3 (b := 182) (by decide)) fun q0 g0 c0 => ?_
    refine El_ea (fm_nat d4 (b := 182) (by decide)) fun p1 e1 b1 => ?_
    refine El_ea (fm_nat d5 (b := 182) (by decide)) fun q1 g1 c1 => ?_
    exact head2 O cd _ _ _ _ ef et eu e0 g0 (by (clear e0; lia)) (by (clear g0; lia)) e1 g1 (by (clear e1; lia)) (by (clear g1; lia)) (by lia) (by (clear hf; lia)) (by (clear et; omega)) (by (clear eu; omega)) (Nat.lt_of_le_of_lt (Nat.add_le_add (mul_lt b0 c0) (mul_lt b1 c1)) (by decide)) Q hQ
end
end Mine

end
section
open PySem PySem.W PyProof.Rows
namespace Mine
noncomputable section
theorem p2a (w : World) (os : OsState) (k : Result → Sem Fin) : piece w os k 1000 16 36 := by kernel_rfl
theorem p2b (w : World) (os : OsState) (k : Result → Sem Fin) : piece w os k 1000 36 56 := by kernel_rfl
theorem p2x (w : World) (os : OsState) (k : Result → Sem Fin) : Rn w os k 2000 16 56 := Rn_tr rfl (Rn_of rfl (p2a w os k)) (Rn_of rfl (p2b w os k))
theorem p3a (w : World) (os : OsState) (k : Result → Sem Fin) : piece w os k 1000 56 76 := by kernel_rfl
theorem p3b (w : World) (os : OsState) (k : Result → Sem Fin) : piece w os k 1000 76 96 := by kernel_rfl
theorem p3x (w : World) (os : OsState) (k : Result → Sem Fin) : Rn w os k 2000 56 96 := Rn_tr rfl (Rn_of rfl (p3a w os k)) (Rn_of rfl (p3b w os k))
theorem p4a (w : World) (os : OsState) (k : Result → Sem Fin) : piece w os k 1000 96 116 := by kernel_rfl
theorem p4b (w : World) (os : OsState) (k : Result → Sem Fin) : piece w os k 1000 116 136 := by kernel_rfl
theorem p4x (w : World) (os : OsState) (k : Result → Sem Fin) : Rn w os k 2000 96 136 := Rn_tr rfl (Rn_of rfl (p4a w os k)) (Rn_of rfl (p4b w os k))
theorem p5a (w : World) (os : OsState) (k : Result → Sem Fin) : piece w os k 1000 136 156 := by kernel_rfl
theorem p5b (w : World) (os : OsState) (k : Result → Sem Fin) : piece w os k 1000 156 176 := by kernel_rfl
theorem p5x (w : World) (os : OsState) (k : Result → Sem Fin) : Rn w os k 2000 136 176 := Rn_tr rfl (Rn_of rfl (p5a w os k)) (Rn_of rfl (p5b w os k))
theorem p6a (w : World) (os : OsState) (k : Result → Sem Fin) : piece w os k 1000 176 195 := by kernel_rfl
theorem p6b (w : World) (os : OsState) (k : Result → Sem Fin) : piece w os k 1000 195 214 := by kernel_rfl
theorem p6x (w : World) (os : OsState) (k : Result → Sem Fin) : Rn w os k 2000 176 214 := Rn_tr rfl (Rn_of rfl (p6a w os k)) (Rn_of rfl (p6b w os k))
theorem p7a (w : World) (os : OsState) (k : Result → Sem Fin) : piece w os k 2000 214 215 := by kernel_rfl
theorem p7x (w : World) (os : OsState) (k : Result → Sem Fin) : Rn w os k 2000 214 215 := Rn_of rfl (p7a w os k)
theorem p8a (w : World) (os : OsState) (k : Result → Sem Fin) : piece w os k 2000 215 217 := by kernel_rfl
theorem p8x (w : World) (os : OsState) (k : Result → Sem Fin) : Rn w os k 2000 215 217 := Rn_of rfl (p8a w os k)
end
end Mine

end
section
open PySem PySem.W PyProof.Rows
namespace Mine
noncomputable section
theorem reads_in {w : World} {s₀ s₁ : Shared} {args : List WData} {vals : List Value} {as : List Addr} (hpre : RW.row.toRowW.claim.pre args = true) (hlay : WData.layableAll args = true) (hrd : ReadsAllW RW.row.toRowW.records (classAt s₀.heap) s₁.heap vals args as) (hwl : WellAll w.params s₁.heap vals args) (hlo : ∀ a ∈ as, (a == sysModules) = false) :
    ∃ (ns : List Int) (a : Addr) (o : Obj), ns.length ≤ 63 ∧ vals = [.ref a] ∧ s₁.heap.get? a = some o ∧ FixI o ns := by
  wrow_args hpre hlay hrd hwl hlo
  rename_i ns _ _ _ _ _ _ _ a vs _ hL _ _ _ hI _ h63 _
  refine El_eaae hL fun o g c m d => ?_; try clear hL
  exact ⟨ns, a, o, by lia, rfl, g, c, _, m, d, by simpa using hI⟩
noncomputable def TB80 : TabE := ⟨80, wb.lp, dW.qual ++ "<lambda>"⟩
noncomputable def cx (w : World) (s : Shared) (a : Addr) : Cx := ⟨RW.row.toRowW.prog, w, hideAll s.heap [80, a], s.gens, s.os, ⟨[TB80], []⟩⟩
section
variable {w : World} {s : Shared} {es : Array DictEntry} {n : Nat} {a : Addr} {o : Obj} {ns : List Int}
theorem cx_keep (w : World) {b : Addr} {ob : Obj} (hb : s.heap.get? b = some ob) (n80 : b ≠ 80) (na : b ≠ a) : (cx w s a).h₀.get? b = some ob :=
  hideAll_get _ hb fun m => by
    simp only [List.mem_cons, List.not_mem_nil, or_false] at m
    rcases m with m | m
    · exact n80 m
    · exact na m
theorem neA_cls (ha : s.heap.get? a = some o) (hI : FixI o ns) {b : Addr} {ob : Obj} (hb : s.heap.get? b = some ob) (h : ob.cls ≠ .type "list") : b ≠ a := fun e => by
  subst e; rw [ha] at hb; cases hb; exact h hI.1
theorem neA_data (ha : s.heap.get? a = some o) (hI : FixI o ns) {b : Addr} {ob : Obj} (hb : s.heap.get? b = some ob) (h : ∀ vs m, ob.data ≠ .seq vs m) : b ≠ a := fun e => by
  subst e; rw [ha] at hb; cases hb
  obtain ⟨_, vs, m, d, _⟩ := hI
  exact h vs m d
theorem ne80_cls (M : MpuAt s.heap es n) {b : Addr} {ob : Obj} (hb : s.heap.get? b = some ob) (h : ob.cls ≠ .none) : b ≠ 80 := fun e => by
  subst e; rw [M.tab] at hb; cases hb; exact h rfl
theorem ne80_data (M : MpuAt s.heap es n) {b : Addr} {ob : Obj} (hb : s.heap.get? b = some ob) (h : ob.data ≠ .fields #[]) : b ≠ 80 := fun e => by
  subst e; rw [M.tab] at hb; cases hb; exact h rfl
theorem fObj_all : metNames.map (fun x => (fObj x.2.1 x.2.2).cls) = metNames.map fun _ => Value.type "function" := by kernel_rfl
theorem tab_len : ∀ (i : Nat) (c : Value) (vs : List Value), tabVals[i]? = some (some (c, vs)) → vs.length = 256 ∧ c = .type "list"
  | 0, c, vs, h => by
    have : some (some (Value.type "list", instrL.map Value.ref)) = some (some (c, vs)) := h
    simp only [Option.some.injEq, Prod.mk.injEq] at this
    obtain ⟨rfl, rfl⟩ := this
    exact ⟨by kernel_rfl, rfl⟩
  | 1, c, vs, h => by
    have : some (some (Value.type "list", cycL.map fun i => Value.int i 0)) = some (some (c, vs)) := h
    simp only [Option.some.injEq, Prod.mk.injEq] at this
    obtain ⟨rfl, rfl⟩ := this
    exact ⟨by kernel_rfl, rfl⟩
  | 2, c, vs, h => by
    have : some (some (Value.type "list", extL.map fun i => Value.int i 0)) = some (some (c, vs)) := h
    simp only [Option.some.injEq, Prod.mk.injEq] at this
    obtain ⟨rfl, rfl⟩ := this
    exact ⟨by kernel_rfl, rfl⟩
  | k + 3, c, vs, h => by cases h
theorem tab_some : ∀ (i : Nat) (x : Str × Addr), tabNames[i]? = some x → ∃ c vs, tabVals[i]? = some (some (c, vs))
  | 0, _, _ => ⟨_, _, rfl⟩
  | 1, _, _ => ⟨_, _, rfl⟩
  | 2, _, _ => ⟨_, _, rfl⟩
  | k + 3, x, h => by cases h
theorem mpuB (w : World) (M : MpuAt s.heap es n) (ha : s.heap.get? a = some o) (hI : FixI o ns) (hn : ns.length ≤ 63) : MpuB (cx w s a).h₀ es n := by
  refine ⟨cx_keep w M.cls (ne80_cls M M.cls (by nofun)) (neA_cls ha hI M.cls (by nofun)), cx_keep w M.nso (ne80_cls M M.nso (by nofun)) (neA_data ha hI M.nso (fun _ _ => by nofun)), M.look, fun x hx => ?_, fun x hx => ?_, fun i x hx => ?_, ?_, ?_⟩
  · have g := M.fns x hx
    have c : (fObj x.2.1 x.2.2).cls = .type "function" := map_all fObj_all x hx
    exact cx_keep w g (ne80_cls M g (by rw [c]; nofun)) (neA_cls ha hI g (by rw [c]; decide))
  · refine El_ea (M.codes x hx) fun ob g e => ?_
    refine El_eea (codeQ_of e) fun vs t e1 e2 => ?_
    refine ⟨ob, cx_keep w g (ne80_data M g ?_) (neA_data ha hI g (fun _ _ => by rw [e1]; nofun)), e⟩
    rw [e1]; intro q; injection q with q; subst q; cases e2
  · refine El_ea (M.tabs i x hx) fun ob g e => ?_
    refine El_ee (tab_some i x hx) fun c vs ev => ?_
    rw [ev] at e
    obtain ⟨l, rfl⟩ := tab_len i c vs ev
    refine El_aeea (seq_is (Option.some.inj e)) fun c1 xs m d b => ?_
    refine ⟨ob, cx_keep w g (ne80_cls M g (by rw [c1]; nofun)) fun q => ?_, by rw [ev]; exact e⟩
    rw [q, ha] at g; cases g
    obtain ⟨_, vs', m', d', r⟩ := hI
    rw [d] at d'; cases d'
    have h1 := r.length
    have h2 : xs.toList.length = 256 := by rw [← l, ← b, List.length_map]
    lia
  · refine El_ea M.dflt fun ob g e => ?_
    obtain ⟨c, _⟩ := seq_is e
    exact ⟨ob, cx_keep w g (ne80_cls M g (by rw [c]; nofun)) (neA_cls ha hI g (by rw [c]; decide)), e⟩
  · refine El_ea M.code fun ob g e => ?_
    have d : ∃ vs, ob.data = .fields vs ∧ ob.cls = .type "code" := by
      unfold codeHd at e
      split at e
      · rename_i vs d
        simp only [Option.some.injEq, Prod.mk.injEq] at e
        exact ⟨vs, d, e.1⟩
      · cases e
    refine El_ea d fun vs d c => ?_
    exact ⟨ob, cx_keep w g (ne80_cls M g (by rw [c]; nofun)) (neA_cls ha hI g (by rw [c]; decide)), e⟩
theorem ns_get (w : World) (M : MpuAt s.heap es n) (ha : s.heap.get? a = some o) (hI : FixI o ns) {b : Addr} {m : Str → Option Value} (h : s.heap.Ns b m) : (cx w s a).h₀.Ns b m := by
  obtain ⟨ob, e, ep, g, d, r⟩ := h
  exact ⟨ob, e, ep, cx_keep w g (ne80_data M g (by rw [d]; nofun)) (neA_data ha hI g (fun _ _ => by rw [d]; nofun)), d, r⟩
theorem lim_get (w : World) (M : MpuAt s.heap es n) (ha : s.heap.get? a = some o) (hI : FixI o ns) (h : s.heap.NoLimit) : (cx w s a).h₀.NoLimit := let ⟨m, x, y⟩ := h; ⟨m, ns_get w M ha hI x, y⟩
theorem start_S (w : World) (M : MpuAt s.heap es n) (ha : s.heap.get? a = some o) (hI : FixI o ns) : (cx w s a).S [a] [.fix o] s := by
  have n80 : a ≠ 80 := ne80_cls M ha (by rw [hI.1]; nofun)
  refine ⟨⟨rfl, by simp, fun i ob b h1 h2 => ?_⟩, fun b ob e => of_hideAll _ e, fun b hb => hideAll_none _ ?_, rfl, rfl, fun e he => ?_, fun e he => ?_, fun e he => ?_, List.nil_prefix⟩
  · cases i with
    | zero => cases h1; cases h2; exact ⟨o, ha, rfl⟩
    | succ i => cases h1
  · rw [List.mem_singleton] at hb; subst hb; exact .tail _ (.head _)
  · have : e = TB80 := List.mem_singleton.mp he
    subst this
    exact .inl M.tab
  · have : e = TB80 := List.mem_singleton.mp he
    subst this
    intro q; exact n80 (List.mem_singleton.mp q).symm
  · have : e = TB80 := List.mem_singleton.mp he
    subst this
    exact hideAll_none _ (.head _)
theorem wok (w : World) {mg : Str → Option Value} (M : MpuAt s.heap es n) (ha : s.heap.get? a = some o) (hI : FixI o ns) (hn : ns.length ≤ 63) (hl : s.heap.NoLimit) (hg : s.heap.Ns 3 mg)
    (hb : ∃ bm ob, mg "__builtins__" = some (.ref bm) ∧ bm ≠ builtinsNs ∧ s.heap.get? bm = some ob ∧ ob.cls = .type "module" ∧ ob.dict = some builtinsNs ∧ ob.data = .plain) : WOK (cx w s a) := by
  have B := mpuB w M ha hI hn
  obtain ⟨K, hK⟩ := cls_ok B (lim_get w M ha hI hl)
  refine ⟨⟨K, hK.ok⟩, fns_ok B, fnW_ok B, codeHd_ok B, ⟨mg, ns_get w M ha hI hg, ?_⟩, .head _, fun e he _ => List.mem_singleton.mp he⟩
  refine El_eeaaaaa hb fun bm ob e1 e2 e3 e4 e5 e6 => ?_; try clear hb
  have n80 := ne80_cls M e3 (by rw [e4]; nofun)
  refine ⟨bm, ob, e1, e2, fun q => ?_, n80, cx_keep w e3 n80 (neA_cls ha hI e3 (by rw [e4]; decide)), e4, e5, e6⟩
  obtain ⟨og, eg, ep, g, d, _⟩ := hg
  rw [show bm = 3 from q, g] at e3; cases e3
  rw [d] at e6; cases e6
end
end
end Mine

end
section
open PySem PySem.W PyProof.Rows
namespace Mine
noncomputable section
theorem hasN_not : ∀ {l : List Str} {x : Str}, hasN l x = false → x ∉ l
  | [], _, _, m => by cases m
  | y :: r, x, h, m => by
    unfold hasN at h
    split at h
    · cases h
    · rename_i q
      rcases List.mem_cons.mp m with e | m
      · subst e; rw [seq_iff.mpr rfl] at q; cases q
      · exact hasN_not h m
noncomputable def takenN : List Str := startupNames ++ (looseW qP looseL ++ ((recsOf qP).map (·.name) ++ ((litsOf qP).map (·.1) ++ (clssOf qP (looseW qP looseL)).map (·.name))))
theorem free_of {mean : ExcName → Option Value} {mg mb : Str → Option Value} {h : Heap} (T : Top qP (looseW qP looseL) mean mg mb h) {x : Str} (hx : hasN takenN x = false) : mg x = none := by
  have m := hasN_not hx
  unfold takenN at m
  simp only [List.mem_append, not_or] at m
  exact T.free x m.1 m.2.1 m.2.2.1 m.2.2.2.1 m.2.2.2.2
noncomputable abbrev sLen : Str := nS [108, 101, 110]
noncomputable abbrev sEnum : Str := nS [101, 110, 117, 109, 101, 114, 97, 116, 101]
noncomputable abbrev sMPU : Str := nS [77, 80, 85]
theorem fr_names : hasN takenN sLen = false ∧ hasN takenN (nS [114, 97, 110, 103, 101]) = false ∧ hasN takenN sEnum = false := ⟨by kernel_rfl, by kernel_rfl, by kernel_rfl⟩
theorem bb_names : bootBuiltins sLen = some (.builtin "len") ∧ bootBuiltins (nS [114, 97, 110, 103, 101]) = some (.type "range") ∧ bootBuiltins sEnum = some (.type "enumerate") := ⟨by kernel_rfl, by kernel_rfl, by kernel_rfl⟩
section
variable {w : World} {s : Shared} {es : Array DictEntry} {n : Nat} {a : Addr} {o : Obj} {ns : List Int} {mg mb : Str → Option Value} {mean : ExcName → Option Value}
theorem sum_names : hasN takenN (nS [115, 117, 109]) = false ∧ bootBuiltins (nS [115, 117, 109]) = some (.builtin "sum") := ⟨by kernel_rfl, by kernel_rfl⟩
theorem glob_b (w : World) (M : MpuAt s.heap es n) (ha : s.heap.get? a = some o) (hI : FixI o ns) (T : Top qP (looseW qP looseL) mean mg mb s.heap) {x : Str} {v : Value} (hx : hasN takenN x = false) (hb : bootBuiltins x = some v) (hn : x ≠ "__name__") : GlobV (cx w s a) x v :=
  ⟨mg, mb, ns_get w M ha hI T.g, ns_get w M ha hI T.b, .inr ⟨free_of T hx, by rw [T.builtins x hn, hb]⟩⟩
theorem find_look {e : Array DictEntry} {x : Str} {v : Value} {c : Value} {d : Option Addr} {m : Nat} {sl : Array (Option Value)} (h : lookIn x ⟨c, d, .dict e m, sl⟩ = some (some v)) : nsFind e x = some v := by
  unfold lookIn at h
  dsimp only at h
  split at h
  · rename_i en q
    simp only [Option.some.injEq] at h
    unfold nsFind findBy
    rw [← Array.find?_toList, q, ← h]; rfl
  · split at h <;> cases h
theorem glob_mpu (w : World) (M : MpuAt s.heap es n) (ha : s.heap.get? a = some o) (hI : FixI o ns) (T : Top qP (looseW qP looseL) mean mg mb s.heap) : GlobV (cx w s a) sMPU (.ref 1428) := by
  refine ⟨mg, mb, ns_get w M ha hI T.g, ns_get w M ha hI T.b, .inl ?_⟩
  obtain ⟨ob, g, e⟩ := M.glob
  refine El_eeeaaa T.g fun ob' e' ep g' d' _ r => ?_
  rw [show (mainGlobals : Addr) = 3 from rfl, g] at g'; cases g'
  obtain ⟨c, di, dt, sl⟩ := ob
  dsimp only at d'; subst d'
  rw [← r]; exact find_look e
noncomputable def initQ : Bool := match (clsB[15]? : Option Stmt) with
  | some (.FunctionDef _ args _ _ _ _ sc _ _ _) => (match args.defaults with | [] => false | _ => true) && sc.names.all (fun x => match x.2 with | .cell => false | _ => true) && (args.args.map (·.arg)).all (fun x => match lk sc.names x with | some .local => true | _ => false) &&
      (!sc.isCoroutine) && (!sc.isGenerator) && (match sc.kind with | .function => true | _ => false) && Nat.beq args.args.length 3
  | _ => false
theorem init_ok : initQ = true := by kernel_rfl
theorem init_mem : ∃ x, (x, 15, 36) ∈ metNames := by
  obtain ⟨x, hx⟩ := fnAt_mem (show fnAt metNames 36 = some 15 by kernel_rfl)
  exact ⟨x, hx⟩
noncomputable def initN : List Str := match (clsB[15]? : Option Stmt) with
  | some (.FunctionDef _ args _ _ _ _ _ _ _ _) => args.args.map (·.arg)
  | _ => []
theorem initN_eq : initN = [nS [115, 101, 108, 102], nMem, nPc] := by kernel_rfl
theorem init_peek (S : Setting) (x v1 v2 : Value) (dd : Option Addr) (m : Nat) (sl : Array (Option Value)) (t : Tok) :
    (match (fObj 15 36).data with | .func fd => peek [(29, ⟨.type "tuple", dd, .seq ⟨[.none, .int 0 t]⟩ m, sl⟩)] S (bindArgs fd ⟨[x], [(nMem, v1), (nPc, v2)]⟩) | _ => none) = some ([nS [115, 101, 108, 102], nMem, nPc].zip [x, v1, v2]) := by kernel_rfl
theorem two_bare : ∀ {l : List Value}, l.map bare = [.none, .int 0 0] → ∃ t, l = [.none, .int 0 t]
  | [], h => by cases h
  | [_], h => by simp at h
  | _ :: _ :: _ :: _, h => by simp at h
  | [u, v], h => by
    simp only [List.map_cons, List.map_nil, List.cons.injEq, and_true] at h
    obtain ⟨t, rfl⟩ := bare_int h.2
    have h1 := h.1
    have : u = .none := by cases u <;> simp [bare] at h1 <;> rfl
    subst this
    exact ⟨t, rfl⟩
theorem make_ok {h : Heap} (B : MpuB h es n) (hl : h.NoLimit) {X : Cx} (hX : X.h₀ = h) : MakeOK X 1428 36 dI nMem nPc := by
  obtain ⟨K, hK⟩ := cls_ok B hl
  obtain ⟨x, hx⟩ := init_mem
  have F := B.fns _ hx
  have C := code_rec B hx
  have ok := init_ok
  unfold initQ at ok
  split at ok
  · rename_i name args body _ _ _ sc _ _ _ hcl
    simp only [Bool.and_eq_true, Bool.not_eq_true', List.all_eq_true] at ok
    obtain ⟨⟨⟨⟨⟨⟨k0, k1⟩, k2⟩, k3⟩, k4⟩, k5⟩, k6⟩ := ok
    have e : dI = ⟨args.args.map (·.arg), body, sc, .ref 35, fQual 15 ++ ".<locals>."⟩ := by unfold dI; rw [hcl]; rfl
    have kd : sc.kind = .function := by
      split at k5
      · assumption
      · cases k5
    have hn : args.args.map (·.arg) = [nS [115, 101, 108, 102], nMem, nPc] := by
      have := initN_eq
      unfold initN at this
      rw [hcl] at this; exact this
    obtain ⟨od, g29, e29⟩ := B.dflt
    refine El_aeea (seq_is e29) fun c29 xs m d29 b29 => ?_
    have hxs : ∃ t, xs = ⟨[.none, .int 0 t]⟩ := by
      obtain ⟨l⟩ := xs
      obtain ⟨t, e⟩ := two_bare b29
      exact ⟨t, by have : l = _ := e; rw [this]⟩
    obtain ⟨t, rfl⟩ := hxs
    have PK := init_peek
    dsimp only at F C
    unfold fQual at C
    unfold fObj at F PK
    rw [hcl] at F C PK
    refine ⟨⟨K, hX ▸ hK.ok.X, hK.mks, hK.kp, hK.ini, hK.ty⟩, ⟨_, _, hX ▸ F, rfl, hX ▸ C, by rw [e], by rw [e], rfl, rfl, by rw [e], ?_, fun s hs y v1 v2 => ?_⟩, by rw [e]; dsimp only; rw [hn]; rfl, fun y hy q => ?_, fun y hy => ?_, by rw [e]; exact k3, by rw [e]; exact k4, by rw [e]; exact kd, hX ▸ hl⟩
    · rw [e]; show _ = fQual 15 ++ ".<locals>."
      unfold fQual; rw [hcl]
    · intro M A E Q hQ
      have KI : Frag.In [(29, od)] s.heap := by
        intro b ob hb
        have := lookup_in hb
        simp only [List.mem_cons, Prod.mk.injEq, List.not_mem_nil, or_false] at this
        obtain ⟨rfl, rfl⟩ := this
        exact hs _ _ (hX ▸ g29)
      obtain ⟨oc, oo, odt, osl⟩ := od
      dsimp only at c29 d29
      subst c29 d29
      have := Looks.of_peek (M := M) KI (PK ⟨M.prog, M.w.params⟩ y v1 v2 oo m osl t)
      exact this.here (by rw [e] at hQ; dsimp only at hQ; rw [hn] at hQ; exact hQ)
    · rw [e] at hy; have := k1 y hy; rw [q] at this; cases this
    · rw [e] at hy ⊢
      have := k2 y hy
      rw [lk_lookup] at this
      split at this
      · assumption
      · cases this
  · cases ok
theorem ken_ok (w : World) (M : MpuAt s.heap es n) (ha : s.heap.get? a = some o) (hI : FixI o ns) (hn : ns.length ≤ 63) (T : Top qP (looseW qP looseL) mean mg mb s.heap) : KenOK (cx w s a) kN := by
  have W := wok w M ha hI hn T.nolimit T.g T.bmain
  refine ⟨⟨W.cls, W.fns, fun fa t g e => ?_⟩, fun x av e => ?_, fun C fI d n1 n2 e => ?_⟩
  · have e : lP fa = some (t, g) := e
    unfold lP at e
    cases q1 : Nat.beq fa 85 with
    | true =>
      rw [q1] at e; cases e; have := Nat.eq_of_beq_eq_true q1; subst this
      refine ⟨?_, fun dp vs as Q hd h => wrap_ok W hd h⟩
      obtain ⟨o, fd, a, b, _⟩ := W.fnW.ex
      exact ⟨o, fd, a, b⟩
    | false =>
      rw [q1] at e
      cases q2 : Nat.beq fa 43 with
      | true =>
        rw [q2] at e; cases e; have := Nat.eq_of_beq_eq_true q2; subst this
        refine ⟨(W.fns 43 dS dS_eq).at, fun dp vs as Q hd h => ?_⟩
        refine El_eeeeeaaaaaa h fun i d q m m' hr5 h1 h2 h3 hc9 sp hQ => ?_; obtain rfl := hr5; obtain ⟨f1, f2, f3, f4⟩ := hc9; try clear h
        exact step_cl W sp f1 f2 f3 f4 hd h1 h2 h3 hQ
      | false => rw [q2] at e; cases e
  · have e : lGv x = some av := e
    unfold lGv at e
    have F := fr_names
    have B := bb_names
    cases c1 : seq x (nS [108, 101, 110]) with
    | true =>
      rw [c1] at e; cases e; have := seq_iff.mp c1; subst this
      exact ⟨_, glob_b w M ha hI T F.1 B.1 (by decide), rfl⟩
    | false =>
      rw [c1] at e
      cases c2 : seq x (nS [114, 97, 110, 103, 101]) with
      | true =>
        rw [c2] at e; cases e; have := seq_iff.mp c2; subst this
        exact ⟨_, glob_b w M ha hI T F.2.1 B.2.1 (by decide), rfl⟩
      | false =>
        rw [c2] at e
        cases c3 : seq x (nS [101, 110, 117, 109, 101, 114, 97, 116, 101]) with
        | true =>
          rw [c3] at e; cases e; have := seq_iff.mp c3; subst this
          exact ⟨_, glob_b w M ha hI T F.2.2 B.2.2 (by decide), rfl⟩
        | false =>
          rw [c3] at e
          cases c4 : seq x (nS [77, 80, 85]) with
          | true =>
            rw [c4] at e; cases e; have := seq_iff.mp c4; subst this
            exact ⟨_, glob_mpu w M ha hI T, rfl⟩
          | false =>
            rw [c4] at e
            cases c5 : seq x (nS [115, 117, 109]) with
            | true =>
              rw [c5] at e; cases e; have := seq_iff.mp c5; subst this
              exact ⟨_, glob_b w M ha hI T sum_names.1 sum_names.2 (by decide), rfl⟩
            | false => rw [c5] at e; cases e
  · have e : some ((1428 : Addr), (36 : Addr), dI, nMem, nPc) = some (C, fI, d, n1, n2) := e
    simp only [Option.some.injEq, Prod.mk.injEq] at e
    obtain ⟨rfl, rfl, rfl, rfl, rfl⟩ := e
    exact make_ok (mpuB w M ha hI hn) (lim_get w M ha hI T.nolimit) rfl
end
end
end Mine

end
section
open PySem PySem.W PyProof.Rows
namespace Mine
noncomputable section
theorem l_bind (pm cd doc kV : Value) (v : Value) : bindArgs { PySem.Calls.docDef lawD.name lawD.params lawD.body lawD.scope pm cd doc with defaults := .none, kwdefaults := kV } ⟨[v], []⟩ = pure ((lF cd).names.zip [v]) := by kernel_rfl
theorem l_facts (cd : Value) : (lF cd).names.length = 1 ∧ cellNs (lF cd).scope.names = [nS [100, 114, 97, 119, 110], nS [115, 105, 122, 101]] ∧ (lF cd).names.all (fun x => match lk lawD.scope.names x with | some .local => true | _ => false) = true ∧ (lF cd).scope.isCoroutine = false ∧ (lF cd).scope.isGenerator = false ∧ (lF cd).scope.kind = .function := ⟨by kernel_rfl, by kernel_rfl, by kernel_rfl, by kernel_rfl, by kernel_rfl, by kernel_rfl⟩
theorem l_dflt : lawD.params.defaults = [] := by kernel_rfl
section
variable {w : World} {s : Shared} {es : Array DictEntry} {n : Nat} {a : Addr} {o : Obj} {ns : List Int}
theorem law_fn (w : World) (M : MpuAt s.heap es n) (ha : s.heap.get? a = some o) (hI : FixI o ns) {fa : Addr} {of : Obj} {pm cd doc kV : Value} (ho : s.heap.get? fa = some of) (hd : of.data = .func { PySem.Calls.docDef lawD.name lawD.params lawD.body lawD.scope pm cd doc with defaults := .none, kwdefaults := kV }) (hc : s.heap.CodeRec cd lawD.name) :
    FnOKC (cx w s a).h₀ fa (lF cd) := by
  have F := l_facts cd
  refine ⟨⟨of, _, cx_keep w ho (ne80_data M ho (by rw [hd]; nofun)) (neA_data ha hI ho (fun _ _ => by rw [hd]; nofun)), hd, ?_, rfl, rfl, rfl, rfl, rfl, rfl, rfl, fun vals hv => ?_⟩, by rw [F.2.1]; decide, fun y hy => .inl ?_, F.2.2.2.1, F.2.2.2.2.1, F.2.2.2.2.2⟩
  · refine El_eeeeaaa hc fun c oc vs t hr4 g d e => ?_; obtain rfl := hr4; try clear hc
    refine ⟨c, oc, vs, t, rfl, cx_keep w g (ne80_data M g ?_) (neA_data ha hI g (fun _ _ => by rw [d]; nofun)), d, e⟩
    rw [d]; intro q; injection q with q; subst q; cases e
  · rw [F.1] at hv
    obtain ⟨v, rfl⟩ := one_list hv
    exact l_bind pm cd doc kV v
  · have := List.all_eq_true.mp F.2.2.1 y hy
    rw [lk_lookup] at this
    split at this
    · assumption
    · cases this
theorem room : Room callerA 41 := ⟨by decide +kernel, by decide +kernel, rfl⟩
theorem law_call : WalkO qP looseL (fun _ _ => True) (fun _ h => ∃ es n, MpuAt h es n) RW.row.toRowW lawD [] fun f vs => PySem.call f vs := by
  intro w s₀ s₁ mg mb G Y fa of pm cd doc dV kV ho hd hcd hD hmg hg args vals as hpre hlay hrd hwl hlo
  refine El_ee Y fun es n M => ?_; try clear Y
  have he := Dflts.none hD l_dflt
  subst he
  refine El_eeeaaa (reads_in hpre hlay hrd hwl hlo) fun ns a o hn hr4 ha hI => ?_; obtain rfl := hr4
  have T := G.T
  have KO := ken_ok w M ha hI hn T
  have S := start_S w M ha hI
  have F := law_fn w M ha hI ho hd hcd
  have L := law02 KO cd o ns hI hn (fun fl _ as' => match fl with | .ret v => v = .bool true ∧ as'[0]? = some (.fix o) | .next => False | _ => False) (fun loc as h => ⟨rfl, h⟩)
  have C : ClS (cx w s₁ a) 41 (.ref fa) [.obj 0] [.fix o] fun v as' => v = .bool true ∧ as'[0]? = some (.fix o) := by
    refine cl_defC (dp := 40) (d := lF cd) F (lim_get w M ha hI T.nolimit) (l_facts cd).1.symm ?_
    rw [show ([.fix o] : List AO).length = 1 from rfl, l_fm, l_as]
    refine ExsS.mono L fun fl loc as' q => ?_
    cases fl with
    | ret v => exact q
    | next => exact q.elim
    | brk => exact q.elim
    | cont => exact q.elim
  refine wpAny_call (C callerA [a] s₁ [.ref a] _ _ room S (.cons ⟨a, rfl, rfl⟩ .nil) fun av as' θ' s' v q S' X' V' => ?_)
  obtain ⟨rfl, h0⟩ := q
  cases V'
  refine ⟨.inl ⟨.bool true, .bool true, [], rfl, raisesW_false (r := RW.row.toRowW) allW_false_nil, .bool _, postW_of (r := RW.row.toRowW) (by wrow_shape) (by wtm_val) (by rfl), fun _ => ⟨List.nodup_nil, fun b hb => by cases hb⟩⟩, ⟨fun b ob hb => ?_, X'.ex⟩, S'.os, AllBare.of_eq (S'.gens.trans hg)⟩
  by_cases q80 : b = 80
  · subst q80
    rw [M.tab] at hb; cases hb
    obtain ⟨oc, g, e⟩ := M.code
    have ct : isCodeTable s₁.heap 80 := by
      unfold codeHd at e
      split at e
      · rename_i vs d
        simp only [Option.some.injEq, Prod.mk.injEq, List.map_cons, List.map_nil, List.cons.injEq, and_true] at e
        obtain ⟨e0, e7, e9, e10, e11, e18⟩ := e
        rw [Array.getElem?_toList] at e11
        obtain ⟨v, a1, b1⟩ := Option.map_eq_some_iff.mp e11
        rw [bare_ref b1] at a1
        exact ⟨84, oc, vs, g, e0, d, a1⟩
      · cases e
    rcases S'.tabs TB80 (List.mem_singleton.mpr rfl) with t | ⟨c, t, _⟩
    · exact .inl t
    · exact .inr (.inl ⟨ct, rfl, #[], #[rawInt TB80.pos.line, rawInt TB80.pos.col, .ref c], rfl, by rw [Array.empty_append]; exact t⟩)
  · by_cases qa : b = a
    · subst qa
      rw [ha] at hb; cases hb
      have p0 : θ'[0]? = some b := get_pre X'.pre rfl
      obtain ⟨ob', g', e'⟩ := S'.ar.objs 0 _ b h0 p0
      have : ob' = o := e'
      rw [this] at g'
      exact .inl g'
    · exact .inl (S'.base b ob (cx_keep w hb q80 qa))
end
theorem done02 : PySem.Challenge.rw_lq0011_02.Holds := holds_of p2x p3x p4x p5x p6x p7x p8x law_call
end
end Mine

end
theorem PySem.Challenge.cw_lq0011_02_holds : PySem.Challenge.rw_lq0011_02.Holds :=
  Mine.done02

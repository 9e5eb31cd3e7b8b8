import PyProof.Rows.All
import Wide.All
import OpenK.AllK
import Wide.FinOn
import PyProof.Rows.SumAny
import KE.LcSums
import PyProof.Rows.Range3
import KE.KSortTup
import KE.KSortKey
import PyProof.Rows.CallKwBuiltin
import KE.KNest
import Lean
import PySem.Challenge.RW_lq0011_05
set_option Elab.async false
set_option genInjectivity false
set_option genSizeOf false
set_option genSizeOfSpec false
set_option bootstrap.genMatcherCode false
set_option maxRecDepth 100000
set_option maxHeartbeats 0
set_option linter.unusedVariables false
set_option linter.unusedSimpArgs false
section
namespace Mine
theorem El_aa {P : Prop} {q1 : Prop} {q2 : Prop} {q3 : Prop} (h : q1 ∧ q2 ∧ q3) (k : q1 → q2 → q3 → P) : P := k h.1 h.2.1 h.2.2
theorem El_aaa {P : Prop} {q1 : Prop} {q2 : Prop} {q3 : Prop} {q4 : Prop} (h : q1 ∧ q2 ∧ q3 ∧ q4) (k : q1 → q2 → q3 → q4 → P) : P := k h.1 h.2.1 h.2.2.1 h.2.2.2
theorem El_aaaa {P : Prop} {q1 : Prop} {q2 : Prop} {q3 : Prop} {q4 : Prop} {q5 : Prop} (h : q1 ∧ q2 ∧ q3 ∧ q4 ∧ q5) (k : q1 → q2 → q3 → q4 → q5 → P) : P := k h.1 h.2.1 h.2.2.1 h.2.2.2.1 h.2.2.2.2
theorem El_aaaaa {P : Prop} {q1 : Prop} {q2 : Prop} {q3 : Prop} {q4 : Prop} {q5 : Prop} {q6 : Prop} (h : q1 ∧ q2 ∧ q3 ∧ q4 ∧ q5 ∧ q6) (k : q1 → q2 → q3 → q4 → q5 → q6 → P) : P := k h.1 h.2.1 h.2.2.1 h.2.2.2.1 h.2.2.2.2.1 h.2.2.2.2.2
theorem El_aaaaaaa {P : Prop} {q1 : Prop} {q2 : Prop} {q3 : Prop} {q4 : Prop} {q5 : Prop} {q6 : Prop} {q7 : Prop} {q8 : Prop} (h : q1 ∧ q2 ∧ q3 ∧ q4 ∧ q5 ∧ q6 ∧ q7 ∧ q8) (k : q1 → q2 → q3 → q4 → q5 → q6 → q7 → q8 → P) : P := k h.1 h.2.1 h.2.2.1 h.2.2.2.1 h.2.2.2.2.1 h.2.2.2.2.2.1 h.2.2.2.2.2.2.1 h.2.2.2.2.2.2.2
theorem El_aaaaaaaaa {P : Prop} {q1 : Prop} {q2 : Prop} {q3 : Prop} {q4 : Prop} {q5 : Prop} {q6 : Prop} {q7 : Prop} {q8 : Prop} {q9 : Prop} {q10 : Prop} (h : q1 ∧ q2 ∧ q3 ∧ q4 ∧ q5 ∧ q6 ∧ q7 ∧ q8 ∧ q9 ∧ q10) (k : q1 → q2 → q3 → q4 → q5 → q6 → q7 → q8 → q9 → q10 → P) : P := k h.1 h.2.1 h.2.2.1 h.2.2.2.1 h.2.2.2.2.1 h.2.2.2.2.2.1 h.2.2.2.2.2.2.1 h.2.2.2.2.2.2.2.1 h.2.2.2.2.2.2.2.2.1 h.2.2.2.2.2.2.2.2.2
theorem El_aaea {P : Prop} {α1 : Sort _} {q1 : Prop} {q2 : Prop} {q3 : α1 → Prop} {q4 : α1 → Prop} (h : q1 ∧ q2 ∧ ∃ x1, q3 x1 ∧ q4 x1) (k : q1 → q2 → ∀ x1 : α1, q3 x1 → q4 x1 → P) : P := Exists.elim h.2.2 fun w0 g0 => k h.1 h.2.1 w0 g0.1 g0.2
theorem El_aaeeaaa {P : Prop} {α1 : Sort _} {α2 : Sort _} {q1 : Prop} {q2 : Prop} {q3 : α1 → α2 → Prop} {q4 : α1 → α2 → Prop} {q5 : α1 → α2 → Prop} {q6 : α1 → α2 → Prop} (h : q1 ∧ q2 ∧ ∃ x1, ∃ x2, q3 x1 x2 ∧ q4 x1 x2 ∧ q5 x1 x2 ∧ q6 x1 x2) (k : q1 → q2 → ∀ x1 : α1, ∀ x2 : α2, q3 x1 x2 → q4 x1 x2 → q5 x1 x2 → q6 x1 x2 → P) : P := Exists.elim h.2.2 fun w0 g0 => Exists.elim g0 fun w1 g1 => k h.1 h.2.1 w0 w1 g1.1 g1.2.1 g1.2.2.1 g1.2.2.2
theorem El_aeea {P : Prop} {α1 : Sort _} {α2 : Sort _} {q1 : Prop} {q2 : α1 → α2 → Prop} {q3 : α1 → α2 → Prop} (h : q1 ∧ ∃ x1, ∃ x2, q2 x1 x2 ∧ q3 x1 x2) (k : q1 → ∀ x1 : α1, ∀ x2 : α2, q2 x1 x2 → q3 x1 x2 → P) : P := Exists.elim h.2 fun w0 g0 => Exists.elim g0 fun w1 g1 => k h.1 w0 w1 g1.1 g1.2
theorem El_ea {P : Prop} {α1 : Sort _} {q1 : α1 → Prop} {q2 : α1 → Prop} (h : ∃ x1, q1 x1 ∧ q2 x1) (k : ∀ x1 : α1, q1 x1 → q2 x1 → P) : P := Exists.elim h fun w0 g0 => k w0 g0.1 g0.2
theorem El_eaa {P : Prop} {α1 : Sort _} {q1 : α1 → Prop} {q2 : α1 → Prop} {q3 : α1 → Prop} (h : ∃ x1, q1 x1 ∧ q2 x1 ∧ q3 x1) (k : ∀ x1 : α1, q1 x1 → q2 x1 → q3 x1 → P) : P := Exists.elim h fun w0 g0 => k w0 g0.1 g0.2.1 g0.2.2
theorem El_eaaaa {P : Prop} {α1 : Sort _} {q1 : α1 → Prop} {q2 : α1 → Prop} {q3 : α1 → Prop} {q4 : α1 → Prop} {q5 : α1 → Prop} (h : ∃ x1, q1 x1 ∧ q2 x1 ∧ q3 x1 ∧ q4 x1 ∧ q5 x1) (k : ∀ x1 : α1, q1 x1 → q2 x1 → q3 x1 → q4 x1 → q5 x1 → P) : P := Exists.elim h fun w0 g0 => k w0 g0.1 g0.2.1 g0.2.2.1 g0.2.2.2.1 g0.2.2.2.2
theorem El_eaae {P : Prop} {α1 : Sort _} {α2 : Sort _} {q1 : α1 → Prop} {q2 : α1 → Prop} {q3 : α1 → α2 → Prop} (h : ∃ x1, q1 x1 ∧ q2 x1 ∧ ∃ x2, q3 x1 x2) (k : ∀ x1 : α1, q1 x1 → q2 x1 → ∀ x2 : α2, q3 x1 x2 → P) : P := Exists.elim h fun w0 g0 => Exists.elim g0.2.2 fun w1 g1 => k w0 g0.1 g0.2.1 w1 g1
theorem El_eaaeea {P : Prop} {α1 : Sort _} {α2 : Sort _} {α3 : Sort _} {q1 : α1 → Prop} {q2 : α1 → Prop} {q3 : α1 → α2 → α3 → Prop} {q4 : α1 → α2 → α3 → Prop} (h : ∃ x1, q1 x1 ∧ q2 x1 ∧ ∃ x2, ∃ x3, q3 x1 x2 x3 ∧ q4 x1 x2 x3) (k : ∀ x1 : α1, q1 x1 → q2 x1 → ∀ x2 : α2, ∀ x3 : α3, q3 x1 x2 x3 → q4 x1 x2 x3 → P) : P := Exists.elim h fun w0 g0 => Exists.elim g0.2.2 fun w1 g1 => Exists.elim g1 fun w2 g2 => k w0 g0.1 g0.2.1 w1 w2 g2.1 g2.2
theorem El_eaea {P : Prop} {α1 : Sort _} {α2 : Sort _} {q1 : α1 → Prop} {q2 : α1 → α2 → Prop} {q3 : α1 → α2 → Prop} (h : ∃ x1, q1 x1 ∧ ∃ x2, q2 x1 x2 ∧ q3 x1 x2) (k : ∀ x1 : α1, q1 x1 → ∀ x2 : α2, q2 x1 x2 → q3 x1 x2 → P) : P := Exists.elim h fun w0 g0 => Exists.elim g0.2 fun w1 g1 => k w0 g0.1 w1 g1.1 g1.2
theorem El_eaeea {P : Prop} {α1 : Sort _} {α2 : Sort _} {α3 : Sort _} {q1 : α1 → Prop} {q2 : α1 → α2 → α3 → Prop} {q3 : α1 → α2 → α3 → Prop} (h : ∃ x1, q1 x1 ∧ ∃ x2, ∃ x3, q2 x1 x2 x3 ∧ q3 x1 x2 x3) (k : ∀ x1 : α1, q1 x1 → ∀ x2 : α2, ∀ x3 : α3, q2 x1 x2 x3 → q3 x1 x2 x3 → P) : P := Exists.elim h fun w0 g0 => Exists.elim g0.2 fun w1 g1 => Exists.elim g1 fun w2 g2 => k w0 g0.1 w1 w2 g2.1 g2.2
theorem El_ee {P : Prop} {α1 : Sort _} {α2 : Sort _} {q1 : α1 → α2 → Prop} (h : ∃ x1, ∃ x2, q1 x1 x2) (k : ∀ x1 : α1, ∀ x2 : α2, q1 x1 x2 → P) : P := Exists.elim h fun w0 g0 => Exists.elim g0 fun w1 g1 => k w0 w1 g1
theorem El_eea {P : Prop} {α1 : Sort _} {α2 : Sort _} {q1 : α1 → α2 → Prop} {q2 : α1 → α2 → Prop} (h : ∃ x1, ∃ x2, q1 x1 x2 ∧ q2 x1 x2) (k : ∀ x1 : α1, ∀ x2 : α2, q1 x1 x2 → q2 x1 x2 → P) : P := Exists.elim h fun w0 g0 => Exists.elim g0 fun w1 g1 => k w0 w1 g1.1 g1.2
theorem El_eeaa {P : Prop} {α1 : Sort _} {α2 : Sort _} {q1 : α1 → α2 → Prop} {q2 : α1 → α2 → Prop} {q3 : α1 → α2 → Prop} (h : ∃ x1, ∃ x2, q1 x1 x2 ∧ q2 x1 x2 ∧ q3 x1 x2) (k : ∀ x1 : α1, ∀ x2 : α2, q1 x1 x2 → q2 x1 x2 → q3 x1 x2 → P) : P := Exists.elim h fun w0 g0 => Exists.elim g0 fun w1 g1 => k w0 w1 g1.1 g1.2.1 g1.2.2
theorem El_eeaaa {P : Prop} {α1 : Sort _} {α2 : Sort _} {q1 : α1 → α2 → Prop} {q2 : α1 → α2 → Prop} {q3 : α1 → α2 → Prop} {q4 : α1 → α2 → Prop} (h : ∃ x1, ∃ x2, q1 x1 x2 ∧ q2 x1 x2 ∧ q3 x1 x2 ∧ q4 x1 x2) (k : ∀ x1 : α1, ∀ x2 : α2, q1 x1 x2 → q2 x1 x2 → q3 x1 x2 → q4 x1 x2 → P) : P := Exists.elim h fun w0 g0 => Exists.elim g0 fun w1 g1 => k w0 w1 g1.1 g1.2.1 g1.2.2.1 g1.2.2.2
theorem El_eeaaaa {P : Prop} {α1 : Sort _} {α2 : Sort _} {q1 : α1 → α2 → Prop} {q2 : α1 → α2 → Prop} {q3 : α1 → α2 → Prop} {q4 : α1 → α2 → Prop} {q5 : α1 → α2 → Prop} (h : ∃ x1, ∃ x2, q1 x1 x2 ∧ q2 x1 x2 ∧ q3 x1 x2 ∧ q4 x1 x2 ∧ q5 x1 x2) (k : ∀ x1 : α1, ∀ x2 : α2, q1 x1 x2 → q2 x1 x2 → q3 x1 x2 → q4 x1 x2 → q5 x1 x2 → P) : P := Exists.elim h fun w0 g0 => Exists.elim g0 fun w1 g1 => k w0 w1 g1.1 g1.2.1 g1.2.2.1 g1.2.2.2.1 g1.2.2.2.2
theorem El_eeaaaaa {P : Prop} {α1 : Sort _} {α2 : Sort _} {q1 : α1 → α2 → Prop} {q2 : α1 → α2 → Prop} {q3 : α1 → α2 → Prop} {q4 : α1 → α2 → Prop} {q5 : α1 → α2 → Prop} {q6 : α1 → α2 → Prop} (h : ∃ x1, ∃ x2, q1 x1 x2 ∧ q2 x1 x2 ∧ q3 x1 x2 ∧ q4 x1 x2 ∧ q5 x1 x2 ∧ q6 x1 x2) (k : ∀ x1 : α1, ∀ x2 : α2, q1 x1 x2 → q2 x1 x2 → q3 x1 x2 → q4 x1 x2 → q5 x1 x2 → q6 x1 x2 → P) : P := Exists.elim h fun w0 g0 => Exists.elim g0 fun w1 g1 => k w0 w1 g1.1 g1.2.1 g1.2.2.1 g1.2.2.2.1 g1.2.2.2.2.1 g1.2.2.2.2.2
theorem El_eeaaaaaaa {P : Prop} {α1 : Sort _} {α2 : Sort _} {q1 : α1 → α2 → Prop} {q2 : α1 → α2 → Prop} {q3 : α1 → α2 → Prop} {q4 : α1 → α2 → Prop} {q5 : α1 → α2 → Prop} {q6 : α1 → α2 → Prop} {q7 : α1 → α2 → Prop} {q8 : α1 → α2 → Prop} (h : ∃ x1, ∃ x2, q1 x1 x2 ∧ q2 x1 x2 ∧ q3 x1 x2 ∧ q4 x1 x2 ∧ q5 x1 x2 ∧ q6 x1 x2 ∧ q7 x1 x2 ∧ q8 x1 x2) (k : ∀ x1 : α1, ∀ x2 : α2, q1 x1 x2 → q2 x1 x2 → q3 x1 x2 → q4 x1 x2 → q5 x1 x2 → q6 x1 x2 → q7 x1 x2 → q8 x1 x2 → P) : P := Exists.elim h fun w0 g0 => Exists.elim g0 fun w1 g1 => k w0 w1 g1.1 g1.2.1 g1.2.2.1 g1.2.2.2.1 g1.2.2.2.2.1 g1.2.2.2.2.2.1 g1.2.2.2.2.2.2.1 g1.2.2.2.2.2.2.2
theorem El_eeaaaaaaaaa {P : Prop} {α1 : Sort _} {α2 : Sort _} {q1 : α1 → α2 → Prop} {q2 : α1 → α2 → Prop} {q3 : α1 → α2 → Prop} {q4 : α1 → α2 → Prop} {q5 : α1 → α2 → Prop} {q6 : α1 → α2 → Prop} {q7 : α1 → α2 → Prop} {q8 : α1 → α2 → Prop} {q9 : α1 → α2 → Prop} {q10 : α1 → α2 → Prop} (h : ∃ x1, ∃ x2, q1 x1 x2 ∧ q2 x1 x2 ∧ q3 x1 x2 ∧ q4 x1 x2 ∧ q5 x1 x2 ∧ q6 x1 x2 ∧ q7 x1 x2 ∧ q8 x1 x2 ∧ q9 x1 x2 ∧ q10 x1 x2) (k : ∀ x1 : α1, ∀ x2 : α2, q1 x1 x2 → q2 x1 x2 → q3 x1 x2 → q4 x1 x2 → q5 x1 x2 → q6 x1 x2 → q7 x1 x2 → q8 x1 x2 → q9 x1 x2 → q10 x1 x2 → P) : P := Exists.elim h fun w0 g0 => Exists.elim g0 fun w1 g1 => k w0 w1 g1.1 g1.2.1 g1.2.2.1 g1.2.2.2.1 g1.2.2.2.2.1 g1.2.2.2.2.2.1 g1.2.2.2.2.2.2.1 g1.2.2.2.2.2.2.2.1 g1.2.2.2.2.2.2.2.2.1 g1.2.2.2.2.2.2.2.2.2
theorem El_eeaaaaaaaaaa {P : Prop} {α1 : Sort _} {α2 : Sort _} {q1 : α1 → α2 → Prop} {q2 : α1 → α2 → Prop} {q3 : α1 → α2 → Prop} {q4 : α1 → α2 → Prop} {q5 : α1 → α2 → Prop} {q6 : α1 → α2 → Prop} {q7 : α1 → α2 → Prop} {q8 : α1 → α2 → Prop} {q9 : α1 → α2 → Prop} {q10 : α1 → α2 → Prop} {q11 : α1 → α2 → Prop} (h : ∃ x1, ∃ x2, q1 x1 x2 ∧ q2 x1 x2 ∧ q3 x1 x2 ∧ q4 x1 x2 ∧ q5 x1 x2 ∧ q6 x1 x2 ∧ q7 x1 x2 ∧ q8 x1 x2 ∧ q9 x1 x2 ∧ q10 x1 x2 ∧ q11 x1 x2) (k : ∀ x1 : α1, ∀ x2 : α2, q1 x1 x2 → q2 x1 x2 → q3 x1 x2 → q4 x1 x2 → q5 x1 x2 → q6 x1 x2 → q7 x1 x2 → q8 x1 x2 → q9 x1 x2 → q10 x1 x2 → q11 x1 x2 → P) : P := Exists.elim h fun w0 g0 => Exists.elim g0 fun w1 g1 => k w0 w1 g1.1 g1.2.1 g1.2.2.1 g1.2.2.2.1 g1.2.2.2.2.1 g1.2.2.2.2.2.1 g1.2.2.2.2.2.2.1 g1.2.2.2.2.2.2.2.1 g1.2.2.2.2.2.2.2.2.1 g1.2.2.2.2.2.2.2.2.2.1 g1.2.2.2.2.2.2.2.2.2.2
theorem El_eee {P : Prop} {α1 : Sort _} {α2 : Sort _} {α3 : Sort _} {q1 : α1 → α2 → α3 → Prop} (h : ∃ x1, ∃ x2, ∃ x3, q1 x1 x2 x3) (k : ∀ x1 : α1, ∀ x2 : α2, ∀ x3 : α3, q1 x1 x2 x3 → P) : P := Exists.elim h fun w0 g0 => Exists.elim g0 fun w1 g1 => Exists.elim g1 fun w2 g2 => k w0 w1 w2 g2
theorem El_eeea {P : Prop} {α1 : Sort _} {α2 : Sort _} {α3 : Sort _} {q1 : α1 → α2 → α3 → Prop} {q2 : α1 → α2 → α3 → Prop} (h : ∃ x1, ∃ x2, ∃ x3, q1 x1 x2 x3 ∧ q2 x1 x2 x3) (k : ∀ x1 : α1, ∀ x2 : α2, ∀ x3 : α3, q1 x1 x2 x3 → q2 x1 x2 x3 → P) : P := Exists.elim h fun w0 g0 => Exists.elim g0 fun w1 g1 => Exists.elim g1 fun w2 g2 => k w0 w1 w2 g2.1 g2.2
theorem El_eeeaaa {P : Prop} {α1 : Sort _} {α2 : Sort _} {α3 : Sort _} {q1 : α1 → α2 → α3 → Prop} {q2 : α1 → α2 → α3 → Prop} {q3 : α1 → α2 → α3 → Prop} {q4 : α1 → α2 → α3 → Prop} (h : ∃ x1, ∃ x2, ∃ x3, q1 x1 x2 x3 ∧ q2 x1 x2 x3 ∧ q3 x1 x2 x3 ∧ q4 x1 x2 x3) (k : ∀ x1 : α1, ∀ x2 : α2, ∀ x3 : α3, q1 x1 x2 x3 → q2 x1 x2 x3 → q3 x1 x2 x3 → q4 x1 x2 x3 → P) : P := Exists.elim h fun w0 g0 => Exists.elim g0 fun w1 g1 => Exists.elim g1 fun w2 g2 => k w0 w1 w2 g2.1 g2.2.1 g2.2.2.1 g2.2.2.2
theorem El_eeeaaaa {P : Prop} {α1 : Sort _} {α2 : Sort _} {α3 : Sort _} {q1 : α1 → α2 → α3 → Prop} {q2 : α1 → α2 → α3 → Prop} {q3 : α1 → α2 → α3 → Prop} {q4 : α1 → α2 → α3 → Prop} {q5 : α1 → α2 → α3 → Prop} (h : ∃ x1, ∃ x2, ∃ x3, q1 x1 x2 x3 ∧ q2 x1 x2 x3 ∧ q3 x1 x2 x3 ∧ q4 x1 x2 x3 ∧ q5 x1 x2 x3) (k : ∀ x1 : α1, ∀ x2 : α2, ∀ x3 : α3, q1 x1 x2 x3 → q2 x1 x2 x3 → q3 x1 x2 x3 → q4 x1 x2 x3 → q5 x1 x2 x3 → P) : P := Exists.elim h fun w0 g0 => Exists.elim g0 fun w1 g1 => Exists.elim g1 fun w2 g2 => k w0 w1 w2 g2.1 g2.2.1 g2.2.2.1 g2.2.2.2.1 g2.2.2.2.2
theorem El_eeeaaaaa {P : Prop} {α1 : Sort _} {α2 : Sort _} {α3 : Sort _} {q1 : α1 → α2 → α3 → Prop} {q2 : α1 → α2 → α3 → Prop} {q3 : α1 → α2 → α3 → Prop} {q4 : α1 → α2 → α3 → Prop} {q5 : α1 → α2 → α3 → Prop} {q6 : α1 → α2 → α3 → Prop} (h : ∃ x1, ∃ x2, ∃ x3, q1 x1 x2 x3 ∧ q2 x1 x2 x3 ∧ q3 x1 x2 x3 ∧ q4 x1 x2 x3 ∧ q5 x1 x2 x3 ∧ q6 x1 x2 x3) (k : ∀ x1 : α1, ∀ x2 : α2, ∀ x3 : α3, q1 x1 x2 x3 → q2 x1 x2 x3 → q3 x1 x2 x3 → q4 x1 x2 x3 → q5 x1 x2 x3 → q6 x1 x2 x3 → P) : P := Exists.elim h fun w0 g0 => Exists.elim g0 fun w1 g1 => Exists.elim g1 fun w2 g2 => k w0 w1 w2 g2.1 g2.2.1 g2.2.2.1 g2.2.2.2.1 g2.2.2.2.2.1 g2.2.2.2.2.2
theorem El_eeeeaa {P : Prop} {α1 : Sort _} {α2 : Sort _} {α3 : Sort _} {α4 : Sort _} {q1 : α1 → α2 → α3 → α4 → Prop} {q2 : α1 → α2 → α3 → α4 → Prop} {q3 : α1 → α2 → α3 → α4 → Prop} (h : ∃ x1, ∃ x2, ∃ x3, ∃ x4, q1 x1 x2 x3 x4 ∧ q2 x1 x2 x3 x4 ∧ q3 x1 x2 x3 x4) (k : ∀ x1 : α1, ∀ x2 : α2, ∀ x3 : α3, ∀ x4 : α4, q1 x1 x2 x3 x4 → q2 x1 x2 x3 x4 → q3 x1 x2 x3 x4 → P) : P := Exists.elim h fun w0 g0 => Exists.elim g0 fun w1 g1 => Exists.elim g1 fun w2 g2 => Exists.elim g2 fun w3 g3 => k w0 w1 w2 w3 g3.1 g3.2.1 g3.2.2
theorem El_eeeeaaa {P : Prop} {α1 : Sort _} {α2 : Sort _} {α3 : Sort _} {α4 : Sort _} {q1 : α1 → α2 → α3 → α4 → Prop} {q2 : α1 → α2 → α3 → α4 → Prop} {q3 : α1 → α2 → α3 → α4 → Prop} {q4 : α1 → α2 → α3 → α4 → Prop} (h : ∃ x1, ∃ x2, ∃ x3, ∃ x4, q1 x1 x2 x3 x4 ∧ q2 x1 x2 x3 x4 ∧ q3 x1 x2 x3 x4 ∧ q4 x1 x2 x3 x4) (k : ∀ x1 : α1, ∀ x2 : α2, ∀ x3 : α3, ∀ x4 : α4, q1 x1 x2 x3 x4 → q2 x1 x2 x3 x4 → q3 x1 x2 x3 x4 → q4 x1 x2 x3 x4 → P) : P := Exists.elim h fun w0 g0 => Exists.elim g0 fun w1 g1 => Exists.elim g1 fun w2 g2 => Exists.elim g2 fun w3 g3 => k w0 w1 w2 w3 g3.1 g3.2.1 g3.2.2.1 g3.2.2.2
theorem El_eeeeeaaaaaa {P : Prop} {α1 : Sort _} {α2 : Sort _} {α3 : Sort _} {α4 : Sort _} {α5 : Sort _} {q1 : α1 → α2 → α3 → α4 → α5 → Prop} {q2 : α1 → α2 → α3 → α4 → α5 → Prop} {q3 : α1 → α2 → α3 → α4 → α5 → Prop} {q4 : α1 → α2 → α3 → α4 → α5 → Prop} {q5 : α1 → α2 → α3 → α4 → α5 → Prop} {q6 : α1 → α2 → α3 → α4 → α5 → Prop} {q7 : α1 → α2 → α3 → α4 → α5 → Prop} (h : ∃ x1, ∃ x2, ∃ x3, ∃ x4, ∃ x5, q1 x1 x2 x3 x4 x5 ∧ q2 x1 x2 x3 x4 x5 ∧ q3 x1 x2 x3 x4 x5 ∧ q4 x1 x2 x3 x4 x5 ∧ q5 x1 x2 x3 x4 x5 ∧ q6 x1 x2 x3 x4 x5 ∧ q7 x1 x2 x3 x4 x5) (k : ∀ x1 : α1, ∀ x2 : α2, ∀ x3 : α3, ∀ x4 : α4, ∀ x5 : α5, q1 x1 x2 x3 x4 x5 → q2 x1 x2 x3 x4 x5 → q3 x1 x2 x3 x4 x5 → q4 x1 x2 x3 x4 x5 → q5 x1 x2 x3 x4 x5 → q6 x1 x2 x3 x4 x5 → q7 x1 x2 x3 x4 x5 → P) : P := Exists.elim h fun w0 g0 => Exists.elim g0 fun w1 g1 => Exists.elim g1 fun w2 g2 => Exists.elim g2 fun w3 g3 => Exists.elim g3 fun w4 g4 => k w0 w1 w2 w3 w4 g4.1 g4.2.1 g4.2.2.1 g4.2.2.2.1 g4.2.2.2.2.1 g4.2.2.2.2.2.1 g4.2.2.2.2.2.2
theorem ff {P : Prop} (h : false = true) : P := nomatch h
theorem nosome {α : Type _} {a : α} {P : Prop} (h : none = some a) : P := nomatch h
end Mine

end
section
open PySem PySem.W PyProof.Rows
namespace Mine
noncomputable abbrev P0 : Program := PySem.Challenge.pw_lq0011_05
inductive IsP : Program → Prop
  | mk (s : Program) (h : s = PySem.Challenge.pw_lq0011_05) : IsP s
noncomputable def TPx : { s : Program // IsP s } := ⟨PySem.Challenge.pw_lq0011_05, IsP.mk _ rfl⟩
theorem isP_eq {s : Program} (h : IsP s) : PySem.Challenge.pw_lq0011_05 = s := by cases h with | mk h => exact h.symm
noncomputable abbrev TP : Program := TPx.1
theorem TP_eq : P0 = TP := isP_eq TPx.2
end Mine
namespace Mine
noncomputable section
open PySem PySem.W PyProof.Rows
noncomputable abbrev TB : String → Option Builtin := PySem.W.Fast.tw14364793385576792824
theorem TB_eq : treeTable = TB := PySem.W.Fast.te14364793385576792824
noncomputable abbrev denW := @PySem.W.Fast.tw11892475500146522536
theorem den_eq : @denote = @denW := PySem.W.Fast.te11892475500146522536
noncomputable abbrev stepTW := @PySem.W.Fast.tw10156331382660048174
theorem stepT_eq : @stepT = @stepTW := PySem.W.Fast.te10156331382660048174
noncomputable abbrev stepOkW := @PySem.W.Fast.tw6613529449190102663
theorem stepOk_eq : @stepOk = @stepOkW := PySem.W.Fast.te6613529449190102663
noncomputable abbrev segW := @PySem.W.Fast.tw10110043849684766642
theorem seg_eq : @segRunT = @segW := PySem.W.Fast.te10110043849684766642
noncomputable abbrev execsW := @PySem.W.Fast.tw12563942051412417395
theorem execs_eq : @execs = @execsW := PySem.W.Fast.te12563942051412417395
noncomputable abbrev modCodeW := @PySem.W.Fast.tw17154629097778926822
theorem modCode_eq : @moduleCode = @modCodeW := PySem.W.Fast.te17154629097778926822
noncomputable abbrev bodyFrameW := @PySem.W.Fast.tw12822647523644345616
theorem bodyFrame_eq : @newBodyFrame = @bodyFrameW := PySem.W.Fast.te12822647523644345616
noncomputable abbrev retW := @PySem.W.Fast.tw6905046200447255374
theorem ret_eq : @PySem.ret = @retW := PySem.W.Fast.te6905046200447255374
noncomputable abbrev localNamesW := @PySem.W.Fast.tw17120021879193482534
noncomputable def goG (ok : Thread → Bool) (st : SharedT → Thread → Option (SharedT × Thread)) : Nat → SharedT → Thread → Option (SharedT × Thread)
  | 0, s, t => some (s, t)
  | n + 1, s, t => match through t with
    | true => none
    | false => match ok t with
      | false => none
      | true => match st s t with
        | some (s', t') => goG ok st n s' t'
        | none => none
noncomputable def goT (tb : String → Option Builtin) (p : Program) (w : World) (n₀ : Nat) (ann : Option Value) : Nat → SharedT → Thread → Option (SharedT × Thread) := goG (stepOk n₀ ann) (stepT (denote tb) p w)
noncomputable def goW (tb : String → Option Builtin) (p : Program) (w : World) (n₀ : Nat) (ann : Option Value) : Nat → SharedT → Thread → Option (SharedT × Thread) := goG (stepOkW n₀ ann) (stepTW (denW tb) p w)
theorem go_eq : @goT = @goW := by unfold goT goW; rw [stepOk_eq, stepT_eq, den_eq]
theorem goT_of {tb : String → Option Builtin} {p : Program} {w : World} {n₀ : Nat} {ann : Option Value} {n : Nat} : ∀ {s s' : SharedT} {t t' : Thread}, goT tb p w n₀ ann n s t = some (s', t') → topGo tb p w n₀ ann n s.abs t = some (s'.abs, t') := by
  induction n with
  | zero => intro s s' t t' h; cases h; rfl
  | succ n ih =>
    intro s s' t t'
    show (match through t with | true => none | false => match stepOk n₀ ann t with | false => none | true => match stepT (denote tb) p w s t with | some (s', t') => goT tb p w n₀ ann n s' t' | none => none) = some (s', t') → (match through t with | true => none | false => match stepOk n₀ ann t with | false => none | true => match step (denote tb) p w s.abs t with | .go s' t' => topGo tb p w n₀ ann n s' t' | .halt _ _ => none) = some (s'.abs, t')
    cases through t with
    | true => exact fun h => nomatch h
    | false => cases stepOk n₀ ann t with
      | false => exact fun h => nomatch h
      | true => cases hs : stepT (denote tb) p w s t with
        | none => exact fun h => nomatch h
        | some r => obtain ⟨s₂, t₂⟩ := r; rw [stepT_spec hs]; exact ih

noncomputable def topG (ok : Thread → Bool) (st : SharedT → Thread → Option (SharedT × Thread)) : Nat → SharedT → Thread → Option SharedT
  | 0, _, _ => none
  | n + 1, s, t => match through t with
    | true => some s
    | false => match ok t with
      | false => none
      | true => match st s t with
        | some (s', t') => topG ok st n s' t'
        | none => none
noncomputable def topT (tb : String → Option Builtin) (p : Program) (w : World) (n₀ : Nat) (ann : Option Value) : Nat → SharedT → Thread → Option SharedT := topG (stepOk n₀ ann) (stepT (denote tb) p w)
noncomputable def topW (tb : String → Option Builtin) (p : Program) (w : World) (n₀ : Nat) (ann : Option Value) : Nat → SharedT → Thread → Option SharedT := topG (stepOkW n₀ ann) (stepTW (denW tb) p w)
theorem top_eq : @topT = @topW := by unfold topT topW; rw [stepOk_eq, stepT_eq, den_eq]
theorem topT_of {tb : String → Option Builtin} {p : Program} {w : World} {n₀ : Nat} {ann : Option Value} {n : Nat} : ∀ {s s' : SharedT} {t : Thread}, topT tb p w n₀ ann n s t = some s' → topRun tb p w n₀ ann n s.abs t = some s'.abs := by
  induction n with
  | zero => intro s s' t h; exact nomatch h
  | succ n ih =>
    intro s s' t
    show (match through t with | true => some s | false => match stepOk n₀ ann t with | false => none | true => match stepT (denote tb) p w s t with | some (s', t') => topT tb p w n₀ ann n s' t' | none => none) = some s' → (match through t with | true => some s.abs | false => match stepOk n₀ ann t with | false => none | true => match step (denote tb) p w s.abs t with | .go s' t' => topRun tb p w n₀ ann n s' t' | .halt _ _ => none) = some s'.abs
    cases through t with
    | true => intro h; cases h; rfl
    | false => cases stepOk n₀ ann t with
      | false => exact fun h => nomatch h
      | true => cases hs : stepT (denote tb) p w s t with
        | none => exact fun h => nomatch h
        | some r => obtain ⟨s₂, t₂⟩ := r; rw [stepT_spec hs]; exact ih

section
variable {tb : String → Option Builtin} {p : Program} {w : World} {n₀ : Nat} {ann : Option Value} {env : Env} {B : List Frame}
theorem pieceB {n N : Nat} {s s' r : Shared} {l rest : List Stmt} {c : Code} {pos p' : Pos} (hB : splitAtGen B = none) (h : segRun tb p w n₀ ann B.length n s (piecesOf l env c pos B) = some (.next, s', c, p'))
    (k : topRun tb p w n₀ ann N s' (restOf rest env c p' B) = some r) : topRun tb p w n₀ ann (n + N) s (restOf (l ++ rest) env c pos B) = some r := by
  obtain ⟨a, ha, hN⟩ := seg_top (res := id) (K' := fun f => match f with | .next => (execs rest env).wrap doneF (leaveH env) id id | f => doneF f) (H' := leaveH env) (B := B) hB n s (piecesOf l env c pos B)
    ⟨(execs l env).wrap (fun f => match f with | .next => (execs rest env).wrap doneF (leaveH env) id id | f => doneF f) (leaveH env) id id, c, pos, B⟩ _ _ _ _ ⟨rfl, rfl, .inl ⟨rfl, rfl, _, rfl, rfl⟩⟩ h
  obtain rfl : a = .next := ha
  have := hN N r k
  unfold restOf
  rw [execs_app_wrap]
  exact this
theorem blockB {n N : Nat} {s s' r : Shared} {b : List Stmt} {c : Code} {pos p' : Pos} (hB : splitAtGen B = none) (h : segRun tb p w n₀ ann B.length n s (blockOf b env c pos B) = some (.next, s', c, p'))
    (k : topRun tb p w n₀ ann N s' (restOf b env c p' B) = some r) : topRun tb p w n₀ ann (n + N) s ⟨denote tb (.body b env), c, pos, B⟩ = some r := by
  obtain ⟨a, ha, hN⟩ := seg_top (res := fun _ : Unit => Flow.next) (K' := fun _ => (execs b env).wrap doneF (leaveH env) id id) (H' := Sem.raise) (B := B) hB n s (blockOf b env c pos B)
    ⟨(blockStart b env).wrap (fun _ => (execs b env).wrap doneF (leaveH env) id id) .raise id id, c, pos, B⟩ _ _ _ _ ⟨rfl, rfl, .inl ⟨rfl, rfl, _, rfl, rfl⟩⟩ h
  rw [body_wrap]
  exact hN N r k
end

noncomputable def bootT (P : Params) : BT := ((((((((((BT.nil.ins 0 (boot_o_0 P)).ins 1 (boot_o_1 P)).ins 2 (boot_o_2 P)).ins 3 (boot_o_3 P)).ins 4 (boot_o_4 P)).ins 5 (boot_o_5 P)).ins 6 (boot_o_6 P)).ins 7 (boot_o_7 P)).ins 8 (boot_o_8 P)).ins 9 (boot_o_9 P)).ins 10 (boot_o_10 P)
noncomputable def bootLife : Life := (boot_heap ⟨fun _ => 0, fun _ => 0, fun _ => 0, fun _ => 0, fun _ _ => 0, fun _ => false, fun _ => 0, .refcount, .text, fun _ => 0, fun _ => none, fun _ => false, fun _ _ _ => true, fun _ _ _ => true, true, fun _ => false, fun _ => none, fun _ => none, fun _ _ _ => 0, fun _ _ => none, fun _ => none, fun _ => (0, false, ⟨#[]⟩), fun _ => none, fun d => d, fun _ => false⟩).life
theorem boot_abs (P : Params) : absHeap (bootT P) 11 bootLife = boot_heap P := by kernel_rfl
noncomputable def ST0 (P : Params) (os : OsState) : SharedT := ⟨bootT P, 11, bootLife, Array.mk [], boot_drawn, 181, os⟩
noncomputable def stubW : Thread :=
  ⟨(modCodeW TP.main TP.main.file none).bind fun code => (bodyFrameW code mainNs mainNs builtinsNs).bind fun frame =>
      (PySem.run (.body (behindTheImports TP) { scope := TP.main.scope, locals := mainNs, globals := mainNs, cells := [], code, frame := some frame })).bind fun _ => retW .none,
   .builtin "claim.caller" {}, default, []⟩
theorem stub_eq : topStub P0 = stubW := by
  rw [TP_eq]
  unfold topStub stubW
  simp only [modCode_eq, bodyFrame_eq, ret_eq]
  rfl
noncomputable abbrev AN : Option Value := some (.ref 6)
noncomputable def X0 (w : World) (os : OsState) : Option (SharedT × Thread) := goW TB TP w 11 AN 109 (ST0 w.params os) stubW
theorem X0_some (w : World) (os : OsState) : (X0 w os).isSome = true := by kernel_rfl
end
end Mine

end
section
open PySem PySem.W PyProof.Rows
set_option backward.match.sparseCases false
namespace Mine
noncomputable section
noncomputable def isCls : Stmt → Option (List Stmt × Scope)
  | .ClassDef _ _ _ b _ _ sc _ _ _ _ => some (b, sc)
  | _ => none
noncomputable def clsB : List Stmt := match TP.main.body with | _ :: _ :: st :: _ => (match isCls st with | some (b, _) => b | none => []) | _ => []
noncomputable def clsSc : Scope := match TP.main.body with | _ :: _ :: st :: _ => (match isCls st with | some (_, sc) => sc | none => TP.main.scope) | _ => TP.main.scope
noncomputable def menv : Env := { scope := TP.main.scope, locals := 3, globals := 3, cells := [], code := .ref 13, frame := some 14 }
noncomputable def cenv : Env := { scope := clsSc, locals := 24, globals := 3, cells := [], qual := ⟨⟨[77, 80, 85, 46]⟩⟩, func := none, code := .ref 27, frame := some 28, builtins := 0 }
noncomputable abbrev posC : Pos := ⟨5, 0, 1029, 786⟩
noncomputable abbrev cM : Code := .body (behindTheImports TP) menv
noncomputable abbrev cC : Code := .body clsB cenv
noncomputable abbrev frC (k : Result → Sem Fin) : Frame := .ret k none false [.ref 22, .ref 22, .ref 24, .ref 28] cM posC []
noncomputable abbrev BC (k : Result → Sem Fin) : List Frame := [frC k, topFrame ⟨0, 0, 0, 0⟩]
noncomputable def s0 (w : World) (os : OsState) : SharedT := match X0 w os with | some (s, _) => s | none => ST0 w.params os
noncomputable def t0 (w : World) (os : OsState) : Thread := match X0 w os with | some (_, t) => t | none => stubW
theorem X0_eq (w : World) (os : OsState) : X0 w os = some (s0 w os, t0 w os) := by
  have h := X0_some w os
  unfold s0 t0
  revert h
  cases X0 w os with
  | none => intro h; cases h
  | some x => intro _; rfl
noncomputable def kOf (t : Thread) : Result → Sem Fin := match t.stack with | .ret k _ _ _ _ _ _ :: _ => k | _ => fun _ => .pure (.done .next)
theorem t0_eq (w : World) (os : OsState) : t0 w os = ⟨denW TB cC, cC, posC, BC (kOf (t0 w os))⟩ := by kernel_rfl

noncomputable def txts : List Str → Nat → List Value
  | [], _ => []
  | x :: r, k => .str x k :: txts r (k + 1)
noncomputable def dfl : List Expr → Nat → List Value × Nat
  | [], k => ([], k)
  | .Constant (.int i) _ _ :: r, k => match dfl r (k + 1) with | (vs, k') => (.int i k :: vs, k')
  | _ :: r, k => match dfl r k with | (vs, k') => (.none :: vs, k')
noncomputable abbrev fileS : Str := ⟨⟨[47, 99, 108, 97, 105, 109, 47, 99, 117, 116, 46, 112, 121]⟩⟩
noncomputable def modV : Value := .str ⟨⟨[112, 121, 54, 53, 46, 100, 101, 118, 105, 99, 101, 115, 46, 109, 112, 117, 54, 53, 48, 50]⟩⟩ 194
noncomputable def pushName (h : Int) (key v : Value) : Obj → Obj
  | ⟨c, d, .dict es n, s⟩ => ⟨c, d, .dict (es.toList ++ [(⟨h, key, v⟩ : DictEntry)]).toArray (n + 1), s⟩
  | o => o
noncomputable def defTail (P : Params) (T : BT) (n k : Nat) (dV : Value) (name qual : Str) (args : Arguments) (body : List Stmt) (scope : Scope) (pos : Pos) : BT × Nat × Nat :=
  match localNamesW args scope (.stmts body) with
  | none => (T, n, k)
  | some (l1, l2) =>
    let k3 := k + 3
    let k4 := k3 + l1.length
    let k5 := k4 + l2.length
    let T := T.ins n { cls := .type "tuple", data := .seq #[] }
    let T := T.ins (n + 1) { cls := .none, data := .fields #[] }
    let T := T.ins (n + 2) { cls := .type "tuple", data := .seq (txts l1 k3).toArray }
    let T := T.ins (n + 3) { cls := .type "tuple", data := .seq (txts l2 k4).toArray }
    let T := T.ins (n + 4) { cls := .none, data := .func { name := name, qualname := qual, params := args, body := .stmts body, scope := scope, globals := 0, closure := [], defaults := .none, kwdefaults := .none } }
    let T := T.ins (n + 5) { cls := .type "code", data := .fields #[.str name k, .str qual (k + 1), .str fileS (k + 2), .int pos.line 0, .int (args.posonlyargs.length + args.args.length : Nat) 0, .int 0 0, .int 0 0, .int 3 0, .ref n, .bool true, .int 181 0, .ref (n + 1), .none, .ref (n + 2), .ref (n + 3), .ref (n + 4), .int (k5 : Nat) 0, .int pos.line 0, .str fileS (k5 + 1)] }
    let T := T.ins (n + 6) { cls := .type "function", data := .func { name := name, qualname := qual, params := args, body := .stmts body, scope := scope, globals := 3, closure := [], defaults := dV, kwdefaults := .none, doc := .none, pyModule := modV, annotations := none, code := .ref (n + 5), closureTuple := .none, builtins := 0 } }
    let T := T.set 26 (Obj.mapFields fun vs => vs ++ #[.int pos.line 0, .int pos.col 0, .ref (n + 5)])
    let T := T.set 24 (pushName (PyData.keyHash P name) (.str name (k5 + 2)) (.ref (n + 6)))
    (T, n + 7, k5 + 3)
noncomputable def instrL : List Addr := [372, 379, 365, 365, 365, 386, 393, 365, 400, 407, 414, 365, 365, 421, 428, 365, 435, 442, 365, 365, 365, 449, 456, 365, 463, 470, 365, 365, 365, 477, 484, 365, 491, 498, 365, 365, 505, 512, 519, 365, 526, 533, 540, 365, 547, 554, 561, 365, 568, 575, 365, 365, 365, 582, 589, 365, 596, 603, 365, 365, 365, 610, 617, 365, 624, 631, 365, 365, 365, 638, 645, 365, 652, 659, 666, 365, 673, 680, 687, 365, 694, 701, 365, 365, 365, 708, 715, 365, 722, 729, 365, 365, 365, 736, 743, 365, 750, 757, 365, 365, 365, 764, 771, 365, 778, 785, 792, 365, 799, 806, 813, 365, 820, 827, 365, 365, 365, 834, 841, 365, 848, 855, 365, 365, 365, 862, 869, 365, 365, 876, 365, 365, 883, 890, 897, 365, 904, 365, 911, 365, 918, 925, 932, 365, 939, 946, 365, 365, 953, 960, 967, 365, 974, 981, 988, 365, 365, 995, 365, 365, 1002, 1009, 1016, 365, 1023, 1030, 1037, 365, 1044, 1051, 1058, 365, 1065, 1072, 1079, 365, 1086, 1093, 365, 365, 1100, 1107, 1114, 365, 1121, 1128, 1135, 365, 1142, 1149, 1156, 365, 1163, 1170, 365, 365, 1177, 1184, 1191, 365, 1198, 1205, 1212, 365, 1219, 1226, 1233, 365, 1240, 1247, 365, 365, 365, 1254, 1261, 365, 1268, 1275, 365, 365, 365, 1282, 1289, 365, 1296, 1303, 365, 365, 1310, 1317, 1324, 365, 1331, 1338, 1345, 365, 1352, 1359, 1366, 365, 1373, 1380, 365, 365, 365, 1387, 1394, 365, 1401, 1408, 365, 365, 365, 1415, 1422, 365]
noncomputable def listVals (k : Nat) : List Expr → List Value × Nat
  | .Name _ _ :: _ => (instrL.map Value.ref, k)
  | es => dfl es k
noncomputable def defOne (P : Params) (x : BT × Nat × Nat) (st : Stmt) : BT × Nat × Nat := match x with
  | (T, n, k) => match st with
    | .FunctionDef name args body _ _ _ scope _ _ pos => match args.defaults with
      | [] => defTail P T n k .none name (cenv.qual ++ name) args body scope pos
      | ds => match dfl ds k with
        | (vs, k') => defTail P (T.ins n { cls := .type "tuple", data := .seq vs.toArray }) (n + 1) k' (.ref n) name (cenv.qual ++ name) args body scope pos
    | .Assign (.Name x _ :: _) (.Constant (.int i) _ _) _ => (T.set 24 (pushName (PyData.keyHash P x) (.str x (k + 1)) (.int i k)), n, k + 2)
    | .Assign (.Name x _ :: _) (.Constant (.str s) _ _) _ => (T.set 24 (pushName (PyData.keyHash P x) (.str x (k + 1)) (.str s k)), n, k + 2)
    | .Assign (.Name x _ :: _) (.List elts _) _ => match listVals k elts with
      | (vs, k') => ((T.ins n { cls := .type "list", data := .seq vs.toArray }).set 24 (pushName (PyData.keyHash P x) (.str x k') (.ref n)), n + 1, k' + 1)
    | _ => (T, n, k)
noncomputable def Sj (w : World) (os : OsState) (j : Nat) : SharedT := match s0 w os with
  | ⟨T, n, life, gens, drawn, k, os⟩ => match (clsB.take j).foldl (defOne w.params) (T, n, k) with
    | (T', n', k') => ⟨T', n', life, gens, drawn, k', os⟩
noncomputable def posAt : List Stmt → Pos → Pos
  | [], p => p
  | [.FunctionDef _ _ _ _ _ _ _ _ _ p], _ => p
  | [.Assign (.Name _ p :: _) _ _], _ => p
  | _ :: r, p => posAt r p
noncomputable def posJ (j : Nat) : Pos := posAt (clsB.take j) posC
noncomputable abbrev piece (w : World) (os : OsState) (k : Result → Sem Fin) (n i j : Nat) : Prop :=
  segW TB TP w 11 AN 2 n (Sj w os i) ⟨(execsW ((clsB.drop i).take (j - i)) cenv).wrap doneF deadEnd id id, cC, posJ i, BC k⟩ = some (.next, Sj w os j, cC, posJ j)
theorem p1 (w : World) (os : OsState) (k : Result → Sem Fin) : piece w os k 186 0 16 := by kernel_rfl
end
end Mine

end
section
open PySem PySem.W PyProof.Rows
namespace Mine
noncomputable section
noncomputable abbrev leavingW := @PySem.W.Fast.tw9442747609961115081
theorem leaving_eq : @leaving = @leavingW := PySem.W.Fast.te9442747609961115081
noncomputable abbrev blockStartW := @PySem.W.Fast.tw1066825118222455980
theorem blockStart_eq : @blockStart = @blockStartW := PySem.W.Fast.te1066825118222455980
noncomputable abbrev openSeenW := @PySem.W.Fast.tw4187177175401517315
theorem openSeen_eq : @openSeen = @openSeenW := PySem.W.Fast.te4187177175401517315
noncomputable abbrev importedW := @PySem.W.Fast.tw5923862056798008813
theorem imported_eq : @importedModules = @importedW := PySem.W.Fast.te5923862056798008813
noncomputable abbrev leaveHW (env : Env) : Value → Sem Fin := fun e => ((leavingW env e).bind fun _ => (.raise e : Sem Flow)).wrap doneF .raise id id
noncomputable def tailT (w : World) (os : OsState) : Thread := ⟨(execsW (clsB.drop 217) cenv).wrap doneF (leaveHW cenv) id id, cC, posJ 217, BC (kOf (t0 w os))⟩
noncomputable def XE (w : World) (os : OsState) : Option SharedT := topW TB TP w 11 AN 3000 (Sj w os 217) (tailT w os)
theorem blk (w : World) (os : OsState) (k : Result → Sem Fin) : segW TB TP w 11 AN 2 1 (s0 w os) ⟨(blockStartW clsB cenv).wrap (fun _ => doneF .next) deadEnd id id, cC, posC, BC k⟩ = some (.next, s0 w os, cC, posC) := by kernel_rfl
theorem s0_S0 (w : World) (os : OsState) : s0 w os = Sj w os 0 := by kernel_rfl
theorem pos0 : posJ 0 = posC := by kernel_rfl

theorem Pc {w : World} {os : OsState} {k : Result → Sem Fin} {n i j : Nat} (p : piece w os k n i j) :
    segRun treeTable P0 w 11 AN (BC k).length n (Sj w os i).abs (piecesOf ((clsB.drop i).take (j - i)) cenv cC (posJ i) (BC k)) = some (.next, (Sj w os j).abs, cC, posJ j) := by
  apply segRun_of
  rw [seg_eq, TB_eq, TP_eq]
  unfold piecesOf
  rw [execs_eq]
  exact p
theorem drops {i j : Nat} (h : i ≤ j) (l : List Stmt) : (l.drop i).take (j - i) ++ l.drop j = l.drop i := by
  have := List.take_append_drop (j - i) (l.drop i)
  rw [List.drop_drop, show i + (j - i) = j by lia] at this
  exact this
theorem runC {w : World} {os : OsState} {k : Result → Sem Fin} {n i j N : Nat} {r : Shared} (h : i ≤ j) (p : piece w os k n i j)
    (q : topRun treeTable P0 w 11 AN N (Sj w os j).abs (restOf (clsB.drop j) cenv cC (posJ j) (BC k)) = some r) :
    topRun treeTable P0 w 11 AN (n + N) (Sj w os i).abs (restOf (clsB.drop i) cenv cC (posJ i) (BC k)) = some r := by
  rw [← drops h clsB]
  exact pieceB rfl (Pc p) q
noncomputable def Rn (w : World) (os : OsState) (k : Result → Sem Fin) (n i j : Nat) : Prop :=
  ∀ N r, topRun treeTable P0 w 11 AN N (Sj w os j).abs (restOf (clsB.drop j) cenv cC (posJ j) (BC k)) = some r → topRun treeTable P0 w 11 AN (n + N) (Sj w os i).abs (restOf (clsB.drop i) cenv cC (posJ i) (BC k)) = some r
theorem Rn_of {w : World} {os : OsState} {k : Result → Sem Fin} {n i j : Nat} (h : Nat.ble i j = true) (p : piece w os k n i j) : Rn w os k n i j := fun _ _ q => runC (Nat.le_of_ble_eq_true h) p q
theorem Rn_tr {w : World} {os : OsState} {k : Result → Sem Fin} {n m t i j l : Nat} (e : n + m = t) (a : Rn w os k n i j) (b : Rn w os k m j l) : Rn w os k t i l := by
  intro N r q
  rw [← e, Nat.add_assoc]
  exact a _ _ (b _ _ q)
theorem run_end {w : World} {os : OsState} {s : SharedT} (h : XE w os = some s) :
    topRun treeTable P0 w 11 AN 3000 (Sj w os 217).abs (restOf (clsB.drop 217) cenv cC (posJ 217) (BC (kOf (t0 w os)))) = some s.abs := by
  apply topT_of
  rw [top_eq, TB_eq, TP_eq]
  unfold restOf
  rw [execs_eq]
  have e : leaveH cenv = leaveHW cenv := by unfold leaveH leaveHW; rw [leaving_eq]
  rw [e]
  exact h
theorem run_all {w : World} {os : OsState} {s : SharedT} {n1 n2 n3 n4 n5 n6 n7 n8 : Nat} {a b c d e f g : Nat}
    (h1 : ∀ k, Rn w os k n1 0 a) (h2 : ∀ k, Rn w os k n2 a b) (h3 : ∀ k, Rn w os k n3 b c) (h4 : ∀ k, Rn w os k n4 c d) (h5 : ∀ k, Rn w os k n5 d e) (h6 : ∀ k, Rn w os k n6 e f) (h7 : ∀ k, Rn w os k n7 f g) (h8 : ∀ k, Rn w os k n8 g 217) (h : XE w os = some s) :
    topRun treeTable P0 w 11 AN (109 + (1 + (n1 + (n2 + (n3 + (n4 + (n5 + (n6 + (n7 + (n8 + 3000)))))))))) (ST0 w.params os).abs (topStub P0) = some s.abs := by
  have gg : goT treeTable P0 w 11 AN 109 (ST0 w.params os) (topStub P0) = some (s0 w os, t0 w os) := by
    rw [go_eq, TB_eq, stub_eq, TP_eq]
    exact X0_eq w os
  refine go_top (goT_of gg) ?_
  rw [t0_eq]
  rw [← den_eq, ← TB_eq]
  refine blockB (B := BC (kOf (t0 w os))) rfl (s' := (s0 w os).abs) (p' := posC) ?_ ?_
  · apply segRun_of
    rw [seg_eq, TB_eq, TP_eq]
    unfold blockOf
    rw [blockStart_eq]
    exact blk w os _
  · rw [s0_S0, ← pos0]
    exact h1 _ _ _ (h2 _ _ _ (h3 _ _ _ (h4 _ _ _ (h5 _ _ _ (h6 _ _ _ (h7 _ _ _ (h8 _ _ _ (run_end h))))))))
end
end Mine

end
section
open PySem PySem.W PyProof.Rows
set_option backward.match.sparseCases false
namespace Mine
noncomputable section
noncomputable def cstNames : List (Str × Int) := [(⟨⟨[78, 69, 71, 65, 84, 73, 86, 69]⟩⟩, 128), (⟨⟨[79, 86, 69, 82, 70, 76, 79, 87]⟩⟩, 64), (⟨⟨[85, 78, 85, 83, 69, 68]⟩⟩, 32), (⟨⟨[66, 82, 69, 65, 75]⟩⟩, 16), (⟨⟨[68, 69, 67, 73, 77, 65, 76]⟩⟩, 8), (⟨⟨[73, 78, 84, 69, 82, 82, 85, 80, 84]⟩⟩, 4), (⟨⟨[90, 69, 82, 79]⟩⟩, 2), (⟨⟨[67, 65, 82, 82, 89]⟩⟩, 1), (⟨⟨[66, 89, 84, 69, 95, 87, 73, 68, 84, 72]⟩⟩, 8), (⟨⟨[65, 68, 68, 82, 95, 87, 73, 68, 84, 72]⟩⟩, 16)]
noncomputable def methNames : List (Str × Nat × Nat) := [(⟨⟨[95, 95, 105, 110, 105, 116, 95, 95]⟩⟩, 15, 36), (⟨⟨[115, 116, 101, 112]⟩⟩, 16, 43), (⟨⟨[114, 101, 115, 101, 116]⟩⟩, 17, 50), (⟨⟨[66, 121, 116, 101, 65, 116]⟩⟩, 20, 71), (⟨⟨[87, 111, 114, 100, 65, 116]⟩⟩, 21, 78), (⟨⟨[87, 114, 97, 112, 65, 116]⟩⟩, 22, 85), (⟨⟨[80, 114, 111, 103, 114, 97, 109, 67, 111, 117, 110, 116, 101, 114]⟩⟩, 23, 92), (⟨⟨[90, 101, 114, 111, 80, 97, 103, 101, 65, 100, 100, 114]⟩⟩, 25, 106), (⟨⟨[73, 110, 100, 105, 114, 101, 99, 116, 89, 65, 100, 100, 114]⟩⟩, 29, 134), (⟨⟨[73, 109, 109, 101, 100, 105, 97, 116, 101, 66, 121, 116, 101]⟩⟩, 24, 99), (⟨⟨[66, 114, 97, 110, 99, 104, 82, 101, 108, 65, 100, 100, 114]⟩⟩, 33, 162), (⟨⟨[115, 116, 80, 117, 115, 104]⟩⟩, 34, 169), (⟨⟨[115, 116, 80, 111, 112]⟩⟩, 35, 176), (⟨⟨[115, 116, 80, 117, 115, 104, 87, 111, 114, 100]⟩⟩, 36, 183), (⟨⟨[115, 116, 80, 111, 112, 87, 111, 114, 100]⟩⟩, 37, 190), (⟨⟨[70, 108, 97, 103, 115, 78, 90]⟩⟩, 38, 197), (⟨⟨[111, 112, 79, 82, 65]⟩⟩, 39, 204), (⟨⟨[111, 112, 66, 67, 76]⟩⟩, 42, 225), (⟨⟨[111, 112, 66, 83, 84]⟩⟩, 43, 232), (⟨⟨[111, 112, 83, 69, 84]⟩⟩, 45, 246), (⟨⟨[111, 112, 83, 84, 65]⟩⟩, 52, 295), (⟨⟨[111, 112, 83, 84, 88]⟩⟩, 54, 309), (⟨⟨[111, 112, 83, 66, 67]⟩⟩, 56, 323), (⟨⟨[111, 112, 73, 78, 67, 82]⟩⟩, 58, 337), (⟨⟨[111, 112, 76, 68, 65]⟩⟩, 59, 344), (⟨⟨[111, 112, 76, 68, 89]⟩⟩, 60, 351), (⟨⟨[111, 112, 76, 68, 88]⟩⟩, 61, 358), (⟨⟨[90, 101, 114, 111, 80, 97, 103, 101, 88, 65, 100, 100, 114]⟩⟩, 26, 113), (⟨⟨[65, 98, 115, 111, 108, 117, 116, 101, 88, 65, 100, 100, 114]⟩⟩, 31, 148), (⟨⟨[65, 98, 115, 111, 108, 117, 116, 101, 89, 65, 100, 100, 114]⟩⟩, 32, 155), (⟨⟨[111, 112, 65, 83, 76]⟩⟩, 40, 211), (⟨⟨[111, 112, 76, 83, 82]⟩⟩, 41, 218), (⟨⟨[111, 112, 67, 76, 82]⟩⟩, 44, 239), (⟨⟨[111, 112, 82, 79, 76]⟩⟩, 48, 267), (⟨⟨[111, 112, 69, 79, 82]⟩⟩, 49, 274), (⟨⟨[111, 112, 65, 68, 67]⟩⟩, 50, 281), (⟨⟨[111, 112, 82, 79, 82]⟩⟩, 51, 288), (⟨⟨[111, 112, 83, 84, 89]⟩⟩, 53, 302), (⟨⟨[111, 112, 67, 77, 80, 82]⟩⟩, 55, 316), (⟨⟨[111, 112, 68, 69, 67, 82]⟩⟩, 57, 330)]
noncomputable def instNames : List (Str × Nat × Nat) := [(⟨⟨[105, 110, 115, 116, 95, 48, 120, 97, 48]⟩⟩, 153, 1002), (⟨⟨[105, 110, 115, 116, 95, 48, 120, 98, 49]⟩⟩, 166, 1093), (⟨⟨[105, 110, 115, 116, 95, 48, 120, 99, 56]⟩⟩, 181, 1198), (⟨⟨[105, 110, 115, 116, 95, 48, 120, 49, 49]⟩⟩, 73, 442), (⟨⟨[105, 110, 115, 116, 95, 48, 120, 100, 48]⟩⟩, 187, 1240), (⟨⟨[105, 110, 115, 116, 95, 48, 120, 54, 48]⟩⟩, 117, 750), (⟨⟨[105, 110, 115, 116, 95, 48, 120, 51, 56]⟩⟩, 95, 596), (⟨⟨[105, 110, 115, 116, 95, 48, 120, 102, 49]⟩⟩, 207, 1380), (⟨⟨[105, 110, 115, 116, 95, 48, 120, 98, 48]⟩⟩, 165, 1086), (⟨⟨[105, 110, 115, 116, 95, 48, 120, 97, 53]⟩⟩, 157, 1030), (⟨⟨[105, 110, 115, 116, 95, 48, 120, 97, 54]⟩⟩, 158, 1037), (⟨⟨[105, 110, 115, 116, 95, 48, 120, 56, 53]⟩⟩, 137, 890), (⟨⟨[105, 110, 115, 116, 95, 48, 120, 56, 54]⟩⟩, 138, 897), (⟨⟨[105, 110, 115, 116, 95, 48, 120, 52, 99]⟩⟩, 106, 673), (⟨⟨[105, 110, 115, 116, 95, 48, 120, 57, 49]⟩⟩, 145, 946), (⟨⟨[105, 110, 115, 116, 95, 48, 120, 50, 48]⟩⟩, 80, 491), (⟨⟨[105, 110, 115, 116, 95, 48, 120, 101, 54]⟩⟩, 199, 1324), (⟨⟨[105, 110, 115, 116, 95, 48, 120, 97, 57]⟩⟩, 160, 1051), (⟨⟨[105, 110, 115, 116, 95, 48, 120, 97, 50]⟩⟩, 155, 1016), (⟨⟨[105, 110, 115, 116, 95, 48, 120, 52, 54]⟩⟩, 102, 645), (⟨⟨[105, 110, 115, 116, 95, 48, 120, 57, 48]⟩⟩, 144, 939), (⟨⟨[105, 110, 115, 116, 95, 48, 120, 49, 56]⟩⟩, 76, 463), (⟨⟨[105, 110, 115, 116, 95, 48, 120, 54, 53]⟩⟩, 119, 764), (⟨⟨[105, 110, 115, 116, 95, 48, 120, 54, 97]⟩⟩, 123, 792), (⟨⟨[105, 110, 115, 116, 95, 48, 120, 54, 54]⟩⟩, 120, 771), (⟨⟨[105, 110, 115, 116, 95, 48, 120, 99, 97]⟩⟩, 183, 1212), (⟨⟨[105, 110, 115, 116, 95, 48, 120, 48, 54]⟩⟩, 66, 393), (⟨⟨[105, 110, 115, 116, 95, 48, 120, 50, 54]⟩⟩, 84, 519), (⟨⟨[105, 110, 115, 116, 95, 48, 120, 50, 97]⟩⟩, 87, 540), (⟨⟨[105, 110, 115, 116, 95, 48, 120, 99, 53]⟩⟩, 179, 1184), (⟨⟨[105, 110, 115, 116, 95, 48, 120, 101, 53]⟩⟩, 198, 1317), (⟨⟨[105, 110, 115, 116, 95, 48, 120, 56, 56]⟩⟩, 139, 904), (⟨⟨[105, 110, 115, 116, 95, 48, 120, 98, 57]⟩⟩, 171, 1128), (⟨⟨[105, 110, 115, 116, 95, 48, 120, 52, 56]⟩⟩, 103, 652), (⟨⟨[105, 110, 115, 116, 95, 48, 120, 54, 56]⟩⟩, 121, 778), (⟨⟨[105, 110, 115, 116, 95, 48, 120, 99, 48]⟩⟩, 176, 1163), (⟨⟨[105, 110, 115, 116, 95, 48, 120, 56, 52]⟩⟩, 136, 883), (⟨⟨[105, 110, 115, 116, 95, 48, 120, 53, 48]⟩⟩, 109, 694), (⟨⟨[105, 110, 115, 116, 95, 48, 120, 52, 57]⟩⟩, 104, 659), (⟨⟨[105, 110, 115, 116, 95, 48, 120, 49, 48]⟩⟩, 72, 435), (⟨⟨[105, 110, 115, 116, 95, 48, 120, 100, 49]⟩⟩, 188, 1247), (⟨⟨[105, 110, 115, 116, 95, 48, 120, 97, 52]⟩⟩, 156, 1023), (⟨⟨[105, 110, 115, 116, 95, 48, 120, 98, 100]⟩⟩, 174, 1149), (⟨⟨[105, 110, 115, 116, 95, 48, 120, 100, 100]⟩⟩, 193, 1282), (⟨⟨[105, 110, 115, 116, 95, 48, 120, 102, 100]⟩⟩, 212, 1415), (⟨⟨[105, 110, 115, 116, 95, 48, 120, 98, 99]⟩⟩, 173, 1142), (⟨⟨[105, 110, 115, 116, 95, 48, 120, 57, 100]⟩⟩, 152, 995), (⟨⟨[105, 110, 115, 116, 95, 48, 120, 57, 56]⟩⟩, 149, 974), (⟨⟨[105, 110, 115, 116, 95, 48, 120, 101, 56]⟩⟩, 200, 1331), (⟨⟨[105, 110, 115, 116, 95, 48, 120, 101, 52]⟩⟩, 197, 1310), (⟨⟨[105, 110, 115, 116, 95, 48, 120, 102, 48]⟩⟩, 206, 1373), (⟨⟨[105, 110, 115, 116, 95, 48, 120, 100, 53]⟩⟩, 189, 1254), (⟨⟨[105, 110, 115, 116, 95, 48, 120, 98, 53]⟩⟩, 168, 1107), (⟨⟨[105, 110, 115, 116, 95, 48, 120, 97, 97]⟩⟩, 161, 1058), (⟨⟨[105, 110, 115, 116, 95, 48, 120, 57, 53]⟩⟩, 147, 960), (⟨⟨[105, 110, 115, 116, 95, 48, 120, 102, 54]⟩⟩, 209, 1394), (⟨⟨[105, 110, 115, 116, 95, 48, 120, 56, 97]⟩⟩, 140, 911), (⟨⟨[105, 110, 115, 116, 95, 48, 120, 100, 54]⟩⟩, 190, 1261)]
noncomputable def metNames : List (Str × Nat × Nat) := methNames ++ instNames
noncomputable def tabNames : List (Str × Addr) := [(⟨⟨[105, 110, 115, 116, 114, 117, 99, 116]⟩⟩, 1423), (⟨⟨[99, 121, 99, 108, 101, 116, 105, 109, 101]⟩⟩, 1424), (⟨⟨[101, 120, 116, 114, 97, 99, 121, 99, 108, 101, 115]⟩⟩, 1425)]
noncomputable def absNames : List Str := [⟨⟨[110, 97, 109, 101]⟩⟩, ⟨⟨[98, 121, 116, 101, 77, 97, 115, 107]⟩⟩, ⟨⟨[97, 100, 100, 114, 77, 97, 115, 107]⟩⟩, ⟨⟨[97, 100, 100, 114, 72, 105, 103, 104, 77, 97, 115, 107]⟩⟩, ⟨⟨[115, 112, 66, 97, 115, 101]⟩⟩, ⟨⟨[101, 120, 99, 121, 99, 108, 101, 115]⟩⟩, ⟨⟨[97, 100, 100, 99, 121, 99, 108, 101, 115]⟩⟩, ⟨⟨[112, 114, 111, 99, 101, 115, 115, 111, 114, 67, 121, 99, 108, 101, 115]⟩⟩, ⟨⟨[109, 101, 109, 111, 114, 121]⟩⟩, ⟨⟨[115, 116, 97, 114, 116, 95, 112, 99]⟩⟩, ⟨⟨[112, 99]⟩⟩, ⟨⟨[115, 112]⟩⟩, ⟨⟨[97]⟩⟩, ⟨⟨[120]⟩⟩, ⟨⟨[121]⟩⟩, ⟨⟨[112]⟩⟩, ⟨⟨[95, 95, 103, 101, 116, 97, 116, 116, 114, 105, 98, 117, 116, 101, 95, 95]⟩⟩, ⟨⟨[95, 95, 103, 101, 116, 97, 116, 116, 114, 95, 95]⟩⟩, ⟨⟨[95, 95, 115, 101, 116, 97, 116, 116, 114, 95, 95]⟩⟩, ⟨⟨[95, 95, 110, 101, 119, 95, 95]⟩⟩, ⟨⟨[95, 95, 99, 97, 108, 108, 95, 95]⟩⟩, ⟨⟨[95, 95, 99, 108, 97, 115, 115, 95, 95]⟩⟩]

noncomputable def cycL : List Int := [7, 6, 0, 0, 0, 3, 5, 0, 3, 2, 2, 0, 0, 4, 6, 0, 2, 5, 0, 0, 0, 4, 6, 0, 2, 4, 0, 0, 0, 4, 7, 0, 6, 6, 0, 0, 3, 3, 5, 0, 4, 2, 2, 0, 4, 4, 6, 0, 2, 5, 0, 0, 0, 4, 6, 0, 2, 4, 0, 0, 0, 4, 7, 0, 6, 6, 0, 0, 0, 3, 5, 0, 3, 2, 2, 0, 3, 4, 6, 0, 2, 5, 0, 0, 0, 4, 6, 0, 2, 4, 0, 0, 0, 4, 7, 0, 6, 6, 0, 0, 0, 3, 5, 0, 4, 2, 2, 0, 5, 4, 6, 0, 2, 5, 0, 0, 0, 4, 6, 0, 2, 4, 0, 0, 0, 4, 7, 0, 0, 6, 0, 0, 3, 3, 3, 0, 2, 0, 2, 0, 4, 4, 4, 0, 2, 6, 0, 0, 4, 4, 4, 0, 2, 5, 2, 0, 0, 5, 0, 0, 2, 6, 2, 0, 3, 3, 3, 0, 2, 2, 2, 0, 4, 4, 4, 0, 2, 5, 0, 0, 4, 4, 4, 0, 2, 4, 2, 0, 4, 4, 4, 0, 2, 6, 0, 0, 3, 3, 5, 0, 2, 2, 2, 0, 4, 4, 3, 0, 2, 5, 0, 0, 0, 4, 6, 0, 2, 4, 0, 0, 0, 4, 7, 0, 2, 6, 0, 0, 3, 3, 5, 0, 2, 2, 2, 0, 4, 4, 6, 0, 2, 5, 0, 0, 0, 4, 6, 0, 2, 4, 0, 0, 0, 4, 7, 0]
noncomputable def extL : List Int := [0, 0, 0, 0, 0, 0, 0, 0, 0, 0, 0, 0, 0, 0, 0, 0, 2, 1, 0, 0, 0, 0, 0, 0, 0, 1, 0, 0, 0, 1, 0, 0, 0, 0, 0, 0, 0, 0, 0, 0, 0, 0, 0, 0, 0, 0, 0, 0, 2, 1, 0, 0, 0, 0, 0, 0, 0, 1, 0, 0, 0, 1, 0, 0, 0, 0, 0, 0, 0, 0, 0, 0, 0, 0, 0, 0, 0, 0, 0, 0, 2, 1, 0, 0, 0, 0, 0, 0, 0, 1, 0, 0, 0, 1, 0, 0, 0, 0, 0, 0, 0, 0, 0, 0, 0, 0, 0, 0, 0, 0, 0, 0, 2, 1, 0, 0, 0, 0, 0, 0, 0, 1, 0, 0, 0, 1, 0, 0, 0, 0, 0, 0, 0, 0, 0, 0, 0, 0, 0, 0, 0, 0, 0, 0, 2, 0, 0, 0, 0, 0, 0, 0, 0, 0, 0, 0, 0, 0, 0, 0, 0, 0, 0, 0, 0, 0, 0, 0, 0, 0, 0, 0, 0, 0, 0, 0, 2, 1, 0, 0, 0, 0, 0, 0, 0, 1, 0, 0, 1, 1, 1, 0, 0, 0, 0, 0, 0, 0, 0, 0, 0, 0, 0, 0, 0, 0, 0, 0, 2, 1, 0, 0, 0, 0, 0, 0, 0, 1, 0, 0, 0, 1, 0, 0, 0, 0, 0, 0, 0, 0, 0, 0, 0, 0, 0, 0, 0, 0, 0, 0, 2, 1, 0, 0, 0, 0, 0, 0, 0, 1, 0, 0, 0, 1, 0, 0]

noncomputable def bare : Value → Value
  | .int i _ => .int i 0
  | .str s _ => .str s 0
  | v => v
noncomputable def fObj (j a : Nat) : Obj := match clsB[j]? with
  | some (.FunctionDef name args body _ _ _ scope _ _ _) => { cls := .type "function", data := .func { name := name, qualname := cenv.qual ++ name, params := args, body := .stmts body, scope := scope, globals := 3, closure := [], defaults := (match args.defaults with | [] => .none | _ => .ref 29), kwdefaults := .none, doc := .none, pyModule := modV, annotations := none, code := .ref (a - 1), closureTuple := .none, builtins := 0 } }
  | _ => default
noncomputable def fQual (j : Nat) : Str := match clsB[j]? with
  | some (.FunctionDef name _ _ _ _ _ _ _ _ _) => cenv.qual ++ name
  | _ => ⟨#[]⟩
noncomputable def codeQ (o : Obj) : Option Str := match o.data with
  | .fields vs => (match vs.toList with | _ :: .str q _ :: _ => some q | _ => none)
  | _ => none
noncomputable def seqOf (o : Obj) : Option (Value × List Value) := match o.data with
  | .seq xs _ => some (o.cls, xs.toList.map bare)
  | _ => none
noncomputable def clsO : Obj := { cls := .type "type", data := .cls ⟨⟨⟨[77, 80, 85]⟩⟩, [.type "object"], [.ref 1428, .type "object"], 1427, ⟨⟨[77, 80, 85]⟩⟩, true, [], [], false, none, false⟩, slots := #[none, none, some (.str ⟨⟨[77, 80, 85]⟩⟩ 196), some (.str ⟨⟨[77, 80, 85]⟩⟩ 204), some (.builtin "object.__new__"), some (.bool true)] }
noncomputable def codeHd (o : Obj) : Option (Value × List (Option Value)) := match o.data with
  | .fields vs => some (o.cls, [7, 9, 10, 11, 18].map fun i => (vs.toList[i]?).map bare)
  | _ => none
noncomputable def fnCode (o : Obj) : Option Value := match o.data with
  | .func fd => some fd.code
  | _ => none
noncomputable abbrev ObsX : Type := Option (List (Option (Option Value))) × Option Obj × Option (Value × List (Option Value)) × Option Obj × Option (Value × List (Option Value)) × Option Value
noncomputable abbrev Obs : Type := Option Obj × ObsX × (Option (Value × Option Addr × Array (Option Value))) × List (Option (Option Value)) × List (Option Obj) × List (Option Str) × List (Option (Value × List Value)) × Option (Value × List Value)
noncomputable def dictHd (o : Obj) : Option (Value × Option Addr × Array (Option Value)) := match o.data with
  | .dict _ _ => some (o.cls, o.dict, o.slots)
  | _ => none
noncomputable def globNames : List Str := [⟨⟨[77, 80, 85]⟩⟩, ⟨⟨[95, 108, 97, 119, 95, 119, 105, 100, 101]⟩⟩, ⟨⟨[95, 108, 97, 119, 95, 97, 115, 115, 101, 109, 98, 108, 101]⟩⟩, ⟨⟨[95, 108, 97, 119, 95, 98, 114, 97, 110, 99, 104]⟩⟩, ⟨⟨[95, 108, 97, 119, 95, 105, 110, 115, 101, 114, 116, 105, 111, 110]⟩⟩, ⟨⟨[95, 108, 97, 119, 95, 98, 117, 98, 98, 108, 101]⟩⟩, ⟨⟨[108, 97, 119]⟩⟩]
noncomputable def globVals : List (Option (Option Value)) := [some (some (.ref 1428)), some (some (.ref 1439)), some (some (.ref 1446)), some (some (.ref 1453)), some (some (.ref 1460)), some (some (.ref 1467)), some (some (.ref 1472))]
noncomputable def Yg (g : Addr → Option Obj) : Obs :=
  (g 1428, ((g 3).map fun o => globNames.map fun x => lookIn x o, g 80, (g 84).bind codeHd, g 1469, (g 1471).bind codeHd, (g 1472).bind fnCode), (g 1427).bind dictHd, (cstNames.map (·.1) ++ methNames.map (·.1) ++ tabNames.map (·.1) ++ absNames).map (fun x => (g 1427).bind fun o => (lookIn x o).map (Option.map bare)),
   metNames.map (fun x => g x.2.2), metNames.map (fun x => (g (x.2.2 - 1)).bind codeQ), tabNames.map (fun x => (g x.2).bind seqOf), (g 29).bind seqOf)
noncomputable def Ya (_ : World) : Obs :=
  (some clsO, (some globVals, some { cls := .none, data := .fields #[] }, some (.type "code", [some (.int 3 0), some (.bool true), some (.int 181 0), some (.ref 80), some (.str fileS 0)]), some { cls := .none, data := .fields #[] }, some (.type "code", [some (.int 3 0), some (.bool true), some (.int 181 0), some (.ref 1469), some (.str fileS 0)]), some (.ref 1471)), some (.type "dict", none, #[]), cstNames.map (fun x => some (some (.int x.2 0))) ++ methNames.map (fun x => some (some (.ref x.2.2))) ++ tabNames.map (fun x => some (some (.ref x.2))) ++ absNames.map (fun _ => some none),
   metNames.map (fun x => some (fObj x.2.1 x.2.2)), metNames.map (fun x => some (fQual x.2.1)),
   [some (.type "list", instrL.map Value.ref), some (.type "list", cycL.map fun i => .int i 0), some (.type "list", extL.map fun i => .int i 0)], some (.type "tuple", [.none, .int 0 0]))
noncomputable def qP : Program := { TP with main := { TP.main with body := TP.main.body.drop 4 } }
noncomputable def looseL : List Str := [⟨⟨[95, 119, 97, 108, 108]⟩⟩, ⟨⟨[77, 80, 85]⟩⟩]
noncomputable def gT (s : SharedT) (a : Addr) : Option Obj := match Nat.blt a s.n with
  | true => (s.tree.get a).bind alive
  | false => none
noncomputable def obs (w : World) (s : SharedT) := (s.n, (staticsOk (importedW TP.main.body) (boot_heap w.params) s.abs.heap && namesBound TP s.abs.heap && gensDone s.abs && laidKept (boot_heap w.params) s.abs.heap), openSeenW qP looseL (importedW TP.main.body) (fun _ => true) true s.abs, Yg (gT s))
theorem XE_obs (w : World) (os : OsState) : (XE w os).map (obs w) = some (1473, true, openGood qP looseL, Ya w) := by kernel_rfl
end
end Mine

end
section
open PySem PySem.W PyProof.Rows
namespace Mine
noncomputable section
noncomputable def allNames : List Str := cstNames.map (·.1) ++ methNames.map (·.1) ++ tabNames.map (·.1) ++ absNames
noncomputable def allVals : List (Option (Option Value)) := cstNames.map (fun x => some (some (.int x.2 0))) ++ methNames.map (fun x => some (some (.ref x.2.2))) ++ tabNames.map (fun x => some (some (.ref x.2))) ++ absNames.map (fun _ => some none)
noncomputable def tabVals : List (Option (Value × List Value)) := [some (.type "list", instrL.map Value.ref), some (.type "list", cycL.map fun i => .int i 0), some (.type "list", extL.map fun i => .int i 0)]
structure MpuAt (h : Heap) (es : Array DictEntry) (n : Nat) : Prop where
  cls : h.get? 1428 = some clsO
  nso : h.get? 1427 = some ⟨.type "dict", none, .dict es n, #[]⟩
  look : allNames.map (fun x => (lookIn x ⟨.type "dict", none, .dict es n, #[]⟩).map (Option.map bare)) = allVals
  fns : ∀ x ∈ metNames, h.get? x.2.2 = some (fObj x.2.1 x.2.2)
  codes : ∀ x ∈ metNames, ∃ o, h.get? (x.2.2 - 1) = some o ∧ codeQ o = some (fQual x.2.1)
  tabs : ∀ (i : Nat) (x : Str × Addr), tabNames[i]? = some x → ∃ o, h.get? x.2 = some o ∧ some (seqOf o) = tabVals[i]?
  dflt : ∃ o, h.get? 29 = some o ∧ seqOf o = some (.type "tuple", [.none, .int 0 0])
  glob : ∃ o, h.get? 3 = some o ∧ globNames.map (fun x => lookIn x o) = globVals
  tab : h.get? 80 = some { cls := .none, data := .fields #[] }
  code : ∃ o, h.get? 84 = some o ∧ codeHd o = some (.type "code", [some (.int 3 0), some (.bool true), some (.int 181 0), some (.ref 80), some (.str fileS 0)])
  ltab : h.get? 1469 = some { cls := .none, data := .fields #[] }
  lcode : ∃ o, h.get? 1471 = some o ∧ codeHd o = some (.type "code", [some (.int 3 0), some (.bool true), some (.int 181 0), some (.ref 1469), some (.str fileS 0)])
  lfn : ∃ o, h.get? 1472 = some o ∧ fnCode o = some (.ref 1471)
theorem MpuAt.keeps {h h' : Heap} {es : Array DictEntry} {n : Nat} (M : MpuAt h es n) (k : ∀ b o, h.get? b = some o → h'.get? b = some o) : MpuAt h' es n :=
  ⟨k _ _ M.cls, k _ _ M.nso, M.look, fun x hx => k _ _ (M.fns x hx), fun x hx => let ⟨o, a, b⟩ := M.codes x hx; ⟨o, k _ _ a, b⟩, fun i x hx => let ⟨o, a, b⟩ := M.tabs i x hx; ⟨o, k _ _ a, b⟩, let ⟨o, a, b⟩ := M.dflt; ⟨o, k _ _ a, b⟩, let ⟨o, a, b⟩ := M.glob; ⟨o, k _ _ a, b⟩, k _ _ M.tab, let ⟨o, a, b⟩ := M.code; ⟨o, k _ _ a, b⟩, k _ _ M.ltab, let ⟨o, a, b⟩ := M.lcode; ⟨o, k _ _ a, b⟩, let ⟨o, a, b⟩ := M.lfn; ⟨o, k _ _ a, b⟩⟩
theorem map_all {α β : Type} {f g : α → β} : ∀ {l : List α}, l.map f = l.map g → ∀ x ∈ l, f x = g x
  | _ :: _, h, _, .head _ => (List.cons.inj h).1
  | _ :: _, h, _, .tail _ m => map_all (List.cons.inj h).2 _ m
theorem bind_some_of {α β : Type} {x : Option α} {f : α → Option β} {b : β} (h : x.bind f = some b) : ∃ a, x = some a ∧ f a = some b := Option.bind_eq_some_iff.mp h
theorem yp_of {w : World} {g : Addr → Option Obj} {h : Heap} (k : ∀ a o, g a = some o → h.get? a = some o) (e : Yg g = Ya w) : ∃ es n, MpuAt h es n := by
  unfold Yg Ya at e
  simp only [Prod.mk.injEq] at e
  refine El_aaaaaaa e fun e1 hc1 e2 e3 e4 e5 e6 e7 => ?_; obtain ⟨x1, x2, x3, x4, x5, x6⟩ := hc1; try clear e
  obtain ⟨o, ho, hd⟩ := bind_some_of e2
  obtain ⟨c, d, dt, sl⟩ := o
  cases dt with
  | dict es n =>
    simp only [dictHd, Option.some.injEq, Prod.mk.injEq] at hd
    obtain ⟨rfl, rfl, rfl⟩ := hd
    refine ⟨es, n, k _ _ e1, k _ _ ho, ?_, ?_, ?_, ?_, ?_, ?_, k _ _ x2, ?_, k _ _ x4, ?_, ?_⟩
    · rw [ho] at e3
      simp only [Option.bind_some] at e3
      exact e3
    · exact fun x hx => k _ _ (map_all e4 x hx)
    · intro x hx
      refine El_ea (bind_some_of (map_all e5 x hx)) fun o a b => ?_
      exact ⟨o, k _ _ a, b⟩
    · intro i x hx
      have h := congrArg (·[i]?) e6
      simp only [List.getElem?_map, hx, Option.map_some] at h
      have hv : ∃ v, tabVals[i]? = some (some v) := by
        have : i < 3 := by
          have := (List.getElem?_eq_some_iff.mp hx).1
          exact this
        match i, this with
        | 0, _ => exact ⟨_, rfl⟩
        | 1, _ => exact ⟨_, rfl⟩
        | 2, _ => exact ⟨_, rfl⟩
      obtain ⟨v, hv⟩ := hv
      have h' : some ((g x.2).bind seqOf) = some (some v) := h.trans hv
      refine El_ea (bind_some_of (Option.some.inj h')) fun o a b => ?_
      exact ⟨o, k _ _ a, by rw [hv, b]⟩
    · refine El_ea (bind_some_of e7) fun o a b => ?_
      exact ⟨o, k _ _ a, b⟩
    · obtain ⟨o, a, b⟩ := Option.map_eq_some_iff.mp x1
      exact ⟨o, k _ _ a, b⟩
    · refine El_ea (bind_some_of x3) fun o a b => ?_
      exact ⟨o, k _ _ a, b⟩
    · refine El_ea (bind_some_of x5) fun o a b => ?_
      exact ⟨o, k _ _ a, b⟩
    · refine El_ea (bind_some_of x6) fun o a b => ?_
      exact ⟨o, k _ _ a, b⟩
  | _ => exact nosome hd
theorem opn : opening P0 = plainProg P0.main.scope.names := by kernel_rfl
theorem fen (s : Shared) : fenceModules? P0 s = some s := by kernel_rfl
theorem bootSize (w : World) : ((boot_heap w.params).isNs mainGlobals && (Array.mk [] : Array GenState).size == 0, (boot_heap w.params).objs.size, (boot_heap w.params).nsMap mainGlobals "__annotations__") = (true, 11, AN) := by kernel_rfl
theorem gT_abs (s : SharedT) (a : Addr) (o : Obj) (e : gT s a = some o) : s.abs.heap.get? a = some o := by
  show (absHeap s.tree s.n s.life).get? a = _
  unfold gT at e
  split at e
  · rename_i q
    obtain ⟨o', ho, hal⟩ := bind_some_of e
    rw [abs_get (Nat.le_of_ble_eq_true q) ho, hal]
  · cases e
theorem mods_eq : importedModules P0.main.body = importedW TP.main.body := by rw [TP_eq, imported_eq]
theorem bound_eq (h : Heap) : namesBound P0 h = namesBound TP h := by rw [TP_eq]
theorem numN : 109 + (1 + (186 + (2000 + (2000 + (2000 + (2000 + (2000 + (2000 + (2000 + 3000))))))))) + 2704 = 20000 := rfl
noncomputable def YF (s : Shared) : Prop := ∃ es n, MpuAt s.heap es n
theorem left (h2 : ∀ w os k, Rn w os k 2000 16 56) (h3 : ∀ w os k, Rn w os k 2000 56 96) (h4 : ∀ w os k, Rn w os k 2000 96 136) (h5 : ∀ w os k, Rn w os k 2000 136 176) (h6 : ∀ w os k, Rn w os k 2000 176 214) (h7 : ∀ w os k, Rn w os k 2000 214 215) (h8 : ∀ w os k, Rn w os k 2000 215 217) :
    LeftO P0 qP looseL (fun _ => true) YF (fun _ => True) 20000 := fun w => by
  refine El_ea (Option.map_eq_some_iff.mp (boot_open (p := P0) (N := 20000) opn rfl fen w)) fun hc0 e e' => ?_; obtain ⟨h, gs, d, k, os⟩ := hc0
  refine El_aaa (show h = boot_heap w.params ∧ gs = Array.mk [] ∧ d = boot_drawn ∧ k = boot_toks from by simpa only [Prod.mk.injEq] using e') fun hr0 hr1 hr2 hr3 => ?_; obtain rfl := hr0; obtain rfl := hr1; obtain rfl := hr2; obtain rfl := hr3
  refine El_aa (show _ ∧ _ ∧ _ from by simpa only [Prod.mk.injEq] using bootSize w) fun z1 z2 z3 => ?_
  refine El_ea (Option.map_eq_some_iff.mp (XE_obs w os)) fun s hs ho => ?_
  unfold obs at ho
  simp only [Prod.mk.injEq] at ho
  refine El_aaa ho fun hc0 l1 l2 l3 => ?_; obtain - := hc0; try clear ho
  have r := run_all (fun k => Rn_of rfl (p1 w os k)) (h2 w os) (h3 w os) (h4 w os) (h5 w os) (h6 w os) (h7 w os) (h8 w os) hs
  have r := topRun_mono 2704 _ _ _ _ r
  have hab : (ST0 w.params os).abs = ⟨boot_heap w.params, Array.mk [], boot_drawn, boot_toks, os⟩ := by
    show (⟨absHeap (bootT w.params) 11 bootLife, _, _, _, _⟩ : Shared) = _
    rw [boot_abs]
    rfl
  rw [hab, numN] at r
  have t : topFrom treeTable P0 w 20000 ⟨boot_heap w.params, Array.mk [], boot_drawn, boot_toks, os⟩ = some s.abs := by
    unfold topFrom
    dsimp only
    rw [z1, z2, z3]
    rw [r, Option.bind_some, mods_eq, bound_eq, l1]
  have y : YF s.abs = True := eq_true (yp_of (gT_abs s) l3)
  unfold openEnds
  rw [e, Option.bind_some, t, Option.map_some, y, mods_eq, openSeen_eq, l2]
end
end Mine

end
section
open PySem PySem.W PyProof.Rows
namespace Mine
noncomputable section
section
open PySem.TablesWhole (wModule wSs wS wEs wE wTs wClassHead declSs under holds gather noTwice)
namespace Tq
theorem ffT {p : Prop} (h : false = true) : p := nomatch h
theorem and2 {a b : Bool} (h : a = true) (g : b = true) : (a && b) = true := by subst h g; rfl
theorem and1 {a b : Bool} (h : (a && b) = true) : a = true := by cases a with | true => rfl | false => cases h
theorem and3 {a b : Bool} (h : (a && b) = true) : b = true := by cases a with | true => exact h | false => cases h
theorem wM {m : Module} (h : noTwice m.scope = true) (g : wSs holds m.scope ⟨m.scope, [], wSs gather m.scope ⟨m.scope, [], [], [], none⟩ m.scope m.body, [], none⟩ m.scope m.body = true) : wModule holds m = true :=
  and2 (a := true) rfl (and2 h (and2 g rfl))
theorem wSs_cut {top : Scope} {cx : TablesWhole.Ctx} {sc : Scope} (n : Nat) : ∀ {l : List Stmt}, wSs holds top cx sc (l.take n) = true → wSs holds top cx sc (l.drop n) = true → wSs holds top cx sc l = true := by
  induction n with
  | zero => intro l _ h; exact h
  | succ n ih => intro l h g; cases l with
    | nil => rfl
    | cons s l => exact and2 (and1 h) (ih (and3 h) g)
noncomputable def hdS : List Stmt → Stmt
  | s :: _ => s
  | [] => .Pass default
theorem wSs_hd {top : Scope} {cx : TablesWhole.Ctx} {sc : Scope} {l : List Stmt} (h : wS holds top cx sc (hdS l) = true) (g : wSs holds top cx sc l.tail = true) : wSs holds top cx sc l = true := by
  cases l with
  | nil => rfl
  | cons s l => exact and2 h g
noncomputable def clsPt (cx : TablesWhole.Ctx) (sc : Scope) (st : Stmt) : Bool × TablesWhole.Ctx × Scope × List Stmt := match st with
  | .ClassDef _ bases keywords body decorators tparams own tscope bind _ pos => (wClassHead holds cx sc bases keywords decorators tparams own tscope bind pos (declSs true body), ⟨own, declSs false body, declSs true body, under tparams tscope cx.encl, none⟩, own, body)
  | _ => (false, cx, sc, [])
theorem wS_cls {top : Scope} {cx : TablesWhole.Ctx} {sc : Scope} {st : Stmt} (h : (clsPt cx sc st).1 = true) (g : wSs holds top (clsPt cx sc st).2.1 (clsPt cx sc st).2.2.1 (clsPt cx sc st).2.2.2 = true) : wS holds top cx sc st = true := by
  cases st <;> first | exact and2 h g | exact ffT h
noncomputable def eqL : List Nat → List Nat → Bool
  | [], l => l.isEmpty
  | a :: k, l => match l with
    | [] => false
    | b :: l => Nat.beq a b && eqL k l
theorem eqL_eq {k : List Nat} : ∀ {l : List Nat}, eqL k l = true → k = l := by
  induction k with
  | nil => intro l h; cases l with | nil => rfl | cons b l => cases h
  | cons a k ih => intro l h; cases l with
    | nil => cases h
    | cons b l => rw [Nat.eq_of_beq_eq_true (and1 h), ih (and3 h)]
noncomputable def nmId : Expr → Option Str
  | .Name id _ => some id
  | _ => none
noncomputable def isAt (n : Option Str) (x : Option (Str × NameKind)) : Bool := match n with
  | none => false
  | some n => match x with
    | none => false
    | some y => eqL y.1.cps.toList n.cps.toList
noncomputable def nmsOk (t : List (Str × NameKind)) : List Expr → List Nat → Bool
  | [], _ => true
  | e :: es, ix => match ix with
    | [] => false
    | i :: ix => isAt (nmId e) t[i]? && nmsOk t es ix
theorem look_some {n : Str} {k : NameKind} : ∀ {t : List (Str × NameKind)}, (n, k) ∈ t → (t.lookup n).isSome = true := by
  intro t
  induction t with
  | nil => intro h; cases h
  | cons x t ih =>
    intro h
    show (match n == x.1 with | true => some x.2 | false => t.lookup n).isSome = true
    cases e : n == x.1 with
    | true => rfl
    | false => cases h with
      | head => rw [beq_self_eq_true] at e; cases e
      | tail _ h => exact ih h
theorem wE_nm {cx : TablesWhole.Ctx} {sc : Scope} {e : Expr} {i : Nat} (f : sc.functionLike = false) (h : isAt (nmId e) sc.names[i]? = true) : wE holds cx sc none e = true := by
  cases e <;> try exact ffT h
  rename_i n pos
  show (if (n == _ && sc.functionLike) = true then _ else sc.bears n) = true
  rw [f, Bool.and_false]
  show sc.bears n = true
  revert h
  cases hx : sc.names[i]? with
  | none => intro h; exact ffT h
  | some y =>
    intro h
    obtain ⟨m, k⟩ := y
    obtain ⟨m⟩ := m
    obtain ⟨n⟩ := n
    have e : m = n := by cases m; cases n; exact congrArg Array.mk (eqL_eq h)
    subst e
    exact look_some (List.mem_of_getElem? hx)
theorem wEs_nm {cx : TablesWhole.Ctx} {sc : Scope} (f : sc.functionLike = false) {es : List Expr} : ∀ {ix : List Nat}, nmsOk sc.names es ix = true → wEs holds cx sc none es = true := by
  induction es with
  | nil => intro _ _; rfl
  | cons e es ih => intro ix h; cases ix with
    | nil => cases h
    | cons i ix => exact and2 (wE_nm f (and1 h)) (ih (and3 h))
noncomputable def lstE (v : Expr) : Option (List Expr) := match v with
  | .List es _ => some es
  | _ => none
noncomputable def lstPt (st : Stmt) : Option (List Expr) × List Expr := match st with
  | .Assign ts v _ => (lstE v, ts)
  | _ => (none, [])
noncomputable def nmsOkO (t : List (Str × NameKind)) (es : Option (List Expr)) (ix : List Nat) : Bool := match es with
  | none => false
  | some es => nmsOk t es ix
theorem wE_lst {cx : TablesWhole.Ctx} {sc : Scope} {v : Expr} {ix : List Nat} (f : sc.functionLike = false) (h : nmsOkO sc.names (lstE v) ix = true) : wE holds cx sc none v = true := by
  cases v <;> first | exact ffT h | exact wEs_nm f h
theorem wS_lst {top : Scope} {cx : TablesWhole.Ctx} {sc : Scope} {st : Stmt} {ix : List Nat} (f : sc.functionLike = false) (h : nmsOkO sc.names (lstPt st).1 ix = true) (g : wTs holds cx sc none (lstPt st).2 = true) : wS holds top cx sc st = true := by
  cases st <;> first | exact ffT h | exact and2 (wE_lst f h) g
theorem tBody {top : Scope} {cx : TablesWhole.Ctx} {sc : Scope} {l : List Stmt} {ix : List Nat} (h1 : wSs holds top cx sc (l.take 100) = true) (h2 : wSs holds top cx sc ((l.drop 100).take 60) = true) (h3 : wSs holds top cx sc (((l.drop 100).drop 60).take 54) = true)
    (f : sc.functionLike = false) (h4 : nmsOkO sc.names (lstPt (hdS (((l.drop 100).drop 60).drop 54))).1 ix = true) (h5 : wTs holds cx sc none (lstPt (hdS (((l.drop 100).drop 60).drop 54))).2 = true) (h6 : wSs holds top cx sc (((l.drop 100).drop 60).drop 54).tail = true) : wSs holds top cx sc l = true :=
  wSs_cut 100 h1 (wSs_cut 60 h2 (wSs_cut 54 h3 (wSs_hd (wS_lst f h4 h5) h6)))
theorem tAll {m : Module} {cx : TablesWhole.Ctx} {P : Bool × TablesWhole.Ctx × Scope × List Stmt} (ec : cx = ⟨m.scope, [], [], [], none⟩) (e : P = clsPt cx m.scope (hdS (m.body.drop 2))) (h0 : noTwice m.scope = true) (h1 : wSs gather m.scope cx m.scope m.body = [])
    (a : wSs holds m.scope cx m.scope (m.body.take 2) = true) (b : P.1 = true) (c : wSs holds m.scope P.2.1 P.2.2.1 P.2.2.2 = true) (d : wSs holds m.scope cx m.scope (m.body.drop 2).tail = true) : wModule holds m = true := by
  subst ec e
  refine wM h0 ?_
  rw [h1]
  exact wSs_cut 2 a (wSs_hd (wS_cls b c) d)
theorem tProg {p : Program} (h : wModule holds p.main = true) (h1 : p.modules = []) (h2 : p.parses = []) (h3 : p.harvested = []) : p.tablesWhole = true := by
  unfold Program.tablesWhole TablesWhole.wProgram
  rw [h1, h2, h3]
  exact and2 h rfl
noncomputable abbrev cxM : TablesWhole.Ctx := ⟨TP.main.scope, [], [], [], none⟩
noncomputable def cP : Bool × TablesWhole.Ctx × Scope × List Stmt := clsPt cxM TP.main.scope (hdS (TP.main.body.drop 2))
noncomputable def tOk (l : List Stmt) : Prop := wSs holds TP.main.scope cP.2.1 cP.2.2.1 l = true
theorem told0 : wSs gather TP.main.scope cxM TP.main.scope TP.main.body = [] := by rw [PySem.W.Fast.te16421684217811934046, PySem.W.Fast.te12652042256554560961]; kernel_rfl
theorem tb1 : wSs holds TP.main.scope cxM TP.main.scope (TP.main.body.take 2) = true := by rw [PySem.W.Fast.te16421684217811934046]; kernel_rfl
theorem tb3 : wSs holds TP.main.scope cxM TP.main.scope (TP.main.body.drop 2).tail = true := by rw [PySem.W.Fast.te16421684217811934046]; kernel_rfl
theorem tc0 : cP.1 = true := by
  unfold cP clsPt
  rw [PySem.W.Fast.te7474826911137705502]
  kernel_rfl
theorem tc1 : tOk (cP.2.2.2.take 100) := by unfold tOk; rw [PySem.W.Fast.te16421684217811934046]; kernel_rfl
theorem tc2 : tOk ((cP.2.2.2.drop 100).take 60) := by unfold tOk; rw [PySem.W.Fast.te16421684217811934046]; kernel_rfl
theorem tc3 : tOk (((cP.2.2.2.drop 100).drop 60).take 54) := by unfold tOk; rw [PySem.W.Fast.te16421684217811934046]; kernel_rfl
noncomputable abbrev clsR : List Stmt := ((cP.2.2.2.drop 100).drop 60).drop 54
theorem clsNo : cP.2.2.1.functionLike = false := by kernel_rfl
theorem tc4 : nmsOkO cP.2.2.1.names (lstPt (hdS clsR)).1 (instrL.map fun a => (a - 365) / 7 + 62) = true := by kernel_rfl
theorem tc5 : wTs holds cP.2.1 cP.2.2.1 none (lstPt (hdS clsR)).2 = true := by rw [PySem.W.Fast.te12736235915007058005]; kernel_rfl
theorem tc6 : tOk clsR.tail := by unfold tOk; rw [PySem.W.Fast.te16421684217811934046]; kernel_rfl
theorem tC : wSs holds TP.main.scope cP.2.1 cP.2.2.1 cP.2.2.2 = true := tBody (ix := instrL.map fun a => (a - 365) / 7 + 62) tc1 tc2 tc3 clsNo tc4 tc5 tc6
theorem tM0 : noTwice TP.main.scope = true := by rw [PySem.W.Fast.te8331962902438777018]; kernel_rfl
theorem tMo : wModule holds TP.main = true := tAll (m := TP.main) (cx := cxM) (P := cP) rfl (by kernel_rfl) tM0 told0 tb1 tc0 tC tb3
end Tq
theorem tablesT : TP.tablesWhole = true := Tq.tProg Tq.tMo (by kernel_rfl) (by kernel_rfl) (by kernel_rfl)
theorem tablesW : P0.tablesWhole = true := (congrArg Program.tablesWhole TP_eq).trans tablesT
end
noncomputable abbrev RW : OpenLaw := PySem.Challenge.rw_lq0011_05
noncomputable def lawD : DefRec := match TP.main.body with
  | _ :: _ :: _ :: _ :: _ :: _ :: _ :: _ :: _ :: .FunctionDef n a b _ _ _ sc _ _ pos :: _ => ⟨n, a, b, sc, pos⟩
  | _ => ⟨⟨#[]⟩, ⟨[], [], none, [], [], none, []⟩, [], TP.main.scope, default⟩
theorem hdef : defOf qP RW.row.name = some (lawD, []) := by kernel_rfl
theorem hp : RW.row.prog.theDef RW.row.name = some (lawD.params, lawD.body, lawD.scope) := by
  show P0.theDef _ = _
  rw [TP_eq]
  kernel_rfl
theorem hk : kwWritten? lawD.params.kwonlyargs lawD.params.kw_defaults = some [] := by kernel_rfl
theorem hok : (chainsOk qP && opensWell RW.row.prog && (frees RW.row.toRowW && RW.row.within.isEmpty)) = true := by
  show (chainsOk qP && opensWell P0 && _) = true
  rw [TP_eq]
  kernel_rfl
theorem hbare : RW.row.prog.bare := ⟨rfl, rfl, rfl, rfl, rfl, tablesW⟩
theorem hprom : RW.row.toRowW.promised := ⟨[.list []], by kernel_rfl, by kernel_rfl⟩
noncomputable def LawT : OpenLaw := { prog := TP, name := (PySem.Str.ofString "law"), about := [(PySem.Str.ofString "MPU"), (PySem.Str.ofString "step")], foot := 6, most := some 63, bound := none, writes := false }
theorem LawT_eq : RW = LawT := congrArg (fun p => ({ prog := p, name := (PySem.Str.ofString "law"), about := [(PySem.Str.ofString "MPU"), (PySem.Str.ofString "step")], foot := 6, most := some 63, bound := none, writes := false } : OpenLaw)) TP_eq
theorem and2 {a b : Bool} (h : a = true) (g : b = true) : (a && b) = true := by subst h g; rfl
theorem said1 : namesResolve LawT.row.prog = true := by rw [PySem.W.Fast.te8377067652309620493]; kernel_rfl
theorem said2 : noRoadLSs { strict := !(importedModules LawT.row.prog.main.body).all cThrough.contains, foot := none, bare := List.filter (readsOut LawT.row.prog LawT.row.prog.main.body) [Str.ofString "vars", Str.ofString "dir", Str.ofString "locals"] } LawT.row.prog.main.body = true := by rw [PySem.W.Fast.te8326940854005059898]; kernel_rfl
theorem said3 : (namesMeet LawT.row.prog LawT.row.prog.main.body fun _ n => attrL n) = true := by rw [PySem.W.Fast.te17119622794617984870]; kernel_rfl
theorem said4 : (namesMeet LawT.prog LawT.above fun _ n => !LawT.own.contains n) = true := by rw [PySem.W.Fast.te17119622794617984870]; kernel_rfl
theorem saidT : LawT.wellSaid = true := by
  unfold OpenLaw.wellSaid OpenRow.wellSaid OpenRow.partSaid looksOpen
  repeat' (with_reducible refine and2 ?_ ?_)
  all_goals first
    | with_reducible exact said1
    | with_reducible exact said2
    | with_reducible exact said3
    | with_reducible exact said4
    | (rw [PySem.W.Fast.te8326940854005059898]; kernel_rfl)
    | (rw [PySem.W.Fast.te17119622794617984870]; kernel_rfl)
    | kernel_rfl
theorem said : RW.wellSaid = true := by rw [LawT_eq]; exact saidT
theorem holds_of (h2 : ∀ w os k, Rn w os k 2000 16 56) (h3 : ∀ w os k, Rn w os k 2000 56 96) (h4 : ∀ w os k, Rn w os k 2000 96 136) (h5 : ∀ w os k, Rn w os k 2000 136 176) (h6 : ∀ w os k, Rn w os k 2000 176 214) (h7 : ∀ w os k, Rn w os k 2000 214 215) (h8 : ∀ w os k, Rn w os k 2000 215 217)
    (call : WalkO qP looseL (fun _ _ => True) (fun _ h => ∃ es n, MpuAt h es n) RW.row.toRowW lawD [] fun f vs => PySem.call f vs) : PySem.Challenge.rw_lq0011_05.Holds := by
  refine holds_law (l := RW) said fun _ => ?_
  exact PySem.W.holds_open (left h2 h3 h4 h5 h6 h7 h8) (fun w s e => of_eq_true e) (fun w h h' ⟨es, n, m⟩ k => ⟨es, n, m.keeps k⟩) (fun _ _ => trivial) (fun _ _ _ _ _ => trivial) hdef hp hk (fun _ _ => recFacts_nil rfl) rfl (by assumption) hok hbare hprom call
end
end Mine

end
section
open PySem PySem.W PyProof.Rows
namespace Mine
inductive AV where
  | none | bool (b : Bool) | int (i : Int) | str (s : Str) | obj (i : Nat) | addr (a : Addr) | bi (n : String) | ty (n : String)
  deriving Inhabited
noncomputable def VR (θ : List Addr) : AV → Value → Prop
  | .none, v => v = .none
  | .bool b, v => v = .bool b
  | .int i, v => ∃ t, v = .int i t
  | .str s, v => ∃ t, v = .str s t
  | .obj i, v => ∃ a, θ[i]? = some a ∧ v = .ref a
  | .addr a, v => v = .ref a
  | .bi n, v => v = .builtin n
  | .ty n, v => v = .type n
inductive VRs (θ : List Addr) : List AV → List Value → Prop
  | nil : VRs θ [] []
  | cons {a v as vs} : VR θ a v → VRs θ as vs → VRs θ (a :: as) (v :: vs)
inductive DRs (θ : List Addr) : List (Str × AV) → List DictEntry → Prop
  | nil : DRs θ [] []
  | cons {x a e es l} : (∃ t, e.key = .str x t) → VR θ a e.val → DRs θ es l → DRs θ ((x, a) :: es) (e :: l)
inductive MRs (θ : List Addr) : List (Str × AV) → List (Str × Value) → Prop
  | nil : MRs θ [] []
  | cons {x a v es kvs} : VR θ a v → MRs θ es kvs → MRs θ ((x, a) :: es) ((x, v) :: kvs)
inductive AO where
  | ints (xs : List Int)
  | intx (xs : List Int)
  | cell (v : Option AV)
  | fix (o : Obj)
  | list (xs : List AV)
  | tuple (xs : List AV)
  | inst (C : Addr) (d : Nat)
  | dict (es : List (Str × AV))
  | meth (f : Addr) (self : Nat)
  | map (p : Program) (w : World) (es : List (Str × AV))
noncomputable def CR (θ : List Addr) : Option AV → Option Value → Prop
  | none, v => v = none
  | some a, v => ∃ u, v = some u ∧ VR θ a u
noncomputable def OR (θ : List Addr) : AO → Obj → Prop
  | .ints xs, o => o.cls = .type "list" ∧ ∃ vs n, o.data = .seq vs n ∧ IntsAre vs.toList xs
  | .cell v, o => ∃ u, o.data = .cell u ∧ CR θ v u
  | .fix ob, o => o = ob
  | .intx xs, o => ∃ vs n, o = ⟨.type "list", none, .seq vs n, #[]⟩ ∧ IntsAre vs.toList xs
  | .list xs, o => ∃ vs n, o = ⟨.type "list", none, .seq vs n, #[]⟩ ∧ VRs θ xs vs.toList
  | .tuple xs, o => ∃ vs n, o = ⟨.type "tuple", none, .seq vs n, #[]⟩ ∧ VRs θ xs vs.toList
  | .inst C d, o => ∃ a sl, θ[d]? = some a ∧ o = ⟨.ref C, some a, .plain, sl⟩
  | .dict es, o => ∃ l n, o = dictOf l n ∧ DRs θ es l
  | .meth f i, o => ∃ a, θ[i]? = some a ∧ o = methodObj (.ref f) (.ref a)
  | .map p w es, o => ∃ kvs, o.IsDictOf (strKind p w) kvs ∧ MRs θ es kvs
structure AR (θ : List Addr) (as : List AO) (h : Heap) : Prop where
  len : as.length = θ.length
  nodup : θ.Nodup
  objs : ∀ (i : Nat) (o : AO) (a : Addr), as[i]? = some o → θ[i]? = some a → ∃ ob, h.get? a = some ob ∧ OR θ o ob
structure Ext (H : List Addr) (θ : List Addr) (h : Heap) (θ' : List Addr) (h' : Heap) : Prop where
  pre : θ <+: θ'
  fresh : ∀ a ∈ θ', a ∉ θ → h.get? a = none ∧ a ∉ H
  keep : ∀ b o, h.get? b = some o → b ∉ θ → b ∉ H → h'.get? b = some o
  ex : ∀ b o, h.get? b = some o → ∃ o', h'.get? b = some o'
  tab : ∀ P ∈ H, h'.get? P = h.get? P ∨ ∃ l k c, h'.get? P = some (tabObj #[l, k, .ref c]) ∧ h.get? c = none

theorem tab_trans {H : List Addr} {h h₁ h₂ : Heap} (s₁ : ∀ b o, h.get? b = some o → ∃ o', h₁.get? b = some o') (x : ∀ P ∈ H, h₁.get? P = h.get? P ∨ ∃ l k c, h₁.get? P = some (tabObj #[l, k, .ref c]) ∧ h.get? c = none)
    (y : ∀ P ∈ H, h₂.get? P = h₁.get? P ∨ ∃ l k c, h₂.get? P = some (tabObj #[l, k, .ref c]) ∧ h₁.get? c = none) : ∀ P ∈ H, h₂.get? P = h.get? P ∨ ∃ l k c, h₂.get? P = some (tabObj #[l, k, .ref c]) ∧ h.get? c = none := fun P m => by
  rcases y P m with e | ⟨l, k, c, e, q⟩
  · rcases x P m with e' | ⟨l, k, c, e', q⟩
    · exact .inl (e.trans e')
    · exact .inr ⟨l, k, c, e.trans e', q⟩
  · refine .inr ⟨l, k, c, e, ?_⟩
    cases r : h.get? c with
    | none => rfl
    | some o => obtain ⟨o', z⟩ := s₁ c o r; rw [q] at z; cases z
theorem get_pre {θ θ' : List Addr} (p : θ <+: θ') {i : Nat} {a : Addr} (h : θ[i]? = some a) : θ'[i]? = some a := by
  obtain ⟨t, rfl⟩ := p
  have := (List.getElem?_eq_some_iff.mp h).1
  rw [List.getElem?_append_left this]; exact h
theorem VR.mono {θ θ' : List Addr} (p : θ <+: θ') : ∀ {a : AV} {v : Value}, VR θ a v → VR θ' a v
  | .none, _, h | .bool _, _, h | .int _, _, h | .str _, _, h | .addr _, _, h | .bi _, _, h | .ty _, _, h => h
  | .obj _, _, ⟨a, e, h⟩ => ⟨a, get_pre p e, h⟩
theorem VRs.mono {θ θ' : List Addr} (p : θ <+: θ') {as : List AV} {vs : List Value} (h : VRs θ as vs) : VRs θ' as vs := by
  induction h with
  | nil => exact .nil
  | cons h _ ih => exact .cons (h.mono p) ih
theorem DRs.mono {θ θ' : List Addr} (p : θ <+: θ') {as : List (Str × AV)} {vs : List DictEntry} (h : DRs θ as vs) : DRs θ' as vs := by
  induction h with
  | nil => exact .nil
  | cons k h _ ih => exact .cons k (h.mono p) ih
theorem MRs.mono {θ θ' : List Addr} (p : θ <+: θ') {es : List (Str × AV)} {kvs : List (Str × Value)} (h : MRs θ es kvs) : MRs θ' es kvs := by
  induction h with
  | nil => exact .nil
  | cons h _ ih => exact .cons (h.mono p) ih
theorem CR.mono {θ θ' : List Addr} (p : θ <+: θ') : ∀ {a : Option AV} {v : Option Value}, CR θ a v → CR θ' a v
  | none, _, h => h
  | some _, _, ⟨u, e, h⟩ => ⟨u, e, h.mono p⟩
theorem OR.mono {θ θ' : List Addr} (p : θ <+: θ') : ∀ {a : AO} {o : Obj}, OR θ a o → OR θ' a o
  | .ints _, _, h => h
  | .intx _, _, h => h
  | .cell _, _, ⟨u, e, h⟩ => ⟨u, e, h.mono p⟩
  | .fix _, _, h => h
  | .list _, _, ⟨vs, n, d, h⟩ => ⟨vs, n, d, h.mono p⟩
  | .tuple _, _, ⟨vs, n, d, h⟩ => ⟨vs, n, d, h.mono p⟩
  | .inst _ _, _, ⟨a, sl, e, h⟩ => ⟨a, sl, get_pre p e, h⟩
  | .dict _, _, ⟨l, n, e, h⟩ => ⟨l, n, e, h.mono p⟩
  | .meth _ _, _, ⟨a, e, h⟩ => ⟨a, get_pre p e, h⟩
  | .map _ _ _, _, ⟨kvs, e, h⟩ => ⟨kvs, e, h.mono p⟩
theorem Ext.refl {H : List Addr} (θ : List Addr) (h : Heap) : Ext H θ h θ h := ⟨List.prefix_refl θ, fun _ a b => absurd a b, fun _ _ e _ _ => e, fun _ o e => ⟨o, e⟩, fun _ _ => .inl rfl⟩
theorem Ext.trans {H : List Addr} {θ θ₁ θ₂ : List Addr} {h h₁ h₂ : Heap} (x : Ext H θ h θ₁ h₁) (y : Ext H θ₁ h₁ θ₂ h₂) : Ext H θ h θ₂ h₂ := by
  refine ⟨x.pre.trans y.pre, fun a m n => ?_, fun b o e n nh => ?_, fun b o e => (let ⟨o', e'⟩ := x.ex b o e; y.ex b o' e'), tab_trans x.ex x.tab y.tab⟩
  · by_cases q : a ∈ θ₁
    · exact x.fresh a q n
    · obtain ⟨y1, y2⟩ := y.fresh a m q
      refine ⟨?_, y2⟩
      cases r : h.get? a with
      | none => rfl
      | some o => have := x.keep a o r n y2; rw [y1] at this; cases this
  · have n₁ : b ∉ θ₁ := fun m => by have := (x.fresh b m n).1; rw [e] at this; cases this
    exact y.keep b o (x.keep b o e n nh) n₁ nh

structure TabE where
  P : Addr
  pos : Pos
  qual : Str
structure Hid where
  tabs : List TabE
  pin : List Addr
noncomputable abbrev hidOf (T : Hid) : List Addr := T.tabs.map TabE.P
noncomputable def TabAt (H : List Addr) (e : TabE) (θ : List Addr) (h : Heap) : Prop :=
  h.get? e.P = some (tabObj #[]) ∨ ∃ c, h.get? e.P = some (tabObj #[rawInt e.pos.line, rawInt e.pos.col, .ref c]) ∧ h.CodeRec (.ref c) e.qual ∧ c ∉ θ ∧ c ∉ H
theorem TabAt.is {H : List Addr} {e : TabE} {θ : List Addr} {h : Heap} (x : TabAt H e θ h) : ∃ ps, h.get? e.P = some (tabObj ps) := by
  rcases x with x | ⟨c, x, _⟩ <;> exact ⟨_, x⟩
theorem TabAt.to {H : List Addr} {e : TabE} {θ θ' : List Addr} {h h' : Heap} (x : TabAt H e θ h) (k : ∀ o, h.get? e.P = some o → h'.get? e.P = some o)
    (kc : ∀ c o vs, h.get? c = some o → o.data = .fields vs → c ∉ θ → c ∉ H → h'.get? c = some o) (nc : ∀ c o, h.get? c = some o → c ∉ θ → c ∉ θ') : TabAt H e θ' h' := by
  rcases x with x | ⟨c, x, ⟨c', o, vs, t, e1, e2, e3, e4⟩, n1, n2⟩
  · exact .inl (k _ x)
  · cases e1
    exact .inr ⟨c, k _ x, ⟨c, o, vs, t, rfl, kc c o vs e2 e3 n1 n2, e3, e4⟩, nc c o e2 n1, n2⟩
structure St (T : Hid) (h₀ : Heap) (g₀ : Array GenState) (os₀ : OsState) (θ : List Addr) (as : List AO) (s : Shared) : Prop where
  ar : AR θ as s.heap
  base : ∀ b o, h₀.get? b = some o → s.heap.get? b = some o
  apart : ∀ a ∈ θ, h₀.get? a = none
  gens : s.gens = g₀
  os : s.os = os₀
  tabs : ∀ e ∈ T.tabs, TabAt (hidOf T) e θ s.heap
  hnin : ∀ e ∈ T.tabs, e.P ∉ θ
  hbase : ∀ e ∈ T.tabs, h₀.get? e.P = none
  pin : T.pin <+: θ
section
variable {T : Hid} {h₀ : Heap} {g₀ : Array GenState} {os₀ : OsState} {θ : List Addr} {as : List AO} {s : Shared}
theorem St.toks (S : St T h₀ g₀ os₀ θ as s) (k : Nat) : St T h₀ g₀ os₀ θ as { s with toks := k } := ⟨S.ar, S.base, S.apart, S.gens, S.os, S.tabs, S.hnin, S.hbase, S.pin⟩
theorem St.new (S : St T h₀ g₀ os₀ θ as s) {o : AO} {ob : Obj} {h' : Heap} {k : Nat} {n : Addr} (hk : ∀ b o, s.heap.get? b = some o → h'.get? b = some o) (hn : s.heap.objs.size ≤ n) (hg : h'.get? n = some ob) (ho : OR (θ ++ [n]) o ob) :
    St T h₀ g₀ os₀ (θ ++ [n]) (as ++ [o]) { s with heap := h', toks := k } ∧ Ext (hidOf T) θ s.heap (θ ++ [n]) h' := by
  have pre : θ <+: θ ++ [n] := ⟨_, rfl⟩
  have none_ : s.heap.get? n = none := by
    cases q : s.heap.get? n with
    | none => rfl
    | some o => exact absurd (Heap.lt_size q) (Nat.not_lt.mpr hn)
  have nin : n ∉ θ := fun m => by
    obtain ⟨i, hi, e⟩ := List.getElem_of_mem m
    have e' : θ[i]? = some n := by rw [List.getElem?_eq_getElem hi, e]
    have hi' : i < as.length := by rw [S.ar.len]; exact hi
    obtain ⟨ob, h, _⟩ := S.ar.objs i as[i] _ (List.getElem?_eq_getElem hi') e'
    rw [none_] at h; cases h
  have nh : n ∉ hidOf T := fun m => by
    obtain ⟨e, he, q⟩ := List.mem_map.mp m
    obtain ⟨ps, x⟩ := (S.tabs e he).is
    rw [q, none_] at x; cases x
  refine ⟨⟨⟨?_, ?_, ?_⟩, fun b o e => hk _ _ (S.base b o e), ?_, S.gens, S.os, fun e he => ?_, fun e he m => ?_, S.hbase, S.pin.trans pre⟩, ⟨pre, ?_, fun b o e _ _ => hk _ _ e, fun b o e => ⟨o, hk _ _ e⟩, fun P m => .inl (by
    obtain ⟨e, he, rfl⟩ := List.mem_map.mp m
    obtain ⟨ps, x⟩ := (S.tabs e he).is
    rw [x]; exact hk _ _ x)⟩⟩
  · simp [S.ar.len]
  · rw [List.nodup_append]
    exact ⟨S.ar.nodup, by simp, fun a ha b hb => by
      have : b = n := by simpa using hb
      rintro rfl
      exact nin (this ▸ ha)⟩
  · intro i o' a e1 e2
    by_cases q : i < as.length
    · rw [List.getElem?_append_left q] at e1
      rw [List.getElem?_append_left (by rw [← S.ar.len]; exact q)] at e2
      refine El_ea (S.ar.objs i o' a e1 e2) fun ob' x y => ?_
      exact ⟨ob', hk _ _ x, y.mono pre⟩
    · have hi : i = as.length := by
        have := (List.getElem?_eq_some_iff.mp e1).1
        simp at this; exact Nat.eq_of_lt_succ_of_not_lt this q
      subst hi
      rw [List.getElem?_append_right (Nat.le_refl _), Nat.sub_self] at e1
      rw [S.ar.len, List.getElem?_append_right (Nat.le_refl _), Nat.sub_self] at e2
      cases e1; cases e2
      exact ⟨ob, hg, ho⟩
  · intro a ha
    rcases List.mem_append.mp ha with m | m
    · exact S.apart a m
    · have e : a = n := by simpa using m
      subst e
      cases q : h₀.get? a with
      | none => rfl
      | some o => have := S.base _ _ q; rw [none_] at this; cases this
  · refine (S.tabs e he).to (fun _ x => hk _ _ x) (fun _ _ _ x _ _ _ => hk _ _ x) fun c o x n' m => ?_
    rcases List.mem_append.mp m with m | m
    · exact n' m
    · have e : c = n := by simpa using m
      subst e; rw [none_] at x; cases x
  · rcases List.mem_append.mp m with m | m
    · exact S.hnin e he m
    · have q : e.P = n := by simpa using m
      exact nh (q ▸ List.mem_map_of_mem he)
  · intro a ha na
    rcases List.mem_append.mp ha with m | m
    · exact absurd m na
    · have e : a = n := by simpa using m
      subst e; exact ⟨none_, nh⟩
theorem St.push (S : St T h₀ g₀ os₀ θ as s) {o : AO} {ob : Obj} (hf : ob.isFreed = false) (ho : OR (θ ++ [s.heap.objs.size]) o ob) :
    St T h₀ g₀ os₀ (θ ++ [s.heap.objs.size]) (as ++ [o]) { s with heap := s.heap.push ob } ∧ Ext (hidOf T) θ s.heap (θ ++ [s.heap.objs.size]) (s.heap.push ob) :=
  S.new (k := s.toks) (fun _ _ e => Heap.get?_push_of_some _ e) (Nat.le_refl _) (Heap.get?_push_size _ hf) ho
theorem St.upd (S : St T h₀ g₀ os₀ θ as s) {i : Nat} {a : Addr} {o o' : AO} {ob' : Obj} {h' : Heap} (ha : θ[i]? = some a) (_hi : as[i]? = some o) (hs : Heap.SameBut a s.heap h') (hg : h'.get? a = some ob') (ho : OR θ o' ob') :
    St T h₀ g₀ os₀ θ (as.set i o') { s with heap := h' } ∧ Ext (hidOf T) θ s.heap θ h' := by
  have ma : a ∈ θ := List.mem_of_getElem? ha
  refine ⟨⟨⟨by rw [List.length_set]; exact S.ar.len, S.ar.nodup, ?_⟩, fun b ob e => ?_, S.apart, S.gens, S.os, fun e he => ?_, S.hnin, S.hbase, S.pin⟩, ⟨List.prefix_refl θ, fun _ x y => absurd x y, fun b ob e n _ => ?_, fun b o e => (if q : b = a then ⟨ob', q ▸ hg⟩ else ⟨o, (hs.2 b q).trans e⟩), fun P m => .inl (hs.2 P fun q => by
    obtain ⟨e, he, rfl⟩ := List.mem_map.mp m
    exact S.hnin e he (q ▸ ma))⟩⟩
  · intro j oj b e1 e2
    by_cases q : j = i
    · subst q
      have hl : j < as.length := by rw [S.ar.len]; exact (List.getElem?_eq_some_iff.mp ha).1
      rw [List.getElem?_set_self hl] at e1
      rw [ha] at e2
      cases e1; cases e2
      exact ⟨ob', hg, ho⟩
    · rw [List.getElem?_set_ne (Ne.symm q)] at e1
      obtain ⟨ob, x, y⟩ := S.ar.objs j oj b e1 e2
      have nb : b ≠ a := fun e => by
        subst e
        obtain ⟨l1, h1⟩ := List.getElem?_eq_some_iff.mp e2
        obtain ⟨l2, h2⟩ := List.getElem?_eq_some_iff.mp ha
        have nd := List.pairwise_iff_getElem.mp S.ar.nodup
        rcases Nat.lt_or_gt_of_ne q with r | r
        · exact nd j i l1 l2 r (h1.trans h2.symm)
        · exact nd i j l2 l1 r (h2.trans h1.symm)
      exact ⟨ob, (hs.2 b nb).trans x, y⟩
  · have nb : b ≠ a := fun q => by subst q; rw [S.apart b ma] at e; cases e
    exact (hs.2 b nb).trans (S.base b ob e)
  · exact (S.tabs e he).to (fun o x => (hs.2 e.P fun q => S.hnin e he (q ▸ ma)).trans x) (fun c o vs x _ n _ => (hs.2 c fun q => n (q ▸ ma)).trans x) fun c o _ n => n
  · have nb : b ≠ a := fun q => n (q ▸ ma)
    exact (hs.2 b nb).trans e
end
end Mine

end
section
open PySem PySem.W PyProof.Rows
namespace Mine
noncomputable def natsEq : List Nat → List Nat → Bool
  | [], [] => true
  | a :: x, b :: y => match Nat.beq a b with | true => natsEq x y | false => false
  | _, _ => false
theorem natsEq_iff : ∀ {x y : List Nat}, natsEq x y = true ↔ x = y
  | [], [] => by simp [natsEq]
  | [], _ :: _ => by simp [natsEq]
  | _ :: _, [] => by simp [natsEq]
  | a :: x, b :: y => by
    unfold natsEq
    cases h : Nat.beq a b with
    | true => have := Nat.eq_of_beq_eq_true h; subst this; simp [natsEq_iff]
    | false => have := Nat.ne_of_beq_eq_false h; simp [this]
noncomputable def seq (a b : Str) : Bool := natsEq a.cps.toList b.cps.toList
theorem seq_iff {a b : Str} : seq a b = true ↔ a = b := by
  unfold seq
  rw [natsEq_iff]
  constructor
  · intro h
    cases a; cases b
    simp only [Str.mk.injEq]
    exact Array.toList_inj.mp h
  · rintro rfl; rfl
theorem seq_eq (a b : Str) : seq a b = (a == b) := by
  cases h : seq a b with
  | true => rw [seq_iff.mp h]; simp
  | false =>
    have : a ≠ b := fun e => by rw [seq_iff.mpr e] at h; cases h
    simp [this]
noncomputable def lk {α : Type} : List (Str × α) → Str → Option α
  | [], _ => none
  | (y, v) :: r, x => match seq y x with | true => some v | false => lk r x
noncomputable def pt {α : Type} : List (Str × α) → Str → α → List (Str × α)
  | [], x, v => [(x, v)]
  | (y, u) :: r, x, v => match seq y x with | true => (y, v) :: r | false => (y, u) :: pt r x v

theorem isStr_key {e : DictEntry} {y : Str} (h : ∃ t, e.key = .str y t) (x : Str) : e.key.isStr x = seq y x := by
  obtain ⟨t, h⟩ := h
  rw [h, seq_eq]; rfl
theorem refKey_key {e : DictEntry} {y : Str} (h : ∃ t, e.key = .str y t) : e.refKey = false := by
  obtain ⟨t, h⟩ := h
  unfold DictEntry.refKey
  rw [h]
theorem DRs.noRef {θ : List Addr} {es : List (Str × AV)} {l : List DictEntry} (D : DRs θ es l) : l.any (·.refKey) = false := by
  induction D with
  | nil => rfl
  | cons k _ _ ih => rw [List.any_cons, refKey_key k, ih]; rfl
theorem DRs.find {θ : List Addr} {es : List (Str × AV)} {l : List DictEntry} (D : DRs θ es l) (x : Str) :
    match lk es x with
    | some av => ∃ e, l.find? (·.key.isStr x) = some e ∧ VR θ av e.val
    | none => l.find? (·.key.isStr x) = none := by
  induction D with
  | nil => rfl
  | @cons y a e es l k v _ ih =>
    unfold lk
    rw [List.find?_cons, isStr_key k x]
    cases h : seq y x with
    | true => exact ⟨e, rfl, v⟩
    | false => exact ih
theorem DRs.getSome {θ : List Addr} {es : List (Str × AV)} {l : List DictEntry} (D : DRs θ es l) {x : Str} {av : AV} (h : lk es x = some av) : ∃ v, getL x l = some (some v) ∧ VR θ av v := by
  have := D.find x
  rw [h] at this
  obtain ⟨e, f, r⟩ := this
  exact ⟨e.val, by unfold getL; rw [f], r⟩
theorem DRs.getNone {θ : List Addr} {es : List (Str × AV)} {l : List DictEntry} (D : DRs θ es l) {x : Str} (h : lk es x = none) : getL x l = some none := by
  have := D.find x
  rw [h] at this
  unfold getL
  rw [this, D.noRef]; rfl
theorem DRs.put {θ : List Addr} {es : List (Str × AV)} {l : List DictEntry} (D : DRs θ es l) {x : Str} {av : AV} {v : Value} (hv : VR θ av v) (hsh : Int) (t : Tok) : DRs θ (pt es x av) (putL x hsh (.str x t) v l) := by
  induction D with
  | nil => exact .cons ⟨t, rfl⟩ hv .nil
  | @cons y a e es l k u d ih =>
    unfold pt putL
    rw [isStr_key k x]
    cases h : seq y x with
    | true => exact .cons k hv d
    | false => exact .cons k u ih
theorem DRs.len {θ : List Addr} {es : List (Str × AV)} {l : List DictEntry} (D : DRs θ es l) : l.length = es.length := by
  induction D with
  | nil => rfl
  | cons _ _ _ ih => simp [ih]

noncomputable def handed : AV → Bool
  | .bi _ => false
  | _ => true
theorem handed_of {θ : List Addr} {a : AV} {v : Value} (h : VR θ a v) (e : handed a = true) : handedIn v = true := by
  cases a with
  | bi n => cases e
  | none => cases h; rfl
  | bool b => cases h; rfl
  | int i => obtain ⟨t, rfl⟩ := h; rfl
  | str s => obtain ⟨t, rfl⟩ := h; rfl
  | obj i => obtain ⟨a, _, rfl⟩ := h; rfl
  | addr a => cases h; rfl
  | ty n => cases h; rfl

structure CF (K : Frag) (C : Addr) : Prop where
  pg : plainGet K C ⟨#[]⟩ = true
  hd : hasDictIn K C = true
  sa : findIn K (.ref C) "__setattr__" = some (some (.builtin "object.__setattr__"))
  po : plainOver K C = true

section
variable {prog : Program} {w : World} {A : Around} {E : Value → Shared → Prop} {s : Shared} {K : Frag} {C : Addr} {T : Hid} {h₀ : Heap} {g₀ : Array GenState} {os₀ : OsState} {θ : List Addr} {as : List AO} {i d : Nat} {es : List (Str × AV)} {name : Str}
theorem St.inst (S : St T h₀ g₀ os₀ θ as s) (hi : as[i]? = some (.inst C d)) (hd : as[d]? = some (.dict es)) {x : Addr} (hx : θ[i]? = some x) :
    ∃ dx sl l n, θ[d]? = some dx ∧ DRs θ es l ∧ InstAt s.heap x ⟨.ref C, some dx, .plain, sl⟩ C (some (dictOf l n)) ∧ s.heap.get? dx = some (dictOf l n) := by
  refine El_eaeea (S.ar.objs i _ x hi hx) fun ob h1 dx sl h2 hr5 => ?_; obtain rfl := hr5
  refine El_eaeea (S.ar.objs d _ dx hd h2) fun ob' h3 l n hr4 h4 => ?_; obtain rfl := hr4
  exact ⟨dx, sl, l, n, h2, h4, ⟨h1, rfl, rfl, h3⟩, h3⟩
theorem a_get {expr : Bool} {Q : Value → Shared → Prop} {av : AV} (X : K.In s.heap) (c : CF K C) (S : St T h₀ g₀ os₀ θ as s) (hi : as[i]? = some (.inst C d)) (hd : as[d]? = some (.dict es)) (hl : lk es name = some av) (hh : handed av = true)
    (hc : findIn K (.ref C) name = some none) {x : Addr} (hx : θ[i]? = some x) (h : ∀ v, VR θ av v → Q v { s with toks := s.toks + 1 }) :
    wpAny (model prog w) A (getAttr (.ref x) name expr) Q E s := by
  refine El_eeeeaaa (S.inst hi hd hx) fun dx sl l n _ D I _ => ?_
  obtain ⟨v, e, r⟩ := D.getSome hl
  exact get_value X I (plainGet_of c.pg).1 (findObj_own c.hd hc rfl e) (handed_of r hh) (h v r)
theorem a_cst {expr : Bool} {Q : Value → Shared → Prop} {a : Value} (X : K.In s.heap) (c : CF K C) (S : St T h₀ g₀ os₀ θ as s) (hi : as[i]? = some (.inst C d)) (hd : as[d]? = some (.dict es)) (hl : lk es name = none)
    (hc : findIn K (.ref C) name = some (some a)) (hn : specialIn K a "__get__" = some none) (hv : handedIn a = true) (hcp : copiedNames.contains name = false) {x : Addr} (hx : θ[i]? = some x) (h : Q a { s with toks := s.toks + 1 }) :
    wpAny (model prog w) A (getAttr (.ref x) name expr) Q E s := by
  refine El_eeeeaaa (S.inst hi hd hx) fun dx sl l n _ D I _ => ?_
  exact get_value X I (plainGet_of c.pg).1 (findObj_cls c.hd hc hn hv hcp (D.getNone hl)) hv h
theorem a_meth {expr : Bool} {Q : Value → Shared → Prop} {f : Addr} (X : K.In s.heap) (c : CF K C) (S : St T h₀ g₀ os₀ θ as s) (hi : as[i]? = some (.inst C d)) (hd : as[d]? = some (.dict es)) (hl : lk es name = none)
    (hc : findIn K (.ref C) name = some (some (.ref f))) (hf : isFn K (.ref f) = true) (hg : specialIn K (.ref f) "__get__" = some (some (.builtin "function.__get__"))) (ht : takesIn K (.ref f) = some false) (hcp : copiedNames.contains name = false)
    {x : Addr} (hx : θ[i]? = some x)
    (h : ∀ s', St T h₀ g₀ os₀ (θ ++ [s.heap.objs.size]) (as ++ [.meth f i]) s' → Ext (hidOf T) θ s.heap (θ ++ [s.heap.objs.size]) s'.heap → Q (.ref s.heap.objs.size) s') :
    wpAny (model prog w) A (getAttr (.ref x) name expr) Q E s := by
  refine El_eeeeaaa (S.inst hi hd hx) fun dx sl l n _ D I _ => ?_
  have P := S.push (o := .meth f i) (ob := methodObj (.ref f) (.ref x)) rfl ⟨x, get_pre ⟨_, rfl⟩ hx, rfl⟩
  exact get_bind X I (plainGet_of c.pg).1 (findObj_fn c.hd hc hg ht hcp (D.getNone hl)) (plainGet_of c.pg).2
    (wpAny_call (fn_get (s := { s with toks := s.toks + 1 }) X (beq_iff_eq.mp hf) (handed_on rfl (h _ (P.1.toks _) P.2))))
theorem a_call {pl : Sem Bool} {Q : Value × List Value → Shared → Prop} {f : Addr} (X : K.In s.heap) (c : CF K C) (S : St T h₀ g₀ os₀ θ as s) (hi : as[i]? = some (.inst C d)) (hd : as[d]? = some (.dict es)) (hl : lk es name = none)
    (hc : findIn K (.ref C) name = some (some (.ref f))) (hf : isFn K (.ref f) = true) {x : Addr} (hx : θ[i]? = some x) (h : Q (.ref f, [.ref x]) s) :
    wpAny (model prog w) A (getMethod (.ref x) name pl) Q E s := by
  refine El_eeeeaaa (S.inst hi hd hx) fun dx sl l n _ D I _ => ?_
  exact method_fn X I (plainGet_of c.pg).1 (plainGet_of c.pg).2 hc (beq_iff_eq.mp hf) (by show (lookIn name (dictOf l n)).map _ = _; rw [lookIn_dict, D.getNone hl]; rfl) h
theorem a_set {Q : Unit → Shared → Prop} {av : AV} {v : Value} (X : K.In s.heap) (c : CF K C) (S : St T h₀ g₀ os₀ θ as s) (hi : as[i]? = some (.inst C d)) (hd : as[d]? = some (.dict es)) (hz : (pt es name av).length ≤ 1000)
    (ht : takerIn K C name = some none) {x : Addr} (hx : θ[i]? = some x) (hv : VR θ av v)
    (h : ∀ s', St T h₀ g₀ os₀ θ (as.set d (.dict (pt es name av))) s' → Ext (hidOf T) θ s.heap θ s'.heap → Q () s') :
    wpAny (model prog w) A (setAttr (.ref x) name v) Q E s := by
  refine El_eeeeaaa (S.inst hi hd hx) fun dx sl l n hdx D I D0 => ?_
  refine set_plain X I c.sa ?_
  refine osa_open (s := { s with toks := s.toks + 1 }) X I c.po ht fun b => ?_
  refine El_ea (any_some c.hd) fun cd hc hd' => ?_
  obtain ⟨hx', _, _, -⟩ := I
  refine wpAny_bind (wpAny_pure (wpAny_bind (wpAny_bind (wpAny_loadPart hx' (wpAny_bind (Looks.at (looks_clsIn X hc) ?_))))))
  rw [hd']
  refine wpAny_pure (a := some dx) (wpAny_bind (wpAny_pure (wpAny_bind ?_)))
  unfold nsSet
  refine wpAny_bind (wpAny_bind (wpAny_askSetting (wpAny_pure (wpAny_bind (wpAny_mkText (wpAny_bind (wpAny_loadPart D0 ?_)))))))
  show wpAny _ _ (if aRefKeyMayBeTheName name l.toArray then _ else _) _ _ _
  have cc : (!l.toArray.any (·.key.isStr name) && l.toArray.any (·.refKey)) = false := by
    rw [← Array.any_toList, ← Array.any_toList]
    show (!l.any _ && l.any _) = false
    rw [D.noRef, Bool.and_false]
  rw [aRefKeyMayBeTheName_at, cc]
  let f := Obj.putName name (PyData.keyHash w.params name) (.str name (s.toks + 1)) v
  have e : f (dictOf l n) = dictOf (putL name (PyData.keyHash w.params name) (.str name (s.toks + 1)) v l) (putN name l n) := putName_dict ..
  have D1 : (s.heap.update dx f).get? dx = some (dictOf (putL name (PyData.keyHash w.params name) (.str name (s.toks + 1)) v l) (putN name l n)) := by
    rw [← e]; exact Heap.get?_update_self _ D0 (by rw [e]; rfl)
  have P := S.upd (h' := s.heap.update dx f) (o' := .dict (pt es name av)) hdx hd (Heap.SameBut.update ..) D1 ⟨_, _, rfl, D.put hv _ _⟩
  refine wpAny_updatePart D0 ?_
  refine wpAny_bind (wpAny_lookBehind D1 (pastItsLine_dict (by rw [List.size_toArray, (D.put (x := name) hv _ _).len, sizeLine_eq]; lia)) ?_)
  exact wpAny_pure (h _ (P.1.toks _) P.2)
end
end Mine

end
section
open PySem PySem.W PyProof.Rows
set_option backward.match.sparseCases false
namespace Mine
noncomputable def intA : Operator → Int → Int → Option Int
  | .Add, a, b => some (a + b)
  | .Sub, a, b => some (a - b)
  | .BitAnd, a, b => some (Builtin.bitAnd a b)
  | .BitOr, a, b => some (Builtin.bitOr a b)
  | .BitXor, a, b => some (Builtin.bitXor a b)
  | .LShift, a, b => if 0 ≤ b ∧ b ≤ 1000000 ∧ a.natAbs < 2 ^ 64 then some (a * 2 ^ b.toNat) else none
  | .RShift, a, b => if 0 ≤ b then some (a.fdiv (2 ^ b.toNat)) else none
  | .FloorDiv, a, b => if b ≠ 0 ∧ Builtin.divisionGoesByPylong a b = false then some (a.fdiv b) else none
  | .Mod, a, b => if b ≠ 0 then some (a.fmod b) else none
  | .Mult, a, b => if Builtin.Int.intBits a ≤ 64 ∨ Builtin.Int.intBits b ≤ 64 then some (a * b) else none
  | _, _, _ => none
noncomputable def cmpI (op : CmpOp) (a b : Int) : Option Bool := match op with
  | .Eq => some (a == b)
  | .NotEq => some (a != b)
  | .Lt => some (decide (a < b))
  | .LtE => some (decide (a ≤ b))
  | .Gt => some (decide (b < a))
  | .GtE => some (decide (b ≤ a))
  | _ => none
noncomputable def isN (a : AV) : Option Bool := match a with
  | .none => some true
  | .int _ => some false
  | .obj _ => some false
  | _ => none
noncomputable def cmpA (op : CmpOp) (a b : AV) : Option Bool := match b with
  | .int j => (match a with | .int i => cmpI op i j | _ => none)
  | .none => (match op with | .Is => isN a | _ => none)
  | _ => none
noncomputable def truA : AV → Option Bool
  | .int i => some (i != 0)
  | .bool b => some b
  | .none => some false
  | _ => none
section
variable {prog : Program} {w : World} {A : Around} {E : Value → Shared → Prop} {s : Shared} {θ : List Addr}
theorem mulOk {a b : Int} (h : Builtin.Int.intBits a ≤ 64 ∨ Builtin.Int.intBits b ≤ 64) : IntMulOk a b := h.elim IntMulOk.of_left IntMulOk.of_right
theorem bin_int {op : Operator} {a b r : Int} {t u : Tok} {Q : Value → Shared → Prop} (e : intA op a b = some r) (h : Q (.int r s.toks) { s with toks := s.toks + 1 }) : wpAny (model prog w) A (binaryOp op (.int a t) (.int b u)) Q E s := by
  cases op with
  | Add => cases (show some _ = some r from e); exact add_int h
  | Sub => cases (show some _ = some r from e); exact sub_int h
  | BitAnd => cases (show some _ = some r from e); exact and_int h
  | BitOr => cases (show some _ = some r from e); exact or_int h
  | BitXor => cases (show some _ = some r from e); exact xor_int h
  | LShift =>
    have e : (if _ then some _ else none) = some r := e
    split at e
    · rename_i q; cases e; exact lshift_int_small q.1 q.2.1 q.2.2 h
    · cases e
  | RShift =>
    have e : (if _ then some _ else none) = some r := e
    split at e
    · rename_i q; cases e; exact rshift_int q h
    · cases e
  | FloorDiv =>
    have e : (if _ then some _ else none) = some r := e
    split at e
    · rename_i q; cases e; exact floordiv_int q.1 h (.inl q.2)
    · cases e
  | Mult =>
    have e : (if _ then some _ else none) = some r := e
    split at e
    · rename_i q; cases e; exact mul_int h (mulOk q)
    · cases e
  | Mod =>
    have e : (if _ then some _ else none) = some r := e
    split at e
    · rename_i q; cases e; exact mod_int q h
    · cases e
  | _ => cases e
theorem inp_int {op : Operator} {a b r : Int} {t u : Tok} {Q : Value → Shared → Prop} (e : intA op a b = some r) (h : Q (.int r s.toks) { s with toks := s.toks + 1 }) (hop : op ≠ .Mod) : wpAny (model prog w) A (inplaceOp op (.int a t) (.int b u)) Q E s := by
  cases op with
  | Add => cases (show some _ = some r from e); exact iadd_int h
  | Sub => cases (show some _ = some r from e); exact isub_int h
  | BitAnd => cases (show some _ = some r from e); exact iand_int h
  | BitOr => cases (show some _ = some r from e); exact ior_int h
  | BitXor => cases (show some _ = some r from e); exact ixor_int h
  | LShift =>
    have e : (if _ then some _ else none) = some r := e
    split at e
    · rename_i q; cases e; exact ilshift_int_small q.1 q.2.1 q.2.2 h
    · cases e
  | RShift =>
    have e : (if _ then some _ else none) = some r := e
    split at e
    · rename_i q; cases e; exact irshift_int q h
    · cases e
  | FloorDiv =>
    have e : (if _ then some _ else none) = some r := e
    split at e
    · rename_i q; cases e; exact ifloordiv_int q.1 h (.inl q.2)
    · cases e
  | Mult =>
    have e : (if _ then some _ else none) = some r := e
    split at e
    · rename_i q; cases e; exact imul_int h (mulOk q)
    · cases e
  | Mod => exact absurd rfl hop
  | _ => cases e
theorem cmp_av {op : CmpOp} {a b : AV} {r : Bool} {x y : Value} {Q : Value → Shared → Prop} (e : cmpA op a b = some r) (ha : VR θ a x) (hb : VR θ b y) (h : Q (.bool r) s) : wpAny (model prog w) A (compareOp op x y) Q E s := by
  cases b with
  | int j => cases a with
    | int i =>
      obtain ⟨t, rfl⟩ := ha; obtain ⟨u, rfl⟩ := hb
      cases op with
      | Eq => cases (show some _ = some r from e); exact eq_int h
      | NotEq => cases (show some _ = some r from e); exact ne_int h
      | Lt => cases (show some _ = some r from e); exact lt_int h
      | LtE => cases (show some _ = some r from e); exact le_int h
      | Gt => cases (show some _ = some r from e); exact gt_int h
      | GtE => cases (show some _ = some r from e); exact ge_int h
      | _ => cases e
    | _ => cases e
  | none => cases op with
    | Is => cases a with
      | none => cases ha; cases hb; cases e; exact is_none_none h
      | int i => obtain ⟨t, rfl⟩ := ha; cases hb; cases e; exact is_int_none h
      | obj i => obtain ⟨a, _, rfl⟩ := ha; cases hb; cases e; exact is_none_ne (by intro x; cases x) h
      | _ => cases e
    | _ => cases e
  | _ => cases e
theorem tru_av {a : AV} {r : Bool} {x : Value} {Q : Bool → Shared → Prop} (e : truA a = some r) (ha : VR θ a x) (h : Q r s) : wpAny (model prog w) A (truthy x) Q E s := by
  unfold truA at e
  split at e
  · obtain ⟨t, rfl⟩ := ha; cases e; exact truthy_int h
  · cases ha; cases e; exact fun _ _ _ => h
  · cases ha; cases e; exact truthy_none h
  · cases e
end
end Mine

end
section
open PySem PySem.W PyProof.Rows
namespace Mine
structure Cx where
  prog : Program
  w : World
  h₀ : Heap
  g₀ : Array GenState
  os₀ : OsState
  T : Hid
noncomputable abbrev Cx.H (X : Cx) : List Addr := hidOf X.T
noncomputable abbrev Cx.S (X : Cx) (θ : List Addr) (as : List AO) (s : Shared) : Prop := St X.T X.h₀ X.g₀ X.os₀ θ as s
noncomputable abbrev Cx.M (X : Cx) : Model := model X.prog X.w
noncomputable abbrev Loc := List (Str × AV)
structure Fm where
  sc : Scope
  loc : Loc
  cells : List (Str × Nat)
  code : Value
  qual : Str
structure FrR (X : Cx) (f : Fm) (L : Addr) (env : Env) (θ : List Addr) (h : Heap) : Prop where
  scope : env.scope = f.sc
  kind : f.sc.kind = .function
  loc : env.locals = L
  nin : L ∉ θ
  apart : X.h₀.get? L = none
  nhid : L ∉ X.H
  ns : ∃ m, h.Ns L m ∧ ∀ x av, lk f.loc x = some av → ∃ v, m x = some v ∧ VR θ av v
  cells : ∀ x i, lk f.cells x = some i → ∃ a, θ[i]? = some a ∧ env.cells.lookup x = some a
  glob : env.globals = 3
  blt : env.builtins = 0
  code : env.code = f.code
  qual : env.qual = f.qual
theorem FrR.ext {X : Cx} {f : Fm} {L : Addr} {env : Env} {θ θ' : List Addr} {h h' : Heap} (F : FrR X f L env θ h) (e : Ext X.H θ h θ' h') : FrR X f L env θ' h' := by
  obtain ⟨m, ⟨o, es, ep, ho, hd, hk, hf⟩, r⟩ := F.ns
  refine ⟨F.scope, F.kind, F.loc, fun q => ?_, F.apart, F.nhid, ⟨m, ⟨o, es, ep, e.keep _ _ ho F.nin F.nhid, hd, hk, hf⟩, fun x av q => ?_⟩, fun x i q => ?_, F.glob, F.blt, F.code, F.qual⟩
  · have := (e.fresh L q F.nin).1; rw [ho] at this; cases this
  · obtain ⟨v, a, b⟩ := r x av q; exact ⟨v, a, b.mono e.pre⟩
  · refine El_ea (F.cells x i q) fun a c d => ?_; exact ⟨a, get_pre e.pre c, d⟩
structure ExtL (H : List Addr) (L : Addr) (θ : List Addr) (h : Heap) (θ' : List Addr) (h' : Heap) : Prop where
  pre : θ <+: θ'
  fresh : ∀ a ∈ θ', a ∉ θ → h.get? a = none ∧ a ∉ H
  keep : ∀ b o, h.get? b = some o → b ∉ θ → b ∉ H → b ≠ L → h'.get? b = some o
  ex : ∀ b o, h.get? b = some o → ∃ o', h'.get? b = some o'
  tab : ∀ P ∈ H, h'.get? P = h.get? P ∨ ∃ l k c, h'.get? P = some (tabObj #[l, k, .ref c]) ∧ h.get? c = none
theorem Ext.toL {H : List Addr} {L : Addr} {θ θ' : List Addr} {h h' : Heap} (e : Ext H θ h θ' h') : ExtL H L θ h θ' h' := ⟨e.pre, e.fresh, fun b o a c d _ => e.keep b o a c d, e.ex, e.tab⟩
theorem ExtL.refl {H : List Addr} (L : Addr) (θ : List Addr) (h : Heap) : ExtL H L θ h θ h := (Ext.refl θ h).toL
theorem ExtL.trans {H : List Addr} {L : Addr} {θ θ₁ θ₂ : List Addr} {h h₁ h₂ : Heap} (_hL : ∃ o, h.get? L = some o) (_nL : L ∉ θ) (sL : ∃ o, h₁.get? L = some o) (x : ExtL H L θ h θ₁ h₁) (y : ExtL H L θ₁ h₁ θ₂ h₂) : ExtL H L θ h θ₂ h₂ := by
  refine ⟨x.pre.trans y.pre, fun a m n => ?_, fun b o e n nh nb => ?_, fun b o e => (let ⟨o', e'⟩ := x.ex b o e; y.ex b o' e'), tab_trans x.ex x.tab y.tab⟩
  · by_cases q : a ∈ θ₁
    · exact x.fresh a q n
    · obtain ⟨y1, y2⟩ := y.fresh a m q
      refine ⟨?_, y2⟩
      by_cases eL : a = L
      · subst eL; obtain ⟨o, ho⟩ := sL; rw [y1] at ho; cases ho
      · cases r : h.get? a with
        | none => rfl
        | some o => have := x.keep a o r n y2 eL; rw [y1] at this; cases this
  · have n₁ : b ∉ θ₁ := fun m => by have := (x.fresh b m n).1; rw [e] at this; cases this
    exact y.keep b o (x.keep b o e n nh nb) n₁ nh nb
theorem ExtL.thru {H : List Addr} {L : Addr} {θ θ₁ θ₂ : List Addr} {h h₁ h₂ : Heap} (x : ExtL H L θ h θ₁ h₁) (sL : ∃ o, h₁.get? L = some o) (y : ExtL H L θ₁ h₁ θ₂ h₂) : ExtL H L θ h θ₂ h₂ := by
  refine ⟨x.pre.trans y.pre, fun a m n => ?_, fun b o e n nh nb => ?_, fun b o e => (let ⟨o', e'⟩ := x.ex b o e; y.ex b o' e'), tab_trans x.ex x.tab y.tab⟩
  · by_cases q : a ∈ θ₁
    · exact x.fresh a q n
    · obtain ⟨y1, y2⟩ := y.fresh a m q
      refine ⟨?_, y2⟩
      by_cases eL : a = L
      · subst eL; obtain ⟨o, ho⟩ := sL; rw [y1] at ho; cases ho
      · cases r : h.get? a with
        | none => rfl
        | some o => have := x.keep a o r n y2 eL; rw [y1] at this; cases this
  · have n₁ : b ∉ θ₁ := fun m => by have := (x.fresh b m n).1; rw [e] at this; cases this
    exact y.keep b o (x.keep b o e n nh nb) n₁ nh nb
theorem FrR.there {X : Cx} {f : Fm} {L : Addr} {env : Env} {θ : List Addr} {h : Heap} (F : FrR X f L env θ h) : ∃ o, h.get? L = some o := by
  obtain ⟨m, ⟨o, es, ep, ho, hd, hk, hf⟩, r⟩ := F.ns
  exact ⟨o, ho⟩
noncomputable def Room (A : Around) (dp : Nat) : Prop := A.depth + dp < recursionLimit ∧ A.units + 4 * dp + 40 < cLine ∧ A.handled = none
inductive AF where
  | next | brk | cont | ret (v : AV)
noncomputable def FlR (θ : List Addr) : AF → Flow → Prop
  | .next, g => g = .next
  | .brk, g => g = .brk
  | .cont, g => g = .cont
  | .ret a, g => ∃ v, g = .ret v ∧ VR θ a v
noncomputable abbrev PV := AV → List AO → Prop
noncomputable abbrev PVs := List AV → List AO → Prop
noncomputable abbrev PB := Bool → List AO → Prop
noncomputable abbrev PF := AF → Loc → List AO → Prop
noncomputable def EvS (X : Cx) (dp : Nat) (f : Fm) (e : Expr) (as : List AO) (Q : PV) : Prop :=
  ∀ (A : Around) (θ : List Addr) (s : Shared) (L : Addr) (env : Env) (post : Value → Shared → Prop) (E : Value → Shared → Prop), Room A dp → FrR X f L env θ s.heap → X.S θ as s →
    (∀ av as' θ' s' v, Q av as' → X.S θ' as' s' → Ext X.H θ s.heap θ' s'.heap → VR θ' av v → post v s') → wpAny X.M A (eval e env) post E s
noncomputable def TsS (X : Cx) (dp : Nat) (f : Fm) (e : Expr) (as : List AO) (Q : PB) : Prop :=
  ∀ (A : Around) (θ : List Addr) (s : Shared) (L : Addr) (env : Env) (post : Bool → Shared → Prop) (E : Value → Shared → Prop), Room A dp → FrR X f L env θ s.heap → X.S θ as s →
    (∀ b as' θ' s', Q b as' → X.S θ' as' s' → Ext X.H θ s.heap θ' s'.heap → post b s') → wpAny X.M A (isTrue e env (eval e env)) post E s
noncomputable def EvsS (X : Cx) (dp : Nat) (f : Fm) (es : List Expr) (as : List AO) (Q : PVs) : Prop :=
  ∀ (A : Around) (θ : List Addr) (s : Shared) (L : Addr) (env : Env) (post : List Value → Shared → Prop) (E : Value → Shared → Prop), Room A dp → FrR X f L env θ s.heap → X.S θ as s →
    (∀ avs as' θ' s' vs, Q avs as' → X.S θ' as' s' → Ext X.H θ s.heap θ' s'.heap → VRs θ' avs vs → post vs s') → wpAny X.M A (spliced (es.map fun e => (false, eval e env))) post E s
noncomputable def ExS (X : Cx) (dp : Nat) (f : Fm) (st : Stmt) (as : List AO) (Q : PF) : Prop :=
  ∀ (A : Around) (θ : List Addr) (s : Shared) (L : Addr) (env : Env) (post : Flow → Shared → Prop) (E : Value → Shared → Prop), Room A dp → FrR X f L env θ s.heap → X.S θ as s →
    (∀ fl loc' as' θ' s' g, Q fl loc' as' → X.S θ' as' s' → ExtL X.H L θ s.heap θ' s'.heap → FrR X { f with loc := loc' } L env θ' s'.heap → FlR θ' fl g → post g s') → wpAny X.M A (exec st env) post E s
noncomputable def ExsS (X : Cx) (dp : Nat) (f : Fm) (ss : List Stmt) (as : List AO) (Q : PF) : Prop :=
  ∀ (A : Around) (θ : List Addr) (s : Shared) (L : Addr) (env : Env) (post : Flow → Shared → Prop) (E : Value → Shared → Prop), Room A dp → FrR X f L env θ s.heap → X.S θ as s →
    (∀ fl loc' as' θ' s' g, Q fl loc' as' → X.S θ' as' s' → ExtL X.H L θ s.heap θ' s'.heap → FrR X { f with loc := loc' } L env θ' s'.heap → FlR θ' fl g → post g s') → wpAny X.M A (execs ss env) post E s
noncomputable def ClS (X : Cx) (dp : Nat) (fa : Value) (vs : List AV) (as : List AO) (Q : PV) : Prop :=
  ∀ (A : Around) (θ : List Addr) (s : Shared) (us : List Value) (post : Value → Shared → Prop) (E : Value → Shared → Prop), Room A dp → X.S θ as s → VRs θ vs us →
    (∀ av as' θ' s' v, Q av as' → X.S θ' as' s' → Ext X.H θ s.heap θ' s'.heap → VR θ' av v → post v s') → codeAny X.M A (.call fa ⟨us, []⟩) (fun r s' => match r with | .ok (.ret v) => post v s' | .ok _ => False | .error e => E e s') s
section
variable {X : Cx} {dp : Nat} {f : Fm} {as : List AO}
theorem EvS.mono {e : Expr} {Q Q' : PV} (h : EvS X dp f e as Q) (k : ∀ a b, Q a b → Q' a b) : EvS X dp f e as Q' :=
  fun A θ s L env post E R F S c => h A θ s L env post E R F S fun av as' θ' s' v q => c av as' θ' s' v (k _ _ q)
theorem TsS.mono {e : Expr} {Q Q' : PB} (h : TsS X dp f e as Q) (k : ∀ a b, Q a b → Q' a b) : TsS X dp f e as Q' :=
  fun A θ s L env post E R F S c => h A θ s L env post E R F S fun av as' θ' s' q => c av as' θ' s' (k _ _ q)
theorem EvsS.mono {e : List Expr} {Q Q' : PVs} (h : EvsS X dp f e as Q) (k : ∀ a b, Q a b → Q' a b) : EvsS X dp f e as Q' :=
  fun A θ s L env post E R F S c => h A θ s L env post E R F S fun av as' θ' s' v q => c av as' θ' s' v (k _ _ q)
theorem ExS.mono {st : Stmt} {Q Q' : PF} (h : ExS X dp f st as Q) (k : ∀ a b c, Q a b c → Q' a b c) : ExS X dp f st as Q' :=
  fun A θ s L env post E R F S c => h A θ s L env post E R F S fun fl loc' as' θ' s' g q => c fl loc' as' θ' s' g (k _ _ _ q)
theorem ExsS.mono {st : List Stmt} {Q Q' : PF} (h : ExsS X dp f st as Q) (k : ∀ a b c, Q a b c → Q' a b c) : ExsS X dp f st as Q' :=
  fun A θ s L env post E R F S c => h A θ s L env post E R F S fun fl loc' as' θ' s' g q => c fl loc' as' θ' s' g (k _ _ _ q)
theorem ClS.mono {fa : Value} {vs : List AV} {Q Q' : PV} (h : ClS X dp fa vs as Q) (k : ∀ a b, Q a b → Q' a b) : ClS X dp fa vs as Q' :=
  fun A θ s us post E R S V c => h A θ s us post E R S V fun av as' θ' s' v q => c av as' θ' s' v (k _ _ q)

theorem ev_int {i : Int} {k pos} {Q : PV} (h : Q (.int i) as) : EvS X dp f (.Constant (.int i) k pos) as Q :=
  fun _ θ s _ _ _ _ _ _ S c => wpAny_Constant_int (c _ _ θ { s with toks := s.toks + 1 } _ h (S.toks _) (Ext.refl _ _) ⟨_, rfl⟩)
theorem ev_str {i : Str} {k pos} {Q : PV} (h : Q (.str i) as) : EvS X dp f (.Constant (.str i) k pos) as Q :=
  fun _ θ s _ _ _ _ _ _ S c => wpAny_Constant_str (c _ _ θ { s with toks := s.toks + 1 } _ h (S.toks _) (Ext.refl _ _) ⟨_, rfl⟩)
theorem ev_none {k pos} {Q : PV} (h : Q .none as) : EvS X dp f (.Constant .none k pos) as Q :=
  fun _ θ s _ _ _ _ _ _ S c => wpAny_Constant_none (c _ _ θ s _ h S (Ext.refl _ _) rfl)
theorem ev_bool {b : Bool} {k pos} {Q : PV} (h : Q (.bool b) as) : EvS X dp f (.Constant (.bool b) k pos) as Q :=
  fun _ θ s _ _ _ _ _ _ S c => wpAny_Constant_bool (c _ _ θ s _ h S (Ext.refl _ _) rfl)

noncomputable def dbg : Str := "__debug__"
noncomputable def isKind (k : NameKind) (sc : Scope) (x : Str) : Bool := match lk sc.names x with
  | some j => !seq x dbg && (match k, j with | .local, .local => true | .cell, .cell => true | .free, .free => true | .globalImplicit, .globalImplicit => true | _, _ => false)
  | none => false
theorem lk_lookup {α : Type} (x : Str) : ∀ l : List (Str × α), lk l x = l.lookup x
  | [] => rfl
  | (y, v) :: r => by
    unfold lk
    rw [List.lookup_cons, seq_eq, lk_lookup x r]
    by_cases h : y = x
    · subst h; simp
    · have h' : ¬ x = y := fun e => h e.symm
      rw [beq_false_of_ne h, beq_false_of_ne h']
theorem isKind_of {k : NameKind} {sc : Scope} {x : Str} (h : isKind k sc x = true) : sc.names.lookup x = some k ∧ (x == ("__debug__" : Str)) = false := by
  unfold isKind at h
  rw [lk_lookup] at h
  split at h
  · rename_i j hj
    simp only [Bool.and_eq_true, Bool.not_eq_true'] at h
    obtain ⟨h1, h2⟩ := h
    rw [seq_eq] at h1
    refine ⟨?_, h1⟩
    rw [hj]
    cases k <;> cases j <;> first | rfl | exact ff h2
  · cases h
theorem FrR.kindOf {L : Addr} {env : Env} {θ : List Addr} {h : Heap} {k : NameKind} {x : Str} (F : FrR X f L env θ h) (q : isKind k f.sc x = true) : env.kindOf x = some k := by
  unfold Env.kindOf
  rw [F.scope]
  exact (isKind_of q).1
theorem ev_local {x : Str} {pos} {av : AV} {Q : PV} (hk : isKind .local f.sc x = true) (hv : lk f.loc x = some av) (h : Q av as) : EvS X dp f (.Name x pos) as Q := by
  intro A θ s L env post E R F S c
  obtain ⟨m, hm, r⟩ := F.ns
  obtain ⟨v, a, b⟩ := r x av hv
  exact wpAny_Name (wpAny_loadName_local (by rw [F.scope]; exact F.kind) (F.kindOf hk) (F.loc ▸ hm) a (c _ _ θ s _ h S (Ext.refl _ _) b)) (isKind_of hk).2
theorem St.cell {T : Hid} {h₀ : Heap} {g₀ : Array GenState} {os₀ : OsState} {θ : List Addr} {s : Shared} (S : St T h₀ g₀ os₀ θ as s) {i : Nat} {a : Addr} {v : Option AV} (hi : as[i]? = some (.cell v)) (ha : θ[i]? = some a) : ∃ u, s.heap.IsCell a u ∧ CR θ v u := by
  refine El_eaea (S.ar.objs i _ a hi ha) fun ob h1 u h2 h3 => ?_
  exact ⟨u, ⟨ob, h1, h2⟩, h3⟩
theorem ev_cell {x : Str} {pos} {av : AV} {i : Nat} {Q : PV} (hk : (isKind .cell f.sc x || isKind .free f.sc x) = true) (hn : seq x "__classdict__" = false) (hc : lk f.cells x = some i) (hi : as[i]? = some (.cell (some av))) (h : Q av as) : EvS X dp f (.Name x pos) as Q := by
  intro A θ s L env post E R F S c
  obtain ⟨a, ha, hl⟩ := F.cells x i hc
  refine El_eaea (S.cell hi ha) fun u hu v hr3 hv => ?_; obtain rfl := hr3
  have fin := c _ _ θ s _ h S (Ext.refl _ _) hv
  have kf : env.scope.kind = .function := by rw [F.scope]; exact F.kind
  rcases (Bool.or_eq_true _ _).mp hk with q | q
  · exact wpAny_Name (wpAny_loadName_cell kf (F.kindOf q) hl hu fin) (isKind_of q).2
  · exact wpAny_Name (wpAny_loadName_free kf (F.kindOf q) hl hu fin (by rw [← seq_eq]; exact hn)) (isKind_of q).2
theorem ev_bin {l r : Expr} {op : Operator} {pos} {Q : PV} (h : EvS X dp f l as fun a as₁ => EvS X dp f r as₁ fun b as₂ => ∃ i j k, a = .int i ∧ b = .int j ∧ intA op i j = some k ∧ Q (.int k) as₂) : EvS X dp f (.BinOp l op r pos) as Q := by
  intro A θ s L env post E R F S c
  refine wpAny_BinOp (h A θ s L env _ E R F S fun a as₁ θ₁ s₁ v q S₁ X₁ V₁ => q A θ₁ s₁ L env _ E R (F.ext X₁) S₁ fun b as₂ θ₂ s₂ u q₂ S₂ X₂ V₂ => ?_)
  refine El_eeeaaa q₂ fun i j k hr3 hr4 e q₃ => ?_; obtain rfl := hr3; obtain rfl := hr4; try clear q₂
  obtain ⟨t, rfl⟩ := V₁
  obtain ⟨t', rfl⟩ := V₂
  exact bin_int e (c _ _ θ₂ { s₂ with toks := s₂.toks + 1 } _ q₃ (S₂.toks _) (X₁.trans X₂) ⟨_, rfl⟩)
theorem ev_inv {x : Expr} {pos} {Q : PV} (h : EvS X dp f x as fun a as₁ => ∃ i, a = .int i ∧ Q (.int (Builtin.bitNot i)) as₁) : EvS X dp f (.UnaryOp .Invert x pos) as Q := by
  intro A θ s L env post E R F S c
  refine wpAny_UnaryOp (h A θ s L env _ E R F S fun a as₁ θ₁ s₁ v q S₁ X₁ V₁ => ?_)
  obtain ⟨i, rfl, q⟩ := q
  obtain ⟨t, rfl⟩ := V₁
  exact invert_int (c _ _ θ₁ { s₁ with toks := s₁.toks + 1 } _ q (S₁.toks _) X₁ ⟨_, rfl⟩)
end
end Mine

end
section
open PySem PySem.W PyProof.Rows
set_option backward.match.sparseCases false
namespace Mine
inductive CA where
  | no | inst | int (i : Int) | fn (f : Addr) | tab (a : Addr)
structure FD where
  names : List Str
  body : List Stmt
  scope : Scope
  code : Value
  qual : Str
structure Cls where
  C : Addr
  attr : Str → CA
  fn : Addr → Option FD
  tab : Addr → Option (List AV)
noncomputable def noStar : List Expr → Bool
  | [] => true
  | .Starred _ _ :: _ => false
  | _ :: r => noStar r
noncomputable def noComp : Expr → Bool
  | .ListComp .. | .SetComp .. | .DictComp .. => false
  | _ => true
noncomputable def onInt {α : Type} (a : AV) (K : Int → α) (z : α) : α := match a with
  | .int i => K i
  | _ => z
noncomputable def onObj {α : Type} (a : AV) (K : Nat → α) (z : α) : α := match a with
  | .obj i => K i
  | _ => z
noncomputable def onSm {β α : Type} (o : Option β) (K : β → α) (z : α) : α := match o with
  | some x => K x
  | none => z
theorem onInt_t {a : AV} {K : Int → Prop} (h : onInt a K False) : ∃ i, a = .int i ∧ K i := by cases a <;> first | exact ⟨_, rfl, h⟩ | exact h.elim
theorem onObj_t {a : AV} {K : Nat → Prop} (h : onObj a K False) : ∃ i, a = .obj i ∧ K i := by cases a <;> first | exact ⟨_, rfl, h⟩ | exact h.elim
theorem onSm_t {β : Type} {o : Option β} {K : β → Prop} (h : onSm o K False) : ∃ x, o = some x ∧ K x := by
  cases o with
  | none => exact h.elim
  | some x => exact ⟨x, rfl, h⟩
noncomputable def onInst {α : Type} (D : Cls) (i : Nat) (as : List AO) (K : Nat → List (Str × AV) → α) (z : α) : α := onSm as[i]? (fun o => match o with
  | .inst C d => (match Nat.beq C D.C with
    | true => onSm as[d]? (fun o => match o with | .dict es => K d es | _ => z) z
    | false => z)
  | _ => z) z
theorem onInst_c (D : Cls) (i : Nat) (as : List AO) : (∃ d es, as[i]? = some (.inst D.C d) ∧ as[d]? = some (.dict es) ∧ ∀ {α : Type} (K : Nat → List (Str × AV) → α) (z : α), onInst D i as K z = K d es) ∨ ∀ {α : Type} (K : Nat → List (Str × AV) → α) (z : α), onInst D i as K z = z := by
  unfold onInst
  cases h : as[i]? with
  | none => exact .inr fun _ _ => rfl
  | some o => cases o with
    | inst C d =>
      show (∃ d' es, some (AO.inst C d) = some (.inst D.C d') ∧ _ ∧ ∀ {α : Type} (K : Nat → List (Str × AV) → α) (z : α), (match Nat.beq C D.C with | true => _ | false => z) = K d' es) ∨ ∀ {α : Type} (K : Nat → List (Str × AV) → α) (z : α), (match Nat.beq C D.C with | true => _ | false => z) = z
      cases g : Nat.beq C D.C with
      | false => exact .inr fun _ _ => rfl
      | true =>
        obtain rfl : C = D.C := Nat.eq_of_beq_eq_true g
        cases k : as[d]? with
        | none => exact .inr fun _ _ => rfl
        | some o => cases o with
          | dict es => exact .inl ⟨d, es, rfl, k, fun _ _ => rfl⟩
          | _ => exact .inr fun _ _ => rfl
    | _ => exact .inr fun _ _ => rfl
theorem onInst_t {D : Cls} {i : Nat} {as : List AO} {K : Nat → List (Str × AV) → Prop} (h : onInst D i as K False) : ∃ d es, as[i]? = some (.inst D.C d) ∧ as[d]? = some (.dict es) ∧ K d es := by
  rcases onInst_c D i as with ⟨d, es, h1, h2, q⟩ | q
  · exact ⟨d, es, h1, h2, by rw [q] at h; exact h⟩
  · rw [q] at h; exact h.elim
noncomputable def attrV (c : CA) (i : Nat) (l : Option AV) (as : List AO) (Q : PV) : Prop := match l with
  | some av => (match c with
    | .inst => (match handed av with | true => Q av as | false => False)
    | _ => False)
  | none => match c with
    | .int j => Q (.int j) as
    | .fn f => Q (.obj as.length) (as ++ [.meth f i])
    | .tab a => Q (.addr a) as
    | _ => False
noncomputable def attrW (D : Cls) (i : Nat) (x : Str) (as : List AO) (Q : PV) : Prop := onInst D i as (fun _ es => attrV (D.attr x) i (lk es x) as Q) False
noncomputable def methV1 (c : CA) (l : Option AV) : Option Addr := match l with
  | some _ => none
  | none => match c with
    | .fn f => some f
    | _ => none
noncomputable def methA (D : Cls) (i : Nat) (x : Str) (as : List AO) : Option Addr := onInst D i as (fun _ es => methV1 (D.attr x) (lk es x)) none
noncomputable def isIn : CA → Bool
  | .inst => true
  | _ => false
theorem isIn_ok {c : CA} (h : isIn c = true) : c = .inst := by cases c <;> first | rfl | exact ff h
noncomputable def setW (D : Cls) (i : Nat) (x : Str) (av : AV) (as : List AO) (Q : List AO → Prop) : Prop := onInst D i as (fun d es => match isIn (D.attr x) with
    | true => (match Nat.ble (pt es x av).length 1000 with
      | true => Q (as.set d (.dict (pt es x av)))
      | false => False)
    | false => False) False
noncomputable def itemO (k : Int) (o : AO) (Q : AV → Prop) : Prop := match o with
  | .ints xs => (0 ≤ k ∧ k < xs.length ∧ k < 2 ^ 63) ∧ Q (.int (xs.getD k.toNat 0))
  | .intx xs => (0 ≤ k ∧ k < xs.length ∧ k < 2 ^ 63) ∧ Q (.int (xs.getD k.toNat 0))
  | .list xs => (0 ≤ k ∧ k < 2 ^ 63) ∧ onSm xs[k.toNat]? Q False
  | _ => False
noncomputable def itemW (D : Cls) (o : AV) (k : AV) (as : List AO) (Q : AV → Prop) : Prop := onInt k (fun k => match o with
      | .obj i => onSm as[i]? (fun oa => itemO k oa Q) False
      | .addr a => onSm (D.tab a) (fun xs => (0 ≤ k ∧ k < 2 ^ 63) ∧ onSm xs[k.toNat]? Q False) False
      | _ => False) False
noncomputable def intL (o : AO) (K : List Int → Prop) : Prop := match o with
  | .ints xs => K xs
  | .intx xs => K xs
  | _ => False
noncomputable def putW (o : AV) (k : AV) (v : AV) (as : List AO) (Q : List AO → Prop) : Prop := onInt k (fun k => onObj o (fun i => onSm as[i]? (fun oa => intL oa fun xs => onInt v (fun v => (0 ≤ k ∧ k < xs.length ∧ k < 2 ^ 63) ∧ Q (as.set i (.ints (xs.set k.toNat v)))) False) False) False) False
structure ClsOK (D : Cls) (K : Frag) (h₀ : Heap) : Prop where
  X : K.In h₀
  cf : CF K D.C
  lim : h₀.NoLimit
  inst : ∀ x, D.attr x = .inst → findIn K (.ref D.C) x = some none ∧ takerIn K D.C x = some none
  int : ∀ x i, D.attr x = .int i → ∃ t, findIn K (.ref D.C) x = some (some (.int i t)) ∧ specialIn K (.int i t) "__get__" = some none ∧ copiedNames.contains x = false
  fn : ∀ x f, D.attr x = .fn f → findIn K (.ref D.C) x = some (some (.ref f)) ∧ isFn K (.ref f) = true ∧ specialIn K (.ref f) "__get__" = some (some (.builtin "function.__get__")) ∧ takesIn K (.ref f) = some false ∧ copiedNames.contains x = false
  tab : ∀ x a, D.attr x = .tab a → findIn K (.ref D.C) x = some (some (.ref a)) ∧ specialIn K (.ref a) "__get__" = some none ∧ copiedNames.contains x = false
  tabs : ∀ a xs, D.tab a = some xs → ∃ vs, h₀.IsList a vs ∧ VRs [] xs vs.toList
section
variable {prog : Program} {w : World} {A : Around} {E : Value → Shared → Prop} {s : Shared} {D : Cls} {K : Frag} {T : Hid} {h₀ : Heap} {g₀ : Array GenState} {os₀ : OsState} {θ : List Addr} {as as' : List AO} {i : Nat} {x : Str} {av : AV}
theorem attr_ok {expr : Bool} {Q : Value → Shared → Prop} {P : PV} (O : ClsOK D K h₀) (S : St T h₀ g₀ os₀ θ as s) (e : attrW D i x as P) {a : Addr} (ha : θ[i]? = some a)
    (h : ∀ av as' θ' s' v, P av as' → St T h₀ g₀ os₀ θ' as' s' → Ext (hidOf T) θ s.heap θ' s'.heap → VR θ' av v → Q v s') : wpAny (model prog w) A (getAttr (.ref a) x expr) Q E s := by
  have X : K.In s.heap := O.X.keeps S.base
  obtain ⟨d, es, hi, hd, e⟩ := onInst_t e
  revert e
  generalize h1 : D.attr x = c
  cases hl : lk es x with
  | some v => cases c with
    | inst =>
      show (match handed v with | true => P v as | false => False) → _
      cases h2 : handed v with
      | false => exact fun e => e.elim
      | true => exact fun e => a_get X O.cf S hi hd hl h2 (O.inst x h1).1 ha fun v r => h _ _ θ _ v e (S.toks _) (Ext.refl _ _) r
    | _ => exact fun e => e.elim
  | none => cases c with
    | int j =>
      intro e
      obtain ⟨t, f1, f2, f3⟩ := O.int x j h1
      exact a_cst X O.cf S hi hd hl f1 f2 rfl f3 ha (h _ _ θ _ _ e (S.toks _) (Ext.refl _ _) ⟨t, rfl⟩)
    | fn f =>
      intro e
      refine El_aaaa (O.fn x f h1) fun f1 f2 f3 f4 f5 => ?_
      refine a_meth X O.cf S hi hd hl f1 f2 f3 f4 f5 ha fun s' S' E' => h _ _ _ s' _ e S' E' ⟨_, ?_, rfl⟩
      rw [S.ar.len, List.getElem?_append_right (Nat.le_refl _), Nat.sub_self]; rfl
    | tab b =>
      intro e
      obtain ⟨f1, f2, f3⟩ := O.tab x b h1
      exact a_cst X O.cf S hi hd hl f1 f2 rfl f3 ha (h _ _ θ _ _ e (S.toks _) (Ext.refl _ _) rfl)
    | _ => exact fun e => e.elim
theorem meth_ok {pl : Sem Bool} {Q : Value × List Value → Shared → Prop} {f : Addr} (O : ClsOK D K h₀) (S : St T h₀ g₀ os₀ θ as s) (e : methA D i x as = some f) {a : Addr} (ha : θ[i]? = some a) (h : Q (.ref f, [.ref a]) s) :
    wpAny (model prog w) A (getMethod (.ref a) x pl) Q E s := by
  have X : K.In s.heap := O.X.keeps S.base
  rcases onInst_c D i as with ⟨d, es, hi, hd, q⟩ | q
  · have e : methV1 (D.attr x) (lk es x) = some f := (q _ _).symm.trans e
    revert e
    generalize h1 : D.attr x = c
    cases hl : lk es x with
    | some v => exact fun e => nosome e
    | none => cases c with
      | fn f' =>
        intro e
        cases e
        obtain ⟨f1, f2, _⟩ := O.fn x f h1
        exact a_call X O.cf S hi hd hl f1 f2 ha h
      | _ => exact fun e => nosome e
  · exact nosome ((q _ _).symm.trans e)
theorem set_ok {Q : Unit → Shared → Prop} {P : List AO → Prop} {v : Value} (O : ClsOK D K h₀) (S : St T h₀ g₀ os₀ θ as s) (e : setW D i x av as P) {a : Addr} (ha : θ[i]? = some a) (hv : VR θ av v)
    (h : ∀ as' s', P as' → St T h₀ g₀ os₀ θ as' s' → Ext (hidOf T) θ s.heap θ s'.heap → Q () s') : wpAny (model prog w) A (setAttr (.ref a) x v) Q E s := by
  have X : K.In s.heap := O.X.keeps S.base
  obtain ⟨d, es, hi, hd, e⟩ := onInst_t e
  revert e
  cases h1 : isIn (D.attr x) with
  | false => exact fun e => e.elim
  | true =>
    show (match Nat.ble (pt es x av).length 1000 with | true => P (as.set d (.dict (pt es x av))) | false => False) → _
    cases hz : Nat.ble (pt es x av).length 1000 with
    | false => exact fun e => e.elim
    | true => exact fun e => a_set X O.cf S hi hd (Nat.le_of_ble_eq_true hz) (O.inst x (isIn_ok h1)).2 ha hv fun s' S' E' => h _ s' e S' E'
theorem VRs.get {θ : List Addr} {xs : List AV} {vs : List Value} (h : VRs θ xs vs) : ∀ {k : Nat} {a : AV}, xs[k]? = some a → ∃ v, vs[k]? = some v ∧ VR θ a v := by
  induction h with
  | nil => intro k a e; simp at e
  | cons r _ ih =>
    intro k a e
    cases k with
    | zero => simp at e; subst e; exact ⟨_, by simp, r⟩
    | succ k => simp at e ⊢; exact ih e
theorem VRs.len {θ : List Addr} {xs : List AV} {vs : List Value} (h : VRs θ xs vs) : vs.length = xs.length := by
  induction h with
  | nil => rfl
  | cons _ _ ih => simp [ih]
theorem ints_set : ∀ {vs : List Value} {xs : List Int}, IntsAre vs xs → ∀ (k : Nat) {v : Value} {i : Int}, (∃ t, v = .int i t) → IntsAre (vs.set k v) (xs.set k i)
  | _, _, .nil, k, _, _, _ => by simp; exact .nil
  | _, _, .cons n u h, 0, v, i, ⟨t, e⟩ => by subst e; exact .cons i t h
  | _, _, .cons n u h, k + 1, v, i, e => .cons n u (ints_set h k e)
theorem isList_keeps {h h' : Heap} {a : Addr} {vs : Array Value} (l : h.IsList a vs) (k : ∀ b o, h.get? b = some o → h'.get? b = some o) : h'.IsList a vs := by
  obtain ⟨o, ho, r⟩ := l; exact ⟨o, k _ _ ho, r⟩
theorem list_of (S : St T h₀ g₀ os₀ θ as s) {i : Nat} {a : Addr} {xs : List AV} (hi : as[i]? = some (.list xs)) (ha : θ[i]? = some a) : ∃ vs, s.heap.IsList a vs ∧ VRs θ xs vs.toList := by
  refine El_eaeea (S.ar.objs i _ a hi ha) fun ob h1 vs n hr4 r => ?_; obtain rfl := hr4
  exact ⟨vs, ⟨_, h1, rfl, n, rfl⟩, r⟩
theorem intx_of (S : St T h₀ g₀ os₀ θ as s) {i : Nat} {a : Addr} {xs : List Int} (hi : as[i]? = some (.intx xs)) (ha : θ[i]? = some a) : ∃ vs, s.heap.IsList a vs ∧ IntsAre vs.toList xs := by
  refine El_eaeea (S.ar.objs i _ a hi ha) fun ob h1 vs n hr4 r => ?_; obtain rfl := hr4
  exact ⟨vs, ⟨_, h1, rfl, n, rfl⟩, r⟩
theorem ints_of (S : St T h₀ g₀ os₀ θ as s) {i : Nat} {a : Addr} {xs : List Int} (hi : as[i]? = some (.ints xs)) (ha : θ[i]? = some a) : ∃ vs, s.heap.IsList a vs ∧ IntsAre vs.toList xs := by
  refine El_eaaeea (S.ar.objs i _ a hi ha) fun ob h1 c vs n d r => ?_
  exact ⟨vs, ⟨ob, h1, c, n, d⟩, r⟩
theorem getD_some {xs : List Int} {k : Nat} (h : k < xs.length) : xs[k]? = some (xs.getD k 0) := by
  rw [List.getD_eq_getElem?_getD, List.getElem?_eq_getElem h]; rfl
theorem intL_ok {K' : List Int → Prop} (S : St T h₀ g₀ os₀ θ as s) {i : Nat} {a : Addr} {o : AO} (hi : as[i]? = some o) (ha : θ[i]? = some a) (h : intL o K') : ∃ xs vs, K' xs ∧ s.heap.IsList a vs ∧ IntsAre vs.toList xs := by
  cases o with
  | «ints» xs => obtain ⟨vs, l, r⟩ := ints_of S hi ha; exact ⟨xs, vs, h, l, r⟩
  | intx xs => obtain ⟨vs, l, r⟩ := intx_of S hi ha; exact ⟨xs, vs, h, l, r⟩
  | _ => exact h.elim
theorem item_ok {o k : AV} {ov kv : Value} {Q : Value → Shared → Prop} {P : AV → Prop} (O : ClsOK D K h₀) (S : St T h₀ g₀ os₀ θ as s) (e : itemW D o k as P) (ho : VR θ o ov) (hk : VR θ k kv)
    (h : ∀ av v, P av → VR θ av v → Q v s) : ∃ a, ov = .ref a ∧ s.TypeIs (.ref a) "list" ∧ wpAny (model prog w) A (getItem ov kv) Q E s := by
  obtain ⟨k, rfl, e⟩ := onInt_t e
  obtain ⟨t, rfl⟩ := hk
  have I : ∀ {a : Addr} {vs : Array Value} {xs : List Int}, s.heap.IsList a vs → IntsAre vs.toList xs → (0 ≤ k ∧ k < xs.length ∧ k < 2 ^ 63) ∧ P (.int (xs.getD k.toNat 0)) → s.TypeIs (.ref a) "list" ∧ wpAny (model prog w) A (getItem (.ref a) (.int k t)) Q E s := fun {a vs xs} hl r e => by
    obtain ⟨⟨b1, b2, b3⟩, e⟩ := e
    have hn : k.toNat < xs.length := by lia
    obtain ⟨t', hv⟩ := r.get _ _ (getD_some hn)
    exact ⟨hl.typeIs, wpAny_getItem_list hl b1 b3 (by rw [← Array.getElem?_toList]; exact hv) (h _ _ e ⟨t', rfl⟩)⟩
  have J : ∀ {a : Addr} {vs : Array Value} {xs : List AV} {θ' : List Addr}, s.heap.IsList a vs → VRs θ' xs vs.toList → θ' <+: θ → (0 ≤ k ∧ k < 2 ^ 63) ∧ onSm xs[k.toNat]? P False → s.TypeIs (.ref a) "list" ∧ wpAny (model prog w) A (getItem (.ref a) (.int k t)) Q E s := fun {a vs xs θ'} hl r p e => by
    obtain ⟨⟨b1, b3⟩, e⟩ := e
    obtain ⟨v', hx, e⟩ := onSm_t e
    obtain ⟨v, hv, rv⟩ := r.get hx
    exact ⟨hl.typeIs, wpAny_getItem_list hl b1 b3 (by rw [← Array.getElem?_toList]; exact hv) (h _ _ e (rv.mono p))⟩
  cases o with
  | obj i =>
    obtain ⟨a, ha, rfl⟩ := ho
    obtain ⟨oa, hi, e⟩ := onSm_t e
    refine ⟨a, rfl, ?_⟩
    cases oa with
    | «ints» xs => obtain ⟨vs, hl, r⟩ := ints_of S hi ha; exact I hl r e
    | intx xs => obtain ⟨vs, hl, r⟩ := intx_of S hi ha; exact I hl r e
    | list xs => obtain ⟨vs, hl, r⟩ := list_of S hi ha; exact J hl r (List.prefix_refl _) e
    | _ => exact e.elim
  | addr a =>
    cases ho
    obtain ⟨xs, hi, e⟩ := onSm_t e
    obtain ⟨vs, hl, r⟩ := O.tabs a xs hi
    exact ⟨a, rfl, J (isList_keeps hl S.base) r List.nil_prefix e⟩
  | _ => exact e.elim
theorem put_ok {o k : AV} {ov kv : Value} {Q : Unit → Shared → Prop} {P : List AO → Prop} {v : Value} (S : St T h₀ g₀ os₀ θ as s) (e : putW o k av as P) (ho : VR θ o ov) (hk : VR θ k kv) (hv : VR θ av v)
    (h : ∀ as' s', P as' → St T h₀ g₀ os₀ θ as' s' → Ext (hidOf T) θ s.heap θ s'.heap → Q () s') : wpAny (model prog w) A (setItem ov kv v) Q E s := by
  obtain ⟨k, rfl, e⟩ := onInt_t e
  obtain ⟨i, rfl, e⟩ := onObj_t e
  obtain ⟨oa, hi, e⟩ := onSm_t e
  obtain ⟨t, rfl⟩ := hk
  obtain ⟨a, ha, rfl⟩ := ho
  obtain ⟨xs, vs, e, hl, r⟩ := intL_ok S hi ha e
  obtain ⟨j, rfl, e⟩ := onInt_t e
  obtain ⟨⟨b1, b2, b3⟩, e⟩ := e
  have hsz : vs.size = xs.length := by rw [← Array.length_toList]; exact r.length
  refine wpAny_setItem_list hl b1 b3 (by lia) fun h' hl' sb => ?_
  obtain ⟨ob, g1, c, n, d⟩ := hl'
  have P := S.upd (o' := .ints (xs.set k.toNat j)) ha hi sb g1 ⟨c, _, n, d, by rw [Array.toList_setIfInBounds]; exact ints_set r _ hv⟩
  exact h _ _ e P.1 P.2
end
section
variable {X : Cx} {dp : Nat} {f : Fm} {as : List AO} {D : Cls} {K : Frag}
theorem ev_attr {x a : Str} {p pos : Pos} {Q : PV} (O : ClsOK D K X.h₀) (h : EvS X dp f (.Name x p) as fun o as₁ => ∃ i, o = .obj i ∧ attrW D i a as₁ Q) : EvS X dp f (.Attribute (.Name x p) a pos) as Q := by
  intro A θ s L env post E R F S c
  refine Attribute_Name_ (h A θ s L env _ E R F S fun o as₁ θ₁ s₁ v q S₁ X₁ V₁ => ?_)
  obtain ⟨i, rfl, q⟩ := q
  obtain ⟨b, hb, rfl⟩ := V₁
  exact attr_ok O S₁ q hb fun av as' θ' s' v q' S' X' V' => c av as' θ' s' v q' S' (X₁.trans X') V'
noncomputable def noSlice : Expr → Bool
  | .Slice .. => false
  | _ => true
theorem sub_eq {e : Expr} (h : noSlice e = true) (o i : Value) : subscripted e false o i = operate [o, i] (getItem o i) := by
  cases e <;> first | rfl | exact ff h
theorem ev_sub {v i : Expr} {pos : Pos} {Q : PV} (O : ClsOK D K X.h₀) (hn : noSlice i = true) (h : EvS X dp f v as fun o as₁ => EvS X dp f i as₁ fun k as₂ => itemW D o k as₂ fun r => Q r as₂) : EvS X dp f (.Subscript v i pos) as Q := by
  intro A θ s L env post E R F S c
  refine Subscript_ (h A θ s L env _ E R F S fun o as₁ θ₁ s₁ ov q S₁ X₁ V₁ => q A θ₁ s₁ L env _ E R (F.ext X₁) S₁ fun k as₂ θ₂ s₂ kv q₂ S₂ X₂ V₂ => ?_)
  obtain ⟨a, rfl, ht, hw⟩ := item_ok (prog := X.prog) (w := X.w) (A := A) (E := E) (Q := post) O S₂ q₂ (V₁.mono X₂.pre) V₂ fun av v q' V' => c av as₂ θ₂ s₂ v q' S₂ (X₁.trans X₂) V'
  exact tail_any ht slot_list_getitem.lookup hw (sub_eq hn _ _)
theorem evs_nil {Q : PVs} (h : Q [] as) : EvsS X dp f [] as Q := fun _ θ s _ _ _ _ _ _ S c => Calls.spliced_nil (c _ _ θ s _ h S (Ext.refl _ _) .nil)
theorem evs_cons {e : Expr} {r : List Expr} {Q : PVs} (h : EvS X dp f e as fun a as₁ => EvsS X dp f r as₁ fun l as₂ => Q (a :: l) as₂) : EvsS X dp f (e :: r) as Q := by
  intro A θ s L env post E R F S c
  refine Calls.spliced_cons (h A θ s L env _ E R F S fun o as₁ θ₁ s₁ ov q S₁ X₁ V₁ => q A θ₁ s₁ L env _ E R (F.ext X₁) S₁ fun k as₂ θ₂ s₂ kv q₂ S₂ X₂ V₂ => ?_)
  exact c _ _ θ₂ s₂ _ q₂ S₂ (X₁.trans X₂) (.cons (V₁.mono X₂.pre) V₂)
theorem star_one {e : Expr} {r : List Expr} {env : Env} (h : noStar (e :: r) = true) : starEach (e :: r) env = (false, eval e env) :: starEach r env ∧ noStar r = true := by
  cases e <;> first | exact ⟨rfl, h⟩ | exact ff h
theorem back_eq (pos : Pos) (env : Env) (args : List Expr) : noStar args = true → backTo pos (starEach args env) = args.map fun e => (false, eval e env) := by
  induction args with
  | nil => exact fun _ => rfl
  | cons e r ih =>
    intro h
    obtain ⟨a, b⟩ := star_one (env := env) h
    have ih := ih b
    unfold backTo at ih ⊢
    rw [a]
    exact congrArg (_ :: ·) ih
theorem plain_any {α : Type} (g : α → Bool × Sem Value) (hg : ∀ a, (g a).1 = false) : ∀ l : List α, (l.map g).any (·.1) = false
  | [] => rfl
  | a :: r => by rw [List.map_cons, List.any_cons, hg, plain_any g hg r]; rfl
theorem args_ok {M : Model} {A : Around} {E : Value → Shared → Prop} {s : Shared} {env : Env} {fv : Value} {args : List Expr} {Q : Args → Shared → Prop}
    (h : wpAny M A (spliced (args.map fun e => (false, eval e env))) (fun vs s' => Q ⟨vs, []⟩ s') E s) : wpAny M A (evalArgs fv true (args.map fun e => (false, eval e env)) []) Q E s := by
  cases args with
  | nil =>
    unfold evalArgs
    show wpAny M A (spliced [] >>= _) Q E s
    refine wpAny_bind (wpAny_mono h (fun vs s' h' => ?_) fun _ _ x => x)
    refine wpAny_holding ?_
    exact wpAny_bind (wpAny_pure (wpAny_bind (wpAny_pure (wpAny_pure h'))))
  | cons e r => exact Calls.evalArgs_plain h
end
end Mine

end
section
open PySem PySem.W PyProof.Rows
namespace Mine
theorem VRs.app {θ : List Addr} {as bs : List AV} {us vs : List Value} (h : VRs θ as us) (g : VRs θ bs vs) : VRs θ (as ++ bs) (us ++ vs) := by
  induction h with
  | nil => exact g
  | cons a _ ih => exact .cons a ih
structure FnOK (h₀ : Heap) (fa : Addr) (d : FD) : Prop where
  ex : ∃ o fd, h₀.get? fa = some o ∧ o.data = .func fd ∧ h₀.CodeRec fd.code fd.qualname ∧ fd.body = .stmts d.body ∧ fd.scope = d.scope ∧ fd.globals = 3 ∧ fd.builtins = 0 ∧ fd.code = d.code ∧ fd.qualname ++ ".<locals>." = d.qual ∧
    (∀ vals : List Value, vals.length = d.names.length → bindArgs fd ⟨vals, []⟩ = pure (d.names.zip vals))
  cell : ∀ x ∈ d.scope.names, x.2 ≠ .cell
  loc : ∀ x ∈ d.names, d.scope.names.lookup x = some .local
  co : d.scope.isCoroutine = false
  gen : d.scope.isGenerator = false
  kind : d.scope.kind = .function
theorem St.keeps {T : Hid} {h₀ : Heap} {g₀ : Array GenState} {os₀ : OsState} {θ : List Addr} {as : List AO} {s : Shared} (S : St T h₀ g₀ os₀ θ as s) {h' : Heap} {k : Nat} (hk : ∀ b o, s.heap.get? b = some o → h'.get? b = some o) : St T h₀ g₀ os₀ θ as { s with heap := h', toks := k } :=
  ⟨⟨S.ar.len, S.ar.nodup, fun i o a e1 e2 => let ⟨ob, x, y⟩ := S.ar.objs i o a e1 e2; ⟨ob, hk _ _ x, y⟩⟩, fun b o e => hk _ _ (S.base b o e), S.apart, S.gens, S.os, fun e he => (S.tabs e he).to (fun o x => hk _ _ x) (fun c o _ x _ _ _ => hk _ _ x) fun _ _ _ n => n, S.hnin, S.hbase, S.pin⟩
theorem St.lt {T : Hid} {h₀ : Heap} {g₀ : Array GenState} {os₀ : OsState} {θ : List Addr} {as : List AO} {s : Shared} (S : St T h₀ g₀ os₀ θ as s) {a : Addr} (m : a ∈ θ) : a < s.heap.objs.size := by
  obtain ⟨i, hi, e⟩ := List.getElem_of_mem m
  have e' : θ[i]? = some a := by rw [List.getElem?_eq_getElem hi, e]
  have hi' : i < as.length := by rw [S.ar.len]; exact hi
  obtain ⟨ob, h, _⟩ := S.ar.objs i as[i] _ (List.getElem?_eq_getElem hi') e'
  exact Heap.lt_size h
theorem size_none (h : Heap) : h.get? h.objs.size = none := by
  cases q : h.get? h.objs.size with
  | none => rfl
  | some o => exact absurd (Heap.lt_size q) (Nat.lt_irrefl _)
theorem St.fresh {T : Hid} {h₀ : Heap} {g₀ : Array GenState} {os₀ : OsState} {θ : List Addr} {as : List AO} {s : Shared} (S : St T h₀ g₀ os₀ θ as s) : h₀.get? s.heap.objs.size = none := by
  cases q : h₀.get? s.heap.objs.size with
  | none => rfl
  | some o => have := S.base _ _ q; rw [size_none] at this; cases this
theorem St.freshH {T : Hid} {h₀ : Heap} {g₀ : Array GenState} {os₀ : OsState} {θ : List Addr} {as : List AO} {s : Shared} (S : St T h₀ g₀ os₀ θ as s) : s.heap.objs.size ∉ hidOf T := fun m => by
  obtain ⟨e, he, q⟩ := List.mem_map.mp m
  obtain ⟨ps, x⟩ := (S.tabs e he).is
  rw [q, size_none] at x; cases x
theorem St.tabKeep {T : Hid} {h₀ : Heap} {g₀ : Array GenState} {os₀ : OsState} {θ : List Addr} {as : List AO} {s : Shared} (S : St T h₀ g₀ os₀ θ as s) {h' : Heap} (hk : ∀ b o, s.heap.get? b = some o → h'.get? b = some o) :
    ∀ P ∈ hidOf T, h'.get? P = s.heap.get? P ∨ ∃ l k c, h'.get? P = some (tabObj #[l, k, .ref c]) ∧ s.heap.get? c = none := fun P m => .inl (by
  obtain ⟨e, he, rfl⟩ := List.mem_map.mp m
  obtain ⟨ps, x⟩ := (S.tabs e he).is
  rw [x]; exact hk _ _ x)
inductive LRs (θ : List Addr) : List (Str × AV) → List (Str × Value) → Prop
  | nil : LRs θ [] []
  | cons {x a v l m} : VR θ a v → LRs θ l m → LRs θ ((x, a) :: l) ((x, v) :: m)
theorem LRs.zip {θ : List Addr} {vs : List AV} {us : List Value} (h : VRs θ vs us) : ∀ ns : List Str, LRs θ (ns.zip vs) (ns.zip us) := by
  induction h with
  | nil => intro ns; cases ns <;> exact .nil
  | cons r _ ih =>
    intro ns
    cases ns with
    | nil => exact .nil
    | cons n ns => exact .cons r (ih ns)
theorem LRs.snoc {θ : List Addr} {l : List (Str × AV)} {m : List (Str × Value)} (h : LRs θ l m) {x : Str} {a : AV} {v : Value} (r : VR θ a v) : LRs θ (l ++ [(x, a)]) (m ++ [(x, v)]) := by
  induction h with
  | nil => exact .cons r .nil
  | cons q _ ih => exact .cons q ih
theorem LRs.rev {θ : List Addr} {l : List (Str × AV)} {m : List (Str × Value)} (h : LRs θ l m) : LRs θ l.reverse m.reverse := by
  induction h with
  | nil => exact .nil
  | cons q _ ih => rw [List.reverse_cons, List.reverse_cons]; exact ih.snoc q
theorem LRs.look {θ : List Addr} {l : List (Str × AV)} {m : List (Str × Value)} (h : LRs θ l m) (x : Str) (av : AV) (e : lk l x = some av) : ∃ v, m.lookup x = some v ∧ VR θ av v := by
  rw [lk_lookup] at e
  induction h with
  | nil => cases e
  | @cons y a v l m q _ ih =>
    rw [List.lookup_cons] at e ⊢
    cases hb : x == y with
    | true => rw [hb] at e; cases e; exact ⟨v, rfl, q⟩
    | false => rw [hb] at e; exact ih e
theorem lk_ne {α : Type} {z y : Str} (h : ¬ y = z) (v : α) (r : List (Str × α)) : lk ((z, v) :: r) y = lk r y := by
  rw [lk_lookup, lk_lookup, List.lookup_cons, beq_false_of_ne h]
theorem lk_self {α : Type} (z : Str) (v : α) (r : List (Str × α)) : lk ((z, v) :: r) z = some v := by rw [lk_lookup, List.lookup_cons_self]
theorem lk_pt {α : Type} (x : Str) (v : α) (y : Str) (l : List (Str × α)) : lk (pt l x v) y = if y = x then some v else lk l y := by
  induction l with
  | nil =>
    show lk [(x, v)] y = _
    by_cases h : y = x
    · subst h; rw [lk_self, if_pos rfl]
    · rw [lk_ne h, if_neg h]
  | cons zu r ih =>
    obtain ⟨z, u⟩ := zu
    unfold pt
    cases q : seq z x with
    | true =>
      have e := seq_iff.mp q; subst e
      show lk ((z, v) :: r) y = _
      by_cases h : y = z
      · subst h; rw [lk_self, if_pos rfl]
      · rw [lk_ne h, if_neg h, lk_ne h]
    | false =>
      show lk ((z, u) :: pt r x v) y = _
      by_cases h : y = z
      · subst h
        rw [lk_self, lk_self, if_neg (fun e => Bool.noConfusion (q.symm.trans (seq_iff.mpr e)))]
      · rw [lk_ne h, lk_ne h, ih]
noncomputable def storeW (f : Fm) (x : Str) (v : AV) (as : List AO) (Q : Loc → List AO → Prop) : Prop := match isKind .local f.sc x with
  | true => Q (pt f.loc x v) as
  | false => match isKind .cell f.sc x, lk f.cells x with
    | true, some i => (match as[i]? with | some (.cell _) => Q f.loc (as.set i (.cell (some v))) | _ => False)
    | _, _ => False
section
variable {X : Cx} {dp : Nat} {f : Fm} {as : List AO} {D : Cls} {K : Frag}
theorem cl_def {fa : Addr} {d : FD} {vs : List AV} {Q : PV} (O : FnOK X.h₀ fa d) (lim : X.h₀.NoLimit) (hl : vs.length = d.names.length)
    (h : ExsS X dp ⟨d.scope, (d.names.zip vs).reverse, [], d.code, d.qual⟩ d.body as fun fl _ as' => match fl with | .ret v => Q v as' | .next => Q .none as' | _ => False) : ClS X (dp + 1) (.ref fa) vs as Q := by
  intro A θ s us post E R S V c
  refine El_eeaaaaaaaaa O.ex fun o fd ho hd hc hb hs hg hbl hcd hql hbind => ?_
  have hroom : A.depth < recursionLimit := by have := R.1; exact Nat.lt_of_add_right_lt this
  refine codeAny_call_def hroom (S.base _ _ ho) hd (lim.keeps S.base) (Heap.CodeRec.keeps hc S.base) hb (BindsTo.of_eq (hbind us (by rw [V.len, hl]))) (by rw [hs]; exact O.cell) (fun x hx => by rw [hs]; exact O.loc _ (List.of_mem_zip hx).1) (fun h₁ hn hk => ?_) (by rw [hs]; exact O.co) (by rw [hs]; exact O.gen) (by rw [hs]; exact O.kind)
  have S₁ : X.S θ as { s with heap := h₁, toks := s.toks + (d.names.zip us).length } := S.keeps hk
  refine h (A.deeper _) θ _ s.heap.objs.size _ _ _ ⟨?_, ?_, R.2.2⟩ ⟨hs, O.kind, rfl, fun m => Nat.lt_irrefl _ (S.lt m), S.fresh, S.freshH, ⟨_, hn, fun x av e => ((LRs.zip V d.names).rev).look x av e⟩, fun x i e => (by cases e), hg, hbl, hcd, hql⟩ S₁ fun fl loc' as' θ' s' g q S' X' F' G => ?_
  · have := R.1; show A.depth + 1 + dp < _; lia
  · have := R.2.1; show A.units + 3 + 4 * dp + 40 < _; lia
  · have X'' : Ext X.H θ s.heap θ' s'.heap := ⟨X'.pre, fun a m n => ⟨(by
        cases r : s.heap.get? a with
        | none => rfl
        | some o => have := (X'.fresh a m n).1; rw [hk a o r] at this; cases this), (X'.fresh a m n).2⟩,
      fun b o e n nh => X'.keep b o (hk b o e) n nh fun q => (by rw [q] at e; rw [size_none] at e; cases e), fun b o e => X'.ex b o (hk b o e), tab_trans (fun b o e => ⟨o, hk b o e⟩) (S.tabKeep hk) X'.tab⟩
    cases fl with
    | next => cases G; exact c _ _ θ' s' _ q S' X'' rfl
    | brk => exact q.elim
    | cont => exact q.elim
    | ret v => obtain ⟨u, rfl, hu⟩ := G; exact c _ _ θ' s' _ q S' X'' hu
theorem looks_fn {M : Model} {h : Heap} {fa : Addr} {o : Obj} {fd : FuncData} (ho : h.get? fa = some o) (hd : o.data = .func fd) : Looks M h (keeperOf (.ref fa)) .frame := by
  refine (Looks.ld (part := none) ho).andThen ?_
  rw [hd]; exact .now
theorem looks_bound {M : Model} {h : Heap} {q fa : Addr} {self : Value} {o : Obj} {fd : FuncData} (hq : h.get? q = some (methodObj (.ref fa) self)) (ho : h.get? fa = some o) (hd : o.data = .func fd) : Looks M h (keeperOf (.ref q)) .boundFrame := by
  refine (Looks.ld (part := none) hq).andThen ?_
  refine (Looks.ld (part := none) ho).andThen ?_
  rw [hd]; exact .now
noncomputable def FnAt (h₀ : Heap) (fa : Addr) : Prop := ∃ o fd, h₀.get? fa = some o ∧ o.data = .func fd
theorem FnOK.at {h₀ : Heap} {fa : Addr} {d : FD} (O : FnOK h₀ fa d) : FnAt h₀ fa := let ⟨o, fd, a, b, _⟩ := O.ex; ⟨o, fd, a, b⟩
theorem call_fn {fa : Addr} {args : List Expr} {first : List AV} {fv : List Value} {pos : Pos} {Q : PV} (hs : noStar args = true)
    {A : Around} {θ : List Addr} {s : Shared} {L : Addr} {env : Env} {post : Value → Shared → Prop} {E : Value → Shared → Prop} (R : Room A dp) (F : FrR X f L env θ s.heap) (S : X.S θ as s) (V : VRs θ first fv)
    (h : EvsS X dp f args as fun vs as₂ => FnAt X.h₀ fa ∧ ClS X dp (.ref fa) (first ++ vs) as₂ Q)
    (c : ∀ av as' θ' s' v, Q av as' → X.S θ' as' s' → Ext X.H θ s.heap θ' s'.heap → VR θ' av v → post v s') : wpAny X.M A (callWith pos (.ref fa) fv (backTo pos (starEach args env)) []) post E s := by
  rw [back_eq pos env args hs]
  refine callWith_of (P := fun h => FnAt h fa) (by rw [plain_any _ (fun _ => rfl)]; rfl) (fun h ⟨o, fd, hh, hd⟩ => ⟨_, .inl rfl, looks_fn hh hd⟩) (args_ok ?_)
  refine h A θ s L env _ E R F S fun vs as₂ θ₂ s₂ us q S₂ X₂ V₂ => ⟨let ⟨o, fd, ho, hd⟩ := q.1; ⟨o, fd, S₂.base _ _ ho, hd⟩, ?_⟩
  refine wpAny_call (q.2 A θ₂ s₂ (fv ++ us) post E R S₂ ?_ fun av as' θ' s' v q' S' X' V' => c av as' θ' s' v q' S' (X₂.trans X') V')
  have V := V.mono X₂.pre
  exact V.app V₂
theorem few_ok {args : List Expr} {env : Env} {pos : Pos} (hs : noStar args = true) (hl : args.length < 20) : methodCallForm (args.length + ([] : List Keyword).length) (backTo pos (starEach args env)) (backToKw pos (keywordEach [] env)) = true := by
  unfold methodCallForm
  rw [back_eq pos env args hs]
  have : (args.map fun e => ((false, eval e env) : Bool × Sem Value)).all (!·.1) = true := by
    rw [List.all_eq_true]; intro y hy; obtain ⟨e, _, rfl⟩ := List.mem_map.mp hy; rfl
  rw [this]
  exact decide_eq_true (Nat.lt_of_lt_of_le hl (by decide))
theorem ev_callM {x name : Str} {p apos pos : Pos} {args : List Expr} {Q : PV} (O : ClsOK D K X.h₀) (hs : noStar args = true) (hl : args.length < 20) (hp : (apos.endLine == pos.line) = true)
    (h : EvS X dp f (.Name x p) as fun o as₁ => ∃ i fa, o = .obj i ∧ methA D i name as₁ = some fa ∧ EvsS X dp f args as₁ fun vs as₂ => FnAt X.h₀ fa ∧ ClS X dp (.ref fa) (.obj i :: vs) as₂ Q) :
    EvS X dp f (.Call (.Attribute (.Name x p) name apos) args [] pos) as Q := by
  intro A θ s L env post E R F S c
  rw [arm_eval_Call]
  refine wpAny_bind (m := attributeBase (.Name x p) name env (eval (.Name x p) env)) ?_
  show wpAny X.M A (eval (.Name x p) env) _ E s
  refine h A θ s L env _ E R F S fun o as₁ θ₁ s₁ ov q S₁ X₁ V₁ => ?_
  obtain ⟨i, fa, rfl, hm, q⟩ := q
  obtain ⟨a, ha, rfl⟩ := V₁
  refine wpAny_bind (wpAny_standAt ?_)
  unfold methodCall
  rw [few_ok hs hl]
  refine wpAny_bind (wpAny_holding ?_)
  show wpAny X.M A (getMethod (.ref a) name _) _ E s₁
  refine meth_ok O S₁ hm ha ?_
  refine wpAny_bind ?_
  unfold methodCallPos
  rw [hp]
  refine wpAny_pure ?_
  exact call_fn hs R (F.ext X₁) S₁ (first := [.obj i]) (.cons (show VR _ (.obj i) _ from ⟨a, ha, rfl⟩) .nil) q fun av as' θ' s' v q' S' X' V' => c av as' θ' s' v q' S' (X₁.trans X') V'
theorem St.meth {T : Hid} {h₀ : Heap} {g₀ : Array GenState} {os₀ : OsState} {θ : List Addr} {s : Shared} (S : St T h₀ g₀ os₀ θ as s) {m : Nat} {q fa : Addr} {i : Nat} (hi : as[m]? = some (.meth fa i)) (ha : θ[m]? = some q) : ∃ a, θ[i]? = some a ∧ s.heap.get? q = some (methodObj (.ref fa) (.ref a)) := by
  refine El_eaea (S.ar.objs m _ q hi ha) fun ob h1 a h2 hr4 => ?_; obtain rfl := hr4
  exact ⟨a, h2, h1⟩
theorem ev_callB {x : Str} {p pos : Pos} {Q : PV}
    (h : EvS X dp f (.Name x p) as fun o as₁ => ∃ m fa i, o = .obj m ∧ as₁[m]? = some (.meth fa i) ∧ FnAt X.h₀ fa ∧ ClS X dp (.ref fa) [.obj i] as₁ Q) : EvS X dp f (.Call (.Name x p) [] [] pos) as Q := by
  intro A θ s L env post E R F S c
  refine wpAny_Call_Name_kw (h A θ s L env _ E R F S fun o as₁ θ₁ s₁ ov q S₁ X₁ V₁ => ?_)
  obtain ⟨m, fa, i, rfl, hm, ⟨o, fd, ho, hd⟩, q⟩ := q
  obtain ⟨a, ha, rfl⟩ := V₁
  obtain ⟨b, hb, hq⟩ := S₁.meth hm ha
  refine callWith_of (P := fun h => h.get? a = some (methodObj (.ref fa) (.ref b)) ∧ h.get? fa = some o) rfl (fun h hh => ⟨_, .inr (.inr rfl), looks_bound hh.1 hh.2 hd⟩) (evalArgs_nil3 ⟨⟨hq, S₁.base _ _ ho⟩, ?_⟩)
  exact wpAny_call (method_call hq (q A θ₁ s₁ [.ref b] post E R S₁ (.cons ⟨b, hb, rfl⟩ .nil) fun av as' θ' s' v q' S' X' V' => c av as' θ' s' v q' S' (X₁.trans X') V'))
theorem ev_callS {v i : Expr} {p pos : Pos} {args : List Expr} {Q : PV} (hs : noStar args = true)
    (h : EvS X dp f (.Subscript v i p) as fun o as₁ => ∃ fa, o = .addr fa ∧ EvsS X dp f args as₁ fun vs as₂ => FnAt X.h₀ fa ∧ ClS X dp (.ref fa) vs as₂ Q) : EvS X dp f (.Call (.Subscript v i p) args [] pos) as Q := by
  intro A θ s L env post E R F S c
  show wpAny X.M A (eval (.Subscript v i p) env >>= fun fv => callWith pos fv [] (backTo pos (starEach args env)) []) post E s
  refine wpAny_bind (h A θ s L env _ E R F S fun o as₁ θ₁ s₁ ov q S₁ X₁ V₁ => ?_)
  obtain ⟨fa, rfl, q⟩ := q
  cases V₁
  exact call_fn hs R (F.ext X₁) S₁ .nil q fun av as' θ' s' v q' S' X' V' => c av as' θ' s' v q' S' (X₁.trans X') V'
theorem ts_cmp {l r : Expr} {op : CmpOp} {pos : Pos} {Q : PB} (hm : behindInMarks op r = false) (h : EvS X dp f l as fun a as₁ => EvS X dp f r as₁ fun b as₂ => ∃ v, cmpA op a b = some v ∧ Q v as₂) : TsS X dp f (.Compare l [op] [r] pos) as Q := by
  intro A θ s L env post E R F S c
  refine wpAny_isTrue_Compare1 (h A θ s L env _ E R F S fun a as₁ θ₁ s₁ v q S₁ X₁ V₁ => q A θ₁ s₁ L env _ E R (F.ext X₁) S₁ fun b as₂ θ₂ s₂ u q₂ S₂ X₂ V₂ => ?_) hm
  obtain ⟨y, e, q₃⟩ := q₂
  exact cmp_av e (V₁.mono X₂.pre) V₂ (wpAny_truthy_bool (c _ _ θ₂ s₂ q₃ S₂ (X₁.trans X₂)))
noncomputable def plainTest : Expr → Bool
  | .Name .. | .Attribute .. | .BinOp .. | .Call .. | .Subscript .. => true
  | _ => false
theorem ts_val {e : Expr} {Q : PB} (hp : plainTest e = true) (h : EvS X dp f e as fun a as₁ => ∃ v, truA a = some v ∧ Q v as₁) : TsS X dp f e as Q := by
  intro A θ s L env post E R F S c
  have fin : wpAny X.M A (eval e env) (fun v s₁ => wpAny X.M A (truthy v) post E s₁) E s := h A θ s L env _ E R F S fun a as₁ θ₁ s₁ v q S₁ X₁ V₁ => by
    obtain ⟨y, e, q⟩ := q
    exact tru_av e V₁ (c _ _ θ₁ s₁ q S₁ X₁)
  cases e <;> first | (cases hp; done) | exact isTrue_plain fin
end
end Mine

end
section
open PySem PySem.W PyProof.Rows
namespace Mine
section
variable {X : Cx} {dp : Nat} {f : Fm} {as : List AO} {D : Cls} {K : Frag}
theorem swaps_no {e : Expr} (h : noComp e = true) (t : Option Expr) (n : Nat) (env : Env) : swapsWith e t n env = pure false := by
  cases e <;> first | rfl | exact ff h
theorem store_ok {x : Str} {av : AV} {v : Value} {P : Loc → List AO → Prop} {A : Around} {θ : List Addr} {s : Shared} {L : Addr} {env : Env} {post : Unit → Shared → Prop} {E : Value → Shared → Prop}
    (e : storeW f x av as P) (F : FrR X f L env θ s.heap) (S : X.S θ as s) (V : VR θ av v)
    (c : ∀ loc' as' s', P loc' as' → X.S θ as' s' → ExtL X.H L θ s.heap θ s'.heap → FrR X { f with loc := loc' } L env θ s'.heap → post () s') : wpAny X.M A (storeName env x v) post E s := by
  obtain ⟨m, hm, r⟩ := F.ns
  have kf : env.scope.kind = .function := by rw [F.scope]; exact F.kind
  unfold storeW at e
  split at e
  · rename_i hk
    have hm' : s.heap.Ns env.locals m := F.loc ▸ hm
    refine wpAny_storeName_local (F.kindOf hk) hm' (fun h' hn hs => ?_) (by rw [kf]; rfl)
    rw [F.loc] at hn hs
    have ne : ∀ a ∈ θ, a ≠ L := fun a m q => F.nin (q ▸ m)
    have nb : ∀ b o, X.h₀.get? b = some o → b ≠ L := fun b o e q => by rw [q, F.apart] at e; cases e
    refine c _ _ _ e ⟨⟨S.ar.len, S.ar.nodup, fun i o a e1 e2 => let ⟨ob, x, y⟩ := S.ar.objs i o a e1 e2; ⟨ob, (hs.2 a (ne a (List.mem_of_getElem? e2))).trans x, y⟩⟩, fun b o e => (hs.2 b (nb b o e)).trans (S.base b o e), S.apart, S.gens, S.os, fun e he => ?_, S.hnin, S.hbase, S.pin⟩
      ⟨List.prefix_refl θ, fun _ x y => absurd x y, fun b o e _ _ n => (hs.2 b n).trans e, fun b o e => (if q : b = L then (let ⟨o', _, _, z, _⟩ := hn; ⟨o', q ▸ z⟩) else ⟨o, (hs.2 b q).trans e⟩), fun P m => .inl (hs.2 P fun q => F.nhid (q ▸ m))⟩ ⟨F.scope, F.kind, F.loc, F.nin, F.apart, F.nhid, ⟨_, hn, fun y av' q => ?_⟩, F.cells, F.glob, F.blt, F.code, F.qual⟩
    · refine (S.tabs e he).to (fun o x => (hs.2 e.P fun q => F.nhid (q ▸ List.mem_map_of_mem he)).trans x) (fun c o vs x d _ _ => (hs.2 c fun q => ?_).trans x) fun _ _ _ n => n
      obtain ⟨oL, es, ep, hoL, hdL, _⟩ := hm
      rw [q, hoL] at x; cases x; rw [hdL] at d; cases d
    rw [show lk (pt f.loc x av) y = _ from lk_pt x av y f.loc] at q
    by_cases hy : y = x
    · subst hy; simp at q; subst q; exact ⟨v, by simp, V⟩
    · rw [if_neg hy] at q; simp only [hy, if_false]; exact r y av' q
  · split at e
    · rename_i i hk hc
      split at e
      · rename_i u hi
        obtain ⟨a, ha, hl⟩ := F.cells x i hc
        obtain ⟨u', hu, _⟩ := S.cell hi ha
        refine wpAny_storeName_cell kf (F.kindOf hk) hl hu fun h' hc' hs => ?_
        obtain ⟨ob, g1, g2⟩ := hc'
        have P := S.upd (o' := .cell (some av)) ha hi hs g1 ⟨_, g2, v, rfl, V⟩
        exact c _ _ _ e P.1 P.2.toL (F.ext P.2)
      · cases e
    · cases e
theorem st_pass {pos : Pos} {Q : PF} (h : Q .next f.loc as) : ExS X dp f (.Pass pos) as Q :=
  fun _ θ s L _ _ _ _ F S c => wpAny_Pass (c _ _ _ θ s _ h S (ExtL.refl L θ _) F rfl)
theorem st_expr {e : Expr} {pos : Pos} {Q : PF} (hn : noComp e = true) (h : EvS X dp f e as fun _ as₁ => Q .next f.loc as₁) : ExS X dp f (.Expr e pos) as Q := by
  intro A θ s L env post E R F S c
  have kf : env.scope.kind = .function := by rw [F.scope]; exact F.kind
  exact wpAny_Expr_any (h A θ s L env _ E R F S fun av as₁ θ₁ s₁ v q S₁ X₁ V₁ => c _ _ _ θ₁ s₁ _ q S₁ X₁.toL (F.ext X₁) rfl) (by unfold interactive; rw [kf]; rfl) (swaps_no hn _ _ _)
theorem st_ret {e : Expr} {pos : Pos} {Q : PF} (h : EvS X dp f e as fun v as₁ => Q (.ret v) f.loc as₁) : ExS X dp f (.Return (some e) pos) as Q := by
  intro A θ s L env post E R F S c
  exact wpAny_Return_some (h A θ s L env _ E R F S fun av as₁ θ₁ s₁ v q S₁ X₁ V₁ => c _ _ _ θ₁ s₁ _ q S₁ X₁.toL (F.ext X₁) ⟨v, rfl, V₁⟩)
theorem st_name {x : Str} {e : Expr} {p pos : Pos} {Q : PF} (hn : noComp e = true) (h : EvS X dp f e as fun v as₁ => storeW f x v as₁ (Q .next)) : ExS X dp f (.Assign [.Name x p] e pos) as Q := by
  intro A θ s L env post E R F S c
  refine wpAny_Assign_Name (h A θ s L env _ E R F S fun av as₁ θ₁ s₁ v q S₁ X₁ V₁ => ?_) (swaps_no hn _ _ _)
  exact store_ok q (F.ext X₁) S₁ V₁ fun loc' as' s' q' S' X' F' => c _ _ _ θ₁ s' _ q' S' (X₁.toL.trans F.there F.nin (F.ext X₁).there X') F' rfl
theorem st_attr {o e : Expr} {a : Str} {p pos : Pos} {Q : PF} (O : ClsOK D K X.h₀) (hn : noComp e = true) (h : EvS X dp f e as fun v as₁ => EvS X dp f o as₁ fun ov as₂ => ∃ i, ov = .obj i ∧ setW D i a v as₂ fun as₃ => Q .next f.loc as₃) : ExS X dp f (.Assign [.Attribute o a p] e pos) as Q := by
  intro A θ s L env post E R F S c
  refine plainObj_wpAny_Assign_Attribute (h A θ s L env _ E R F S fun av as₁ θ₁ s₁ v q S₁ X₁ V₁ => q A θ₁ s₁ L env _ E R (F.ext X₁) S₁ fun b as₂ θ₂ s₂ u q₂ S₂ X₂ V₂ => ?_) (swaps_no hn _ _ _)
  obtain ⟨i, rfl, q⟩ := q₂
  obtain ⟨b, hb, rfl⟩ := V₂
  exact set_ok O S₂ q hb (V₁.mono X₂.pre) fun as' s' q' S' X' => c _ _ _ θ₂ s' _ q' S' ((X₁.trans X₂).trans X').toL (F.ext ((X₁.trans X₂).trans X')) rfl
theorem st_sub {o k e : Expr} {p pos : Pos} {Q : PF} (hn : noComp e = true) (h : EvS X dp f e as fun v as₁ => EvS X dp f o as₁ fun ov as₂ => EvS X dp f k as₂ fun kv as₃ => putW ov kv v as₃ fun as₄ => Q .next f.loc as₄) : ExS X dp f (.Assign [.Subscript o k p] e pos) as Q := by
  intro A θ s L env post E R F S c
  refine wpAny_Assign_Subscript (h A θ s L env _ E R F S fun av as₁ θ₁ s₁ v q S₁ X₁ V₁ => q A θ₁ s₁ L env _ E R (F.ext X₁) S₁ fun b as₂ θ₂ s₂ u q₂ S₂ X₂ V₂ => q₂ A θ₂ s₂ L env _ E R (F.ext (X₁.trans X₂)) S₂ fun b' as₃ θ₃ s₃ u' q₃ S₃ X₃ V₃ => ?_) (swaps_no hn _ _ _)
  exact put_ok S₃ q₃ (V₂.mono X₃.pre) V₃ (V₁.mono (X₂.pre.trans X₃.pre)) fun as' s' q' S' X' => c _ _ _ θ₃ s' _ q' S' (((X₁.trans X₂).trans X₃).trans X').toL (F.ext (((X₁.trans X₂).trans X₃).trans X')) rfl
noncomputable def isMod : Operator → Bool
  | .Mod => true
  | _ => false
theorem not_mod {op : Operator} (h : isMod op = false) : op ≠ .Mod := by rintro rfl; cases h
theorem st_augN {x : Str} {op : Operator} {e : Expr} {i : Int} {p pos : Pos} {Q : PF} (hop : isMod op = false) (hx : isKind .local f.sc x = true) (hv : lk f.loc x = some (.int i))
    (h : EvS X dp f e as fun b as₂ => ∃ j k, b = .int j ∧ intA op i j = some k ∧ storeW f x (.int k) as₂ (Q .next)) : ExS X dp f (.AugAssign (.Name x p) op e pos) as Q := by
  intro A θ s L env post E R F S c
  obtain ⟨m, hm, r⟩ := F.ns
  obtain ⟨v, a, t, rfl⟩ := r x _ hv
  refine wpAny_AugAssign_Name (wpAny_loadName_local (by rw [F.scope]; exact F.kind) (F.kindOf hx) (F.loc ▸ hm) a ?_)
  refine h A θ s L env _ E R F S fun b as₂ θ₂ s₂ u q₂ S₂ X₂ V₂ => ?_
  obtain ⟨j, k, rfl, e, q₃⟩ := q₂
  obtain ⟨t', rfl⟩ := V₂
  exact inp_int e (store_ok (s := { s₂ with toks := s₂.toks + 1 }) q₃ (F.ext X₂) (S₂.toks _) ⟨_, rfl⟩ fun loc' as' s' q' S' X' F' => c _ _ _ θ₂ s' _ q' S' (X₂.toL.trans F.there F.nin (F.ext X₂).there X') F' rfl) (not_mod hop)
theorem st_augA {o e : Expr} {op : Operator} {a : Str} {p pos : Pos} {Q : PF} (O : ClsOK D K X.h₀) (hop : isMod op = false)
    (h : EvS X dp f o as fun ov as₁ => ∃ n, ov = .obj n ∧ attrW D n a as₁ fun old as₂ => EvS X dp f e as₂ fun b as₃ => ∃ i j k, old = .int i ∧ b = .int j ∧ intA op i j = some k ∧ setW D n a (.int k) as₃ fun as₄ => Q .next f.loc as₄) : ExS X dp f (.AugAssign (.Attribute o a p) op e pos) as Q := by
  intro A θ s L env post E R F S c
  refine wpAny_AugAssign_AttributeAny (h A θ s L env _ E R F S fun ov as₁ θ₁ s₁ v q S₁ X₁ V₁ => ?_)
  obtain ⟨n, rfl, q⟩ := q
  obtain ⟨b, hb, rfl⟩ := V₁
  refine attr_ok O S₁ q hb fun old as₂ θ₂ s₂ u q₂ S₂ X₂ V₂ => q₂ A θ₂ s₂ L env _ E R (F.ext (X₁.trans X₂)) S₂ fun b' as₃ θ₃ s₃ u' q₃ S₃ X₃ V₃ => ?_
  obtain ⟨i, j, k, rfl, rfl, e, q₃⟩ := q₃
  obtain ⟨t, rfl⟩ := V₂
  obtain ⟨t', rfl⟩ := V₃
  have X₁₃ := (X₁.trans X₂).trans X₃
  exact inp_int e (set_ok (s := { s₃ with toks := s₃.toks + 1 }) O (S₃.toks _) q₃ (get_pre (X₂.pre.trans X₃.pre) hb) ⟨_, rfl⟩ fun as' s' q' S' X' => c _ _ _ θ₃ s' _ q' S' (X₁₃.trans X').toL (F.ext (X₁₃.trans X')) rfl) (not_mod hop)
theorem exs_nil {Q : PF} (h : Q .next f.loc as) : ExsS X dp f [] as Q := fun _ θ s L _ _ _ _ F S c => wpAny_execs_nil (c _ _ _ θ s _ h S (ExtL.refl L θ _) F rfl)
theorem exs_cons {st : Stmt} {r : List Stmt} {Q : PF} (h : ExS X dp f st as fun fl loc as₁ => match fl with | .next => ExsS X dp { f with loc := loc } r as₁ Q | fl => Q fl loc as₁) : ExsS X dp f (st :: r) as Q := by
  intro A θ s L env post E R F S c
  refine wpAny_execs_cons (h A θ s L env _ E R F S fun fl loc as₁ θ₁ s₁ g q S₁ X₁ F₁ G₁ => ?_)
  cases fl with
  | next =>
    cases G₁
    exact q A θ₁ s₁ L env _ E R F₁ S₁ fun fl loc as₂ θ₂ s₂ g q₂ S₂ X₂ F₂ G₂ => c _ _ _ θ₂ s₂ _ q₂ S₂ (X₁.trans F.there F.nin F₁.there X₂) F₂ G₂
  | brk => cases G₁; exact c _ _ _ θ₁ s₁ _ q S₁ X₁ F₁ rfl
  | cont => cases G₁; exact c _ _ _ θ₁ s₁ _ q S₁ X₁ F₁ rfl
  | ret v => obtain ⟨u, rfl, hu⟩ := G₁; exact c _ _ _ θ₁ s₁ _ q S₁ X₁ F₁ ⟨u, rfl, hu⟩
noncomputable def ifB (b : Bool) (P Q : Prop) : Prop := match b with
  | true => P
  | false => Q
theorem st_if {t : Expr} {b o : List Stmt} {pos : Pos} {Q : PF} (h : TsS X dp f t as fun c as₁ => ifB c (ExsS X dp f b as₁ Q) (ExsS X dp f o as₁ Q)) : ExS X dp f (.If t b o pos) as Q := by
  intro A θ s L env post E R F S c
  refine wpAny_If (h A θ s L env _ E R F S fun bb as₁ θ₁ s₁ q S₁ X₁ => ?_)
  have fin : ∀ fl loc' as' θ' s' g, Q fl loc' as' → X.S θ' as' s' → ExtL X.H L θ₁ s₁.heap θ' s'.heap → FrR X { f with loc := loc' } L env θ' s'.heap → FlR θ' fl g → post g s' :=
    fun fl loc' as' θ' s' g q S' X' F' G' => c _ _ _ θ' s' _ q S' (X₁.toL.trans F.there F.nin (F.ext X₁).there X') F' G'
  cases bb with
  | true => exact q A θ₁ s₁ L env _ E R (F.ext X₁) S₁ fin
  | false => exact q A θ₁ s₁ L env _ E R (F.ext X₁) S₁ fin
end
end Mine

end
section
open PySem PySem.W PyProof.Rows
set_option backward.match.sparseCases false
namespace Mine
noncomputable def binW : Operator → Int → Int → (Int → Prop) → Prop
  | .Add, a, b, K => K (a + b)
  | .Sub, a, b, K => K (a - b)
  | .BitAnd, a, b, K => K (Builtin.bitAnd a b)
  | .BitOr, a, b, K => K (Builtin.bitOr a b)
  | .BitXor, a, b, K => K (Builtin.bitXor a b)
  | .LShift, a, b, K => (0 ≤ b ∧ b ≤ 1000000 ∧ a.natAbs < 2 ^ 64) ∧ K (a * 2 ^ b.toNat)
  | .RShift, a, b, K => 0 ≤ b ∧ K (a.fdiv (2 ^ b.toNat))
  | .FloorDiv, a, b, K => (b ≠ 0 ∧ Builtin.divisionGoesByPylong a b = false) ∧ K (a.fdiv b)
  | .Mod, a, b, K => b ≠ 0 ∧ K (a.fmod b)
  | .Mult, a, b, K => (Builtin.Int.intBits a ≤ 64 ∨ Builtin.Int.intBits b ≤ 64) ∧ K (a * b)
  | _, _, _, _ => False
theorem binW_ok {op : Operator} {a b : Int} {K : Int → Prop} (h : binW op a b K) : ∃ k, intA op a b = some k ∧ K k := by
  cases op with
  | Add => exact ⟨_, rfl, h⟩
  | Sub => exact ⟨_, rfl, h⟩
  | BitAnd => exact ⟨_, rfl, h⟩
  | BitOr => exact ⟨_, rfl, h⟩
  | BitXor => exact ⟨_, rfl, h⟩
  | LShift => exact ⟨_, if_pos h.1, h.2⟩
  | RShift => exact ⟨_, if_pos h.1, h.2⟩
  | FloorDiv => exact ⟨_, if_pos h.1, h.2⟩
  | Mod => exact ⟨_, if_pos h.1, h.2⟩
  | Mult => exact ⟨_, if_pos h.1, h.2⟩
  | _ => exact h.elim
noncomputable abbrev Prim := List AV → List AO → PV → Prop
noncomputable abbrev Prims := Addr → Option (Nat × Prim)
noncomputable def nameW (f : Fm) (x : Str) (as : List AO) (Q : PV) : Prop := match isKind .local f.sc x with
  | true => (match lk f.loc x with | some v => Q v as | none => False)
  | false => match isKind .cell f.sc x || isKind .free f.sc x, seq x "__classdict__", lk f.cells x with
    | true, false, some i => (match as[i]? with | some (.cell (some v)) => Q v as | _ => False)
    | _, _, _ => False
structure RecW where
  ev : Nat → Fm → Expr → List AO → PV → Prop
  evs : Nat → Fm → List Expr → List AO → PVs → Prop
  ts : Nat → Fm → Expr → List AO → PB → Prop
  ex : Nat → Fm → Stmt → List AO → PF → Prop
  exs : Nat → Fm → List Stmt → List AO → PF → Prop
  cl : Nat → Addr → List AV → List AO → PV → Prop
noncomputable def constW (c : Const) (as : List AO) (Q : PV) : Prop := match c with
  | .int i => Q (.int i) as
  | .none => Q .none as
  | .bool b => Q (.bool b) as
  | .str b => Q (.str b) as
  | _ => False
noncomputable def cmpOf : Expr → Option (Expr × CmpOp × Expr × Pos)
  | .Compare l [op] [r] p => some (l, op, r, p)
  | _ => none
noncomputable def jAttr (D : Cls) (f : Fm) (o : Expr) (a : Str) (as : List AO) (Q : PV) : Prop := match o with
  | .Name x _ => nameW f x as fun o as₁ => (match o with | .obj i => attrW D i a as₁ Q | _ => False)
  | _ => False
noncomputable def jBin (R : RecW) (dp : Nat) (f : Fm) (l : Expr) (op : Operator) (r : Expr) (as : List AO) (Q : PV) : Prop :=
  R.ev dp f l as fun a as₁ => R.ev dp f r as₁ fun b as₂ => (match a, b with | .int i, .int j => binW op i j fun k => Q (.int k) as₂ | _, _ => False)
noncomputable def jInv (R : RecW) (dp : Nat) (f : Fm) (op : UnaryOp) (x : Expr) (as : List AO) (Q : PV) : Prop := match op with
  | .Invert => R.ev dp f x as fun a as₁ => (match a with | .int i => Q (.int (Builtin.bitNot i)) as₁ | _ => False)
  | _ => False
noncomputable def jSub (D : Cls) (R : RecW) (dp : Nat) (f : Fm) (v i : Expr) (as : List AO) (Q : PV) : Prop := match noSlice i with
  | true => R.ev dp f v as fun o as₁ => R.ev dp f i as₁ fun k as₂ => itemW D o k as₂ fun r => Q r as₂
  | false => False
noncomputable def jMeth (D : Cls) (R : RecW) (dp : Nat) (f : Fm) (o : Expr) (name : Str) (apos : Pos) (args : List Expr) (pos : Pos) (as : List AO) (Q : PV) : Prop := match o with
  | .Name x _ => (match noStar args && Nat.blt args.length 20 && Nat.beq apos.endLine pos.line with
    | true => nameW f x as fun o as₁ => (match o with
      | .obj i => (match methA D i name as₁ with
        | some fa => R.evs dp f args as₁ fun vs as₂ => R.cl dp fa (.obj i :: vs) as₂ Q
        | none => False)
      | _ => False)
    | false => False)
  | _ => False
noncomputable def jObj (R : RecW) (dp : Nat) (f : Fm) (x : Str) (args : List Expr) (as : List AO) (Q : PV) : Prop := match args with
  | [] => nameW f x as fun o as₁ => (match o with
    | .obj m => (match as₁[m]? with | some (.meth fa i) => R.cl dp fa [.obj i] as₁ Q | _ => False)
    | _ => False)
  | _ => False
noncomputable def jTab (R : RecW) (dp : Nat) (f : Fm) (v i : Expr) (p : Pos) (args : List Expr) (as : List AO) (Q : PV) : Prop := match noStar args with
  | true => R.ev dp f (.Subscript v i p) as fun o as₁ => (match o with
    | .addr fa => R.evs dp f args as₁ fun vs as₂ => R.cl dp fa vs as₂ Q
    | _ => False)
  | false => False
noncomputable def jCall (D : Cls) (R : RecW) (dp : Nat) (f : Fm) (fn : Expr) (args : List Expr) (kws : List Keyword) (pos : Pos) (as : List AO) (Q : PV) : Prop := match kws with
  | [] => (match fn with
    | .Attribute o name apos => jMeth D R dp f o name apos args pos as Q
    | .Name x _ => jObj R dp f x args as Q
    | .Subscript v i p => jTab R dp f v i p args as Q
    | _ => False)
  | _ => False
noncomputable def evF (D : Cls) (P : Prims) (R : RecW) (dp : Nat) (f : Fm) (e : Expr) (as : List AO) (Q : PV) : Prop := match e with
  | .Constant c _ _ => constW c as Q
  | .Name x _ => nameW f x as Q
  | .Attribute o a _ => jAttr D f o a as Q
  | .BinOp l op r _ => jBin R dp f l op r as Q
  | .UnaryOp op x _ => jInv R dp f op x as Q
  | .Subscript v i _ => jSub D R dp f v i as Q
  | .Call fn args kws pos => jCall D R dp f fn args kws pos as Q
  | _ => False
noncomputable def evsF (R : RecW) (dp : Nat) (f : Fm) (es : List Expr) (as : List AO) (Q : PVs) : Prop := match es with
    | [] => Q [] as
    | e :: r => R.ev dp f e as fun a as₁ => R.evs dp f r as₁ fun l as₂ => Q (a :: l) as₂
noncomputable def jCmp (R : RecW) (dp : Nat) (f : Fm) (l : Expr) (op : CmpOp) (r : Expr) (as : List AO) (Q : PB) : Prop := match behindInMarks op r with
  | false => R.ev dp f l as fun a as₁ => R.ev dp f r as₁ fun b as₂ => (match cmpA op a b with | some v => Q v as₂ | none => False)
  | true => False
noncomputable def jPlain (R : RecW) (dp : Nat) (f : Fm) (e : Expr) (as : List AO) (Q : PB) : Prop := match plainTest e with
  | true => R.ev dp f e as fun a as₁ => (match truA a with | some v => Q v as₁ | none => False)
  | false => False
noncomputable def tsF (R : RecW) (dp : Nat) (f : Fm) (e : Expr) (as : List AO) (Q : PB) : Prop := match cmpOf e with
  | some (l, op, r, _) => jCmp R dp f l op r as Q
  | none => jPlain R dp f e as Q
noncomputable def jE (R : RecW) (dp : Nat) (f : Fm) (e : Expr) (as : List AO) (K : PV) : Prop := match noComp e with
  | true => R.ev dp f e as K
  | false => False
noncomputable def jAsgn (D : Cls) (R : RecW) (dp : Nat) (f : Fm) (t e : Expr) (as : List AO) (Q : PF) : Prop := match t with
  | .Name x _ => jE R dp f e as fun v as₁ => storeW f x v as₁ (Q .next)
  | .Attribute o a _ => jE R dp f e as fun v as₁ => R.ev dp f o as₁ fun ov as₂ => (match ov with | .obj i => setW D i a v as₂ fun as₃ => Q .next f.loc as₃ | _ => False)
  | .Subscript o k _ => jE R dp f e as fun v as₁ => R.ev dp f o as₁ fun ov as₂ => R.ev dp f k as₂ fun kv as₃ => putW ov kv v as₃ fun as₄ => Q .next f.loc as₄
  | _ => False
noncomputable def jAugN (R : RecW) (dp : Nat) (f : Fm) (x : Str) (op : Operator) (e : Expr) (as : List AO) (Q : PF) : Prop := match isKind .local f.sc x, isMod op, lk f.loc x with
  | true, false, some (.int i) => R.ev dp f e as fun b as₁ => (match b with | .int j => binW op i j fun k => storeW f x (.int k) as₁ (Q .next) | _ => False)
  | _, _, _ => False
noncomputable def jAugA (D : Cls) (R : RecW) (dp : Nat) (f : Fm) (o : Expr) (a : Str) (op : Operator) (e : Expr) (as : List AO) (Q : PF) : Prop := match isMod op with
  | false => R.ev dp f o as fun ov as₁ => (match ov with
    | .obj i => attrW D i a as₁ fun old as₂ => R.ev dp f e as₂ fun b as₃ => (match old, b with
      | .int x, .int y => binW op x y fun k => setW D i a (.int k) as₃ fun as₄ => Q .next f.loc as₄
      | _, _ => False)
    | _ => False)
  | true => False
noncomputable def jAug (D : Cls) (R : RecW) (dp : Nat) (f : Fm) (t : Expr) (op : Operator) (e : Expr) (as : List AO) (Q : PF) : Prop := match t with
  | .Name x _ => jAugN R dp f x op e as Q
  | .Attribute o a _ => jAugA D R dp f o a op e as Q
  | _ => False
noncomputable def exF (D : Cls) (R : RecW) (dp : Nat) (f : Fm) (st : Stmt) (as : List AO) (Q : PF) : Prop := match st with
  | .Pass _ => Q .next f.loc as
  | .Expr e _ => jE R dp f e as fun _ as₁ => Q .next f.loc as₁
  | .Return v _ => (match v with | some e => R.ev dp f e as fun v as₁ => Q (.ret v) f.loc as₁ | none => False)
  | .Assign ts e _ => (match ts with | [t] => jAsgn D R dp f t e as Q | _ => False)
  | .AugAssign t op e _ => jAug D R dp f t op e as Q
  | .If t b o _ => R.ts dp f t as fun c as₁ => ifB c (R.exs dp f b as₁ Q) (R.exs dp f o as₁ Q)
  | _ => False
set_option backward.match.sparseCases true
noncomputable def exsF (R : RecW) (dp : Nat) (f : Fm) (ss : List Stmt) (as : List AO) (Q : PF) : Prop := match ss with
    | [] => Q .next f.loc as
    | st :: r => R.ex dp f st as fun fl loc as₁ => (match fl with | .next => R.exs dp { f with loc := loc } r as₁ Q | fl => Q fl loc as₁)
noncomputable def clF (D : Cls) (P : Prims) (R : RecW) (dp : Nat) (fa : Addr) (vs : List AV) (as : List AO) (Q : PV) : Prop := match P fa with
    | some (t, g) => (match Nat.ble t dp with | true => g vs as Q | false => False)
    | none => match dp with
      | 0 => False
      | dp + 1 => match D.fn fa with
        | some d => (match Nat.beq vs.length d.names.length with
          | true => R.exs dp ⟨d.scope, (d.names.zip vs).reverse, [], d.code, d.qual⟩ d.body as fun fl _ as' => (match fl with | .ret v => Q v as' | .next => Q .none as' | _ => False)
          | false => False)
        | none => False
set_option backward.match.sparseCases false
noncomputable def recW (D : Cls) (P : Prims) : Nat → RecW
  | 0 => ⟨fun _ _ _ _ _ => False, fun _ _ _ _ _ => False, fun _ _ _ _ _ => False, fun _ _ _ _ _ => False, fun _ _ _ _ _ => False, fun _ _ _ _ _ => False⟩
  | n + 1 => ⟨evF D P (recW D P n), evsF (recW D P n), tsF (recW D P n), exF D (recW D P n), exsF (recW D P n), clF D P (recW D P n)⟩
noncomputable abbrev evW (D : Cls) (P : Prims) (n : Nat) := (recW D P n).ev
noncomputable abbrev evsW (D : Cls) (P : Prims) (n : Nat) := (recW D P n).evs
noncomputable abbrev tsW (D : Cls) (P : Prims) (n : Nat) := (recW D P n).ts
noncomputable abbrev exW (D : Cls) (P : Prims) (n : Nat) := (recW D P n).ex
noncomputable abbrev exsW (D : Cls) (P : Prims) (n : Nat) := (recW D P n).exs
noncomputable abbrev clW (D : Cls) (P : Prims) (n : Nat) := (recW D P n).cl
end Mine

end
section
open PySem PySem.W PyProof.Rows
set_option backward.match.sparseCases false
namespace Mine
structure ClassOK (X : Cx) (D : Cls) (P : Prims) : Prop where
  cls : ∃ K, ClsOK D K X.h₀
  fns : ∀ fa d, D.fn fa = some d → FnOK X.h₀ fa d
  prims : ∀ fa t g, P fa = some (t, g) → FnAt X.h₀ fa ∧ ∀ dp vs as Q, t ≤ dp → g vs as Q → ClS X dp (.ref fa) vs as Q
section
variable {X : Cx} {D : Cls} {P : Prims}
theorem nameW_ok {dp : Nat} {f : Fm} {as : List AO} {x : Str} {p : Pos} {Q : PV} (h : nameW f x as Q) : EvS X dp f (.Name x p) as Q := by
  unfold nameW at h
  split at h
  · rename_i hk
    split at h
    · rename_i v hv; exact ev_local hk hv h
    · cases h
  · split at h
    · rename_i i hk hn hc
      split at h
      · rename_i v hv; exact ev_cell hk hn hc hv h
      · cases h
    · cases h
theorem attrW_mono {D : Cls} {i : Nat} {a : Str} {as : List AO} {Q Q' : PV} (h : attrW D i a as Q) (k : ∀ a b, Q a b → Q' a b) : attrW D i a as Q' := by
  unfold attrW at h ⊢
  rcases onInst_c D i as with ⟨d, es, _, _, q⟩ | q
  · rw [q] at h ⊢
    cases l : lk es a with
    | some v => rw [l] at h; cases c : D.attr a with
      | inst =>
        rw [c] at h
        revert h
        show (match handed v with | true => Q v as | false => False) → (match handed v with | true => Q' v as | false => False)
        cases handed v with
        | true => exact k _ _
        | false => exact id
      | _ => rw [c] at h; exact h
    | none => rw [l] at h; cases c : D.attr a <;> rw [c] at h <;> first | exact h | exact k _ _ h
  · rw [q] at h; exact h.elim
structure Spec (X : Cx) (D : Cls) (P : Prims) (n : Nat) : Prop where
  ev : ∀ dp f e as Q, evW D P n dp f e as Q → EvS X dp f e as Q
  evs : ∀ dp f es as Q, evsW D P n dp f es as Q → EvsS X dp f es as Q
  ts : ∀ dp f e as Q, tsW D P n dp f e as Q → TsS X dp f e as Q
  ex : ∀ dp f st as Q, exW D P n dp f st as Q → ExS X dp f st as Q
  exs : ∀ dp f ss as Q, exsW D P n dp f ss as Q → ExsS X dp f ss as Q
  cl : ∀ dp fa vs as Q, clW D P n dp fa vs as Q → FnAt X.h₀ fa ∧ ClS X dp (.ref fa) vs as Q
structure SpecW (X : Cx) (R : RecW) : Prop where
  ev : ∀ dp f e as Q, R.ev dp f e as Q → EvS X dp f e as Q
  evs : ∀ dp f es as Q, R.evs dp f es as Q → EvsS X dp f es as Q
  ts : ∀ dp f e as Q, R.ts dp f e as Q → TsS X dp f e as Q
  ex : ∀ dp f st as Q, R.ex dp f st as Q → ExS X dp f st as Q
  exs : ∀ dp f ss as Q, R.exs dp f ss as Q → ExsS X dp f ss as Q
  cl : ∀ dp fa vs as Q, R.cl dp fa vs as Q → FnAt X.h₀ fa ∧ ClS X dp (.ref fa) vs as Q
theorem cmpOf_ok {e l r : Expr} {op : CmpOp} {p : Pos} (h : cmpOf e = some (l, op, r, p)) : e = .Compare l [op] [r] p := by
  cases e with
  | Compare a ops rs q => cases ops with
    | nil => exact nosome h
    | cons o ops => cases ops with
      | cons _ _ => exact nosome h
      | nil => cases rs with
        | nil => exact nosome h
        | cons r rs => cases rs with
          | cons _ _ => exact nosome h
          | nil => cases h; rfl
  | _ => exact nosome h
section
variable {R : RecW} {K : Frag} {dp : Nat} {f : Fm} {as : List AO} {Q : PV}
theorem constW_ok {c : Const} {k : Nat} {p : Pos} (h : constW c as Q) : EvS X dp f (.Constant c k p) as Q := by
  cases c with
  | int i => exact ev_int h
  | none => exact ev_none h
  | bool b => exact ev_bool h
  | str b => exact ev_str h
  | _ => exact False.elim h
theorem jAttr_ok (OK : ClsOK D K X.h₀) {o : Expr} {a : Str} {p : Pos} (h : jAttr D f o a as Q) : EvS X dp f (.Attribute o a p) as Q := by
  cases o with
  | Name x p' =>
    unfold jAttr at h
    dsimp only at h
    refine ev_attr OK ((nameW_ok h).mono fun o as₁ q => ?_)
    split at q
    · exact ⟨_, rfl, q⟩
    · cases q
  | _ => exact False.elim h
theorem jBin_ok (ih : SpecW X R) {l r : Expr} {op : Operator} {p : Pos} (h : jBin R dp f l op r as Q) : EvS X dp f (.BinOp l op r p) as Q := by
  refine ev_bin ((ih.ev _ _ _ _ _ h).mono fun a as₁ q => (ih.ev _ _ _ _ _ q).mono fun b as₂ q => ?_)
  split at q
  · obtain ⟨k, e, q⟩ := binW_ok q; exact ⟨_, _, k, rfl, rfl, e, q⟩
  · cases q
theorem jInv_ok (ih : SpecW X R) {op : UnaryOp} {x : Expr} {p : Pos} (h : jInv R dp f op x as Q) : EvS X dp f (.UnaryOp op x p) as Q := by
  cases op with
  | Invert =>
    refine ev_inv ((ih.ev _ _ _ _ _ h).mono fun a as₁ q => ?_)
    split at q
    · exact ⟨_, rfl, q⟩
    · cases q
  | _ => exact False.elim h
theorem jSub_ok (OK : ClsOK D K X.h₀) (ih : SpecW X R) {v i : Expr} {p : Pos} (h : jSub D R dp f v i as Q) : EvS X dp f (.Subscript v i p) as Q := by
  unfold jSub at h
  split at h
  · rename_i hn; exact ev_sub OK hn ((ih.ev _ _ _ _ _ h).mono fun a as₁ q => ih.ev _ _ _ _ _ q)
  · cases h
theorem jMeth_ok (OK : ClsOK D K X.h₀) (ih : SpecW X R) {o : Expr} {name : Str} {apos pos : Pos} {args : List Expr} (h : jMeth D R dp f o name apos args pos as Q) : EvS X dp f (.Call (.Attribute o name apos) args [] pos) as Q := by
  cases o with
  | Name x p =>
    change (match noStar args && Nat.blt args.length 20 && Nat.beq apos.endLine pos.line with | true => _ | false => _) at h
    split at h
    · rename_i hc
      simp only [Bool.and_eq_true] at hc
      obtain ⟨⟨h1, h2⟩, h3⟩ := hc
      refine ev_callM OK h1 (by simpa using h2) (by simpa using h3) ((nameW_ok h).mono fun o as₁ q => ?_)
      split at q
      · split at q
        · rename_i fa hm; exact ⟨_, fa, rfl, hm, (ih.evs _ _ _ _ _ q).mono fun vs as₂ q => ih.cl _ _ _ _ _ q⟩
        · cases q
      · cases q
    · cases h
  | _ => exact False.elim h
theorem jObj_ok (ih : SpecW X R) {x : Str} {p pos : Pos} {args : List Expr} (h : jObj R dp f x args as Q) : EvS X dp f (.Call (.Name x p) args [] pos) as Q := by
  cases args with
  | nil =>
    unfold jObj at h
    dsimp only at h
    refine ev_callB ((nameW_ok h).mono fun o as₁ q => ?_)
    split at q
    · split at q
      · rename_i fa i hm; exact ⟨_, fa, i, rfl, hm, ih.cl _ _ _ _ _ q⟩
      · cases q
    · cases q
  | cons _ _ => exact False.elim h
theorem jTab_ok (ih : SpecW X R) {v i : Expr} {p pos : Pos} {args : List Expr} (h : jTab R dp f v i p args as Q) : EvS X dp f (.Call (.Subscript v i p) args [] pos) as Q := by
  unfold jTab at h
  split at h
  · rename_i hs
    refine ev_callS hs ((ih.ev _ _ _ _ _ h).mono fun o as₁ q => ?_)
    split at q
    · exact ⟨_, rfl, (ih.evs _ _ _ _ _ q).mono fun vs as₂ q => ih.cl _ _ _ _ _ q⟩
    · cases q
  · cases h
theorem jCall_ok (OK : ClsOK D K X.h₀) (ih : SpecW X R) {fn : Expr} {args : List Expr} {kws : List Keyword} {pos : Pos} (h : jCall D R dp f fn args kws pos as Q) : EvS X dp f (.Call fn args kws pos) as Q := by
  cases kws with
  | cons _ _ => exact False.elim h
  | nil => cases fn with
    | Attribute o name apos => exact jMeth_ok OK ih h
    | Name x p => exact jObj_ok ih h
    | Subscript v i p => exact jTab_ok ih h
    | _ => exact False.elim h
theorem evF_ok (OK : ClsOK D K X.h₀) (ih : SpecW X R) {e : Expr} (h : evF D P R dp f e as Q) : EvS X dp f e as Q := by
  cases e with
  | Constant c k p => exact constW_ok h
  | Name x p => exact nameW_ok h
  | Attribute o a p => exact jAttr_ok OK h
  | BinOp l op r p => exact jBin_ok ih h
  | UnaryOp op x p => exact jInv_ok ih h
  | Subscript v i p => exact jSub_ok OK ih h
  | Call fn args kws pos => exact jCall_ok OK ih h
  | _ => exact False.elim h
end
section
variable {R : RecW} {K : Frag} {dp : Nat} {f : Fm} {as : List AO} {Q : PF}
theorem jCmp_ok (ih : SpecW X R) {l r : Expr} {op : CmpOp} {p : Pos} {Q : PB} (h : jCmp R dp f l op r as Q) : TsS X dp f (.Compare l [op] [r] p) as Q := by
  unfold jCmp at h
  split at h
  · rename_i hm
    refine ts_cmp hm ((ih.ev _ _ _ _ _ h).mono fun a as₁ q => (ih.ev _ _ _ _ _ q).mono fun b as₂ q => ?_)
    split at q
    · rename_i v hv; exact ⟨v, hv, q⟩
    · cases q
  · cases h
theorem jPlain_ok (ih : SpecW X R) {e : Expr} {Q : PB} (h : jPlain R dp f e as Q) : TsS X dp f e as Q := by
  unfold jPlain at h
  split at h
  · rename_i hp
    refine ts_val hp ((ih.ev _ _ _ _ _ h).mono fun a as₁ q => ?_)
    split at q
    · rename_i v hv; exact ⟨v, hv, q⟩
    · cases q
  · cases h
theorem tsF_ok (ih : SpecW X R) {e : Expr} {Q : PB} (h : tsF R dp f e as Q) : TsS X dp f e as Q := by
  unfold tsF at h
  split at h
  · rename_i hc; rw [cmpOf_ok hc]; exact jCmp_ok ih h
  · exact jPlain_ok ih h
theorem jE_ok (ih : SpecW X R) {e : Expr} {Q : PV} (h : jE R dp f e as Q) : noComp e = true ∧ EvS X dp f e as Q := by
  unfold jE at h
  split at h
  · rename_i hn; exact ⟨hn, ih.ev _ _ _ _ _ h⟩
  · cases h
theorem jAsgn_ok (OK : ClsOK D K X.h₀) (ih : SpecW X R) {t e : Expr} {pos : Pos} (h : jAsgn D R dp f t e as Q) : ExS X dp f (.Assign [t] e pos) as Q := by
  cases t with
  | Name x p' => have z := jE_ok ih h; exact st_name z.1 z.2
  | Attribute o a p' =>
    have z := jE_ok ih h
    refine st_attr OK z.1 (z.2.mono fun a as₁ q => (ih.ev _ _ _ _ _ q).mono fun b as₂ q => ?_)
    split at q
    · exact ⟨_, rfl, q⟩
    · cases q
  | Subscript o k p' => have z := jE_ok ih h; exact st_sub z.1 (z.2.mono fun a as₁ q => (ih.ev _ _ _ _ _ q).mono fun b as₂ q => ih.ev _ _ _ _ _ q)
  | _ => exact False.elim h
theorem jAugN_ok (ih : SpecW X R) {x : Str} {op : Operator} {e : Expr} {p pos : Pos} (h : jAugN R dp f x op e as Q) : ExS X dp f (.AugAssign (.Name x p) op e pos) as Q := by
  unfold jAugN at h
  split at h
  · rename_i hk hm hv
    refine st_augN hm hk hv ((ih.ev _ _ _ _ _ h).mono fun a as₁ q => ?_)
    split at q
    · obtain ⟨k, e, q⟩ := binW_ok q; exact ⟨_, k, rfl, e, q⟩
    · cases q
  · cases h
theorem jAugA_ok (OK : ClsOK D K X.h₀) (ih : SpecW X R) {o : Expr} {a : Str} {op : Operator} {e : Expr} {p pos : Pos} (h : jAugA D R dp f o a op e as Q) : ExS X dp f (.AugAssign (.Attribute o a p) op e pos) as Q := by
  unfold jAugA at h
  split at h
  · rename_i hm
    refine st_augA OK hm ((ih.ev _ _ _ _ _ h).mono fun a as₁ q => ?_)
    split at q
    · refine ⟨_, rfl, attrW_mono q fun old as₂ q => (ih.ev _ _ _ _ _ q).mono fun b as₃ q => ?_⟩
      split at q
      · refine El_ea (binW_ok q) fun k e q => ?_; exact ⟨_, _, k, rfl, rfl, e, q⟩
      · cases q
    · cases q
  · cases h
theorem exF_ok (OK : ClsOK D K X.h₀) (ih : SpecW X R) {st : Stmt} (h : exF D R dp f st as Q) : ExS X dp f st as Q := by
  cases st with
  | Pass p => exact st_pass h
  | Expr e p => have z := jE_ok ih h; exact st_expr z.1 z.2
  | Return v p => cases v with
    | some e => exact st_ret (ih.ev _ _ _ _ _ h)
    | none => exact False.elim h
  | Assign ts e p => cases ts with
    | nil => exact False.elim h
    | cons t ts => cases ts with
      | cons _ _ => exact False.elim h
      | nil => exact jAsgn_ok OK ih h
  | AugAssign t op e p => cases t with
    | Name x p' => exact jAugN_ok ih h
    | Attribute o a p' => exact jAugA_ok OK ih h
    | _ => exact False.elim h
  | If t b o p =>
    refine st_if ((ih.ts _ _ _ _ _ h).mono fun c as₁ q => ?_)
    cases c with
    | true => exact ih.exs _ _ _ _ _ q
    | false => exact ih.exs _ _ _ _ _ q
  | _ => exact False.elim h
theorem clF_ok (O : ClassOK X D P) (OK : ClsOK D K X.h₀) (ih : SpecW X R) {fa : Addr} {vs : List AV} {Q : PV} (h : clF D P R dp fa vs as Q) : FnAt X.h₀ fa ∧ ClS X dp (.ref fa) vs as Q := by
  unfold clF at h
  split at h
  · rename_i t g hg
    split at h
    · rename_i hb; exact ⟨(O.prims fa t g hg).1, (O.prims fa t g hg).2 dp vs as Q (Nat.le_of_ble_eq_true hb) h⟩
    · cases h
  · split at h
    · cases h
    · split at h
      · rename_i d hd
        split at h
        · rename_i hl
          exact ⟨(O.fns fa d hd).at, cl_def (O.fns fa d hd) OK.lim (Nat.eq_of_beq_eq_true hl) (ih.exs _ _ _ _ _ h)⟩
        · cases h
      · cases h
end
theorem spec0 (O : ClassOK X D P) : ∀ n, SpecW X (recW D P n)
  | 0 => ⟨fun _ _ _ _ _ h => False.elim h, fun _ _ _ _ _ h => False.elim h, fun _ _ _ _ _ h => False.elim h, fun _ _ _ _ _ h => False.elim h, fun _ _ _ _ _ h => False.elim h, fun _ _ _ _ _ h => False.elim h⟩
  | n + 1 => by
    have ih := spec0 O n
    obtain ⟨K, OK⟩ := O.cls
    refine ⟨fun dp f e as Q h => evF_ok (P := P) OK ih h, fun dp f es as Q h => ?_, fun dp f e as Q h => tsF_ok ih h, fun dp f st as Q h => exF_ok OK ih h, fun dp f ss as Q h => ?_, fun dp fa vs as Q h => clF_ok O OK ih h⟩
    · cases es with
      | nil => exact evs_nil h
      | cons e r => exact evs_cons ((ih.ev _ _ _ _ _ h).mono fun a as₁ q => ih.evs _ _ _ _ _ q)
    · cases ss with
      | nil => exact exs_nil h
      | cons st r =>
        refine exs_cons ((ih.ex _ _ _ _ _ h).mono fun fl loc as₁ q => ?_)
        cases fl with
        | next => exact ih.exs _ _ _ _ _ q
        | brk => exact q
        | cont => exact q
        | ret v => exact q
theorem spec (O : ClassOK X D P) (n : Nat) : Spec X D P n := let z := spec0 O n; ⟨z.ev, z.evs, z.ts, z.ex, z.exs, z.cl⟩
end
end Mine

end
section
open PySem PySem.W PyProof.Rows
namespace Mine
noncomputable def Cx.re (X : Cx) (L : Addr) (θ : List Addr) (h : Heap) : Cx := { X with h₀ := hideAll h (L :: (θ ++ X.H)), T := ⟨X.T.tabs, θ⟩ }
section
variable {X : Cx} {dp : Nat} {f : Fm} {as as' : List AO} {θ θ' : List Addr} {s s' : Shared} {L : Addr} {env : Env}
theorem re_S (S : X.S θ as s) : (X.re L θ s.heap).S θ as s :=
  ⟨S.ar, fun b o e => of_hideAll _ e, fun a m => hideAll_none _ (.tail _ (List.mem_append_left _ m)), S.gens, S.os, S.tabs, S.hnin, fun e he => hideAll_none _ (.tail _ (List.mem_append_right _ (List.mem_map_of_mem he))), List.prefix_refl _⟩
theorem re_F {h : Heap} (F : FrR X f L env θ h) : FrR (X.re L θ h) f L env θ h := ⟨F.scope, F.kind, F.loc, F.nin, hideAll_none _ (.head _), F.nhid, F.ns, F.cells, F.glob, F.blt, F.code, F.qual⟩
theorem re_base (S : X.S θ as s) (hL : X.h₀.get? L = none) : ∀ b o, X.h₀.get? b = some o → (X.re L θ s.heap).h₀.get? b = some o := fun b o e => by
  refine hideAll_get _ (S.base b o e) fun m => ?_
  rcases List.mem_cons.mp m with q | m
  · rw [q, hL] at e; cases e
  · rcases List.mem_append.mp m with m | m
    · rw [S.apart b m] at e; cases e
    · obtain ⟨t, ht, q⟩ := List.mem_map.mp m
      rw [← q, S.hbase t ht] at e; cases e
theorem re_at {b : Addr} {o : Obj} (e : s.heap.get? b = some o) (h1 : b ≠ L) (h2 : b ∉ θ) (h3 : b ∉ X.H) : (X.re L θ s.heap).h₀.get? b = some o :=
  hideAll_get _ e fun m => by
    rcases List.mem_cons.mp m with q | m
    · exact h1 q
    · rcases List.mem_append.mp m with m | m
      · exact h2 m
      · exact h3 m
theorem re_back (S : X.S θ as s) (hL : X.h₀.get? L = none) (S' : (X.re L θ s.heap).S θ' as' s') : X.S θ' as' s' :=
  ⟨S'.ar, fun b o e => S'.base b o (re_base S hL b o e), fun a m => (by
    cases q : X.h₀.get? a with
    | none => rfl
    | some o => have := S'.apart a m; rw [re_base S hL a o q] at this; cases this), S'.gens, S'.os, S'.tabs, S'.hnin, S.hbase, S.pin.trans S'.pin⟩
theorem use_re {A : Around} {e : Expr} {Q : PV} {post : Value → Shared → Prop} {E : Value → Shared → Prop} (h : EvS (X.re L θ s.heap) dp f e as Q) (R : Room A dp) (F : FrR X f L env θ s.heap) (S : X.S θ as s)
    (c : ∀ av as' θ' s' v, Q av as' → X.S θ' as' s' → Ext X.H θ s.heap θ' s'.heap → VR θ' av v → post v s') : wpAny X.M A (eval e env) post E s :=
  h A θ s L env post E R (re_F F) (re_S S) fun av as' θ' s' v q S' => c av as' θ' s' v q (re_back S F.apart S')
end
structure LamOK (X : Cx) (q : Addr) (d : FD) (body : Expr) (cells : List (Str × Nat)) : Prop where
  ex : ∃ o fd, X.h₀.get? q = some o ∧ o.data = .func fd ∧ X.h₀.CodeRec fd.code fd.qualname ∧ fd.body = .expr body ∧ fd.scope = d.scope ∧ fd.globals = 3 ∧ fd.builtins = 0 ∧ fd.code = d.code ∧ fd.qualname ++ ".<locals>." = d.qual ∧
    (∀ vals : List Value, vals.length = d.names.length → bindArgs fd ⟨vals, []⟩ = pure (d.names.zip vals)) ∧ (∀ x i, lk cells x = some i → ∃ a, X.T.pin[i]? = some a ∧ fd.closure.lookup x = some a)
  cell : ∀ x ∈ d.scope.names, x.2 ≠ .cell
  loc : ∀ x ∈ d.names, d.scope.names.lookup x = some .local
  co : d.scope.isCoroutine = false
  gen : d.scope.isGenerator = false
  kind : d.scope.kind = .function
section
variable {X : Cx} {dp : Nat} {f : Fm} {as : List AO}
theorem cl_lam {fa : Addr} {d : FD} {body : Expr} {cells : List (Str × Nat)} {vs : List AV} {Q : PV} (O : LamOK X fa d body cells) (lim : X.h₀.NoLimit) (hl : vs.length = d.names.length)
    (h : EvS X dp ⟨d.scope, (d.names.zip vs).reverse, cells, d.code, d.qual⟩ body as Q) : ClS X (dp + 1) (.ref fa) vs as Q := by
  intro A θ s us post E R S V c
  refine El_eeaaaaaaaaaa O.ex fun o fd ho hd hc hb hs hg hbl hcd hql hbind hclo => ?_
  have hroom : A.depth < recursionLimit := by have := R.1; lia
  refine kla_callFunE hroom (S.base _ _ ho) hd (by rw [hs]; exact O.co) (by rw [hs]; exact O.gen) hb (Heap.CodeRec.keeps hc S.base) ?_
  rw [hbind us (by rw [V.len, hl])]
  refine wpAny_pure (wpAny_newFunctionEnv (by rw [hs]; exact O.cell) (fun x hx => by rw [hs]; exact O.loc _ (List.of_mem_zip hx).1) (fun h₁ hn hsb => ⟨(lim.keeps S.base).fresh _ hsb, kla_codeExpr ?_⟩) (by rw [hs]; exact O.kind))
  have hk : ∀ b o, s.heap.get? b = some o → h₁.get? b = some o := fun b o e => hsb.extBut b o (Nat.ne_of_lt (Heap.lt_size e)) (Heap.get?_push_of_some _ e)
  have S₁ : X.S θ as { s with heap := h₁, toks := s.toks + (d.names.zip us).length } := S.keeps hk
  refine h (A.deeper _) θ _ s.heap.objs.size _ _ _ ⟨?_, ?_, R.2.2⟩ ⟨hs, O.kind, rfl, fun m => Nat.lt_irrefl _ (S.lt m), S.fresh, S.freshH, ⟨_, hn, fun x av e => ((LRs.zip V d.names).rev).look x av e⟩, fun x i e => ?_, hg, hbl, hcd, hql⟩ S₁ fun av as' θ' s' v q S' X' V' => ?_
  · have := R.1; show A.depth + 1 + dp < _; lia
  · have := R.2.1; show A.units + 3 + 4 * dp + 40 < _; lia
  · refine El_ea (hclo x i e) fun a h1 h2 => ?_; exact ⟨a, get_pre S.pin h1, h2⟩
  · have X'' : Ext X.H θ s.heap θ' s'.heap := ⟨X'.pre, fun a m n => ⟨(by
        cases r : s.heap.get? a with
        | none => rfl
        | some o => have := (X'.fresh a m n).1; rw [hk a o r] at this; cases this), (X'.fresh a m n).2⟩,
      fun b o e n nh => X'.keep b o (hk b o e) n nh, fun b o e => X'.ex b o (hk b o e), tab_trans (fun b o e => ⟨o, hk b o e⟩) (S.tabKeep hk) X'.tab⟩
    exact c _ _ θ' s' _ q S' X'' V'
end
noncomputable def cellNs : List (Str × NameKind) → List Str
  | [] => []
  | (x, k) :: r => match k == .cell with | true => x :: cellNs r | false => cellNs r
theorem cells_names : ∀ (names : List (Str × NameKind)) (n : Nat) (acc : List (Str × Addr)), (cellsFrom n names acc).map (·.1) = (cellNs names).reverse ++ acc.map (·.1)
  | [], _, _ => rfl
  | (x, k) :: r, n, acc => by
    unfold cellsFrom cellNs
    cases h : k == NameKind.cell with
    | true => simp only [if_true]; rw [cells_names r]; simp
    | false => simp only [Bool.false_eq_true, if_false]; rw [cells_names r]
noncomputable def isLocK (sc : Scope) (x : Str) : Bool := match lk sc.names x with
  | some .local => true
  | _ => false
noncomputable def locA (sc : Scope) : List (Str × AV) → Loc → Loc
  | [], l => l
  | (n, v) :: r, l => locA sc r (match isLocK sc n with | true => pt l n v | false => l)
noncomputable def celA (sc : Scope) : List (Str × AV) → Loc → Loc
  | [], l => l
  | (n, v) :: r, l => celA sc r (match isLocK sc n with | true => l | false => pt l n v)
noncomputable def RelL (θ : List Addr) (l : Loc) (m : Str → Option Value) : Prop := ∀ x av, lk l x = some av → ∃ v, m x = some v ∧ VR θ av v
noncomputable def RelC (θ : List Addr) (l : Loc) (m : Str → Option Value) : Prop := ∀ x, CR θ (lk l x) (m x)
theorem RelL.put {θ : List Addr} {l : Loc} {m : Str → Option Value} (h : RelL θ l m) (n : Str) {a : AV} {v : Value} (r : VR θ a v) : RelL θ (pt l n a) fun y => if y = n then some v else m y := fun x av e => by
  rw [lk_pt] at e
  by_cases q : x = n
  · subst q; simp at e; subst e; exact ⟨v, by simp, r⟩
  · simp only [q, if_false] at e ⊢; exact h x av e
theorem RelC.put {θ : List Addr} {l : Loc} {m : Str → Option Value} (h : RelC θ l m) (n : Str) {a : AV} {v : Value} (r : VR θ a v) : RelC θ (pt l n a) fun y => if y = n then some v else m y := fun x => by
  rw [lk_pt]
  by_cases q : x = n
  · subst q; simp only [if_true]; exact ⟨v, rfl, r⟩
  · simp only [q, if_false]; exact h x
theorem isLocK_iff {sc : Scope} {x : Str} : isLocK sc x = true ↔ sc.names.lookup x = some .local := by
  unfold isLocK
  rw [lk_lookup]
  split
  · rename_i h; simp [h]
  · rename_i h; simp; exact h
theorem locA_rel {θ : List Addr} {sc : Scope} {kf : Str → Option NameKind} (hk : ∀ x, kf x = sc.names.lookup x) {ab : List (Str × AV)} {b : List (Str × Value)} (h : LRs θ ab b) : ∀ {l : Loc} {m : Str → Option Value}, RelL θ l m → RelL θ (locA sc ab l) (bindL kf b m) := by
  induction h with
  | nil => intro l m r; exact r
  | @cons n a v l' m' q _ ih =>
    intro l m r
    unfold locA bindL
    refine ih ?_
    cases e : isLocK sc n with
    | true => rw [if_pos (by rw [hk]; exact isLocK_iff.mp e)]; exact r.put n q
    | false => rw [if_neg (by rw [hk]; intro q; rw [isLocK_iff.mpr q] at e; cases e)]; exact r
theorem celA_rel {θ : List Addr} {sc : Scope} {kf : Str → Option NameKind} (hk : ∀ x, kf x = sc.names.lookup x) {ab : List (Str × AV)} {b : List (Str × Value)} (h : LRs θ ab b) : ∀ {l : Loc} {m : Str → Option Value}, RelC θ l m → RelC θ (celA sc ab l) (bindC kf b m) := by
  induction h with
  | nil => intro l m r; exact r
  | @cons n a v l' m' q _ ih =>
    intro l m r
    unfold celA bindC
    refine ih ?_
    cases e : isLocK sc n with
    | true => rw [if_pos (by rw [hk]; exact isLocK_iff.mp e)]; exact r
    | false => rw [if_neg (by rw [hk]; intro q; rw [isLocK_iff.mpr q] at e; cases e)]; exact r.put n q
noncomputable def idxs : List Str → Nat → List (Str × Nat)
  | [], _ => []
  | x :: r, n => (x, n) :: idxs r (n + 1)
theorem idxs_look (cl : List (Str × Addr)) : ∀ (θ : List Addr) (x : Str) (i : Nat), lk (idxs (cl.map (·.1)) θ.length) x = some i → ∃ a, (θ ++ cl.map (·.2))[i]? = some a ∧ cl.lookup x = some a := by
  induction cl with
  | nil => exact fun _ _ _ e => nosome e
  | cons yc r ih =>
    obtain ⟨y, c⟩ := yc
    intro θ x i e
    unfold List.map idxs at e
    rw [lk_lookup, List.lookup_cons] at e
    rw [List.lookup_cons]
    cases q : x == y with
    | true =>
      rw [q] at e; cases e
      exact ⟨c, by rw [List.getElem?_append_right (Nat.le_refl _), Nat.sub_self]; rfl, rfl⟩
    | false =>
      rw [q, ← lk_lookup] at e
      have ih := ih (θ ++ [c]) x i (by rw [List.length_append]; exact e)
      rw [List.append_assoc] at ih
      exact ih
theorem lookup_mem : ∀ {cl : List (Str × Addr)} {n : Str} {c : Addr}, (cl.map (·.1)).Nodup → (n, c) ∈ cl → cl.lookup n = some c
  | (y, d) :: r, n, c, hn, hm => by
    rw [List.lookup_cons]
    rcases List.mem_cons.mp hm with e | hm
    · cases e; simp
    · have h := List.nodup_cons.mp hn
      have : n ≠ y := fun q => h.1 (q ▸ List.mem_map_of_mem (f := (·.1)) hm)
      rw [beq_false_of_ne this]; exact lookup_mem h.2 hm
structure FnOKC (h₀ : Heap) (fa : Addr) (d : FD) : Prop where
  ex : ∃ o fd, h₀.get? fa = some o ∧ o.data = .func fd ∧ h₀.CodeRec fd.code fd.qualname ∧ fd.body = .stmts d.body ∧ fd.scope = d.scope ∧ fd.globals = 3 ∧ fd.builtins = 0 ∧ fd.code = d.code ∧ fd.qualname ++ ".<locals>." = d.qual ∧ fd.closure = [] ∧
    (∀ vals : List Value, vals.length = d.names.length → bindArgs fd ⟨vals, []⟩ = pure (d.names.zip vals))
  nd : (cellNs d.scope.names).Nodup
  loc : ∀ x ∈ d.names, d.scope.names.lookup x = some .local ∨ (d.scope.names.lookup x = some .cell ∧ x ∈ cellNs d.scope.names)
  co : d.scope.isCoroutine = false
  gen : d.scope.isGenerator = false
  kind : d.scope.kind = .function
theorem lookup_isSome : ∀ {cl : List (Str × Addr)} {x : Str}, x ∈ cl.map (·.1) → (cl.lookup x).isSome = true
  | (y, d) :: r, x, h => by
    rw [List.lookup_cons]
    cases q : x == y with
    | true => rfl
    | false =>
      rcases List.mem_cons.mp h with e | h
      · subst e; simp at q
      · exact lookup_isSome h
noncomputable def cellFm (d : FD) (vs : List AV) (n : Nat) : Fm := ⟨d.scope, locA d.scope (d.names.zip vs) [], idxs (cellNs d.scope.names).reverse n, d.code, d.qual⟩
noncomputable def cellAs (d : FD) (vs : List AV) : List AO := (cellNs d.scope.names).reverse.map fun x => .cell (lk (celA d.scope (d.names.zip vs) []) x)
theorem St.cells {T : Hid} {h₀ : Heap} {g₀ : Array GenState} {os₀ : OsState} {θ : List Addr} {as : List AO} {s : Shared} (S : St T h₀ g₀ os₀ θ as s) {h' : Heap} {k : Nat} (hk : ∀ b o, s.heap.get? b = some o → h'.get? b = some o) {cl : List (Str × Addr)}
    (hc : ∀ p ∈ cl, s.heap.objs.size < p.2) (hp : cl.Pairwise fun x y => x.2 ≠ y.2) {av : Str → Option AV} (ho : ∀ p ∈ cl, ∃ u, h'.IsCell p.2 u ∧ CR θ (av p.1) u) :
    St T h₀ g₀ os₀ (θ ++ cl.map (·.2)) (as ++ cl.map fun p => .cell (av p.1)) { s with heap := h', toks := k } ∧ Ext (hidOf T) θ s.heap (θ ++ cl.map (·.2)) h' := by
  have S₁ : St T h₀ g₀ os₀ θ as { s with heap := h', toks := k } := S.keeps hk
  have big : ∀ a ∈ cl.map (·.2), s.heap.objs.size < a := fun a m => by obtain ⟨p, hp, rfl⟩ := List.mem_map.mp m; exact hc p hp
  have nn : ∀ a ∈ cl.map (·.2), s.heap.get? a = none := fun a m => by
    cases q : s.heap.get? a with
    | none => rfl
    | some o => exact absurd (Heap.lt_size q) (Nat.not_lt.mpr (Nat.le_of_lt (big a m)))
  have nH : ∀ a ∈ cl.map (·.2), a ∉ hidOf T := fun a m q => by
    obtain ⟨e, he, rfl⟩ := List.mem_map.mp q
    obtain ⟨ps, x⟩ := (S.tabs e he).is
    rw [nn _ m] at x; cases x
  refine ⟨⟨⟨?_, ?_, ?_⟩, S₁.base, ?_, S.gens, S.os, fun e he => ?_, fun e he m => ?_, S.hbase, S.pin.trans ⟨_, rfl⟩⟩, ⟨⟨_, rfl⟩, ?_, fun b o e _ _ => hk b o e, fun b o e => ⟨o, hk b o e⟩, S.tabKeep hk⟩⟩
  · simp [S.ar.len]
  · refine List.nodup_append.mpr ⟨S.ar.nodup, ?_, fun a ha b hb e => ?_⟩
    · exact List.pairwise_map.mpr hp
    · subst e; exact absurd (S.lt ha) (Nat.not_lt.mpr (Nat.le_of_lt (big a hb)))
  · intro i o a e1 e2
    by_cases q : i < as.length
    · rw [List.getElem?_append_left q] at e1
      rw [List.getElem?_append_left (by rw [← S.ar.len]; exact q)] at e2
      refine El_ea (S₁.ar.objs i o a e1 e2) fun ob x y => ?_
      exact ⟨ob, x, y.mono ⟨_, rfl⟩⟩
    · have q := Nat.le_of_not_lt q
      rw [List.getElem?_append_right q, List.getElem?_map] at e1
      rw [List.getElem?_append_right (by rw [← S.ar.len]; exact q), ← S.ar.len, List.getElem?_map] at e2
      refine El_ea (Option.map_eq_some_iff.mp e1) fun p hp hr2 => ?_; obtain rfl := hr2
      rw [hp] at e2; cases e2
      obtain ⟨u, ⟨ob, g1, g2⟩, g3⟩ := ho p (List.mem_of_getElem? hp)
      exact ⟨ob, g1, u, g2, g3.mono ⟨_, rfl⟩⟩
  · intro a ha
    rcases List.mem_append.mp ha with m | m
    · exact S.apart a m
    · cases q : h₀.get? a with
      | none => rfl
      | some o => have := S.base _ _ q; rw [nn a m] at this; cases this
  · refine (S.tabs e he).to (fun _ x => hk _ _ x) (fun _ _ _ x _ _ _ => hk _ _ x) fun c o x n m => ?_
    rcases List.mem_append.mp m with m | m
    · exact n m
    · rw [nn c m] at x; cases x
  · rcases List.mem_append.mp m with m | m
    · exact S.hnin e he m
    · exact nH _ m (List.mem_map_of_mem he)
  · intro a ha na
    rcases List.mem_append.mp ha with m | m
    · exact absurd m na
    · exact ⟨nn a m, nH a m⟩
section
variable {X : Cx} {dp : Nat} {f : Fm} {as : List AO}
theorem cl_defC {fa : Addr} {d : FD} {vs : List AV} {Q : PV} (O : FnOKC X.h₀ fa d) (lim : X.h₀.NoLimit) (hl : vs.length = d.names.length)
    (h : ExsS X dp (cellFm d vs as.length) d.body (as ++ cellAs d vs) fun fl _ as' => match fl with | .ret v => Q v as' | .next => Q .none as' | _ => False) : ClS X (dp + 1) (.ref fa) vs as Q := by
  intro A θ s us post E R S V c
  refine El_eeaaaaaaaaaa O.ex fun o fd ho hd hc hb hs hg hbl hcd hql hclo hbind => ?_
  have hroom : A.depth < recursionLimit := by have := R.1; lia
  have hnm : ∀ n, (cellsFrom n fd.scope.names []).map (·.1) = (cellNs d.scope.names).reverse := fun n => by rw [hs, cells_names]; simp
  refine codeAny_call_cells hroom (S.base _ _ ho) hd (lim.keeps S.base) (Heap.CodeRec.keeps hc S.base) hb (hbind us (by rw [V.len, hl])) hclo (fun x hx => ?_) (fun s₁ I => ?_) (by rw [hs]; exact O.co) (by rw [hs]; exact O.gen) (by rw [hs]; exact O.kind)
  · rw [hs]
    refine (O.loc _ (List.of_mem_zip hx).1).imp id fun q => ⟨q.1, lookup_isSome ?_⟩
    rw [cells_names]; simpa using q.2
  · have LR := LRs.zip V d.names
    have kf : ∀ x, (callEnvC fd s.heap.objs.size fa).kindOf x = d.scope.names.lookup x := fun x => by rw [← hs]; rfl
    refine El_ee I.toInCall.same fun h₁ tk e₁ => ?_
    subst e₁
    have hcl : (callEnvC fd s.heap.objs.size fa).cells = cellsFrom (s.heap.objs.size + 1) fd.scope.names [] := rfl
    have nd : ((cellsFrom (s.heap.objs.size + 1) fd.scope.names []).map (·.1)).Nodup := by rw [hnm]; exact List.pairwise_reverse.mpr (O.nd.imp fun h => h.symm)
    obtain ⟨S₁, X₁⟩ := S.cells (h' := h₁) (k := tk) I.toInCall.keep (cl := cellsFrom (s.heap.objs.size + 1) fd.scope.names []) (av := fun x => lk (celA d.scope (d.names.zip vs) []) x) (fun p hp => I.above p.1 p.2 hp) I.apart fun p hp =>
      ⟨_, I.cell p.1 p.2 (lookup_mem nd hp), celA_rel kf LR (l := []) (m := fun _ => none) (fun x => rfl) p.1⟩
    have eas : (cellsFrom (s.heap.objs.size + 1) fd.scope.names []).map (fun p => AO.cell (lk (celA d.scope (d.names.zip vs) []) p.1)) = cellAs d vs := by
      unfold cellAs; rw [← hnm (s.heap.objs.size + 1), List.map_map]; rfl
    rw [eas] at S₁
    have nL : s.heap.objs.size ∉ θ ++ (cellsFrom (s.heap.objs.size + 1) fd.scope.names []).map (·.2) := fun m => by
      rcases List.mem_append.mp m with m | m
      · exact Nat.lt_irrefl _ (S.lt m)
      · obtain ⟨p, hp, e⟩ := List.mem_map.mp m
        have := I.above p.1 p.2 hp
        exact absurd e (Nat.ne_of_gt this)
    refine h (A.deeper _) _ _ s.heap.objs.size _ _ _ ⟨?_, ?_, R.2.2⟩ ⟨hs, O.kind, rfl, nL, S.fresh, S.freshH, ⟨_, I.toInCall.ns, fun x av e => ?_⟩, fun x i e => ?_, hg, hbl, hcd, hql⟩ S₁ fun fl loc' as' θ' s' g q S' X' F' G => ?_
    · have := R.1; show A.depth + 1 + dp < _; lia
    · have := R.2.1; show A.units + 3 + 4 * dp + 40 < _; lia
    · refine El_ea (locA_rel kf LR (l := []) (m := fun _ => none) (fun x av e => by cases e) x av e) fun v a b => ?_
      exact ⟨v, a, b.mono X₁.pre⟩
    · have e : lk (idxs (cellNs d.scope.names).reverse as.length) x = some i := e
      rw [← hnm (s.heap.objs.size + 1), S.ar.len] at e
      exact idxs_look _ θ x i e
    · have X'' : Ext X.H θ s.heap θ' s'.heap := by
        refine ⟨X₁.pre.trans X'.pre, fun a m n => ?_, fun b o e n nh => ?_, fun b o e => (let ⟨o', e'⟩ := X₁.ex b o e; X'.ex b o' e'), tab_trans X₁.ex X₁.tab X'.tab⟩
        · by_cases q : a ∈ θ ++ (cellsFrom (s.heap.objs.size + 1) fd.scope.names []).map (·.2)
          · exact X₁.fresh a q n
          · refine ⟨?_, (X'.fresh a m q).2⟩
            cases r : s.heap.get? a with
            | none => rfl
            | some o => have := (X'.fresh a m q).1; rw [I.toInCall.keep a o r] at this; cases this
        · have nb : b ∉ θ ++ (cellsFrom (s.heap.objs.size + 1) fd.scope.names []).map (·.2) := fun m => by
            have := (X₁.fresh b m n).1; rw [e] at this; cases this
          exact X'.keep b o (I.toInCall.keep b o e) nb nh fun q => by rw [q, size_none] at e; cases e
      cases fl with
      | next => cases G; exact c _ _ θ' s' _ q S' X'' rfl
      | brk => exact q.elim
      | cont => exact q.elim
      | ret v => obtain ⟨u, rfl, hu⟩ := G; exact c _ _ θ' s' _ q S' X'' hu
end
end Mine

end
section
open PySem PySem.W PyProof.Rows
namespace Mine
noncomputable def clo (cl : List (Str × Addr)) : List (Str × NameKind) → List (Str × Addr) → Option (List (Str × Addr))
  | [], acc => some acc
  | (n, k) :: r, acc => match k == .free with
    | true => (match cl.lookup n with | some a => clo cl r ((n, a) :: acc) | none => none)
    | false => clo cl r acc
theorem closure_eq {env : Env} {scope : Scope} {cs : List (Str × Addr)} (h : clo env.cells scope.names [] = some cs) : closureFor scope env = pure cs := by
  unfold closureFor
  have gen : ∀ (names : List (Str × NameKind)) (acc : List (Str × Addr)), clo env.cells names acc = some cs →
      (forIn names acc (fun (x : Str × NameKind) (cs : List (Str × Addr)) => (do
        if x.2 == .free then
          let c ← cellOf env x.1
          pure (.yield ((x.1, c) :: cs))
        else pure (.yield cs) : Sem (ForInStep (List (Str × Addr)))))) = (pure cs : Sem _) := by
    intro names
    induction names with
    | nil => intro acc h; cases h; rfl
    | cons x r ih =>
      intro acc h
      obtain ⟨n, k⟩ := x
      unfold clo at h
      rw [List.forIn_cons]
      cases hk : k == NameKind.free with
      | true =>
        rw [hk] at h
        simp only at h
        cases hl : env.cells.lookup n with
        | none => rw [hl] at h; cases h
        | some a =>
          rw [hl] at h
          simp only [hk, if_true, cellOf, hl]
          exact ih _ h
      | false =>
        rw [hk] at h
        simp only [hk]
        exact ih _ h
  exact (congrArg (· >>= fun r => pure r) (gen scope.names [] h)).trans rfl
section
variable {X : Cx} {dp : Nat} {f : Fm} {as : List AO}
theorem none_ge {h : Heap} {c : Addr} (g : h.objs.size ≤ c) : h.get? c = none := by
  cases q : h.get? c with
  | none => rfl
  | some o => exact absurd (Heap.lt_size q) (Nat.not_lt.mpr g)
theorem St.extBut {T : Hid} {h₀ : Heap} {g₀ : Array GenState} {os₀ : OsState} {θ : List Addr} {as : List AO} {s : Shared} (S : St T h₀ g₀ os₀ θ as s) {h' : Heap} {k : Nat} {e : TabE} (he : e ∈ T.tabs) (hu : ∀ e' ∈ T.tabs, e'.P = e.P → e' = e)
    (hk : ∀ b o, b ≠ e.P → s.heap.get? b = some o → h'.get? b = some o) (htn : h'.get? e.P = s.heap.get? e.P ∨ ∃ l k c, h'.get? e.P = some (tabObj #[l, k, .ref c]) ∧ s.heap.get? c = none) (ht : TabAt (hidOf T) e θ h') : St T h₀ g₀ os₀ θ as { s with heap := h', toks := k } ∧ Ext (hidOf T) θ s.heap θ h' := by
  have nP : ∀ a ∈ θ, a ≠ e.P := fun a m q => S.hnin e he (q ▸ m)
  refine ⟨⟨⟨S.ar.len, S.ar.nodup, fun i o a e1 e2 => let ⟨ob, x, y⟩ := S.ar.objs i o a e1 e2; ⟨ob, hk _ _ (nP a (List.mem_of_getElem? e2)) x, y⟩⟩, fun b o q => hk _ _ (fun r => ?_) (S.base b o q), S.apart, S.gens, S.os, fun e' he' => ?_, S.hnin, S.hbase, S.pin⟩,
    ⟨List.prefix_refl θ, fun _ x y => absurd x y, fun b o q _ nh => hk _ _ (fun r => nh (r ▸ List.mem_map_of_mem he)) q, fun b o q => (if r : b = e.P then (let ⟨ps, z⟩ := ht.is; ⟨_, r ▸ z⟩) else ⟨o, hk b o r q⟩), fun P m => by
      by_cases q : P = e.P
      · subst q; exact htn
      · refine El_ea (List.mem_map.mp m) fun e' he' hr2 => ?_; obtain rfl := hr2
        obtain ⟨ps, x⟩ := (S.tabs e' he').is
        exact .inl (by rw [x]; exact hk _ _ q x)⟩⟩
  · rw [r, S.hbase e he] at q; cases q
  · by_cases q : e'.P = e.P
    · rw [hu e' he' q]; exact ht
    · exact (S.tabs e' he').to (fun o x => hk _ _ q x) (fun c o vs x _ _ nh => hk _ _ (fun r => nh (r ▸ List.mem_map_of_mem he)) x) fun _ _ _ n => n
theorem lam_ok {A : Around} {θ : List Addr} {s : Shared} {L : Addr} {env : Env} {post : Value → Shared → Prop} {E : Value → Shared → Prop} {params : Arguments} {body : Expr} {scope : Scope} {pos : Pos} {e : TabE} {c : Addr} {mg : Str → Option Value} {clos : List (Str × Addr)}
    (F : FrR X f L env θ s.heap) (S : X.S θ as s) (hc : f.code = .ref c) (C : CodeHd X.h₀ c e.P) (he : e ∈ X.T.tabs) (hu : ∀ e' ∈ X.T.tabs, e'.P = e.P → e' = e) (hpos : e.pos = pos) (hq : e.qual = f.qual ++ "<lambda>")
    (hg : X.h₀.Ns 3 mg) (hb : X.h₀.BuiltinsAt mg e.P) (hdef : defaultsOf params env = ([], [])) (hcl : clo env.cells scope.names [] = some clos)
    (k : ∀ q c' pm ctv s', X.S θ as s' → Ext X.H θ s.heap θ s'.heap → s'.heap.get? q = some (kla_obj "<lambda>" e.qual params body scope clos pm c' ctv) → s'.heap.CodeRec (.ref c') e.qual → (c' ≠ L ∧ c' ∉ θ ∧ c' ∉ X.H) → (q ≠ L ∧ q ∉ θ ∧ q ∉ X.H) → post (.ref q) s') :
    wpAny X.M A (eval (.Lambda params body scope pos) env) post E s := by
  have hcode : env.code = .ref c := F.code.trans hc
  have hqe : env.qual ++ "<lambda>" = e.qual := by rw [F.qual, hq]
  have hgs : s.heap.Ns 3 mg := hg.keeps S.base
  refine El_eeaaaaaaa hb fun bm ob b1 b2 b3 b4 b5 b6 b7 b8 => ?_; try clear hb
  have hbs : s.heap.BuiltinsAt mg e.P := ⟨bm, ob, b1, b2, b3, b4, S.base _ _ b5, b6, b7, b8⟩
  have hgP : (3 : Addr) ≠ e.P := fun q => by
    obtain ⟨o, es, ep, e1, _⟩ := hg
    rw [q, S.hbase e he] at e1; cases e1
  have Cs := C.keeps S.base
  have Hlt : ∀ a ∈ X.H, a < s.heap.objs.size := fun a m => by
    obtain ⟨t, ht, rfl⟩ := List.mem_map.mp m
    obtain ⟨ps, x⟩ := (S.tabs t ht).is
    exact Heap.lt_size x
  obtain ⟨oL, hoL⟩ := F.there
  have big : ∀ a, s.heap.objs.size ≤ a → a ≠ L ∧ a ∉ θ ∧ a ∉ X.H := fun a ha =>
    ⟨fun q => absurd (Heap.lt_size hoL) (Nat.not_lt.mpr (q ▸ ha)), fun m => absurd (S.lt m) (Nat.not_lt.mpr ha), fun m => absurd (Hlt a m) (Nat.not_lt.mpr ha)⟩
  refine kla_eval hdef ?_
  rw [hqe]
  rcases S.tabs e he with t | ⟨c', t1, t2, t3, t4⟩
  · refine kla_makeFunction (closure_eq hcl) F.glob hgs hcode Cs t trivial rfl hgP hbs fun c' ctv h' tk hx hge hlt hrec htb => ?_
    have gb := big c' hge
    have P := S.extBut (k := tk) he hu (h' := h'.push (kla_obj "<lambda>" e.qual params body scope clos ((mg "__name__").getD .none) c' ctv)) (fun b o n q => Heap.get?_push_of_some _ (hx b o n q)) (.inr ⟨_, _, c', Heap.get?_push_of_some _ (by rw [htb]; rfl), none_ge hge⟩)
      (.inr ⟨c', Heap.get?_push_of_some _ (by rw [htb, hpos]; rfl), Heap.CodeRec.push hrec _, gb.2.1, gb.2.2⟩)
    exact k _ c' _ ctv _ P.1 P.2 (Heap.get?_push_size _ rfl) (Heap.CodeRec.push hrec _) gb (big _ (Nat.le_trans hge (Nat.le_of_lt hlt)))
  · have hf : codeAmong pos #[rawInt e.pos.line, rawInt e.pos.col, Value.ref c'].toList = some (.ref c') := by
      rw [hpos]; show codeAmong pos [.int _ 0, .int _ 0, .ref c'] = _; unfold codeAmong; simp
    refine kla_makeFunctionHit (closure_eq hcl) F.glob hgs hcode Cs t1 trivial hf hbs fun ctv h' tk hk hsz => ?_
    have hk' := fun b o (q : s.heap.get? b = some o) => Heap.get?_push_of_some (kla_obj "<lambda>" e.qual params body scope clos ((mg "__name__").getD .none) c' ctv) (hk b o q)
    have P := S.extBut (k := tk) he hu (h' := h'.push (kla_obj "<lambda>" e.qual params body scope clos ((mg "__name__").getD .none) c' ctv)) (fun b o n q => hk' b o q) (.inl (by rw [t1]; exact hk' _ _ t1))
      (.inr ⟨c', hk' _ _ t1, Heap.CodeRec.keeps t2 hk', t3, t4⟩)
    refine k _ c' _ ctv _ P.1 P.2 (Heap.get?_push_size _ rfl) (Heap.CodeRec.keeps t2 hk') ⟨fun q => ?_, t3, t4⟩ (big _ hsz)
    obtain ⟨c'', o, vs, t, e1, e2, e3, _⟩ := t2
    cases e1
    obtain ⟨m, ⟨oL', es, ep, ho', hd', _⟩, _⟩ := F.ns
    rw [q, ho'] at e2; cases e2; rw [hd'] at e3; cases e3
theorem ev_callF {x : Str} {p pos : Pos} {args : List Expr} {Q : PV} (hs : noStar args = true)
    (h : EvS X dp f (.Name x p) as fun o as₁ => ∃ fa, o = .addr fa ∧ EvsS X dp f args as₁ fun vs as₂ => FnAt X.h₀ fa ∧ ClS X dp (.ref fa) vs as₂ Q) : EvS X dp f (.Call (.Name x p) args [] pos) as Q := by
  intro A θ s L env post E R F S c
  refine wpAny_Call_Name_kw (h A θ s L env _ E R F S fun o as₁ θ₁ s₁ ov q S₁ X₁ V₁ => ?_)
  obtain ⟨fa, rfl, q⟩ := q
  cases V₁
  exact call_fn hs R (F.ext X₁) S₁ .nil q fun av as' θ' s' v q' S' X' V' => c av as' θ' s' v q' S' (X₁.trans X') V'
end
theorem FnOK.keeps {h h' : Heap} {fa : Addr} {d : FD} (O : FnOK h fa d) (k : ∀ b o, h.get? b = some o → h'.get? b = some o) : FnOK h' fa d :=
  ⟨let ⟨o, fd, a, b, c, r⟩ := O.ex; ⟨o, fd, k _ _ a, b, Heap.CodeRec.keeps c k, r⟩, O.cell, O.loc, O.co, O.gen, O.kind⟩
theorem ClsOK.keeps {D : Cls} {K : Frag} {h h' : Heap} (O : ClsOK D K h) (k : ∀ b o, h.get? b = some o → h'.get? b = some o) : ClsOK D K h' :=
  ⟨O.X.keeps k, O.cf, O.lim.keeps k, O.inst, O.int, O.fn, O.tab, fun a xs e => let ⟨vs, l, r⟩ := O.tabs a xs e; ⟨vs, isList_keeps l k, r⟩⟩
end Mine

end
section
open PySem PySem.W PyProof.Rows
set_option backward.match.sparseCases false
namespace Mine
noncomputable section
noncomputable def fdOf (j a : Nat) : Option Stmt → Option FD
  | some (.FunctionDef _ args body _ _ _ scope _ _ _) => some ⟨args.args.map (·.arg), body, scope, .ref (a - 1), fQual j ++ ".<locals>."⟩
  | _ => none
noncomputable def fnAt : List (Str × Nat × Nat) → Addr → Option Nat
  | [], _ => none
  | (_, j, a) :: r, b => match Nat.beq a b with | true => some j | false => fnAt r b
noncomputable def hasN : List Str → Str → Bool
  | [], _ => false
  | y :: r, x => match seq y x with | true => true | false => hasN r x
noncomputable def attNames : List Str := [⟨⟨[110, 97, 109, 101]⟩⟩, ⟨⟨[98, 121, 116, 101, 77, 97, 115, 107]⟩⟩, ⟨⟨[97, 100, 100, 114, 77, 97, 115, 107]⟩⟩, ⟨⟨[97, 100, 100, 114, 72, 105, 103, 104, 77, 97, 115, 107]⟩⟩, ⟨⟨[115, 112, 66, 97, 115, 101]⟩⟩, ⟨⟨[101, 120, 99, 121, 99, 108, 101, 115]⟩⟩, ⟨⟨[97, 100, 100, 99, 121, 99, 108, 101, 115]⟩⟩, ⟨⟨[112, 114, 111, 99, 101, 115, 115, 111, 114, 67, 121, 99, 108, 101, 115]⟩⟩, ⟨⟨[109, 101, 109, 111, 114, 121]⟩⟩, ⟨⟨[115, 116, 97, 114, 116, 95, 112, 99]⟩⟩, ⟨⟨[112, 99]⟩⟩, ⟨⟨[115, 112]⟩⟩, ⟨⟨[97]⟩⟩, ⟨⟨[120]⟩⟩, ⟨⟨[121]⟩⟩, ⟨⟨[112]⟩⟩]
noncomputable def mAttr (x : Str) : CA := match lk cstNames x with
  | some i => .int i
  | none => match lk methNames x with
    | some (_, a) => .fn a
    | none => match lk tabNames x with
      | some a => .tab a
      | none => match hasN attNames x with
        | true => .inst
        | false => .no
noncomputable def mTab (a : Addr) : Option (List AV) := match Nat.beq a 1423, Nat.beq a 1424, Nat.beq a 1425 with
  | true, _, _ => some (instrL.map .addr)
  | _, true, _ => some (cycL.map .int)
  | _, _, true => some (extL.map .int)
  | _, _, _ => none
noncomputable def mFn (a : Addr) : Option FD := match (Nat.beq a 85 || Nat.beq a 36), fnAt metNames a with
  | false, some j => fdOf j a clsB[j]?
  | _, _ => none
noncomputable def mD : Cls := ⟨1428, mAttr, mFn, mTab⟩
structure MS where
  a : Int
  x : Int
  y : Int
  p : Int
  pc : Int
  sp : Int
  ex : Int
  cyc : Int
  ad : AV
  st : AV
  mem : List Int
noncomputable def nS (s : List Nat) : Str := ⟨⟨s⟩⟩
noncomputable def esOf (m : MS) : List (Str × AV) :=
  [(nS [110, 97, 109, 101], .str (nS [54, 53, 48, 50])), (nS [98, 121, 116, 101, 77, 97, 115, 107], .int 255), (nS [97, 100, 100, 114, 77, 97, 115, 107], .int 65535),
   (nS [97, 100, 100, 114, 72, 105, 103, 104, 77, 97, 115, 107], .int 65280), (nS [115, 112, 66, 97, 115, 101], .int 256), (nS [101, 120, 99, 121, 99, 108, 101, 115], .int m.ex),
   (nS [97, 100, 100, 99, 121, 99, 108, 101, 115], m.ad), (nS [112, 114, 111, 99, 101, 115, 115, 111, 114, 67, 121, 99, 108, 101, 115], .int m.cyc), (nS [109, 101, 109, 111, 114, 121], .obj 2),
   (nS [115, 116, 97, 114, 116, 95, 112, 99], m.st), (nS [112, 99], .int m.pc), (nS [115, 112], .int m.sp), (nS [97], .int m.a), (nS [120], .int m.x), (nS [121], .int m.y), (nS [112], .int m.p)]
noncomputable def stA (m : MS) (j : List AO) : List AO := .inst 1428 1 :: .dict (esOf m) :: .ints m.mem :: j
noncomputable def rdW (xs : List Int) (k : Int) (K : Int → Prop) : Prop := (0 ≤ k ∧ k < xs.length ∧ k < 2 ^ 63) ∧ K (xs.getD k.toNat 0)
noncomputable def noP : Prims := fun _ => none
noncomputable def dW : FD := (fdOf 22 85 clsB[22]?).getD ⟨[], [], clsSc, .none, nS []⟩
structure WB where
  (w s1 s2 s3 a1 a2 ba1 ba2 w2 bw : Str)
  (la : Arguments)
  (lb : Expr)
  (ls : Scope)
  (lp pw pa p1 p2 p3 p4 p5 p6 p7 p8 p9 ap1 ap2 cp1 cp2 cp3 pr : Pos)
noncomputable def WB.ret (b : WB) : Expr := .BinOp (.Call (.Attribute (.Name b.s1 b.p1) b.ba1 b.ap1) [.Name b.a1 b.p2] [] b.cp1) .Add
  (.BinOp (.Call (.Attribute (.Name b.s2 b.p3) b.ba2 b.ap2) [.Call (.Name b.w2 b.p4) [.Name b.a2 b.p5] [] b.cp3] [] b.cp2) .LShift (.Attribute (.Name b.s3 b.p6) b.bw b.p7) b.p8) b.p9
noncomputable def WB.stmts (b : WB) : List Stmt := [.Assign [.Name b.w b.pw] (.Lambda b.la b.lb b.ls b.lp) b.pa, .Return (some b.ret) b.pr]
noncomputable def dNm : Expr → Str × Pos
  | .Name x p => (x, p)
  | _ => (nS [], default)
noncomputable def dAt : Expr → Expr × Str × Pos
  | .Attribute o a p => (o, a, p)
  | e => (e, nS [], default)
noncomputable def dCl : Expr → Expr × List Expr × Pos
  | .Call f l _ p => (f, l, p)
  | e => (e, [], default)
noncomputable def dBi : Expr → Expr × Expr × Pos
  | .BinOp l _ r p => (l, r, p)
  | e => (e, e, default)
noncomputable def dLm : Expr → Arguments × Expr × Scope × Pos
  | .Lambda a b s p => (a, b, s, p)
  | e => (⟨[], [], none, [], [], none, []⟩, e, clsSc, default)
noncomputable def dAs : Stmt → List Expr × Expr × Pos
  | .Assign l e p => (l, e, p)
  | _ => ([], .Tuple [] 0 default, default)
noncomputable def dRt : Stmt → Option Expr × Pos
  | .Return e p => (e, p)
  | _ => (none, default)
noncomputable def hdEx (l : List Expr) : Expr := l.headD (.Tuple [] 0 default)
noncomputable def wbOf (l : List Stmt) : WB :=
  let A := dAs (l.headD (.Pass default))
  let R := dRt ((l.drop 1).headD (.Pass default))
  let t := dNm (hdEx A.1)
  let lm := dLm A.2.1
  let B := dBi (R.1.getD (hdEx []))
  let c1 := dCl B.1
  let at1 := dAt c1.1
  let n1 := dNm at1.1
  let aa1 := dNm (hdEx c1.2.1)
  let B2 := dBi B.2.1
  let c2 := dCl B2.1
  let at2 := dAt c2.1
  let n2 := dNm at2.1
  let c3 := dCl (hdEx c2.2.1)
  let n3 := dNm c3.1
  let aa2 := dNm (hdEx c3.2.1)
  let at3 := dAt B2.2.1
  let n4 := dNm at3.1
  { w := t.1, s1 := n1.1, s2 := n2.1, s3 := n4.1, a1 := aa1.1, a2 := aa2.1, ba1 := at1.2.1, ba2 := at2.2.1, w2 := n3.1, bw := at3.2.1, la := lm.1, lb := lm.2.1, ls := lm.2.2.1, lp := lm.2.2.2, pw := t.2, pa := A.2.2, p1 := n1.2, p2 := aa1.2, p3 := n2.2, p4 := n3.2, p5 := aa2.2, p6 := n4.2, p7 := at3.2.2, p8 := B2.2.2, p9 := B.2.2, ap1 := at1.2.2, ap2 := at2.2.2, cp1 := c1.2.2, cp2 := c2.2.2, cp3 := c3.2.2, pr := R.2 }
noncomputable def wb : WB := wbOf dW.body
theorem wb_eq : dW.body = wb.stmts := by kernel_rfl
noncomputable abbrev nSelf : Str := nS [115, 101, 108, 102]
noncomputable abbrev nAddr : Str := nS [97, 100, 100, 114]
noncomputable abbrev nWrap : Str := nS [119, 114, 97, 112]
noncomputable abbrev nByte : Str := nS [66, 121, 116, 101, 65, 116]
noncomputable abbrev nBw : Str := nS [66, 89, 84, 69, 95, 87, 73, 68, 84, 72]
theorem wb_names : (wb.w, wb.s1, wb.s2, wb.s3, wb.a1, wb.a2, wb.ba1, wb.ba2, wb.w2, wb.bw) = (nWrap, nSelf, nSelf, nSelf, nAddr, nAddr, nByte, nByte, nWrap, nBw) := by kernel_rfl
theorem wb_flags : ((wb.ap1.endLine == wb.cp1.line) && (wb.ap2.endLine == wb.cp2.line)) = true := by kernel_rfl
theorem wb_fm (i : Nat) (a : Int) (n : Nat) : cellFm dW [.obj i, .int a] n = ⟨dW.scope, [(nAddr, .int a)], [(nSelf, n)], .ref 84, dW.qual⟩ := by kernel_rfl
theorem wb_as (i : Nat) (a : Int) : cellAs dW [.obj i, .int a] = [.cell (some (.obj i))] := by kernel_rfl
theorem wb_store (a : Int) (n : Nat) (q : Addr) (as : List AO) (P : Loc → List AO → Prop) : storeW ⟨dW.scope, [(nAddr, .int a)], [(nSelf, n)], .ref 84, dW.qual⟩ nWrap (.addr q) as P = P [(nAddr, .int a), (nWrap, .addr q)] as := by kernel_rfl
noncomputable def wFm (a : Int) (n : Nat) (q : Addr) : Fm := ⟨dW.scope, [(nAddr, .int a), (nWrap, .addr q)], [(nSelf, n)], .ref 84, dW.qual⟩
theorem wb_kinds : (isKind .cell dW.scope nSelf, isKind .local dW.scope nAddr, isKind .local dW.scope nWrap) = (true, true, true) := by kernel_rfl
noncomputable def cellV (as : List AO) (n : Nat) (K : AV → Prop) : Prop := match as[n]? with
  | some (.cell (some v)) => K v
  | _ => False
noncomputable def objV (v : AV) (K : Nat → Prop) : Prop := match v with
  | .obj i => K i
  | _ => False
noncomputable def intV (v : AV) (K : Int → Prop) : Prop := match v with
  | .int i => K i
  | _ => False
noncomputable def dL (c : Addr) : FD := ⟨wb.la.args.map (·.arg), [], wb.ls, .ref c, dW.qual ++ "<lambda>" ++ ".<locals>."⟩
end
end Mine

end
section
open PySem PySem.W PyProof.Rows
set_option backward.match.sparseCases false
namespace Mine
noncomputable section
theorem Room.le {A : Around} {m n : Nat} (h : Room A n) (k : m ≤ n) : Room A m := ⟨by have := h.1; lia, by have := h.2.1; lia, h.2.2⟩
theorem EvS.le {X : Cx} {m n : Nat} {f : Fm} {e : Expr} {as : List AO} {Q : PV} (h : EvS X m f e as Q) (k : m ≤ n) : EvS X n f e as Q := fun A θ s L env post E R F S c => h A θ s L env post E (R.le k) F S c
noncomputable def WB.c1 (b : WB) : Expr := .Call (.Attribute (.Name b.s1 b.p1) b.ba1 b.ap1) [.Name b.a1 b.p2] [] b.cp1
noncomputable def WB.at (b : WB) : Expr := .Attribute (.Name b.s3 b.p6) b.bw b.p7
noncomputable def lFm (a : Int) (n : Nat) (c : Addr) : Fm := ⟨(dL c).scope, ((dL c).names.zip [.int a]).reverse, [(nSelf, n)], (dL c).code, (dL c).qual⟩
noncomputable def methV (i : Nat) (as : List AO) (K : Addr → Prop) : Prop := match methA mD i nByte as with
  | some fa => K fa
  | none => False
noncomputable def wrapP : Prim := fun vs as Q => match vs with
  | [.obj i, .int a] => cellV (as ++ [.cell (some (.obj i))]) as.length fun o => objV o fun i => methV i (as ++ [.cell (some (.obj i))]) fun fa => clW mD noP 12 4 fa [.obj i, .int a] (as ++ [.cell (some (.obj i))]) fun v as₁ => intV v fun v =>
      cellV as₁ as.length fun o => objV o fun i => methV i as₁ fun fa => evW mD noP 9 3 (lFm a as.length 0) wb.lb as₁ fun r as₂ => clW mD noP 12 4 fa [.obj i, r] as₂ fun u as₃ => intV u fun u =>
        cellV as₃ as.length fun o => objV o fun i => attrW mD i nBw as₃ fun w as₄ => intV w fun w => binW .LShift u w fun k => Q (.int (v + k)) as₄
  | _ => False
theorem wq3 (a : Int) (n : Nat) (c : Addr) (as : List AO) (Q : PV) : evW mD noP 9 3 (lFm a n c) wb.lb as Q = evW mD noP 9 3 (lFm a n 0) wb.lb as Q := by kernel_rfl
structure WOK (X : Cx) : Prop where
  cls : ∃ K, ClsOK mD K X.h₀
  fns : ∀ fa d, mFn fa = some d → FnOK X.h₀ fa d
  fnW : FnOKC X.h₀ 85 dW
  code : CodeHd X.h₀ 84 80
  glob : ∃ mg, X.h₀.Ns 3 mg ∧ X.h₀.BuiltinsAt mg 80
  tab : (⟨80, wb.lp, dW.qual ++ "<lambda>"⟩ : TabE) ∈ X.T.tabs
  uniq : ∀ e ∈ X.T.tabs, e.P = 80 → e = ⟨80, wb.lp, dW.qual ++ "<lambda>"⟩
theorem one_list {l : List Value} (h : l.length = 1) : ∃ v, l = [v] := by
  cases l with
  | nil => cases h
  | cons v r => cases r with
    | nil => exact ⟨v, rfl⟩
    | cons _ _ => cases h
theorem two_list {l : List Value} (h : l.length = 2) : ∃ a b, l = [a, b] := by
  cases l with
  | nil => cases h
  | cons v r => obtain ⟨b, rfl⟩ := one_list (Nat.succ.inj h); exact ⟨v, b, rfl⟩
theorem intV_ok {v : AV} {K : Int → Prop} (h : intV v K) : ∃ i, v = .int i ∧ K i := by
  unfold intV at h; split at h
  · exact ⟨_, rfl, h⟩
  · cases h
theorem objV_ok {v : AV} {K : Nat → Prop} (h : objV v K) : ∃ i, v = .obj i ∧ K i := by
  unfold objV at h; split at h
  · exact ⟨_, rfl, h⟩
  · cases h
theorem cellV_ok {as : List AO} {n : Nat} {K : AV → Prop} (h : cellV as n K) : ∃ v, as[n]? = some (.cell (some v)) ∧ K v := by
  unfold cellV at h; split at h
  · rename_i v e; exact ⟨v, e, h⟩
  · cases h
theorem methV_ok {i : Nat} {as : List AO} {K : Addr → Prop} (h : methV i as K) : ∃ fa, methA mD i nByte as = some fa ∧ K fa := by
  unfold methV at h; split at h
  · rename_i v e; exact ⟨v, e, h⟩
  · cases h
theorem lam_facts : ((∀ env, defaultsOf wb.la env = ([], []))) ∧ (dL 0).names.length = 1 := ⟨fun env => by kernel_rfl, by kernel_rfl⟩
theorem lam_clo (cells : List (Str × Addr)) (a : Addr) (h : cells.lookup nSelf = some a) : clo cells wb.ls.names [] = some [(nSelf, a)] := by
  have : clo cells wb.ls.names [] = (match cells.lookup nSelf with | some a => some [(nSelf, a)] | none => none) := by kernel_rfl
  rw [this, h]
theorem lam_sc : (wb.ls.isCoroutine, wb.ls.isGenerator, wb.ls.kind, wb.ls.names.map (fun x => x.2 == .cell), ((dL 0).names.map fun x => wb.ls.names.lookup x)) = (false, false, .function, [false, false], [some .local]) := by kernel_rfl
theorem lam_bind (qual : Str) (clos : List (Str × Addr)) (pm ctv : Value) (c : Addr) (v : Value) : bindArgs (kla_fn "<lambda>" qual wb.la wb.lb wb.ls clos pm (.ref c) ctv) ⟨[v], []⟩ = pure ((dL c).names.zip [v]) := by kernel_rfl
theorem cls_re {X : Cx} {θ : List Addr} {as : List AO} {s : Shared} {L : Addr} (W : WOK X) (S : X.S θ as s) (hL : X.h₀.get? L = none) : ClassOK (X.re L θ s.heap) mD noP := by
  obtain ⟨K, hK⟩ := W.cls
  exact ⟨⟨K, hK.keeps (re_base S hL)⟩, fun fa d e => (W.fns fa d e).keeps (re_base S hL), fun fa t g e => by cases e⟩
theorem lam_cell {x : Str × NameKind} (h : x ∈ wb.ls.names) : x.2 ≠ .cell := by
  have e := congrArg (fun t => t.2.2.2.1) lam_sc
  have m : (x.2 == NameKind.cell) ∈ wb.ls.names.map (fun x => x.2 == .cell) := List.mem_map_of_mem (f := fun x : Str × NameKind => x.2 == .cell) h
  rw [show wb.ls.names.map (fun x => x.2 == .cell) = [false, false] from e] at m
  intro q
  rw [q] at m
  simp at m
theorem lam_loc {x : Str} (h : x ∈ (dL 0).names) : wb.ls.names.lookup x = some .local := by
  have e := congrArg (fun t => t.2.2.2.2) lam_sc
  have m : wb.ls.names.lookup x ∈ (dL 0).names.map (fun x => wb.ls.names.lookup x) := List.mem_map_of_mem (f := fun x => wb.ls.names.lookup x) h
  rw [show (dL 0).names.map (fun x => wb.ls.names.lookup x) = [some .local] from e] at m
  simpa using m
theorem wrap_ok {X : Cx} (W : WOK X) {vs : List AV} {as : List AO} {Q : PV} {dp : Nat} (hdp : 5 ≤ dp) (h : wrapP vs as Q) : ClS X dp (.ref 85) vs as Q := by
  unfold wrapP at h
  split at h
  case h_2 => cases h
  rename_i i a
  obtain ⟨dp, rfl⟩ : ∃ d, dp = d + 1 := ⟨dp - 1, by lia⟩
  have h4 : 4 ≤ dp := by lia
  obtain ⟨K, hK⟩ := W.cls
  refine cl_defC W.fnW hK.lim (by kernel_rfl) ?_
  rw [wb_fm, wb_as, wb_eq]
  intro A θ s L env post E R F S c
  obtain ⟨mg, hg, hb⟩ := W.glob
  obtain ⟨ca, hca, hlk⟩ := F.cells nSelf as.length (by kernel_rfl)
  refine wpAny_execs_cons (wpAny_Assign_Name (lam_ok (e := ⟨80, wb.lp, dW.qual ++ "<lambda>"⟩) F S rfl W.code W.tab W.uniq rfl rfl hg hb (lam_facts.1 env) (lam_clo _ _ hlk) fun q c' pm ctv s₁ S₁ X₁ hq hc' nc nq => ?_) rfl)
  have F₁ := F.ext X₁
  have nm := wb_names
  simp only [Prod.mk.injEq] at nm
  refine El_aaaaaaaaa nm fun n1 n2 n3 n4 n5 n6 n7 n8 n9 n10 => ?_; try clear nm
  rw [n1]
  refine store_ok (av := .addr q) (P := fun loc as' => loc = [(nAddr, .int a), (nWrap, .addr q)] ∧ as' = as ++ [.cell (some (.obj i))]) (by rw [wb_store]; exact ⟨rfl, rfl⟩) F₁ S₁ rfl fun loc' as' s₂ q' S₂ X₂ F₂ => ?_
  obtain ⟨rfl, rfl⟩ := q'
  have F₂ : FrR X (wFm a as.length q) L env θ s₂.heap := F₂
  show wpAny _ _ (execs [.Return (some wb.ret) wb.pr] env) _ _ _
  have hL := F.apart
  have hX : ExtL X.H L θ s.heap θ s₂.heap := X₁.toL.trans F.there F.nin F₁.there X₂
  have hq₂ : s₂.heap.get? q = some (kla_obj "<lambda>" (dW.qual ++ "<lambda>") wb.la wb.lb wb.ls [(nSelf, ca)] pm c' ctv) := X₂.keep _ _ hq nq.2.1 nq.2.2 nq.1
  have hc₂ : s₂.heap.CodeRec (.ref c') (dW.qual ++ "<lambda>") := by
    refine El_eeeeaa hc' fun c'' o vs t e1 e2 r => ?_; try clear hc'
    cases e1
    exact ⟨c', o, vs, t, rfl, X₂.keep _ _ e2 nc.2.1 nc.2.2 nc.1, r⟩
  refine wpAny_execs_cons (wpAny_Return_some (use_re (Q := Q) (dp := dp) ?_ R F₂ S₂ fun av as' θ' s' v q' S' X' V' => c (.ret av) _ as' θ' s' (.ret v) q' S' (hX.trans F.there F.nin F₂.there X'.toL) (F₂.ext X') ⟨v, rfl, V'⟩))
  have CO := cls_re W S₂ hL
  obtain ⟨K', hK'⟩ := CO.cls
  have sp := spec CO
  have LO : LamOK (X.re L θ s₂.heap) q (dL c') wb.lb [(nSelf, as.length)] := by
    refine ⟨⟨_, _, re_at hq₂ nq.1 nq.2.1 nq.2.2, rfl, ?_, rfl, rfl, rfl, rfl, rfl, rfl, fun vals hv => ?_, fun x j e => ?_⟩, fun x hx => lam_cell hx, fun x hx => lam_loc hx, (congrArg (·.1) lam_sc), (congrArg (·.2.1) lam_sc), (congrArg (·.2.2.1) lam_sc)⟩
    · refine El_eeeeaa hc₂ fun c'' o vs t e1 e2 r => ?_; try clear hc₂
      cases e1
      exact ⟨c', o, vs, t, rfl, re_at e2 nc.1 nc.2.1 nc.2.2, r⟩
    · have hv : vals.length = 1 := hv.trans lam_facts.2
      obtain ⟨v, rfl⟩ := one_list hv
      exact lam_bind _ _ _ _ _ _
    · unfold lk at e
      split at e
      · rename_i hs
        have := seq_iff.mp hs; subst this
        cases e
        exact ⟨ca, hca, by simp⟩
      · cases e
  show EvS (X.re L θ s₂.heap) dp (wFm a as.length q) wb.ret (as ++ [.cell (some (.obj i))]) Q
  have kd := wb_kinds
  simp only [Prod.mk.injEq] at kd
  have fl := wb_flags
  simp only [Bool.and_eq_true] at fl
  have sc : (wFm a as.length q).sc = dW.scope := rfl
  have hself : ∀ {as' : List AO} {v : AV} {p : Pos} {Q : PV}, as'[as.length]? = some (.cell (some v)) → Q v as' → EvS (X.re L θ s₂.heap) dp (wFm a as.length q) (.Name nSelf p) as' Q := fun ho hq =>
    ev_cell (by rw [sc, kd.1]; rfl) (by kernel_rfl) (i := as.length) (by kernel_rfl) ho hq
  have hcl : ∀ {fa : Addr} {vs : List AV} {as' : List AO} {Q : PV}, clW mD noP 12 4 fa vs as' Q → FnAt (X.re L θ s₂.heap).h₀ fa ∧ ClS (X.re L θ s₂.heap) dp (.ref fa) vs as' Q := fun {fa vs as' Q} h => by
    have g := (sp 12).cl 4 fa vs as' _ h
    exact ⟨g.1, fun A θ s us post E R S V c => g.2 A θ s us post E (R.le h4) S V c⟩
  refine El_ea (cellV_ok h) fun o ho h0 => ?_
  refine El_ea (objV_ok h0) fun i' hr1 h0 => ?_; obtain rfl := hr1
  refine El_ea (methV_ok h0) fun fa hm h0 => ?_
  have ei : i' = i := by
    rw [List.getElem?_append_right (Nat.le_refl _), Nat.sub_self] at ho
    cases ho; rfl
  subst ei
  unfold WB.ret
  rw [n2, n3, n4, n5, n6, n7, n8, n9, n10]
  refine ev_bin (ev_callM hK' rfl (by decide) fl.1 (hself ho ⟨i', fa, rfl, hm, evs_cons (ev_local kd.2.1 (av := .int a) (by kernel_rfl) (evs_nil ?_))⟩))
  obtain ⟨g1, g2⟩ := hcl h0
  refine ⟨g1, g2.mono fun v as₁ h₁ => ?_⟩
  refine El_ea (intV_ok h₁) fun v hr1 h1a => ?_; obtain rfl := hr1
  refine El_ea (cellV_ok h1a) fun o ho h1b => ?_
  refine El_ea (objV_ok h1b) fun i₂ hr1 h1c => ?_; obtain rfl := hr1
  refine El_ea (methV_ok h1c) fun fa₂ hm h1d => ?_
  refine ev_bin (ev_callM hK' rfl (by decide) fl.2 (hself ho ⟨i₂, fa₂, rfl, hm, ?_⟩))
  refine evs_cons (ev_callF rfl (ev_local kd.2.2 (av := .addr q) (by kernel_rfl) ⟨q, rfl, evs_cons (ev_local kd.2.1 (av := .int a) (by kernel_rfl) (evs_nil ⟨⟨_, _, re_at hq₂ nq.1 nq.2.1 nq.2.2, rfl⟩, ?_⟩))⟩))
  obtain ⟨dp, rfl⟩ : ∃ d, dp = d + 1 := ⟨dp - 1, by lia⟩
  refine cl_lam LO hK'.lim (by kernel_rfl) (EvS.mono (((sp 9).ev 3 _ wb.lb as₁ _ (by rw [show (⟨(dL c').scope, ((dL c').names.zip [AV.int a]).reverse, [(nSelf, as.length)], (dL c').code, (dL c').qual⟩ : Fm) = lFm a as.length c' from rfl, wq3]; exact h1d)).le (by exact Nat.le_of_lt_succ h4)) fun r as₂ h₂ => evs_nil ?_)
  obtain ⟨g1, g2⟩ := hcl h₂
  refine ⟨g1, g2.mono fun u as₃ h₃ => ?_⟩
  refine El_ea (intV_ok h₃) fun u hr1 h5 => ?_; obtain rfl := hr1
  refine El_ea (cellV_ok h5) fun o ho h6 => ?_
  refine El_ea (objV_ok h6) fun i₃ hr1 h7 => ?_; obtain rfl := hr1
  refine ev_attr hK' (hself ho ⟨i₃, rfl, attrW_mono h7 fun w as₄ h₄ => ?_⟩)
  refine El_ea (intV_ok h₄) fun w hr1 h8 => ?_; obtain rfl := hr1
  refine El_ea (binW_ok h8) fun k e h9 => ?_
  exact ⟨u, w, k, rfl, rfl, e, v, k, v + k, rfl, rfl, rfl, h9⟩
end
end Mine

end
section
open PySem PySem.W PyProof.Rows
namespace Mine
noncomputable section
noncomputable def mP : Prims := fun a => match Nat.beq a 85 with
  | true => some (5, wrapP)
  | false => none
noncomputable abbrev JJ := List AO
noncomputable abbrev KM := MS → JJ → Prop
noncomputable abbrev Mode := MS → JJ → (Int → MS → JJ → Prop) → Prop
noncomputable def okk (k : Int) : Prop := 0 ≤ k ∧ k < 2 ^ 63
noncomputable def shl (u : Int) (K : Int → Prop) : Prop := (0 ≤ (8 : Int) ∧ (8 : Int) ≤ 1000000 ∧ u.natAbs < 2 ^ 64) ∧ K (u * 2 ^ (8 : Int).toNat)
noncomputable def wrapW (m : MS) (j : JJ) (a : Int) (K : Int → JJ → Prop) : Prop := rdW m.mem a fun v => rdW m.mem (Builtin.bitAnd a 65280 + Builtin.bitAnd (a + 1) 255) fun u => shl u fun k => K (v + k) (j ++ [.cell (some (.obj 0))])
noncomputable def mPC : Mode := fun m j K => K m.pc m j
noncomputable def mZP : Mode := fun m j K => rdW m.mem m.pc fun z => K z m j
noncomputable def mIY0 : Mode := fun m j K => rdW m.mem m.pc fun z => wrapW m j z fun w j => K (Builtin.bitAnd (w + m.y) 65535) m j
noncomputable def mIY1 : Mode := fun m j K => rdW m.mem m.pc fun z => wrapW m j z fun w j =>
  ifB (Builtin.bitAnd w 65280 != Builtin.bitAnd (Builtin.bitAnd (w + m.y) 65535) 65280) (K (Builtin.bitAnd (w + m.y) 65535) { m with ex := m.ex + 1 } j) (K (Builtin.bitAnd (w + m.y) 65535) m j)
noncomputable def flags (m : MS) (v : Int) (K : MS → Prop) : Prop := ifB (v == 0) (K { m with p := Builtin.bitOr (Builtin.bitAnd m.p (Builtin.bitNot (Builtin.bitOr 2 128))) 2 })
  (K { m with p := Builtin.bitOr (Builtin.bitAnd m.p (Builtin.bitNot (Builtin.bitOr 2 128))) (Builtin.bitAnd v 128) })
noncomputable def wrW (m : MS) (a v : Int) (K : MS → Prop) : Prop := (0 ≤ a ∧ a < m.mem.length ∧ a < 2 ^ 63) ∧ K { m with mem := m.mem.set a.toNat v }
noncomputable def inc (n : Int) (K : KM) : KM := fun m j => K { m with pc := m.pc + n } j
noncomputable def oLDA (o : Mode) (m : MS) (j : JJ) (K : KM) : Prop := o m j fun a m j => rdW m.mem a fun v => flags { m with a := v } v fun m => K m j
noncomputable def oLDX (o : Mode) (m : MS) (j : JJ) (K : KM) : Prop := o m j fun a m j => rdW m.mem a fun v => flags { m with x := v } v fun m => K m j
noncomputable def oLDY (o : Mode) (m : MS) (j : JJ) (K : KM) : Prop := o m j fun a m j => rdW m.mem a fun v => flags { m with y := v } v fun m => K m j
noncomputable def oSTA (o : Mode) (m : MS) (j : JJ) (K : KM) : Prop := o m j fun a m j => wrW m a m.a fun m => K m j
noncomputable def oSTX (o : Mode) (m : MS) (j : JJ) (K : KM) : Prop := o m j fun a m j => wrW m a m.x fun m => K m j
noncomputable def lS (op : Int) : Loc := [(nS [115, 101, 108, 102], .obj 0), (nS [105, 110, 115, 116, 114, 117, 99, 116, 67, 111, 100, 101], .int op)]
noncomputable def fmS (op : Int) : Fm := ⟨((mFn 43).getD dW).scope, lS op, [], .ref 42, ((mFn 43).getD dW).qual⟩
noncomputable def tailS : List Stmt := ((mFn 43).getD dW).body.drop 1
noncomputable abbrev RetQ (Q : PV) : PF := fun fl _ as' => match fl with | .ret v => Q v as' | .next => Q .none as' | _ => False
noncomputable def pre (m : MS) (e : Int) : MS := { m with pc := Builtin.bitAnd (m.pc + 1) 65535, ex := 0, ad := .int e }
noncomputable def pst (m : MS) (c : Int) : MS := { m with pc := Builtin.bitAnd m.pc 65535, cyc := m.cyc + (c + m.ex) }
noncomputable abbrev stp (op : Int) (m : MS) (Q : PV) : Prop := exsW mD mP 39 11 (fmS op) tailS (stA m []) (RetQ Q)
noncomputable abbrev fin (op c : Int) (Q : PV) : KM := fun m j => okk op ∧ Q (.obj 0) (stA (pst m c) j)
noncomputable abbrev frm (op : Int) (P : Prop) : Prop := okk op ∧ okk op ∧ P
theorem o_a0 (m : MS) (Q : PV) : stp 0xa0 m Q = frm 0xa0 (oLDY mPC (pre m 0) [.meth 92 0] (inc 1 (fin 0xa0 2 Q))) := by kernel_rfl
theorem o_b1 (m : MS) (Q : PV) : stp 0xb1 m Q = frm 0xb1 (oLDA mIY1 (pre m 1) [.meth 134 0] (inc 1 (fin 0xb1 5 Q))) := by kernel_rfl
theorem o_a5 (m : MS) (Q : PV) : stp 0xa5 m Q = frm 0xa5 (oLDA mZP (pre m 0) [.meth 106 0] (inc 1 (fin 0xa5 3 Q))) := by kernel_rfl
theorem o_a6 (m : MS) (Q : PV) : stp 0xa6 m Q = frm 0xa6 (oLDX mZP (pre m 0) [.meth 106 0] (inc 1 (fin 0xa6 3 Q))) := by kernel_rfl
theorem o_85 (m : MS) (Q : PV) : stp 0x85 m Q = frm 0x85 (oSTA mZP (pre m 0) [.meth 106 0] (inc 1 (fin 0x85 3 Q))) := by kernel_rfl
theorem o_86 (m : MS) (Q : PV) : stp 0x86 m Q = frm 0x86 (oSTX mZP (pre m 0) [.meth 106 0] (inc 1 (fin 0x86 3 Q))) := by kernel_rfl
theorem o_91 (m : MS) (Q : PV) : stp 0x91 m Q = frm 0x91 (oSTA mIY0 (pre m 0) [.meth 134 0] (inc 1 (fin 0x91 6 Q))) := by kernel_rfl
noncomputable def dS : FD := (mFn 43).getD dW
noncomputable def fm0 : Fm := ⟨dS.scope, [(nS [115, 101, 108, 102], .obj 0)], [], .ref 42, dS.qual⟩
theorem clW_def {D : Cls} {P : Prims} {n dp : Nat} {fa : Addr} {vs : List AV} {as : List AO} {Q : PV} {d : FD} (hP : P fa = none) (hd : D.fn fa = some d) (hl : Nat.beq vs.length d.names.length = true) :
    clW D P (n + 1) (dp + 1) fa vs as Q = exsW D P n dp ⟨d.scope, (d.names.zip vs).reverse, [], d.code, d.qual⟩ d.body as (RetQ Q) := by
  show clF D P (recW D P n) (dp + 1) fa vs as Q = _
  unfold clF; simp only [hP, hd, hl]; try rfl
theorem dS_eq : mD.fn 43 = some dS := by kernel_rfl
theorem fm0_eq : (⟨dS.scope, (dS.names.zip [.obj 0]).reverse, [], dS.code, dS.qual⟩ : Fm) = fm0 := by kernel_rfl
theorem sh1 (Q : PV) (as : List AO) : clW mD mP 41 12 43 [.obj 0] as Q = exsW mD mP 40 11 fm0 dS.body as (RetQ Q) := by
  rw [clW_def (d := dS) (by kernel_rfl) dS_eq (by kernel_rfl), fm0_eq]
noncomputable def st1 : Stmt := match dS.body with | s :: _ => s | [] => .Pass default
theorem sh2 : dS.body = st1 :: tailS := by kernel_rfl
theorem sh3 (m : MS) (K : PF) : exW mD mP 39 11 fm0 st1 (stA m []) K = rdW m.mem m.pc fun op => K .next (lS op) (stA m []) := by kernel_rfl
theorem exsW_cons {D : Cls} {P : Prims} {n dp : Nat} {f : Fm} {st : Stmt} {r : List Stmt} {as : List AO} {Q : PF} : exsW D P (n + 1) dp f (st :: r) as Q = exW D P n dp f st as fun fl loc as₁ => (match fl with | .next => exsW D P n dp { f with loc := loc } r as₁ Q | fl => Q fl loc as₁) := rfl
theorem step_head (m : MS) (Q : PV) : clW mD mP 41 12 43 [.obj 0] (stA m []) Q = rdW m.mem m.pc fun op => stp op m Q := by
  rw [sh1, sh2, exsW_cons, sh3]
  rfl
noncomputable def brT (m : MS) (a : Int) (K : MS → Prop) : Prop := ifB (Builtin.bitAnd m.pc 65280 != Builtin.bitAnd a 65280) (K { m with ex := m.ex + 1, pc := Builtin.bitAnd a 65535 }) (K { m with pc := Builtin.bitAnd a 65535 })
noncomputable def brW (m : MS) (K : MS → Prop) : Prop := rdW m.mem m.pc fun z => ifB (Builtin.bitAnd z 128 != 0) (brT { m with ex := m.ex + 1, pc := m.pc + 1 } (m.pc + 1 - Builtin.bitXor z 255 - 1) K) (brT { m with ex := m.ex + 1, pc := m.pc + 1 } (m.pc + 1 + z) K)
noncomputable def wordW (m : MS) (a : Int) (K : Int → Prop) : Prop := rdW m.mem a fun v => rdW m.mem (a + 1) fun u => shl u fun k => K (v + k)
noncomputable def pOf (n v z c : Bool) : Int := 48 + (cond n 128 0) + (cond v 64 0) + (cond z 2 0) + (cond c 1 0)
noncomputable def sbZ (m : MS) (p d : Int) (K : MS → Prop) : Prop := K { m with p := Builtin.bitOr p (Builtin.bitAnd d 128), a := d }
noncomputable def sbY (m : MS) (p d r : Int) (K : MS → Prop) : Prop := ifB (decide (255 < r)) (sbZ m (Builtin.bitOr p 1) d K) (sbZ m p d K)
noncomputable def sbX (m : MS) (p d r : Int) (K : MS → Prop) : Prop := ifB (d == 0) (sbY m (Builtin.bitOr p 2) d r K) (sbY m p d r K)
noncomputable def sbR (m : MS) (v : Int) : Int := m.a + Builtin.bitAnd (Builtin.bitNot v) 255 + Builtin.bitAnd m.p 1
noncomputable def sbP (m : MS) : Int := Builtin.bitAnd m.p (Builtin.bitNot (Builtin.bitOr (Builtin.bitOr (Builtin.bitOr 1 2) 64) 128))
noncomputable def sbW (m : MS) (v : Int) (K : MS → Prop) : Prop := ifB (Builtin.bitAnd (Builtin.bitAnd (Builtin.bitXor m.a v) (Builtin.bitXor m.a (sbR m v))) 128 != 0)
  (sbX m (Builtin.bitOr (sbP m) 64) (Builtin.bitAnd (sbR m v) 255) (sbR m v) K) (sbX m (sbP m) (Builtin.bitAnd (sbR m v) 255) (sbR m v) K)
noncomputable def oSBC (o : Mode) (m : MS) (j : JJ) (K : KM) : Prop := o m j fun a m j => rdW m.mem a fun v => sbW m v fun m => K m j
theorem o_c8 (m : MS) (Q : PV) : stp 0xc8 m Q = frm 0xc8 (flags { pre m 0 with y := Builtin.bitAnd (m.y + 1) 255 } (Builtin.bitAnd (m.y + 1) 255) fun m => fin 0xc8 2 Q m []) := by kernel_rfl
theorem o_38 (m : MS) (Q : PV) : stp 0x38 m Q = frm 0x38 (fin 0x38 2 Q { pre m 0 with p := Builtin.bitOr m.p 1 } []) := by kernel_rfl
theorem o_d0 (m : MS) (Q : PV) : stp 0xd0 m Q = frm 0xd0 (ifB (Builtin.bitAnd m.p 2 != 0) (inc 1 (fin 0xd0 2 Q) (pre m 2) []) (brW (pre m 2) fun m => fin 0xd0 2 Q m [])) := by kernel_rfl
theorem o_b0 (m : MS) (Q : PV) : stp 0xb0 m Q = frm 0xb0 (ifB (Builtin.bitAnd m.p 1 != 0) (brW (pre m 2) fun m => fin 0xb0 2 Q m []) (inc 1 (fin 0xb0 2 Q) (pre m 2) [])) := by kernel_rfl
theorem o_f1 (m : MS) (Q : PV) (n v z c : Bool) : stp 0xf1 { m with p := pOf n v z c } Q = frm 0xf1 (oSBC mIY1 (pre { m with p := pOf n v z c } 1) [.meth 134 0] (inc 1 (fin 0xf1 5 Q))) := by
  cases n <;> cases v <;> cases z <;> cases c <;> kernel_rfl
end
end Mine

end
section
open PySem PySem.W PyProof.Rows
namespace Mine
noncomputable section
noncomputable def esL (m : MS) (q : Nat) : List (Str × AV) :=
  [(nS [110, 97, 109, 101], .str (nS [54, 53, 48, 50])), (nS [98, 121, 116, 101, 77, 97, 115, 107], .int 255), (nS [97, 100, 100, 114, 77, 97, 115, 107], .int 65535),
   (nS [97, 100, 100, 114, 72, 105, 103, 104, 77, 97, 115, 107], .int 65280), (nS [115, 112, 66, 97, 115, 101], .int 256), (nS [101, 120, 99, 121, 99, 108, 101, 115], .int m.ex),
   (nS [97, 100, 100, 99, 121, 99, 108, 101, 115], m.ad), (nS [112, 114, 111, 99, 101, 115, 115, 111, 114, 67, 121, 99, 108, 101, 115], .int m.cyc), (nS [109, 101, 109, 111, 114, 121], .obj q),
   (nS [115, 116, 97, 114, 116, 95, 112, 99], m.st), (nS [112, 99], .int m.pc), (nS [115, 112], .int m.sp), (nS [97], .int m.a), (nS [120], .int m.x), (nS [121], .int m.y), (nS [112], .int m.p)]
noncomputable def flat : AV → Prop
  | .obj _ => False
  | _ => True
theorem VR.flat {θ θ' : List Addr} : ∀ {a : AV} {v : Value}, Mine.flat a → VR θ a v → VR θ' a v
  | .none, _, _, h | .bool _, _, _, h | .int _, _, _, h | .str _, _, _, h | .addr _, _, _, h | .bi _, _, _, h | .ty _, _, _, h => h
noncomputable def toObj (q : Nat) : AV → AV
  | .obj _ => .obj q
  | a => a
theorem toObj_flat {q : Nat} : ∀ {a : AV}, Mine.flat a → toObj q a = a
  | .none, _ | .bool _, _ | .int _, _ | .str _, _ | .addr _, _ | .bi _, _ | .ty _, _ => rfl
theorem DRs.via {θ θ' : List Addr} (g : AV → AV) {es : List (Str × AV)} {l : List DictEntry} (h : DRs θ es l) (hg : ∀ x ∈ es, ∀ v, VR θ x.2 v → VR θ' (g x.2) v) : DRs θ' (es.map fun p => (p.1, g p.2)) l := by
  induction h with
  | nil => exact .nil
  | cons k v _ ih => exact .cons k (hg _ (.head _) _ v) (ih fun x hx => hg x (.tail _ hx))
theorem esL_map {m : MS} (h1 : Mine.flat m.ad) (h2 : Mine.flat m.st) (q q' : Nat) : (esL m q).map (fun p => (p.1, toObj q' p.2)) = esL m q' := by
  unfold esL
  simp only [List.map_cons, List.map_nil, toObj_flat h1, toObj_flat h2]
  rfl
theorem DRs.swap {θ θ' : List Addr} {q q' : Nat} (e : ∀ a, θ[q]? = some a → θ'[q']? = some a) {m : MS} (h1 : Mine.flat m.ad) (h2 : Mine.flat m.st) {l : List DictEntry} (h : DRs θ (esL m q) l) : DRs θ' (esL m q') l := by
  rw [← esL_map h1 h2 q q']
  refine h.via _ fun x hx v hv => ?_
  by_cases f : Mine.flat x.2
  · rw [toObj_flat f]; exact hv.flat f
  · have : x.2 = .obj q := by
      unfold esL at hx
      simp only [List.mem_cons, List.not_mem_nil, or_false] at hx
      rcases hx with rfl | rfl | rfl | rfl | rfl | rfl | rfl | rfl | rfl | rfl | rfl | rfl | rfl | rfl | rfl | rfl <;> first | rfl | exact absurd trivial f | exact absurd h1 f | exact absurd h2 f
    rw [this] at hv ⊢
    obtain ⟨a, ha, rfl⟩ := hv
    exact ⟨a, e a ha, rfl⟩
theorem esOf_eq (m : MS) : esOf m = esL m 2 := rfl
noncomputable def Stp (m m' : MS) : Prop := ∀ Q : PV, (∀ j, Q (.obj 0) (stA m' j)) → clW mD mP 41 12 43 [.obj 0] (stA m []) Q
theorem WOK.all {X : Cx} (W : WOK X) : ClassOK X mD mP := by
  refine ⟨W.cls, W.fns, fun fa t g e => ?_⟩
  unfold mP at e
  split at e
  · rename_i hb
    cases e
    have := Nat.eq_of_beq_eq_true hb; subst this
    refine ⟨?_, fun dp vs as Q hd h => wrap_ok W hd h⟩
    obtain ⟨o, fd, a, b, _⟩ := W.fnW.ex
    exact ⟨o, fd, a, b⟩
  · cases e
theorem St.someAt {T : Hid} {h₀ : Heap} {g₀ : Array GenState} {os₀ : OsState} {θ : List Addr} {as : List AO} {s : Shared} (S : St T h₀ g₀ os₀ θ as s) {a : Addr} (m : a ∈ θ) : ∃ o, s.heap.get? a = Option.some o := by
  obtain ⟨i, hi, e⟩ := List.getElem_of_mem m
  have e' : θ[i]? = Option.some a := by rw [List.getElem?_eq_getElem hi, e]
  have hi' : i < as.length := by rw [S.ar.len]; exact hi
  obtain ⟨ob, h, _⟩ := S.ar.objs i as[i] _ (List.getElem?_eq_getElem hi') e'
  exact ⟨ob, h⟩
noncomputable def Cx.sub (X : Cx) : Cx := { X with T := ⟨X.T.tabs, []⟩ }
theorem WOK.sub {X : Cx} (W : WOK X) : WOK X.sub := ⟨W.cls, W.fns, W.fnW, W.code, W.glob, W.tab, W.uniq⟩
theorem step_cl {X : Cx} (W : WOK X) {m m' : MS} (h : Stp m m') (f1 : Mine.flat m.ad) (f2 : Mine.flat m.st) (f3 : Mine.flat m'.ad) (f4 : Mine.flat m'.st) {as : List AO} {i d q : Nat} {dp : Nat} (hdp : 12 ≤ dp) {Q : PV}
    (hi : as[i]? = some (.inst 1428 d)) (hd : as[d]? = some (.dict (esL m q))) (hq : as[q]? = some (.ints m.mem)) (hQ : Q (.obj i) ((as.set d (.dict (esL m' q))).set q (.ints m'.mem))) : ClS X dp (.ref 43) [.obj i] as Q := by
  intro A θ s us post E R S V c
  obtain ⟨us', rfl, V0⟩ : ∃ v, us = [v] ∧ VR θ (.obj i) v := by
    cases V with | cons a b => cases b with | nil => exact ⟨_, rfl, a⟩
  refine El_ea V0 fun x hx hr2 => ?_; obtain rfl := hr2; try clear V0
  have lt : ∀ {k : Nat} {o : AO}, as[k]? = some o → ∃ a, θ[k]? = some a := fun {k o} e => by
    have : k < θ.length := by rw [← S.ar.len]; exact (List.getElem?_eq_some_iff.mp e).1
    exact ⟨_, List.getElem?_eq_getElem this⟩
  obtain ⟨xd, hxd⟩ := lt hd
  obtain ⟨xq, hxq⟩ := lt hq
  have nid : i ≠ d := fun e => by rw [e, hd] at hi; cases hi
  have niq : i ≠ q := fun e => by rw [e, hq] at hi; cases hi
  have ndq : d ≠ q := fun e => by rw [e, hq] at hd; cases hd
  have inj : ∀ {a b : Nat} {y : Addr}, θ[a]? = some y → θ[b]? = some y → a = b := fun {a b y} e1 e2 => by
    obtain ⟨l1, h1⟩ := List.getElem?_eq_some_iff.mp e1
    obtain ⟨l2, h2⟩ := List.getElem?_eq_some_iff.mp e2
    have nd := List.pairwise_iff_getElem.mp S.ar.nodup
    rcases Nat.lt_trichotomy a b with r | r | r
    · exact absurd (h1.trans h2.symm) (nd a b l1 l2 r)
    · exact r
    · exact absurd (h2.trans h1.symm) (nd b a l2 l1 r)
  have sub : ∀ a ∈ [x, xd, xq], a ∈ θ := fun a ha => by
    simp only [List.mem_cons, List.not_mem_nil, or_false] at ha
    rcases ha with rfl | rfl | rfl
    · exact List.mem_of_getElem? hx
    · exact List.mem_of_getElem? hxd
    · exact List.mem_of_getElem? hxq
  have O1 := S.ar.objs i _ x hi hx
  have O2 := S.ar.objs d _ xd hd hxd
  have O3 := S.ar.objs q _ xq hq hxq
  have S0 : X.sub.S [x, xd, xq] (stA m []) s := by
    refine ⟨⟨rfl, ?_, ?_⟩, S.base, fun a ha => S.apart a (sub a ha), S.gens, S.os, fun e he => ?_, fun e he ha => S.hnin e he (sub _ ha), S.hbase, List.nil_prefix⟩
    · refine List.nodup_cons.mpr ⟨fun hm => ?_, List.nodup_cons.mpr ⟨fun hm => ?_, List.nodup_cons.mpr ⟨fun hm => (by cases hm), List.nodup_nil⟩⟩⟩
      · simp only [List.mem_cons, List.not_mem_nil, or_false] at hm
        rcases hm with rfl | rfl
        · exact nid (inj hx hxd)
        · exact niq (inj hx hxq)
      · simp only [List.mem_cons, List.not_mem_nil, or_false] at hm
        subst hm; exact ndq (inj hxd hxq)
    · intro k o a e1 e2
      match k, e1, e2 with
      | 0, e1, e2 =>
        cases e1; cases e2
        refine El_eaeea O1 fun ob g a' sl g1 g2 => ?_; try clear O1
        rw [hxd] at g1; cases g1
        exact ⟨ob, g, _, sl, rfl, g2⟩
      | 1, e1, e2 =>
        cases e1; cases e2
        refine El_eaeea O2 fun ob g l n g1 g2 => ?_; try clear O2
        refine ⟨ob, g, l, n, g1, ?_⟩
        rw [esOf_eq]
        exact g2.swap (fun a ha => by rw [hxq] at ha; cases ha; rfl) f1 f2
      | 2, e1, e2 => cases e1; cases e2; exact O3
      | k + 3, e1, e2 => simp [stA] at e1
    · exact (S.tabs e he).to (fun _ x => x) (fun _ _ _ y _ _ _ => y) fun c o hc n hm => n (sub c hm)
  have sp := (spec (WOK.sub W).all 41).cl 12 43 [.obj 0] (stA m []) _ (h (fun v as' => v = .obj 0 ∧ ∃ j, as' = stA m' j) fun j => ⟨rfl, j, rfl⟩)
  refine sp.2 A [x, xd, xq] s [.ref x] post E (R.le hdp) S0 (.cons ⟨x, rfl, rfl⟩ .nil) fun av as' θ' s' v hv S' X' V' => ?_
  obtain ⟨rfl, j, rfl⟩ := hv
  obtain ⟨y, hy, rfl⟩ := V'
  have p0 : θ'[0]? = some x := get_pre X'.pre rfl
  have p1 : θ'[1]? = some xd := get_pre X'.pre rfl
  have p2 : θ'[2]? = some xq := get_pre X'.pre rfl
  rw [p0] at hy; cases hy
  have R1 := S'.ar.objs 0 _ x rfl p0
  have R2 := S'.ar.objs 1 _ xd rfl p1
  have R3 := S'.ar.objs 2 _ xq rfl p2
  have keep : ∀ b o, s.heap.get? b = some o → b ∉ [x, xd, xq] → b ∉ X.H → s'.heap.get? b = some o := X'.keep
  refine c _ _ θ s' _ hQ ⟨⟨?_, S.ar.nodup, ?_⟩, S'.base, S.apart, S'.gens, S'.os, fun e he => ?_, S.hnin, S.hbase, S.pin⟩ ⟨List.prefix_refl θ, fun _ a b => absurd a b, fun b o e n nh => keep b o e (fun hm => n (sub b hm)) nh, X'.ex, X'.tab⟩ ⟨x, hx, rfl⟩
  · simp [S.ar.len]
  · intro k o a e1 e2
    by_cases kq : k = q
    · subst kq
      rw [hxq] at e2; cases e2
      rw [List.getElem?_set_self (by simp; rw [S.ar.len]; exact (List.getElem?_eq_some_iff.mp hxq).1)] at e1
      cases e1
      exact R3
    · rw [List.getElem?_set_ne (Ne.symm kq)] at e1
      by_cases kd : k = d
      · subst kd
        rw [hxd] at e2; cases e2
        rw [List.getElem?_set_self (by rw [S.ar.len]; exact (List.getElem?_eq_some_iff.mp hxd).1)] at e1
        cases e1
        refine El_eaeea R2 fun ob g l n g1 g2 => ?_; try clear R2
        refine ⟨ob, g, l, n, g1, ?_⟩
        rw [esOf_eq] at g2
        exact g2.swap (fun a ha => by rw [p2] at ha; cases ha; exact hxq) f3 f4
      · rw [List.getElem?_set_ne (Ne.symm kd)] at e1
        by_cases ki : k = i
        · subst ki
          rw [hx] at e2; cases e2
          rw [hi] at e1; cases e1
          refine El_eaeea R1 fun ob g a' sl g1 g2 => ?_; try clear R1
          rw [p1] at g1; cases g1
          exact ⟨ob, g, _, sl, hxd, g2⟩
        · obtain ⟨ob, g, g1⟩ := S.ar.objs k o a e1 e2
          refine ⟨ob, keep a ob g (fun hm => ?_) (fun hm => ?_), g1⟩
          · simp only [List.mem_cons, List.not_mem_nil, or_false] at hm
            rcases hm with rfl | rfl | rfl
            · exact ki (inj e2 hx)
            · exact kd (inj e2 hxd)
            · exact kq (inj e2 hxq)
          · obtain ⟨e, he, rfl⟩ := List.mem_map.mp hm
            exact S.hnin e he (List.mem_of_getElem? e2)
  · have hm : e.P ∈ hidOf X.T := List.mem_map_of_mem he
    rcases X'.tab e.P hm with eq | ⟨l, k, c', e1, e2⟩
    · refine (S.tabs e he).to (fun o ho => by rw [eq]; exact ho) (fun c'' o vs g g1 n nh => keep _ _ g (fun hm => n (sub _ hm)) nh) fun _ _ _ n => n
    · rcases S'.tabs e he with t | ⟨c'', t1, t2, t3, t4⟩
      · exact .inl t
      · refine .inr ⟨c'', t1, t2, fun hm => ?_, t4⟩
        rw [t1] at e1
        have : c'' = c' := by
          injection e1 with e1; injection e1 with _ _ e1 _; injection e1 with e1
          have := congrArg (fun v : Array Value => v[2]?) e1
          simpa using this
        subst this
        obtain ⟨ob, g⟩ := S.someAt hm
        rw [e2] at g; cases g
end
end Mine

end
section
open PySem PySem.W PyProof.Rows
namespace Mine
structure Free (X : Cx) (θ : List Addr) (h : Heap) (b : Addr) : Prop where
  nin : b ∉ θ
  nhid : b ∉ X.H
  nbase : X.h₀.get? b = none
  ncode : ∀ e ∈ X.T.tabs, ∀ l k c, h.get? e.P = some (tabObj #[l, k, .ref c]) → c ≠ b
  there : ∃ o, h.get? b = some o
section
variable {X : Cx} {dp : Nat} {f : Fm} {as as' : List AO} {θ θ' : List Addr} {s s' : Shared} {L b : Addr} {env : Env}
theorem tab_inj {l k l' k' : Value} {c c' : Addr} (h : tabObj #[l, k, .ref c] = tabObj #[l', k', .ref c']) : c = c' := by
  injection h with _ _ h _; injection h with h
  have := congrArg (fun v : Array Value => v[2]?) h
  simpa using this
theorem St.codeLt (S : X.S θ as s) {e : TabE} (he : e ∈ X.T.tabs) {l k : Value} {c : Addr} (h : s.heap.get? e.P = some (tabObj #[l, k, .ref c])) : c < s.heap.objs.size := by
  rcases S.tabs e he with t | ⟨c', t1, ⟨c'', o, vs, tt, e1, e2, _⟩, _⟩
  · rw [t] at h; injection h with h; injection h with _ _ h _; injection h with h; have := congrArg Array.size h; simp at this
  · cases e1
    rw [t1] at h; injection h with h
    rw [← tab_inj h]; exact Heap.lt_size e2
theorem Free.new (S : X.S θ as s) {h' : Heap} (hb : s.heap.objs.size ≤ b) (hk : ∀ a o, s.heap.get? a = some o → h'.get? a = some o) (ht : ∃ o, h'.get? b = some o) : Free X θ h' b := by
  refine ⟨fun m => absurd (S.lt m) (Nat.not_lt.mpr hb), fun m => ?_, ?_, fun e he l k c q r => ?_, ht⟩
  · obtain ⟨e, he, rfl⟩ := List.mem_map.mp m
    obtain ⟨ps, x⟩ := (S.tabs e he).is
    exact absurd (Heap.lt_size x) (Nat.not_lt.mpr hb)
  · cases q : X.h₀.get? b with
    | none => rfl
    | some o => exact absurd (Heap.lt_size (S.base _ _ q)) (Nat.not_lt.mpr hb)
  · obtain ⟨ps, x⟩ := (S.tabs e he).is
    have y := hk _ _ x
    rw [y] at q; injection q with q
    rw [q] at x
    exact absurd (S.codeLt he x) (Nat.not_lt.mpr (r ▸ hb))
theorem Free.extL (F : Free X θ s.heap b) (e : ExtL X.H L θ s.heap θ' s'.heap) (hL : b ≠ L) : Free X θ' s'.heap b := by
  obtain ⟨o, ho⟩ := F.there
  refine ⟨fun m => ?_, F.nhid, F.nbase, fun t ht l k c q => ?_, ⟨o, e.keep _ _ ho F.nin F.nhid hL⟩⟩
  · have := (e.fresh b m F.nin).1; rw [ho] at this; cases this
  · rcases e.tab t.P (List.mem_map_of_mem ht) with q' | ⟨l', k', c', q', r⟩
    · rw [q'] at q; exact F.ncode t ht l k c q
    · rw [q] at q'; injection q' with q'
      rw [tab_inj q']
      exact fun z => by rw [z, ho] at r; cases r
theorem Free.same {h h' : Heap} (F : Free X θ h b) (hk : ∀ a ∈ X.H, h'.get? a = h.get? a) (ht : ∃ o, h'.get? b = some o) : Free X θ h' b :=
  ⟨F.nin, F.nhid, F.nbase, fun e he l k c q => F.ncode e he l k c (by rw [← hk e.P (List.mem_map_of_mem he)]; exact q), ht⟩
theorem St.free (S : X.S θ as s) {fs : List Addr} (F : ∀ b ∈ fs, Free X θ s.heap b) {h' : Heap} {k : Nat} (hk : ∀ a o, a ∉ fs → s.heap.get? a = some o → h'.get? a = some o) : X.S θ as { s with heap := h', toks := k } := by
  refine ⟨⟨S.ar.len, S.ar.nodup, fun i o a e1 e2 => ?_⟩, fun a o e => ?_, S.apart, S.gens, S.os, fun e he => ?_, S.hnin, S.hbase, S.pin⟩
  · obtain ⟨ob, x, y⟩ := S.ar.objs i o a e1 e2
    exact ⟨ob, hk _ _ (fun m => (F a m).nin (List.mem_of_getElem? e2)) x, y⟩
  · exact hk _ _ (fun m => by rw [(F a m).nbase] at e; cases e) (S.base a o e)
  · have nP : e.P ∉ fs := fun m => (F _ m).nhid (List.mem_map_of_mem he)
    rcases S.tabs e he with t | ⟨c, t1, ⟨c', o, vs, tt, e1, e2, e3⟩, t3, t4⟩
    · exact .inl (hk _ _ nP t)
    · cases e1
      exact .inr ⟨c, hk _ _ nP t1, ⟨c, o, vs, tt, rfl, hk _ _ (fun m => (F _ m).ncode e he _ _ c t1 rfl) e2, e3⟩, t3, t4⟩
theorem FrR.free (F : FrR X f L env θ s.heap) {fs : List Addr} (hL : L ∉ fs) {h' : Heap} (hk : ∀ a o, a ∉ fs → s.heap.get? a = some o → h'.get? a = some o) : FrR X f L env θ h' := by
  obtain ⟨m, ⟨o, es, ep, ho, hd, hx, hf⟩, r⟩ := F.ns
  exact ⟨F.scope, F.kind, F.loc, F.nin, F.apart, F.nhid, ⟨m, ⟨o, es, ep, hk _ _ hL ho, hd, hx, hf⟩, r⟩, F.cells, F.glob, F.blt, F.code, F.qual⟩
noncomputable def GlobV (X : Cx) (x : Str) (v : Value) : Prop := ∃ mg mb, X.h₀.Ns 3 mg ∧ X.h₀.Ns 0 mb ∧ (mg x = some v ∨ (mg x = none ∧ mb x = some v))
theorem ev_glob {x : Str} {p : Pos} {av : AV} {v : Value} {Q : PV} (hk : isKind .globalImplicit f.sc x = true) (G : GlobV X x v) (hv : VR [] av v) (h : Q av as) : EvS X dp f (.Name x p) as Q := by
  intro A θ s L env post E R F S c
  refine El_eeaa G fun mg mb hg hb q => ?_; try clear G
  have fin := c av as θ s v h S (Ext.refl _ _) (hv.mono List.nil_prefix)
  refine Calls.Name_function_global (by rw [F.scope]; exact F.kind) (F.kindOf hk) ?_ (isKind_of hk).2
  rcases q with q | ⟨q1, q2⟩
  · exact Calls.loadGlobal_global (F.glob ▸ hg.keeps S.base) q fin
  · exact Calls.loadGlobal_builtin (F.glob ▸ hg.keeps S.base) q1 (F.blt ▸ hb.keeps S.base) q2 fin
structure LoopAt (X : Cx) (f : Fm) (L : Addr) (env : Env) (θ₀ : List Addr) (h₀ : Heap) (fs : List Addr) (J : Heap → Prop) (I : Loc → List AO → Prop) (s : Shared) : Prop where
  ex : ∃ θ as loc, I loc as ∧ X.S θ as s ∧ FrR X { f with loc := loc } L env θ s.heap ∧ ExtL X.H L θ₀ h₀ θ s.heap ∧ J s.heap ∧ ∀ b ∈ fs, Free X θ s.heap b
theorem for_core {target : Expr} {it : Value} {body : List Stmt} {A : Around} {θ₀ : List Addr} {h₀ : Heap} {fs : List Addr} {N : Nat} {J : Nat → Heap → Prop} {Inv Bd : Nat → Loc → List AO → Prop} {Q : PF} {post : Flow → Shared → Prop} {E : Value → Shared → Prop}
    (R : Room A dp) (hf : ∀ b ∈ fs, b ≠ L ∧ h₀.get? b = none) (hL : ∃ o, h₀.get? L = some o) (nL : L ∉ θ₀) (hJ : ∀ k h h', J k h → (∀ b ∈ fs, ∀ o, h.get? b = some o → h'.get? b = some o) → J k h')
    (nxt : ∀ k s (E' : Value → Shared → Prop), k < N → LoopAt X f L env θ₀ h₀ fs (J k) (Inv k) s → wpAny X.M A (pyNext it) (fun r s₁ => ∃ v, r = some v ∧ wpAny X.M A (letOwnedTupleGo target it v) (fun _ s₂ => wpAny X.M A (assign target env v) (fun _ s₃ => LoopAt X f L env θ₀ h₀ fs (J (k + 1)) (Bd k) s₃) E' s₂) E' s₁) E' s)
    (stop : ∀ s (E' : Value → Shared → Prop), LoopAt X f L env θ₀ h₀ fs (J N) (Inv N) s → wpAny X.M A (pyNext it) (fun r s₁ => r = none ∧ LoopAt X f L env θ₀ h₀ [] (fun _ => True) (Q .next) s₁) E' s)
    (run : ∀ k loc as, Bd k loc as → ExsS X dp { f with loc := loc } body as fun fl loc' as' => match fl with | .next | .cont => Inv (k + 1) loc' as' | .brk => Q .next loc' as' | .ret v => Q (.ret v) loc' as')
    (c : ∀ fl loc' as' θ' s' g, Q fl loc' as' → X.S θ' as' s' → ExtL X.H L θ₀ h₀ θ' s'.heap → FrR X { f with loc := loc' } L env θ' s'.heap → FlR θ' fl g → post g s')
    (h : LoopAt X f L env θ₀ h₀ fs (J 0) (Inv 0) s) :
    codeAny X.M A (.forLoop target it body [] env) (fun r s' => match r with | .ok g => post g s' | .error e => cameBackBy X.M A env E e s') s := by
  refine codeAny_forLoop_any (fun n s => ∃ k, k ≤ N ∧ n = N - k ∧ LoopAt X f L env θ₀ h₀ fs (J k) (Inv k) s) ?_ N ⟨0, Nat.zero_le _, rfl, h⟩
  rintro n s ⟨k, hk, rfl, hI⟩
  by_cases q : k = N
  · subst q
    refine wpAny_mono (stop s _ hI) (fun r s₁ ⟨e, h₁⟩ => ?_) fun _ _ x => x
    subst e
    refine El_eeeaaaa h₁.ex fun θ as loc q1 q2 q3 q4 _ => ?_
    exact wpAny_execs_nil (c .next loc as θ s₁ .next q1 q2 q4 q3 rfl)
  · refine wpAny_mono (nxt k s _ (by exact Nat.lt_of_le_of_ne hk q) hI) (fun r s₁ ⟨v, e, h₁⟩ => ?_) fun _ _ x => x
    subst e
    refine wpAny_mono h₁ (fun _ s₂ h₂ => wpAny_mono h₂ (fun _ s₃ h₃ => ?_) fun _ _ x => x) fun _ _ x => x
    refine El_eeeaaaaa h₃.ex fun θ as loc q1 q2 q3 q4 q5 q6 => ?_
    refine run k loc as q1 A θ s₃ L env _ _ R q3 q2 fun fl loc' as' θ' s' g p1 p2 p3 p4 p5 => ?_
    have X₄ : ExtL X.H L θ₀ h₀ θ' s'.heap := q4.trans hL nL q3.there p3
    cases fl with
    | next =>
      cases p5
      exact ⟨N - (k + 1), by lia, k + 1, by lia, rfl, ⟨θ', as', loc', p1, p2, p4, X₄, hJ _ _ _ q5 fun b hb o ho => p3.keep _ _ ho (q6 b hb).nin (q6 b hb).nhid (hf b hb).1, fun b hb => (q6 b hb).extL p3 (hf b hb).1⟩⟩
    | cont =>
      cases p5
      exact ⟨N - (k + 1), by lia, k + 1, by lia, rfl, ⟨θ', as', loc', p1, p2, p4, X₄, hJ _ _ _ q5 fun b hb o ho => p3.keep _ _ ho (q6 b hb).nin (q6 b hb).nhid (hf b hb).1, fun b hb => (q6 b hb).extL p3 (hf b hb).1⟩⟩
    | brk => cases p5; exact c _ _ _ θ' s' .next p1 p2 X₄ p4 rfl
    | ret v => refine El_ea p5 fun u hr1 hu => ?_; obtain rfl := hr1; try clear p5; exact c _ _ _ θ' s' _ p1 p2 X₄ p4 ⟨u, rfl, hu⟩
end
end Mine

end
section
open PySem PySem.W PyProof.Rows
namespace Mine
section
variable {X : Cx} {dp : Nat} {f : Fm} {as as' : List AO} {θ θ' : List Addr} {s s' : Shared} {L b : Addr} {env : Env}
theorem ExtL.free {H : List Addr} {θ₀ : List Addr} {h₀ h h' : Heap} (e : ExtL H L θ₀ h₀ θ h) {fs : List Addr} (hf : ∀ b ∈ fs, h₀.get? b = none) (hk : ∀ a o, a ∉ fs → h.get? a = some o → h'.get? a = some o) (ht : ∀ P ∈ H, h'.get? P = h.get? P) : ExtL H L θ₀ h₀ θ h' :=
  ⟨e.pre, e.fresh, fun b o q n1 n2 n3 => hk _ _ (fun m => by rw [hf b m] at q; cases q) (e.keep b o q n1 n2 n3), fun b o q => (let ⟨o', z⟩ := e.ex b o q; ⟨o', hk _ _ (fun m => by rw [hf b m] at q; cases q) z⟩), tab_trans e.ex e.tab fun P m => .inl (ht P m)⟩
theorem St.tabSame (S : X.S θ as s) {fs : List Addr} (F : ∀ b ∈ fs, Free X θ s.heap b) {h' : Heap} (hk : ∀ a o, a ∉ fs → s.heap.get? a = some o → h'.get? a = some o) : ∀ P ∈ X.H, h'.get? P = s.heap.get? P := fun P m => by
  obtain ⟨e, he, rfl⟩ := List.mem_map.mp m
  obtain ⟨ps, x⟩ := (S.tabs e he).is
  rw [x]; exact hk _ _ (fun q => (F _ q).nhid (List.mem_map_of_mem he)) x
theorem LoopAt.free {θ₀ : List Addr} {h₀ : Heap} {fs fs' : List Addr} {J J' : Heap → Prop} {I : Loc → List AO → Prop} (h : LoopAt X f L env θ₀ h₀ fs J I s) (hf : ∀ b ∈ fs, b ≠ L ∧ h₀.get? b = none) (hsub : ∀ b ∈ fs', b ∈ fs) {h' : Heap} {k : Nat}
    (hk : ∀ a o, a ∉ fs → s.heap.get? a = some o → h'.get? a = some o) (ht : ∀ b ∈ fs', ∃ o, h'.get? b = some o) (hJ : J' h') : LoopAt X f L env θ₀ h₀ fs' J' I { s with heap := h', toks := k } := by
  refine El_eeeaaaaa h.ex fun θ as loc q1 q2 q3 q4 q5 q6 => ?_
  have tS := q2.tabSame q6 hk
  exact ⟨θ, as, loc, q1, q2.free q6 hk, q3.free (fun m => (hf L m).1 rfl) hk, q4.free (fun b m => (hf b m).2) hk tS, hJ, fun b m => (q6 b (hsub b m)).same tS (ht b m)⟩
theorem LoopAt.store {θ₀ : List Addr} {h₀ : Heap} {fs : List Addr} {J : Heap → Prop} {I I' : Loc → List AO → Prop} {x : Str} {av : AV} {v : Value} {A : Around} {E : Value → Shared → Prop} (h : LoopAt X f L env θ₀ h₀ fs J I s) (hf : ∀ b ∈ fs, b ≠ L ∧ h₀.get? b = none) 
    (hJ : ∀ h h', J h → (∀ b ∈ fs, ∀ o, h.get? b = some o → h'.get? b = some o) → J h') (hv : ∀ θ, VR θ av v)
    (hI : ∀ loc as, I loc as → storeW { f with loc := loc } x av as fun loc' as' => I' loc' as') : wpAny X.M A (storeName env x v) (fun _ s₃ => LoopAt X f L env θ₀ h₀ fs J I' s₃) E s := by
  refine El_eeeaaaaa h.ex fun θ as loc q1 q2 q3 q4 q5 q6 => ?_
  refine store_ok (hI loc as q1) q3 q2 (hv θ) fun loc' as' s' p1 p2 p3 p4 => ?_
  exact ⟨θ, as', loc', p1, p2, p4, q4.thru q3.there p3, hJ _ _ q5 fun b hb o ho => p3.keep _ _ ho (q6 b hb).nin (q6 b hb).nhid (hf b hb).1, fun b hb => (q6 b hb).extL p3 (hf b hb).1⟩
theorem St.junk (S : X.S θ as s) (o : Obj) : X.S θ as { s with heap := s.heap.push o } ∧ Ext X.H θ s.heap θ (s.heap.push o) :=
  ⟨S.keeps (k := s.toks) fun b o e => Heap.get?_push_of_some _ e, ⟨List.prefix_refl _, fun _ a b => absurd a b, fun b o e _ _ => Heap.get?_push_of_some _ e, fun b o e => ⟨o, Heap.get?_push_of_some _ e⟩, S.tabKeep fun b o e => Heap.get?_push_of_some _ e⟩⟩
inductive RngArgs : List AV → Int → Int → Prop
  | one (b : Int) : RngArgs [.int b] 0 b
  | two (a b : Int) : RngArgs [.int a, .int b] a b
noncomputable def Small (a : Int) : Prop := -(2 ^ 62) ≤ a ∧ a < 2 ^ 62
theorem call_rng {vs : List AV} {us : List Value} {a b : Int} (V : VRs θ vs us) (h : RngArgs vs a b) {A : Around} {E : Value → Shared → Prop} {Q : Value → Shared → Prop}
    (c : ∀ t u v k, Q (.ref s.heap.objs.size) { s with heap := s.heap.push { cls := .type "range", data := .fields #[.int a t, .int b u, .int 1 v] }, toks := k }) : wpAny X.M A (call (.type "range") us) Q E s := by
  cases h with
  | one b =>
    cases V with | cons x r => cases r with | nil =>
      obtain ⟨t, rfl⟩ := x
      exact call_range_1 (c _ _ _ _)
  | two a b =>
    cases V with | cons x r => cases r with | cons y r => cases r with | nil =>
      obtain ⟨t, rfl⟩ := x
      obtain ⟨u, rfl⟩ := y
      exact call_range_2 (c _ _ _ _)
theorem one_mem {P : Addr → Prop} {it : Addr} (h : P it) : ∀ b ∈ [it], P b := fun b m => by
  have e : b = it := by simpa using m
  exact e ▸ h
end
end Mine

end
section
open PySem PySem.W PyProof.Rows
set_option backward.match.sparseCases false
namespace Mine
section
variable {X : Cx} {dp : Nat} {f : Fm} {as as' : List AO} {θ θ' : List Addr} {s s' : Shared} {L b : Addr} {env : Env}
theorem st_brk {pos : Pos} {Q : PF} (h : Q .brk f.loc as) : ExS X dp f (.Break pos) as Q := fun _ θ s L _ _ _ _ F S c => wpAny_Break (c _ _ _ θ s _ h S (ExtL.refl L θ _) F rfl)
theorem st_cont {pos : Pos} {Q : PF} (h : Q .cont f.loc as) : ExS X dp f (.Continue pos) as Q := fun _ θ s L _ _ _ _ F S c => wpAny_Continue (c _ _ _ θ s _ h S (ExtL.refl L θ _) F rfl)
noncomputable def storesW (f : Fm) : List Str → List AV → List AO → (Loc → List AO → Prop) → Prop
  | [], [], as, Q => Q f.loc as
  | x :: xs, v :: vs, as, Q => storeW f x v as fun loc as₁ => storesW { f with loc := loc } xs vs as₁ Q
  | _, _, _, _ => False
noncomputable def namesOf : List Expr → Option (List Str)
  | [] => some []
  | .Name x _ :: r => (namesOf r).map (x :: ·)
  | _ :: _ => none
theorem names_each {elts : List Expr} : ∀ {ns : List Str}, namesOf elts = some ns → ∀ env, ∃ ps : List Pos, ps.length = ns.length ∧ assignEach elts env = (ns.zip ps).map fun x => (false, assign (.Name x.1 x.2) env) := by
  induction elts with
  | nil => intro ns h env; cases h; exact ⟨[], rfl, rfl⟩
  | cons e r ih =>
    intro ns h env
    cases e with
    | Name x p =>
      refine El_ea (Option.map_eq_some_iff.mp (show (namesOf r).map (x :: ·) = some ns from h)) fun ns' e hr2 => ?_; obtain rfl := hr2
      refine El_ea (ih e env) fun ps hl he => ?_
      exact ⟨p :: ps, by simp [hl], by show _ :: assignEach r env = _; rw [he]; rfl⟩
    | _ => exact nosome h
theorem stores_ok {A : Around} {E : Value → Shared → Prop} {P : Loc → List AO → Prop} {post : Unit → Shared → Prop} (ns : List Str) : ∀ (ps : List Pos) (vs : List AV) (us : List Value) (f : Fm) (as : List AO) (s : Shared),
    ps.length = ns.length → storesW f ns vs as P → FrR X f L env θ s.heap → X.S θ as s → VRs θ vs us →
    (∀ loc' as' s', P loc' as' → X.S θ as' s' → ExtL X.H L θ s.heap θ s'.heap → FrR X { f with loc := loc' } L env θ s'.heap → post () s') →
    wpAny X.M A (assignInOrder ((ns.zip ps).map fun x => assign (.Name x.1 x.2) env) us) post E s := by
  induction ns with
  | nil =>
    intro ps vs us f as s hl h F S V c
    cases V with
    | nil => exact wpAny_pure (c _ _ s h S (ExtL.refl _ _ _) F)
    | cons _ _ => exact h.elim
  | cons x ns ih =>
    intro ps vs us f as s hl h F S V c
    cases V with
    | nil => exact h.elim
    | @cons v u vs us V Vs =>
      cases ps with
      | nil => cases hl
      | cons p ps =>
        show wpAny X.M A (holding us (assign (.Name x p) env u) >>= fun _ => assignInOrder _ us) post E s
        refine wpAny_bind (wpAny_holding (wpAny_assign_Name (store_ok (f := f) h F S V fun loc' as' s' q S' X' F' => ?_)))
        exact ih ps vs us { f with loc := loc' } as' s' (by simpa using hl) q F' S' Vs fun loc₂ as₂ s₂ q₂ S₂ X₂ F₂ => c loc₂ as₂ s₂ q₂ S₂ (X'.trans F.there F.nin F'.there X₂) F₂
noncomputable def seqOfA : AO → Option (List AV)
  | .ints xs => some (xs.map .int)
  | .intx xs => some (xs.map .int)
  | .list xs => some xs
  | .tuple xs => some xs
  | _ => none
theorem ints_vrs : ∀ {vs : List Value} {xs : List Int}, IntsAre vs xs → VRs θ (xs.map .int) vs
  | _, _, .nil => .nil
  | _, _, .cons n t h => .cons ⟨t, rfl⟩ (ints_vrs h)
theorem seq_of (S : X.S θ as s) {i : Nat} {a : Addr} {o : AO} {xs : List AV} (hi : as[i]? = some o) (ha : θ[i]? = some a) (h : seqOfA o = some xs) : ∃ vs, (s.heap.IsList a vs ∨ s.heap.IsTuple a vs) ∧ VRs θ xs vs.toList := by
  rcases o with ys | ys | v | ob | ys | ys | ⟨C, d⟩ | es | ⟨fa, i⟩ | ⟨pp, ww, es⟩
  · obtain rfl := Option.some.inj (show some (ys.map AV.int) = some xs from h); obtain ⟨vs, l, r⟩ := ints_of S hi ha; exact ⟨vs, .inl l, ints_vrs r⟩
  · obtain rfl := Option.some.inj (show some (ys.map AV.int) = some xs from h); obtain ⟨vs, l, r⟩ := intx_of S hi ha; exact ⟨vs, .inl l, ints_vrs r⟩
  · exact absurd (show none = some xs from h) (by simp)
  · exact absurd (show none = some xs from h) (by simp)
  · obtain rfl := Option.some.inj (show some ys = some xs from h); obtain ⟨vs, l, r⟩ := list_of S hi ha; exact ⟨vs, .inl l, r⟩
  · obtain rfl := Option.some.inj (show some ys = some xs from h)
    refine El_eaeea (S.ar.objs i _ a hi ha) fun ob h1 vs n hr4 r => ?_; obtain rfl := hr4
    exact ⟨vs, .inr ⟨_, h1, rfl, n, rfl⟩, r⟩
  all_goals exact absurd (show none = some xs from h) (by simp)
noncomputable def bindW (f : Fm) (t : Expr) (v : AV) (as : List AO) (Q : Loc → List AO → Prop) : Prop := match t with
  | .Name x _ => storeW f x v as Q
  | .Tuple elts _ _ => onSm (namesOf elts) (fun ns => onObj v (fun j => onSm as[j]? (fun o => onSm (seqOfA o) (fun xs => xs.length = ns.length ∧ storesW f ns xs as Q) False) False) False) False
  | _ => False
theorem bind_ok {t : Expr} {av : AV} {v : Value} {P : Loc → List AO → Prop} {A : Around} {E : Value → Shared → Prop} {post : Unit → Shared → Prop} (hh : A.handled = none)
    (e : bindW f t av as P) (F : FrR X f L env θ s.heap) (S : X.S θ as s) (V : VR θ av v)
    (c : ∀ loc' as' s', P loc' as' → X.S θ as' s' → ExtL X.H L θ s.heap θ s'.heap → FrR X { f with loc := loc' } L env θ s'.heap → post () s') : wpAny X.M A (assign t env v) post E s := by
  cases t with
  | Name x p => exact wpAny_assign_Name (store_ok e F S V c)
  | Tuple elts k0 p0 =>
      obtain ⟨ns, hn, e⟩ := onSm_t e
      obtain ⟨j, rfl, e⟩ := onObj_t e
      obtain ⟨o, hj, e⟩ := onSm_t e
      obtain ⟨xs, hx, e⟩ := onSm_t e
      obtain ⟨a, ha, rfl⟩ := V
      obtain ⟨vs, hl, r⟩ := seq_of S hj ha hx
      obtain ⟨ps, hp, he⟩ := names_each hn env
      have hlen : (assignEach elts env).length = vs.size := by
        rw [he, List.length_map, List.length_zip, hp, Nat.min_self, ← Array.length_toList, r.len, e.1]
      have hst : (assignEach elts env).findIdx? (·.1) = none := by
        rw [he, List.findIdx?_eq_none_iff]
        intro y hy; obtain ⟨z, _, rfl⟩ := List.mem_map.mp hy; rfl
      have fin : ∀ h', Heap.ExtBut s.heap.objs.size s.heap h' → wpAny X.M A (assignInOrder ((assignEach elts env).map (·.2)) vs.toList) post E { s with heap := h' } := fun h' hx => by
        have hk : ∀ b o, s.heap.get? b = some o → h'.get? b = some o := fun b o q => hx b o (Nat.ne_of_lt (Heap.lt_size q)) q
        have S' : X.S θ as { s with heap := h' } := S.keeps (k := s.toks) hk
        have Y : Ext X.H θ s.heap θ h' := ⟨List.prefix_refl _, fun _ a b => absurd a b, fun b o q _ _ => hk b o q, fun b o q => ⟨o, hk b o q⟩, S.tabKeep hk⟩
        rw [he, List.map_map]
        refine stores_ok ns ps xs vs.toList f as _ hp e.2 (F.ext Y) S' r fun loc' as' s' q S₂ X₂ F₂ => c loc' as' s' q S₂ (Y.toL.trans F.there F.nin (F.ext Y).there X₂) F₂
      rw [arm_assign_Tuple]
      refine wpAny_bind (wpAny_standAt ?_)
      unfold unpack
      rw [hlen, hst]
      rcases hl with hl | hl
      · exact wpAny_bind (wpAny_holding (kun_itemsOf hh hl fin))
      · exact wpAny_bind (wpAny_holding (wpAny_unpackItems_tuple hh hl fin))
  | _ => exact e.elim
end
end Mine

end
section
open PySem PySem.W PyProof.Rows
namespace Mine
section
variable {X : Cx} {dp : Nat} {f : Fm} {as as' : List AO} {θ θ' : List Addr} {s s' : Shared} {L b : Addr} {env : Env}
theorem St.at (S : X.S θ as s) {i : Nat} {a : Addr} (ha : θ[i]? = some a) : ∃ o, s.heap.get? a = some o := by
  have hi' : i < as.length := by rw [S.ar.len]; exact (List.getElem?_eq_some_iff.mp ha).1
  obtain ⟨ob, h, _⟩ := S.ar.objs i as[i] _ (List.getElem?_eq_getElem hi') ha
  exact ⟨ob, h⟩
noncomputable def listA : AO → Option (List AV)
  | .tuple _ => none
  | o => seqOfA o
noncomputable def FixI (o : Obj) (xs : List Int) : Prop := o.cls = .type "list" ∧ ∃ vs n, o.data = .seq vs n ∧ IntsAre vs.toList xs
theorem fix_of (S : X.S θ as s) {i : Nat} {a : Addr} {o : Obj} {xs : List Int} (hi : as[i]? = some (.fix o)) (ha : θ[i]? = some a) (h : FixI o xs) : ∃ vs, s.heap.IsList a vs ∧ IntsAre vs.toList xs := by
  obtain ⟨ob, h1, rfl⟩ := S.ar.objs i _ a hi ha
  refine El_aeea h fun c vs n d r => ?_; try clear h
  exact ⟨vs, ⟨_, h1, c, n, d⟩, r⟩
theorem listA_of (S : X.S θ as s) {i : Nat} {a : Addr} {o : AO} {xs : List AV} (hi : as[i]? = some o) (ha : θ[i]? = some a) (h : listA o = some xs) : ∃ vs, s.heap.IsList a vs ∧ VRs θ xs vs.toList := by
  rcases o with ys | ys | v | ob | ys | ys | ⟨C, d⟩ | es | ⟨fa, i⟩ | ⟨pp, ww, es⟩
  · obtain rfl := Option.some.inj (show some (ys.map AV.int) = some xs from h); obtain ⟨vs, l, r⟩ := ints_of S hi ha; exact ⟨vs, l, ints_vrs r⟩
  · obtain rfl := Option.some.inj (show some (ys.map AV.int) = some xs from h); obtain ⟨vs, l, r⟩ := intx_of S hi ha; exact ⟨vs, l, ints_vrs r⟩
  · exact absurd (show none = some xs from h) (by simp)
  · exact absurd (show none = some xs from h) (by simp)
  · obtain rfl := Option.some.inj (show some ys = some xs from h); obtain ⟨vs, l, r⟩ := list_of S hi ha; exact ⟨vs, l, r⟩
  all_goals exact absurd (show none = some xs from h) (by simp)
theorem letOwned_list {A : Around} {E : Value → Shared → Prop} {t : Expr} {it l : Addr} {k : Nat} {v : Value} {Q : Unit → Shared → Prop} (hi : s.heap.IsListIter it l k) (h : Q () s) : wpAny X.M A (letOwnedTupleGo t (.ref it) v) Q E s := by
  obtain ⟨o, ho, hc, hd⟩ := hi
  have go : wpAny X.M A (letOwnedTupleGo (.Tuple [] 0 default) (.ref it) v) Q E s := by
    unfold letOwnedTupleGo
    cases v <;> first | exact wpAny_pure h | (refine wpAny_bind (wpAny_load ho ?_); rw [hc, hd]; exact wpAny_pure h)
  cases t <;> first | exact go | exact wpAny_pure h
theorem LoopAt.keep {θ₀ : List Addr} {h₀ : Heap} {fs : List Addr} {J : Heap → Prop} {I : Loc → List AO → Prop} (h : LoopAt X f L env θ₀ h₀ fs J I s) (hJ : ∀ h h', J h → (∀ b ∈ fs, ∀ o, h.get? b = some o → h'.get? b = some o) → J h') {h' : Heap} {k : Nat}
    (hk : ∀ a o, s.heap.get? a = some o → h'.get? a = some o) : LoopAt X f L env θ₀ h₀ fs J I { s with heap := h', toks := k } := by
  refine El_eeeaaaaa h.ex fun θ as loc q1 q2 q3 q4 q5 q6 => ?_
  have Y : Ext X.H θ s.heap θ h' := ⟨List.prefix_refl _, fun _ a b => absurd a b, fun b o q _ _ => hk b o q, fun b o q => ⟨o, hk b o q⟩, q2.tabKeep hk⟩
  exact ⟨θ, as, loc, q1, q2.keeps hk, q3.ext Y, ⟨q4.pre, q4.fresh, fun b o q a c d => hk _ _ (q4.keep b o q a c d), fun b o q => (let ⟨o', z⟩ := q4.ex b o q; ⟨o', hk _ _ z⟩), tab_trans q4.ex q4.tab Y.tab⟩, hJ _ _ q5 fun b _ o q => hk b o q,
    fun b m => (q6 b m).same (fun a m => by
      obtain ⟨e, he, rfl⟩ := List.mem_map.mp m
      obtain ⟨ps, x⟩ := (q2.tabs e he).is
      rw [x]; exact hk _ _ x) (let ⟨o, z⟩ := (q6 b m).there; ⟨o, hk _ _ z⟩)⟩
theorem LoopAt.stores {θ₀ : List Addr} {h₀ : Heap} {fs : List Addr} {J : Heap → Prop} {I I' : Loc → List AO → Prop} {ns : List Str} {ps : List Pos} {vs : List AV} {us : List Value} {A : Around} {E : Value → Shared → Prop} (h : LoopAt X f L env θ₀ h₀ fs J I s) (hf : ∀ b ∈ fs, b ≠ L ∧ h₀.get? b = none) 
    (hJ : ∀ h h', J h → (∀ b ∈ fs, ∀ o, h.get? b = some o → h'.get? b = some o) → J h') (hp : ps.length = ns.length) (hv : ∀ θ, VRs θ vs us)
    (hI : ∀ loc as, I loc as → storesW { f with loc := loc } ns vs as fun loc' as' => I' loc' as') : wpAny X.M A (assignInOrder ((ns.zip ps).map fun x => assign (.Name x.1 x.2) env) us) (fun _ s₃ => LoopAt X f L env θ₀ h₀ fs J I' s₃) E s := by
  refine El_eeeaaaaa h.ex fun θ as loc q1 q2 q3 q4 q5 q6 => ?_
  refine stores_ok ns ps vs us _ as s hp (hI loc as q1) q3 q2 (hv θ) fun loc' as' s' p1 p2 p3 p4 => ?_
  exact ⟨θ, as', loc', p1, p2, p4, q4.thru q3.there p3, hJ _ _ q5 fun b hb o ho => p3.keep _ _ ho (q6 b hb).nin (q6 b hb).nhid (hf b hb).1, fun b hb => (q6 b hb).extL p3 (hf b hb).1⟩
theorem LoopAt.bind {θ₀ : List Addr} {h₀ : Heap} {fs : List Addr} {J : Heap → Prop} {I I' : Loc → List AO → Prop} {t : Expr} {av : AV} {v : Value} {A : Around} {E : Value → Shared → Prop} (hh : A.handled = none) (h : LoopAt X f L env θ₀ h₀ fs J I s) (hf : ∀ b ∈ fs, b ≠ L ∧ h₀.get? b = none) 
    (hJ : ∀ h h', J h → (∀ b ∈ fs, ∀ o, h.get? b = some o → h'.get? b = some o) → J h') (hI : ∀ loc as θ, I loc as → X.S θ as s → θ₀ <+: θ → VR θ av v ∧ bindW { f with loc := loc } t av as fun loc' as' => I' loc' as') : wpAny X.M A (assign t env v) (fun _ s₃ => LoopAt X f L env θ₀ h₀ fs J I' s₃) E s := by
  refine El_eeeaaaaa h.ex fun θ as loc q1 q2 q3 q4 q5 q6 => ?_
  have z := hI loc as θ q1 q2 q4.pre
  refine bind_ok hh z.2 q3 q2 z.1 fun loc' as' s' p1 p2 p3 p4 => ?_
  exact ⟨θ, as', loc', p1, p2, p4, q4.thru q3.there p3, hJ _ _ q5 fun b hb o ho => p3.keep _ _ ho (q6 b hb).nin (q6 b hb).nhid (hf b hb).1, fun b hb => (q6 b hb).extL p3 (hf b hb).1⟩
end
end Mine

end
section
open PySem PySem.W PyProof.Rows
namespace Mine
section
variable {X : Cx} {dp : Nat} {f : Fm} {as as' : List AO} {θ θ' : List Addr} {s s' : Shared} {L b : Addr} {env : Env}
end
end Mine

end
section
open PySem PySem.W PyProof.Rows
namespace Mine
noncomputable def intsOf : List AV → Option (List Int)
  | [] => some []
  | .int i :: r => (match intsOf r with | some xs => some (i :: xs) | none => none)
  | _ => none
noncomputable def mkL (vs : List AV) : AO := match intsOf vs with
  | some xs => .intx xs
  | none => .list vs
section
variable {X : Cx} {dp : Nat} {f : Fm} {as as' : List AO} {θ θ' : List Addr} {s s' : Shared} {L b : Addr} {env : Env}
theorem intsOf_ok {vs : List AV} : ∀ {us : List Value} {xs : List Int}, VRs θ vs us → intsOf vs = some xs → IntsAre us xs := by
  induction vs with
  | nil => intro us xs V h; cases V; cases h; exact .nil
  | cons v r ih =>
    intro us xs V h
    cases V with
    | cons e V => cases v with
      | int i =>
        obtain ⟨t, e⟩ := e
        subst e
        revert h
        show (match intsOf r with | some xs => some (i :: xs) | none => none) = some xs → _
        cases hy : intsOf r with
        | none => exact fun h => nosome h
        | some ys => intro h; cases h; exact .cons i t (ih V hy)
      | _ => exact nosome h
theorem mkL_ok {vs : List AV} {us : List Value} (V : VRs θ vs us) : OR θ (mkL vs) { cls := .type "list", data := .seq us.toArray } := by
  unfold mkL
  cases h : intsOf vs with
  | some xs => exact ⟨us.toArray, 0, rfl, intsOf_ok V h⟩
  | none => exact ⟨us.toArray, 0, rfl, V⟩
theorem OR.pre {o : AO} {ob : Obj} (h : OR θ o ob) (a : Addr) : OR (θ ++ [a]) o ob := h.mono ⟨_, rfl⟩
theorem obj_new (S : X.S θ as s) {a : Addr} : VR (θ ++ [a]) (.obj as.length) (.ref a) := ⟨a, by rw [S.ar.len]; simp, rfl⟩
theorem ev_list {elts : List Expr} {pos : Pos} {Q : PV} (hs : noStar elts = true) (h : EvsS X dp f elts as fun vs as₁ => vs.length ≤ 100000 ∧ Q (.obj as₁.length) (as₁ ++ [mkL vs])) : EvS X dp f (.List elts pos) as Q := by
  intro A θ s L env post E R F S c
  refine wpAny_List ?_
  rw [back_eq pos env elts hs]
  refine h A θ s L env _ E R F S fun vs as₁ θ₁ s₁ us q S₁ X₁ V₁ => ⟨by rw [V₁.len, sizeLine_eq]; lia, ?_⟩
  have P := S₁.push (ob := { cls := .type "list", data := .seq us.toArray }) rfl (OR.pre (mkL_ok V₁) _)
  exact c _ _ _ _ _ q.2 P.1 (X₁.trans P.2) (obj_new S₁)
theorem ev_tuple {elts : List Expr} {k : Nat} {pos : Pos} {Q : PV} (hs : noStar elts = true) (h : EvsS X dp f elts as fun vs as₁ => vs.length ≤ 100000 ∧ Q (.obj as₁.length) (as₁ ++ [.tuple vs])) : EvS X dp f (.Tuple elts k pos) as Q := by
  intro A θ s L env post E R F S c
  refine wpAny_Tuple ?_
  rw [back_eq pos env elts hs]
  refine h A θ s L env _ E R F S fun vs as₁ θ₁ s₁ us q S₁ X₁ V₁ => ⟨by rw [V₁.len, sizeLine_eq]; lia, ?_⟩
  have P := S₁.push (o := .tuple vs) (ob := { cls := .type "tuple", data := .seq us.toArray }) rfl (OR.pre (o := .tuple vs) ⟨us.toArray, 0, rfl, V₁⟩ _)
  exact c _ _ _ _ _ q.2 P.1 (X₁.trans P.2) (obj_new S₁)
theorem ev_ifexp {t a e : Expr} {pos : Pos} {Q : PV} (h : TsS X dp f t as fun b as₁ => ifB b (EvS X dp f a as₁ Q) (EvS X dp f e as₁ Q)) : EvS X dp f (.IfExp t a e pos) as Q := by
  intro A θ s L env post E R F S c
  refine wpAny_IfExp (h A θ s L env _ E R F S fun bb as₁ θ₁ s₁ q S₁ X₁ => ?_)
  cases bb with
  | true => exact q A θ₁ s₁ L env _ E R (F.ext X₁) S₁ fun av as' θ' s' v q' S' X' V' => c _ _ _ _ _ q' S' (X₁.trans X') V'
  | false => exact q A θ₁ s₁ L env _ E R (F.ext X₁) S₁ fun av as' θ' s' v q' S' X' V' => c _ _ _ _ _ q' S' (X₁.trans X') V'
noncomputable def LenI (ob : AO) (n : Nat) : Prop := (∃ xs, listA ob = some xs ∧ n = xs.length) ∨ ∃ o xs, ob = .fix o ∧ FixI o xs ∧ n = xs.length
theorem lenI_of (S : X.S θ as s) {i : Nat} {a : Addr} {ob : AO} {n : Nat} (hi : as[i]? = some ob) (ha : θ[i]? = some a) (h : LenI ob n) : ∃ vs, s.heap.IsList a vs ∧ vs.size = n := by
  rcases h with ⟨xs, e, rfl⟩ | ⟨o, xs, rfl, e, rfl⟩
  · obtain ⟨vs, il, r⟩ := listA_of S hi ha e
    exact ⟨vs, il, by rw [← Array.length_toList]; exact r.len⟩
  · obtain ⟨vs, il, r⟩ := fix_of S hi ha e
    exact ⟨vs, il, by rw [← Array.length_toList]; exact r.length⟩
end
end Mine

end
section
open PySem PySem.W PyProof.Rows
namespace Mine
noncomputable def intsA : AO → Option (List Int)
  | .ints xs => some xs
  | .intx xs => some xs
  | _ => none
noncomputable def addA (a b : AO) : Option AO := match intsA a, intsA b with
  | some xs, some ys => some (.intx (xs ++ ys))
  | _, _ => match listA a, listA b with
    | some xs, some ys => some (.list (xs ++ ys))
    | _, _ => none
noncomputable def lenA (a : AO) : Nat := match a with
  | .ints xs => xs.length
  | .intx xs => xs.length
  | .list xs => xs.length
  | _ => 0
noncomputable def repL (xs : List Int) (k : Nat) : List Int := (List.replicate k xs).flatten
section
variable {X : Cx} {dp : Nat} {f : Fm} {as as' : List AO} {θ θ' : List Addr} {s s' : Shared} {L b : Addr} {env : Env} {D : Cls} {K : Frag}
theorem intsA_of (S : X.S θ as s) {i : Nat} {a : Addr} {o : AO} {xs : List Int} (hi : as[i]? = some o) (ha : θ[i]? = some a) (h : intsA o = some xs) : ∃ vs, s.heap.IsList a vs ∧ IntsAre vs.toList xs := by
  rcases o with ys | ys | v | ob | ys | ys | ⟨C, d⟩ | es | ⟨fa, i⟩ | ⟨pp, ww, es⟩
  · obtain rfl := Option.some.inj (show some ys = some xs from h); exact ints_of S hi ha
  · obtain rfl := Option.some.inj (show some ys = some xs from h); exact intx_of S hi ha
  all_goals exact absurd (show none = some xs from h) (by simp)
noncomputable def ReadI (ob : AO) (xs : List Int) : Prop := intsA ob = some xs ∨ ∃ o, ob = .fix o ∧ FixI o xs
theorem readI_of (S : X.S θ as s) {i : Nat} {a : Addr} {o : AO} {xs : List Int} (hi : as[i]? = some o) (ha : θ[i]? = some a) (h : ReadI o xs) : ∃ vs, s.heap.IsList a vs ∧ IntsAre vs.toList xs := by
  rcases h with h | ⟨o, rfl, h⟩
  · exact intsA_of S hi ha h
  · exact fix_of S hi ha h
theorem intsA_len {o : AO} {xs : List Int} (h : intsA o = some xs) : lenA o = xs.length := by
  rcases o with ys | ys | v | ob | ys | ys | ⟨C, d⟩ | es | ⟨fa, i⟩ | ⟨pp, ww, es⟩
  · obtain rfl := Option.some.inj (show some ys = some xs from h); rfl
  · obtain rfl := Option.some.inj (show some ys = some xs from h); rfl
  all_goals exact absurd (show none = some xs from h) (by simp)
theorem listA_len {o : AO} {xs : List AV} (h : listA o = some xs) : lenA o = xs.length := by
  rcases o with ys | ys | v | ob | ys | ys | ⟨C, d⟩ | es | ⟨fa, i⟩ | ⟨pp, ww, es⟩
  · obtain rfl := Option.some.inj (show some (ys.map AV.int) = some xs from h); simp [lenA]
  · obtain rfl := Option.some.inj (show some (ys.map AV.int) = some xs from h); simp [lenA]
  · exact absurd (show none = some xs from h) (by simp)
  · exact absurd (show none = some xs from h) (by simp)
  · obtain rfl := Option.some.inj (show some ys = some xs from h); rfl
  all_goals exact absurd (show none = some xs from h) (by simp)
theorem add_objs {A : Around} {E : Value → Shared → Prop} {Q : Value → Shared → Prop} {i j : Nat} {oa ob r : AO} {a b : Addr} (S : X.S θ as s) (hi : as[i]? = some oa) (hj : as[j]? = some ob) (ha : θ[i]? = some a) (hb : θ[j]? = some b) (h : addA oa ob = some r) (hz : lenA oa + lenA ob ≤ 100000)
    (c : ∀ θ' s' v, X.S θ' (as ++ [r]) s' → Ext X.H θ s.heap θ' s'.heap → VR θ' (.obj as.length) v → Q v s') : wpAny X.M A (binaryOp .Add (.ref a) (.ref b)) Q E s := by
  have go : ∀ (vs ws : Array Value), s.heap.IsList a vs → s.heap.IsList b ws → vs.size + ws.size ≤ 100000 → OR θ r { cls := .type "list", data := .seq (vs ++ ws) } → wpAny X.M A (binaryOp .Add (.ref a) (.ref b)) Q E s := by
    intro vs ws hl hb hz ho
    refine El_eaae (id hl) fun hc0 h1 hc n hd => ?_; obtain ⟨cls, dd, data, sl⟩ := hc0
    refine El_eaae (id hb) fun hc0 h2 hc2 n2 hd2 => ?_; obtain ⟨cls2, dd2, data2, sl2⟩ := hc0
    simp only at hc hd hc2 hd2
    subst hc hd hc2 hd2
    refine concat_meets ⟨_, h1, rfl⟩ ⟨_, h2, rfl⟩ noFill_list_add seq_list_add PySem.F.slot_list_add PySem.F.entry_list_add (PySem.F.args_list_add_2 _ _) (list_addW a b vs ws n n2 dd dd2 sl sl2 (by rw [sizeLine_eq]; lia)) ⟨h1, h2, ?_⟩
    have P := S.push (o := r) (ob := { cls := .type "list", data := .seq (vs ++ ws) }) rfl (OR.pre ho _)
    exact c _ _ _ P.1 P.2 (obj_new S)
  unfold addA at h
  split at h
  · rename_i xs ys e1 e2
    cases h
    obtain ⟨vs, l1, r1⟩ := intsA_of S hi ha e1
    obtain ⟨ws, l2, r2⟩ := intsA_of S hj hb e2
    have z1 := r1.length; have z2 := r2.length
    rw [intsA_len e1, intsA_len e2] at hz
    exact go vs ws l1 l2 (by rw [← Array.length_toList, ← Array.length_toList]; lia) ⟨_, _, rfl, by rw [Array.toList_append]; exact IntsAre.append r1 r2⟩
  · split at h
    · rename_i xs ys e1 e2
      cases h
      obtain ⟨vs, l1, r1⟩ := listA_of S hi ha e1
      obtain ⟨ws, l2, r2⟩ := listA_of S hj hb e2
      have z1 := r1.len; have z2 := r2.len
      rw [listA_len e1, listA_len e2] at hz
      exact go vs ws l1 l2 (by rw [← Array.length_toList, ← Array.length_toList]; lia) ⟨_, _, rfl, by rw [Array.toList_append]; exact r1.app r2⟩
    · cases h
theorem fold_rep (items : Array Value) : ∀ (n : Nat) (acc : Array Value), (List.foldl (fun x1 x2 => x1 ++ x2) acc (List.replicate n items)).toList = acc.toList ++ (List.replicate n items.toList).flatten
  | 0, acc => by simp
  | n + 1, acc => by rw [List.replicate_succ, List.foldl_cons, fold_rep items n]; simp [List.replicate_succ, List.append_assoc]
theorem rep_ints {vs : List Value} {xs : List Int} (h : IntsAre vs xs) : ∀ n, IntsAre (List.replicate n vs).flatten (repL xs n)
  | 0 => .nil
  | n + 1 => by unfold repL; rw [List.replicate_succ, List.replicate_succ, List.flatten_cons, List.flatten_cons]; exact IntsAre.append h (rep_ints h n)
theorem mul_obj {A : Around} {E : Value → Shared → Prop} {Q : Value → Shared → Prop} {i : Nat} {xs : List Int} {x : Int} {t : Tok} {a : Addr} (S : X.S θ as s) (e1 : as[i]? = some (.intx xs)) (ha : θ[i]? = some a) (z : 0 < xs.length ∧ 0 ≤ x ∧ x < 2 ^ 62 ∧ xs.length * x.toNat ≤ 100000)
    (c : ∀ θ' s' v, X.S θ' (as ++ [.intx (repL xs x.toNat)]) s' → Ext X.H θ s.heap θ' s'.heap → VR θ' (.obj as.length) v → Q v s') : wpAny X.M A (binaryOp .Mult (.ref a) (.int x t)) Q E s := by
  obtain ⟨z0, z1, z2, z3⟩ := z
  refine El_eaeea (S.ar.objs i _ a e1 ha) fun ob hl items k hr4 r => ?_; obtain rfl := hr4
  have hsz : items.size = xs.length := by rw [← Array.length_toList]; exact r.length
  rw [← hsz] at z3
  refine wpAny_binaryOp_repeat_ref (T := "list") (U := "int") (by decide) ⟨_, hl, rfl⟩ (fun s' => typeIs_int s' x t) noFill_list_mul PySem.F.fills_int_mul PySem.F.slot_int_rmul repeat_list PySem.F.slot_int_index.lookup
    (call_meets PySem.F.slot_int_rmul (typeIs_int s x t) PySem.F.entry_int_rmul (PySem.F.args_int_rmul_2 _ _) (int___rmul___int_list x t a items k)
      ⟨hl, rfl, ⟨_, hl, rfl⟩, call_meets PySem.F.slot_list_mul ⟨_, hl, rfl⟩ PySem.F.entry_list_mul (PySem.F.args_list_mul_2 _ _)
        (AutoListH.list___mul___list_int_3 a items k x t (by simp [Builtin.List.listFitsIndex]; lia) (by lia) (by simp [Builtin.List.listTooLong, sizeLine]; lia))
        ⟨hl, ?_⟩⟩)
  have hne : items.isEmpty = false := by
    cases q : items.isEmpty with
    | false => rfl
    | true => have : items.size = 0 := by simpa [Array.isEmpty] using q
              lia
  rw [hne]
  have P := S.push (o := .intx (repL xs x.toNat)) (ob := { cls := .type "list", data := .seq (List.foldl (fun x1 x2 => x1 ++ x2) #[] (List.replicate (if false = true then 0 else x.toNat) items)) }) rfl
    ⟨_, _, rfl, by rw [fold_rep]; simpa using rep_ints r x.toNat⟩
  exact c _ _ _ P.1 P.2 (obj_new S)
end
end Mine

end
section
open PySem PySem.W PyProof.Rows
namespace Mine
noncomputable def sliceR (xs : List Int) : Option Int → Option Int → (List Int → Prop) → Prop
  | none, none, K => K xs
  | none, some y, K => 0 ≤ y ∧ K (xs.take y.toNat)
  | some x, none, K => 0 ≤ x ∧ K (xs.drop x.toNat)
  | some x, some y, K => (0 ≤ x ∧ 0 ≤ y) ∧ K ((xs.drop x.toNat).take (min y.toNat xs.length - x.toNat))
theorem slice_ints {vs : List Value} {xs : List Int} (h : IntsAre vs xs) : ∀ {lo hi : Option Int} {K : List Int → Prop}, sliceR xs lo hi K → ∃ ys, IntsAre (slicePick vs.toArray lo hi none).toList ys ∧ K ys
  | none, none, K, k => by
    refine ⟨xs, ?_, k⟩
    have e : sliceBounds none none none vs.toArray.size = (((0 : Nat) : Int), ((vs.toArray.size : Nat) : Int), 1) := by
      simp only [sliceBounds, Option.getD_none, show (1 : Int) > 0 by decide, if_true]; rfl
    rw [kmk_pick_nat _ e]
    simpa using h
  | none, some y, K, k => ⟨_, kmk_upto h k.1, k.2⟩
  | some x, none, K, k => ⟨_, kmk_from h k.1, k.2⟩
  | some x, some y, K, k => ⟨_, kmk_run h k.1.1 k.1.2, k.2⟩
section
variable {X : Cx} {dp : Nat} {f : Fm} {as as' : List AO} {θ θ' : List Addr} {s s' : Shared} {L b : Addr} {env : Env} {D : Cls} {K : Frag}
noncomputable def PtS (X : Cx) (dp : Nat) (f : Fm) (e : Option Expr) (as : List AO) (Q : Option Int → List AO → Prop) : Prop := match e with
  | none => Q none as
  | some e => EvS X dp f e as fun v as₁ => ∃ i, v = .int i ∧ Q (some i) as₁
theorem part_ok {e : Option Expr} {Q : Option Int → List AO → Prop} {A : Around} {E : Value → Shared → Prop} {post : Value → Shared → Prop} (h : PtS X dp f e as Q) (R : Room A dp) (F : FrR X f L env θ s.heap) (S : X.S θ as s)
    (c : ∀ i as' θ' s' v, Q i as' → X.S θ' as' s' → Ext X.H θ s.heap θ' s'.heap → IsPart v i → post v s') : wpAny X.M A (evalPart e env) post E s := by
  cases e with
  | none => exact wpAny_pure (c none as θ s .none h S (Ext.refl _ _) .none)
  | some e =>
    rw [evalPart_some]
    refine h A θ s L env _ E R F S fun v as₁ θ₁ s₁ u q S₁ X₁ V₁ => ?_
    obtain ⟨i, rfl, q⟩ := q
    obtain ⟨t, rfl⟩ := V₁
    exact c _ _ _ _ _ q S₁ X₁ (.int i t)
theorem ev_slice {v : Expr} {lo hi : Option Expr} {p pos : Pos} {Q : PV}
    (h : EvS X dp f v as fun o as₁ => PtS X dp f lo as₁ fun x as₂ => PtS X dp f hi as₂ fun y as₃ => ∃ i ob xs, o = .obj i ∧ as₃[i]? = some ob ∧ ReadI ob xs ∧ xs.length ≤ 100000 ∧ sliceR xs x y fun ys => Q (.obj as₃.length) (as₃ ++ [.intx ys])) :
    EvS X dp f (.Subscript v (.Slice lo hi none p) pos) as Q := by
  intro A θ s L env post E R F S c
  refine Subscript_ (h A θ s L env _ E R F S fun o as₁ θ₁ s₁ ov q S₁ X₁ V₁ => ?_)
  refine wpAny_Slice (part_ok q R (F.ext X₁) S₁ fun x as₂ θ₂ s₂ vl q₂ S₂ X₂ P₂ => part_ok q₂ R (F.ext (X₁.trans X₂)) S₂ fun y as₃ θ₃ s₃ vu q₃ S₃ X₃ P₃ => ?_)
  rw [evalPart_none]
  refine wpAny_pure ?_
  refine El_eeeaaaa q₃ fun i ob xs hr3 e1 e2 e3 q₄ => ?_; obtain rfl := hr3; try clear q₃
  refine El_ea (V₁.mono (X₂.trans X₃).pre) fun a ha hr2 => ?_; obtain rfl := hr2
  refine El_ea (readI_of S₃ e1 ha e2) fun vs hl r => ?_
  have hz : vs.size = xs.length := by rw [← Array.length_toList]; exact r.length
  refine El_ea (slice_ints r q₄) fun ys r' q₅ => ?_
  obtain ⟨S₄, X₄⟩ := S₃.junk { cls := .type "slice", data := .fields #[vl, vu, .none] }
  refine tail_any (ops := [.ref s₃.heap.objs.size, .ref a]) (s := { s₃ with heap := s₃.heap.push { cls := .type "slice", data := .fields #[vl, vu, .none] } }) (Heap.IsList.typeIs (s := { s₃ with heap := s₃.heap.push { cls := .type "slice", data := .fields #[vl, vu, .none] } }) (hl.push _)) slot_list_getitem.lookup ?_ rfl
  refine wpAny_getItem_list_slice (hl.push _) (Heap.IsSliceOf.new ..) P₂ P₃ .none (by simp) ?_ (by rw [hz, sizeLine_eq]; lia)
  have P := S₄.push (o := .intx ys) (ob := { cls := .type "list", data := .seq (slicePick vs x y none) }) rfl ⟨_, _, rfl, by simpa using r'⟩
  exact c _ _ _ _ _ q₅ P.1 ((((X₁.trans X₂).trans X₃).trans X₄).trans P.2) (obj_new S₄)
end
end Mine

end
section
open PySem PySem.W PyProof.Rows PySem.SeqAt
set_option backward.match.sparseCases false
namespace Mine
noncomputable def intSeq : AO → Option (Bool × List Int)
  | .ints xs => some (true, xs)
  | .intx xs => some (true, xs)
  | .tuple vs => (match intsOf vs with | some xs => some (false, xs) | none => none)
  | _ => none
noncomputable def cmpAv (op : CmpOp) (a b : AV) (K : Bool → Prop) : Prop := onSm (cmpA op a b) K False
noncomputable def cmpE (op : CmpOp) (t : Bool) (r : Bool) (K : Bool → Prop) : Prop := match op with
  | .Eq => K r
  | .NotEq => (match t with | true => K (!r) | false => False)
  | _ => False
noncomputable def cmpS (op : CmpOp) (p q : Bool × List Int) (K : Bool → Prop) : Prop := match p.1 with
  | true => (match q.1 with | true => cmpE op true (decide (p.2 = q.2)) K | false => False)
  | false => (match q.1 with | true => False | false => cmpE op false (decide (p.2 = q.2)) K)
noncomputable def cmpV (op : CmpOp) (a b : AV) (as : List AO) (K : Bool → Prop) : Prop := match a with
  | .obj i => (match b with
    | .obj j => onSm as[i]? (fun oa => onSm as[j]? (fun ob => onSm (intSeq oa) (fun p => onSm (intSeq ob) (fun q => cmpS op p q K) False) False) False) False
    | b => cmpAv op (.obj i) b K)
  | a => cmpAv op a b K
theorem all_eq (e : Nat → Bool) : ∀ (xs ys : List Int), xs.length = ys.length → (∀ j, (h1 : j < xs.length) → (h2 : j < ys.length) → e j = (xs[j] == ys[j])) → (List.range xs.length).all e = decide (xs = ys) := by
  intro xs ys hl he
  rw [Bool.eq_iff_iff, List.all_eq_true, decide_eq_true_iff]
  constructor
  · intro h
    refine List.ext_getElem hl fun j h1 h2 => ?_
    have := h j (List.mem_range.mpr h1)
    rw [he j h1 h2] at this
    simpa using this
  · rintro rfl j hj
    rw [he j (List.mem_range.mp hj) (List.mem_range.mp hj)]
    simp
theorem ints_at {vs : Array Value} {xs : List Int} (h : IntsAre vs.toList xs) (j : Nat) (h1 : j < vs.size) : ∃ (h2 : j < xs.length) (t : Tok), vs[j] = .int xs[j] t := by
  have hl := h.length
  rw [Array.length_toList] at hl
  have h2 : j < xs.length := by lia
  obtain ⟨t, ht⟩ := h.get j xs[j] (List.getElem?_eq_getElem h2)
  refine ⟨h2, t, ?_⟩
  rw [Array.getElem?_toList, Array.getElem?_eq_getElem h1] at ht
  exact Option.some.inj ht
section
variable {X : Cx} {dp : Nat} {f : Fm} {as as' : List AO} {θ θ' : List Addr} {s s' : Shared} {L b : Addr} {env : Env} {D : Cls} {K : Frag}
theorem seq_at (S : X.S θ as s) {i : Nat} {a : Addr} {o : AO} {t : Bool} {xs : List Int} (hi : as[i]? = some o) (ha : θ[i]? = some a) (h : intSeq o = some (t, xs)) : ∃ vs : Array Value, (if t then s.heap.IsList a vs else s.heap.IsTuple a vs) ∧ IntsAre vs.toList xs := by
  rcases o with ys | ys | v | ob | ys | ys | ⟨C, d⟩ | es | ⟨fa, i⟩ | ⟨pp, ww, es⟩
  · cases Option.some.inj (show some (true, ys) = some (t, xs) from h); exact ints_of S hi ha
  · cases Option.some.inj (show some (true, ys) = some (t, xs) from h); exact intx_of S hi ha
  · exact absurd (show none = some (t, xs) from h) (by simp)
  · exact absurd (show none = some (t, xs) from h) (by simp)
  · exact absurd (show none = some (t, xs) from h) (by simp)
  · have h : (match intsOf ys with | some xs => some (false, xs) | none => none) = some (t, xs) := h
    split at h
    · rename_i zs hz
      cases h
      refine El_eaeea (S.ar.objs i _ a hi ha) fun ob h1 vs n hr4 r => ?_; obtain rfl := hr4
      exact ⟨vs, ⟨_, h1, rfl, n, rfl⟩, intsOf_ok r hz⟩
    · cases h
  all_goals exact absurd (show none = some (t, xs) from h) (by simp)
theorem eq_at {A : Around} {vs ws : Array Value} {xs ys : List Int} (r1 : IntsAre vs.toList xs) (r2 : IntsAre ws.toList ys) : ∀ j (h1 : j < vs.size) (h2 : j < ws.size), EqAt A s vs[j] ws[j] (xs.getD j 0 == ys.getD j 0) := fun j h1 h2 => by
  refine El_ee (ints_at r1 j h1) fun l1 t1 e1 => ?_
  refine El_ee (ints_at r2 j h2) fun l2 t2 e2 => ?_
  rw [e1, e2, List.getD_eq_getElem?_getD, List.getD_eq_getElem?_getD, List.getElem?_eq_getElem l1, List.getElem?_eq_getElem l2]
  exact EqAt.int_int _ _ _ _
theorem cmp_vals {op : CmpOp} {a b : AV} {x y : Value} {P : Bool → Prop} {A : Around} {E : Value → Shared → Prop} {Q : Value → Shared → Prop} (hu : A.units < cLine) (S : X.S θ as s) (h : cmpV op a b as P) (ha : VR θ a x) (hb : VR θ b y)
    (c : ∀ r, P r → Q (.bool r) s) : wpAny X.M A (compareOp op x y) Q E s := by
  have gen : ∀ {a b : AV}, cmpAv op a b P → VR θ a x → VR θ b y → wpAny X.M A (compareOp op x y) Q E s := fun h ha hb => by
    obtain ⟨v, hv, h⟩ := onSm_t h
    exact cmp_av hv ha hb (c v h)
  cases a with
  | obj i => cases b with
    | obj j =>
      obtain ⟨oa, ea, h⟩ := onSm_t h
      obtain ⟨ob, eb, h⟩ := onSm_t h
      obtain ⟨⟨t1, xs⟩, e1, h⟩ := onSm_t h
      obtain ⟨⟨t2, ys⟩, e2, h⟩ := onSm_t h
      obtain ⟨p, hp, rfl⟩ := ha
      obtain ⟨q, hq, rfl⟩ := hb
      obtain ⟨vs, l1, r1⟩ := seq_at S ea hp e1
      obtain ⟨ws, l2, r2⟩ := seq_at S eb hq e2
      have z1 : vs.size = xs.length := by rw [← Array.length_toList]; exact r1.length
      have z2 : ws.size = ys.length := by rw [← Array.length_toList]; exact r2.length
      have hd : ¬ xs.length = ys.length → decide (xs = ys) = false := fun hz => decide_eq_false fun e => hz (by rw [e])
      have he : xs.length = ys.length → (List.range xs.length).all (fun j => xs.getD j 0 == ys.getD j 0) = decide (xs = ys) := fun hz => all_eq _ xs ys hz fun j h1 h2 => by rw [List.getD_eq_getElem?_getD, List.getD_eq_getElem?_getD, List.getElem?_eq_getElem h1, List.getElem?_eq_getElem h2]; rfl
      cases t1 with
      | true => cases t2 with
        | false => exact h.elim
        | true =>
          have h : cmpE op true (decide (xs = ys)) P := h
          by_cases hz : xs.length = ys.length
          · have he := he hz
            rw [← z1] at he
            cases op with
            | Eq => exact cmp_ofEq (RcAt.lists l1 l2 (by rw [z1, z2, hz]) hu (eq_at r1 r2) _ _ _ _ (by rw [he]; exact c _ h))
            | NotEq => exact cmp_ofNotEq (RcNeAt.lists l1 l2 (by rw [z1, z2, hz]) hu (eq_at r1 r2) _ _ _ _ (by rw [he]; exact c _ h))
            | _ => exact h.elim
          · rw [hd hz] at h
            have hn : ¬ vs.size = ws.size := by rw [z1, z2]; exact hz
            cases op with
            | Eq => exact cmp_ofEq (RcAt.lists_lengths l1 l2 (by simpa using hn) hu _ _ _ _ (c _ h))
            | NotEq => exact cmp_ofNotEq (RcNeAt.lists_lengths l1 l2 (by simpa using hn) hu _ _ _ _ (c _ h))
            | _ => exact h.elim
      | false => cases t2 with
        | true => exact h.elim
        | false =>
          have h : cmpE op false (decide (xs = ys)) P := h
          cases op with
          | Eq =>
            refine cmp_ofEq (RcAt.tuples l1 l2 hu (eq_at r1 r2) _ _ _ _ ?_)
            by_cases hz : xs.length = ys.length
            · rw [z1, z2, hz, Nat.min_self, beq_self_eq_true, Bool.and_true, ← hz, he hz]; exact c _ h
            · have h : P (decide (xs = ys)) := h
              rw [hd hz] at h
              have : (vs.size == ws.size) = false := by rw [z1, z2]; exact beq_false_of_ne hz
              rw [this, Bool.and_false]; exact c _ h
          | _ => exact h.elim
    | _ => exact gen h ha hb
  | _ => exact gen h ha hb
end
end Mine

end
section
open PySem PySem.W PyProof.Rows PySem.SeqAt
namespace Mine
noncomputable def relN (sc : Scope) : List (Str × NameKind) → List (Str × NameKind)
  | [] => []
  | (n, k) :: r => (match k == .free, isKind .cell sc n with | true, true => (n, .cell) | _, _ => (n, k)) :: relN sc r
noncomputable def relS (scope sc : Scope) : Scope := { scope with names := relN sc scope.names }
noncomputable def cloA (cells : List (Str × Nat)) : List (Str × NameKind) → List (Str × Nat) → Option (List (Str × Nat))
  | [], acc => some acc
  | (n, k) :: r, acc => match k == .free with
    | true => (match lk cells n with | some i => cloA cells r ((n, i) :: acc) | none => none)
    | false => cloA cells r acc
section
variable {X : Cx} {dp : Nat} {f : Fm} {as as' : List AO} {θ θ' : List Addr} {s s' : Shared} {L b : Addr} {env : Env} {D : Cls} {K : Frag}
noncomputable def notDbg : List (Str × NameKind) → Bool
  | [] => true
  | (n, _) :: r => !seq n dbg && notDbg r
theorem relN_eq (F : FrR X f L env θ s.heap) (names : List (Str × NameKind)) : notDbg names = true → (names.map fun (n, k) => if (k == .free && env.scope.kind == .function && env.kindOf n == some .cell) then (n, NameKind.cell) else (n, k)) = relN f.sc names := by
  induction names with
  | nil => exact fun _ => rfl
  | cons nk r ih =>
    obtain ⟨n, k⟩ := nk
    intro h
    have h : (!seq n dbg && notDbg r) = true := h
    simp only [Bool.and_eq_true, Bool.not_eq_true'] at h
    rw [List.map_cons, ih h.2, show relN f.sc ((n, k) :: r) = (match k == .free, isKind .cell f.sc n with | true, true => (n, .cell) | _, _ => (n, k)) :: relN f.sc r from rfl]
    congr 1
    have kf : (env.scope.kind == ScopeKind.function) = true := by rw [F.scope, F.kind]; rfl
    have hk : (env.kindOf n == some NameKind.cell) = isKind .cell f.sc n := by
      unfold Env.kindOf isKind
      rw [F.scope, lk_lookup, h.1]
      cases f.sc.names.lookup n with
      | none => rfl
      | some j => cases j <;> rfl
    simp only [kf, Bool.and_true, hk]
    cases k == NameKind.free <;> cases isKind .cell f.sc n <;> rfl
theorem clo_rel (F : FrR X f L env θ s.heap) (names : List (Str × NameKind)) : ∀ (accA : List (Str × Nat)) (acc : List (Str × Addr)) {cA : List (Str × Nat)}, cloA f.cells names accA = some cA →
    (∀ x i, lk accA x = some i → ∃ a, θ[i]? = some a ∧ acc.lookup x = some a) → ∃ cs, clo env.cells names acc = some cs ∧ ∀ x i, lk cA x = some i → ∃ a, θ[i]? = some a ∧ cs.lookup x = some a := by
  induction names with
  | nil => intro accA acc cA h r; cases h; exact ⟨acc, rfl, r⟩
  | cons nk rest ih =>
    obtain ⟨n, k⟩ := nk
    intro accA acc cA h r
    revert h
    unfold cloA clo
    cases k == NameKind.free with
    | false => exact fun h => ih accA acc h r
    | true =>
      show (match lk f.cells n with | some i => cloA f.cells rest ((n, i) :: accA) | none => none) = some cA → ∃ cs, (match env.cells.lookup n with | some a => clo env.cells rest ((n, a) :: acc) | none => none) = some cs ∧ _
      cases hl : lk f.cells n with
      | none => exact fun h => nosome h
      | some i =>
        intro h
        refine El_ea (F.cells n i hl) fun a ha he => ?_
        rw [he]
        refine ih _ _ h fun x j q => ?_
        rw [lk_lookup, List.lookup_cons] at q
        rw [List.lookup_cons]
        cases hs : x == n with
        | true => rw [hs] at q; cases q; exact ⟨a, ha, rfl⟩
        | false => rw [hs] at q; exact r x j (by rw [lk_lookup]; exact q)
theorem St.retype (S : X.S θ as s) {d : Nat} {o o' : AO} (hd : as[d]? = some o) (h : ∀ ob, OR θ o ob → OR θ o' ob) : X.S θ (as.set d o') s := by
  refine ⟨⟨by rw [List.length_set]; exact S.ar.len, S.ar.nodup, fun i oi a e1 e2 => ?_⟩, S.base, S.apart, S.gens, S.os, S.tabs, S.hnin, S.hbase, S.pin⟩
  by_cases q : i = d
  · subst q
    have hl : i < as.length := (List.getElem?_eq_some_iff.mp hd).1
    rw [List.getElem?_set_self hl] at e1
    cases e1
    obtain ⟨ob, x, y⟩ := S.ar.objs i o a hd e2
    exact ⟨ob, x, h ob y⟩
  · rw [List.getElem?_set_ne (Ne.symm q)] at e1
    exact S.ar.objs i oi a e1 e2
theorem list_mkL {vs : List AV} {ob : Obj} (h : OR θ (.list vs) ob) : OR θ (mkL vs) ob := by
  obtain ⟨us, n, rfl, r⟩ := h
  unfold mkL
  split
  · rename_i xs hx; exact ⟨us, n, rfl, intsOf_ok r hx⟩
  · exact ⟨us, n, rfl, r⟩
noncomputable def compFm (f : Fm) (scope : Scope) (cA : List (Str × Nat)) (loc : Loc) : Fm := ⟨relS scope f.sc, loc, cA, f.code, f.qual⟩
inductive CompOut (X : Cx) (θ : List Addr) (s : Shared) (n : Nat) (as' : List AO) (ys : List AV) (C dd : Addr) (s' : Shared) : Prop
  | mk (θ₂ : List Addr) (s₂ : Shared) (θ' : List Addr) (g : Fm) (cenv : Env) (x : Ext X.H θ s.heap θ₂ s₂.heap) (nC : s₂.heap.get? C = none) (nd : s₂.heap.get? dd = none ∧ dd ∉ X.H) (S : X.S θ' as' s') (F : FrR X g C cenv θ' s'.heap)
      (e : ExtL X.H C (θ₂ ++ [dd]) s₂.heap θ' s'.heap) (hy : as'[n]? = some (.list ys)) (hd : (θ₂ ++ [dd])[n]? = some dd) : CompOut X θ s n as' ys C dd s'
theorem frame_free {g : Fm} {C : Addr} {cenv : Env} (S : X.S θ as s) (F : FrR X g C cenv θ s.heap) : Free X θ s.heap C := by
  obtain ⟨o, ho⟩ := F.there
  refine ⟨F.nin, F.nhid, F.apart, fun e he l kk c' q r' => ?_, ⟨o, ho⟩⟩
  obtain ⟨mm, ⟨oL, es, ep, hoL, hdL, _⟩, _⟩ := F.ns
  rcases S.tabs e he with t' | ⟨c'', t1, ⟨c3, oc, vs', tt, e1, e2, e3, _⟩, _⟩
  · rw [show s.heap.get? e.P = _ from t'] at q; injection q with q; injection q with _ _ q _; injection q with q; have := congrArg Array.size q; simp at this
  · cases e1
    rw [show s.heap.get? e.P = _ from t1] at q; injection q with q
    have hc := tab_inj q
    rw [hc, r', show s.heap.get? C = _ from hoL] at e2
    cases e2; rw [hdL] at e3; cases e3
structure CompAt (X : Cx) (θ : List Addr) (s : Shared) (n : Nat) (as' : List AO) (ys : List AV) (C dd : Addr) (s' : Shared) (θ' : List Addr) : Prop where
  ns : ∃ m, s'.heap.Ns C m
  hd : θ'[n]? = some dd
  none : s.heap.get? C = none
  fr : Free X θ' s'.heap C
  out : ∀ h'', Heap.SameBut C s'.heap h'' → X.S θ' (as'.set n (mkL ys)) { s' with heap := h'' } ∧ Ext X.H θ s.heap θ' h''
theorem CompOut.at {n : Nat} {ys : List AV} {C dd : Addr} (O : CompOut X θ s n as' ys C dd s') : ∃ θ', CompAt X θ s n as' ys C dd s' θ' := by
  obtain ⟨θ₂, s₂, θ', g, cenv, x, nC, nd, S, F, e, hy, hd⟩ := O
  have FrC := frame_free S F
  refine ⟨θ', (let ⟨m, hm, _⟩ := F.ns; ⟨m, hm⟩), get_pre e.pre hd, ?_, FrC, fun h'' hs'' => ?_⟩
  · cases q : s.heap.get? C with
    | none => rfl
    | some o => obtain ⟨o', z⟩ := x.ex _ _ q; rw [nC] at z; cases z
  have S7 := S.retype hy (o' := mkL ys) fun ob => list_mkL
  have hz : ∀ b' o, b' ≠ C → s'.heap.get? b' = some o → h''.get? b' = some o := fun b' o n e => (hs''.2 b' n).trans e
  refine ⟨S7.free (fs := [C]) (one_mem FrC) (h' := h'') (k := s'.toks) fun a' o m e => hz a' o (by simpa using m) e, x.pre.trans (List.IsPrefix.trans ⟨_, rfl⟩ e.pre), fun a' m' n' => ?_, fun b' o e' n' nh' => ?_, fun b' o e' => ?_, ?_⟩
  · by_cases z : a' ∈ θ₂
    · exact x.fresh a' z n'
    · have zz : s₂.heap.get? a' = none ∧ a' ∉ X.H := by
        by_cases zd : a' = dd
        · rw [zd]; exact nd
        · exact e.fresh a' m' (fun mm => by
            rcases List.mem_append.mp mm with mm | mm
            · exact z mm
            · exact zd (by simpa using mm))
      refine ⟨?_, zz.2⟩
      cases rr : s.heap.get? a' with
      | none => rfl
      | some o => obtain ⟨o', z3⟩ := x.ex _ _ rr; rw [zz.1] at z3; cases z3
  · have e2 := x.keep b' o e' n' nh'
    have n2 : b' ∉ θ₂ := fun m' => by have := (x.fresh b' m' n').1; rw [e'] at this; cases this
    have n3 : b' ≠ C := fun z => by rw [z, nC] at e2; cases e2
    have n4 : b' ∉ θ₂ ++ [dd] := fun mm => by
      rcases List.mem_append.mp mm with mm | mm
      · exact n2 mm
      · have : b' = dd := by simpa using mm
        rw [this, nd.1] at e2; cases e2
    exact hz b' o n3 (e.keep b' o e2 n4 nh' n3)
  · obtain ⟨o2, e2⟩ := x.ex b' o e'
    have n3 : b' ≠ C := fun z => by rw [z, nC] at e2; cases e2
    obtain ⟨o3, e3⟩ := e.ex b' o2 e2
    exact ⟨o3, hz b' o3 n3 e3⟩
  · exact tab_trans x.ex x.tab (tab_trans e.ex e.tab fun P m' => .inl (hs''.2 P fun z => F.nhid (z ▸ m')))
structure CmpS (X : Cx) (dp : Nat) (f : Fm) (elt tg iter : Expr) (ifs : List Expr) (scope : Scope) (pos : Pos) (as : List AO) (Q : PV) : Prop where
  fold : ∀ env x, foldedSetIterable iter env x = pure x
  kind : scope.kind = .function
  names : ∀ y ∈ scope.names, y.2 = .local → scope.names.lookup y.1 = some .local
  run : ∀ (A : Around) (θ : List Addr) (s : Shared) (L : Addr) (env : Env) (E : Value → Shared → Prop), Room A dp → FrR X f L env θ s.heap → X.S θ as s → ∃ cs, clo env.cells scope.names [] = some cs ∧ ∀ RR : Value → Addr → Result → Shared → Prop,
    (∀ as' ys n C dd s', Q (.obj n) (as'.set n (mkL ys)) → CompOut X θ s n as' ys C dd s' → RR (.ref dd) C (.ok .next) s') →
    wpAny X.M A (eval iter env) (fun x s₁ => wpAny X.M A (pyIter x) (fun it s₂ => wpAny X.M A (newList []) (fun acc s₃ => wpAny X.M A (newFunctionEnv scope env.globals cs [] env.qual none .none (some env)) (fun cenv s₄ =>
      codeAny X.M A (.compStart (.ListComp elt [⟨tg, iter, ifs, 0⟩] scope pos) 0 it acc { cenv with scope := relabel scope env }) (RR acc cenv.locals) s₄) E s₃) E s₂) E s₁) E s
theorem ev_cmp {elt tg iter : Expr} {ifs : List Expr} {scope : Scope} {pos : Pos} {Q : PV} (h : CmpS X dp f elt tg iter ifs scope pos as Q) : EvS X dp f (.ListComp elt [⟨tg, iter, ifs, 0⟩] scope pos) as Q := by
  intro A θ s L env post E R F S c
  obtain ⟨cs, hclo, hr⟩ := h.run A θ s L env E R F S
  rw [eval_ListComp]
  refine wpAny_comprehension_free (g := ⟨tg, iter, ifs, 0⟩) (gs := []) rfl (fun x => h.fold env x) (closure_eq hclo) h.kind h.names (hr _ fun as' ys n C dd s' hQ O => ?_)
  obtain ⟨θ', a⟩ := O.at
  obtain ⟨m, hm⟩ := a.ns
  exact ⟨m, hm, fun h'' hs'' => c _ _ θ' _ _ hQ (a.out h'' hs'').1 (a.out h'' hs'').2 ⟨dd, a.hd, rfl⟩⟩
end
end Mine

end
section
open PySem PySem.W PyProof.Rows PySem.SeqAt
namespace Mine
section
variable {X : Cx} {dp : Nat} {f : Fm} {as as' : List AO} {θ θ' : List Addr} {s s' : Shared} {L b : Addr} {env : Env} {D : Cls} {K : Frag}
theorem seq_list_iadd : seqSlot? (.type "list") (dunderI "add") = pure (some (.builtin "list.__iadd__")) := PySem.seqSlot_of PySem.F.slot_list_iadd.lookup (by decide +kernel)
theorem iadd_list {A : Around} {E : Value → Shared → Prop} {Q : Value → Shared → Prop} {a b : Addr} {vs ws : Array Value} {n n2 : Nat} (h1 : s.heap.get? a = some ⟨.type "list", none, .seq vs n, #[]⟩) (h2 : s.heap.get? b = some ⟨.type "list", none, .seq ws n2, #[]⟩) (hz : vs.size + ws.size ≤ 100000)
    (h : ∀ h' n', Heap.SameBut a s.heap h' → h'.get? a = some ⟨.type "list", none, .seq (vs ++ ws) n', #[]⟩ → Q (.ref a) { s with heap := h' }) : wpAny X.M A (inplaceOp .Add (.ref a) (.ref b)) Q E s := by
  have ta : s.TypeIs (.ref a) "list" := ⟨_, h1, rfl⟩
  have tb : s.TypeIs (.ref b) "list" := ⟨_, h2, rfl⟩
  unfold inplaceOp
  refine wpAny_holding ?_
  have hfi : fillsInplaceSlot (.type "list") "add" (Operator.Add == .Add) = pure false := by
    unfold fillsInplaceSlot
    show (typeLookup (.type "list") (dunderI "add") >>= fun fi => pure (fi.isSome && !isSeqSlot fi)) = pure false
    rw [PySem.F.slot_list_iadd.lookup]
    show (pure (true && !isSeqSlot (some (.builtin "list.__iadd__"))) : Sem Bool) = pure false
    rw [show isSeqSlot (some (.builtin "list.__iadd__")) = true by decide +kernel]; rfl
  refine wpAny_bind (wpAny_typeOf ta (wpAny_bind (wpAny_of_eq hfi ?_)))
  show wpAny X.M A (if false = true then _ else _) Q E s
  rw [if_neg Bool.false_ne_true]
  refine wpAny_bind (wpAny_binaryOp1_none (nm := "add") ta tb noFill_list_add ?_)
  refine wpAny_bind (wpAny_of_eq seq_list_iadd ?_)
  refine wpAny_bind (wpAny_rule ?_)
  refine call_meets PySem.F.slot_list_iadd ta PySem.F.entry_list_iadd (PySem.F.args_list_iadd_2 _ _) (PySem.AutoSeq1.list___iadd___list_list_0 a vs n b ws n2 ?_ ?_ ?_) ⟨h1, h2, ?_⟩
  · simp [Builtin.List.listTooLong, sizeLine]; lia
  · rw [sizeLine_eq]; lia
  · rw [sizeLine_eq]; lia
  · exact h _ _ (Heap.SameBut.update ..) (Heap.get?_update_self _ h1 rfl)
end
end Mine

end
section
open PySem PySem.W PyProof.Rows PySem.SeqAt
namespace Mine
structure MakeOK (X : Cx) (C fI : Addr) (d : FD) (n1 n2 : Str) : Prop where
  cls : ∃ K : Frag, K.In X.h₀ ∧ makesIn K C = true ∧ keepIn K (.ref C) = true ∧ findIn K (.ref C) "__init__" = some (some (.ref fI)) ∧ typeIn K (.ref fI) = some (.type "function")
  ex : ∃ o fd, X.h₀.get? fI = some o ∧ o.data = .func fd ∧ X.h₀.CodeRec fd.code fd.qualname ∧ fd.body = .stmts d.body ∧ fd.scope = d.scope ∧ fd.globals = 3 ∧ fd.builtins = 0 ∧ fd.code = d.code ∧ fd.qualname ++ ".<locals>." = d.qual ∧
    (∀ s : Shared, (∀ b o, X.h₀.get? b = some o → s.heap.get? b = some o) → ∀ x v1 v2, BindsTo s fd ⟨[x], [(n1, v1), (n2, v2)]⟩ (d.names.zip [x, v1, v2]))
  names : d.names.length = 3
  cell : ∀ x ∈ d.scope.names, x.2 ≠ .cell
  loc : ∀ x ∈ d.names, d.scope.names.lookup x = some .local
  co : d.scope.isCoroutine = false
  gen : d.scope.isGenerator = false
  kind : d.scope.kind = .function
  lim : X.h₀.NoLimit
section
variable {X : Cx} {dp : Nat} {f : Fm} {as as' : List AO} {θ θ' : List Addr} {s s' : Shared} {L b : Addr} {env : Env} {D : Cls} {K : Frag}
theorem call_make {C fI : Addr} {d : FD} {n1 n2 : Str} {v1 v2 : AV} {u1 u2 : Value} {Q : PV} (O : MakeOK X C fI d n1 n2) {A : Around} (R : Room A (dp + 2)) (S : X.S θ as s) (V1 : VR θ v1 u1) (V2 : VR θ v2 u2)
    (h : ExsS X dp ⟨d.scope, (d.names.zip [.obj (as.length + 1), v1, v2]).reverse, [], d.code, d.qual⟩ d.body (as ++ [.dict []] ++ [.inst C as.length]) fun fl _ as' => match fl with | .next => Q (.obj (as.length + 1)) as' | _ => False)
    {post : Value → Shared → Prop} {E : Value → Shared → Prop} (c : ∀ av as' θ' s' v, Q av as' → X.S θ' as' s' → Ext X.H θ s.heap θ' s'.heap → VR θ' av v → post v s') :
    wpAny X.M A (call (.ref C) [] [(n1, u1), (n2, u2)]) post E s := by
  refine El_eaaaa O.cls fun K hK hm hk hi hf => ?_
  have KS : K.In s.heap := hK.keeps S.base
  refine El_eeaaaaaaaaa O.ex fun o fd ho hd hc hb hs hg hbl hcd hql hbind => ?_
  have P1 := S.push (o := .dict []) (ob := emptyDict) rfl ⟨[], 0, rfl, .nil⟩
  have P2 := P1.1.push (o := .inst C as.length) (ob := instObj C s.heap.objs.size) rfl ⟨s.heap.objs.size, #[], by
    rw [S.ar.len, List.append_assoc, List.getElem?_append_right (Nat.le_refl _), Nat.sub_self]; rfl, rfl⟩
  refine wpAny_call ?_
  obtain ⟨hh, g, dr, t, os⟩ := s
  refine make_core (makes_of KS hm) (looks_findIn KS hi) (fun self => bind_fn KS self hf) (.inl rfl) ?_
  have e1 : ((hh.push emptyDict).objs.size) = hh.objs.size + 1 := Heap.size_push ..
  have S2 : X.S (θ ++ [hh.objs.size] ++ [hh.objs.size + 1]) (as ++ [.dict []] ++ [.inst C as.length]) ⟨(hh.push emptyDict).push (instObj C hh.objs.size), g, dr, t, os⟩ := by
    have := P2.1; rw [show ({ heap := hh, gens := g, drawn := dr, toks := t, os := os } : Shared).heap = hh from rfl] at this
    rw [← e1]; exact this
  have X2 : Ext X.H θ hh (θ ++ [hh.objs.size] ++ [hh.objs.size + 1]) ((hh.push emptyDict).push (instObj C hh.objs.size)) := by
    have := P1.2.trans P2.2; rw [← e1]; exact this
  have hw : (Code.builtin "type.__call__" ⟨[.ref C], [(n1, u1), (n2, u2)]⟩).weight = 1 := by kernel_rfl
  have hu : (Code.builtin "type.__call__" ⟨[.ref C], [(n1, u1), (n2, u2)]⟩).cUnits ≤ 4 := by
    have : (Code.builtin "type.__call__" ⟨[.ref C], [(n1, u1), (n2, u2)]⟩).cUnits = 1 := by kernel_rfl
    exact Nat.le_of_ble_eq_true rfl
  have hS : ∀ b o, X.h₀.get? b = some o → (⟨(hh.push emptyDict).push (instObj C hh.objs.size), g, dr, t, os⟩ : Shared).heap.get? b = some o := S2.base
  have hroom : (A.under (.builtin "type.__call__" ⟨[.ref C], [(n1, u1), (n2, u2)]⟩)).depth < recursionLimit := by
    show A.depth + _ < _; rw [hw]; have := R.1; lia
  refine codeAny_call_def hroom (hS _ _ ho) hd (O.lim.keeps hS) (Heap.CodeRec.keeps hc hS) hb (hbind _ hS (.ref (hh.objs.size + 1)) u1 u2) (by rw [hs]; exact O.cell) (fun x hx => by rw [hs]; exact O.loc _ (List.of_mem_zip hx).1) (fun h₁ hn hk => ?_) (by rw [hs]; exact O.co) (by rw [hs]; exact O.gen) (by rw [hs]; exact O.kind)
  have V : VRs (θ ++ [hh.objs.size] ++ [hh.objs.size + 1]) [.obj (as.length + 1), v1, v2] [.ref (hh.objs.size + 1), u1, u2] := by
    refine .cons ⟨hh.objs.size + 1, ?_, rfl⟩ (.cons (V1.mono X2.pre) (.cons (V2.mono X2.pre) .nil))
    rw [S.ar.len, List.getElem?_append_right (by simp)]
    simp
  revert hn hk
  generalize e3 : (⟨(hh.push emptyDict).push (instObj C hh.objs.size), g, dr, t, os⟩ : Shared) = s2 at S2 ⊢
  have X2' : Ext X.H θ hh (θ ++ [hh.objs.size] ++ [hh.objs.size + 1]) s2.heap := by rw [← e3]; exact X2
  intro hn hk
  have S₁ : X.S _ _ { s2 with heap := h₁, toks := s2.toks + (d.names.zip [.ref (hh.objs.size + 1), u1, u2]).length } := S2.keeps hk
  refine h (Around.deeper _ _) _ _ s2.heap.objs.size _ _ _ ⟨?_, ?_, R.2.2⟩ ⟨hs, O.kind, rfl, fun m => Nat.lt_irrefl _ (S2.lt m), S2.fresh, S2.freshH, ⟨_, hn, fun x av e => ((LRs.zip V d.names).rev).look x av e⟩, fun x i e => (by cases e), hg, hbl, hcd, hql⟩ S₁ fun fl loc' as' θ' s' g' q S' X' F' G => ?_
  · have := R.1; show A.depth + _ + 1 + dp < _; rw [hw]; lia
  · have := R.2.1; show A.units + _ + 3 + 4 * dp + 40 < _; lia
  · have X'' : Ext X.H (θ ++ [hh.objs.size] ++ [hh.objs.size + 1]) s2.heap θ' s'.heap := ⟨X'.pre, fun a m n => ⟨(by
        cases r : s2.heap.get? a with
        | none => rfl
        | some o => have := (X'.fresh a m n).1; rw [hk a o r] at this; cases this), (X'.fresh a m n).2⟩,
      fun b o e n nh => X'.keep b o (hk b o e) n nh fun q => (by rw [q] at e; rw [size_none] at e; cases e), fun b o e => X'.ex b o (hk b o e), tab_trans (fun b o e => ⟨o, hk b o e⟩) (S2.tabKeep hk) X'.tab⟩
    cases fl with
    | next =>
      cases G
      refine ⟨rfl, c _ _ θ' s' _ q S' (X2'.trans X'') ⟨_, get_pre X'.pre ?_, rfl⟩⟩
      rw [S.ar.len, List.getElem?_append_right (by simp)]
      simp
    | brk => exact q.elim
    | cont => exact q.elim
    | ret v => exact q.elim
theorem ev_make {C fI : Addr} {d : FD} {n1 n2 x : Str} {e1 e2 : Expr} {p p1 p2 pos : Pos} {Q : PV} (O : MakeOK X C fI d n1 n2) (hk : isKind .globalImplicit f.sc x = true) (G : GlobV X x (.ref C)) (hdp : 2 ≤ dp)
    (h : EvS X dp f e1 as fun v1 as₁ => EvS X dp f e2 as₁ fun v2 as₂ => ExsS X (dp - 2) ⟨d.scope, (d.names.zip [.obj (as₂.length + 1), v1, v2]).reverse, [], d.code, d.qual⟩ d.body (as₂ ++ [.dict []] ++ [.inst C as₂.length]) fun fl _ as' => match fl with | .next => Q (.obj (as₂.length + 1)) as' | _ => False) :
    EvS X dp f (.Call (.Name x p) [] [⟨some n1, e1, p1⟩, ⟨some n2, e2, p2⟩] pos) as Q := by
  intro A θ s L env post E R F S c
  refine wpAny_Call_Name_kw (ev_glob (av := .addr C) (Q := fun av as₁ => av = .addr C ∧ as₁ = as) hk G rfl ⟨rfl, rfl⟩ A θ s L env _ E R F S fun av as₁ θ₁ s₁ v q S₁ X₁ V₁ => ?_)
  obtain ⟨rfl, rfl⟩ := q
  cases V₁
  refine El_eaaaa O.cls fun K hK hm hkp hi hf => ?_
  refine callWith_of (P := fun h => K.In h) rfl (keeps_K hkp) (evalArgs_kw2_nil rfl ?_)
  refine kwAll_cons (h A θ₁ s₁ L env _ E R (F.ext X₁) S₁ fun v1 as₂ θ₂ s₂ u1 q S₂ X₂ V₂ => kwAll_cons (q A θ₂ s₂ L env _ E R (F.ext (X₁.trans X₂)) S₂ fun v2 as₃ θ₃ s₃ u2 q₂ S₃ X₃ V₃ => kwAll_nil ⟨hK.keeps S₃.base, ?_⟩))
  have R' : Room A (dp - 2 + 2) := by rw [Nat.sub_add_cancel hdp]; exact R
  exact call_make O R' S₃ (V₂.mono X₃.pre) V₃ q₂ fun av as' θ' s' v q' S' X' V' => c _ _ _ _ _ q' S' (((X₁.trans X₂).trans X₃).trans X') V'
end
end Mine

end
section
open PySem PySem.W PyProof.Rows PySem.SeqAt
namespace Mine
noncomputable def scV (n : Nat) : AV → Bool
  | .obj i => Nat.blt i n
  | _ => true
noncomputable def scVs (n : Nat) : List AV → Bool
  | [] => true
  | v :: r => scV n v && scVs n r
noncomputable def scL (n : Nat) : List (Str × AV) → Bool
  | [] => true
  | (_, v) :: r => scV n v && scL n r
noncomputable def scC (n : Nat) : List (Str × Nat) → Bool
  | [] => true
  | (_, i) :: r => Nat.blt i n && scC n r
noncomputable def scO (n : Nat) : AO → Bool
  | .list xs => scVs n xs
  | .tuple xs => scVs n xs
  | .inst _ d => Nat.blt d n
  | .dict es => scL n es
  | .meth _ i => Nat.blt i n
  | .map _ _ es => scL n es
  | .cell (some v) => scV n v
  | _ => true
noncomputable def scOs (n : Nat) : List AO → Bool
  | [] => true
  | o :: r => scO n o && scOs n r
section
variable {X : Cx} {dp : Nat} {f : Fm} {as as' : List AO} {θ θ' : List Addr} {s s' : Shared} {L b : Addr} {env : Env} {n : Nat}
theorem take_get {i : Nat} {a : Addr} (h : θ[i]? = some a) (k : Nat.blt i n = true) : (θ.take n)[i]? = some a := by
  have k : i < n := by simpa using k
  rw [List.getElem?_take_of_lt k]; exact h
theorem VR.cut {a : AV} {v : Value} (h : VR θ a v) (k : scV n a = true) : VR (θ.take n) a v := by
  cases a with
  | obj i => obtain ⟨x, e, r⟩ := h; exact ⟨x, take_get e k, r⟩
  | _ => exact h
theorem VRs.cut {as : List AV} {vs : List Value} (h : VRs θ as vs) (k : scVs n as = true) : VRs (θ.take n) as vs := by
  induction h with
  | nil => exact .nil
  | cons a _ ih =>
    unfold scVs at k
    rw [Bool.and_eq_true] at k
    exact .cons (a.cut k.1) (ih k.2)
theorem DRs.cut {as : List (Str × AV)} {vs : List DictEntry} (h : DRs θ as vs) (k : scL n as = true) : DRs (θ.take n) as vs := by
  induction h with
  | nil => exact .nil
  | cons a b _ ih =>
    unfold scL at k
    rw [Bool.and_eq_true] at k
    exact .cons a (b.cut k.1) (ih k.2)
theorem MRs.cut {es : List (Str × AV)} {kvs : List (Str × Value)} (h : MRs θ es kvs) (k : scL n es = true) : MRs (θ.take n) es kvs := by
  induction h with
  | nil => exact .nil
  | cons b _ ih =>
    unfold scL at k
    rw [Bool.and_eq_true] at k
    exact .cons (b.cut k.1) (ih k.2)
theorem OR.cut {o : AO} {ob : Obj} (h : OR θ o ob) (k : scO n o = true) : OR (θ.take n) o ob := by
  rcases o with xs | xs | v | ob' | xs | xs | ⟨C, d⟩ | es | ⟨fa, i⟩ | ⟨pp, ww, es⟩
  · exact h
  · exact h
  · obtain ⟨u, e, r⟩ := h
    refine ⟨u, e, ?_⟩
    cases v with
    | none => exact r
    | some v => obtain ⟨w, e2, r2⟩ := r; exact ⟨w, e2, r2.cut k⟩
  · exact h
  · obtain ⟨vs, m, e, r⟩ := h; exact ⟨vs, m, e, r.cut k⟩
  · obtain ⟨vs, m, e, r⟩ := h; exact ⟨vs, m, e, r.cut k⟩
  · obtain ⟨a, sl, e, r⟩ := h; exact ⟨a, sl, take_get e k, r⟩
  · obtain ⟨l, m, e, r⟩ := h; exact ⟨l, m, e, r.cut k⟩
  · obtain ⟨a, e, r⟩ := h; exact ⟨a, take_get e k, r⟩
  · obtain ⟨kvs, e, r⟩ := h; exact ⟨kvs, e, r.cut k⟩
theorem scOs_get {as : List AO} {o : AO} (h : scOs n as = true) {i : Nat} (e : as[i]? = some o) : scO n o = true := by
  induction as generalizing i with
  | nil => simp at e
  | cons o' r ih =>
    unfold scOs at h; rw [Bool.and_eq_true] at h
    cases i with
    | zero =>
      have : o' = o := by simpa using e
      rw [← this]; exact h.1
    | succ i => exact ih h.2 (by simpa using e)
theorem scC_get : ∀ {l : List (Str × Nat)} {x : Str} {i : Nat}, scC n l = true → lk l x = some i → Nat.blt i n = true
  | (y, v) :: r, x, av, h, e => by
    unfold scC at h; rw [Bool.and_eq_true] at h
    unfold lk at e
    split at e
    · cases e; exact h.1
    · exact scC_get h.2 e
theorem St.cut {bs : List AO} (S : X.S θ (as ++ bs) s) (k : scOs as.length as = true) (hp : X.T.pin.length ≤ as.length) : X.S (θ.take as.length) as s := by
  have hl : (θ.take as.length).length = as.length := by
    rw [List.length_take, ← S.ar.len, List.length_append]; exact Nat.min_add_right_self
  refine ⟨⟨hl.symm, S.ar.nodup.sublist (List.take_sublist _ _), fun i o a e1 e2 => ?_⟩, S.base, fun a m => S.apart a (List.mem_of_mem_take m), S.gens, S.os, fun e he => ?_, fun e he m => S.hnin e he (List.mem_of_mem_take m), S.hbase, ?_⟩
  · have hi : i < as.length := (List.getElem?_eq_some_iff.mp e1).1
    rw [List.getElem?_take_of_lt hi] at e2
    obtain ⟨ob, x, y⟩ := S.ar.objs i o a (by rw [List.getElem?_append_left hi]; exact e1) e2
    exact ⟨ob, x, y.cut (scOs_get k e1)⟩
  · exact (S.tabs e he).to (fun _ x => x) (fun _ _ _ x _ _ _ => x) fun c o x nn m => nn (List.mem_of_mem_take m)
  · obtain ⟨t, ht⟩ := S.pin
    refine ⟨t.take (as.length - X.T.pin.length), ?_⟩
    rw [← ht, List.take_append, List.take_of_length_le hp]
end
end Mine

end
section
open PySem PySem.W PyProof.Rows PySem.SeqAt
namespace Mine
theorem execs_two (env : Env) : ∀ (l1 l2 : List Stmt), execs (l1 ++ l2) env = (execs l1 env >>= fun g => match g with | .next => execs l2 env | g => pure g)
  | [], l2 => by
    show execs l2 env = (pure Flow.next >>= _)
    rw [pure_bind]
  | st :: r, l2 => by
    rw [List.cons_append, execs_cons, execs_cons, bind_assoc]
    refine congrArg _ (funext fun g => ?_)
    cases g with
    | next => exact execs_two env r l2
    | brk => rw [pure_bind]
    | cont => rw [pure_bind]
    | ret v => rw [pure_bind]
section
variable {X : Cx} {dp : Nat} {f : Fm} {as : List AO}
theorem exs_app {l1 l2 : List Stmt} {Q : PF} (h : ExsS X dp f l1 as fun fl loc as₁ => match fl with | .next => ExsS X dp { f with loc := loc } l2 as₁ Q | fl => Q fl loc as₁) : ExsS X dp f (l1 ++ l2) as Q := by
  intro A θ s L env post E R F S c
  rw [execs_two]
  refine wpAny_bind (h A θ s L env _ E R F S fun fl loc as₁ θ₁ s₁ g q S₁ X₁ F₁ G₁ => ?_)
  cases fl with
  | next =>
    cases G₁
    exact q A θ₁ s₁ L env _ E R F₁ S₁ fun fl loc as₂ θ₂ s₂ g q₂ S₂ X₂ F₂ G₂ => c _ _ _ θ₂ s₂ _ q₂ S₂ (X₁.thru F₁.there X₂) F₂ G₂
  | brk => cases G₁; exact wpAny_pure (c _ _ _ θ₁ s₁ _ q S₁ X₁ F₁ rfl)
  | cont => cases G₁; exact wpAny_pure (c _ _ _ θ₁ s₁ _ q S₁ X₁ F₁ rfl)
  | ret v => obtain ⟨u, rfl, hu⟩ := G₁; exact wpAny_pure (c _ _ _ θ₁ s₁ _ q S₁ X₁ F₁ ⟨u, rfl, hu⟩)
end
end Mine

end
section
open PySem PySem.W PyProof.Rows PySem.SeqAt
namespace Mine
section
variable {prog : Program} {w : World} {A : Around} {R : Result → Shared → Prop} {s : Shared}
noncomputable abbrev testsOf (ifs : List Expr) (env : Env) : Sem Bool := forIn ifs true fun c r => if r = true then do let ok ← isTrue c env (eval c env); pure (ForInStep.yield ok) else pure (ForInStep.yield r)
theorem compLoop_any {elt target iter : Expr} {ifs : List Expr} {scope : Scope} {pos : Pos} {it acc : Value} {env : Env} (I : Nat → Shared → Prop)
    (turn : ∀ n s, I n s → wpAny (model prog w) A (pyNext it) (fun r s₁ => match r with
      | none => R (.ok .next) s₁
      | some v => wpAny (model prog w) A (letOwnedTupleGo target it v) (fun _ s₁' => wpAny (model prog w) A (assign target env v) (fun _ s₂ =>
          wpAny (model prog w) A (testsOf ifs env) (fun ok s₃ =>
            if ok = true then wpAny (model prog w) A (eval elt env) (fun x s₄ =>
              wpAny (model prog w) A (call (.builtin "list.append") [acc, x]) (fun _ s₅ => ∃ m, m < n ∧ I m s₅) (notedBy (model prog w) A env fun e s' => R (.error e) s') s₄) (notedBy (model prog w) A env fun e s' => R (.error e) s') s₃
            else ∃ m, m < n ∧ I m s₃) (notedBy (model prog w) A env fun e s' => R (.error e) s') s₂) (notedBy (model prog w) A env fun e s' => R (.error e) s') s₁') (notedBy (model prog w) A env fun e s' => R (.error e) s') s₁) (notedBy (model prog w) A env fun e s' => R (.error e) s') s)
    (n : Nat) (h : I n s) : codeAny (model prog w) A (.compLoop (.ListComp elt [⟨target, iter, ifs, 0⟩] scope pos) 0 it acc env) R s := by
  refine codeAny_loop rfl I (fun n s hI => ?_) n h
  show wpAny _ A ((compTurn (.ListComp elt [⟨target, iter, ifs, 0⟩] scope pos) 0 it acc env).onRaise (fun x => do noteFrame x env; theTreesLotGoes x)) _ _ s
  refine wpAny_noted ?_
  rw [compTurn_list]
  refine wpAny_bind (wpAny_standAt (wpAny_bind (wpAny_mono (turn n s hI) (fun r s₁ h₁ => ?_) fun _ _ h' => h')))
  cases r with
  | none => exact wpAny_pure h₁
  | some v =>
    refine wpAny_bind (wpAny_mono h₁ (fun _ s₁' h₁' => ?_) fun _ _ h' => h')
    refine wpAny_bind (wpAny_mono h₁' (fun _ s₂ h₂ => wpAny_bind (wpAny_mono h₂ (fun ok s₃ h₃ => ?_) fun _ _ h' => h')) fun _ _ h' => h')
    cases ok with
    | false => exact wpAny_pure ⟨rfl, h₃⟩
    | true =>
      exact wpAny_bind (wpAny_bind (wpAny_mono h₃ (fun x s₄ h₄ => wpAny_bind (wpAny_mono h₄ (fun _ s₅ h₅ => wpAny_pure (wpAny_pure ⟨rfl, h₅⟩)) fun _ _ h' => h')) fun _ _ h' => h'))
theorem tests_nil {env : Env} {Q : Bool → Shared → Prop} {E : Value → Shared → Prop} (h : Q true s) : wpAny (model prog w) A (testsOf [] env) Q E s := wpAny_pure h
theorem tests_one {env : Env} {c : Expr} {Q : Bool → Shared → Prop} {E : Value → Shared → Prop} (h : wpAny (model prog w) A (isTrue c env (eval c env)) Q E s) : wpAny (model prog w) A (testsOf [c] env) Q E s := by
  unfold testsOf
  simp only [List.forIn_cons, List.forIn_nil, if_true]
  exact wpAny_bind (wpAny_bind (wpAny_mono h (fun b s' hb => wpAny_pure (wpAny_pure hb)) fun _ _ x => x))
end
noncomputable def FlS (X : Cx) (dp : Nat) (f : Fm) : List Expr → List AO → PB → Prop
  | [], as, Q => Q true as
  | [c], as, Q => TsS X dp f c as Q
  | _, _, _ => False
section
variable {X : Cx} {dp : Nat} {f : Fm} {as as' : List AO} {θ θ' : List Addr} {s s' : Shared} {L b : Addr} {env : Env} {D : Cls} {K : Frag}
theorem fl_ok {ifs : List Expr} {Q : PB} (h : FlS X dp f ifs as Q) {A : Around} {post : Bool → Shared → Prop} {E : Value → Shared → Prop} (R : Room A dp) (F : FrR X f L env θ s.heap) (S : X.S θ as s)
    (c : ∀ b as' θ' s', Q b as' → X.S θ' as' s' → Ext X.H θ s.heap θ' s'.heap → post b s') : wpAny X.M A (testsOf ifs env) post E s := by
  match ifs, h with
  | [], h => exact tests_nil (c true as θ s h S (Ext.refl _ _))
  | [e], h => exact tests_one (h A θ s L env post E R F S c)
end
end Mine

end
section
open PySem PySem.W PyProof.Rows
namespace Mine
section
variable {X : Cx} {dp : Nat} {f : Fm} {as as' : List AO} {θ θ' : List Addr} {s s' : Shared} {L b : Addr} {env : Env}
theorem ev_neg {x : Expr} {pos} {Q : PV} (h : EvS X dp f x as fun a as₁ => ∃ i, a = .int i ∧ Q (.int (-i)) as₁) : EvS X dp f (.UnaryOp .USub x pos) as Q := by
  intro A θ s L env post E R F S c
  refine wpAny_UnaryOp (h A θ s L env _ E R F S fun a as₁ θ₁ s₁ v q S₁ X₁ V₁ => ?_)
  obtain ⟨i, rfl, q⟩ := q
  obtain ⟨t, rfl⟩ := V₁
  exact neg_int (c _ _ θ₁ { s₁ with toks := s₁.toks + 1 } _ q (S₁.toks _) X₁ ⟨_, rfl⟩)
theorem sum_ok {A : Around} {E : Value → Shared → Prop} {s : Shared} {l : Addr} {vs : Array Value} {ns : List Int} {Q : Value → Shared → Prop} (hh : A.handled = none) (hl : s.heap.IsList l vs) (hi : IntsAre vs.toList ns)
    (h : ∀ h' tk t', (∀ b o, s.heap.get? b = some o → h'.get? b = some o) → Q (.int ns.sum t') { s with heap := h', toks := tk }) : wpAny X.M A (call (.builtin "sum") [.ref l]) Q E s := by
  obtain ⟨xs, hx⟩ := hi.allInts.items
  have hx' : vs = intItems xs := by simpa using hx
  have hl' : s.heap.IsList l (intItems xs) := hx' ▸ hl
  refine sum_intListG hh hl' fun h' tk t' hk => ?_
  have e1 : ns = xs.toList.map (·.1) := by
    rw [← nums_intItems, ← hx']
    exact (show numsOf vs.toList = ns from hi.numsOf).symm
  have e2 : preSum (numAt xs) xs.size = ns.sum := by
    rw [preSum_eq, List.take_of_length_le (by simp), e1]
  rw [e2]
  exact h h' tk t' hk
noncomputable def negG (xs : List AV) (c : Nat) (Q : AV → Prop) : Prop := match Nat.ble 1 c && Nat.ble c xs.length, xs[xs.length - c]? with
  | true, some v => Q v
  | _, _ => False
noncomputable def negI (o : AV) (c : Nat) (as : List AO) (Q : AV → Prop) : Prop := onObj o (fun i => onSm as[i]? (fun ob => match ob with
  | .tuple xs => negG xs c Q
  | ob => onSm (listA ob) (fun xs => negG xs c Q) False) False) False
noncomputable def negW (o : AV) (c : Nat) (as : List AO) (Q : AV → Prop) : Prop := c < 2 ^ 62 ∧ negI o c as Q
theorem neg_toNat {c n : Nat} (h : c ≤ n) : (-(c : Int) + n).toNat = n - c := by rw [Int.add_comm, ← Int.sub_eq_add_neg, ← Int.ofNat_sub h]; rfl
theorem negG_ok {xs : List AV} {c : Nat} {Q : AV → Prop} (h : negG xs c Q) : 1 ≤ c ∧ c ≤ xs.length ∧ ∃ v, xs[xs.length - c]? = some v ∧ Q v := by
  unfold negG at h
  split at h
  · rename_i v hb hv
    simp only [Bool.and_eq_true] at hb
    exact ⟨Nat.le_of_ble_eq_true hb.1, Nat.le_of_ble_eq_true hb.2, v, hv, h⟩
  · cases h
theorem ev_subN {v : Expr} {p1 p2 pos : Pos} {k0 : Nat} {c : Nat} {Q : PV} (h : EvS X dp f v as fun o as₁ => negW o c as₁ fun r => Q r as₁) : EvS X dp f (.Subscript v (.UnaryOp .USub (.Constant (.int (c : Int)) k0 p1) p2) pos) as Q := by
  intro A θ s L env post E R F S cc
  refine Subscript_ (h A θ s L env _ E R F S fun o as₁ θ₁ s₁ ov q S₁ X₁ V₁ => ?_)
  refine ev_neg (Q := fun a as₂ => a = .int (-(c : Int)) ∧ as₂ = as₁) (ev_int ⟨_, rfl, rfl, rfl⟩) A θ₁ s₁ L env _ E R (F.ext X₁) S₁ fun k as₂ θ₂ s₂ kv q₂ S₂ X₂ V₂ => ?_
  obtain ⟨rfl, rfl⟩ := q₂
  have q : negW o c as₂ (fun r => Q r as₂) := q
  obtain ⟨hc, q⟩ := q
  obtain ⟨i', rfl, q⟩ := onObj_t q
  obtain ⟨oa, hob, q⟩ := onSm_t q
  obtain ⟨a, ha, rfl⟩ := V₁.mono X₂.pre
  obtain ⟨t, rfl⟩ := V₂
  have L : onSm (listA oa) (fun xs => negG xs c fun r => Q r as₂) False → wpAny X.M A (subscriptTail v (.UnaryOp .USub (.Constant (.int (c : Int)) k0 p1) p2) (.ref a) (.int (-(c : Int)) t)) post E s₂ := fun q => by
    obtain ⟨xs, hxs, q⟩ := onSm_t q
    refine El_aaea (negG_ok q) fun c1 c2 w hw q => ?_
    obtain ⟨vs, il, r⟩ := listA_of S₂ hob ha hxs
    obtain ⟨u, hu, ru⟩ := r.get hw
    have hz : vs.size = xs.length := by rw [← Array.length_toList]; exact r.len
    refine tail_any il.typeIs slot_list_getitem.lookup (wpAny_getItem_list_neg il (by lia) (by lia) (by lia) ?_ (cc _ _ _ _ _ q S₂ (X₁.trans X₂) ru)) (sub_eq rfl _ _)
    rw [← Array.getElem?_toList, hz, neg_toNat c2]
    exact hu
  cases oa with
  | tuple xs =>
    have q : negG xs c (fun r => Q r as₂) := q
    refine El_aaea (negG_ok q) fun c1 c2 w hw q => ?_
    refine El_eaeea (S₂.ar.objs i' _ a hob ha) fun ob h1 vs n hr4 r => ?_; obtain rfl := hr4
    obtain ⟨u, hu, ru⟩ := r.get hw
    have hz : vs.size = xs.length := by rw [← Array.length_toList]; exact r.len
    have ht : IsTup s₂.heap a vs := ⟨_, h1, rfl, n, rfl⟩
    refine tail_any ht.typeIs slot_tuple_getitem.lookup (getItem_tuple ht (by lia) (by lia) (j := xs.length - c) ?_ (by rw [← Array.getElem?_toList]; exact hu) (cc _ _ _ _ _ q S₂ (X₁.trans X₂) ru)) (sub_eq rfl _ _)
    unfold seqIndex?
    simp only [show (-(c : Int)) < 0 by lia, if_true]
    rw [hz, if_pos (by simp; lia), neg_toNat c2]
  | _ => exact L q
end
end Mine

end
section
open PySem PySem.W PyProof.Rows PySem.SeqAt
namespace Mine
section
variable {X : Cx} {dp : Nat} {f : Fm} {as as' : List AO} {θ θ' : List Addr} {s s' : Shared} {L b : Addr} {env : Env}
end
end Mine

end
section
open PySem PySem.W PyProof.Rows PySem.SeqAt
namespace Mine
noncomputable abbrev Bnd := Fm → Nat → List AO → (Loc → List AO → Prop) → Prop
structure Strm (X : Cx) (tg : Expr) (it : Value) (N : Nat) (fs : List Addr) (J : Nat → Heap → Prop) (G : List AO → Prop) (bnd : Bnd) (θ₁ : List Addr) : Prop where
  keep : ∀ k h h', J k h → (∀ b ∈ fs, ∀ o, h.get? b = some o → h'.get? b = some o) → J k h'
  again : ∀ (A : Around) (E Q : Value → Shared → Prop) (s : Shared), J 0 s.heap → Q it s → wpAny X.M A (pyIter it) Q E s
  nxt : ∀ (A : Around) (f : Fm) (L : Addr) (env : Env) (θ₀ : List Addr) (h₀ : Heap) (Inv Bd : Nat → Loc → List AO → Prop), A.handled = none → θ₁ <+: θ₀ → (∀ b ∈ fs, b ≠ L ∧ h₀.get? b = none) → (∀ k loc as, Inv k loc as → G as) →
    (∀ k loc as, k < N → Inv k loc as → bnd { f with loc := loc } k as (Bd k)) → ∀ (k : Nat) (s : Shared) (E' : Value → Shared → Prop), k < N → LoopAt X f L env θ₀ h₀ fs (J k) (Inv k) s →
    wpAny X.M A (pyNext it) (fun r s₁ => ∃ v, r = some v ∧ wpAny X.M A (letOwnedTupleGo tg it v) (fun _ s₂ => wpAny X.M A (assign tg env v) (fun _ s₃ => LoopAt X f L env θ₀ h₀ fs (J (k + 1)) (Bd k) s₃) E' s₂) E' s₁) E' s
  stop : ∀ (A : Around) (f : Fm) (L : Addr) (env : Env) (θ₀ : List Addr) (h₀ : Heap) (I : Loc → List AO → Prop), A.handled = none → θ₁ <+: θ₀ → (∀ b ∈ fs, b ≠ L ∧ h₀.get? b = none) → (∀ loc as, I loc as → G as) →
    ∀ (s : Shared) (E' : Value → Shared → Prop), LoopAt X f L env θ₀ h₀ fs (J N) I s → wpAny X.M A (pyNext it) (fun r s₁ => r = none ∧ LoopAt X f L env θ₀ h₀ [] (fun _ => True) I s₁) E' s
noncomputable def Itr (X : Cx) (dp : Nat) (f : Fm) (iter tg : Expr) (as : List AO) (Q : Nat → Bnd → (List AO → Prop) → List AO → Prop) : Prop :=
  ∀ (A : Around) (θ : List Addr) (s : Shared) (L : Addr) (env : Env) (post E : Value → Shared → Prop), Room A dp → FrR X f L env θ s.heap → X.S θ as s →
    (∀ it N fs J G bnd θ₁ as₁ h₁ s₁, Q N bnd G as₁ → X.S θ₁ as₁ s₁ → Ext X.H θ s.heap θ₁ h₁ → Ext X.H θ₁ h₁ θ₁ s₁.heap → Strm X tg it N fs J G bnd θ₁ → J 0 s₁.heap → (∀ b ∈ fs, Free X θ₁ s₁.heap b ∧ h₁.get? b = none) → post it s₁) →
    wpAny X.M A (eval iter env) (fun x s₁ => wpAny X.M A (pyIter x) post E s₁) E s
noncomputable def bndR (x : Str) (a : Int) : Bnd := fun f k as P => storeW f x (.int (a + k)) as P
noncomputable def bndL (tg : Expr) (xs : List AV) : Bnd := fun f k as P => match xs[k]? with | some av => bindW f tg av as P | none => False
noncomputable def isAt (i : Nat) (xs : List AV) (as : List AO) : Prop := ∃ ob, as[i]? = some ob ∧ listA ob = some xs
section
variable {X : Cx} {dp : Nat} {f : Fm} {as as' : List AO} {θ θ' : List Addr} {s s' : Shared} {L b : Addr} {env : Env}
theorem Itr.mono {iter tg : Expr} {Q Q' : Nat → Bnd → (List AO → Prop) → List AO → Prop} (h : Itr X dp f iter tg as Q) (k : ∀ a b c d, Q a b c d → Q' a b c d) : Itr X dp f iter tg as Q' :=
  fun A θ s L env post E R F S c => h A θ s L env post E R F S fun it N fs J G bnd θ₁ as₁ h₁ s₁ q => c it N fs J G bnd θ₁ as₁ h₁ s₁ (k _ _ _ _ q)
theorem LoopAt.fin {θ₀ : List Addr} {h₀ : Heap} {fs : List Addr} {J : Heap → Prop} {I : Loc → List AO → Prop} (h : LoopAt X f L env θ₀ h₀ fs J I s) (hf : ∀ b ∈ fs, b ≠ L ∧ h₀.get? b = none) {h' : Heap} (hk : ∀ a o, a ∉ fs → s.heap.get? a = some o → h'.get? a = some o) :
    LoopAt X f L env θ₀ h₀ [] (fun _ => True) I { s with heap := h' } := h.free (k := s.toks) (fs' := []) (J' := fun _ => True) hf (fun _ m => by cases m) hk (fun _ m => by cases m) trivial
theorem strm_R {x : Str} {px : Pos} {a b : Int} {it : Addr} {θ₁ : List Addr} :
    Strm X (.Name x px) (.ref it) (b - a).toNat [it] (fun k h => IsRangeIter h it (a + k) ((b - a).toNat - k) 1) (fun _ => True) (bndR x a) θ₁ := by
  have J1 : ∀ (k : Nat) (h h' : Heap), IsRangeIter h it (a + k) ((b - a).toNat - k) 1 → (∀ b' ∈ [it], ∀ o, h.get? b' = some o → h'.get? b' = some o) → IsRangeIter h' it (a + k) ((b - a).toNat - k) 1 := fun k h h' x y => y _ (List.mem_singleton.mpr rfl) _ x
  refine ⟨J1, fun A E Q s j q => wpAny_pyIter_rangeiter j q, fun A f L env θ₀ h₀ Inv Bd hh pre hf hG hst k s₆ E' hk hI => ?_, fun A f L env θ₀ h₀ I hh pre hf hG s₆ E' hI => ?_⟩
  · refine El_eeeaaaaa (id hI.ex) fun θ' as' loc q1 q2 q3 q4 q5 q6 => ?_
    refine wpAny_pyNext_range_item q5 (by lia) fun h' hi hs' => ⟨_, rfl, wpAny_pure (wpAny_assign_Name ?_)⟩
    have e1 : a + (k : Int) + 1 = a + ((k + 1 : Nat) : Int) := by lia
    have e2 : ((b - a).toNat : Int) - k - 1 = (b - a).toNat - ((k + 1 : Nat) : Int) := by lia
    rw [e1, e2] at hi
    have hI' := hI.free (k := s₆.toks + 1) (J' := fun h => IsRangeIter h it (a + (k + 1 : Nat)) ((b - a).toNat - (k + 1 : Nat)) 1) hf (fun _ m => m) (fun a' o m e => (hs'.2 a' (by simpa using m)).trans e) (one_mem ⟨_, hi⟩) hi
    exact hI'.store (av := .int (a + k)) hf (J1 (k + 1)) (fun θ => ⟨_, rfl⟩) fun loc as₂ q => hst k loc as₂ hk q
  · refine El_eeeaaaaa (id hI.ex) fun θ' as' loc q1 q2 q3 q4 q5 q6 => ?_
    exact wpAny_pyNext_range_end hh q5 (by lia) fun h' hx => ⟨rfl, hI.fin hf fun a' o m e => hx a' o (by simpa using m) e⟩
theorem it_L {iter tg : Expr} {Q : Nat → Bnd → (List AO → Prop) → List AO → Prop} (h : EvS X dp f iter as fun o as₁ => ∃ i xs, o = .obj i ∧ isAt i xs as₁ ∧ Q xs.length (bndL tg xs) (isAt i xs) as₁) : Itr X dp f iter tg as Q := by
  intro A θ s L env post E R F S c
  refine h A θ s L env _ E R F S fun o as₁ θ₁ s₁ v q S₁ X₁ V₁ => ?_
  obtain ⟨i, xs, rfl, ⟨ob, hob, hxs⟩, q⟩ := q
  obtain ⟨l, hl, rfl⟩ := V₁
  obtain ⟨vs, il, _⟩ := listA_of S₁ hob hl hxs
  refine wpAny_pyIter_list il ?_
  obtain ⟨S₂, X₂⟩ := S₁.junk { cls := .type "list_iterator", data := .fields #[.ref l, .int 0 0] }
  have hnew : ∃ o, (s₁.heap.push { cls := .type "list_iterator", data := .fields #[.ref l, .int 0 0] }).get? s₁.heap.objs.size = some o := ⟨_, Heap.get?_push_size _ rfl⟩
  have nb := size_none s₁.heap
  have nl : l ≠ s₁.heap.objs.size := fun e => by rw [← e, (St.at S₁ hl).choose_spec] at nb; cases nb
  have J1 : ∀ (k : Nat) (h h' : Heap), h.IsListIter s₁.heap.objs.size l k → (∀ b' ∈ [s₁.heap.objs.size], ∀ o, h.get? b' = some o → h'.get? b' = some o) → h'.IsListIter s₁.heap.objs.size l k := fun k h h' ⟨o, x, r⟩ y => ⟨o, y _ (List.mem_singleton.mpr rfl) _ x, r⟩
  refine c _ _ _ (fun k h => h.IsListIter s₁.heap.objs.size l k) _ _ θ₁ as₁ s₁.heap _ q S₂ X₁ X₂ ⟨J1, fun A E Q s j q => wpAny_pyIter_listiter j q, ?_, ?_⟩ ⟨_, Heap.get?_push_size _ rfl, rfl, rfl⟩ (one_mem ⟨Free.new S₁ (Nat.le_refl _) (fun a' o e => Heap.get?_push_of_some _ e) hnew, nb⟩)
  · intro A f L env θ₀ h₀ Inv Bd hh pre hf hG hst k s₆ E' hk hI
    refine El_eeeaaaaa (id hI.ex) fun θ' as' loc q1 q2 q3 q4 q5 q6 => ?_
    refine El_ea (hG _ _ _ q1) fun ob hob hxs => ?_
    refine El_ea (listA_of q2 hob (get_pre (pre.trans q4.pre) hl) hxs) fun vs' il' r' => ?_
    have hav : xs[k]? = some xs[k] := List.getElem?_eq_getElem hk
    refine El_ea (r'.get hav) fun v hv rv => ?_
    refine wpAny_pyNext_list_item q5 il' (by rw [← Array.getElem?_toList]; exact hv) fun h' hi hs' => ⟨_, rfl, letOwned_list (s := { s₆ with heap := h' }) hi ?_⟩
    have hI' := hI.free (k := s₆.toks) (J' := fun h => h.IsListIter s₁.heap.objs.size l (k + 1)) hf (fun _ m => m) (fun a' o m e => (hs'.2 a' (by simpa using m)).trans e) (one_mem (let ⟨o, x, _⟩ := hi; ⟨o, x⟩)) hi
    refine hI'.bind (av := xs[k]) hh hf (J1 (k + 1)) fun loc₂ as₂ θ₂ q S' pre' => ⟨?_, ?_⟩
    · obtain ⟨ob, hob, hxs⟩ := hG _ _ _ q
      obtain ⟨vs'', ⟨o2, e2, _, n2, d2⟩, r''⟩ := listA_of S' hob (get_pre (pre.trans pre') hl) hxs
      obtain ⟨v', hv', rv'⟩ := r''.get hav
      refine El_eaae il' fun o1 e1 _ n1 d1 => ?_; try clear il'
      rw [show ({ s₆ with heap := h' } : Shared).heap.get? l = _ from hs'.2 l nl, e1] at e2
      cases e2
      rw [d1] at d2; cases d2
      rw [hv] at hv'; cases hv'
      exact rv'
    · have := hst k loc₂ as₂ hk q
      unfold bndL at this
      rw [hav] at this
      exact this
  · intro A f L env θ₀ h₀ I hh pre hf hG s₆ E' hI
    refine El_eeeaaaaa (id hI.ex) fun θ' as' loc q1 q2 q3 q4 q5 q6 => ?_
    refine El_ea (hG _ _ q1) fun ob hob hxs => ?_
    refine El_ea (listA_of q2 hob (get_pre (pre.trans q4.pre) hl) hxs) fun vs' il' r' => ?_
    exact wpAny_pyNext_list_end hh q5 il' (by rw [← Array.getElem?_toList, List.getElem?_eq_none_iff, r'.len]; exact Nat.le_refl _) fun h' hx => ⟨rfl, hI.fin hf fun a' o m e => hx a' o (by simpa using m) e⟩
end
end Mine

end
section
open PySem PySem.W PyProof.Rows PySem.SeqAt
namespace Mine
section
variable {X : Cx} {dp : Nat} {f : Fm} {as as' : List AO} {θ θ' : List Addr} {s s' : Shared} {L b : Addr} {env : Env}
theorem st_forI {tg iter : Expr} {body : List Stmt} {pos : Pos} {Q : PF} (hfold : ∀ env x, foldedSetIterable iter env x = pure x)
    (h : Itr X dp f iter tg as fun N bnd G as₁ => ∃ Inv Bd : Nat → Loc → List AO → Prop, Inv 0 f.loc as₁ ∧ (∀ k loc as₂, Inv k loc as₂ → G as₂) ∧ (∀ k loc as₂, k < N → Inv k loc as₂ → bnd { f with loc := loc } k as₂ (Bd k)) ∧
      (∀ k loc as₂, Bd k loc as₂ → ExsS X dp { f with loc := loc } body as₂ fun fl loc' as' => match fl with | .next | .cont => Inv (k + 1) loc' as' | .brk => Q .next loc' as' | .ret v => Q (.ret v) loc' as') ∧
      (∀ loc as₂, Inv N loc as₂ → Q .next loc as₂)) : ExS X dp f (.For tg iter body [] pos) as Q := by
  intro A θ s L env post E R F S c
  refine wpAny_For (h A θ s L env _ E R F S fun it N fs J G bnd θ₁ as₁ h₁ s₁ q S₁ X₁ X₂ T J0 hb => ?_) (hfold env)
  refine El_eeaaaa q fun Inv Bd h0 hG hst hrun hend => ?_
  have F₁ := F.ext X₁
  have hf : ∀ b ∈ fs, b ≠ L ∧ h₁.get? b = none := fun b m => ⟨fun e => (by
    obtain ⟨o, ho⟩ := F₁.there
    have := (hb b m).2
    rw [e, ho] at this; cases this), (hb b m).2⟩
  refine for_core (dp := dp) (f := f) (L := L) (θ₀ := θ₁) (h₀ := h₁) (fs := fs) (N := N) (J := J) (Inv := Inv) (Bd := Bd) (Q := Q) R hf F₁.there F₁.nin T.keep (T.nxt A f L env θ₁ h₁ Inv Bd R.2.2 (List.prefix_refl _) hf hG hst)
    (fun s E' hI => wpAny_mono (T.stop A f L env θ₁ h₁ (Inv N) R.2.2 (List.prefix_refl _) hf (hG N) s E' hI) (fun r s₂ z => ⟨z.1, ?_⟩) fun _ _ x => x) hrun
    (fun fl loc' as' θ' s' g p1 p2 p3 p4 p5 => c fl loc' as' θ' s' g p1 p2 (X₁.toL.trans F.there F.nin F₁.there p3) p4 p5) ⟨θ₁, as₁, f.loc, h0, S₁, F₁.ext X₂, X₂.toL, J0, fun b m => (hb b m).1⟩
  refine El_eeea z.2.ex fun θ as loc q1 q2 => ?_
  exact ⟨θ, as, loc, hend loc as q1, q2⟩
theorem cmp_I {elt tg iter : Expr} {ifs : List Expr} {scope : Scope} {pos : Pos} {cA : List (Str × Nat)} {Q : PV} (hfold : ∀ env x, foldedSetIterable iter env x = pure x)
    (hcA : cloA f.cells scope.names [] = some cA) (hdbg : notDbg scope.names = true) (hkind : scope.kind = .function) (hnames : ∀ y ∈ scope.names, y.2 = .local → scope.names.lookup y.1 = some .local) (hcell : ∀ y ∈ scope.names, y.2 ≠ .cell)
    (h : Itr X dp f iter tg as fun N bnd G as₁ => N ≤ 100000 ∧ ∃ Inv Bd : Nat → Loc → List AO → Prop, Inv 0 [] (as₁ ++ [.list []]) ∧ (∀ k loc as₂, Inv k loc as₂ → G as₂) ∧ (∀ k loc as₂, k < N → Inv k loc as₂ → bnd (compFm f scope cA loc) k as₂ (Bd k)) ∧
      (∀ k loc as₂, k < N → Bd k loc as₂ → FlS X dp (compFm f scope cA loc) ifs as₂ fun b as₃ => ifB b (EvS X dp (compFm f scope cA loc) elt as₃ fun y as₄ => ∃ ys, as₄[as₁.length]? = some (.list ys) ∧ ys.length ≤ k ∧ Inv (k + 1) loc (as₄.set as₁.length (.list (ys ++ [y])))) (Inv (k + 1) loc as₃)) ∧
      (∀ loc as₂, Inv N loc as₂ → ∃ ys, as₂[as₁.length]? = some (.list ys) ∧ Q (.obj as₁.length) (as₂.set as₁.length (mkL ys)))) : CmpS X dp f elt tg iter ifs scope pos as Q := by
  refine ⟨hfold, hkind, hnames, fun A θ s L env E R F S => ?_⟩
  refine El_ea (clo_rel F scope.names [] [] hcA (fun x i q => by cases q)) fun cs hclo hcs => ?_
  refine ⟨cs, hclo, fun RR c => ?_⟩
  refine h A θ s L env _ E R F S fun it N fs J G bnd θ₂ as₂ h₂ s₂ q S₂ X₁ X₂ T J0 hb => ?_
  obtain ⟨hN, Inv, Bd, h0, hG, hst, hel, hend⟩ := q
  have F₂ : FrR X f L env θ₂ s₂.heap := (F.ext X₁).ext X₂
  refine wpAny_newObj_type ?_ (by size_fits)
  obtain ⟨S5, X5⟩ := S₂.push (o := .list []) (ob := { cls := .type "list", data := .seq #[] }) rfl ⟨#[], 0, rfl, .nil⟩
  have Fi5 : ∀ b ∈ fs, Free X (θ₂ ++ [s₂.heap.objs.size]) (s₂.heap.push { cls := .type "list", data := .seq #[] }) b := fun b m => (hb b m).1.extL (s := s₂) (s' := { s₂ with heap := s₂.heap.push { cls := .type "list", data := .seq #[] } }) (L := b + 1) X5.toL (Nat.ne_of_lt (Nat.lt_succ_self _))
  have J5 := T.keep 0 _ (s₂.heap.push { cls := .type "list", data := .seq #[] }) J0 fun b m o e => Heap.get?_push_of_some _ e
  have hD : (θ₂ ++ [s₂.heap.objs.size])[as₂.length]? = some s₂.heap.objs.size := by rw [S₂.ar.len]; simp
  have X25 := X₂.trans X5
  have F5 := F₂.ext X5
  have n5 : ∀ b ∈ fs, ∃ o, (s₂.heap.push { cls := .type "list", data := .seq #[] }).get? b = some o := fun b m => (Fi5 b m).there
  revert S5 Fi5 J5 hD X25 F5 n5
  show ∀ (_ : X.S (θ₂ ++ [s₂.heap.objs.size]) (as₂ ++ [.list []]) { s₂ with heap := s₂.heap.push { cls := .type "list", data := .seq #[] } }) _ _ _ _ _ _, wpAny X.M A (newFunctionEnv _ _ _ _ _ _ _ _) (fun cenv s₄ => codeAny X.M A (.compStart _ 0 _ (.ref s₂.heap.objs.size) _) (RR (.ref s₂.heap.objs.size) _) s₄) E { s₂ with heap := s₂.heap.push { cls := .type "list", data := .seq #[] } }
  generalize s₂.heap.push { cls := .type "list", data := .seq #[] } = h5
  generalize s₂.heap.objs.size = dd
  intro S5 Fi5 J5 hD X25 F5 n5
  refine wpAny_newFunctionEnv hcell (fun y hy => by cases hy) (fun h6 hns hsb => ?_) hkind
  have hsb : Heap.SameBut h5.objs.size (h5.push { cls := .type "dict", data := .dict #[] }) h6 := hsb
  have hns : h6.Ns h5.objs.size (fun y => ([] : List (Str × Value)).reverse.lookup y) := hns
  have hk6 : ∀ b' o, h5.get? b' = some o → h6.get? b' = some o := fun b' o e => hsb.extBut b' o (Nat.ne_of_lt (Heap.lt_size e)) (Heap.get?_push_of_some _ e)
  have S6 : X.S (θ₂ ++ [dd]) (as₂ ++ [.list []]) { s₂ with heap := h6, toks := s₂.toks + 0 } := S5.keeps (k := s₂.toks + 0) hk6
  have X6 : Ext X.H (θ₂ ++ [dd]) h5 (θ₂ ++ [dd]) h6 := ⟨List.prefix_refl _, fun _ a b => absurd a b, fun b o q _ _ => hk6 b o q, fun b o q => ⟨o, hk6 b o q⟩, S5.tabKeep hk6⟩
  have Fi6 : ∀ b ∈ fs, Free X (θ₂ ++ [dd]) h6 b := fun b m => (Fi5 b m).extL (s := { s₂ with heap := h5 }) (s' := { s₂ with heap := h6 }) (L := b + 1) X6.toL (Nat.ne_of_lt (Nat.lt_succ_self _))
  have J6 := T.keep 0 _ h6 J5 fun b m o e => hk6 _ _ e
  have nC : h5.objs.size ∉ θ₂ ++ [dd] := fun m => Nat.lt_irrefl _ (S5.lt m)
  have nC2 : h₂.get? h5.objs.size = none := by
    cases q : h₂.get? h5.objs.size with
    | none => rfl
    | some o => obtain ⟨o', z⟩ := X25.ex _ _ q; exact absurd (Heap.lt_size z) (Nat.lt_irrefl _)
  have itC : ∀ b ∈ fs, b ≠ h5.objs.size := fun b m q => by obtain ⟨o, a⟩ := n5 b m; rw [q] at a; exact absurd (Heap.lt_size a) (Nat.lt_irrefl _)
  have FC : FrR X (compFm f scope cA []) h5.objs.size { newEnv scope h5.objs.size env.globals cs env.qual none .none (some env) 0 with scope := relabel scope env } (θ₂ ++ [dd]) h6 := by
    refine ⟨?_, hkind, rfl, nC, S5.fresh, S5.freshH, ⟨_, hns, fun y av e => by cases e⟩, fun y i q => ?_, F.glob, F.blt, F.code, F.qual⟩
    · show relabel scope env = relS scope f.sc
      unfold relabel relS
      rw [relN_eq F scope.names hdbg]
    · refine El_ea (hcs y i q) fun a' h1 h2 => ?_
      exact ⟨a', get_pre ((X₁.pre.trans X25.pre)) h1, h2⟩
  revert FC
  show ∀ (_ : FrR X (compFm f scope cA []) h5.objs.size _ (θ₂ ++ [dd]) h6), codeAny X.M A (.compStart _ 0 it (.ref dd) { newEnv scope h5.objs.size env.globals cs env.qual none .none (some env) 0 with scope := relabel scope env }) (RR (.ref dd) h5.objs.size) { s₂ with heap := h6, toks := s₂.toks + 0 }
  generalize ({ newEnv scope h5.objs.size env.globals cs env.qual none .none (some env) 0 with scope := relabel scope env } : Env) = cenv
  generalize h5.objs.size = C at nC nC2 itC hsb hns ⊢
  intro FC
  have hf : ∀ b' ∈ fs, b' ≠ C ∧ h₂.get? b' = none := fun b m => ⟨itC b m, (hb b m).2⟩
  have hdn : h₂.get? dd = none ∧ dd ∉ X.H := X25.fresh dd (by simp) (fun m => by
    have h1 := S5.ar.nodup
    rw [List.nodup_append] at h1
    exact h1.2.2 dd m dd (by simp) rfl)
  have X26 := X25.trans X6
  have E0 : ExtL X.H C (θ₂ ++ [dd]) h₂ (θ₂ ++ [dd]) h6 := ⟨List.prefix_refl _, fun _ x y => absurd x y, fun b' o e n nh nC' => X26.keep b' o e (fun m => n (List.mem_append_left _ m)) nh, X26.ex, X26.tab⟩
  have L0 : LoopAt X (compFm f scope cA []) C cenv (θ₂ ++ [dd]) h₂ fs (J 0) (Inv 0) { s₂ with heap := h6, toks := s₂.toks + 0 } :=
    ⟨θ₂ ++ [dd], as₂ ++ [.list []], [], h0, S6, FC, E0, J6, Fi6⟩
  have go : codeAny X.M A (.compLoop (.ListComp elt [⟨tg, iter, ifs, 0⟩] scope pos) 0 it (.ref dd) cenv) (RR (.ref dd) C) { s₂ with heap := h6, toks := s₂.toks + 0 } := by
    refine compLoop_any (fun n s' => ∃ k, k ≤ N ∧ n = N - k ∧ LoopAt X (compFm f scope cA []) C cenv (θ₂ ++ [dd]) h₂ fs (J k) (Inv k) s') ?_ N ⟨0, Nat.zero_le _, rfl, L0⟩
    intro n s' hz; refine El_eaa hz fun k hk hr hI => ?_; obtain rfl := hr; clear hz
    by_cases hq : k = N
    · obtain rfl := hq
      refine wpAny_mono (T.stop A (compFm f scope cA []) C cenv (θ₂ ++ [dd]) h₂ (Inv k) R.2.2 ⟨_, rfl⟩ hf (hG k) s' _ hI) (fun r s₃ z => ?_) fun _ _ x => x
      obtain ⟨rfl, z⟩ := z
      refine El_eeeaaaaa z.ex fun θ' as' loc q1 q2 q3 q4 q5 q6 => ?_
      refine El_ea (hend loc as' q1) fun ys hys hQ => ?_
      exact c as' ys as₂.length C dd _ hQ ⟨θ₂, { s₂ with heap := h₂ }, θ', _, cenv, X₁, nC2, hdn, q2, q3, q4, hys, hD⟩
    · have hk' : k < N := by lia
      refine wpAny_mono (T.nxt A (compFm f scope cA []) C cenv (θ₂ ++ [dd]) h₂ Inv Bd R.2.2 ⟨_, rfl⟩ hf hG hst k s' _ hk' hI) (fun r s₃ z => ?_) fun _ _ x => x
      obtain ⟨v, rfl, z⟩ := z
      refine wpAny_mono z (fun _ s₃ z => wpAny_mono z (fun _ s₄ h₄ => ?_) fun _ _ x => x) fun _ _ x => x
      refine El_eeeaaaaa h₄.ex fun θ₄ as₄ loc₄ p1 p2 p3 p4 p5 p6 => ?_
      refine fl_ok (hel k loc₄ as₄ hk' p1) R p3 p2 fun ok as₅ θ₅ s₅ q₅ S₅ X₅ => ?_
      have F5' := p3.ext X₅
      have p4' := p4.thru p3.there X₅.toL
      have p5' := T.keep _ _ s₅.heap p5 fun b m o x => X₅.keep _ _ x (p6 b m).nin (p6 b m).nhid
      have p6' : ∀ b' ∈ fs, Free X θ₅ s₅.heap b' := fun b' m' => (p6 b' m').extL X₅.toL (hf b' m').1
      cases ok with
      | false =>
        rw [if_neg (by simp)]
        exact ⟨N - (k + 1), by exact Nat.sub_succ_lt_self N k hk', k + 1, by exact Nat.succ_le_of_lt hk', rfl, ⟨θ₅, as₅, loc₄, q₅, S₅, F5', p4', p5', p6'⟩⟩
      | true =>
        rw [if_pos rfl]
        refine q₅ A θ₅ s₅ C cenv _ _ R F5' S₅ fun y as₆ θ₆ s₆ vy q₆ S₆ X₆ V₆ => ?_
        refine El_eaa q₆ fun ys hys hyl hInv => ?_; try clear q₆
        have pd : θ₆[as₂.length]? = some dd := get_pre (p4'.pre.trans X₆.pre) hD
        refine El_eaeea (S₆.ar.objs as₂.length _ dd hys pd) fun ob g1 items nn hr4 gr => ?_; obtain rfl := hr4
        refine wpAny_list_append_plain (items := items) ⟨nn, g1⟩ (fun h₆ hpl hsb₆ => ?_) (by
          have := gr.len
          rw [← Array.length_toList, this, sizeLine_eq]; lia)
        obtain ⟨n6, g6⟩ := hpl
        have PU := S₆.upd (o' := .list (ys ++ [y])) pd hys hsb₆ g6 ⟨_, _, rfl, by rw [Array.toList_push]; exact gr.app (.cons V₆ .nil)⟩
        have X₅₇ := X₆.trans PU.2
        exact ⟨N - (k + 1), by lia, k + 1, by lia, rfl, ⟨θ₆, _, loc₄, hInv, PU.1, F5'.ext X₅₇, p4'.thru F5'.there X₅₇.toL, T.keep _ _ _ p5' fun b m o x => X₅₇.keep _ _ x (p6' b m).nin (p6' b m).nhid, fun b' m' => (p6' b' m').extL (s' := { s₆ with heap := h₆ }) X₅₇.toL (hf b' m').1⟩⟩
  exact codeAny_compStart_list go (T.again A _ _ _ J6 go)
end
end Mine

end
section
open PySem PySem.W PyProof.Rows PySem.SeqAt
namespace Mine
noncomputable def BiS (X : Cx) (id : String) (vs : List AV) (as : List AO) (Q : PV) : Prop := ∀ (A : Around) (θ : List Addr) (s : Shared) (us : List Value) (post E : Value → Shared → Prop), A.handled = none → X.S θ as s → VRs θ vs us →
  (∀ av as' θ' s' v, Q av as' → X.S θ' as' s' → Ext X.H θ s.heap θ' s'.heap → VR θ' av v → post v s') → wpAny X.M A (call (.builtin id) us) post E s
section
variable {X : Cx} {dp : Nat} {f : Fm} {as as' : List AO} {θ θ' : List Addr} {s s' : Shared} {L b : Addr} {env : Env} {D : Cls} {K : Frag}
theorem BiS.mono {id : String} {vs : List AV} {Q Q' : PV} (h : BiS X id vs as Q) (k : ∀ a b, Q a b → Q' a b) : BiS X id vs as Q' := fun A θ s us post E hh S V c => h A θ s us post E hh S V fun av as' θ' s' v q => c av as' θ' s' v (k _ _ q)
theorem ev_bi {x : Str} {p pos : Pos} {args : List Expr} {id : String} {Q : PV} (hk : isKind .globalImplicit f.sc x = true) (G : GlobV X x (.builtin id)) (hs : noStar args = true) (h : EvsS X dp f args as fun vs as₁ => BiS X id vs as₁ Q) : EvS X dp f (.Call (.Name x p) args [] pos) as Q := by
  intro A θ s L env post E R F S c
  refine wpAny_Call_Name_kw (ev_glob (av := .bi id) (Q := fun av as₁ => av = .bi id ∧ as₁ = as) hk G rfl ⟨rfl, rfl⟩ A θ s L env _ E R F S fun av as₁ θ₁ s₁ v q S₁ X₁ V₁ => ?_)
  obtain ⟨rfl, rfl⟩ := q
  cases V₁
  rw [back_eq pos env args hs]
  refine Calls.callWith_builtin (by rw [plain_any _ (fun _ => rfl)]) (args_ok ?_)
  exact h A θ₁ s₁ L env _ E R (F.ext X₁) S₁ fun vs as₂ θ₂ s₂ us q S₂ X₂ V₂ => q A θ₂ s₂ us post E R.2.2 S₂ V₂ fun av as' θ' s' v q' S' X' V' => c av as' θ' s' v q' S' ((X₁.trans X₂).trans X') V'
theorem Ext.kept (S : X.S θ as s) {h' : Heap} (hk : ∀ b o, s.heap.get? b = some o → h'.get? b = some o) : Ext X.H θ s.heap θ h' :=
  ⟨List.prefix_refl _, fun _ a b => absurd a b, fun b o q _ _ => hk b o q, fun b o q => ⟨o, hk b o q⟩, S.tabKeep hk⟩
theorem one_obj {i : Nat} {us : List Value} (V : VRs θ [.obj i] us) : ∃ l, θ[i]? = some l ∧ us = [.ref l] := by
  cases V with
  | cons a r => cases r with | nil => refine El_ea a fun l hl hr2 => ?_; obtain rfl := hr2; try clear a; exact ⟨l, hl, rfl⟩
theorem bi_len {i n : Nat} {ob : AO} {Q : PV} (e : as[i]? = some ob) (h : LenI ob n ∨ ∃ xs, ob = .tuple xs ∧ n = xs.length) (hz : n ≤ 1000000) (q : Q (.int n) as) : BiS X "len" [.obj i] as Q := by
  intro A θ s us post E hh S V c
  obtain ⟨l, hl, rfl⟩ := one_obj V
  rcases h with h | ⟨xs, rfl, rfl⟩
  · obtain ⟨vs, il, hn⟩ := lenI_of S e hl h
    refine len_list il (by rw [hn]; lia) ?_
    rw [hn]
    exact c _ _ θ _ _ q (S.toks _) (Ext.refl _ _) ⟨_, rfl⟩
  · refine El_eaeea (S.ar.objs i _ l e hl) fun ob h1 vs n hr4 r => ?_; obtain rfl := hr4
    have hz' : vs.size = xs.length := by rw [← Array.length_toList]; exact r.len
    refine PyProof.Rows.len_tuple ⟨_, h1, rfl, n, rfl⟩ (by rw [hz']; lia) ?_
    rw [hz']
    exact c _ _ θ _ _ q (S.toks _) (Ext.refl _ _) ⟨_, rfl⟩
theorem bi_sum {i : Nat} {ob : AO} {xs : List Int} {Q : PV} (e : as[i]? = some ob) (h : ReadI ob xs) (q : Q (.int xs.sum) as) : BiS X "sum" [.obj i] as Q := by
  intro A θ s us post E hh S V c
  obtain ⟨l, hl, rfl⟩ := one_obj V
  obtain ⟨vs, il, hn⟩ := readI_of S e hl h
  exact sum_ok hh il hn fun h' tk t' hk => c _ _ θ { s with heap := h', toks := tk } _ q (S.keeps (k := tk) hk) (Ext.kept S hk) ⟨_, rfl⟩
noncomputable def isStrA (as : List AO) : AV → Option Bool
  | .str _ => some true
  | .int _ => some false
  | .obj i => (match as[i]? with | some (.tuple _) => some false | _ => none)
  | _ => none
theorem bi_isi {a : AV} {r : Bool} {Q : PV} (e : isStrA as a = some r) (q : Q (.bool r) as) : BiS X "isinstance" [a, .ty "str"] as Q := by
  intro A θ s us post E hh S V c
  cases V with | cons V1 V => cases V with | cons V2 V => cases V with | nil =>
    cases V2
    cases a with
    | str x => obtain ⟨t, rfl⟩ := V1; cases e; exact IsiPair.str_str (c _ _ θ s _ q S (Ext.refl _ _) rfl)
    | int x => obtain ⟨t, rfl⟩ := V1; cases e; exact IsiPair.int_str (c _ _ θ { s with toks := s.toks + 1 } _ q (S.toks _) (Ext.refl _ _) rfl)
    | obj i =>
      obtain ⟨l, hl, rfl⟩ := V1
      have e : (match as[i]? with | some (.tuple _) => some false | _ => none) = some r := e
      split at e
      · rename_i xs hx
        cases e
        refine El_eaeea (S.ar.objs i _ l hx hl) fun ob h1 vs n hr4 _ => ?_; obtain rfl := hr4
        exact IsiPair.tuple_str h1 rfl (c _ _ θ { s with toks := s.toks + 1 } _ q (S.toks _) (Ext.refl _ _) rfl)
      · cases e
    | _ => cases e
theorem bi_append {i : Nat} {xs : List Int} {y : Int} {Q : PV} (e : as[i]? = some (.intx xs)) (hz : xs.length ≤ 100000) (q : Q .none (as.set i (.intx (xs ++ [y])))) : BiS X "list.append" [.obj i, .int y] as Q := by
  intro A θ s us post E hh S V c
  cases V with | cons V1 V => cases V with | cons V2 V => cases V with | nil =>
    obtain ⟨a, ha, rfl⟩ := V1
    obtain ⟨t, rfl⟩ := V2
    refine El_eaeea (S.ar.objs i _ a e ha) fun ob g1 vs n hr4 r => ?_; obtain rfl := hr4
    have hs : vs.size = xs.length := by rw [← Array.length_toList]; exact r.length
    refine wpAny_list_append_plain (items := vs) ⟨n, g1⟩ (fun h' hp hs' => ?_) (by rw [hs, sizeLine_eq]; lia)
    obtain ⟨n', g'⟩ := hp
    have P := S.upd (o' := .intx (xs ++ [y])) ha e hs' g' ⟨_, _, rfl, by rw [Array.toList_push]; exact IntsAre.append r (.cons y t .nil)⟩
    exact c _ _ θ { s with heap := h' } _ q P.1 P.2 rfl
noncomputable def intsT : AO → Option (List Int)
  | .intx xs => some xs
  | .tuple vs => intsOf vs
  | _ => none
theorem bi_extend {i j : Nat} {xs ys : List Int} {ob : AO} {Q : PV} (e : as[i]? = some (.intx xs)) (ej : as[j]? = some ob) (hy : intsT ob = some ys) (hz : xs.length + ys.length ≤ 100000) (q : Q .none (as.set i (.intx (xs ++ ys)))) : BiS X "list.extend" [.obj i, .obj j] as Q := by
  intro A θ s us post E hh S V c
  cases V with | cons V1 V => cases V with | cons V2 V => cases V with | nil =>
    obtain ⟨a, ha, rfl⟩ := V1
    obtain ⟨b, hb, rfl⟩ := V2
    refine El_eaeea (S.ar.objs i _ a e ha) fun o1 g1 vs n hr4 r => ?_; obtain rfl := hr4
    have hs : vs.size = xs.length := by rw [← Array.length_toList]; exact r.length
    have fin : ∀ (ws : Array Value), IntsAre ws.toList ys → ∀ h', h' = s.heap.update a (Obj.mapSeq fun x => x ++ ws) → post .none { s with heap := h', toks := s.toks } := fun ws rw' h' eh => by
      subst eh
      have g' := Heap.get?_update_self (Obj.mapSeq fun x => x ++ ws) g1 rfl
      have P := S.upd (o' := .intx (xs ++ ys)) ha e (Heap.SameBut.update ..) g' ⟨_, _, rfl, by rw [Array.toList_append]; exact IntsAre.append r rw'⟩
      exact c _ _ θ { s with heap := _ } _ q P.1 P.2 rfl
    have ta : s.TypeIs (.ref a) "list" := ⟨_, g1, rfl⟩
    have big : ∀ ws : Array Value, ws.size = ys.length → ¬(!vs.isEmpty && Builtin.List.listTooLong (vs.size + ws.size)) = true ∧ vs.size ≤ sizeLine ∧ vs.size + ws.size ≤ sizeLine + 1 := fun ws hw => by
      refine ⟨by simp [Builtin.List.listTooLong, sizeLine]; lia, by rw [sizeLine_eq]; lia, by rw [sizeLine_eq]; lia⟩
    cases ob with
    | intx zs =>
      obtain rfl := Option.some.inj (show some zs = some ys from hy)
      refine El_eaeea (S.ar.objs j _ b ej hb) fun o2 g2 ws n2 hr4 r2 => ?_; obtain rfl := hr4
      have hw : ws.size = zs.length := by rw [← Array.length_toList]; exact r2.length
      obtain ⟨b1, b2, b3⟩ := big ws hw
      exact call_meets PySem.F.slot_list_extend ta PySem.F.entry_list_extend (PySem.F.args_list_extend_2 _ _) (PySem.AutoSeq1.list_extend_list_list_0 a vs n b ws n2 b1 b2 b3) ⟨g1, g2, fin ws r2 _ rfl⟩
    | tuple zs =>
      have hy : intsOf zs = some ys := hy
      refine El_eaeea (S.ar.objs j _ b ej hb) fun o2 g2 ws n2 hr4 r2 => ?_; obtain rfl := hr4
      have r3 := intsOf_ok r2 hy
      have hw : ws.size = ys.length := by rw [← Array.length_toList]; exact r3.length
      obtain ⟨b1, b2, b3⟩ := big ws hw
      exact call_meets PySem.F.slot_list_extend ta PySem.F.entry_list_extend (PySem.F.args_list_extend_2 _ _) (PySem.AutoSeq1.list_extend_list_tuple_0 a vs n b ws n2 b1 b2 b3) ⟨g1, g2, fin ws r3 _ rfl⟩
    | _ => exact nosome hy
end
end Mine

end
section
open PySem PySem.W PyProof.Rows PySem.SeqAt
set_option backward.match.sparseCases false
namespace Mine
theorem MRs.look {θ : List Addr} {es : List (Str × AV)} {kvs : List (Str × Value)} (h : MRs θ es kvs) (x : Str) : match lk es x with | some av => ∃ v, valueAt kvs x = some v ∧ VR θ av v | none => kvs.any (fun kv => kv.1 = x) = false := by
  induction h with
  | nil => rfl
  | @cons y a v es kvs hv _ ih =>
    unfold lk
    cases q : seq y x with
    | true =>
      obtain rfl := seq_iff.mp q
      exact ⟨v, by unfold valueAt; simp, hv⟩
    | false =>
      have ne : y ≠ x := fun e => by rw [seq_iff.mpr e] at q; cases q
      revert ih
      show (match lk es x with | some av => _ | none => _) → (match lk es x with | some av => _ | none => _)
      cases lk es x with
      | some av =>
        rintro ⟨u, h1, h2⟩
        exact ⟨u, by unfold valueAt at h1 ⊢; rw [List.find?_cons, decide_eq_false ne]; exact h1, h2⟩
      | none => intro h1; rw [List.any_cons, decide_eq_false ne]; exact h1
theorem MRs.len {θ : List Addr} {es : List (Str × AV)} {kvs : List (Str × Value)} (h : MRs θ es kvs) : kvs.length = es.length := by
  induction h with
  | nil => rfl
  | cons _ _ ih => simp [ih]
theorem MRs.snoc {θ : List Addr} {es : List (Str × AV)} {kvs : List (Str × Value)} {x : Str} {a : AV} {v : Value} (h : MRs θ es kvs) (hv : VR θ a v) : MRs θ (es ++ [(x, a)]) (kvs ++ [(x, v)]) := by
  induction h with
  | nil => exact .cons hv .nil
  | cons g _ ih => exact .cons g ih
noncomputable def AsS (X : Cx) (dp : Nat) (f : Fm) (tg : Expr) (v : AV) (as : List AO) (Q : Loc → List AO → Prop) : Prop := ∀ (A : Around) (θ : List Addr) (s : Shared) (L : Addr) (env : Env) (post : Unit → Shared → Prop) (E : Value → Shared → Prop) (u : Value), Room A dp → FrR X f L env θ s.heap → X.S θ as s → VR θ v u →
  (∀ loc' as' θ' s', Q loc' as' → X.S θ' as' s' → ExtL X.H L θ s.heap θ' s'.heap → FrR X { f with loc := loc' } L env θ' s'.heap → post () s') → wpAny X.M A (assign tg env u) post E s
noncomputable def AsL (X : Cx) (dp : Nat) (f : Fm) (ts : List Expr) (vs : List AV) (as : List AO) (Q : Loc → List AO → Prop) : Prop := ∀ (A : Around) (θ : List Addr) (s : Shared) (L : Addr) (env : Env) (post : Unit → Shared → Prop) (E : Value → Shared → Prop) (us : List Value), Room A dp → FrR X f L env θ s.heap → X.S θ as s → VRs θ vs us →
  (∀ loc' as' θ' s', Q loc' as' → X.S θ' as' s' → ExtL X.H L θ s.heap θ' s'.heap → FrR X { f with loc := loc' } L env θ' s'.heap → post () s') → wpAny X.M A (assignInOrder (ts.map fun t => assign t env) us) post E s
noncomputable def putX (pw : Option (Program × World)) (ov kv v : AV) (as : List AO) (Q : List AO → Prop) : Prop := match kv with
  | .str x => (match ov with
    | .obj i => (match as[i]? with
      | some (.map p w es) => pw = some (p, w) ∧ (match lk es x, Nat.ble es.length 1000 with | none, true => Q (as.set i (.map p w (es ++ [(x, v)]))) | _, _ => False)
      | _ => False)
    | _ => False)
  | kv => putW ov kv v as Q
noncomputable def itemX (pw : Option (Program × World)) (D : Cls) (o k : AV) (as : List AO) (Q : AV → Prop) : Prop := match o with
  | .obj i => (match as[i]? with
    | some (.map p w es) => (match k with | .str x => pw = some (p, w) ∧ (match lk es x with | some v => Q v | none => False) | _ => False)
    | some (.fix ob) => (match k with | .int j => ∃ xs, FixI ob xs ∧ (0 ≤ j ∧ j < xs.length ∧ j < 2 ^ 63) ∧ Q (.int (xs.getD j.toNat 0)) | _ => False)
    | some (.tuple xs) => (match k with | .int j => (match j with | .ofNat n => (match Nat.ble n 1000, xs[n]? with | true, some v => Q v | _, _ => False) | _ => False) | _ => False)
    | _ => itemW D o k as Q)
  | _ => itemW D o k as Q
section
variable {X : Cx} {dp : Nat} {f : Fm} {as as' : List AO} {θ θ' : List Addr} {s s' : Shared} {L b : Addr} {env : Env} {D : Cls} {K : Frag} {pw : Option (Program × World)}
theorem ev_dict0 {p : Program} {w : World} {pos : Pos} {Q : PV} (hpw : p = X.prog ∧ w = X.w) (h : Q (.obj as.length) (as ++ [.map p w []])) : EvS X dp f (.Dict [] [] pos) as Q := by
  intro A θ s L env post E R F S c
  refine wpAny_Dict_empty ?_
  have P := S.push (o := .map p w []) (ob := { cls := .type "dict", data := .dict #[] }) rfl ⟨[], ⟨#[], 0, ⟨rfl, rfl, rfl⟩, rfl, fun _ he => by simp at he, .nil, List.nodup_nil⟩, .nil⟩
  exact c _ _ _ _ _ h P.1 P.2 ⟨_, by rw [S.ar.len]; simp, rfl⟩
theorem putX_ok {o k v : AV} {ov kv u : Value} {Q : Unit → Shared → Prop} {P : List AO → Prop} {A : Around} {E : Value → Shared → Prop} (hpw : ∀ p w, pw = some (p, w) → p = X.prog ∧ w = X.w) (S : X.S θ as s) (e : putX pw o k v as P) (ho : VR θ o ov) (hk : VR θ k kv) (hv : VR θ v u)
    (h : ∀ as' s', P as' → X.S θ as' s' → Ext X.H θ s.heap θ s'.heap → Q () s') : wpAny X.M A (setItem ov kv u) Q E s := by
  cases k with
  | str x =>
    obtain ⟨t, rfl⟩ := hk
    cases o with
    | obj i =>
      obtain ⟨a, ha, rfl⟩ := ho
      have e : (match as[i]? with
        | some (.map p w es) => pw = some (p, w) ∧ (match lk es x, Nat.ble es.length 1000 with | none, true => P (as.set i (.map p w (es ++ [(x, v)]))) | _, _ => False)
        | _ => False) := e
      split at e
      · rename_i p w es hi
        obtain ⟨e0, e⟩ := e
        obtain ⟨rfl, rfl⟩ := hpw p w e0
        refine El_eaea (S.ar.objs i _ a hi ha) fun ob g kvs D M => ?_
        split at e
        · rename_i hl hb
          have hz := Nat.le_of_ble_eq_true hb
          have lo := M.look x
          rw [hl] at lo
          refine wpAny_setItem_pairs (strKind_is _ _ x t) (Heap.dictOf_iff.mpr ⟨ob, g, D⟩) (fun h' hd hs => ?_) (by rw [M.len, sizeLine_eq]; lia)
          obtain ⟨o', g', D'⟩ := Heap.dictOf_iff.mp hd
          unfold stored at D'
          rw [lo, if_neg (by decide)] at D'
          have PP := S.upd (o' := .map X.prog X.w (es ++ [(x, v)])) ha hi hs g' ⟨_, D', M.snoc hv⟩
          exact h _ { s with heap := h', toks := s.toks + 1 } e (PP.1.toks _) PP.2
        · cases e
      · cases e
    | _ => exact False.elim e
  | _ => unfold putX at e; exact put_ok S e ho hk hv h
theorem ev_subX {v i : Expr} {pos : Pos} {Q : PV} (hpw : ∀ p w, pw = some (p, w) → p = X.prog ∧ w = X.w) (O : ClsOK D K X.h₀) (hn : noSlice i = true) (h : EvS X dp f v as fun o as₁ => EvS X dp f i as₁ fun k as₂ => itemX pw D o k as₂ fun r => Q r as₂) : EvS X dp f (.Subscript v i pos) as Q := by
  intro A θ s L env post E R F S c
  refine Subscript_ (h A θ s L env _ E R F S fun o as₁ θ₁ s₁ ov q S₁ X₁ V₁ => q A θ₁ s₁ L env _ E R (F.ext X₁) S₁ fun k as₂ θ₂ s₂ kv q₂ S₂ X₂ V₂ => ?_)
  have X₁₂ := X₁.trans X₂
  have V₁ := V₁.mono X₂.pre
  have gen : itemW D o k as₂ (fun r => Q r as₂) → wpAny X.M A (subscriptTail v i ov kv) post E s₂ := fun q₂ => by
    obtain ⟨a, rfl, ht, hw⟩ := item_ok (prog := X.prog) (w := X.w) (A := A) (E := E) (Q := post) O S₂ q₂ V₁ V₂ fun av v q' V' => c av as₂ θ₂ s₂ v q' S₂ X₁₂ V'
    exact tail_any ht slot_list_getitem.lookup hw (sub_eq hn _ _)
  have q₂ : itemX pw D o k as₂ (fun r => Q r as₂) := q₂
  unfold itemX at q₂
  cases o with
  | obj i' =>
    obtain ⟨a, ha, rfl⟩ := id V₁
    dsimp only at q₂
    split at q₂
    · rename_i p w es hi
      cases k with
      | str x =>
        obtain ⟨e0, q₂⟩ := q₂
        obtain ⟨rfl, rfl⟩ := hpw p w e0
        obtain ⟨t, rfl⟩ := V₂
        refine El_eaea (S₂.ar.objs i' _ a hi ha) fun ob g kvs D M => ?_
        have lo := M.look x
        split at q₂
        · rename_i av hl
          rw [hl] at lo
          obtain ⟨u, hu, ru⟩ := lo
          have hd : s₂.heap.DictOf (strKind X.prog X.w) a kvs := Heap.dictOf_iff.mpr ⟨ob, g, D⟩
          exact tail_any hd.mapOf.typeIs slot_dict_getitem.lookup (wpAny_getItem_of (strKind_is _ _ x t) hd.mapOf hu (c _ _ _ { s₂ with toks := s₂.toks + 1 } _ q₂ (S₂.toks _) X₁₂ ru)) (sub_eq hn _ _)
        · cases q₂
      | _ => exact q₂.elim
    · rename_i ob hi
      cases k with
      | int j =>
        obtain ⟨xs, hx, ⟨b1, b2, b3⟩, q₂⟩ := q₂
        obtain ⟨t, rfl⟩ := V₂
        obtain ⟨vs, hl, r⟩ := fix_of S₂ hi ha hx
        have hn' : j.toNat < xs.length := by lia
        obtain ⟨t', hv⟩ := r.get _ _ (getD_some hn')
        exact tail_any hl.typeIs slot_list_getitem.lookup (wpAny_getItem_list hl b1 b3 (by rw [← Array.getElem?_toList]; exact hv) (c _ _ _ _ _ q₂ S₂ X₁₂ ⟨t', rfl⟩)) (sub_eq hn _ _)
      | _ => exact q₂.elim
    · rename_i xs hi
      cases k with
      | int j => cases j with
        | ofNat n =>
          dsimp only at q₂
          split at q₂
          · rename_i w hb hw
            have hb := Nat.le_of_ble_eq_true hb
            obtain ⟨t, rfl⟩ := V₂
            refine El_eaeea (S₂.ar.objs i' _ a hi ha) fun ob h1 vs m hr4 r => ?_; obtain rfl := hr4
            obtain ⟨u, hu, ru⟩ := r.get hw
            have hj : n < vs.size := by
              have := (List.getElem?_eq_some_iff.mp hu).1
              simpa using this
            have ht : IsTup s₂.heap a vs := ⟨_, h1, rfl, m, rfl⟩
            refine tail_any ht.typeIs slot_tuple_getitem.lookup (getItem_tuple ht (by simp) (by simp; lia) (j := n) ?_ (by rw [← Array.getElem?_toList]; exact hu) (c _ _ _ _ _ q₂ S₂ X₁₂ ru)) (sub_eq hn _ _)
            unfold seqIndex?
            have e0 : ¬ ((Int.ofNat n) < 0) := by simp
            simp only [e0, if_false]
            rw [if_pos (by simp; lia)]; rfl
          · cases q₂
        | negSucc n => exact q₂.elim
      | _ => exact q₂.elim
    · exact gen q₂
  | _ => exact gen q₂
theorem as_name {x : Str} {p : Pos} {v : AV} {Q : Loc → List AO → Prop} (h : storeW f x v as Q) : AsS X dp f (.Name x p) v as Q := fun A θ s L env post E u R F S V c =>
  wpAny_assign_Name (store_ok h F S V fun loc' as' s' q S' X' F' => c loc' as' θ s' q S' X' F')
theorem as_sub {o i : Expr} {p : Pos} {v : AV} {Q : Loc → List AO → Prop} (hpw : ∀ p w, pw = some (p, w) → p = X.prog ∧ w = X.w) (h : EvS X dp f o as fun ov as₁ => EvS X dp f i as₁ fun kv as₂ => putX pw ov kv v as₂ fun as₃ => Q f.loc as₃) : AsS X dp f (.Subscript o i p) v as Q := by
  intro A θ s L env post E u R F S V c
  rw [assign_Subscript]
  refine wpAny_bind (wpAny_holding (h A θ s L env _ E R F S fun ov as₁ θ₁ s₁ a q S₁ X₁ V₁ => ?_))
  refine wpAny_bind (wpAny_holding (q A θ₁ s₁ L env _ E R (F.ext X₁) S₁ fun kv as₂ θ₂ s₂ b q S₂ X₂ V₂ => ?_))
  refine wpAny_bind (wpAny_standAt (wpAny_bind (wpAny_holding ?_)))
  exact putX_ok hpw S₂ q (V₁.mono X₂.pre) V₂ (V.mono (X₁.pre.trans X₂.pre)) fun as' s' q' S' X' => wpAny_release' (c _ _ θ₂ s' q' S' ((X₁.trans X₂).trans X').toL (F.ext ((X₁.trans X₂).trans X')))
theorem asl_nil {Q : Loc → List AO → Prop} (h : Q f.loc as) : AsL X dp f [] [] as Q := fun A θ s L env post E us R F S V c => wpAny_pure (c _ _ θ s h S (ExtL.refl _ _ _) F)
theorem asl_cons {t : Expr} {ts : List Expr} {v : AV} {vs : List AV} {Q : Loc → List AO → Prop} (h : AsS X dp f t v as fun loc as₁ => AsL X dp { f with loc := loc } ts vs as₁ Q) : AsL X dp f (t :: ts) (v :: vs) as Q := by
  intro A θ s L env post E us R F S V c
  cases V with
  | @cons _ u _ us V Vs =>
    show wpAny X.M A (holding us (assign t env u) >>= fun _ => assignInOrder _ us) post E s
    refine wpAny_bind (wpAny_holding (h A θ s L env _ E u R F S V fun loc' as' θ' s' q S' X' F' => ?_))
    exact q A θ' s' L env post E us R F' S' (Vs.mono X'.pre) fun loc₂ as₂ θ₂ s₂ q₂ S₂ X₂ F₂ => c loc₂ as₂ θ₂ s₂ q₂ S₂ (X'.trans F.there F.nin F'.there X₂) F₂
theorem each_eq {ts : List Expr} (h : noStar ts = true) (env : Env) : assignEach ts env = ts.map fun t => (false, assign t env) := by
  induction ts with
  | nil => rfl
  | cons t r ih => cases t <;> first | (cases h; done) | (show _ :: assignEach r env = _; rw [ih h]; rfl)
theorem as_tup {ts : List Expr} {k : Nat} {p : Pos} {j : Nat} {o : AO} {xs : List AV} {Q : Loc → List AO → Prop} (hs : noStar ts = true) (hj : as[j]? = some o) (hx : seqOfA o = some xs) (hl : xs.length = ts.length) (h : AsL X dp f ts xs as Q) : AsS X dp f (.Tuple ts k p) (.obj j) as Q := by
  intro A θ s L env post E u R F S V c
  obtain ⟨a, ha, rfl⟩ := V
  obtain ⟨vs, hl', r⟩ := seq_of S hj ha hx
  have hlen : (assignEach ts env).length = vs.size := by rw [each_eq hs, List.length_map, ← Array.length_toList, r.len, hl]
  have hst : (assignEach ts env).findIdx? (·.1) = none := by
    rw [each_eq hs, List.findIdx?_eq_none_iff]
    intro y hy; obtain ⟨z, _, rfl⟩ := List.mem_map.mp hy; rfl
  have fin : ∀ h', Heap.ExtBut s.heap.objs.size s.heap h' → wpAny X.M A (assignInOrder ((assignEach ts env).map (·.2)) vs.toList) post E { s with heap := h' } := fun h' hx => by
    have hk : ∀ b o, s.heap.get? b = some o → h'.get? b = some o := fun b o q => hx b o (Nat.ne_of_lt (Heap.lt_size q)) q
    have Y := Ext.kept S hk
    rw [each_eq hs, List.map_map]
    exact h A θ { s with heap := h' } L env post E vs.toList R (F.ext Y) (S.keeps (k := s.toks) hk) r fun loc' as' θ' s' q S₂ X₂ F₂ => c loc' as' θ' s' q S₂ (Y.toL.trans F.there F.nin (F.ext Y).there X₂) F₂
  rw [arm_assign_Tuple]
  refine wpAny_bind (wpAny_standAt ?_)
  unfold unpack
  rw [hlen, hst]
  rcases hl' with hl' | hl'
  · exact wpAny_bind (wpAny_holding (kun_itemsOf R.2.2 hl' fin))
  · exact wpAny_bind (wpAny_holding (wpAny_unpackItems_tuple R.2.2 hl' fin))
noncomputable def isNm : Expr → Bool
  | .Name .. => true
  | _ => false
noncomputable def noSwap (ts : List Expr) : Expr → Bool
  | .Tuple _ _ _ => !(ts.length == 2 || ts.length == 3) || ts.any fun t => !isNm t
  | _ => true
set_option backward.match.sparseCases true
theorem ite_or {α : Type _} {c : Prop} [Decidable c] {a b r : α} (h : c → a = r) (g : ¬ c → b = r) : (if c then a else b) = r := by
  by_cases q : c
  · rw [if_pos q]; exact h q
  · rw [if_neg q]; exact g q
theorem noSwap_ok {ts : List Expr} {k : Nat} {p : Pos} {e : Expr} (h : noSwap ts e = true) (env : Env) : swappedStores [.Tuple ts k p] e env = pure none := by
  cases e with
  | Tuple vs k' p' =>
    refine ite_or (fun _ => rfl) fun h1 => ite_or (fun _ => rfl) fun _ => ite_or (fun _ => rfl) fun h3 => absurd ?_ h3
    have h : (!(ts.length == 2 || ts.length == 3) || ts.any fun t => !isNm t) = true := h
    have h2 : (ts.any fun t => !isNm t) = true := by
      rcases Bool.or_eq_true_iff.mp h with g | g
      · exact absurd (by rw [g]; rfl) h1
      · exact g
    refine El_ea (List.any_eq_true.mp h2) fun t ht hn => ?_
    rw [Bool.or_eq_true]
    left
    rw [bne_iff_ne]
    refine Nat.ne_of_lt (List.length_filterMap_lt_length_iff_exists.mpr ⟨t, ht, ?_⟩)
    cases t <;> first | rfl | exact Bool.noConfusion hn
  | _ => rfl
theorem st_asgT {ts : List Expr} {k : Nat} {p pos : Pos} {e : Expr} {Q : PF} (hn : noComp e = true) (hw : noSwap ts e = true) (h : EvS X dp f e as fun v as₁ => AsS X dp f (.Tuple ts k p) v as₁ (Q .next)) : ExS X dp f (.Assign [.Tuple ts k p] e pos) as Q := by
  intro A θ s L env post E R F S c
  refine Assign_Tuple (h A θ s L env _ E R F S fun v as₁ θ₁ s₁ u q S₁ X₁ V₁ => ?_) (by show swapsWith e (some (.Tuple ts k p)) pos.line env = pure false; exact swaps_no hn _ _ _) (noSwap_ok hw env)
  exact q A θ₁ s₁ L env _ E u R (F.ext X₁) S₁ V₁ fun loc' as' θ' s' q' S' X' F' => c .next loc' as' θ' s' .next q' S' (X₁.toL.trans F.there F.nin (F.ext X₁).there X') F' rfl
end
end Mine

end
section
open PySem PySem.W PyProof.Rows PySem.SeqAt
set_option backward.match.sparseCases false
namespace Mine
noncomputable def truX (a : AV) (as : List AO) (K : Bool → Prop) : Prop := match a with
  | .obj i => (match as[i]? with
    | some (.intx xs) => xs.length ≤ 100000 ∧ K (!xs.isEmpty)
    | some (.fix o) => ∃ xs, FixI o xs ∧ xs.length ≤ 100000 ∧ K (!xs.isEmpty)
    | _ => False)
  | a => (match truA a with | some b => K b | none => False)
section
variable {X : Cx} {dp : Nat} {f : Fm} {as as' : List AO} {θ θ' : List Addr} {s s' : Shared} {L b : Addr} {env : Env} {D : Cls} {K : Frag}
theorem ts_cmpX {l r : Expr} {op : CmpOp} {pos : Pos} {Q : PB} (hm : behindInMarks op r = false) (h : EvS X dp f l as fun a as₁ => EvS X dp f r as₁ fun b as₂ => cmpV op a b as₂ fun v => Q v as₂) : TsS X dp f (.Compare l [op] [r] pos) as Q := by
  intro A θ s L env post E R F S c
  refine wpAny_isTrue_Compare1 (h A θ s L env _ E R F S fun a as₁ θ₁ s₁ v q S₁ X₁ V₁ => q A θ₁ s₁ L env _ E R (F.ext X₁) S₁ fun b as₂ θ₂ s₂ u q₂ S₂ X₂ V₂ => ?_) hm
  exact cmp_vals (by have := R.2.1; lia) S₂ q₂ (V₁.mono X₂.pre) V₂ fun y q₃ => wpAny_truthy_bool (c _ _ θ₂ s₂ q₃ S₂ (X₁.trans X₂))
theorem ev_cmpX {l r : Expr} {op : CmpOp} {pos : Pos} {Q : PV} (hm : behindInMarks op r = false) (h : EvS X dp f l as fun a as₁ => EvS X dp f r as₁ fun b as₂ => cmpV op a b as₂ fun v => Q (.bool v) as₂) : EvS X dp f (.Compare l [op] [r] pos) as Q := by
  intro A θ s L env post E R F S c
  refine wpAny_Compare1 (h A θ s L env _ E R F S fun a as₁ θ₁ s₁ v q S₁ X₁ V₁ => q A θ₁ s₁ L env _ E R (F.ext X₁) S₁ fun b as₂ θ₂ s₂ u q₂ S₂ X₂ V₂ => ?_) hm
  exact cmp_vals (by have := R.2.1; lia) S₂ q₂ (V₁.mono X₂.pre) V₂ fun y q₃ => c _ _ θ₂ s₂ _ q₃ S₂ (X₁.trans X₂) rfl
theorem truX_ok {a : AV} {x : Value} {P : Bool → Prop} {A : Around} {E : Value → Shared → Prop} {Q : Bool → Shared → Prop} (S : X.S θ as s) (h : truX a as P) (ha : VR θ a x) (c : ∀ r k, P r → Q r { s with toks := k }) : wpAny X.M A (truthy x) Q E s := by
  unfold truX at h
  split at h
  · rename_i i
    obtain ⟨l, hl, rfl⟩ := ha
    split at h
    · rename_i xs hi
      obtain ⟨vs, il, r⟩ := intx_of S hi hl
      have hz : vs.size = xs.length := by rw [← Array.length_toList]; exact r.length
      refine wpAny_truthy_list il (by rw [hz]; lia) ?_
      have : vs.isEmpty = xs.isEmpty := by
        rw [Array.isEmpty, hz]
        cases xs <;> rfl
      rw [this]; exact c _ _ h.2
    · rename_i o hi
      obtain ⟨xs, hx, hb, h⟩ := h
      obtain ⟨vs, il, r⟩ := fix_of S hi hl hx
      have hz : vs.size = xs.length := by rw [← Array.length_toList]; exact r.length
      refine wpAny_truthy_list il (by rw [hz]; lia) ?_
      have : vs.isEmpty = xs.isEmpty := by
        rw [Array.isEmpty, hz]
        cases xs <;> rfl
      rw [this]; exact c _ _ h
    · cases h
  · split at h
    · rename_i r e; exact tru_av e ha (c r s.toks h)
    · cases h
theorem ts_valX {e : Expr} {Q : PB} (hp : plainTest e = true) (h : EvS X dp f e as fun a as₁ => truX a as₁ fun v => Q v as₁) : TsS X dp f e as Q := by
  intro A θ s L env post E R F S c
  have fin : wpAny X.M A (eval e env) (fun v s₁ => wpAny X.M A (truthy v) post E s₁) E s := h A θ s L env _ E R F S fun a as₁ θ₁ s₁ v q S₁ X₁ V₁ =>
    truX_ok S₁ q V₁ fun r k q' => c _ _ θ₁ { s₁ with toks := k } q' (S₁.toks k) X₁
  cases e <;> first | (cases hp; done) | exact isTrue_plain fin
noncomputable def BoS (X : Cx) (dp : Nat) (f : Fm) (op : BoolOp) (es : List Expr) (as : List AO) (Q : PB) : Prop :=
  ∀ (A : Around) (θ : List Addr) (s : Shared) (L : Addr) (env : Env) (post : Bool → Shared → Prop) (E : Value → Shared → Prop), Room A dp → FrR X f L env θ s.heap → X.S θ as s →
    (∀ b as' θ' s', Q b as' → X.S θ' as' s' → Ext X.H θ s.heap θ' s'.heap → post b s') → wpAny X.M A (allTrue op es env) post E s
noncomputable def boB (op : BoolOp) (t : Bool) (P Q : Prop) : Prop := match op with
  | .And => ifB t P Q
  | .Or => ifB t Q P
theorem bo_nil {op : BoolOp} {Q : PB} (h : Q (op == .And) as) : BoS X dp f op [] as Q := fun A θ s L env post E R F S c => wpAny_pure (c _ _ θ s h S (Ext.refl _ _))
theorem bo_cons {op : BoolOp} {e : Expr} {r : List Expr} {Q : PB} (h0 : (match op with | .And => true | .Or => false) = true) (h : TsS X dp f e as fun b as₁ => boB op b (BoS X dp f op r as₁ Q) (Q b as₁)) : BoS X dp f op (e :: r) as Q := by
  intro A θ s L env post E R F S c
  cases op with
  | And =>
    refine wpAny_allTrue_And_cons (h A θ s L env _ E R F S fun bb as₁ θ₁ s₁ q S₁ X₁ => ?_)
    cases bb with
    | true => exact q A θ₁ s₁ L env _ E R (F.ext X₁) S₁ fun b as' θ' s' q' S' X' => c _ _ _ _ q' S' (X₁.trans X')
    | false => exact c _ _ _ _ q S₁ X₁
  | Or => exact absurd h0 (by decide)
theorem ts_bo {op : BoolOp} {es : List Expr} {pos : Pos} {Q : PB} (h : BoS X dp f op es as Q) : TsS X dp f (.BoolOp op es pos) as Q :=
  fun A θ s L env post E R F S c => wpAny_isTrue_BoolOp (h A θ s L env post E R F S c)
theorem ev_bo {x y : Expr} {r : List Expr} {pos : Pos} {Q : PV} (h : EvS X dp f x as fun v as₁ => ∃ t, truA v = some t ∧ ifB t (EvS X dp f (.BoolOp .And (y :: r) pos) as₁ Q) (Q v as₁)) : EvS X dp f (.BoolOp .And (x :: y :: r) pos) as Q := by
  intro A θ s L env post E R F S c
  refine BoolOp_and (h A θ s L env _ E R F S fun v as₁ θ₁ s₁ u q S₁ X₁ V₁ => ?_)
  refine El_ea q fun t e q => ?_
  refine tru_av e V₁ ?_
  cases t with
  | true => exact q A θ₁ s₁ L env _ E R (F.ext X₁) S₁ fun av as' θ' s' v' q' S' X' V' => c av as' θ' s' v' q' S' (X₁.trans X') V'
  | false => exact c _ _ _ _ _ q S₁ X₁ V₁
theorem ev_bo1 {x : Expr} {pos : Pos} {Q : PV} (h : EvS X dp f x as Q) : EvS X dp f (.BoolOp .And [x] pos) as Q := fun A θ s L env post E R F S c => h A θ s L env post E R F S c
theorem keep_S {n j : Nat} {xs : List Int} (S : X.S θ as s) (hp : X.T.pin.length ≤ n) (h1 : scOs n (as.take n) = true) (hj : as[j]? = some (.intx xs)) (hn : n ≤ j) : ∃ a, θ[j]? = some a ∧ X.S (θ.take n ++ [a]) (as.take n ++ [.intx xs]) s := by
  have hlt : j < as.length := (List.getElem?_eq_some_iff.mp hj).1
  have hl : (as.take n).length = n := by rw [List.length_take]; lia
  have e0 : as.take n ++ as.drop n = as := List.take_append_drop ..
  have S₀ : X.S (θ.take n) (as.take n) s := by
    have := St.cut (as := as.take n) (bs := as.drop n) (e0.symm ▸ S) (by rw [hl]; exact h1) (by rw [hl]; exact hp)
    rw [hl] at this; exact this
  obtain ⟨a, ha⟩ : ∃ a, θ[j]? = some a := ⟨_, List.getElem?_eq_getElem (by rw [← S.ar.len]; exact hlt)⟩
  refine ⟨a, ha, ?_⟩
  refine El_eaeea (S.ar.objs j _ a hj ha) fun ob g vs m hr4 r => ?_; obtain rfl := hr4
  have mem : a ∈ θ := List.mem_of_getElem? ha
  have na : a ∉ θ.take n := fun m => by
    obtain ⟨i, hi, e⟩ := List.getElem_of_mem m
    have hi' : i < n := by rw [List.length_take] at hi; lia
    rw [List.getElem_take] at e
    obtain ⟨l2, g2⟩ := List.getElem?_eq_some_iff.mp ha
    have nd := List.pairwise_iff_getElem.mp S.ar.nodup
    exact nd i j (by lia) l2 (by exact Nat.lt_of_lt_of_le hi' hn) (e.trans g2.symm)
  have pre : θ.take n <+: θ.take n ++ [a] := ⟨_, rfl⟩
  have sub : ∀ b ∈ θ.take n ++ [a], b ∈ θ := fun b m => by
    rcases List.mem_append.mp m with m | m
    · exact List.mem_of_mem_take m
    · obtain rfl : b = a := by simpa using m
      exact mem
  have len' := S₀.ar.len
  refine ⟨⟨by simp only [List.length_append, List.length_singleton, len'], ?_, fun i o b h1 h2 => ?_⟩, S₀.base, fun b hb => S.apart b (sub b hb), S₀.gens, S₀.os, fun e he => ?_, fun e he m => S.hnin e he (sub _ m), S₀.hbase, S₀.pin.trans pre⟩
  · rw [List.nodup_append]
    exact ⟨S₀.ar.nodup, by simp, fun x hx y hy => by
      have : y = a := by simpa using hy
      rintro rfl; exact na (this ▸ hx)⟩
  · by_cases z : i < (as.take n).length
    · rw [List.getElem?_append_left z] at h1
      rw [List.getElem?_append_left (by rw [← len']; exact z)] at h2
      obtain ⟨ob', x, y⟩ := S₀.ar.objs i o b h1 h2
      exact ⟨ob', x, y.mono pre⟩
    · have hi : i = (as.take n).length := by
        have := (List.getElem?_eq_some_iff.mp h1).1
        simp only [List.length_append, List.length_singleton] at this; exact Nat.eq_of_lt_succ_of_not_lt this z
      subst hi
      rw [List.getElem?_append_right (Nat.le_refl _), Nat.sub_self] at h1
      rw [len', List.getElem?_append_right (Nat.le_refl _), Nat.sub_self] at h2
      cases h1; cases h2
      exact ⟨_, g, vs, m, rfl, r⟩
  · rcases S.tabs e he with t | ⟨c', x, cr, n1, n2⟩
    · exact .inl t
    · exact .inr ⟨c', x, cr, fun m => n1 (sub _ m), n2⟩
theorem keep_X {n j : Nat} {a : Addr} {h h' : Heap} (X' : ExtL X.H L θ h θ' h') (hl : θ.length ≤ n) (ha : θ'[j]? = some a) : ExtL X.H L θ h (θ'.take n ++ [a]) h' := by
  have hθ : θ <+: θ'.take n := by
    obtain ⟨t, ht⟩ := X'.pre
    refine ⟨t.take (n - θ.length), ?_⟩
    rw [← ht, List.take_append, List.take_of_length_le (l := θ) hl]
  refine ⟨hθ.trans ⟨_, rfl⟩, fun b m nb => ?_, X'.keep, X'.ex, X'.tab⟩
  refine X'.fresh b ?_ nb
  rcases List.mem_append.mp m with m | m
  · exact List.mem_of_mem_take m
  · obtain rfl : b = a := by simpa using m
    exact List.mem_of_getElem? ha
theorem exs_keep {ss : List Stmt} {n : Nat} {x : Str} {Q : PF} (hp : X.T.pin.length ≤ n) (hn : as.length ≤ n) (hc : scC n f.cells = true)
    (h : ExsS X dp f ss as fun fl loc as' => fl = .next ∧ ∃ j xs loc', lk loc x = some (.obj j) ∧ n ≤ j ∧ as'[j]? = some (.intx xs) ∧ scOs n (as'.take n) = true ∧ (∀ y av, lk loc' y = some av → (y = x ∧ av = .obj n) ∨ (lk loc y = some av ∧ scV n av = true)) ∧ Q .next loc' (as'.take n ++ [.intx xs])) : ExsS X dp f ss as Q := by
  intro A θ s L env post E R F S c
  refine h A θ s L env post E R F S fun fl loc as' θ' s' g q S' X' F' G => ?_
  obtain ⟨rfl, j, xs, loc', hx, hnj, hj, h1, hl, q⟩ := q
  obtain ⟨a, ha, S₂⟩ := keep_S S' hp h1 hj hnj
  have Y := keep_X (n := n) X' (by rw [← S.ar.len]; exact hn) ha
  have hlen : (θ'.take n).length = n := by
    have hlt : j < as'.length := (List.getElem?_eq_some_iff.mp hj).1
    rw [List.length_take, ← S'.ar.len]; lia
  have pre : θ'.take n <+: θ'.take n ++ [a] := ⟨_, rfl⟩
  refine c .next loc' _ _ s' g q S₂ Y ⟨F'.scope, F'.kind, F'.loc, fun m => ?_, F'.apart, F'.nhid, ?_, fun y i e => ?_, F'.glob, F'.blt, F'.code, F'.qual⟩ G
  · rcases List.mem_append.mp m with m | m
    · exact F'.nin (List.mem_of_mem_take m)
    · exact F'.nin ((by simpa using m : L = a) ▸ List.mem_of_getElem? ha)
  · refine El_ea F'.ns fun m hm r => ?_
    refine ⟨m, hm, fun y av e => ?_⟩
    rcases hl y av e with ⟨rfl, rfl⟩ | ⟨e', sc⟩
    · refine El_eaea (r y _ hx) fun v e2 a2 e3 r2 => ?_
      rw [ha] at e3; cases e3
      exact ⟨v, e2, a, by rw [List.getElem?_append_right (by rw [hlen]; exact Nat.le_refl _), hlen, Nat.sub_self]; rfl, r2⟩
    · obtain ⟨v, e2, r2⟩ := r y av e'
      exact ⟨v, e2, (r2.cut sc).mono pre⟩
  · refine El_ea (F'.cells y i e) fun b e1 e2 => ?_
    exact ⟨b, get_pre pre (take_get e1 (scC_get hc e)), e2⟩
theorem exs_dp {d : Nat} {ss : List Stmt} {Q : PF} (h : ExsS X d f ss as Q) (hd : d ≤ dp) : ExsS X dp f ss as Q := fun A θ s L env post E R F S c => h A θ s L env post E ⟨by have := R.1; lia, by have := R.2.1; lia, R.2.2⟩ F S c
end
end Mine

end
section
open PySem PySem.W PyProof.Rows PySem.SeqAt
namespace Mine
noncomputable def listX : AO → Option (List AV)
  | .intx xs => some (xs.map .int)
  | .list vs => some vs
  | _ => none
noncomputable def bndS (x : Str) (a c : Int) : Bnd := fun f k as P => storeW f x (.int (a + c * k)) as P
section
variable {X : Cx} {dp : Nat} {f : Fm} {as as' : List AO} {θ θ' : List Addr} {s s' : Shared} {L b : Addr} {env : Env}
theorem listX_of (S : X.S θ as s) {i : Nat} {a : Addr} {o : AO} {xs : List AV} (hi : as[i]? = some o) (ha : θ[i]? = some a) (h : listX o = some xs) : ∃ (vs : Array Value) (n : Nat), s.heap.get? a = some ⟨.type "list", none, .seq vs n, #[]⟩ ∧ VRs θ xs vs.toList := by
  obtain ⟨ob, g, r⟩ := S.ar.objs i o a hi ha
  cases o with
  | intx ys =>
    cases h
    obtain ⟨vs, n, rfl, r⟩ := r
    exact ⟨vs, n, g, ints_vrs r⟩
  | list ys =>
    cases h
    obtain ⟨vs, n, rfl, r⟩ := r
    exact ⟨vs, n, g, r⟩
  | _ => exact nosome h
theorem bi_appendX {i : Nat} {o : AO} {vs : List AV} {y : AV} {Q : PV} (e : as[i]? = some o) (hv : listX o = some vs) (hz : vs.length ≤ 100000) (q : Q .none (as.set i (.list (vs ++ [y])))) : BiS X "list.append" [.obj i, y] as Q := by
  intro A θ s us post E hh S V c
  cases V with | cons V1 V => cases V with | cons V2 V => cases V with | nil =>
    obtain ⟨a, ha, rfl⟩ := V1
    obtain ⟨us, n, g1, r⟩ := listX_of S e ha hv
    have hs : us.size = vs.length := by rw [← Array.length_toList]; exact r.len
    refine wpAny_list_append_plain (items := us) ⟨n, g1⟩ (fun h' hp hs' => ?_) (by rw [hs, sizeLine_eq]; lia)
    obtain ⟨n', g'⟩ := hp
    have P := S.upd (o' := .list (vs ++ [y])) ha e hs' g' ⟨_, _, rfl, by rw [Array.toList_push]; exact r.app (.cons V2 .nil)⟩
    exact c _ _ θ { s with heap := h' } _ q P.1 P.2 rfl
theorem st_augO {x : Str} {e : Expr} {i : Nat} {p pos : Pos} {Q : PF} (hx : isKind .local f.sc x = true) (hv : lk f.loc x = some (.obj i))
    (h : EvS X dp f e as fun b as₂ => ∃ j o1 o2 xs ys, b = .obj j ∧ as₂[i]? = some o1 ∧ as₂[j]? = some o2 ∧ listX o1 = some xs ∧ listX o2 = some ys ∧ xs.length + ys.length ≤ 100000 ∧ storeW f x (.obj i) (as₂.set i (.list (xs ++ ys))) (Q .next)) : ExS X dp f (.AugAssign (.Name x p) .Add e pos) as Q := by
  intro A θ s L env post E R F S c
  obtain ⟨m, hm, r⟩ := F.ns
  refine El_eaea (r x _ hv) fun v hmx a ha hr4 => ?_; obtain rfl := hr4
  refine wpAny_AugAssign_Name (wpAny_loadName_local (by rw [F.scope]; exact F.kind) (F.kindOf hx) (F.loc ▸ hm) hmx ?_)
  refine h A θ s L env _ E R F S fun b as₂ θ₂ s₂ u q₂ S₂ X₂ V₂ => ?_
  obtain ⟨j, o1, o2, xs, ys, rfl, e1, e2, l1, l2, e3, q₃⟩ := q₂
  obtain ⟨b, hb, rfl⟩ := V₂
  have ha := get_pre X₂.pre ha
  obtain ⟨vs, n, g1, r1⟩ := listX_of S₂ e1 ha l1
  obtain ⟨ws, n2, g2, r2⟩ := listX_of S₂ e2 hb l2
  have z1 : vs.size = xs.length := by rw [← Array.length_toList]; exact r1.len
  have z2 : ws.size = ys.length := by rw [← Array.length_toList]; exact r2.len
  refine iadd_list g1 g2 (by lia) fun h' n' hs hg => ?_
  have P := S₂.upd (o' := .list (xs ++ ys)) ha e1 hs hg ⟨_, _, rfl, by rw [Array.toList_append]; exact r1.app r2⟩
  have X₃ := X₂.trans P.2
  exact store_ok (s := { s₂ with heap := h' }) q₃ (F.ext X₃) P.1 ⟨a, ha, rfl⟩ fun loc' as' s' q' S' X' F' => c _ _ _ θ₂ s' _ q' S' (X₃.toL.thru (F.ext X₃).there X') F' rfl
theorem strm_S {x : Str} {px : Pos} {a c : Int} {N : Nat} {it : Addr} {θ₁ : List Addr} :
    Strm X (.Name x px) (.ref it) N [it] (fun k h => IsRangeIter h it (a + c * k) ((N : Int) - k) c) (fun _ => True) (bndS x a c) θ₁ := by
  have J1 : ∀ (k : Nat) (h h' : Heap), IsRangeIter h it (a + c * k) ((N : Int) - k) c → (∀ b' ∈ [it], ∀ o, h.get? b' = some o → h'.get? b' = some o) → IsRangeIter h' it (a + c * k) ((N : Int) - k) c := fun k h h' x y => y _ (List.mem_singleton.mpr rfl) _ x
  refine ⟨J1, fun A E Q s j q => wpAny_pyIter_rangeiter j q, fun A f L env θ₀ h₀ Inv Bd hh pre hf hG hst k s₆ E' hk hI => ?_, fun A f L env θ₀ h₀ I hh pre hf hG s₆ E' hI => ?_⟩
  · refine El_eeeaaaaa (id hI.ex) fun θ' as' loc q1 q2 q3 q4 q5 q6 => ?_
    refine wpAny_pyNext_range_item q5 (by lia) fun h' hi hs' => ⟨_, rfl, wpAny_pure (wpAny_assign_Name ?_)⟩
    have e1 : a + c * (k : Int) + c = a + c * ((k + 1 : Nat) : Int) := by rw [Int.natCast_add, Int.mul_add, Int.add_assoc]; show _ = a + (c * k + c * 1); rw [Int.mul_one]
    have e2 : (N : Int) - k - 1 = N - ((k + 1 : Nat) : Int) := by lia
    rw [e1, e2] at hi
    have hI' := hI.free (k := s₆.toks + 1) (J' := fun h => IsRangeIter h it (a + c * (k + 1 : Nat)) ((N : Int) - (k + 1 : Nat)) c) hf (fun _ m => m) (fun a' o m e => (hs'.2 a' (by simpa using m)).trans e) (one_mem ⟨_, hi⟩) hi
    exact hI'.store (av := .int (a + c * k)) hf (J1 (k + 1)) (fun θ => ⟨_, rfl⟩) fun loc as₂ q => hst k loc as₂ hk q
  · refine El_eeeaaaaa (id hI.ex) fun θ' as' loc q1 q2 q3 q4 q5 q6 => ?_
    exact wpAny_pyNext_range_end hh q5 (by lia) fun h' hx => ⟨rfl, hI.fin hf fun a' o m e => hx a' o (by simpa using m) e⟩
noncomputable def stepOk3 (a b c : Int) : Prop := c ≠ 0 ∧ Builtin.Range.small a b c = true ∧ Builtin.divisionGoesByPylong (b - a) c = false ∧ 0 ≤ Builtin.Range.rangeSize a b c
theorem it_RS {x r : Str} {px pr pc : Pos} {args : List Expr} {Q : Nat → Bnd → (List AO → Prop) → List AO → Prop} (hr : isKind .globalImplicit f.sc r = true) (G : GlobV X r (.type "range")) (hs : noStar args = true)
    (h : EvsS X dp f args as fun vs as₁ => (∃ a b, RngArgs vs a b ∧ (Small a ∧ Small b) ∧ Q (b - a).toNat (bndR x a) (fun _ => True) as₁) ∨ ∃ a b c, vs = [.int a, .int b, .int c] ∧ stepOk3 a b c ∧ Q (Builtin.Range.rangeSize a b c).toNat (bndS x a c) (fun _ => True) as₁) : Itr X dp f (.Call (.Name r pr) args [] pc) (.Name x px) as Q := by
  intro A θ s L env post E R F S k0
  refine wpAny_Call_Name_kw (ev_glob (av := .ty "range") (Q := fun av as₁ => av = .ty "range" ∧ as₁ = as) hr G rfl ⟨rfl, rfl⟩ A θ s L env _ E R F S fun av as₁ θ₁ s₁ v q S₁ X₁ V₁ => ?_)
  obtain ⟨rfl, rfl⟩ := q
  cases V₁
  rw [back_eq pc env args hs]
  refine PyProof.Rows.callWith_type (by rw [plain_any _ (fun _ => rfl)]) (args_ok ?_)
  refine h A θ₁ s₁ L env _ E R (F.ext X₁) S₁ fun vs as₂ θ₂ s₂ us q S₂ X₂ V₂ => ?_
  rcases q with ⟨a, b, hab, ⟨sa, sb⟩, q⟩ | ⟨a, b, c, rfl, ⟨hc, sm, nd, nn⟩, q⟩
  · refine call_rng (X := X) V₂ hab fun t u v k => ?_
    refine wpAny_pyIter_range (IsRange.new _ a b 1 t u v) (small_one sa.1 sa.2 sb.1 sb.2) ?_
    obtain ⟨S₃, X₃⟩ := S₂.junk { cls := .type "range", data := .fields #[.int a t, .int b u, .int 1 v] }
    obtain ⟨S₄, X₄⟩ := S₃.junk { cls := .type "range_iterator", data := .fields #[rawInt a, rawInt (Builtin.Range.rangeSize a b 1), rawInt 1] }
    have hN : Builtin.Range.rangeSize a b 1 = ((b - a).toNat : Int) := by rw [rangeSize_one]; split <;> lia
    refine k0 _ _ _ _ _ _ θ₂ as₂ s₂.heap _ q (S₄.toks k) (X₁.trans X₂) (X₃.trans X₄) (strm_R (px := px) (b := b)) ?_ (one_mem ⟨Free.new S₃ (Nat.le_refl _) (fun a' o e => Heap.get?_push_of_some _ e) ⟨_, Heap.get?_push_size _ rfl⟩, none_ge (by rw [Heap.size_push]; exact Nat.le_add_right s₂.heap.objs.size 1)⟩)
    show Heap.get? _ _ = _
    rw [Heap.get?_push_size _ rfl, hN]
    simp
  · cases V₂ with | cons x1 r => cases r with | cons x2 r => cases r with | cons x3 r => cases r with | nil =>
      obtain ⟨t, rfl⟩ := x1
      obtain ⟨u, rfl⟩ := x2
      obtain ⟨v, rfl⟩ := x3
      refine call_range_3 hc ?_ (.inl nd)
      refine wpAny_pyIter_range (IsRange.new _ a b c t u v) sm ?_
      obtain ⟨S₃, X₃⟩ := S₂.junk { cls := .type "range", data := .fields #[.int a t, .int b u, .int c v] }
      obtain ⟨S₄, X₄⟩ := S₃.junk { cls := .type "range_iterator", data := .fields #[rawInt a, rawInt (Builtin.Range.rangeSize a b c), rawInt c] }
      refine k0 _ _ _ _ _ _ θ₂ as₂ s₂.heap _ q S₄ (X₁.trans X₂) (X₃.trans X₄) (strm_S (px := px)) ?_ (one_mem ⟨Free.new S₃ (Nat.le_refl _) (fun a' o e => Heap.get?_push_of_some _ e) ⟨_, Heap.get?_push_size _ rfl⟩, none_ge (by rw [Heap.size_push]; exact Nat.le_add_right s₂.heap.objs.size 1)⟩)
      show Heap.get? _ _ = _
      rw [Heap.get?_push_size _ rfl, Int.toNat_of_nonneg nn]
      simp
theorem ev_lmX {x name : Str} {id : String} {p apos pos : Pos} {args : List Expr} {Q : PV} (slot : Slot "list" name id) (hty : typeOf (.builtin id) = pure (.type "method_descriptor")) (hs : noStar args = true) (hl : args.length < 20) (hp : (apos.endLine == pos.line) = true)
    (h : EvS X dp f (.Name x p) as fun o as₁ => ∃ i ob xs, o = .obj i ∧ as₁[i]? = some ob ∧ listX ob = some xs ∧ EvsS X dp f args as₁ fun vs as₂ => BiS X id (.obj i :: vs) as₂ Q) : EvS X dp f (.Call (.Attribute (.Name x p) name apos) args [] pos) as Q := by
  intro A θ s L env post E R F S c
  rw [arm_eval_Call]
  refine wpAny_bind (m := attributeBase (.Name x p) name env (eval (.Name x p) env)) ?_
  show wpAny X.M A (eval (.Name x p) env) _ E s
  refine h A θ s L env _ E R F S fun o as₁ θ₁ s₁ ov q S₁ X₁ V₁ => ?_
  obtain ⟨i, ob, xs, rfl, hi, hx, q⟩ := q
  obtain ⟨a, ha, rfl⟩ := V₁
  refine wpAny_bind (wpAny_standAt ?_)
  unfold methodCall
  rw [few_ok hs hl]
  refine wpAny_bind (wpAny_holding ?_)
  show wpAny X.M A (getMethod (.ref a) name _) _ E s₁
  obtain ⟨vs, n, g1, r⟩ := listX_of S₁ hi ha hx
  refine getMethod_list_of (items := vs) slot hty ⟨_, g1, rfl, n, rfl⟩ ⟨_, g1, rfl⟩ ?_
  refine wpAny_bind ?_
  unfold methodCallPos
  rw [hp]
  refine wpAny_pure ?_
  show wpAny X.M A (callWith pos (.builtin id) [.ref a] (backTo pos (starEach args env)) []) post E s₁
  rw [back_eq pos env args hs]
  refine Calls.callWith_builtin (by rw [plain_any _ (fun _ => rfl)]) (args_ok ?_)
  exact q A θ₁ s₁ L env _ E R (F.ext X₁) S₁ fun vs as₂ θ₂ s₂ us q S₂ X₂ V₂ => q A θ₂ s₂ (.ref a :: us) post E R.2.2 S₂ (.cons ⟨a, get_pre X₂.pre ha, rfl⟩ V₂) fun av as' θ' s' v q' S' X' V' => c av as' θ' s' v q' S' ((X₁.trans X₂).trans X') V'
end
end Mine

end
section
open PySem PySem.W PyProof.Rows PySem.SeqAt
set_option backward.match.sparseCases false
namespace Mine
structure Ken where
  D : Cls
  P : Prims
  gv : Str → Option AV
  made : Option (Addr × Addr × FD × Str × Str)
  pw : Option (Program × World)
noncomputable def gN (n m : Nat) (P : Prop) : Prop := match Nat.ble n m with
  | true => P
  | false => n ≤ m ∧ P
noncomputable def binA (op : Operator) (i j : Int) (as : List AO) (Q : PV) : Prop := match op with
  | .Mod => (match j with | .ofNat (k + 1) => Q (.int (i.fmod (.ofNat (k + 1)))) as | _ => False)
  | .FloorDiv => (match j with | .ofNat (k + 1) => (match Builtin.divisionGoesByPylong i (.ofNat (k + 1)) with | false => Q (.int (i.fdiv (.ofNat (k + 1)))) as | true => False) | _ => False)
  | op => binW op i j fun k => Q (.int k) as
noncomputable def addV (op : Operator) (i j : Nat) (as : List AO) (Q : PV) : Prop := match op with
  | .Add => (match as[i]? with
    | some oa => (match as[j]? with
      | some ob => (match addA oa ob with | some rr => gN (lenA oa + lenA ob) 100000 (Q (.obj as.length) (as ++ [rr])) | none => False)
      | none => False)
    | none => False)
  | _ => False
noncomputable def mulV (op : Operator) (i : Nat) (k : Int) (as : List AO) (Q : PV) : Prop := match op with
  | .Mult => (match as[i]? with
    | some (.intx xs) => (0 < xs.length ∧ 0 ≤ k ∧ k < 2 ^ 62 ∧ xs.length * k.toNat ≤ 100000) ∧ Q (.obj as.length) (as ++ [.intx (repL xs k.toNat)])
    | _ => False)
  | _ => False
noncomputable def binV (op : Operator) (a b : AV) (as : List AO) (Q : PV) : Prop := match a with
  | .int i => (match b with | .int j => binA op i j as Q | _ => False)
  | .obj i => (match b with | .obj j => addV op i j as Q | .int k => mulV op i k as Q | _ => False)
  | _ => False
noncomputable def nameG (N : Ken) (f : Fm) (x : Str) (as : List AO) (Q : PV) : Prop := match isKind .globalImplicit f.sc x with
  | true => (match N.gv x with | some v => Q v as | none => False)
  | false => nameW f x as Q
noncomputable def rngW (vs : List AV) (Q : Int → Int → Prop) : Prop := match vs with
  | [.int b] => Q 0 b
  | [.int a, .int b] => Q a b
  | _ => False
noncomputable def int3 (vs : List AV) : Option (Int × Int × Int) := match vs with
  | [.int a, .int b, .int c] => some (a, b, c)
  | _ => none
noncomputable def rng3 (vs : List AV) (Q : Int → Int → Prop) (Q3 : Int → Int → Int → Prop) : Prop := match int3 vs with
  | some (a, b, c) => Q3 a b c
  | none => rngW vs Q
noncomputable def compOk (scope : Scope) : Bool := notDbg scope.names && (scope.kind == .function) && scope.names.all fun y => (match y.2 with
  | .cell => false
  | .local => (match lk scope.names y.1 with | some .local => true | _ => false)
  | _ => true)
noncomputable def intsF (ob : AO) (K : List Int → Prop) : Prop := match ob with
  | .fix o => ∃ xs, FixI o xs ∧ K xs
  | ob => (match intsA ob with | some xs => K xs | none => False)
noncomputable def lenF (ob : AO) (K : Nat → Prop) : Prop := match ob with
  | .fix o => ∃ xs, FixI o xs ∧ K xs.length
  | ob => (match listA ob with | some _ => K (lenA ob) | none => False)
noncomputable def onL (o : AV) (as : List AO) (K : Nat → List AV → Prop) : Prop := match o with
  | .obj i => (match as[i]? with | some ob => (match listA ob with | some xs => K i xs | none => False) | none => False)
  | _ => False
noncomputable def vsame : AV → AV → Bool
  | .str a, .str b => seq a b
  | .obj i, .obj j => Nat.beq i j
  | _, _ => false
noncomputable def lsame : List AV → List AV → Bool
  | [], [] => true
  | a :: x, b :: y => (match vsame a b with | true => lsame x y | false => false)
  | _, _ => false
noncomputable def chkL (i : Nat) (xs : List AV) (as : List AO) (P : Prop) : Prop := match as[i]? with
  | some (.list ys) => (match lsame ys xs with | true => P | false => ys = xs ∧ P)
  | some ob => listA ob = some xs ∧ P
  | none => False
noncomputable abbrev Chk := List AO → Prop → Prop
set_option backward.match.sparseCases true
noncomputable def loopI (chk : Chk) (bnd : Nat → Loc → List AO → (Loc → List AO → Prop) → Prop) (B : Loc → List AO → PF → Prop) : Nat → Nat → Loc → List AO → PF → Prop
  | 0, _, loc, as, Q => chk as (Q .next loc as)
  | c + 1, k, loc, as, Q => chk as (bnd k loc as fun loc' as' => B loc' as' fun fl l a => match fl with
    | .next => loopI chk bnd B c (k + 1) l a Q
    | .cont => loopI chk bnd B c (k + 1) l a Q
    | .brk => Q .next l a
    | .ret v => Q (.ret v) l a)
set_option backward.match.sparseCases false
structure RecL where
  ev : Nat → Fm → Expr → List AO → PV → Prop
  evs : Nat → Fm → List Expr → List AO → PVs → Prop
  pt : Nat → Fm → Option Expr → List AO → (Option Int → List AO → Prop) → Prop
  ts : Nat → Fm → Expr → List AO → PB → Prop
  an : Nat → Fm → BoolOp → List Expr → List AO → PB → Prop
structure RecX where
  ex : Nat → Fm → Stmt → List AO → PF → Prop
  exs : Nat → Fm → List Stmt → List AO → PF → Prop
noncomputable def attrLW (N : Ken) (f : Fm) (o : Expr) (a : Str) (as : List AO) (Q : PV) : Prop := match o with
  | .Name x _ => nameG N f x as fun o as₁ => (match o with | .obj i => attrW N.D i a as₁ Q | _ => False)
  | _ => False
noncomputable def sliceLW (R : RecL) (dp : Nat) (f : Fm) (v : Expr) (lo hi : Option Expr) (as : List AO) (Q : PV) : Prop := R.ev dp f v as fun o as₁ => R.pt dp f lo as₁ fun x as₂ => R.pt dp f hi as₂ fun y as₃ => (match o with
  | .obj i => (match as₃[i]? with
    | some ob => intsF ob fun xs => gN xs.length 100000 (sliceR xs x y fun ys => Q (.obj as₃.length) (as₃ ++ [.intx ys]))
    | none => False)
  | _ => False)
noncomputable def negC : Expr → Option Nat
  | .Constant (.int (.ofNat c)) _ _ => some c
  | _ => none
noncomputable def negOf : Expr → Option Nat
  | .UnaryOp .USub x _ => negC x
  | _ => none
noncomputable def negT (o : AV) (c : Nat) (as : List AO) (Q : AV → Prop) : Prop := match Nat.ble c 1000 with
  | true => negI o c as Q
  | false => False
noncomputable def itemLW (N : Ken) (R : RecL) (dp : Nat) (f : Fm) (v i : Expr) (as : List AO) (Q : PV) : Prop := match negOf i with
  | some c => R.ev dp f v as fun o as₁ => negT o c as₁ fun r => Q r as₁
  | none => (match noSlice i with | true => R.ev dp f v as fun o as₁ => R.ev dp f i as₁ fun k as₂ => itemX N.pw N.D o k as₂ fun r => Q r as₂ | false => False)
noncomputable def sliceOf : Expr → Option (Option Expr × Option Expr × Option Expr)
  | .Slice lo hi st _ => some (lo, hi, st)
  | _ => none
noncomputable def subLW (N : Ken) (R : RecL) (dp : Nat) (f : Fm) (v i : Expr) (as : List AO) (Q : PV) : Prop := match sliceOf i with
  | some (lo, hi, none) => sliceLW R dp f v lo hi as Q
  | some _ => False
  | none => itemLW N R dp f v i as Q
noncomputable def unLW (R : RecL) (dp : Nat) (f : Fm) (op : UnaryOp) (x : Expr) (as : List AO) (Q : PV) : Prop := match op with
  | .USub => R.ev dp f x as fun a as₁ => (match a with | .int i => Q (.int (-i)) as₁ | _ => False)
  | _ => False
noncomputable def listLW (R : RecL) (dp : Nat) (f : Fm) (elts : List Expr) (mk : List AV → AO) (as : List AO) (Q : PV) : Prop := match noStar elts with
  | true => R.evs dp f elts as fun vs as₁ => (match Nat.ble vs.length 100000 with | true => Q (.obj as₁.length) (as₁ ++ [mk vs]) | false => False)
  | false => False
noncomputable def dictLW (N : Ken) (ks : List (Option Expr)) (vs : List Expr) (as : List AO) (Q : PV) : Prop := match ks with
  | [] => (match vs with
    | [] => (match N.pw with | some (p, w) => Q (.obj as.length) (as ++ [.map p w []]) | none => False)
    | _ => False)
  | _ => False
noncomputable def boolLW (R : RecL) (dp : Nat) (f : Fm) (op : BoolOp) (es : List Expr) (pos : Pos) (as : List AO) (Q : PV) : Prop := match op with
  | .And => (match es with
    | [] => False
    | x :: r => (match r with
      | [] => R.ev dp f x as Q
      | y :: r => R.ev dp f x as fun v as₁ => (match truA v with | some t => ifB t (R.ev dp f (.BoolOp .And (y :: r) pos) as₁ Q) (Q v as₁) | none => False)))
  | _ => False
noncomputable def cmpLW (R : RecL) (dp : Nat) (f : Fm) (l : Expr) (op : CmpOp) (r : Expr) (as : List AO) (Q : PB) : Prop := match behindInMarks op r with
  | false => R.ev dp f l as fun a as₁ => R.ev dp f r as₁ fun b as₂ => cmpV op a b as₂ fun v => Q v as₂
  | true => False
noncomputable def one {α : Type} : List α → Option α
  | [] => none
  | a :: r => (match r with | [] => some a | _ :: _ => none)
noncomputable def two {α : Type} : List α → Option (α × α)
  | [] => none
  | a :: r => (match one r with | some b => some (a, b) | none => none)
noncomputable def cmpELW (R : RecL) (dp : Nat) (f : Fm) (l : Expr) (ops : List CmpOp) (rs : List Expr) (as : List AO) (Q : PV) : Prop := match one ops, one rs with
  | some op, some r => cmpLW R dp f l op r as fun v as₁ => Q (.bool v) as₁
  | _, _ => False
noncomputable def lenO (i : Nat) (as : List AO) (Q : PV) : Prop := match as[i]? with
  | some (.tuple xs) => (match Nat.ble xs.length 1000000 with | true => Q (.int xs.length) as | false => False)
  | some ob => lenF ob fun n => gN n 1000000 (Q (.int n) as)
  | none => False
noncomputable def intsO (i : Nat) (as : List AO) (K : List Int → Prop) : Prop := match as[i]? with
  | some ob => intsF ob K
  | none => False
noncomputable def bi1 (s : String) (i : Nat) (as : List AO) (Q : PV) : Prop := match s == "len" with
  | true => lenO i as Q
  | false => (match s == "sum" with
    | true => intsO i as fun xs => Q (.int xs.sum) as
    | false => False)
noncomputable def appW (ob : AO) (b : AV) (i : Nat) (as : List AO) (Q : PV) : Prop := match ob with
  | .intx xs => (match b with
    | .int y => gN xs.length 100000 (Q .none (as.set i (.intx (xs ++ [y]))))
    | b => gN xs.length 100000 (Q .none (as.set i (.list (xs.map .int ++ [b])))))
  | .list vs => gN vs.length 100000 (Q .none (as.set i (.list (vs ++ [b]))))
  | _ => False
noncomputable def extW (ob : AO) (b : AV) (i : Nat) (as : List AO) (Q : PV) : Prop := match ob with
  | .intx xs => onObj b (fun j => onSm as[j]? (fun o2 => onSm (intsT o2) (fun ys => gN (xs.length + ys.length) 100000 (Q .none (as.set i (.intx (xs ++ ys))))) False) False) False
  | _ => False
noncomputable def bi2 (s : String) (a b : AV) (as : List AO) (Q : PV) : Prop := match s == "isinstance" with
  | true => (match b with | .ty t => (match t == "str" with | true => (match isStrA as a with | some r => Q (.bool r) as | none => False) | false => False) | _ => False)
  | false => onObj a (fun i => onSm as[i]? (fun ob => match s == "list.append" with
    | true => appW ob b i as Q
    | false => (match s == "list.extend" with
      | true => extW ob b i as Q
      | false => False)) False) False
noncomputable def biW (s : String) (vs : List AV) (as : List AO) (Q : PV) : Prop := match vs with
  | [] => False
  | a :: r => (match r with
    | [] => (match a with | .obj i => bi1 s i as Q | _ => False)
    | b :: r => (match r with | [] => bi2 s a b as Q | _ => False))
noncomputable def kw2 (kws : List Keyword) : Option ((Str × Expr × Pos) × (Str × Expr × Pos)) := match two kws with
  | some (a, b) => (match a with
    | ⟨k1, e1, p1⟩ => (match k1 with
      | some k1 => (match b with
        | ⟨k2, e2, p2⟩ => (match k2 with
          | some k2 => some ((k1, e1, p1), (k2, e2, p2))
          | none => none))
      | none => none))
  | none => none
noncomputable def adrOf (v : Option AV) : Option Addr := match v with
  | some v => (match v with | .addr C => some C | _ => none)
  | none => none
set_option backward.match.sparseCases true
noncomputable def makeLW (N : Ken) (n : Nat) (R : RecL) (dp : Nat) (f : Fm) (x : Str) (kws : List Keyword) (as : List AO) (Q : PV) : Prop := match isKind .globalImplicit f.sc x && Nat.ble 2 dp with
  | true => (match kw2 kws with
    | some ((k1, e1, _), (k2, e2, _)) => (match adrOf (N.gv x) with
      | some C => (match N.made with
        | some (C', fI, d, n1, n2) => (match Nat.beq C C' && seq k1 n1 && seq k2 n2 with
          | true => R.ev dp f e1 as fun v1 as₁ => R.ev dp f e2 as₁ fun v2 as₂ => exsW N.D N.P n (dp - 2) ⟨d.scope, (d.names.zip [.obj (as₂.length + 1), v1, v2]).reverse, [], d.code, d.qual⟩ d.body (as₂ ++ [.dict []] ++ [.inst C as₂.length]) fun fl _ as' => (match fl with | .next => Q (.obj (as₂.length + 1)) as' | _ => False)
          | false => False)
        | none => False)
      | none => False)
    | none => False)
  | false => False
set_option backward.match.sparseCases false
noncomputable def primW (N : Ken) (dp : Nat) (fa : Addr) (vs : List AV) (as : List AO) (Q : PV) : Prop := match N.P fa with
  | some (t, g) => (match Nat.ble t dp with | true => g vs as Q | false => False)
  | none => False
noncomputable def nameLW (N : Ken) (R : RecL) (dp : Nat) (f : Fm) (x : Str) (args : List Expr) (as : List AO) (Q : PV) : Prop := match isKind .globalImplicit f.sc x && noStar args with
  | true => (match N.gv x with
    | some v => (match v with
      | .bi s => R.evs dp f args as fun vs as₁ => biW s vs as₁ Q
      | .addr fa => R.evs dp f args as fun vs as₁ => primW N dp fa vs as₁ Q
      | _ => False)
    | none => False)
  | false => False
noncomputable def idOf (x : Str) : Option Bool := match seq x ⟨⟨[97, 112, 112, 101, 110, 100]⟩⟩ with
  | true => some true
  | false => (match seq x ⟨⟨[101, 120, 116, 101, 110, 100]⟩⟩ with
    | true => some false
    | false => none)
noncomputable def idS (b : Bool) : String := match b with | true => "list.append" | false => "list.extend"
noncomputable def intxAt (as : List AO) (i : Nat) : Bool := onSm as[i]? (fun o => onSm (listX o) (fun _ => true) false) false
noncomputable def methLW (N : Ken) (n : Nat) (R : RecL) (dp : Nat) (f : Fm) (o : Expr) (name : Str) (args : List Expr) (apos pos : Pos) (as : List AO) (Q : PV) : Prop := match o with
  | .Name x _ => (match Nat.beq apos.endLine pos.line with
    | true => (match idOf name with
      | some b => (match noStar args && Nat.blt args.length 20 with
        | true => nameG N f x as fun o as₁ => (match o with
          | .obj i => (match intxAt as₁ i with | true => R.evs dp f args as₁ fun vs as₂ => biW (idS b) (.obj i :: vs) as₂ Q | false => False)
          | _ => False)
        | false => False)
      | none => (match args with
        | [] => nameG N f x as fun o as₁ => (match o with
          | .obj i => (match methA N.D i name as₁ with | some fa => clW N.D N.P n dp fa [.obj i] as₁ Q | none => False)
          | _ => False)
        | _ => False))
    | false => False)
  | _ => False
noncomputable def callLW (N : Ken) (n : Nat) (R : RecL) (dp : Nat) (f : Fm) (fn : Expr) (args : List Expr) (kws : List Keyword) (pos : Pos) (as : List AO) (Q : PV) : Prop := match fn with
  | .Name x _ => (match kws with
    | [] => nameLW N R dp f x args as Q
    | _ => (match args with | [] => makeLW N n R dp f x kws as Q | _ => False))
  | .Attribute o name apos => (match kws with
    | [] => methLW N n R dp f o name args apos pos as Q
    | _ => False)
  | _ => False
noncomputable def rngOf : Expr → Option (Str × Pos × List Expr × Pos)
  | .Call fn args kws pc => (match fn with | .Name r p => (match kws with | [] => some (r, p, args, pc) | _ => none) | _ => none)
  | _ => none
noncomputable def nmOf : Expr → Option (Str × Pos)
  | .Name x p => some (x, p)
  | _ => none
noncomputable def plainIter : Expr → Bool
  | .Name .. => true
  | .Subscript .. => true
  | _ => false
noncomputable def itW (N : Ken) (R : RecL) (dp : Nat) (f : Fm) (iter tg : Expr) (as : List AO) (K : Nat → Bnd → Chk → List AO → Prop) : Prop := match rngOf iter with
  | some (r, _, args, _) => (match isKind .globalImplicit f.sc r && noStar args with
    | true => (match N.gv r with
      | some (.ty t) => (match t == "range" with
        | true => (match nmOf tg with | some (x, _) => R.evs dp f args as fun vs as₁ => rng3 vs (fun a b => (Small a ∧ Small b) ∧ K (b - a).toNat (bndR x a) (fun _ P => P) as₁) (fun a b c => stepOk3 a b c ∧ K (Builtin.Range.rangeSize a b c).toNat (bndS x a c) (fun _ P => P) as₁) | none => False)
        | false => False)
      | _ => False)
    | false => False)
  | none => (match plainIter iter with
    | true => R.ev dp f iter as fun o as₁ => onL o as₁ fun i xs => K xs.length (bndL tg xs) (chkL i xs) as₁
    | false => False)
noncomputable def lvF (N : Ken) (n : Nat) (R : RecL) (dp : Nat) (f : Fm) (e : Expr) (as : List AO) (Q : PV) : Prop := match e with
  | .Constant c _ _ => constW c as Q
  | .Name x _ => nameG N f x as Q
  | .Attribute o a _ => attrLW N f o a as Q
  | .BinOp l op r _ => R.ev dp f l as fun a as₁ => R.ev dp f r as₁ fun b as₂ => binV op a b as₂ Q
  | .UnaryOp op x _ => unLW R dp f op x as Q
  | .Subscript v i _ => subLW N R dp f v i as Q
  | .List elts _ => listLW R dp f elts mkL as Q
  | .Tuple elts _ _ => listLW R dp f elts .tuple as Q
  | .Dict ks vs _ => dictLW N ks vs as Q
  | .IfExp t a b _ => R.ts dp f t as fun c as₁ => ifB c (R.ev dp f a as₁ Q) (R.ev dp f b as₁ Q)
  | .BoolOp op es p => boolLW R dp f op es p as Q
  | .Compare l ops rs _ => cmpELW R dp f l ops rs as Q
  | .Call fn args kws pos => callLW N n R dp f fn args kws pos as Q
  | _ => False
noncomputable def lvsF (R : RecL) (dp : Nat) (f : Fm) (es : List Expr) (as : List AO) (Q : PVs) : Prop := match es with
  | [] => Q [] as
  | e :: r => R.ev dp f e as fun a as₁ => R.evs dp f r as₁ fun l as₂ => Q (a :: l) as₂
noncomputable def lpF (R : RecL) (dp : Nat) (f : Fm) (e : Option Expr) (as : List AO) (Q : Option Int → List AO → Prop) : Prop := match e with
  | none => Q none as
  | some e => R.ev dp f e as fun v as₁ => (match v with | .int i => Q (some i) as₁ | _ => False)
noncomputable def plainLW (R : RecL) (dp : Nat) (f : Fm) (e : Expr) (as : List AO) (Q : PB) : Prop := match plainTest e with
  | true => R.ev dp f e as fun a as₁ => truX a as₁ fun v => Q v as₁
  | false => False
noncomputable def ltF (R : RecL) (dp : Nat) (f : Fm) (e : Expr) (as : List AO) (Q : PB) : Prop := match e with
  | .Compare l ops rs _ => (match one ops, one rs with
    | some op, some r => cmpLW R dp f l op r as Q
    | _, _ => False)
  | .BoolOp op es _ => R.an dp f op es as Q
  | e => plainLW R dp f e as Q
noncomputable def laF (R : RecL) (dp : Nat) (f : Fm) (op : BoolOp) (es : List Expr) (as : List AO) (Q : PB) : Prop := match es with
  | [] => Q (op == .And) as
  | e :: r => (match (match op with | .And => true | .Or => false) with | true => R.ts dp f e as fun b as₁ => boB op b (R.an dp f op r as₁ Q) (Q b as₁) | false => False)
noncomputable def recL (N : Ken) : Nat → RecL
  | 0 => ⟨fun _ _ _ _ _ => False, fun _ _ _ _ _ => False, fun _ _ _ _ _ => False, fun _ _ _ _ _ => False, fun _ _ _ _ _ _ => False⟩
  | n + 1 => ⟨lvF N n (recL N n), lvsF (recL N n), lpF (recL N n), ltF (recL N n), laF (recL N n)⟩
noncomputable abbrev lv (N : Ken) (n : Nat) := (recL N n).ev
noncomputable abbrev lvs (N : Ken) (n : Nat) := (recL N n).evs
noncomputable abbrev lp (N : Ken) (n : Nat) := (recL N n).pt
noncomputable abbrev lt (N : Ken) (n : Nat) := (recL N n).ts
noncomputable abbrev la (N : Ken) (n : Nat) := (recL N n).an
noncomputable def tg1W (N : Ken) (R : RecL) (dp : Nat) (f : Fm) (t : Expr) (v : AV) (as : List AO) (Q : Loc → List AO → Prop) : Prop := match t with
  | .Name x _ => storeW f x v as Q
  | .Subscript o k _ => R.ev dp f o as fun ov as₁ => R.ev dp f k as₁ fun kv as₂ => putX N.pw ov kv v as₂ fun as₃ => Q f.loc as₃
  | _ => False
noncomputable def tgsW (N : Ken) (R : RecL) (dp : Nat) (f : Fm) : List Expr → List AV → List AO → (Loc → List AO → Prop) → Prop
  | [], [], as, Q => Q f.loc as
  | t :: ts, v :: vs, as, Q => tg1W N R dp f t v as fun loc as₁ => tgsW N R dp { f with loc := loc } ts vs as₁ Q
  | _, _, _, _ => False
noncomputable def asgnTW (N : Ken) (R : RecL) (dp : Nat) (f : Fm) (ts : List Expr) (e : Expr) (as : List AO) (Q : PF) : Prop := match noSwap ts e && noComp e && noStar ts with
  | true => R.ev dp f e as fun v as₁ => onObj v (fun j => onSm as₁[j]? (fun o => onSm (seqOfA o) (fun xs => (match Nat.beq xs.length ts.length with | true => tgsW N R dp f ts xs as₁ (Q .next) | false => False)) False) False) False
  | false => False
noncomputable def asgnLW (N : Ken) (R : RecL) (dp : Nat) (f : Fm) (t e : Expr) (as : List AO) (Q : PF) : Prop := match t with
  | .Name x p => (match noComp e with | true => R.ev dp f e as fun v as₁ => storeW f x v as₁ (Q .next) | false => False)
  | .Subscript o k p => (match noComp e with
    | true => R.ev dp f e as fun v as₁ => tg1W N R dp f (.Subscript o k p) v as₁ (Q .next)
    | false => False)
  | .Tuple elts _ _ => asgnTW N R dp f elts e as Q
  | _ => False
noncomputable def augO (f : Fm) (x : Str) (i : Nat) (b : AV) (as : List AO) (Q : PF) : Prop := onObj b (fun j => onSm as[i]? (fun o1 => onSm as[j]? (fun o2 => onSm (listX o1) (fun xs => onSm (listX o2) (fun ys => gN (xs.length + ys.length) 100000 (storeW f x (.obj i) (as.set i (.list (xs ++ ys))) (Q .next))) False) False) False) False) False
noncomputable def augNLW (R : RecL) (dp : Nat) (f : Fm) (x : Str) (op : Operator) (e : Expr) (as : List AO) (Q : PF) : Prop := match isKind .local f.sc x, isMod op with
  | true, false => (match lk f.loc x with
    | some (.int i) => R.ev dp f e as fun b as₁ => (match b with | .int j => binW op i j fun k => storeW f x (.int k) as₁ (Q .next) | _ => False)
    | some (.obj i) => (match op with | .Add => R.ev dp f e as fun b as₁ => augO f x i b as₁ Q | _ => False)
    | _ => False)
  | _, _ => False
noncomputable def augLW (N : Ken) (R : RecL) (dp : Nat) (f : Fm) (t : Expr) (op : Operator) (e : Expr) (as : List AO) (Q : PF) : Prop := match t with
  | .Name x _ => augNLW R dp f x op e as Q
  | _ => False
noncomputable def forLW (N : Ken) (R : RecL) (T : RecX) (dp : Nat) (f : Fm) (tg iter : Expr) (body : List Stmt) (as : List AO) (Q : PF) : Prop :=
  itW N R dp f iter tg as fun n bnd chk as₁ => loopI chk (fun k loc as₂ P => bnd { f with loc := loc } k as₂ P) (fun loc as₂ K => T.exs dp { f with loc := loc } body as₂ K) n 0 f.loc as₁ Q
noncomputable def lxF (N : Ken) (R : RecL) (T : RecX) (dp : Nat) (f : Fm) (st : Stmt) (as : List AO) (Q : PF) : Prop := match st with
  | .Pass _ => Q .next f.loc as
  | .Break _ => Q .brk f.loc as
  | .Continue _ => Q .cont f.loc as
  | .Expr e _ => (match noComp e with | true => R.ev dp f e as fun _ as₁ => Q .next f.loc as₁ | false => False)
  | .Return v _ => (match v with | some e => R.ev dp f e as fun v as₁ => Q (.ret v) f.loc as₁ | none => False)
  | .Assign ts e _ => (match one ts with | some t => asgnLW N R dp f t e as Q | none => False)
  | .AugAssign t op e _ => augLW N R dp f t op e as Q
  | .If t b o _ => R.ts dp f t as fun c as₁ => ifB c (T.exs dp f b as₁ Q) (T.exs dp f o as₁ Q)
  | .For tg iter body els _ => (match els with | [] => forLW N R T dp f tg iter body as Q | _ => False)
  | _ => False
noncomputable def lxsF (T : RecX) (dp : Nat) (f : Fm) (ss : List Stmt) (as : List AO) (Q : PF) : Prop := match ss with
  | [] => Q .next f.loc as
  | st :: r => T.ex dp f st as fun fl loc as₁ => (match fl with | .next => T.exs dp { f with loc := loc } r as₁ Q | fl => Q fl loc as₁)
noncomputable def recX (N : Ken) : Nat → RecX
  | 0 => ⟨fun _ _ _ _ _ => False, fun _ _ _ _ _ => False⟩
  | n + 1 => ⟨lxF N (recL N n) (recX N n), lxsF (recX N n)⟩
noncomputable abbrev lx (N : Ken) (n : Nat) := (recX N n).ex
noncomputable abbrev lxs (N : Ken) (n : Nat) := (recX N n).exs
end Mine

end
section
open PySem PySem.W PyProof.Rows PySem.SeqAt
set_option backward.match.sparseCases false
namespace Mine
structure KenOK (X : Cx) (N : Ken) : Prop where
  cls : ClassOK X N.D N.P
  gvs : ∀ x av, N.gv x = some av → ∃ v, GlobV X x v ∧ VR [] av v
  mades : ∀ C fI d n1 n2, N.made = some (C, fI, d, n1, n2) → MakeOK X C fI d n1 n2
  pw : ∀ p w, N.pw = some (p, w) → p = X.prog ∧ w = X.w
section
variable {X : Cx} {N : Ken}
theorem gN_ok {n m : Nat} {P : Prop} (h : gN n m P) : n ≤ m ∧ P := by
  unfold gN at h
  split at h
  · rename_i b; exact ⟨Nat.le_of_ble_eq_true b, h⟩
  · exact h
theorem onL_ok {o : AV} {as : List AO} {K : Nat → List AV → Prop} (h : onL o as K) : ∃ i xs, o = .obj i ∧ isAt i xs as ∧ K i xs := by
  unfold onL at h
  split at h
  · split at h
    · rename_i ob hob
      split at h
      · rename_i xs hxs; exact ⟨_, xs, rfl, ⟨ob, hob, hxs⟩, h⟩
      · cases h
    · cases h
  · cases h
theorem vsame_ok {a b : AV} (h : vsame a b = true) : a = b := by
  unfold vsame at h
  split at h
  · rw [seq_iff.mp h]
  · rw [Nat.eq_of_beq_eq_true h]
  · cases h
theorem lsame_ok : ∀ {x y : List AV}, lsame x y = true → x = y
  | [], [], _ => rfl
  | a :: x, b :: y, h => by
    unfold lsame at h
    split at h
    · rename_i q; rw [vsame_ok q, lsame_ok h]
    · cases h
  | [], _ :: _, h => by cases h
  | _ :: _, [], h => by cases h
theorem chkL_ok {i : Nat} {xs : List AV} {as : List AO} {P : Prop} (h : chkL i xs as P) : isAt i xs as ∧ P := by
  unfold chkL at h
  split at h
  · rename_i ys e
    split at h
    · rename_i q; obtain rfl := lsame_ok q; exact ⟨⟨_, e, rfl⟩, h⟩
    · obtain ⟨rfl, h⟩ := h; exact ⟨⟨_, e, rfl⟩, h⟩
  · rename_i ob _ e; exact ⟨⟨_, e, h.1⟩, h.2⟩
  · cases h
theorem nameG_ok (O : KenOK X N) {dp : Nat} {f : Fm} {as : List AO} {x : Str} {p : Pos} {Q : PV} (h : nameG N f x as Q) : EvS X dp f (.Name x p) as Q := by
  unfold nameG at h
  split at h
  · rename_i hk
    split at h
    · rename_i v hv
      obtain ⟨u, G, V⟩ := O.gvs x v hv
      exact ev_glob hk G V h
    · cases h
  · exact nameW_ok h
theorem rngW_ok {vs : List AV} {Q : Int → Int → Prop} (h : rngW vs Q) : ∃ a b, RngArgs vs a b ∧ Q a b := by
  unfold rngW at h
  split at h
  · exact ⟨_, _, .one _, h⟩
  · exact ⟨_, _, .two _ _, h⟩
  · cases h
theorem addV_ok {op : Operator} {i j : Nat} {as : List AO} {Q : PV} (h : addV op i j as Q) : ∃ oa ob rr, as[i]? = some oa ∧ as[j]? = some ob ∧ addA oa ob = some rr ∧ lenA oa + lenA ob ≤ 100000 ∧ Q (.obj as.length) (as ++ [rr]) := by
  unfold addV at h
  split at h
  · split at h
    · split at h
      · split at h
        · exact ⟨_, _, _, by assumption, by assumption, by assumption, gN_ok h⟩
        · cases h
      · cases h
    · cases h
  · cases h
theorem mulV_ok {op : Operator} {i : Nat} {k : Int} {as : List AO} {Q : PV} (h : mulV op i k as Q) : ∃ xs, as[i]? = some (.intx xs) ∧ (0 < xs.length ∧ 0 ≤ k ∧ k < 2 ^ 62 ∧ xs.length * k.toNat ≤ 100000) ∧ Q (.obj as.length) (as ++ [.intx (repL xs k.toNat)]) := by
  unfold mulV at h
  split at h
  · split at h
    · exact ⟨_, by assumption, h⟩
    · cases h
  · cases h
theorem one_ok {α : Type} {l : List α} {a : α} (h : one l = some a) : l = [a] := by
  cases l with
  | nil => exact nosome h
  | cons b r => cases r with
    | nil => cases h; rfl
    | cons _ _ => exact nosome h
theorem two_ok {α : Type} {l : List α} {a b : α} (h : two l = some (a, b)) : l = [a, b] := by
  cases l with
  | nil => exact nosome h
  | cons c r =>
    unfold two at h
    dsimp only at h
    split at h
    · rename_i d e; cases h; rw [one_ok e]
    · exact nosome h
theorem kw2_ok {kws : List Keyword} {k1 k2 : Str} {e1 e2 : Expr} {p1 p2 : Pos} (h : kw2 kws = some ((k1, e1, p1), (k2, e2, p2))) : kws = [⟨some k1, e1, p1⟩, ⟨some k2, e2, p2⟩] := by
  unfold kw2 at h
  split at h
  · rename_i a b e
    rw [two_ok e]
    obtain ⟨n1, _, _⟩ := a
    obtain ⟨n2, _, _⟩ := b
    cases n1 with
    | none => exact nosome h
    | some _ => cases n2 with
      | none => exact nosome h
      | some _ => cases h; rfl
  · exact nosome h
theorem adrOf_ok {v : Option AV} {C : Addr} (h : adrOf v = some C) : v = some (.addr C) := by
  cases v with
  | none => exact nosome h
  | some v => cases v with
    | addr _ => cases h; rfl
    | _ => exact nosome h
theorem binA_ok {op : Operator} {i j : Int} {as : List AO} {Q : PV} (h : binA op i j as Q) : ∃ k, intA op i j = some k ∧ Q (.int k) as := by
  have gen : (binW op i j fun k => Q (.int k) as) → ∃ k, intA op i j = some k ∧ Q (.int k) as := binW_ok
  cases op with
  | Mod =>
    cases j with
    | ofNat n => cases n with
      | zero => exact h.elim
      | succ k => exact gen ⟨fun e => by simp at e; lia, h⟩
    | negSucc n => exact h.elim
  | FloorDiv =>
    cases j with
    | ofNat n => cases n with
      | zero => exact h.elim
      | succ k =>
        have h : (match Builtin.divisionGoesByPylong i (.ofNat (k + 1)) with | false => Q (.int (i.fdiv (.ofNat (k + 1)))) as | true => False) := h
        split at h
        · rename_i e; exact gen ⟨⟨fun e => by simp at e; lia, e⟩, h⟩
        · cases h
    | negSucc n => exact h.elim
  | _ => exact gen h
theorem binV_ok {dp : Nat} {f : Fm} {l r : Expr} {op : Operator} {pos : Pos} {as : List AO} {Q : PV} (h : EvS X dp f l as fun a as₁ => EvS X dp f r as₁ fun b as₂ => binV op a b as₂ Q) : EvS X dp f (.BinOp l op r pos) as Q := by
  intro A θ s L env post E R F S c
  refine wpAny_BinOp (h A θ s L env _ E R F S fun a as₁ θ₁ s₁ v q S₁ X₁ V₁ => q A θ₁ s₁ L env _ E R (F.ext X₁) S₁ fun b as₂ θ₂ s₂ u q₂ S₂ X₂ V₂ => ?_)
  have V₁ := V₁.mono X₂.pre
  have X₁₂ := X₁.trans X₂
  have q₂ : binV op a b as₂ Q := q₂
  cases a with
  | int i => cases b with
    | int j =>
      obtain ⟨t, rfl⟩ := V₁
      obtain ⟨t', rfl⟩ := V₂
      obtain ⟨k, e, q₃⟩ := binA_ok (show binA op i j as₂ Q from q₂)
      exact bin_int e (c _ _ θ₂ { s₂ with toks := s₂.toks + 1 } _ q₃ (S₂.toks _) X₁₂ ⟨_, rfl⟩)
    | _ => exact False.elim q₂
  | obj i => cases b with
    | obj j =>
      obtain ⟨a, ha, rfl⟩ := V₁
      obtain ⟨b, hb, rfl⟩ := V₂
      cases op with
      | Add =>
        refine El_eeeaaa (addV_ok (op := .Add) q₂) fun oa ob rr e1 e2 e3 q₂ => ?_
        exact add_objs S₂ e1 e2 ha hb e3 q₂.1 fun θ' s' v S' X' V' => c _ _ θ' s' v q₂.2 S' (X₁₂.trans X') V'
      | _ => exact False.elim q₂
    | int k =>
      obtain ⟨a, ha, rfl⟩ := V₁
      obtain ⟨t, rfl⟩ := V₂
      cases op with
      | Mult =>
        obtain ⟨xs, e1, q₂⟩ := mulV_ok (op := .Mult) q₂
        exact mul_obj S₂ e1 ha q₂.1 fun θ' s' v S' X' V' => c _ _ θ' s' v q₂.2 S' (X₁₂.trans X') V'
      | _ => exact False.elim q₂
    | _ => exact False.elim q₂
  | _ => exact False.elim q₂
theorem range_of (O : KenOK X N) {r : Str} {t : String} (h : N.gv r = some (.ty t)) {u : String} (e : (t == u) = true) : GlobV X r (.type u) := by
  obtain ⟨v, G, V⟩ := O.gvs r _ h
  obtain rfl := eq_of_beq e
  cases V; exact G
theorem compOk_of {scope : Scope} (h : compOk scope = true) : notDbg scope.names = true ∧ scope.kind = .function ∧ (∀ y ∈ scope.names, y.2 = .local → scope.names.lookup y.1 = some .local) ∧ (∀ y ∈ scope.names, y.2 ≠ .cell) := by
  unfold compOk at h
  simp only [Bool.and_eq_true, List.all_eq_true, beq_iff_eq] at h
  obtain ⟨⟨h1, h2⟩, h3⟩ := h
  refine ⟨h1, h2, fun y hy e => ?_, fun y hy e => ?_⟩
  · have := h3 y hy
    rw [e] at this
    simp only at this
    rw [lk_lookup] at this
    split at this
    · assumption
    · cases this
  · have := h3 y hy
    rw [e] at this
    cases this
theorem intsF_ok {ob : AO} {K : List Int → Prop} (h : intsF ob K) : ∃ xs, ReadI ob xs ∧ K xs := by
  unfold intsF at h
  split at h
  · obtain ⟨xs, e, h⟩ := h; exact ⟨xs, .inr ⟨_, rfl, e⟩, h⟩
  · split at h
    · rename_i xs e; exact ⟨xs, .inl e, h⟩
    · cases h
theorem intsO_ok {i : Nat} {as : List AO} {K : List Int → Prop} (h : intsO i as K) : ∃ ob xs, as[i]? = some ob ∧ ReadI ob xs ∧ K xs := by
  unfold intsO at h
  split at h
  · rename_i ob e; obtain ⟨xs, r, h⟩ := intsF_ok h; exact ⟨ob, xs, e, r, h⟩
  · cases h
theorem lenF_ok {ob : AO} {K : Nat → Prop} (h : lenF ob K) : ∃ n, LenI ob n ∧ K n := by
  unfold lenF at h
  split at h
  · obtain ⟨xs, e, h⟩ := h; exact ⟨_, .inr ⟨_, xs, rfl, e, rfl⟩, h⟩
  · split at h
    · rename_i xs e
      have l := listA_len e
      exact ⟨_, .inl ⟨xs, e, l⟩, h⟩
    · cases h
theorem bi1_ok {s : String} {i : Nat} {as : List AO} {Q : PV} (h : bi1 s i as Q) : BiS X s [.obj i] as Q := by
  unfold bi1 at h
  split at h
  · rename_i e; obtain rfl := eq_of_beq e
    unfold lenO at h
    split at h
    · rename_i xs e
      split at h
      · rename_i hb; exact bi_len e (.inr ⟨xs, rfl, rfl⟩) (Nat.le_of_ble_eq_true hb) h
      · cases h
    · rename_i ob _ e
      obtain ⟨n, hn, h⟩ := lenF_ok h
      have h := gN_ok h
      exact bi_len e (.inl hn) h.1 h.2
    · cases h
  · split at h
    · rename_i e; obtain rfl := eq_of_beq e
      obtain ⟨ob, xs, e, r, h⟩ := intsO_ok h
      exact bi_sum e r h
    · cases h
theorem appW_ok {ob : AO} {b : AV} {i : Nat} {as : List AO} {Q : PV} (hi : as[i]? = some ob) (h : appW ob b i as Q) : BiS X "list.append" [.obj i, b] as Q := by
  cases ob with
  | intx xs =>
    have go : gN xs.length 100000 (Q .none (as.set i (.list (xs.map .int ++ [b])))) → BiS X "list.append" [.obj i, b] as Q := fun h => by
      have h := gN_ok h
      exact bi_appendX hi rfl (by rw [List.length_map]; exact h.1) h.2
    cases b with
    | int y => have h := gN_ok h; exact bi_append hi h.1 h.2
    | _ => exact go h
  | list vs => have h := gN_ok h; exact bi_appendX hi rfl h.1 h.2
  | _ => exact h.elim
theorem bi2_ok {s : String} {a b : AV} {as : List AO} {Q : PV} (h : bi2 s a b as Q) : BiS X s [a, b] as Q := by
  unfold bi2 at h
  split at h
  · rename_i e; obtain rfl := eq_of_beq e
    cases b with
    | ty t =>
      dsimp only at h
      split at h
      · rename_i e; obtain rfl := eq_of_beq e
        split at h
        · rename_i r e; exact bi_isi e h
        · cases h
      · cases h
    | _ => exact h.elim
  · obtain ⟨i, rfl, h1⟩ := onObj_t h
    obtain ⟨ob, hi, h2⟩ := onSm_t h1
    clear h h1
    split at h2
    · rename_i e; obtain rfl := eq_of_beq e; exact appW_ok hi h2
    · split at h2
      · rename_i e; obtain rfl := eq_of_beq e
        cases ob with
        | intx xs =>
          obtain ⟨j, rfl, h3⟩ := onObj_t h2
          obtain ⟨o2, hj, h4⟩ := onSm_t h3
          obtain ⟨ys, hy, h5⟩ := onSm_t h4
          have h5 := gN_ok h5
          exact bi_extend hi hj hy h5.1 h5.2
        | _ => exact h2.elim
      · cases h2
theorem biW_ok {s : String} {vs : List AV} {as : List AO} {Q : PV} (h : biW s vs as Q) : BiS X s vs as Q := by
  cases vs with
  | nil => exact h.elim
  | cons a r => cases r with
    | nil => cases a with
      | obj i => exact bi1_ok h
      | _ => exact h.elim
    | cons b r => cases r with
      | nil => exact bi2_ok h
      | cons _ _ => exact h.elim
end
end Mine

end
section
open PySem PySem.W PyProof.Rows PySem.SeqAt
namespace Mine
section
variable {X : Cx} {N : Ken}
structure SpecL (X : Cx) (R : RecL) : Prop where
  ev : ∀ dp f e as Q, R.ev dp f e as Q → EvS X dp f e as Q
  evs : ∀ dp f es as Q, R.evs dp f es as Q → EvsS X dp f es as Q
  pt : ∀ dp f e as Q, R.pt dp f e as Q → PtS X dp f e as Q
  ts : ∀ dp f e as Q, R.ts dp f e as Q → TsS X dp f e as Q
  an : ∀ dp f op es as Q, R.an dp f op es as Q → BoS X dp f op es as Q
theorem PtS.mono {dp : Nat} {f : Fm} {e : Option Expr} {as : List AO} {Q Q' : Option Int → List AO → Prop} (h : PtS X dp f e as Q) (k : ∀ a b, Q a b → Q' a b) : PtS X dp f e as Q' := by
  cases e with
  | none => exact k _ _ h
  | some e => exact EvS.mono h fun v as₁ ⟨i, a, b⟩ => ⟨i, a, k _ _ b⟩
section
variable {R : RecL} {dp : Nat} {f : Fm} {as : List AO} {Q : PV}
theorem attrLW_ok (O : KenOK X N) {o : Expr} {a : Str} {p : Pos} (h : attrLW N f o a as Q) : EvS X dp f (.Attribute o a p) as Q := by
  obtain ⟨K, OK⟩ := O.cls.cls
  cases o with
  | Name x p' =>
    unfold attrLW at h
    dsimp only at h
    refine ev_attr OK ((nameG_ok O h).mono fun o as₁ q => ?_)
    split at q
    · exact ⟨_, rfl, q⟩
    · cases q
  | _ => exact False.elim h
theorem sliceLW_ok (ih : SpecL X R) {v : Expr} {lo hi : Option Expr} {p p' : Pos} (h : sliceLW R dp f v lo hi as Q) : EvS X dp f (.Subscript v (.Slice lo hi none p') p) as Q := by
  refine ev_slice ((ih.ev _ _ _ _ _ h).mono fun o as₁ q => (ih.pt _ _ _ _ _ q).mono fun x as₂ q => (ih.pt _ _ _ _ _ q).mono fun y as₃ q => ?_)
  split at q
  · split at q
    · rename_i ob hob
      refine El_ea (intsF_ok q) fun xs hxs q => ?_
      have q := gN_ok q
      exact ⟨_, ob, xs, rfl, hob, hxs, q.1, q.2⟩
    · cases q
  · cases q
theorem negC_ok {e : Expr} {c : Nat} (h : negC e = some c) : ∃ k p, e = .Constant (.int (c : Int)) k p := by
  cases e with
  | Constant v k p => cases v with
    | int i => cases i with
      | ofNat d => cases h; exact ⟨k, p, rfl⟩
      | negSucc d => exact nosome h
    | _ => exact nosome h
  | _ => exact nosome h
theorem negOf_ok {e : Expr} {c : Nat} (h : negOf e = some c) : ∃ k p p', e = .UnaryOp .USub (.Constant (.int (c : Int)) k p) p' := by
  cases e with
  | UnaryOp op x p => cases op with
    | USub => obtain ⟨k, p', rfl⟩ := negC_ok h; exact ⟨k, p', p, rfl⟩
    | _ => exact nosome h
  | _ => exact nosome h
theorem negT_ok {o : AV} {c : Nat} {as : List AO} {Q : AV → Prop} (h : negT o c as Q) : negW o c as Q := by
  unfold negT at h
  split at h
  · rename_i hb; exact ⟨by have := Nat.le_of_ble_eq_true hb; lia, h⟩
  · cases h
theorem itemLW_ok (O : KenOK X N) (ih : SpecL X R) {v i : Expr} {p : Pos} (h : itemLW N R dp f v i as Q) : EvS X dp f (.Subscript v i p) as Q := by
  obtain ⟨K, OK⟩ := O.cls.cls
  unfold itemLW at h
  split at h
  · rename_i c hc
    obtain ⟨k, p1, p2, rfl⟩ := negOf_ok hc
    exact ev_subN ((ih.ev _ _ _ _ _ h).mono fun o as₁ q => negT_ok q)
  · split at h
    · rename_i hn; exact ev_subX O.pw OK hn ((ih.ev _ _ _ _ _ h).mono fun a as₁ q => ih.ev _ _ _ _ _ q)
    · cases h
theorem sliceOf_ok {e : Expr} {lo hi st : Option Expr} (h : sliceOf e = some (lo, hi, st)) : ∃ p, e = .Slice lo hi st p := by
  cases e with
  | Slice a b c p => cases h; exact ⟨p, rfl⟩
  | _ => exact nosome h
theorem subLW_ok (O : KenOK X N) (ih : SpecL X R) {v i : Expr} {p : Pos} (h : subLW N R dp f v i as Q) : EvS X dp f (.Subscript v i p) as Q := by
  unfold subLW at h
  split at h
  · rename_i lo hi hs
    obtain ⟨p', rfl⟩ := sliceOf_ok hs
    exact sliceLW_ok ih h
  · cases h
  · exact itemLW_ok O ih h
theorem unLW_ok (ih : SpecL X R) {op : UnaryOp} {x : Expr} {p : Pos} (h : unLW R dp f op x as Q) : EvS X dp f (.UnaryOp op x p) as Q := by
  cases op with
  | USub =>
    refine ev_neg ((ih.ev _ _ _ _ _ h).mono fun a as₁ q => ?_)
    split at q
    · exact ⟨_, rfl, q⟩
    · cases q
  | _ => exact False.elim h
theorem listLW_ok (ih : SpecL X R) {elts : List Expr} {mk : List AV → AO} (h : listLW R dp f elts mk as Q) : noStar elts = true ∧ EvsS X dp f elts as fun vs as₁ => vs.length ≤ 100000 ∧ Q (.obj as₁.length) (as₁ ++ [mk vs]) := by
  unfold listLW at h
  split at h
  · rename_i hs
    refine ⟨hs, (ih.evs _ _ _ _ _ h).mono fun vs as₁ q => ?_⟩
    split at q
    · rename_i hb; exact ⟨Nat.le_of_ble_eq_true hb, q⟩
    · cases q
  · cases h
theorem dictLW_ok (O : KenOK X N) {ks : List (Option Expr)} {vs : List Expr} {p : Pos} (h : dictLW N ks vs as Q) : EvS X dp f (.Dict ks vs p) as Q := by
  cases ks with
  | nil => cases vs with
    | nil =>
      have h : (match N.pw with | some (p, w) => Q (.obj as.length) (as ++ [.map p w []]) | none => False) := h
      split at h
      · rename_i p w e; exact ev_dict0 (O.pw _ _ e) h
      · cases h
    | cons _ _ => exact h.elim
  | cons _ _ => exact h.elim
theorem boolLW_ok (ih : SpecL X R) {op : BoolOp} {es : List Expr} {p : Pos} (h : boolLW R dp f op es p as Q) : EvS X dp f (.BoolOp op es p) as Q := by
  cases op with
  | And => cases es with
    | nil => exact h.elim
    | cons x r => cases r with
      | nil => exact ev_bo1 (ih.ev _ _ _ _ _ h)
      | cons y r =>
        refine ev_bo ((ih.ev _ _ _ _ _ h).mono fun v as₁ q => ?_)
        split at q
        · rename_i t ht
          refine ⟨t, ht, ?_⟩
          cases t with
          | true => exact ih.ev _ _ _ _ _ q
          | false => exact q
        · cases q
  | Or => exact h.elim
theorem cmpLW_ok (ih : SpecL X R) {l r : Expr} {op : CmpOp} {p : Pos} {Q : PB} (h : cmpLW R dp f l op r as Q) : TsS X dp f (.Compare l [op] [r] p) as Q := by
  unfold cmpLW at h
  split at h
  · rename_i hm; exact ts_cmpX hm ((ih.ev _ _ _ _ _ h).mono fun a as₁ q => ih.ev _ _ _ _ _ q)
  · cases h
theorem cmpELW_ok (ih : SpecL X R) {l : Expr} {ops : List CmpOp} {rs : List Expr} {p : Pos} (h : cmpELW R dp f l ops rs as Q) : EvS X dp f (.Compare l ops rs p) as Q := by
  unfold cmpELW at h
  split at h
  · rename_i op r e1 e2
    rw [one_ok e1, one_ok e2]
    unfold cmpLW at h
    split at h
    · rename_i hm; exact ev_cmpX hm ((ih.ev _ _ _ _ _ h).mono fun a as₁ q => ih.ev _ _ _ _ _ q)
    · cases h
  · cases h
theorem makeLW_ok (O : KenOK X N) {n : Nat} (ih : SpecL X R) {x : Str} {kws : List Keyword} {p pos : Pos} (h : makeLW N n R dp f x kws as Q) : EvS X dp f (.Call (.Name x p) [] kws pos) as Q := by
  unfold makeLW at h
  split at h
  · rename_i hkd
    have hkd := Bool.and_eq_true_iff.mp hkd
    split at h
    · rename_i k1 e1 _ k2 e2 _ hkw
      rw [kw2_ok hkw]
      split at h
      · rename_i C hg
        split at h
        · rename_i C' fI d n1 n2 hm
          split at h
          · rename_i hb
            have hb := Bool.and_eq_true_iff.mp hb
            have b1 := Bool.and_eq_true_iff.mp hb.1
            obtain rfl := Nat.eq_of_beq_eq_true b1.1
            obtain rfl := seq_iff.mp b1.2
            obtain rfl := seq_iff.mp hb.2
            obtain ⟨v, G, V⟩ := O.gvs _ _ (adrOf_ok hg)
            cases V
            exact ev_make (O.mades _ _ _ _ _ hm) hkd.1 G (Nat.le_of_ble_eq_true hkd.2) ((ih.ev _ _ _ _ _ h).mono fun v1 as₁ q => (ih.ev _ _ _ _ _ q).mono fun v2 as₂ q => (spec O.cls n).exs _ _ _ _ _ q)
          · cases h
        · cases h
      · cases h
    · cases h
  · cases h
theorem nameLW_ok (O : KenOK X N) (ih : SpecL X R) {x : Str} {args : List Expr} {p pos : Pos} (h : nameLW N R dp f x args as Q) : EvS X dp f (.Call (.Name x p) args [] pos) as Q := by
  unfold nameLW at h
  split at h
  · rename_i hc
    have hc := Bool.and_eq_true_iff.mp hc
    split at h
    · rename_i v hg
      obtain ⟨u, G, V⟩ := O.gvs _ _ hg
      cases v with
      | bi s => cases V; exact ev_bi hc.1 G hc.2 ((ih.evs _ _ _ _ _ h).mono fun vs as₁ q => biW_ok q)
      | addr fa =>
        refine ev_callF hc.2 (ev_glob (av := .addr fa) hc.1 G V ⟨fa, rfl, (ih.evs _ _ _ _ _ h).mono fun vs as₁ q => ?_⟩)
        unfold primW at q
        split at q
        · rename_i t g hp
          split at q
          · rename_i hb
            obtain ⟨z1, z2⟩ := O.cls.prims fa t g hp
            exact ⟨z1, z2 _ _ _ _ (Nat.le_of_ble_eq_true hb) q⟩
          · cases q
        · cases q
      | _ => exact h.elim
    · cases h
  · cases h
theorem intxAt_ok {as : List AO} {i : Nat} (h : intxAt as i = true) : ∃ ob xs, as[i]? = some ob ∧ listX ob = some xs := by
  unfold intxAt at h
  cases e : as[i]? with
  | none => rw [e] at h; exact ff h
  | some ob =>
    rw [e] at h
    revert h
    show onSm (listX ob) (fun _ => true) false = true → _
    cases l : listX ob with
    | none => exact fun h => ff h
    | some xs => exact fun _ => ⟨ob, xs, rfl, l⟩
theorem lm_ok {x name : Str} {p apos pos : Pos} {args : List Expr} {b : Bool} (hi : idOf name = some b) (hs : noStar args = true) (hl : args.length < 20) (hp : (apos.endLine == pos.line) = true)
    (h : EvS X dp f (.Name x p) as fun o as₁ => ∃ i ob xs, o = .obj i ∧ as₁[i]? = some ob ∧ listX ob = some xs ∧ EvsS X dp f args as₁ fun vs as₂ => BiS X (idS b) (.obj i :: vs) as₂ Q) : EvS X dp f (.Call (.Attribute (.Name x p) name apos) args [] pos) as Q := by
  unfold idOf at hi
  split at hi
  · rename_i e
    obtain rfl := seq_iff.mp e
    cases hi
    exact ev_lmX (id := "list.append") PySem.slot_list_append PySem.type_list_append hs hl hp h
  · split at hi
    · rename_i e
      obtain rfl := seq_iff.mp e
      cases hi
      exact ev_lmX (id := "list.extend") PySem.F.slot_list_extend PySem.F.type_list_extend hs hl hp h
    · cases hi
theorem methLW_ok (O : KenOK X N) {n : Nat} (ih : SpecL X R) {o : Expr} {name : Str} {args : List Expr} {apos pos : Pos} (h : methLW N n R dp f o name args apos pos as Q) : EvS X dp f (.Call (.Attribute o name apos) args [] pos) as Q := by
  obtain ⟨K, OK⟩ := O.cls.cls
  cases o with
  | Name x p =>
    unfold methLW at h
    dsimp only at h
    split at h
    · rename_i hl
      have hl : (apos.endLine == pos.line) = true := by simpa using hl
      split at h
      · rename_i b hi
        split at h
        · rename_i hc
          have hc := Bool.and_eq_true_iff.mp hc
          refine lm_ok hi hc.1 (by simpa using hc.2) hl ((nameG_ok O h).mono fun o as₁ q => ?_)
          split at q
          · split at q
            · rename_i i hx
              obtain ⟨ob, xs, hx, hl⟩ := intxAt_ok hx
              exact ⟨_, ob, xs, rfl, hx, hl, (ih.evs _ _ _ _ _ q).mono fun vs as₂ q => biW_ok q⟩
            · cases q
          · cases q
        · cases h
      · cases args with
        | nil =>
          refine ev_callM OK rfl (by decide) hl ((nameG_ok O h).mono fun o as₁ q => ?_)
          split at q
          · split at q
            · rename_i fa hm; exact ⟨_, fa, rfl, hm, evs_nil ((spec O.cls n).cl _ _ _ _ _ q)⟩
            · cases q
          · cases q
        | cons _ _ => exact h.elim
    · cases h
  | _ => exact False.elim h
theorem callLW_ok (O : KenOK X N) {n : Nat} (ih : SpecL X R) {fn : Expr} {args : List Expr} {kws : List Keyword} {pos : Pos} (h : callLW N n R dp f fn args kws pos as Q) : EvS X dp f (.Call fn args kws pos) as Q := by
  cases fn with
  | Name x p => cases kws with
    | nil => exact nameLW_ok O ih h
    | cons _ _ => cases args with
      | nil => exact makeLW_ok O ih h
      | cons _ _ => exact h.elim
  | Attribute o name apos => cases kws with
    | nil => exact methLW_ok O ih h
    | cons _ _ => exact h.elim
  | _ => exact False.elim h
theorem rngOf_ok {e : Expr} {r : Str} {p pc : Pos} {args : List Expr} (h : rngOf e = some (r, p, args, pc)) : e = .Call (.Name r p) args [] pc := by
  cases e with
  | Call fn as kws pos => cases fn with
    | Name x q => cases kws with
      | nil => cases h; rfl
      | cons _ _ => exact nosome h
    | _ => exact nosome h
  | _ => exact nosome h
theorem nmOf_ok {e : Expr} {x : Str} {p : Pos} (h : nmOf e = some (x, p)) : e = .Name x p := by
  cases e with
  | Name y q => cases h; rfl
  | _ => exact nosome h
noncomputable def ItOK (K : Nat → Bnd → Chk → List AO → Prop) (n : Nat) (bnd : Bnd) (G : List AO → Prop) (as : List AO) : Prop := ∃ chk : Chk, (∀ as P, chk as P → G as ∧ P) ∧ K n bnd chk as
theorem int3_ok {vs : List AV} {a b c : Int} (h : int3 vs = some (a, b, c)) : vs = [.int a, .int b, .int c] := by
  unfold int3 at h
  split at h
  · cases h; rfl
  · cases h
theorem rng3_ok {vs : List AV} {Q : Int → Int → Prop} {Q3 : Int → Int → Int → Prop} (h : rng3 vs Q Q3) : rngW vs Q ∨ ∃ a b c, vs = [.int a, .int b, .int c] ∧ Q3 a b c := by
  unfold rng3 at h
  cases e : int3 vs with
  | none => rw [e] at h; exact .inl h
  | some p => obtain ⟨a, b, c⟩ := p; rw [e] at h; exact .inr ⟨a, b, c, int3_ok e, h⟩
theorem itW_ok (O : KenOK X N) (ih : SpecL X R) {iter tg : Expr} {K : Nat → Bnd → Chk → List AO → Prop} (h : itW N R dp f iter tg as K) : (∀ env x, foldedSetIterable iter env x = pure x) ∧ Itr X dp f iter tg as (ItOK K) := by
  unfold itW at h
  split at h
  · rename_i r _ args _ hr
    rw [rngOf_ok hr]
    refine ⟨fun _ _ => rfl, ?_⟩
    split at h
    · rename_i hc
      have hc := Bool.and_eq_true_iff.mp hc
      split at h
      · rename_i t hg
        split at h
        · rename_i hb
          split at h
          · rename_i hn
            rw [nmOf_ok hn]
            refine it_RS hc.1 (range_of O hg hb) hc.2 ((ih.evs _ _ _ _ _ h).mono fun vs as₁ q => ?_)
            rcases rng3_ok q with q | ⟨a, b, c, e, ok, q⟩
            · refine El_eeaa (rngW_ok q) fun a b hab hsm q => ?_
              exact .inl ⟨a, b, hab, hsm, _, fun _ _ p => ⟨trivial, p⟩, q⟩
            · exact .inr ⟨a, b, c, e, ok, _, fun _ _ p => ⟨trivial, p⟩, q⟩
          · cases h
        · cases h
      · cases h
    · cases h
  · split at h
    · rename_i hp
      refine ⟨fun _ _ => (by cases iter <;> first | rfl | cases hp), it_L ((ih.ev _ _ _ _ _ h).mono fun o as₁ q => ?_)⟩
      obtain ⟨i, xs, rfl, hi, q⟩ := onL_ok q
      exact ⟨i, xs, rfl, hi, _, fun _ _ p => chkL_ok p, q⟩
    · cases h
theorem plainLW_ok (ih : SpecL X R) {e : Expr} {Q : PB} (h : plainLW R dp f e as Q) : TsS X dp f e as Q := by
  unfold plainLW at h
  split at h
  · rename_i hp; exact ts_valX hp (ih.ev _ _ _ _ _ h)
  · cases h
theorem ltF_ok (ih : SpecL X R) {e : Expr} {Q : PB} (h : ltF R dp f e as Q) : TsS X dp f e as Q := by
  cases e with
  | Compare l ops rs p =>
    unfold ltF at h
    dsimp only at h
    split at h
    · rename_i e1 e2; rw [one_ok e1, one_ok e2]; exact cmpLW_ok ih h
    · cases h
  | BoolOp op es p => exact ts_bo (ih.an _ _ _ _ _ _ h)
  | _ => exact plainLW_ok ih h
theorem lvF_ok (O : KenOK X N) {n : Nat} (ih : SpecL X R) {e : Expr} (h : lvF N n R dp f e as Q) : EvS X dp f e as Q := by
  cases e with
  | Constant c k p => exact constW_ok h
  | Name x p => exact nameG_ok O h
  | Attribute o a p => exact attrLW_ok O h
  | BinOp l op r p => exact binV_ok ((ih.ev _ _ _ _ _ h).mono fun a as₁ q => ih.ev _ _ _ _ _ q)
  | UnaryOp op x p => exact unLW_ok ih h
  | Subscript v i p => exact subLW_ok O ih h
  | List elts p => have z := listLW_ok ih h; exact ev_list z.1 z.2
  | Tuple elts k p => have z := listLW_ok ih h; exact ev_tuple z.1 z.2
  | Dict ks vs p => exact dictLW_ok O h
  | IfExp t a b p =>
    refine ev_ifexp ((ih.ts _ _ _ _ _ h).mono fun c as₁ q => ?_)
    cases c with
    | true => exact ih.ev _ _ _ _ _ q
    | false => exact ih.ev _ _ _ _ _ q
  | BoolOp op es p => exact boolLW_ok ih h
  | Compare l ops rs p => exact cmpELW_ok ih h
  | Call fn args kws pos => exact callLW_ok O ih h
  | _ => exact False.elim h
end
theorem specL0 (O : KenOK X N) : ∀ n, SpecL X (recL N n)
  | 0 => ⟨fun _ _ _ _ _ h => False.elim h, fun _ _ _ _ _ h => False.elim h, fun _ _ _ _ _ h => False.elim h, fun _ _ _ _ _ h => False.elim h, fun _ _ _ _ _ _ h => False.elim h⟩
  | n + 1 => by
    have ih := specL0 O n
    refine ⟨fun dp f e as Q h => lvF_ok O ih h, fun dp f es as Q h => ?_, fun dp f e as Q h => ?_, fun dp f e as Q h => ltF_ok ih h, fun dp f op es as Q h => ?_⟩
    · cases es with
      | nil => exact evs_nil h
      | cons e r => exact evs_cons ((ih.ev _ _ _ _ _ h).mono fun a as₁ q => ih.evs _ _ _ _ _ q)
    · cases e with
      | none => exact h
      | some e =>
        refine (ih.ev _ _ _ _ _ h).mono fun v as₁ q => ?_
        split at q
        · exact ⟨_, rfl, q⟩
        · cases q
    · cases es with
      | nil => exact bo_nil h
      | cons e r => cases op with
        | And =>
          refine bo_cons rfl ((ih.ts _ _ _ _ _ h).mono fun b as₁ q => ?_)
          cases b with
          | true => exact ih.an _ _ _ _ _ _ q
          | false => exact q
        | Or => exact h.elim
structure SpecLN (X : Cx) (N : Ken) (n : Nat) : Prop where
  ev : ∀ dp f e as Q, lv N n dp f e as Q → EvS X dp f e as Q
  evs : ∀ dp f es as Q, lvs N n dp f es as Q → EvsS X dp f es as Q
  ts : ∀ dp f e as Q, lt N n dp f e as Q → TsS X dp f e as Q
theorem specL (O : KenOK X N) (n : Nat) : SpecLN X N n := let z := specL0 O n; ⟨z.ev, z.evs, z.ts⟩
end
end Mine

end
section
open PySem PySem.W PyProof.Rows PySem.SeqAt
namespace Mine
section
variable {X : Cx} {N : Ken}
structure SpecX (X : Cx) (T : RecX) : Prop where
  ex : ∀ dp f st as Q, T.ex dp f st as Q → ExS X dp f st as Q
  exs : ∀ dp f ss as Q, T.exs dp f ss as Q → ExsS X dp f ss as Q
section
variable {R : RecL} {T : RecX} {dp : Nat} {f : Fm} {as : List AO} {Q : PF}
theorem tg1W_ok (O : KenOK X N) (ih : SpecL X R) {t : Expr} {v : AV} {Q : Loc → List AO → Prop} (h : tg1W N R dp f t v as Q) : AsS X dp f t v as Q := by
  cases t with
  | Name x p => exact as_name h
  | Subscript o k p => exact as_sub O.pw ((ih.ev _ _ _ _ _ h).mono fun ov as₁ q => ih.ev _ _ _ _ _ q)
  | _ => exact False.elim h
theorem AsS.mono {t : Expr} {v : AV} {Q Q' : Loc → List AO → Prop} (h : AsS X dp f t v as Q) (k : ∀ a b, Q a b → Q' a b) : AsS X dp f t v as Q' := fun A θ s L env post E u R F S V c => h A θ s L env post E u R F S V fun l a θ' s' q => c l a θ' s' (k _ _ q)
theorem tgsW_ok (O : KenOK X N) (ih : SpecL X R) : ∀ {ts : List Expr} {f : Fm} {vs : List AV} {as : List AO} {Q : Loc → List AO → Prop}, tgsW N R dp f ts vs as Q → AsL X dp f ts vs as Q
  | [], _, [], _, _, h => asl_nil h
  | t :: ts, f, v :: vs, as, Q, h => asl_cons ((tg1W_ok O ih h).mono fun l a q => tgsW_ok O ih q)
  | [], _, _ :: _, _, _, h => by cases h
  | _ :: _, _, [], _, _, h => by cases h
theorem asgnTW_ok (O : KenOK X N) (ih : SpecL X R) {ts : List Expr} {e : Expr} {k : Nat} {p pos : Pos} (h : asgnTW N R dp f ts e as Q) : ExS X dp f (.Assign [.Tuple ts k p] e pos) as Q := by
  unfold asgnTW at h
  cases hc : noSwap ts e && noComp e && noStar ts with
  | false => rw [hc] at h; exact h.elim
  | true =>
    rw [hc] at h
    have hc := Bool.and_eq_true_iff.mp hc
    have hd := Bool.and_eq_true_iff.mp hc.1
    refine st_asgT hd.2 hd.1 ((ih.ev _ _ _ _ _ h).mono fun v as₁ q => ?_)
    obtain ⟨j, rfl, q⟩ := onObj_t q
    obtain ⟨o, hj, q⟩ := onSm_t q
    obtain ⟨xs, hx, q⟩ := onSm_t q
    split at q
    · rename_i hl; exact as_tup hc.2 hj hx (Nat.eq_of_beq_eq_true hl) (tgsW_ok O ih q)
    · cases q
theorem st_subA {o k e : Expr} {p pos : Pos} (hn : noComp e = true) (h : EvS X dp f e as fun v as₁ => AsS X dp f (.Subscript o k p) v as₁ (Q .next)) : ExS X dp f (.Assign [.Subscript o k p] e pos) as Q := by
  intro A θ s L env post E R F S c
  rw [exec_Assign_Subscript _ _ _ _ _ (swaps_no hn _ _ _)]
  refine wpAny_bind (wpAny_standAt (wpAny_bind (h A θ s L env _ E R F S fun v as₁ θ₁ s₁ u q S₁ X₁ V₁ => wpAny_bind ?_)))
  exact q A θ₁ s₁ L env _ E u R (F.ext X₁) S₁ V₁ fun loc' as' θ' s' q' S' X' F' => wpAny_pure (c .next loc' as' θ' s' .next q' S' (X₁.toL.trans F.there F.nin (F.ext X₁).there X') F' rfl)
theorem asgnLW_ok (O : KenOK X N) (ih : SpecL X R) {t e : Expr} {pos : Pos} (h : asgnLW N R dp f t e as Q) : ExS X dp f (.Assign [t] e pos) as Q := by
  cases t with
  | Name x p =>
    unfold asgnLW at h
    dsimp only at h
    split at h
    · rename_i hn; exact st_name hn (ih.ev _ _ _ _ _ h)
    · cases h
  | Subscript o k p =>
    unfold asgnLW at h
    dsimp only at h
    split at h
    · rename_i hn; exact st_subA hn ((ih.ev _ _ _ _ _ h).mono fun a as₁ q => tg1W_ok O ih q)
    · cases h
  | Tuple elts k p => exact asgnTW_ok O ih h
  | _ => exact False.elim h
theorem augO_ok {x : Str} {i : Nat} {b : AV} (h : augO f x i b as Q) : ∃ j o1 o2 xs ys, b = .obj j ∧ as[i]? = some o1 ∧ as[j]? = some o2 ∧ listX o1 = some xs ∧ listX o2 = some ys ∧ xs.length + ys.length ≤ 100000 ∧ storeW f x (.obj i) (as.set i (.list (xs ++ ys))) (Q .next) := by
  obtain ⟨j, rfl, h⟩ := onObj_t h
  obtain ⟨o1, e1, h⟩ := onSm_t h
  obtain ⟨o2, e2, h⟩ := onSm_t h
  obtain ⟨xs, l1, h⟩ := onSm_t h
  obtain ⟨ys, l2, h⟩ := onSm_t h
  have h := gN_ok h
  exact ⟨j, o1, o2, xs, ys, rfl, e1, e2, l1, l2, h.1, h.2⟩
theorem augNLW_ok (ih : SpecL X R) {x : Str} {op : Operator} {e : Expr} {px pos : Pos} (h : augNLW R dp f x op e as Q) : ExS X dp f (.AugAssign (.Name x px) op e pos) as Q := by
  unfold augNLW at h
  split at h
  · rename_i hk hm
    split at h
    · rename_i i hv
      refine st_augN hm hk hv ((ih.ev _ _ _ _ _ h).mono fun a as₁ q => ?_)
      split at q
      · obtain ⟨k, e, q⟩ := binW_ok q; exact ⟨_, k, rfl, e, q⟩
      · cases q
    · rename_i i hv
      cases op with
      | Add => exact st_augO hk hv ((ih.ev _ _ _ _ _ h).mono fun a as₁ q => augO_ok q)
      | _ => exact h.elim
    · cases h
  · cases h
theorem loopI_chk {chk : Chk} {bnd : Nat → Loc → List AO → (Loc → List AO → Prop) → Prop} {B : Loc → List AO → PF → Prop} {G : List AO → Prop} (hg : ∀ as P, chk as P → G as ∧ P) {c k : Nat} {loc : Loc} {as : List AO} {Q : PF} (h : loopI chk bnd B c k loc as Q) : G as := by
  cases c with
  | zero => unfold loopI at h; exact (hg _ _ h).1
  | succ c => unfold loopI at h; exact (hg _ _ h).1
theorem forLW_ok (O : KenOK X N) (ih : SpecL X R) (it : SpecX X T) {tg iter : Expr} {body : List Stmt} {pos : Pos} (h : forLW N R T dp f tg iter body as Q) : ExS X dp f (.For tg iter body [] pos) as Q := by
  obtain ⟨hf, z⟩ := itW_ok O ih h
  refine st_forI hf (z.mono fun n bnd G as₁ q => ?_)
  refine El_ea q fun chk hg q => ?_
  refine ⟨fun k loc as₂ => loopI chk (fun k loc as₂ P => bnd { f with loc := loc } k as₂ P) (fun loc as₂ K => T.exs dp { f with loc := loc } body as₂ K) (n - k) k loc as₂ Q,
    fun k loc as₂ => T.exs dp { f with loc := loc } body as₂ fun fl l a => match fl with
      | .next => loopI chk (fun k loc as₂ P => bnd { f with loc := loc } k as₂ P) (fun loc as₂ K => T.exs dp { f with loc := loc } body as₂ K) (n - (k + 1)) (k + 1) l a Q
      | .cont => loopI chk (fun k loc as₂ P => bnd { f with loc := loc } k as₂ P) (fun loc as₂ K => T.exs dp { f with loc := loc } body as₂ K) (n - (k + 1)) (k + 1) l a Q
      | .brk => Q .next l a
      | .ret v => Q (.ret v) l a, q, fun k loc as₂ hI => loopI_chk hg hI, fun k loc as₂ hk hI => ?_, fun k loc as₂ hB => ?_, fun loc as₂ hI => ?_⟩
  · have hI : loopI _ _ _ (n - k) k loc as₂ Q := hI
    rw [show n - k = (n - (k + 1)) + 1 by lia] at hI
    unfold loopI at hI
    exact (hg _ _ hI).2
  · refine (it.exs _ _ _ _ _ hB).mono fun fl l a q => ?_
    cases fl <;> exact q
  · have hI : loopI _ _ _ (n - n) n loc as₂ Q := hI
    rw [Nat.sub_self] at hI
    unfold loopI at hI
    exact (hg _ _ hI).2
theorem lxF_ok (O : KenOK X N) (ih : SpecL X R) (it : SpecX X T) {st : Stmt} (h : lxF N R T dp f st as Q) : ExS X dp f st as Q := by
  cases st with
  | Pass p => exact st_pass h
  | Break p => exact st_brk h
  | Continue p => exact st_cont h
  | Expr e p =>
    unfold lxF at h
    dsimp only at h
    split at h
    · rename_i hn; exact st_expr hn (ih.ev _ _ _ _ _ h)
    · cases h
  | Return v p => cases v with
    | some e => exact st_ret (ih.ev _ _ _ _ _ h)
    | none => exact False.elim h
  | Assign ts e p =>
    unfold lxF at h
    dsimp only at h
    split at h
    · rename_i e1; rw [one_ok e1]; exact asgnLW_ok O ih h
    · cases h
  | AugAssign t op e p => cases t with
    | Name x px => exact augNLW_ok ih h
    | _ => exact False.elim h
  | If t b o p =>
    refine st_if ((ih.ts _ _ _ _ _ h).mono fun c as₁ q => ?_)
    cases c with
    | true => exact it.exs _ _ _ _ _ q
    | false => exact it.exs _ _ _ _ _ q
  | For tg iter body els p => cases els with
    | nil => exact forLW_ok O ih it h
    | cons _ _ => exact False.elim h
  | _ => exact False.elim h
end
theorem specX0 (O : KenOK X N) : ∀ n, SpecX X (recX N n)
  | 0 => ⟨fun _ _ _ _ _ h => False.elim h, fun _ _ _ _ _ h => False.elim h⟩
  | n + 1 => by
    have ih := specL0 O n
    have it := specX0 O n
    refine ⟨fun dp f st as Q h => lxF_ok O ih it h, fun dp f ss as Q h => ?_⟩
    cases ss with
    | nil => exact exs_nil h
    | cons st r =>
      refine exs_cons ((it.ex _ _ _ _ _ h).mono fun fl loc as₁ q => ?_)
      cases fl with
      | next => exact it.exs _ _ _ _ _ q
      | brk => exact q
      | cont => exact q
      | ret v => exact q
structure SpecXN (X : Cx) (N : Ken) (n : Nat) : Prop where
  ex : ∀ dp f st as Q, lx N n dp f st as Q → ExS X dp f st as Q
  exs : ∀ dp f ss as Q, lxs N n dp f ss as Q → ExsS X dp f ss as Q
theorem specX (O : KenOK X N) (n : Nat) : SpecXN X N n := let z := specX0 O n; ⟨z.ex, z.exs⟩
end
end Mine

end
section
open PySem PySem.W PyProof.Rows
namespace Mine
noncomputable section
noncomputable abbrev v_rank : Str := nS [114, 97, 110, 107]
noncomputable abbrev v_script : Str := nS [115, 99, 114, 105, 112, 116]
noncomputable abbrev v_draw : Str := nS [100, 114, 97, 119]
noncomputable abbrev v_values : Str := nS [118, 97, 108, 117, 101, 115]
noncomputable abbrev v_narrow : Str := nS [110, 97, 114, 114, 111, 119]
noncomputable abbrev v_records : Str := nS [114, 101, 99, 111, 114, 100, 115]
noncomputable abbrev v_place : Str := nS [112, 108, 97, 99, 101]
noncomputable abbrev v_low : Str := nS [108, 111, 119]
noncomputable abbrev v_high : Str := nS [104, 105, 103, 104]
noncomputable abbrev v_code : Str := nS [99, 111, 100, 101]
noncomputable abbrev v_memory : Str := nS [109, 101, 109, 111, 114, 121]
noncomputable abbrev v_pointers : Str := nS [112, 111, 105, 110, 116, 101, 114, 115]
noncomputable abbrev v_plain : Str := nS [112, 108, 97, 105, 110]
noncomputable abbrev v_mpu : Str := nS [109, 112, 117]
noncomputable abbrev v_end : Str := nS [101, 110, 100]
noncomputable abbrev v_count : Str := nS [99, 111, 117, 110, 116]
noncomputable abbrev v_ordered : Str := nS [111, 114, 100, 101, 114, 101, 100]
noncomputable abbrev v_bubble : Str := nS [98, 117, 98, 98, 108, 101]
noncomputable abbrev v_words : Str := nS [119, 111, 114, 100, 115]
noncomputable abbrev v_signed : Str := nS [115, 105, 103, 110, 101, 100]
noncomputable abbrev v_falling : Str := nS [102, 97, 108, 108, 105, 110, 103]
noncomputable abbrev v_record : Str := nS [114, 101, 99, 111, 114, 100]
noncomputable abbrev v_number : Str := nS [110, 117, 109, 98, 101, 114]
noncomputable abbrev v_top : Str := nS [116, 111, 112]
noncomputable def stepP : Prim := fun vs as Q => ∃ i d q m m', vs = [.obj i] ∧ as[i]? = some (.inst 1428 d) ∧ as[d]? = some (.dict (esL m q)) ∧ as[q]? = some (.ints m.mem) ∧ (Mine.flat m.ad ∧ Mine.flat m.st ∧ Mine.flat m'.ad ∧ Mine.flat m'.st) ∧ Stp m m' ∧ Q (.obj i) ((as.set d (.dict (esL m' q))).set q (.ints m'.mem))
noncomputable def defAt (i : Nat) : DefRec := match TP.main.body[i]? with
  | some (.FunctionDef n a b _ _ _ sc _ _ pos) => ⟨n, a, b, sc, pos⟩
  | _ => ⟨⟨#[]⟩, ⟨[], [], none, [], [], none, []⟩, [], TP.main.scope, default⟩
noncomputable abbrev wideD : DefRec := defAt 4
noncomputable abbrev asmD : DefRec := defAt 5
noncomputable abbrev braD : DefRec := defAt 6
noncomputable abbrev insD : DefRec := defAt 7
noncomputable abbrev bubD : DefRec := defAt 8
noncomputable def aNames : List (Str × AV) := [(nS [108, 101, 110], .bi "len"), (nS [105, 115, 105, 110, 115, 116, 97, 110, 99, 101], .bi "isinstance"), (nS [115, 116, 114], .ty "str")]
noncomputable def kA (p : Program) (w : World) : Ken := ⟨mD, fun _ => none, lk aNames, none, some (p, w)⟩
noncomputable def dFm (d : DefRec) (cd : Value) (vs : List AV) : Fm := ⟨d.scope, ((d.params.args.map (·.arg)).zip vs).reverse, [], cd, d.name ++ ".<locals>."⟩
noncomputable def defK (K : Program → World → Ken) (d : DefRec) (dp : Nat) : Prim := fun vs as Q => vs.length = d.params.args.length ∧ ∀ p w cd, lxs (K p w) 300 dp (dFm d cd vs) d.body as fun fl _ as' => match fl with | .ret v => Q v as' | .next => Q .none as' | _ => False
noncomputable abbrev defP (d : DefRec) : Prim := defK kA d 1
noncomputable abbrev nWide : Str := nS [95, 108, 97, 119, 95, 119, 105, 100, 101]
noncomputable abbrev nBra : Str := nS [95, 108, 97, 119, 95, 98, 114, 97, 110, 99, 104]
noncomputable def bP : Prims := fun a => match Nat.beq a 1439 with
  | true => some (2, defP wideD)
  | false => match Nat.beq a 1453 with
    | true => some (2, defP braD)
    | false => none
noncomputable def bNames : List (Str × AV) := aNames ++ [(nWide, .addr 1439), (nBra, .addr 1453)]
noncomputable def kB (p : Program) (w : World) : Ken := ⟨mD, bP, lk bNames, none, some (p, w)⟩
noncomputable def lP : Prims := fun a => match Nat.beq a 85 with
  | true => some (5, wrapP)
  | false => match Nat.beq a 43 with
    | true => some (12, stepP)
    | false => match Nat.beq a 1446 with
      | true => some (2, defP asmD)
      | false => match Nat.beq a 1460 with
        | true => some (5, defK kB insD 4)
        | false => match Nat.beq a 1467 with
          | true => some (5, defK kB bubD 4)
          | false => none
noncomputable def dI : FD := (fdOf 15 36 clsB[15]?).getD dW
noncomputable def biNames : List (Str × AV) := [(nS [108, 101, 110], .bi "len"), (nS [114, 97, 110, 103, 101], .ty "range"), (nS [101, 110, 117, 109, 101, 114, 97, 116, 101], .ty "enumerate"), (nS [115, 117, 109], .bi "sum"), (nS [115, 111, 114, 116, 101, 100], .bi "sorted"), (nS [109, 97, 120], .bi "max"), (nS [109, 105, 110], .bi "min")]
noncomputable def ownNames : List (Str × AV) := [(nS [77, 80, 85], .addr 1428), (nS [95, 108, 97, 119, 95, 97, 115, 115, 101, 109, 98, 108, 101], .addr 1446), (nS [95, 108, 97, 119, 95, 105, 110, 115, 101, 114, 116, 105, 111, 110], .addr 1460), (nS [95, 108, 97, 119, 95, 98, 117, 98, 98, 108, 101], .addr 1467)]
noncomputable def nMem : Str := nS [109, 101, 109, 111, 114, 121]
noncomputable def nPc : Str := nS [112, 99]
noncomputable def kN : Ken := ⟨mD, lP, lk (biNames ++ ownNames), some (1428, 36, dI, nMem, nPc), none⟩
noncomputable def lF (cd : Value) : FD := ⟨lawD.params.args.map (·.arg), lawD.body, lawD.scope, cd, lawD.name ++ ".<locals>."⟩
noncomputable def stL (i : Nat) : Stmt := match lawD.body[i]? with | some s => s | none => .Pass default
noncomputable def stG (i j : Nat) : List Stmt := (lawD.body.drop i).take (j - i)
noncomputable abbrev lCells : List (Str × Nat) := [(v_words, 1), (v_signed, 2), (v_falling, 3)]
noncomputable abbrev F0 (cd : Value) (loc : Loc) : Fm := ⟨lawD.scope, loc, lCells, cd, (lF cd).qual⟩
noncomputable def lsc : Loc := [(v_script, .obj 0)]
theorem l_fm (cd : Value) : cellFm (lF cd) [.obj 0] 1 = F0 cd lsc := by kernel_rfl
theorem l_as (cd : Value) : cellAs (lF cd) [.obj 0] = [.cell none, .cell none, .cell none] := by kernel_rfl
end
end Mine

end
section
open PySem PySem.W PyProof.Rows
namespace Mine
noncomputable section
noncomputable def mAX0 : Mode := fun m j K => wordW m m.pc fun w => K (Builtin.bitAnd (w + m.x) 65535) m j
noncomputable def mAX1 : Mode := fun m j K => wordW m m.pc fun w =>
  ifB (Builtin.bitAnd w 65280 != Builtin.bitAnd (Builtin.bitAnd (w + m.x) 65535) 65280) (K (Builtin.bitAnd (w + m.x) 65535) { m with ex := m.ex + 1 } j) (K (Builtin.bitAnd (w + m.x) 65535) m j)
noncomputable def oSTY (o : Mode) (m : MS) (j : JJ) (K : KM) : Prop := o m j fun a m j => wrW m a m.y fun m => K m j
noncomputable def oEOR (o : Mode) (m : MS) (j : JJ) (K : KM) : Prop := o m j fun a m j => rdW m.mem a fun v => flags { m with a := Builtin.bitXor m.a v } (Builtin.bitXor m.a v) fun m => K m j
noncomputable def cmpN (m : MS) (r v : Int) (K : MS → Prop) : Prop := K { m with p := Builtin.bitOr m.p (Builtin.bitAnd (r - v) 128) }
noncomputable def cmpT (m : MS) (r v : Int) (K : MS → Prop) : Prop := ifB (r == v) (cmpN { m with p := Builtin.bitOr (Builtin.bitAnd m.p (Builtin.bitNot (Builtin.bitOr (Builtin.bitOr 1 2) 128))) (Builtin.bitOr 1 2) } r v K)
  (ifB (decide (v < r)) (cmpN { m with p := Builtin.bitOr (Builtin.bitAnd m.p (Builtin.bitNot (Builtin.bitOr (Builtin.bitOr 1 2) 128))) 1 } r v K) (cmpN { m with p := Builtin.bitAnd m.p (Builtin.bitNot (Builtin.bitOr (Builtin.bitOr 1 2) 128)) } r v K))
noncomputable def oCMP (o : Mode) (r : Int) (m : MS) (j : JJ) (K : KM) : Prop := o m j fun a m j => rdW m.mem a fun v => cmpT m r v fun m => K m j
theorem o_a2 (m : MS) (Q : PV) : stp 0xa2 m Q = frm 0xa2 (oLDX mPC (pre m 0) [.meth 92 0] (inc 1 (fin 0xa2 2 Q))) := by kernel_rfl
theorem o_ca (m : MS) (Q : PV) : stp 0xca m Q = frm 0xca (flags { pre m 0 with x := Builtin.bitAnd (m.x - 1) 255 } (Builtin.bitAnd (m.x - 1) 255) fun m => fin 0xca 2 Q m []) := by kernel_rfl
theorem o_88 (m : MS) (Q : PV) : stp 0x88 m Q = frm 0x88 (flags { pre m 0 with y := Builtin.bitAnd (m.y - 1) 255 } (Builtin.bitAnd (m.y - 1) 255) fun m => fin 0x88 2 Q m []) := by kernel_rfl
theorem o_e8 (m : MS) (Q : PV) : stp 0xe8 m Q = frm 0xe8 (flags { pre m 0 with x := Builtin.bitAnd (m.x + 1) 255 } (Builtin.bitAnd (m.x + 1) 255) fun m => fin 0xe8 2 Q m []) := by kernel_rfl
theorem o_98 (m : MS) (Q : PV) : stp 0x98 m Q = frm 0x98 (flags { pre m 0 with a := m.y } m.y fun m => fin 0x98 2 Q m []) := by kernel_rfl
theorem o_90 (m : MS) (Q : PV) : stp 0x90 m Q = frm 0x90 (ifB (Builtin.bitAnd m.p 1 != 0) (inc 1 (fin 0x90 2 Q) (pre m 2) []) (brW (pre m 2) fun m => fin 0x90 2 Q m [])) := by kernel_rfl
theorem o_f0 (m : MS) (Q : PV) : stp 0xf0 m Q = frm 0xf0 (ifB (Builtin.bitAnd m.p 2 != 0) (brW (pre m 2) fun m => fin 0xf0 2 Q m []) (inc 1 (fin 0xf0 2 Q) (pre m 2) [])) := by kernel_rfl
theorem o_50 (m : MS) (Q : PV) : stp 0x50 m Q = frm 0x50 (ifB (Builtin.bitAnd m.p 64 != 0) (inc 1 (fin 0x50 2 Q) (pre m 2) []) (brW (pre m 2) fun m => fin 0x50 2 Q m [])) := by kernel_rfl
theorem o_10 (m : MS) (Q : PV) : stp 0x10 m Q = frm 0x10 (ifB (Builtin.bitAnd m.p 128 != 0) (inc 1 (fin 0x10 2 Q) (pre m 2) []) (brW (pre m 2) fun m => fin 0x10 2 Q m [])) := by kernel_rfl
theorem o_bd (m : MS) (Q : PV) : stp 0xbd m Q = frm 0xbd (oLDA mAX1 (pre m 1) [.meth 148 0] (inc 2 (fin 0xbd 4 Q))) := by kernel_rfl
theorem o_a4 (m : MS) (Q : PV) : stp 0xa4 m Q = frm 0xa4 (oLDY mZP (pre m 0) [.meth 106 0] (inc 1 (fin 0xa4 3 Q))) := by kernel_rfl
theorem o_bc (m : MS) (Q : PV) : stp 0xbc m Q = frm 0xbc (oLDY mAX1 (pre m 1) [.meth 148 0] (inc 2 (fin 0xbc 4 Q))) := by kernel_rfl
theorem o_84 (m : MS) (Q : PV) : stp 0x84 m Q = frm 0x84 (oSTY mZP (pre m 0) [.meth 106 0] (inc 1 (fin 0x84 3 Q))) := by kernel_rfl
theorem o_9d (m : MS) (Q : PV) : stp 0x9d m Q = frm 0x9d (oSTA mAX0 (pre m 0) [.meth 148 0] (inc 2 (fin 0x9d 5 Q))) := by kernel_rfl
theorem o_49 (m : MS) (Q : PV) : stp 0x49 m Q = frm 0x49 (oEOR mPC (pre m 0) [.meth 92 0] (inc 1 (fin 0x49 2 Q))) := by kernel_rfl
theorem o_c5 (m : MS) (Q : PV) : stp 0xc5 m Q = frm 0xc5 (oCMP mZP m.a (pre m 0) [.meth 106 0] (inc 1 (fin 0xc5 3 Q))) := by kernel_rfl
theorem o_d1 (m : MS) (Q : PV) : stp 0xd1 m Q = frm 0xd1 (oCMP mIY1 m.a (pre m 1) [.meth 134 0] (inc 1 (fin 0xd1 5 Q))) := by kernel_rfl
theorem o_dd (m : MS) (Q : PV) : stp 0xdd m Q = frm 0xdd (oCMP mAX1 m.a (pre m 1) [.meth 148 0] (inc 2 (fin 0xdd 4 Q))) := by kernel_rfl
theorem o_c0 (m : MS) (Q : PV) : stp 0xc0 m Q = frm 0xc0 (oCMP mPC m.y (pre m 0) [.meth 92 0] (inc 1 (fin 0xc0 2 Q))) := by kernel_rfl
theorem o_e4 (m : MS) (Q : PV) : stp 0xe4 m Q = frm 0xe4 (oCMP mZP m.x (pre m 0) [.meth 106 0] (inc 1 (fin 0xe4 3 Q))) := by kernel_rfl
theorem o_e5 (m : MS) (Q : PV) (n v z c : Bool) : stp 0xe5 { m with p := pOf n v z c } Q = frm 0xe5 (oSBC mZP (pre { m with p := pOf n v z c } 0) [.meth 106 0] (inc 1 (fin 0xe5 3 Q))) := by
  cases n <;> cases v <;> cases z <;> cases c <;> kernel_rfl
theorem o_fd (m : MS) (Q : PV) (n v z c : Bool) : stp 0xfd { m with p := pOf n v z c } Q = frm 0xfd (oSBC mAX1 (pre { m with p := pOf n v z c } 1) [.meth 148 0] (inc 2 (fin 0xfd 4 Q))) := by
  cases n <;> cases v <;> cases z <;> cases c <;> kernel_rfl
end
end Mine
end
section
open PySem PySem.W PyProof.Rows
namespace Mine
structure Co where
  (a x y sp pc : Nat)
  (n v z c : Bool)
  (m : Nat → Nat)
noncomputable def up (m : Nat → Nat) (k v : Nat) : Nat → Nat := fun i => if i = k then v else m i
noncomputable def memL (N : Nat) (m : Nat → Nat) : List Int := (List.range N).map fun i => (m i : Int)
structure Ee where
  (ex cyc : Int)
  (ad st : AV)
noncomputable def FE (e : Ee) : Prop := Mine.flat e.ad ∧ Mine.flat e.st
noncomputable section
noncomputable def ms (N : Nat) (c : Co) (e : Ee) : MS := ⟨c.a, c.x, c.y, pOf c.n c.v c.z c.c, c.pc, c.sp, e.ex, e.cyc, e.ad, e.st, memL N c.m⟩
structure WF (L : List Nat) (N : Nat) (c : Co) : Prop where
  a : c.a < 256
  x : c.x < 256
  y : c.y < 256
  sp : c.sp < 256
  m : ∀ i, c.m i < 256
  fit : ∀ i b, L[i]? = some b → c.m (512 + i) = b
  len : 512 + L.length ≤ N
  big : N ≤ 50000
  pc : c.pc ≤ 60000
theorem memL_len (N : Nat) (m : Nat → Nat) : (memL N m).length = N := by unfold memL; simp
theorem memL_get {N : Nat} {m : Nat → Nat} {a : Nat} (h : a < N) : (memL N m).getD a 0 = m a := by
  unfold memL
  rw [List.getD_eq_getElem?_getD, List.getElem?_map, List.getElem?_range h]; rfl
theorem memL_set {N : Nat} {m : Nat → Nat} {a v : Nat} (h : a < N) : (memL N m).set a (v : Int) = memL N (up m a v) := by
  unfold memL up
  refine List.ext_getElem? fun i => ?_
  rw [List.getElem?_set]
  by_cases hi : i < N
  · rw [List.getElem?_map, List.getElem?_map, List.getElem?_range hi]
    by_cases q : a = i
    · subst q; simp [hi]
    · simp [q, Ne.symm q]
  · have h1 : (List.range N)[i]? = none := List.getElem?_eq_none (by simp; exact Nat.le_of_not_lt hi)
    rw [List.getElem?_map, List.getElem?_map, h1, if_neg (by lia)]; rfl
theorem rd_ok {N : Nat} {m : Nat → Nat} {a : Nat} {i : Int} {K : Int → Prop} (e : i = a) (h : a < N) (hb : N ≤ 50000) (k : K (m a)) : rdW (memL N m) i K := by
  subst e
  refine ⟨⟨by lia, by rw [memL_len]; lia, by lia⟩, ?_⟩
  rw [Int.toNat_natCast, memL_get h]; exact k
theorem wr_ok {N : Nat} {c : Co} {e : Ee} {a v : Nat} {i u : Int} {K : MS → Prop} (ei : i = a) (eu : u = v) (h : a < N) (hb : N ≤ 50000) (k : K (ms N { c with m := up c.m a v } e)) : wrW (ms N c e) i u K := by
  subst ei eu
  refine ⟨⟨by lia, by show _ < ((memL N c.m).length : Int); rw [memL_len]; lia, by lia⟩, ?_⟩
  show K { ms N c e with mem := (memL N c.m).set (a : Int).toNat v }
  rw [Int.toNat_natCast, memL_set h]; exact k
theorem WF.put {L : List Nat} {N : Nat} {c : Co} (W : WF L N c) {a v : Nat} (hs : a < 512 ∨ 512 + L.length ≤ a) (hv : v < 256) : WF L N { c with m := Mine.up c.m a v } :=
  ⟨W.a, W.x, W.y, W.sp, fun i => by show Mine.up c.m a v i < 256; unfold Mine.up; split; exact hv; exact W.m i, fun i b h => by
    show Mine.up c.m a v (512 + i) = b
    unfold Mine.up
    have := (List.getElem?_eq_some_iff.mp h).1
    rw [if_neg (by lia)]; exact W.fit i b h, W.len, W.big, W.pc⟩
theorem b_255 (x : Int) : Builtin.bitAnd x 255 = x % 256 := bitAnd_m8 x
theorem b_65535 (x : Int) : Builtin.bitAnd x 65535 = x % 65536 := bitAnd_m16 x
theorem b_128n : ∀ t < 256, (t &&& 128 : Nat) = if 128 ≤ t then 128 else 0 := by decide +kernel
theorem b_128 {t : Nat} (h : t < 256) : Builtin.bitAnd (t : Int) 128 = if 128 ≤ t then 128 else 0 := by
  rw [bitAnd_pp (by lia) (by decide)]
  show ((t &&& 128 : Nat) : Int) = _
  rw [b_128n t h]; split <;> rfl
theorem b_65280n {t : Nat} (h : t < 256) : Builtin.bitAnd (t : Int) 65280 = 0 := by
  rw [bitAnd_pp (by lia) (by decide)]
  show ((t &&& 65280 : Nat) : Int) = 0
  have : t &&& 65280 = 0 := by
    have : ∀ t < 256, (t &&& 65280 : Nat) = 0 := by decide +kernel
    exact this t h
  rw [this]; rfl
theorem p_nz (n v z c : Bool) : Builtin.bitAnd (pOf n v z c) (Builtin.bitNot (Builtin.bitOr 2 128)) = pOf false v false c := by cases n <;> cases v <;> cases z <;> cases c <;> rfl
theorem p_z (n v z c : Bool) : Builtin.bitOr (pOf n v z c) 2 = pOf n v true c := by cases n <;> cases v <;> cases z <;> cases c <;> rfl
theorem p_128 (n v z c : Bool) : Builtin.bitOr (pOf n v z c) 128 = pOf true v z c := by cases n <;> cases v <;> cases z <;> cases c <;> rfl
theorem p_64 (n v z c : Bool) : Builtin.bitOr (pOf n v z c) 64 = pOf n true z c := by cases n <;> cases v <;> cases z <;> cases c <;> rfl
theorem p_1 (n v z c : Bool) : Builtin.bitOr (pOf n v z c) 1 = pOf n v z true := by cases n <;> cases v <;> cases z <;> cases c <;> rfl
theorem p_3 (n v z c : Bool) : Builtin.bitOr (pOf n v z c) (Builtin.bitOr 1 2) = pOf n v true true := by cases n <;> cases v <;> cases z <;> cases c <;> rfl
theorem p_0 (n v z c : Bool) : Builtin.bitOr (pOf n v z c) 0 = pOf n v z c := by cases n <;> cases v <;> cases z <;> cases c <;> rfl
theorem p_cn (n v z c : Bool) : Builtin.bitAnd (pOf n v z c) (Builtin.bitNot (Builtin.bitOr (Builtin.bitOr 1 2) 128)) = pOf false v false false := by cases n <;> cases v <;> cases z <;> cases c <;> rfl
theorem p_sb (n v z c : Bool) : Builtin.bitAnd (pOf n v z c) (Builtin.bitNot (Builtin.bitOr (Builtin.bitOr (Builtin.bitOr 1 2) 64) 128)) = pOf false false false false := by cases n <;> cases v <;> cases z <;> cases c <;> rfl
theorem g_1 (n v z c : Bool) : (Builtin.bitAnd (pOf n v z c) 1 != 0) = c := by cases n <;> cases v <;> cases z <;> cases c <;> rfl
theorem g_1v (n v z c : Bool) : Builtin.bitAnd (pOf n v z c) 1 = (c.toNat : Int) := by cases n <;> cases v <;> cases z <;> cases c <;> rfl
theorem g_2 (n v z c : Bool) : (Builtin.bitAnd (pOf n v z c) 2 != 0) = z := by cases n <;> cases v <;> cases z <;> cases c <;> rfl
theorem g_64 (n v z c : Bool) : (Builtin.bitAnd (pOf n v z c) 64 != 0) = v := by cases n <;> cases v <;> cases z <;> cases c <;> rfl
theorem g_128 (n v z c : Bool) : (Builtin.bitAnd (pOf n v z c) 128 != 0) = n := by cases n <;> cases v <;> cases z <;> cases c <;> rfl
theorem p_or128 {t : Nat} (h : t < 256) (v z c : Bool) : Builtin.bitOr (pOf false v z c) (Builtin.bitAnd (t : Int) 128) = pOf (decide (128 ≤ t)) v z c := by
  rw [b_128 h]
  by_cases q : 128 ≤ t
  · rw [if_pos q, p_128, decide_eq_true q]
  · rw [if_neg q, p_0, decide_eq_false q]
theorem flags_ok {N : Nat} {c : Co} {e : Ee} {t : Nat} {i : Int} {K : MS → Prop} (ei : i = t) (h : t < 256) (k : K (ms N { c with n := decide (128 ≤ t), z := decide (t = 0) } e)) : flags (ms N c e) i K := by
  subst ei
  unfold flags
  have hp : (ms N c e).p = pOf c.n c.v c.z c.c := rfl
  rw [hp, p_nz, p_or128 h, p_z]
  by_cases q : t = 0
  · subst q; exact k
  · have : ((t : Int) == 0) = false := by simp; exact q
    rw [this]
    rw [decide_eq_false q] at k
    exact k

noncomputable def fe (L : List Nat) (i : Nat) (K : Nat → Prop) : Prop := match Nat.ble 512 i with
  | true => (match L[i - 512]? with | some b => K b | none => False)
  | false => False
theorem fe_ok {L : List Nat} {N : Nat} {c : Co} (W : WF L N c) {i : Nat} {K : Nat → Prop} (h : fe L i K) : 512 ≤ i ∧ i < N ∧ K (c.m i) := by
  unfold fe at h
  split at h
  · rename_i q
    have q := Nat.le_of_ble_eq_true q
    split at h
    · rename_i b e
      have l := (List.getElem?_eq_some_iff.mp e).1
      have f := W.fit _ _ e
      rw [show 512 + (i - 512) = i by exact Nat.add_sub_of_le q] at f
      rw [f]
      exact ⟨q, by have := W.len; omega, h⟩
    · cases h
  · cases h
noncomputable def Go (L : List Nat) (N : Nat) (K : Co → Prop) (c : Co) (F : KM → Prop) : Prop := ∃ c' e', K c' ∧ WF L N c' ∧ c'.pc = c.pc ∧ FE e' ∧ ∀ Km : KM, (∀ j, Km (ms N c' e') j) → F Km
noncomputable abbrev RM := Co → (Nat → Prop) → Prop
noncomputable def RMok (L : List Nat) (N : Nat) (r : RM) (o : Mode) : Prop := ∀ c e (P : Nat → Prop), WF L N c → FE e → r c P → ∃ a e', a < N ∧ FE e' ∧ P (c.m a) ∧ ∀ j (Km : Int → MS → JJ → Prop), (∀ j', Km a (ms N c e') j') → o (ms N c e) j Km
noncomputable def AMok (L : List Nat) (N : Nat) (r : RM) (o : Mode) : Prop := ∀ c e (P : Nat → Prop), WF L N c → FE e → r c P → ∃ a e', a < N ∧ (a < 512 ∨ 512 + L.length ≤ a) ∧ FE e' ∧ P a ∧ ∀ j (Km : Int → MS → JJ → Prop), (∀ j', Km a (ms N c e') j') → o (ms N c e) j Km
noncomputable def rPC (L : List Nat) : RM := fun c P => fe L c.pc P
noncomputable def aZP (L : List Nat) : RM := fun c P => fe L c.pc P
noncomputable def aIY (L : List Nat) (N : Nat) : RM := fun c P => fe L c.pc fun z => (c.m z + 256 * c.m ((z + 1) % 256) + c.y < N) ∧ P (c.m z + 256 * c.m ((z + 1) % 256) + c.y)
noncomputable def aAX (L : List Nat) (N : Nat) : RM := fun c P => fe L c.pc fun l => fe L (c.pc + 1) fun h => (l + 256 * h + c.x < N) ∧ P (l + 256 * h + c.x)
noncomputable def rd (a : RM) : RM := fun c P => a c fun i => P (c.m i)
noncomputable def wr (L : List Nat) (a : RM) : RM := fun c P => a c fun i => (i < 512 ∨ 512 + L.length ≤ i) ∧ P i
section
variable {L : List Nat} {N : Nat}
theorem WF.n512 {c : Co} (W : WF L N c) : 512 ≤ N := by have := W.len; exact Nat.le_of_add_right_le this
theorem PC_ok : RMok L N (rPC L) mPC := fun c e P W f h => by
  refine El_aa (fe_ok W h) fun h1 h2 h3 => ?_
  exact ⟨c.pc, e, h2, f, h3, fun j Km k => k j⟩
theorem ZP_a : AMok L N (aZP L) mZP := fun c e P W f h => by
  refine El_aa (fe_ok W h) fun h1 h2 h3 => ?_
  have := W.m c.pc
  have := W.n512
  exact ⟨c.m c.pc, e, by (clear h1; lia), .inl (by lia), f, h3, fun j Km k => rd_ok rfl h2 W.big (k j)⟩
theorem ZP_ok : RMok L N (rd (aZP L)) mZP := fun c e P W f h => by
  refine El_eeaaaa (ZP_a c e _ W f h) fun a e' h1 _ h2 h3 h4 => ?_
  exact ⟨a, e', h1, h2, h3, h4⟩
theorem shl_ok {u : Nat} (hu : u < 256) {K : Int → Prop} (k : K ((256 * u : Nat) : Int)) : shl u K := by
  refine ⟨⟨by decide, by decide, ?_⟩, ?_⟩
  · have : (u : Int).natAbs = u := by simp
    rw [this]; lia
  · rw [show (u : Int) * 2 ^ (8 : Int).toNat = ((256 * u : Nat) : Int) by
      rw [show (2 : Int) ^ (8 : Int).toNat = 256 by rfl]; lia]
    exact k
theorem word_ok {c : Co} {e : Ee} {K : Int → Prop} (W : WF L N c) {a : Nat} {i : Int} (ei : i = a) (ha : a + 1 < N) (k : K ((c.m a + 256 * c.m (a + 1) : Nat) : Int)) : wordW (ms N c e) i K := by
  subst ei
  unfold wordW
  refine rd_ok rfl (by exact Nat.lt_of_succ_lt ha) W.big (rd_ok (a := a + 1) (by exact Int.ofNat_add_one_out a) ha W.big (shl_ok (W.m _) ?_))
  rw [show (c.m a : Int) + ((256 * c.m (a + 1) : Nat) : Int) = ((c.m a + 256 * c.m (a + 1) : Nat) : Int) by exact Int.ofNat_add_ofNat (c.m a) (256 * c.m (a + 1))]
  exact k
theorem wrap_bit {z : Nat} (h : z < 256) : Builtin.bitAnd (z : Int) 65280 + Builtin.bitAnd ((z : Int) + 1) 255 = (((z + 1) % 256 : Nat) : Int) := by
  rw [b_65280n h, b_255]; exact Int.zero_add ((↑z + 1) % 256)
theorem wrapW_ok {c : Co} {e : Ee} {j : JJ} {K : Int → JJ → Prop} (W : WF L N c) {z : Nat} (hz : z < 256) (k : ∀ j, K ((c.m z + 256 * c.m ((z + 1) % 256) : Nat) : Int) j) : wrapW (ms N c e) j z K := by
  unfold wrapW
  have := W.n512
  refine rd_ok rfl (by lia) W.big (rd_ok (a := (z + 1) % 256) (wrap_bit hz) (by (clear hz; lia)) W.big (shl_ok (W.m _) ?_))
  rw [show (c.m z : Int) + ((256 * c.m ((z + 1) % 256) : Nat) : Int) = ((c.m z + 256 * c.m ((z + 1) % 256) : Nat) : Int) by exact Int.ofNat_add_ofNat (c.m z) (256 * c.m ((z + 1) % 256))]
  exact k _
theorem at16 {w k : Nat} (h : w + k < 50000) : Builtin.bitAnd ((w : Int) + (k : Int)) 65535 = ((w + k : Nat) : Int) := by rw [b_65535]; lia
theorem ifB_e {b : Bool} {K : Ee → Prop} {e1 e2 : Ee} (h : K (cond b e1 e2)) : ifB b (K e1) (K e2) := by cases b; exact h; exact h
theorem FE_cond {b : Bool} {e : Ee} (f : FE e) : FE (cond b { e with ex := e.ex + 1 } e) := by cases b; exact f; exact f
theorem IY1_ok : RMok L N (rd (aIY L N)) mIY1 := fun c e P W f h => by
  refine El_aaa (fe_ok W h) fun h1 h2 h3 h4 => ?_
  refine ⟨_, cond (Builtin.bitAnd ((c.m (c.m c.pc) + 256 * c.m ((c.m c.pc + 1) % 256) : Nat) : Int) 65280 != Builtin.bitAnd ((c.m (c.m c.pc) + 256 * c.m ((c.m c.pc + 1) % 256) + c.y : Nat) : Int) 65280) { e with ex := e.ex + 1 } e, h3, FE_cond f, h4, fun j Km k => rd_ok rfl h2 W.big (wrapW_ok W (W.m _) fun j => ?_)⟩
  have := W.big
  rw [show Builtin.bitAnd ((((c.m (c.m c.pc) + 256 * c.m ((c.m c.pc + 1) % 256)) : Nat) : Int) + (ms N c e).y) 65535 = _ from at16 (k := c.y) (by exact Nat.lt_of_lt_of_le h3 this)]
  exact ifB_e (K := fun e => Km _ (ms N c e) j) (k j)
theorem IY0_a : AMok L N (wr L (aIY L N)) mIY0 := fun c e P W f h => by
  refine El_aaaa (fe_ok W h) fun h1 h2 h3 h5 h4 => ?_
  refine ⟨_, e, h3, h5, f, h4, fun j Km k => rd_ok rfl h2 W.big (wrapW_ok W (W.m _) fun j => ?_)⟩
  have := W.big
  rw [show Builtin.bitAnd ((((c.m (c.m c.pc) + 256 * c.m ((c.m c.pc + 1) % 256)) : Nat) : Int) + (ms N c e).y) 65535 = _ from at16 (k := c.y) (by lia)]
  exact k _
theorem AX1_ok : RMok L N (rd (aAX L N)) mAX1 := fun c e P W f h => by
  refine El_aa (fe_ok W h) fun h1 h2 h => ?_
  refine El_aaa (fe_ok W h) fun h5 h6 h3 h4 => ?_
  refine ⟨_, cond (Builtin.bitAnd ((c.m c.pc + 256 * c.m (c.pc + 1) : Nat) : Int) 65280 != Builtin.bitAnd ((c.m c.pc + 256 * c.m (c.pc + 1) + c.x : Nat) : Int) 65280) { e with ex := e.ex + 1 } e, h3, FE_cond f, h4, fun j Km k => word_ok W rfl h6 ?_⟩
  have := W.big
  rw [show Builtin.bitAnd ((((c.m c.pc + 256 * c.m (c.pc + 1)) : Nat) : Int) + (ms N c e).x) 65535 = _ from at16 (k := c.x) (by exact Nat.lt_of_lt_of_le h3 this)]
  exact ifB_e (K := fun e => Km _ (ms N c e) j) (k j)
theorem AX0_a : AMok L N (wr L (aAX L N)) mAX0 := fun c e P W f h => by
  refine El_aa (fe_ok W h) fun h1 h2 h => ?_
  refine El_aaaa (fe_ok W h) fun h5 h6 h3 h7 h4 => ?_
  refine ⟨_, e, h3, h7, f, h4, fun j Km k => word_ok W rfl h6 ?_⟩
  have := W.big
  rw [show Builtin.bitAnd ((((c.m c.pc + 256 * c.m (c.pc + 1)) : Nat) : Int) + (ms N c e).x) 65535 = _ from at16 (k := c.x) (by lia)]
  exact k _
end
end
end Mine

end
section
open PySem PySem.W PyProof.Rows
namespace Mine
noncomputable section
theorem nat_xor_and (m : Nat) : ∀ n : Nat, (m ^^^ n) + 2 * (m &&& n) = m + n := by
  induction m using Nat.strongRecOn with
  | ind m ih =>
    intro n
    by_cases h0 : m = 0
    · subst h0; simp
    · have ih' := ih (m / 2) (by exact Nat.bitwise_rec_lemma h0) (n / 2)
      rw [← Nat.xor_div_two, ← Nat.and_div_two] at ih'
      have o1 := @Nat.xor_mod_two_eq_one m n
      have a1 := @Nat.and_mod_two_eq_one m n
      lia
theorem b_and (a b : Nat) : Builtin.bitAnd (a : Int) (b : Int) = ((a &&& b : Nat) : Int) := by
  rw [bitAnd_pp (by exact Int.natCast_nonneg a) (by lia)]; simp
theorem b_xor (a b : Nat) : Builtin.bitXor (a : Int) (b : Int) = ((a ^^^ b : Nat) : Int) := by
  rw [bitXor_and, b_and]
  have := nat_xor_and a b
  lia
section
variable {L : List Nat} {N : Nat} {c : Co} {e : Ee} {K : Co → Prop} {r : RM} {o : Mode}
noncomputable def qLDA (r : RM) (c : Co) (K : Co → Prop) : Prop := r c fun v => K { c with a := v, n := decide (128 ≤ v), z := decide (v = 0) }
noncomputable def qLDX (r : RM) (c : Co) (K : Co → Prop) : Prop := r c fun v => K { c with x := v, n := decide (128 ≤ v), z := decide (v = 0) }
noncomputable def qLDY (r : RM) (c : Co) (K : Co → Prop) : Prop := r c fun v => K { c with y := v, n := decide (128 ≤ v), z := decide (v = 0) }
noncomputable def qEOR (r : RM) (c : Co) (K : Co → Prop) : Prop := r c fun v => K { c with a := c.a ^^^ v, n := decide (128 ≤ c.a ^^^ v), z := decide (c.a ^^^ v = 0) }
noncomputable def qSTA (r : RM) (c : Co) (K : Co → Prop) : Prop := r c fun i => K { c with m := up c.m i c.a }
noncomputable def qSTX (r : RM) (c : Co) (K : Co → Prop) : Prop := r c fun i => K { c with m := up c.m i c.x }
noncomputable def qSTY (r : RM) (c : Co) (K : Co → Prop) : Prop := r c fun i => K { c with m := up c.m i c.y }
noncomputable def qCMP (r : RM) (R : Nat) (c : Co) (K : Co → Prop) : Prop := r c fun v => K { c with n := decide (128 ≤ (R + 256 - v) % 256), z := decide (R = v), c := decide (v ≤ R) }
theorem LDA_ok (h : RMok L N r o) (W : WF L N c) (f : FE e) (q : qLDA r c K) (j : JJ) : Go L N K c fun Km => oLDA o (ms N c e) j Km := by
  refine El_eeaaa (h c e _ W f q) fun a e' h1 h2 h3 h4 => ?_
  exact ⟨_, e', h3, ⟨W.m _, W.x, W.y, W.sp, W.m, W.fit, W.len, W.big, W.pc⟩, rfl, h2, fun Km k => h4 j _ fun j' => rd_ok rfl h1 W.big (flags_ok (c := { c with a := c.m a }) rfl (W.m _) (k j'))⟩
theorem LDX_ok (h : RMok L N r o) (W : WF L N c) (f : FE e) (q : qLDX r c K) (j : JJ) : Go L N K c fun Km => oLDX o (ms N c e) j Km := by
  refine El_eeaaa (h c e _ W f q) fun a e' h1 h2 h3 h4 => ?_
  exact ⟨_, e', h3, ⟨W.a, W.m _, W.y, W.sp, W.m, W.fit, W.len, W.big, W.pc⟩, rfl, h2, fun Km k => h4 j _ fun j' => rd_ok rfl h1 W.big (flags_ok (c := { c with x := c.m a }) rfl (W.m _) (k j'))⟩
theorem LDY_ok (h : RMok L N r o) (W : WF L N c) (f : FE e) (q : qLDY r c K) (j : JJ) : Go L N K c fun Km => oLDY o (ms N c e) j Km := by
  refine El_eeaaa (h c e _ W f q) fun a e' h1 h2 h3 h4 => ?_
  exact ⟨_, e', h3, ⟨W.a, W.x, W.m _, W.sp, W.m, W.fit, W.len, W.big, W.pc⟩, rfl, h2, fun Km k => h4 j _ fun j' => rd_ok rfl h1 W.big (flags_ok (c := { c with y := c.m a }) rfl (W.m _) (k j'))⟩
theorem EOR_ok (h : RMok L N r o) (W : WF L N c) (f : FE e) (q : qEOR r c K) (j : JJ) : Go L N K c fun Km => oEOR o (ms N c e) j Km := by
  refine El_eeaaa (h c e _ W f q) fun a e' h1 h2 h3 h4 => ?_
  have hb : c.a ^^^ c.m a < 256 := Nat.xor_lt_two_pow (n := 8) W.a (W.m _)
  refine ⟨_, e', h3, ⟨hb, W.x, W.y, W.sp, W.m, W.fit, W.len, W.big, W.pc⟩, rfl, h2, fun Km k => h4 j _ fun j' => rd_ok rfl h1 W.big ?_⟩
  have eb : Builtin.bitXor (ms N c e').a (c.m a : Int) = ((c.a ^^^ c.m a : Nat) : Int) := b_xor c.a (c.m a)
  rw [eb]
  exact flags_ok (c := { c with a := c.a ^^^ c.m a }) rfl hb (k j')
theorem STA_ok (h : AMok L N r o) (W : WF L N c) (f : FE e) (q : qSTA r c K) (j : JJ) : Go L N K c fun Km => oSTA o (ms N c e) j Km := by
  refine El_eeaaaa (h c e _ W f q) fun a e' h1 hs h2 h3 h4 => ?_
  exact ⟨_, e', h3, W.put hs W.a, rfl, h2, fun Km k => h4 j _ fun j' => wr_ok rfl rfl h1 W.big (k j')⟩
theorem STX_ok (h : AMok L N r o) (W : WF L N c) (f : FE e) (q : qSTX r c K) (j : JJ) : Go L N K c fun Km => oSTX o (ms N c e) j Km := by
  refine El_eeaaaa (h c e _ W f q) fun a e' h1 hs h2 h3 h4 => ?_
  exact ⟨_, e', h3, W.put hs W.x, rfl, h2, fun Km k => h4 j _ fun j' => wr_ok rfl rfl h1 W.big (k j')⟩
theorem STY_ok (h : AMok L N r o) (W : WF L N c) (f : FE e) (q : qSTY r c K) (j : JJ) : Go L N K c fun Km => oSTY o (ms N c e) j Km := by
  refine El_eeaaaa (h c e _ W f q) fun a e' h1 hs h2 h3 h4 => ?_
  exact ⟨_, e', h3, W.put hs W.y, rfl, h2, fun Km k => h4 j _ fun j' => wr_ok rfl rfl h1 W.big (k j')⟩
theorem b_128d {R v : Nat} (hR : R < 256) (hv : v < 256) : Builtin.bitAnd ((R : Int) - (v : Int)) 128 = Builtin.bitAnd (((R + 256 - v) % 256 : Nat) : Int) 128 := by
  have e := kbt_bit ((R : Int) - (v : Int)) 7
  rw [show (2 : Int) ^ 7 = 128 by rfl] at e
  rw [e, b_128 (by lia)]
  split <;> lia
theorem cmpT_ok {R v : Nat} {K : MS → Prop} (hR : R < 256) (hv : v < 256) (k : K (ms N { c with n := decide (128 ≤ (R + 256 - v) % 256), z := decide (R = v), c := decide (v ≤ R) } e)) : cmpT (ms N c e) R v K := by
  unfold cmpT cmpN
  have hp : (ms N c e).p = pOf c.n c.v c.z c.c := rfl
  rw [hp, p_cn, p_3, p_1, b_128d hR hv]
  have hd : (R + 256 - v) % 256 < 256 := by lia
  rcases Nat.lt_trichotomy R v with q | q | q
  · have h1 : ((R : Int) == (v : Int)) = false := by simp; lia
    have h2 : decide ((v : Int) < (R : Int)) = false := by simp; exact Nat.le_of_succ_le q
    rw [h1, h2]
    rw [decide_eq_false (show ¬ R = v by exact Nat.ne_of_lt q), decide_eq_false (show ¬ v ≤ R by exact Nat.not_le_of_lt q)] at k
    show K { ms N c e with p := Builtin.bitOr (pOf false c.v false false) _ }
    rw [p_or128 hd]; exact k
  · have h1 : ((R : Int) == (v : Int)) = true := by simp; lia
    rw [h1]
    rw [decide_eq_true (show R = v by assumption), decide_eq_true (show v ≤ R by exact Nat.le_of_eq (id (Eq.symm q)))] at k
    show K { ms N c e with p := Builtin.bitOr (pOf false c.v true true) _ }
    rw [p_or128 hd]; exact k
  · have h1 : ((R : Int) == (v : Int)) = false := by simp; lia
    have h2 : decide ((v : Int) < (R : Int)) = true := by simp; assumption
    rw [h1, h2]
    rw [decide_eq_false (show ¬ R = v by exact Nat.ne_of_lt' q), decide_eq_true (show v ≤ R by exact Nat.le_of_succ_le q)] at k
    show K { ms N c e with p := Builtin.bitOr (pOf false c.v false true) _ }
    rw [p_or128 hd]; exact k
theorem CMP_ok {R : Nat} (h : RMok L N r o) (W : WF L N c) (f : FE e) (hR : R < 256) (q : qCMP r R c K) (j : JJ) : Go L N K c fun Km => oCMP o (R : Int) (ms N c e) j Km := by
  refine El_eeaaa (h c e _ W f q) fun a e' h1 h2 h3 h4 => ?_
  exact ⟨_, e', h3, ⟨W.a, W.x, W.y, W.sp, W.m, W.fit, W.len, W.big, W.pc⟩, rfl, h2, fun Km k => h4 j _ fun j' => rd_ok rfl h1 W.big (cmpT_ok hR (W.m _) (k j'))⟩
theorem m255 {v : Nat} : Builtin.bitAnd ((v : Int) + 1) 255 = (((v + 1) % 256 : Nat) : Int) := by rw [b_255]; exact Eq.symm (Nat.ToInt.mod_congr rfl rfl)
theorem d255 {v : Nat} : Builtin.bitAnd ((v : Int) - 1) 255 = (((v + 255) % 256 : Nat) : Int) := by rw [b_255]; lia
end
end
end Mine

end
section
open PySem PySem.W PyProof.Rows
namespace Mine
noncomputable section
section
variable {L : List Nat} {N : Nat} {c : Co} {e : Ee} {K : Co → Prop} {r : RM} {o : Mode}
theorem WF.fl (W : WF L N c) (n v z cc : Bool) : WF L N { c with n := n, v := v, z := z, c := cc } := ⟨W.a, W.x, W.y, W.sp, W.m, W.fit, W.len, W.big, W.pc⟩
theorem g128 {t : Nat} (h : t < 256) : (Builtin.bitAnd (t : Int) 128 != 0) = decide (128 ≤ t) := by
  rw [b_128 h]; by_cases q : 128 ≤ t
  · rw [if_pos q, decide_eq_true q]; rfl
  · rw [if_neg q, decide_eq_false q]; rfl
theorem g1 (t : Nat) : (Builtin.bitAnd (t : Int) 1 != 0) = decide (t % 2 = 1) := by
  rw [bitAnd_m1]
  by_cases q : t % 2 = 1
  · rw [decide_eq_true q]; simp; lia
  · rw [decide_eq_false q]; simp; lia
noncomputable def sbV (a v r : Nat) : Bool := Builtin.bitAnd (Builtin.bitAnd (Builtin.bitXor a v) (Builtin.bitXor a r)) 128 != 0
noncomputable abbrev sbS (c : Co) (v : Nat) : Nat := c.a + (255 - v) + c.c.toNat
noncomputable def qSBC (r : RM) (c : Co) (K : Co → Prop) : Prop := r c fun v => K { c with a := sbS c v % 256, n := decide (128 ≤ sbS c v % 256), v := sbV c.a v (sbS c v), z := decide (sbS c v % 256 = 0), c := decide (256 ≤ sbS c v) }
theorem z_dec (d : Nat) : (((d : Nat) : Int) == 0) = decide (d = 0) := by
  by_cases q : d = 0
  · subst q; rfl
  · rw [decide_eq_false q]; simp; assumption
theorem c_dec (S : Nat) : decide ((255 : Int) < ((S : Nat) : Int)) = decide (256 ≤ S) := by
  by_cases q : 256 ≤ S
  · rw [decide_eq_true q]; simp; lia
  · rw [decide_eq_false q]; simp; lia
theorem m_255 (S : Nat) : Builtin.bitAnd ((S : Nat) : Int) 255 = ((S % 256 : Nat) : Int) := by rw [b_255]; lia
theorem sbW_ok {v : Nat} {K : MS → Prop} (hv : v < 256) (k : K (ms N { c with a := sbS c v % 256, n := decide (128 ≤ sbS c v % 256), v := sbV c.a v (sbS c v), z := decide (sbS c v % 256 = 0), c := decide (256 ≤ sbS c v) } e)) : sbW (ms N c e) v K := by
  have e1 : sbR (ms N c e) v = ((sbS c v : Nat) : Int) := by
    unfold sbR
    have hp : (ms N c e).p = pOf c.n c.v c.z c.c := rfl
    have ha : (ms N c e).a = (c.a : Int) := rfl
    rw [hp, ha, g_1v, b_255]
    unfold Builtin.bitNot sbS
    lia
  have e2 : sbP (ms N c e) = pOf false false false false := by unfold sbP; exact p_sb _ _ _ _
  have e3 : Builtin.bitAnd ((sbS c v : Nat) : Int) 255 = ((sbS c v % 256 : Nat) : Int) := m_255 _
  unfold sbW sbX sbY sbZ
  rw [e1, e2, e3, p_64]
  have ea : (ms N c e).a = (c.a : Int) := rfl
  rw [ea]
  have hv' : (Builtin.bitAnd (Builtin.bitAnd (Builtin.bitXor (c.a : Int) v) (Builtin.bitXor (c.a : Int) ((sbS c v : Nat) : Int))) 128 != 0) = sbV c.a v (sbS c v) := rfl
  rw [hv']
  rw [z_dec, c_dec]
  have hm : sbS c v % 256 < 256 := Nat.mod_lt _ (by decide)
  revert k hm
  generalize sbS c v % 256 = d
  generalize decide (256 ≤ sbS c v) = cc
  generalize sbV c.a v (sbS c v) = vv
  intro k hm
  revert k
  generalize decide (d = 0) = zz
  intro k
  cases vv <;> cases zz <;> cases cc <;> (show K _; simp only [p_z, p_1, p_or128 hm]; exact k)
theorem SBC_ok (h : RMok L N r o) (W : WF L N c) (f : FE e) (q : qSBC r c K) (j : JJ) : Go L N K c fun Km => oSBC o (ms N c e) j Km := by
  refine El_eeaaa (h c e _ W f q) fun a e' h1 h2 h3 h4 => ?_
  exact ⟨_, e', h3, ⟨Nat.mod_lt _ (by decide), W.x, W.y, W.sp, W.m, W.fit, W.len, W.big, W.pc⟩, rfl, h2, fun Km k => h4 j _ fun j' => rd_ok rfl h1 W.big (sbW_ok (W.m _) (k j'))⟩
end
end
end Mine

end
section
open PySem PySem.W PyProof.Rows
namespace Mine
noncomputable section
noncomputable def Done (L : List Nat) (N : Nat) (K : Co → Prop) (S : PV → Prop) : Prop := ∃ c' e', K c' ∧ WF L N c' ∧ FE e' ∧ ∀ Q : PV, (∀ j, Q (.obj 0) (stA (ms N c' e') j)) → S Q
noncomputable def inK (n : Nat) (K : Co → Prop) : Co → Prop := fun c => K { c with pc := c.pc + n }
section
variable {L : List Nat} {N : Nat} {c : Co} {e : Ee} {K : Co → Prop}
theorem pc16 {p n : Nat} (h : p + n < 65536) : Builtin.bitAnd ((p : Int) + (n : Int)) 65535 = ((p + n : Nat) : Int) := by rw [b_65535]; lia
theorem pcn {p : Nat} (h : p < 65536) : Builtin.bitAnd (p : Int) 65535 = (p : Int) := by rw [b_65535]; lia
theorem WF.at (W : WF L N c) {p : Nat} (h : p ≤ 60000) : WF L N { c with pc := p } := ⟨W.a, W.x, W.y, W.sp, W.m, W.fit, W.len, W.big, h⟩
theorem fin_ok {op : Nat} {cy : Int} {Q : PV} {c : Co} {e : Ee} (ho : op < 256) (h : c.pc ≤ 60000) (k : ∀ j, Q (.obj 0) (stA (ms N c { e with cyc := e.cyc + (cy + e.ex) }) j)) (j : JJ) : fin (op : Int) cy Q (ms N c e) j := by
  refine ⟨by unfold okk; lia, ?_⟩
  have hp : pst (ms N c e) cy = ms N c { e with cyc := e.cyc + (cy + e.ex) } := by
    unfold pst
    have : Builtin.bitAnd (ms N c e).pc 65535 = (c.pc : Int) := pcn (p := c.pc) (by lia)
    rw [this]; rfl
  rw [hp]; exact k j
theorem inc_ok {op n : Nat} {cy : Int} {Q : PV} {c : Co} {e : Ee} (ho : op < 256) (h : c.pc + n ≤ 60000) (k : ∀ j, Q (.obj 0) (stA (ms N { c with pc := c.pc + n } { e with cyc := e.cyc + (cy + e.ex) }) j)) (j : JJ) : inc (n : Int) (fin (op : Int) cy Q) (ms N c e) j := by
  unfold inc
  have hp : ({ ms N c e with pc := (ms N c e).pc + (n : Int) } : MS) = ms N { c with pc := c.pc + n } e := by
    unfold ms
    have : ((c.pc : Int) + (n : Int)) = ((c.pc + n : Nat) : Int) := by lia
    simp only [this]
  rw [hp]
  exact fin_ok (c := { c with pc := c.pc + n }) ho h k j
theorem done_inc {op n : Nat} {cy : Int} {F : KM → Prop} {S : PV → Prop} (g : Go L N (inK n K) c F) (ho : op < 256) (h : c.pc + n ≤ 60000) (hS : ∀ Q, S Q = frm (op : Int) (F (inc (n : Int) (fin (op : Int) cy Q)))) : Done L N K S := by
  obtain ⟨c', e', h1, h2, h3, h4, h5⟩ := g
  have hk : okk (op : Int) := by unfold okk; lia
  refine ⟨_, { e' with cyc := e'.cyc + (cy + e'.ex) }, h1, h2.at (by lia), h4, fun Q k => ?_⟩
  rw [hS]
  exact ⟨hk, hk, h5 _ fun j => inc_ok ho (by lia) k j⟩
theorem done_fin {op : Nat} {cy : Int} {F : KM → Prop} {S : PV → Prop} (g : Go L N K c F) (ho : op < 256) (h : c.pc ≤ 60000) (hS : ∀ Q, S Q = frm (op : Int) (F (fin (op : Int) cy Q))) : Done L N K S := by
  obtain ⟨c', e', h1, h2, h3, h4, h5⟩ := g
  have hk : okk (op : Int) := by unfold okk; lia
  refine ⟨_, { e' with cyc := e'.cyc + (cy + e'.ex) }, h1, h2, h4, fun Q k => ?_⟩
  rw [hS]
  exact ⟨hk, hk, h5 _ fun j => fin_ok ho (by exact h2.pc) k j⟩
noncomputable abbrev ee (e : Ee) (k : Int) : Ee := ⟨0, e.cyc, .int k, e.st⟩
theorem ee_ok {e : Ee} {k : Int} (f : FE e) : FE (ee e k) := ⟨trivial, f.2⟩
theorem pre_eq {k : Int} (h : c.pc ≤ 60000) : pre (ms N c e) k = ms N { c with pc := c.pc + 1 } (ee e k) := by
  unfold pre
  have : Builtin.bitAnd ((ms N c e).pc + 1) 65535 = ((c.pc + 1 : Nat) : Int) := pc16 (p := c.pc) (n := 1) (by lia)
  rw [this]; rfl
noncomputable def qINY (c : Co) (K : Co → Prop) : Prop := K { c with y := (c.y + 1) % 256, n := decide (128 ≤ (c.y + 1) % 256), z := decide ((c.y + 1) % 256 = 0) }
noncomputable def qINX (c : Co) (K : Co → Prop) : Prop := K { c with x := (c.x + 1) % 256, n := decide (128 ≤ (c.x + 1) % 256), z := decide ((c.x + 1) % 256 = 0) }
noncomputable def qDEY (c : Co) (K : Co → Prop) : Prop := K { c with y := (c.y + 255) % 256, n := decide (128 ≤ (c.y + 255) % 256), z := decide ((c.y + 255) % 256 = 0) }
noncomputable def qDEX (c : Co) (K : Co → Prop) : Prop := K { c with x := (c.x + 255) % 256, n := decide (128 ≤ (c.x + 255) % 256), z := decide ((c.x + 255) % 256 = 0) }
noncomputable def qTYA (c : Co) (K : Co → Prop) : Prop := K { c with a := c.y, n := decide (128 ≤ c.y), z := decide (c.y = 0) }
theorem mod_lt (n : Nat) : n % 256 < 256 := Nat.mod_lt _ (by decide)
theorem INY_ok (W : WF L N c) (f : FE e) (q : qINY c K) : Go L N K c fun Km => flags { ms N c e with y := Builtin.bitAnd ((c.y : Int) + 1) 255 } (Builtin.bitAnd ((c.y : Int) + 1) 255) fun m => Km m [] := by
  rw [m255]
  exact ⟨_, e, q, ⟨W.a, W.x, mod_lt _, W.sp, W.m, W.fit, W.len, W.big, W.pc⟩, rfl, f, fun Km k => flags_ok (c := { c with y := (c.y + 1) % 256 }) rfl (mod_lt _) (k [])⟩
theorem INX_ok (W : WF L N c) (f : FE e) (q : qINX c K) : Go L N K c fun Km => flags { ms N c e with x := Builtin.bitAnd ((c.x : Int) + 1) 255 } (Builtin.bitAnd ((c.x : Int) + 1) 255) fun m => Km m [] := by
  rw [m255]
  exact ⟨_, e, q, ⟨W.a, mod_lt _, W.y, W.sp, W.m, W.fit, W.len, W.big, W.pc⟩, rfl, f, fun Km k => flags_ok (c := { c with x := (c.x + 1) % 256 }) rfl (mod_lt _) (k [])⟩
theorem DEY_ok (W : WF L N c) (f : FE e) (q : qDEY c K) : Go L N K c fun Km => flags { ms N c e with y := Builtin.bitAnd ((c.y : Int) - 1) 255 } (Builtin.bitAnd ((c.y : Int) - 1) 255) fun m => Km m [] := by
  rw [d255]
  exact ⟨_, e, q, ⟨W.a, W.x, mod_lt _, W.sp, W.m, W.fit, W.len, W.big, W.pc⟩, rfl, f, fun Km k => flags_ok (c := { c with y := (c.y + 255) % 256 }) rfl (mod_lt _) (k [])⟩
theorem DEX_ok (W : WF L N c) (f : FE e) (q : qDEX c K) : Go L N K c fun Km => flags { ms N c e with x := Builtin.bitAnd ((c.x : Int) - 1) 255 } (Builtin.bitAnd ((c.x : Int) - 1) 255) fun m => Km m [] := by
  rw [d255]
  exact ⟨_, e, q, ⟨W.a, mod_lt _, W.y, W.sp, W.m, W.fit, W.len, W.big, W.pc⟩, rfl, f, fun Km k => flags_ok (c := { c with x := (c.x + 255) % 256 }) rfl (mod_lt _) (k [])⟩
theorem TYA_ok (W : WF L N c) (f : FE e) (q : qTYA c K) : Go L N K c fun Km => flags { ms N c e with a := (c.y : Int) } (c.y : Int) fun m => Km m [] :=
  ⟨_, e, q, ⟨W.y, W.x, W.y, W.sp, W.m, W.fit, W.len, W.big, W.pc⟩, rfl, f, fun Km k => flags_ok (c := { c with a := c.y }) rfl W.y (k [])⟩
noncomputable def qSEC (c : Co) (K : Co → Prop) : Prop := K { c with c := true }
theorem SEC_ok (W : WF L N c) (f : FE e) (q : qSEC c K) : Go L N K c fun Km => Km { ms N c e with p := Builtin.bitOr (pOf c.n c.v c.z c.c) 1 } [] := by
  rw [p_1]
  exact ⟨_, e, q, W.fl c.n c.v c.z true, rfl, f, fun Km k => k []⟩
noncomputable def tgt (p z : Nat) : Nat := match Nat.blt z 128 with | true => p + 1 + z | false => p + 1 + z - 256
noncomputable def qBR (L : List Nat) (b : Bool) (c : Co) (K : Co → Prop) : Prop := ifB b (fe L c.pc fun z => K { c with pc := tgt c.pc z }) (K { c with pc := c.pc + 1 })
theorem brT_ok {t : Nat} {i : Int} {K : MS → Prop} (ei : Builtin.bitAnd i 65535 = t) (k : K (ms N { c with pc := t } (cond (Builtin.bitAnd (c.pc : Int) 65280 != Builtin.bitAnd i 65280) { e with ex := e.ex + 1 } e))) : brT (ms N c e) i K := by
  unfold brT
  rw [ei]
  exact ifB_e (K := fun e => K (ms N { c with pc := t } e)) k
theorem br_ok (W : WF L N c) (f : FE e) (q : fe L c.pc fun z => K { c with pc := tgt c.pc z }) : ∃ c' e', K c' ∧ WF L N c' ∧ FE e' ∧ ∀ Km : MS → Prop, Km (ms N c' e') → brW (ms N c e) Km := by
  obtain ⟨h1, h2, h3⟩ := fe_ok W q
  have hz := W.m c.pc
  have hb := W.big
  by_cases g : c.m c.pc < 128
  · have ht : tgt c.pc (c.m c.pc) = c.pc + 1 + c.m c.pc := by unfold tgt; rw [show Nat.blt (c.m c.pc) 128 = true by simp; assumption]
    rw [ht] at h3
    refine ⟨_, cond (Builtin.bitAnd ((c.pc + 1 : Nat) : Int) 65280 != Builtin.bitAnd (((c.pc + 1 : Nat) : Int) + (c.m c.pc : Int)) 65280) { e with ex := e.ex + 1 + 1 } { e with ex := e.ex + 1 }, h3, W.at (by lia), ?_, fun Km k => ?_⟩
    · cases (Builtin.bitAnd ((c.pc + 1 : Nat) : Int) 65280 != Builtin.bitAnd (((c.pc + 1 : Nat) : Int) + (c.m c.pc : Int)) 65280) <;> exact f
    · unfold brW
      refine rd_ok rfl h2 W.big ?_
      rw [g128 hz, decide_eq_false (by exact Nat.not_le_of_lt g)]
      exact brT_ok (c := { c with pc := c.pc + 1 }) (e := { e with ex := e.ex + 1 }) (i := ((c.pc + 1 : Nat) : Int) + (c.m c.pc : Int)) (by rw [b_65535]; lia) k
  · have ht : tgt c.pc (c.m c.pc) = c.pc + 1 + c.m c.pc - 256 := by unfold tgt; rw [show Nat.blt (c.m c.pc) 128 = false by rw [Bool.eq_false_iff]; simp; exact Nat.le_of_not_lt g]
    rw [ht] at h3
    refine ⟨_, cond (Builtin.bitAnd ((c.pc + 1 : Nat) : Int) 65280 != Builtin.bitAnd (((c.pc + 1 : Nat) : Int) - Builtin.bitXor (c.m c.pc : Int) 255 - 1) 65280) { e with ex := e.ex + 1 + 1 } { e with ex := e.ex + 1 }, h3, W.at (by lia), ?_, fun Km k => ?_⟩
    · cases (Builtin.bitAnd ((c.pc + 1 : Nat) : Int) 65280 != Builtin.bitAnd (((c.pc + 1 : Nat) : Int) - Builtin.bitXor (c.m c.pc : Int) 255 - 1) 65280) <;> exact f
    · unfold brW
      refine rd_ok rfl h2 W.big ?_
      rw [g128 hz, decide_eq_true (by lia)]
      have hx : Builtin.bitXor (c.m c.pc : Int) 255 = 255 - (c.m c.pc : Int) := by rw [bitXor_and, b_255]; lia
      exact brT_ok (c := { c with pc := c.pc + 1 }) (e := { e with ex := e.ex + 1 }) (i := ((c.pc + 1 : Nat) : Int) - Builtin.bitXor (c.m c.pc : Int) 255 - 1) (by rw [hx, b_65535]; (clear g; lia)) k
theorem done_br {op : Nat} {cy : Int} {b : Bool} {S : PV → Prop} (W : WF L N c) (f : FE e) (hp : c.pc ≤ 50000) (q : qBR L b c K) (ho : op < 256) (hS : ∀ Q, S Q = frm (op : Int) (ifB b (brW (ms N c e) fun m => fin (op : Int) cy Q m []) (inc ((1 : Nat) : Int) (fin (op : Int) cy Q) (ms N c e) []))) : Done L N K S := by
  have hk : okk (op : Int) := by unfold okk; lia
  cases b with
  | true =>
    obtain ⟨c', e', h1, h2, h3, h4⟩ := br_ok W f q
    refine ⟨c', { e' with cyc := e'.cyc + (cy + e'.ex) }, h1, h2, h3, fun Q k => ?_⟩
    rw [hS]
    exact ⟨hk, hk, h4 _ (fin_ok ho h2.pc k [])⟩
  | false =>
    refine ⟨_, { e with cyc := e.cyc + (cy + e.ex) }, q, W.at (by lia), f, fun Q k => ?_⟩
    rw [hS]
    exact ⟨hk, hk, inc_ok ho (by lia) k []⟩
end
end
end Mine

end
section
open PySem PySem.W PyProof.Rows
namespace Mine
noncomputable section
section
variable {L : List Nat} {N : Nat} {c : Co} {e : Ee} {K : Co → Prop}
theorem gp_1 : (Builtin.bitAnd (ms N c e).p 1 != 0) = c.c := g_1 _ _ _ _
theorem gp_2 : (Builtin.bitAnd (ms N c e).p 2 != 0) = c.z := g_2 _ _ _ _
theorem gp_64 : (Builtin.bitAnd (ms N c e).p 64 != 0) = c.v := g_64 _ _ _ _
theorem gp_128 : (Builtin.bitAnd (ms N c e).p 128 != 0) = c.n := g_128 _ _ _ _
theorem msE : ({ ms N c e with p := pOf c.n c.v c.z c.c } : MS) = ms N c e := rfl
theorem ifB_not {b : Bool} {A B : Prop} : ifB b A B = ifB (!b) B A := by cases b <;> rfl
end
noncomputable def OpF : Type := List Nat → Nat → Co → (Co → Prop) → Prop
noncomputable def opT : List (Nat × OpF) := [
  (160, fun L N c K => qLDY (rPC L) c (inK 1 K)),
  (177, fun L N c K => qLDA (rd (aIY L N)) c (inK 1 K)),
  (200, fun L N c K => qINY c K),
  (208, fun L N c K => qBR L (!c.z) c K),
  (56, fun L N c K => qSEC c K),
  (241, fun L N c K => qSBC (rd (aIY L N)) c (inK 1 K)),
  (176, fun L N c K => qBR L c.c c K),
  (165, fun L N c K => qLDA (rd (aZP L)) c (inK 1 K)),
  (166, fun L N c K => qLDX (rd (aZP L)) c (inK 1 K)),
  (133, fun L N c K => qSTA (aZP L) c (inK 1 K)),
  (134, fun L N c K => qSTX (aZP L) c (inK 1 K)),
  (145, fun L N c K => qSTA (wr L (aIY L N)) c (inK 1 K)),
  (162, fun L N c K => qLDX (rPC L) c (inK 1 K)),
  (144, fun L N c K => qBR L (!c.c) c K),
  (202, fun L N c K => qDEX c K),
  (197, fun L N c K => qCMP (rd (aZP L)) c.a c (inK 1 K)),
  (229, fun L N c K => qSBC (rd (aZP L)) c (inK 1 K)),
  (136, fun L N c K => qDEY c K),
  (192, fun L N c K => qCMP (rPC L) c.y c (inK 1 K)),
  (132, fun L N c K => qSTY (aZP L) c (inK 1 K)),
  (80, fun L N c K => qBR L (!c.v) c K),
  (73, fun L N c K => qEOR (rPC L) c (inK 1 K)),
  (16, fun L N c K => qBR L (!c.n) c K),
  (209, fun L N c K => qCMP (rd (aIY L N)) c.a c (inK 1 K)),
  (164, fun L N c K => qLDY (rd (aZP L)) c (inK 1 K)),
  (189, fun L N c K => qLDA (rd (aAX L N)) c (inK 2 K)),
  (221, fun L N c K => qCMP (rd (aAX L N)) c.a c (inK 2 K)),
  (253, fun L N c K => qSBC (rd (aAX L N)) c (inK 2 K)),
  (188, fun L N c K => qLDY (rd (aAX L N)) c (inK 2 K)),
  (157, fun L N c K => qSTA (wr L (aAX L N)) c (inK 2 K)),
  (152, fun L N c K => qTYA c K),
  (232, fun L N c K => qINX c K),
  (228, fun L N c K => qCMP (rd (aZP L)) c.x c (inK 1 K)),
  (240, fun L N c K => qBR L c.z c K)]
noncomputable def opRun : List (Nat × OpF) → Nat → List Nat → Nat → Co → (Co → Prop) → Prop
  | [], _, _, _, _, _ => False
  | (k, f) :: r, n, L, N, c, K => match Nat.beq n k with
    | true => f L N c K
    | false => opRun r n L N c K
noncomputable def ox (L : List Nat) (N : Nat) (c : Co) (K : Co → Prop) (op : Nat) : Prop := opRun opT op L N c K
noncomputable def nx (L : List Nat) (N : Nat) (c : Co) (K : Co → Prop) : Prop := fe L c.pc fun op => ox L N { c with pc := c.pc + 1 } K op
section
variable {L : List Nat} {N : Nat} {b : Co} {e : Ee} {K : Co → Prop}
theorem d_a0 (W0 : WF L N b) (f : FE e) (hb : b.pc < N) (h : qLDY (rPC L) ({ b with pc := b.pc + 1 } : Co) (inK 1 K)) : Done L N K (fun Q => stp ((160 : Nat) : Int) (ms N b e) Q) := by
  have hB := W0.big
  have hp : b.pc ≤ 60000 := by lia
  have W := W0.at (p := b.pc + 1) (by lia)
  exact done_inc (op := 160) (cy := 2) (n := 1) (LDY_ok (e := ee e 0) PC_ok W (ee_ok f) h [.meth 92 0]) (by decide) (by dsimp only; lia) fun Q => (o_a0 (ms N b e) Q).trans (by rw [pre_eq hp]; rfl)
theorem d_b1 (W0 : WF L N b) (f : FE e) (hb : b.pc < N) (h : qLDA (rd (aIY L N)) ({ b with pc := b.pc + 1 } : Co) (inK 1 K)) : Done L N K (fun Q => stp ((177 : Nat) : Int) (ms N b e) Q) := by
  have hB := W0.big
  have hp : b.pc ≤ 60000 := by lia
  have W := W0.at (p := b.pc + 1) (by lia)
  exact done_inc (op := 177) (cy := 5) (n := 1) (LDA_ok (e := ee e 1) IY1_ok W (ee_ok f) h [.meth 134 0]) (by decide) (by dsimp only; lia) fun Q => (o_b1 (ms N b e) Q).trans (by rw [pre_eq hp]; rfl)
theorem d_c8 (W0 : WF L N b) (f : FE e) (hb : b.pc < N) (h : qINY ({ b with pc := b.pc + 1 } : Co) K) : Done L N K (fun Q => stp ((200 : Nat) : Int) (ms N b e) Q) := by
  have hB := W0.big
  have hp : b.pc ≤ 60000 := by lia
  have W := W0.at (p := b.pc + 1) (by lia)
  exact done_fin (op := 200) (cy := 2) (INY_ok (e := ee e 0) W (ee_ok f) h) (by decide) (by dsimp only; lia) fun Q => (o_c8 (ms N b e) Q).trans (by rw [pre_eq hp]; rfl)
theorem d_d0 (W0 : WF L N b) (f : FE e) (hb : b.pc < N) (h : qBR L (!({ b with pc := b.pc + 1 } : Co).z) ({ b with pc := b.pc + 1 } : Co) K) : Done L N K (fun Q => stp ((208 : Nat) : Int) (ms N b e) Q) := by
  have hB := W0.big
  have hp : b.pc ≤ 60000 := by lia
  have W := W0.at (p := b.pc + 1) (by lia)
  exact done_br (op := 208) (cy := 2) (e := ee e 2) W (ee_ok f) (by dsimp only; lia) h (by decide) fun Q => (o_d0 (ms N b e) Q).trans (by rw [pre_eq hp, gp_2, ifB_not]; rfl)
theorem d_38 (W0 : WF L N b) (f : FE e) (hb : b.pc < N) (h : qSEC ({ b with pc := b.pc + 1 } : Co) K) : Done L N K (fun Q => stp ((56 : Nat) : Int) (ms N b e) Q) := by
  have hB := W0.big
  have hp : b.pc ≤ 60000 := by lia
  have W := W0.at (p := b.pc + 1) (by lia)
  exact done_fin (op := 56) (cy := 2) (SEC_ok (e := ee e 0) W (ee_ok f) h) (by decide) (by dsimp only; lia) fun Q => (o_38 (ms N b e) Q).trans (by rw [pre_eq hp]; rfl)
theorem d_f1 (W0 : WF L N b) (f : FE e) (hb : b.pc < N) (h : qSBC (rd (aIY L N)) ({ b with pc := b.pc + 1 } : Co) (inK 1 K)) : Done L N K (fun Q => stp ((241 : Nat) : Int) (ms N b e) Q) := by
  have hB := W0.big
  have hp : b.pc ≤ 60000 := by lia
  have W := W0.at (p := b.pc + 1) (by lia)
  exact done_inc (op := 241) (cy := 5) (n := 1) (SBC_ok (e := ee e 1) IY1_ok W (ee_ok f) h [.meth 134 0]) (by decide) (by dsimp only; lia) fun Q => (o_f1 (ms N b e) Q b.n b.v b.z b.c).trans (by rw [msE, pre_eq hp]; rfl)
theorem d_b0 (W0 : WF L N b) (f : FE e) (hb : b.pc < N) (h : qBR L ({ b with pc := b.pc + 1 } : Co).c ({ b with pc := b.pc + 1 } : Co) K) : Done L N K (fun Q => stp ((176 : Nat) : Int) (ms N b e) Q) := by
  have hB := W0.big
  have hp : b.pc ≤ 60000 := by lia
  have W := W0.at (p := b.pc + 1) (by lia)
  exact done_br (op := 176) (cy := 2) (e := ee e 2) W (ee_ok f) (by dsimp only; lia) h (by decide) fun Q => (o_b0 (ms N b e) Q).trans (by rw [pre_eq hp, gp_1]; rfl)
theorem d_a5 (W0 : WF L N b) (f : FE e) (hb : b.pc < N) (h : qLDA (rd (aZP L)) ({ b with pc := b.pc + 1 } : Co) (inK 1 K)) : Done L N K (fun Q => stp ((165 : Nat) : Int) (ms N b e) Q) := by
  have hB := W0.big
  have hp : b.pc ≤ 60000 := by lia
  have W := W0.at (p := b.pc + 1) (by lia)
  exact done_inc (op := 165) (cy := 3) (n := 1) (LDA_ok (e := ee e 0) ZP_ok W (ee_ok f) h [.meth 106 0]) (by decide) (by dsimp only; lia) fun Q => (o_a5 (ms N b e) Q).trans (by rw [pre_eq hp]; rfl)
theorem d_a6 (W0 : WF L N b) (f : FE e) (hb : b.pc < N) (h : qLDX (rd (aZP L)) ({ b with pc := b.pc + 1 } : Co) (inK 1 K)) : Done L N K (fun Q => stp ((166 : Nat) : Int) (ms N b e) Q) := by
  have hB := W0.big
  have hp : b.pc ≤ 60000 := by lia
  have W := W0.at (p := b.pc + 1) (by lia)
  exact done_inc (op := 166) (cy := 3) (n := 1) (LDX_ok (e := ee e 0) ZP_ok W (ee_ok f) h [.meth 106 0]) (by decide) (by dsimp only; lia) fun Q => (o_a6 (ms N b e) Q).trans (by rw [pre_eq hp]; rfl)
theorem d_85 (W0 : WF L N b) (f : FE e) (hb : b.pc < N) (h : qSTA (aZP L) ({ b with pc := b.pc + 1 } : Co) (inK 1 K)) : Done L N K (fun Q => stp ((133 : Nat) : Int) (ms N b e) Q) := by
  have hB := W0.big
  have hp : b.pc ≤ 60000 := by lia
  have W := W0.at (p := b.pc + 1) (by lia)
  exact done_inc (op := 133) (cy := 3) (n := 1) (STA_ok (e := ee e 0) ZP_a W (ee_ok f) h [.meth 106 0]) (by decide) (by dsimp only; lia) fun Q => (o_85 (ms N b e) Q).trans (by rw [pre_eq hp]; rfl)
theorem d_86 (W0 : WF L N b) (f : FE e) (hb : b.pc < N) (h : qSTX (aZP L) ({ b with pc := b.pc + 1 } : Co) (inK 1 K)) : Done L N K (fun Q => stp ((134 : Nat) : Int) (ms N b e) Q) := by
  have hB := W0.big
  have hp : b.pc ≤ 60000 := by lia
  have W := W0.at (p := b.pc + 1) (by lia)
  exact done_inc (op := 134) (cy := 3) (n := 1) (STX_ok (e := ee e 0) ZP_a W (ee_ok f) h [.meth 106 0]) (by decide) (by dsimp only; lia) fun Q => (o_86 (ms N b e) Q).trans (by rw [pre_eq hp]; rfl)
theorem d_91 (W0 : WF L N b) (f : FE e) (hb : b.pc < N) (h : qSTA (wr L (aIY L N)) ({ b with pc := b.pc + 1 } : Co) (inK 1 K)) : Done L N K (fun Q => stp ((145 : Nat) : Int) (ms N b e) Q) := by
  have hB := W0.big
  have hp : b.pc ≤ 60000 := by lia
  have W := W0.at (p := b.pc + 1) (by lia)
  exact done_inc (op := 145) (cy := 6) (n := 1) (STA_ok (e := ee e 0) IY0_a W (ee_ok f) h [.meth 134 0]) (by decide) (by dsimp only; lia) fun Q => (o_91 (ms N b e) Q).trans (by rw [pre_eq hp]; rfl)
theorem d_a2 (W0 : WF L N b) (f : FE e) (hb : b.pc < N) (h : qLDX (rPC L) ({ b with pc := b.pc + 1 } : Co) (inK 1 K)) : Done L N K (fun Q => stp ((162 : Nat) : Int) (ms N b e) Q) := by
  have hB := W0.big
  have hp : b.pc ≤ 60000 := by lia
  have W := W0.at (p := b.pc + 1) (by lia)
  exact done_inc (op := 162) (cy := 2) (n := 1) (LDX_ok (e := ee e 0) PC_ok W (ee_ok f) h [.meth 92 0]) (by decide) (by dsimp only; lia) fun Q => (o_a2 (ms N b e) Q).trans (by rw [pre_eq hp]; rfl)
theorem d_90 (W0 : WF L N b) (f : FE e) (hb : b.pc < N) (h : qBR L (!({ b with pc := b.pc + 1 } : Co).c) ({ b with pc := b.pc + 1 } : Co) K) : Done L N K (fun Q => stp ((144 : Nat) : Int) (ms N b e) Q) := by
  have hB := W0.big
  have hp : b.pc ≤ 60000 := by lia
  have W := W0.at (p := b.pc + 1) (by lia)
  exact done_br (op := 144) (cy := 2) (e := ee e 2) W (ee_ok f) (by dsimp only; lia) h (by decide) fun Q => (o_90 (ms N b e) Q).trans (by rw [pre_eq hp, gp_1, ifB_not]; rfl)
theorem d_ca (W0 : WF L N b) (f : FE e) (hb : b.pc < N) (h : qDEX ({ b with pc := b.pc + 1 } : Co) K) : Done L N K (fun Q => stp ((202 : Nat) : Int) (ms N b e) Q) := by
  have hB := W0.big
  have hp : b.pc ≤ 60000 := by lia
  have W := W0.at (p := b.pc + 1) (by lia)
  exact done_fin (op := 202) (cy := 2) (DEX_ok (e := ee e 0) W (ee_ok f) h) (by decide) (by dsimp only; lia) fun Q => (o_ca (ms N b e) Q).trans (by rw [pre_eq hp]; rfl)
theorem d_c5 (W0 : WF L N b) (f : FE e) (hb : b.pc < N) (h : qCMP (rd (aZP L)) ({ b with pc := b.pc + 1 } : Co).a ({ b with pc := b.pc + 1 } : Co) (inK 1 K)) : Done L N K (fun Q => stp ((197 : Nat) : Int) (ms N b e) Q) := by
  have hB := W0.big
  have hp : b.pc ≤ 60000 := by lia
  have W := W0.at (p := b.pc + 1) (by lia)
  exact done_inc (op := 197) (cy := 3) (n := 1) (CMP_ok (e := ee e 0) ZP_ok W (ee_ok f) W.a h [.meth 106 0]) (by decide) (by dsimp only; lia) fun Q => (o_c5 (ms N b e) Q).trans (by rw [pre_eq hp]; rfl)
theorem d_e5 (W0 : WF L N b) (f : FE e) (hb : b.pc < N) (h : qSBC (rd (aZP L)) ({ b with pc := b.pc + 1 } : Co) (inK 1 K)) : Done L N K (fun Q => stp ((229 : Nat) : Int) (ms N b e) Q) := by
  have hB := W0.big
  have hp : b.pc ≤ 60000 := by lia
  have W := W0.at (p := b.pc + 1) (by lia)
  exact done_inc (op := 229) (cy := 3) (n := 1) (SBC_ok (e := ee e 0) ZP_ok W (ee_ok f) h [.meth 106 0]) (by decide) (by dsimp only; lia) fun Q => (o_e5 (ms N b e) Q b.n b.v b.z b.c).trans (by rw [msE, pre_eq hp]; rfl)
theorem d_88 (W0 : WF L N b) (f : FE e) (hb : b.pc < N) (h : qDEY ({ b with pc := b.pc + 1 } : Co) K) : Done L N K (fun Q => stp ((136 : Nat) : Int) (ms N b e) Q) := by
  have hB := W0.big
  have hp : b.pc ≤ 60000 := by lia
  have W := W0.at (p := b.pc + 1) (by lia)
  exact done_fin (op := 136) (cy := 2) (DEY_ok (e := ee e 0) W (ee_ok f) h) (by decide) (by dsimp only; lia) fun Q => (o_88 (ms N b e) Q).trans (by rw [pre_eq hp]; rfl)
theorem d_c0 (W0 : WF L N b) (f : FE e) (hb : b.pc < N) (h : qCMP (rPC L) ({ b with pc := b.pc + 1 } : Co).y ({ b with pc := b.pc + 1 } : Co) (inK 1 K)) : Done L N K (fun Q => stp ((192 : Nat) : Int) (ms N b e) Q) := by
  have hB := W0.big
  have hp : b.pc ≤ 60000 := by lia
  have W := W0.at (p := b.pc + 1) (by lia)
  exact done_inc (op := 192) (cy := 2) (n := 1) (CMP_ok (e := ee e 0) PC_ok W (ee_ok f) W.y h [.meth 92 0]) (by decide) (by dsimp only; lia) fun Q => (o_c0 (ms N b e) Q).trans (by rw [pre_eq hp]; rfl)
theorem d_84 (W0 : WF L N b) (f : FE e) (hb : b.pc < N) (h : qSTY (aZP L) ({ b with pc := b.pc + 1 } : Co) (inK 1 K)) : Done L N K (fun Q => stp ((132 : Nat) : Int) (ms N b e) Q) := by
  have hB := W0.big
  have hp : b.pc ≤ 60000 := by lia
  have W := W0.at (p := b.pc + 1) (by lia)
  exact done_inc (op := 132) (cy := 3) (n := 1) (STY_ok (e := ee e 0) ZP_a W (ee_ok f) h [.meth 106 0]) (by decide) (by dsimp only; lia) fun Q => (o_84 (ms N b e) Q).trans (by rw [pre_eq hp]; rfl)
theorem d_50 (W0 : WF L N b) (f : FE e) (hb : b.pc < N) (h : qBR L (!({ b with pc := b.pc + 1 } : Co).v) ({ b with pc := b.pc + 1 } : Co) K) : Done L N K (fun Q => stp ((80 : Nat) : Int) (ms N b e) Q) := by
  have hB := W0.big
  have hp : b.pc ≤ 60000 := by lia
  have W := W0.at (p := b.pc + 1) (by lia)
  exact done_br (op := 80) (cy := 2) (e := ee e 2) W (ee_ok f) (by dsimp only; lia) h (by decide) fun Q => (o_50 (ms N b e) Q).trans (by rw [pre_eq hp, gp_64, ifB_not]; rfl)
theorem d_49 (W0 : WF L N b) (f : FE e) (hb : b.pc < N) (h : qEOR (rPC L) ({ b with pc := b.pc + 1 } : Co) (inK 1 K)) : Done L N K (fun Q => stp ((73 : Nat) : Int) (ms N b e) Q) := by
  have hB := W0.big
  have hp : b.pc ≤ 60000 := by lia
  have W := W0.at (p := b.pc + 1) (by lia)
  exact done_inc (op := 73) (cy := 2) (n := 1) (EOR_ok (e := ee e 0) PC_ok W (ee_ok f) h [.meth 92 0]) (by decide) (by dsimp only; lia) fun Q => (o_49 (ms N b e) Q).trans (by rw [pre_eq hp]; rfl)
theorem d_10 (W0 : WF L N b) (f : FE e) (hb : b.pc < N) (h : qBR L (!({ b with pc := b.pc + 1 } : Co).n) ({ b with pc := b.pc + 1 } : Co) K) : Done L N K (fun Q => stp ((16 : Nat) : Int) (ms N b e) Q) := by
  have hB := W0.big
  have hp : b.pc ≤ 60000 := by lia
  have W := W0.at (p := b.pc + 1) (by lia)
  exact done_br (op := 16) (cy := 2) (e := ee e 2) W (ee_ok f) (by dsimp only; lia) h (by decide) fun Q => (o_10 (ms N b e) Q).trans (by rw [pre_eq hp, gp_128, ifB_not]; rfl)
theorem d_d1 (W0 : WF L N b) (f : FE e) (hb : b.pc < N) (h : qCMP (rd (aIY L N)) ({ b with pc := b.pc + 1 } : Co).a ({ b with pc := b.pc + 1 } : Co) (inK 1 K)) : Done L N K (fun Q => stp ((209 : Nat) : Int) (ms N b e) Q) := by
  have hB := W0.big
  have hp : b.pc ≤ 60000 := by lia
  have W := W0.at (p := b.pc + 1) (by lia)
  exact done_inc (op := 209) (cy := 5) (n := 1) (CMP_ok (e := ee e 1) IY1_ok W (ee_ok f) W.a h [.meth 134 0]) (by decide) (by dsimp only; lia) fun Q => (o_d1 (ms N b e) Q).trans (by rw [pre_eq hp]; rfl)
theorem d_a4 (W0 : WF L N b) (f : FE e) (hb : b.pc < N) (h : qLDY (rd (aZP L)) ({ b with pc := b.pc + 1 } : Co) (inK 1 K)) : Done L N K (fun Q => stp ((164 : Nat) : Int) (ms N b e) Q) := by
  have hB := W0.big
  have hp : b.pc ≤ 60000 := by lia
  have W := W0.at (p := b.pc + 1) (by lia)
  exact done_inc (op := 164) (cy := 3) (n := 1) (LDY_ok (e := ee e 0) ZP_ok W (ee_ok f) h [.meth 106 0]) (by decide) (by dsimp only; lia) fun Q => (o_a4 (ms N b e) Q).trans (by rw [pre_eq hp]; rfl)
theorem d_bd (W0 : WF L N b) (f : FE e) (hb : b.pc < N) (h : qLDA (rd (aAX L N)) ({ b with pc := b.pc + 1 } : Co) (inK 2 K)) : Done L N K (fun Q => stp ((189 : Nat) : Int) (ms N b e) Q) := by
  have hB := W0.big
  have hp : b.pc ≤ 60000 := by lia
  have W := W0.at (p := b.pc + 1) (by lia)
  exact done_inc (op := 189) (cy := 4) (n := 2) (LDA_ok (e := ee e 1) AX1_ok W (ee_ok f) h [.meth 148 0]) (by decide) (by dsimp only; lia) fun Q => (o_bd (ms N b e) Q).trans (by rw [pre_eq hp]; rfl)
theorem d_dd (W0 : WF L N b) (f : FE e) (hb : b.pc < N) (h : qCMP (rd (aAX L N)) ({ b with pc := b.pc + 1 } : Co).a ({ b with pc := b.pc + 1 } : Co) (inK 2 K)) : Done L N K (fun Q => stp ((221 : Nat) : Int) (ms N b e) Q) := by
  have hB := W0.big
  have hp : b.pc ≤ 60000 := by lia
  have W := W0.at (p := b.pc + 1) (by lia)
  exact done_inc (op := 221) (cy := 4) (n := 2) (CMP_ok (e := ee e 1) AX1_ok W (ee_ok f) W.a h [.meth 148 0]) (by decide) (by dsimp only; lia) fun Q => (o_dd (ms N b e) Q).trans (by rw [pre_eq hp]; rfl)
theorem d_fd (W0 : WF L N b) (f : FE e) (hb : b.pc < N) (h : qSBC (rd (aAX L N)) ({ b with pc := b.pc + 1 } : Co) (inK 2 K)) : Done L N K (fun Q => stp ((253 : Nat) : Int) (ms N b e) Q) := by
  have hB := W0.big
  have hp : b.pc ≤ 60000 := by lia
  have W := W0.at (p := b.pc + 1) (by lia)
  exact done_inc (op := 253) (cy := 4) (n := 2) (SBC_ok (e := ee e 1) AX1_ok W (ee_ok f) h [.meth 148 0]) (by decide) (by dsimp only; lia) fun Q => (o_fd (ms N b e) Q b.n b.v b.z b.c).trans (by rw [msE, pre_eq hp]; rfl)
theorem d_bc (W0 : WF L N b) (f : FE e) (hb : b.pc < N) (h : qLDY (rd (aAX L N)) ({ b with pc := b.pc + 1 } : Co) (inK 2 K)) : Done L N K (fun Q => stp ((188 : Nat) : Int) (ms N b e) Q) := by
  have hB := W0.big
  have hp : b.pc ≤ 60000 := by lia
  have W := W0.at (p := b.pc + 1) (by lia)
  exact done_inc (op := 188) (cy := 4) (n := 2) (LDY_ok (e := ee e 1) AX1_ok W (ee_ok f) h [.meth 148 0]) (by decide) (by dsimp only; lia) fun Q => (o_bc (ms N b e) Q).trans (by rw [pre_eq hp]; rfl)
theorem d_9d (W0 : WF L N b) (f : FE e) (hb : b.pc < N) (h : qSTA (wr L (aAX L N)) ({ b with pc := b.pc + 1 } : Co) (inK 2 K)) : Done L N K (fun Q => stp ((157 : Nat) : Int) (ms N b e) Q) := by
  have hB := W0.big
  have hp : b.pc ≤ 60000 := by lia
  have W := W0.at (p := b.pc + 1) (by lia)
  exact done_inc (op := 157) (cy := 5) (n := 2) (STA_ok (e := ee e 0) AX0_a W (ee_ok f) h [.meth 148 0]) (by decide) (by dsimp only; lia) fun Q => (o_9d (ms N b e) Q).trans (by rw [pre_eq hp]; rfl)
theorem d_98 (W0 : WF L N b) (f : FE e) (hb : b.pc < N) (h : qTYA ({ b with pc := b.pc + 1 } : Co) K) : Done L N K (fun Q => stp ((152 : Nat) : Int) (ms N b e) Q) := by
  have hB := W0.big
  have hp : b.pc ≤ 60000 := by lia
  have W := W0.at (p := b.pc + 1) (by lia)
  exact done_fin (op := 152) (cy := 2) (TYA_ok (e := ee e 0) W (ee_ok f) h) (by decide) (by dsimp only; lia) fun Q => (o_98 (ms N b e) Q).trans (by rw [pre_eq hp]; rfl)
theorem d_e8 (W0 : WF L N b) (f : FE e) (hb : b.pc < N) (h : qINX ({ b with pc := b.pc + 1 } : Co) K) : Done L N K (fun Q => stp ((232 : Nat) : Int) (ms N b e) Q) := by
  have hB := W0.big
  have hp : b.pc ≤ 60000 := by lia
  have W := W0.at (p := b.pc + 1) (by lia)
  exact done_fin (op := 232) (cy := 2) (INX_ok (e := ee e 0) W (ee_ok f) h) (by decide) (by dsimp only; lia) fun Q => (o_e8 (ms N b e) Q).trans (by rw [pre_eq hp]; rfl)
theorem d_e4 (W0 : WF L N b) (f : FE e) (hb : b.pc < N) (h : qCMP (rd (aZP L)) ({ b with pc := b.pc + 1 } : Co).x ({ b with pc := b.pc + 1 } : Co) (inK 1 K)) : Done L N K (fun Q => stp ((228 : Nat) : Int) (ms N b e) Q) := by
  have hB := W0.big
  have hp : b.pc ≤ 60000 := by lia
  have W := W0.at (p := b.pc + 1) (by lia)
  exact done_inc (op := 228) (cy := 3) (n := 1) (CMP_ok (e := ee e 0) ZP_ok W (ee_ok f) W.x h [.meth 106 0]) (by decide) (by dsimp only; lia) fun Q => (o_e4 (ms N b e) Q).trans (by rw [pre_eq hp]; rfl)
theorem d_f0 (W0 : WF L N b) (f : FE e) (hb : b.pc < N) (h : qBR L ({ b with pc := b.pc + 1 } : Co).z ({ b with pc := b.pc + 1 } : Co) K) : Done L N K (fun Q => stp ((240 : Nat) : Int) (ms N b e) Q) := by
  have hB := W0.big
  have hp : b.pc ≤ 60000 := by lia
  have W := W0.at (p := b.pc + 1) (by lia)
  exact done_br (op := 240) (cy := 2) (e := ee e 2) W (ee_ok f) (by dsimp only; lia) h (by decide) fun Q => (o_f0 (ms N b e) Q).trans (by rw [pre_eq hp, gp_2]; rfl)
noncomputable def OpOk (k : Nat) (f : OpF) : Prop := ∀ {L : List Nat} {N : Nat} {b : Co} {e : Ee} {K : Co → Prop}, WF L N b → FE e → b.pc < N → f L N { b with pc := b.pc + 1 } K → Done L N K (fun Q => stp (k : Int) (ms N b e) Q)
noncomputable def OpsOk : List (Nat × OpF) → Prop
  | [] => True
  | (k, f) :: r => OpOk k f ∧ OpsOk r
theorem run_ok : ∀ {T : List (Nat × OpF)}, OpsOk T → ∀ {n : Nat}, OpOk n (opRun T n)
  | [], _, _ => fun _ _ _ h => h.elim
  | (k, f) :: r, h, n => fun W F l q => by
    unfold opRun at q
    cases g : Nat.beq n k with
    | true =>
      rw [g] at q
      obtain rfl := Nat.eq_of_beq_eq_true g
      exact h.1 W F l q
    | false =>
      rw [g] at q
      exact run_ok h.2 W F l q
theorem ops_ok : OpsOk opT := ⟨d_a0, d_b1, d_c8, d_d0, d_38, d_f1, d_b0, d_a5, d_a6, d_85, d_86, d_91, d_a2, d_90, d_ca, d_c5, d_e5, d_88, d_c0, d_84, d_50, d_49, d_10, d_d1, d_a4, d_bd, d_dd, d_fd, d_bc, d_9d, d_98, d_e8, d_e4, d_f0, trivial⟩
theorem ox_ok (W : WF L N b) (f : FE e) (hb : b.pc < N) (op : Nat) (h : ox L N { b with pc := b.pc + 1 } K op) : Done L N K (fun Q => stp (op : Int) (ms N b e) Q) := run_ok ops_ok W f hb h
theorem nx_ok (W : WF L N b) (f : FE e) (h : nx L N b K) : 512 ≤ b.pc ∧ b.pc < 512 + L.length ∧ ∃ c' e', K c' ∧ WF L N c' ∧ FE e' ∧ Stp (ms N b e) (ms N c' e') := by
  have hin : 512 ≤ b.pc ∧ b.pc < 512 + L.length := by
    unfold nx fe at h
    split at h
    · rename_i q
      have q := Nat.le_of_ble_eq_true q
      split at h
      · rename_i x ex
        have := (List.getElem?_eq_some_iff.mp ex).1
        exact ⟨q, by lia⟩
      · cases h
    · cases h
  obtain ⟨h1, h2, h3⟩ := fe_ok W h
  obtain ⟨c', e', k1, k2, k3, k4⟩ := ox_ok W f h2 _ h3
  refine ⟨hin.1, hin.2, c', e', k1, k2, k3, fun Q hQ => ?_⟩
  rw [step_head]
  exact rd_ok rfl h2 W.big (k4 Q hQ)
end
end
end Mine
end
section
open PySem PySem.W PyProof.Rows
namespace Mine
noncomputable section
inductive Runs (L : List Nat) (N : Nat) : Nat → Co → Ee → Co → Ee → Prop
  | nil {c e} : Runs L N 0 c e c e
  | cons {k c e c' e' c'' e''} : 512 ≤ c.pc → c.pc < 512 + L.length → FE e → FE e' → Stp (ms N c e) (ms N c' e') → Runs L N k c' e' c'' e'' → Runs L N (k + 1) c e c'' e''
theorem Runs.app {L : List Nat} {N : Nat} {k j : Nat} {c c' c'' : Co} {e e' e'' : Ee} (h : Runs L N k c e c' e') (g : Runs L N j c' e' c'' e'') : Runs L N (j + k) c e c'' e'' := by
  induction h with
  | nil => exact g
  | cons a b f1 f2 s _ ih => exact .cons a b f1 f2 s (ih g)
noncomputable def Wi (L : List Nat) (N : Nat) (n : Nat) (c : Co) (Q : Co → Prop) : Prop := ∀ e, WF L N c → FE e → ∃ k c' e', k ≤ n ∧ Runs L N k c e c' e' ∧ WF L N c' ∧ FE e' ∧ Q c'
section
variable {L : List Nat} {N : Nat} {c : Co} {Q Q' : Co → Prop} {n m : Nat}
theorem Wi.ret (h : Q c) : Wi L N 0 c Q := fun e W f => ⟨0, c, e, Nat.le_refl _, .nil, W, f, h⟩
theorem Wi.bind (h : Wi L N n c Q) (g : ∀ c', WF L N c' → Q c' → Wi L N m c' Q') : Wi L N (n + m) c Q' := fun e W f => by
  refine El_eeeaaaa (h e W f) fun k c' e' h1 h2 h3 h4 h5 => ?_
  refine El_eeeaaaa (g c' h3 h5 e' h3 h4) fun k' c'' e'' g1 g2 g3 g4 g5 => ?_
  exact ⟨k' + k, c'', e'', by lia, h2.app g2, g3, g4, g5⟩
theorem Wi.le (h : Wi L N n c Q) (l : n ≤ m) : Wi L N m c Q := fun e W f => by
  refine El_eeea (h e W f) fun k c' e' h1 h2 => ?_
  exact ⟨k, c', e', by exact Nat.le_trans h1 l, h2⟩
theorem Wi.mono (h : Wi L N n c Q) (g : ∀ c', Q c' → Q' c') : Wi L N n c Q' := fun e W f => by
  refine El_eeeaaaa (h e W f) fun k c' e' h1 h2 h3 h4 h5 => ?_
  exact ⟨k, c', e', h1, h2, h3, h4, g _ h5⟩
theorem Wi.wf (h : WF L N c → Wi L N n c Q) : Wi L N n c Q := fun e W f => h W e W f
end
noncomputable def gs (L : List Nat) (N : Nat) : Nat → Co → (Co → Prop) → Prop
  | 0, c, Q => Q c
  | k + 1, c, Q => nx L N c fun c' => gs L N k c' Q
theorem gs_ok {L : List Nat} {N : Nat} : ∀ {k : Nat} {c : Co} {Q : Co → Prop}, gs L N k c Q → Wi L N k c Q
  | 0, c, Q, h => Wi.ret h
  | k + 1, c, Q, h => fun e W f => by
    refine El_aaeeaaa (nx_ok W f h) fun h1 h2 c' e' h3 h4 h5 h6 => ?_
    refine El_eeeaaaa (gs_ok h3 e' h4 h5) fun k' c'' e'' g1 g2 g3 g4 g5 => ?_
    exact ⟨k' + 1, c'', e'', by exact Nat.add_le_add_right g1 1, .cons h1 h2 f h5 h6 g2, g3, g4, g5⟩
end
end Mine

end
section
open PySem PySem.W PyProof.Rows
namespace Mine
noncomputable section
structure InsB (L : List Nat) (n0 mv m1 m2 fi f1 f2 dn : Nat) : Prop where
  len : 512 + L.length = dn
  ba : ∀ (a x yy sp : Nat) (n v z cc : Bool) (m : Nat → Nat) (Q : Co → Prop), gs L 1088 1 ⟨a, x, yy, sp, 512, n, v, z, cc, m⟩ Q = (Q ⟨a, x, 1, sp, 514, decide (128 ≤ 1), v, decide (1 = 0), cc, m⟩)
  bb : ∀ (a x yy sp : Nat) (n v z cc : Bool) (m : Nat → Nat) (Q : Co → Prop), gs L 1088 2 ⟨a, x, yy, sp, 514, n, v, z, cc, m⟩ Q = (ifB (decide (n0 ≤ yy)) (Q ⟨a, x, yy, sp, dn, decide (128 ≤ (yy + 256 - n0) % 256), v, decide (yy = n0), decide (n0 ≤ yy), m⟩) (Q ⟨a, x, yy, sp, 518, decide (128 ≤ (yy + 256 - n0) % 256), v, decide (yy = n0), decide (n0 ≤ yy), m⟩))
  bc : ∀ (a x yy sp : Nat) (n v z cc : Bool) (m : Nat → Nat) (Q : Co → Prop), gs L 1088 1 ⟨a, x, yy, sp, 518, n, v, z, cc, m⟩ Q = (Q ⟨a, x, yy, sp, 520, n, v, z, cc, (up m 34 yy)⟩)
  bd : ∀ (a x yy sp : Nat) (n v z cc : Bool) (m : Nat → Nat) (Q : Co → Prop), gs L 1088 2 ⟨a, x, yy, sp, 520, n, v, z, cc, m⟩ Q = ((m 42 + 256 * m 43 + yy < 1088) ∧ Q ⟨m (m 42 + 256 * m 43 + yy), x, yy, sp, 524, decide (128 ≤ m (m 42 + 256 * m 43 + yy)), v, decide (m (m 42 + 256 * m 43 + yy) = 0), cc, (up m 32 (m (m 42 + 256 * m 43 + yy)))⟩)
  be : ∀ (a x yy sp : Nat) (n v z cc : Bool) (m : Nat → Nat) (Q : Co → Prop), gs L 1088 2 ⟨a, x, yy, sp, 524, n, v, z, cc, m⟩ Q = ((m 46 + 256 * m 47 + yy < 1088) ∧ Q ⟨m (m 46 + 256 * m 47 + yy), x, yy, sp, 528, decide (128 ≤ m (m 46 + 256 * m 47 + yy)), v, decide (m (m 46 + 256 * m 47 + yy) = 0), cc, (up m 33 (m (m 46 + 256 * m 47 + yy)))⟩)
  bm : ∀ (a x yy sp : Nat) (n v z cc : Bool) (m : Nat → Nat) (Q : Co → Prop), gs L 1088 2 ⟨a, x, yy, sp, mv, n, v, z, cc, m⟩ Q = ((m 40 + 256 * m 41 + yy < 1088) ∧ (m 42 + 256 * m 43 + yy < 1088) ∧ (m 42 + 256 * m 43 + yy < 512 ∨ dn ≤ m 42 + 256 * m 43 + yy) ∧ Q ⟨m (m 40 + 256 * m 41 + yy), x, yy, sp, m1, decide (128 ≤ m (m 40 + 256 * m 41 + yy)), v, decide (m (m 40 + 256 * m 41 + yy) = 0), cc, (up m (m 42 + 256 * m 43 + yy) (m (m 40 + 256 * m 41 + yy)))⟩)
  bo : ∀ (a x yy sp : Nat) (n v z cc : Bool) (m : Nat → Nat) (Q : Co → Prop), gs L 1088 2 ⟨a, x, yy, sp, m1, n, v, z, cc, m⟩ Q = ((m 44 + 256 * m 45 + yy < 1088) ∧ (m 46 + 256 * m 47 + yy < 1088) ∧ (m 46 + 256 * m 47 + yy < 512 ∨ dn ≤ m 46 + 256 * m 47 + yy) ∧ Q ⟨m (m 44 + 256 * m 45 + yy), x, yy, sp, m2, decide (128 ≤ m (m 44 + 256 * m 45 + yy)), v, decide (m (m 44 + 256 * m 45 + yy) = 0), cc, (up m (m 46 + 256 * m 47 + yy) (m (m 44 + 256 * m 45 + yy)))⟩)
  bp : ∀ (a x yy sp : Nat) (n v z cc : Bool) (m : Nat → Nat) (Q : Co → Prop), gs L 1088 2 ⟨a, x, yy, sp, m2, n, v, z, cc, m⟩ Q = (ifB (!(decide ((yy + 255) % 256 = 0))) (Q ⟨a, x, (yy + 255) % 256, sp, 528, decide (128 ≤ (yy + 255) % 256), v, decide ((yy + 255) % 256 = 0), cc, m⟩) (Q ⟨a, x, (yy + 255) % 256, sp, fi, decide (128 ≤ (yy + 255) % 256), v, decide ((yy + 255) % 256 = 0), cc, m⟩))
  bf : ∀ (a x yy sp : Nat) (n v z cc : Bool) (m : Nat → Nat) (Q : Co → Prop), gs L 1088 2 ⟨a, x, yy, sp, fi, n, v, z, cc, m⟩ Q = ((m 42 + 256 * m 43 + yy < 1088) ∧ (m 42 + 256 * m 43 + yy < 512 ∨ dn ≤ m 42 + 256 * m 43 + yy) ∧ Q ⟨m 32, x, yy, sp, f1, decide (128 ≤ m 32), v, decide (m 32 = 0), cc, (up m (m 42 + 256 * m 43 + yy) (m 32))⟩)
  bg : ∀ (a x yy sp : Nat) (n v z cc : Bool) (m : Nat → Nat) (Q : Co → Prop), gs L 1088 2 ⟨a, x, yy, sp, f1, n, v, z, cc, m⟩ Q = ((m 46 + 256 * m 47 + yy < 1088) ∧ (m 46 + 256 * m 47 + yy < 512 ∨ dn ≤ m 46 + 256 * m 47 + yy) ∧ Q ⟨m 33, x, yy, sp, f2, decide (128 ≤ m 33), v, decide (m 33 = 0), cc, (up m (m 46 + 256 * m 47 + yy) (m 33))⟩)
  bh : ∀ (a x yy sp : Nat) (n v z cc : Bool) (m : Nat → Nat) (Q : Co → Prop), gs L 1088 3 ⟨a, x, yy, sp, f2, n, v, z, cc, m⟩ Q = (ifB (!(decide (((m 34) + 1) % 256 = 0))) (Q ⟨a, x, ((m 34) + 1) % 256, sp, 514, decide (128 ≤ ((m 34) + 1) % 256), v, decide (((m 34) + 1) % 256 = 0), cc, m⟩) (Q ⟨a, x, ((m 34) + 1) % 256, sp, dn, decide (128 ≤ ((m 34) + 1) % 256), v, decide (((m 34) + 1) % 256 = 0), cc, m⟩))
noncomputable abbrev iC7 (n0 t0 t1 t2 t3 t4 t5 t6 : Nat) : List Nat := [160, 1, 192, n0, 176, 41, 132, 34, 177, 42, 133, 32, 177, 46, 133, 33, t0, t1, t2, t3, t4, t5, t6, 177, 40, 145, 42, 177, 44, 145, 46, 136, 208, 238, 165, 32, 145, 42, 165, 33, 145, 46, 164, 34, 200, 208, 211]
theorem i7_ok (n0 t0 t1 t2 t3 t4 t5 t6 : Nat) : InsB (iC7 n0 t0 t1 t2 t3 t4 t5 t6) n0 535 539 543 546 550 554 559 :=
  ⟨rfl, fun a x yy sp n v z cc m Q => by kernel_rfl, fun a x yy sp n v z cc m Q => by kernel_rfl, fun a x yy sp n v z cc m Q => by kernel_rfl, fun a x yy sp n v z cc m Q => by kernel_rfl, fun a x yy sp n v z cc m Q => by kernel_rfl, fun a x yy sp n v z cc m Q => by kernel_rfl, fun a x yy sp n v z cc m Q => by kernel_rfl, fun a x yy sp n v z cc m Q => by kernel_rfl, fun a x yy sp n v z cc m Q => by kernel_rfl, fun a x yy sp n v z cc m Q => by kernel_rfl, fun a x yy sp n v z cc m Q => by kernel_rfl⟩
noncomputable abbrev iC11 (n0 t0 t1 t2 t3 t4 t5 t6 t7 t8 t9 t10 : Nat) : List Nat := [160, 1, 192, n0, 176, 45, 132, 34, 177, 42, 133, 32, 177, 46, 133, 33, t0, t1, t2, t3, t4, t5, t6, t7, t8, t9, t10, 177, 40, 145, 42, 177, 44, 145, 46, 136, 208, 234, 165, 32, 145, 42, 165, 33, 145, 46, 164, 34, 200, 208, 207]
theorem i11_ok (n0 t0 t1 t2 t3 t4 t5 t6 t7 t8 t9 t10 : Nat) : InsB (iC11 n0 t0 t1 t2 t3 t4 t5 t6 t7 t8 t9 t10) n0 539 543 547 550 554 558 563 :=
  ⟨rfl, fun a x yy sp n v z cc m Q => by kernel_rfl, fun a x yy sp n v z cc m Q => by kernel_rfl, fun a x yy sp n v z cc m Q => by kernel_rfl, fun a x yy sp n v z cc m Q => by kernel_rfl, fun a x yy sp n v z cc m Q => by kernel_rfl, fun a x yy sp n v z cc m Q => by kernel_rfl, fun a x yy sp n v z cc m Q => by kernel_rfl, fun a x yy sp n v z cc m Q => by kernel_rfl, fun a x yy sp n v z cc m Q => by kernel_rfl, fun a x yy sp n v z cc m Q => by kernel_rfl, fun a x yy sp n v z cc m Q => by kernel_rfl⟩
noncomputable abbrev iC10 (n0 t0 t1 t2 t3 t4 t5 t6 t7 t8 t9 : Nat) : List Nat := [160, 1, 192, n0, 176, 44, 132, 34, 177, 42, 133, 32, 177, 46, 133, 33, t0, t1, t2, t3, t4, t5, t6, t7, t8, t9, 177, 40, 145, 42, 177, 44, 145, 46, 136, 208, 235, 165, 32, 145, 42, 165, 33, 145, 46, 164, 34, 200, 208, 208]
theorem i10_ok (n0 t0 t1 t2 t3 t4 t5 t6 t7 t8 t9 : Nat) : InsB (iC10 n0 t0 t1 t2 t3 t4 t5 t6 t7 t8 t9) n0 538 542 546 549 553 557 562 :=
  ⟨rfl, fun a x yy sp n v z cc m Q => by kernel_rfl, fun a x yy sp n v z cc m Q => by kernel_rfl, fun a x yy sp n v z cc m Q => by kernel_rfl, fun a x yy sp n v z cc m Q => by kernel_rfl, fun a x yy sp n v z cc m Q => by kernel_rfl, fun a x yy sp n v z cc m Q => by kernel_rfl, fun a x yy sp n v z cc m Q => by kernel_rfl, fun a x yy sp n v z cc m Q => by kernel_rfl, fun a x yy sp n v z cc m Q => by kernel_rfl, fun a x yy sp n v z cc m Q => by kernel_rfl, fun a x yy sp n v z cc m Q => by kernel_rfl⟩
noncomputable abbrev iC14 (n0 t0 t1 t2 t3 t4 t5 t6 t7 t8 t9 t10 t11 t12 t13 : Nat) : List Nat := [160, 1, 192, n0, 176, 48, 132, 34, 177, 42, 133, 32, 177, 46, 133, 33, t0, t1, t2, t3, t4, t5, t6, t7, t8, t9, t10, t11, t12, t13, 177, 40, 145, 42, 177, 44, 145, 46, 136, 208, 231, 165, 32, 145, 42, 165, 33, 145, 46, 164, 34, 200, 208, 204]
theorem i14_ok (n0 t0 t1 t2 t3 t4 t5 t6 t7 t8 t9 t10 t11 t12 t13 : Nat) : InsB (iC14 n0 t0 t1 t2 t3 t4 t5 t6 t7 t8 t9 t10 t11 t12 t13) n0 542 546 550 553 557 561 566 :=
  ⟨rfl, fun a x yy sp n v z cc m Q => by kernel_rfl, fun a x yy sp n v z cc m Q => by kernel_rfl, fun a x yy sp n v z cc m Q => by kernel_rfl, fun a x yy sp n v z cc m Q => by kernel_rfl, fun a x yy sp n v z cc m Q => by kernel_rfl, fun a x yy sp n v z cc m Q => by kernel_rfl, fun a x yy sp n v z cc m Q => by kernel_rfl, fun a x yy sp n v z cc m Q => by kernel_rfl, fun a x yy sp n v z cc m Q => by kernel_rfl, fun a x yy sp n v z cc m Q => by kernel_rfl, fun a x yy sp n v z cc m Q => by kernel_rfl⟩
noncomputable abbrev I000 (n0 : Nat) : List Nat := iC7 n0 56 165 33 241 44 176 11
theorem i000_t {n0 : Nat} (a x yy sp : Nat) (n v z cc : Bool) (m : Nat → Nat) (Q : Co → Prop) : gs (I000 n0) 1088 4 ⟨a, x, yy, sp, 528, n, v, z, cc, m⟩ Q = ((m 44 + 256 * m 45 + yy < 1088) ∧ ifB (decide (256 ≤ ((m 33) + (255 - (m (m 44 + 256 * m 45 + yy))) + Bool.toNat true))) (Q ⟨((m 33) + (255 - (m (m 44 + 256 * m 45 + yy))) + Bool.toNat true) % 256, x, yy, sp, 546, decide (128 ≤ ((m 33) + (255 - (m (m 44 + 256 * m 45 + yy))) + Bool.toNat true) % 256), sbV (m 33) (m (m 44 + 256 * m 45 + yy)) ((m 33) + (255 - (m (m 44 + 256 * m 45 + yy))) + Bool.toNat true), decide (((m 33) + (255 - (m (m 44 + 256 * m 45 + yy))) + Bool.toNat true) % 256 = 0), decide (256 ≤ ((m 33) + (255 - (m (m 44 + 256 * m 45 + yy))) + Bool.toNat true)), m⟩) (Q ⟨((m 33) + (255 - (m (m 44 + 256 * m 45 + yy))) + Bool.toNat true) % 256, x, yy, sp, 535, decide (128 ≤ ((m 33) + (255 - (m (m 44 + 256 * m 45 + yy))) + Bool.toNat true) % 256), sbV (m 33) (m (m 44 + 256 * m 45 + yy)) ((m 33) + (255 - (m (m 44 + 256 * m 45 + yy))) + Bool.toNat true), decide (((m 33) + (255 - (m (m 44 + 256 * m 45 + yy))) + Bool.toNat true) % 256 = 0), decide (256 ≤ ((m 33) + (255 - (m (m 44 + 256 * m 45 + yy))) + Bool.toNat true)), m⟩)) := by kernel_rfl
noncomputable abbrev I001 (n0 : Nat) : List Nat := iC7 n0 56 177 44 229 33 176 11
theorem i001_t {n0 : Nat} (a x yy sp : Nat) (n v z cc : Bool) (m : Nat → Nat) (Q : Co → Prop) : gs (I001 n0) 1088 4 ⟨a, x, yy, sp, 528, n, v, z, cc, m⟩ Q = ((m 44 + 256 * m 45 + yy < 1088) ∧ ifB (decide (256 ≤ ((m (m 44 + 256 * m 45 + yy)) + (255 - (m 33)) + Bool.toNat true))) (Q ⟨((m (m 44 + 256 * m 45 + yy)) + (255 - (m 33)) + Bool.toNat true) % 256, x, yy, sp, 546, decide (128 ≤ ((m (m 44 + 256 * m 45 + yy)) + (255 - (m 33)) + Bool.toNat true) % 256), sbV (m (m 44 + 256 * m 45 + yy)) (m 33) ((m (m 44 + 256 * m 45 + yy)) + (255 - (m 33)) + Bool.toNat true), decide (((m (m 44 + 256 * m 45 + yy)) + (255 - (m 33)) + Bool.toNat true) % 256 = 0), decide (256 ≤ ((m (m 44 + 256 * m 45 + yy)) + (255 - (m 33)) + Bool.toNat true)), m⟩) (Q ⟨((m (m 44 + 256 * m 45 + yy)) + (255 - (m 33)) + Bool.toNat true) % 256, x, yy, sp, 535, decide (128 ≤ ((m (m 44 + 256 * m 45 + yy)) + (255 - (m 33)) + Bool.toNat true) % 256), sbV (m (m 44 + 256 * m 45 + yy)) (m 33) ((m (m 44 + 256 * m 45 + yy)) + (255 - (m 33)) + Bool.toNat true), decide (((m (m 44 + 256 * m 45 + yy)) + (255 - (m 33)) + Bool.toNat true) % 256 = 0), decide (256 ≤ ((m (m 44 + 256 * m 45 + yy)) + (255 - (m 33)) + Bool.toNat true)), m⟩)) := by kernel_rfl
noncomputable abbrev I010 (n0 : Nat) : List Nat := iC11 n0 56 165 33 241 44 80 2 73 128 16 11
theorem i010_t {n0 : Nat} (a x yy sp : Nat) (n v z cc : Bool) (m : Nat → Nat) (Q : Co → Prop) : gs (I010 n0) 1088 4 ⟨a, x, yy, sp, 528, n, v, z, cc, m⟩ Q = ((m 44 + 256 * m 45 + yy < 1088) ∧ ifB (!(sbV (m 33) (m (m 44 + 256 * m 45 + yy)) ((m 33) + (255 - (m (m 44 + 256 * m 45 + yy))) + Bool.toNat true))) (Q ⟨((m 33) + (255 - (m (m 44 + 256 * m 45 + yy))) + Bool.toNat true) % 256, x, yy, sp, 537, decide (128 ≤ ((m 33) + (255 - (m (m 44 + 256 * m 45 + yy))) + Bool.toNat true) % 256), sbV (m 33) (m (m 44 + 256 * m 45 + yy)) ((m 33) + (255 - (m (m 44 + 256 * m 45 + yy))) + Bool.toNat true), decide (((m 33) + (255 - (m (m 44 + 256 * m 45 + yy))) + Bool.toNat true) % 256 = 0), decide (256 ≤ ((m 33) + (255 - (m (m 44 + 256 * m 45 + yy))) + Bool.toNat true)), m⟩) (Q ⟨((m 33) + (255 - (m (m 44 + 256 * m 45 + yy))) + Bool.toNat true) % 256, x, yy, sp, 535, decide (128 ≤ ((m 33) + (255 - (m (m 44 + 256 * m 45 + yy))) + Bool.toNat true) % 256), sbV (m 33) (m (m 44 + 256 * m 45 + yy)) ((m 33) + (255 - (m (m 44 + 256 * m 45 + yy))) + Bool.toNat true), decide (((m 33) + (255 - (m (m 44 + 256 * m 45 + yy))) + Bool.toNat true) % 256 = 0), decide (256 ≤ ((m 33) + (255 - (m (m 44 + 256 * m 45 + yy))) + Bool.toNat true)), m⟩)) := by kernel_rfl
theorem i010_e {n0 : Nat} (a x yy sp : Nat) (n v z cc : Bool) (m : Nat → Nat) (Q : Co → Prop) : gs (I010 n0) 1088 2 ⟨a, x, yy, sp, 535, n, v, z, cc, m⟩ Q = (ifB (!(decide (128 ≤ (a ^^^ 128)))) (Q ⟨(a ^^^ 128), x, yy, sp, 550, decide (128 ≤ (a ^^^ 128)), v, decide ((a ^^^ 128) = 0), cc, m⟩) (Q ⟨(a ^^^ 128), x, yy, sp, 539, decide (128 ≤ (a ^^^ 128)), v, decide ((a ^^^ 128) = 0), cc, m⟩)) := by kernel_rfl
theorem i010_p {n0 : Nat} (a x yy sp : Nat) (n v z cc : Bool) (m : Nat → Nat) (Q : Co → Prop) : gs (I010 n0) 1088 1 ⟨a, x, yy, sp, 537, n, v, z, cc, m⟩ Q = (ifB (!n) (Q ⟨a, x, yy, sp, 550, n, v, z, cc, m⟩) (Q ⟨a, x, yy, sp, 539, n, v, z, cc, m⟩)) := by kernel_rfl
noncomputable abbrev I011 (n0 : Nat) : List Nat := iC11 n0 56 177 44 229 33 80 2 73 128 16 11
theorem i011_t {n0 : Nat} (a x yy sp : Nat) (n v z cc : Bool) (m : Nat → Nat) (Q : Co → Prop) : gs (I011 n0) 1088 4 ⟨a, x, yy, sp, 528, n, v, z, cc, m⟩ Q = ((m 44 + 256 * m 45 + yy < 1088) ∧ ifB (!(sbV (m (m 44 + 256 * m 45 + yy)) (m 33) ((m (m 44 + 256 * m 45 + yy)) + (255 - (m 33)) + Bool.toNat true))) (Q ⟨((m (m 44 + 256 * m 45 + yy)) + (255 - (m 33)) + Bool.toNat true) % 256, x, yy, sp, 537, decide (128 ≤ ((m (m 44 + 256 * m 45 + yy)) + (255 - (m 33)) + Bool.toNat true) % 256), sbV (m (m 44 + 256 * m 45 + yy)) (m 33) ((m (m 44 + 256 * m 45 + yy)) + (255 - (m 33)) + Bool.toNat true), decide (((m (m 44 + 256 * m 45 + yy)) + (255 - (m 33)) + Bool.toNat true) % 256 = 0), decide (256 ≤ ((m (m 44 + 256 * m 45 + yy)) + (255 - (m 33)) + Bool.toNat true)), m⟩) (Q ⟨((m (m 44 + 256 * m 45 + yy)) + (255 - (m 33)) + Bool.toNat true) % 256, x, yy, sp, 535, decide (128 ≤ ((m (m 44 + 256 * m 45 + yy)) + (255 - (m 33)) + Bool.toNat true) % 256), sbV (m (m 44 + 256 * m 45 + yy)) (m 33) ((m (m 44 + 256 * m 45 + yy)) + (255 - (m 33)) + Bool.toNat true), decide (((m (m 44 + 256 * m 45 + yy)) + (255 - (m 33)) + Bool.toNat true) % 256 = 0), decide (256 ≤ ((m (m 44 + 256 * m 45 + yy)) + (255 - (m 33)) + Bool.toNat true)), m⟩)) := by kernel_rfl
theorem i011_e {n0 : Nat} (a x yy sp : Nat) (n v z cc : Bool) (m : Nat → Nat) (Q : Co → Prop) : gs (I011 n0) 1088 2 ⟨a, x, yy, sp, 535, n, v, z, cc, m⟩ Q = (ifB (!(decide (128 ≤ (a ^^^ 128)))) (Q ⟨(a ^^^ 128), x, yy, sp, 550, decide (128 ≤ (a ^^^ 128)), v, decide ((a ^^^ 128) = 0), cc, m⟩) (Q ⟨(a ^^^ 128), x, yy, sp, 539, decide (128 ≤ (a ^^^ 128)), v, decide ((a ^^^ 128) = 0), cc, m⟩)) := by kernel_rfl
theorem i011_p {n0 : Nat} (a x yy sp : Nat) (n v z cc : Bool) (m : Nat → Nat) (Q : Co → Prop) : gs (I011 n0) 1088 1 ⟨a, x, yy, sp, 537, n, v, z, cc, m⟩ Q = (ifB (!n) (Q ⟨a, x, yy, sp, 550, n, v, z, cc, m⟩) (Q ⟨a, x, yy, sp, 539, n, v, z, cc, m⟩)) := by kernel_rfl
noncomputable abbrev I100 (n0 : Nat) : List Nat := iC10 n0 165 32 209 40 165 33 241 44 176 11
theorem i100_t {n0 : Nat} (a x yy sp : Nat) (n v z cc : Bool) (m : Nat → Nat) (Q : Co → Prop) : gs (I100 n0) 1088 5 ⟨a, x, yy, sp, 528, n, v, z, cc, m⟩ Q = ((m 40 + 256 * m 41 + yy < 1088) ∧ (m 44 + 256 * m 45 + yy < 1088) ∧ ifB (decide (256 ≤ ((m 33) + (255 - (m (m 44 + 256 * m 45 + yy))) + Bool.toNat (decide (m (m 40 + 256 * m 41 + yy) ≤ m 32))))) (Q ⟨((m 33) + (255 - (m (m 44 + 256 * m 45 + yy))) + Bool.toNat (decide (m (m 40 + 256 * m 41 + yy) ≤ m 32))) % 256, x, yy, sp, 549, decide (128 ≤ ((m 33) + (255 - (m (m 44 + 256 * m 45 + yy))) + Bool.toNat (decide (m (m 40 + 256 * m 41 + yy) ≤ m 32))) % 256), sbV (m 33) (m (m 44 + 256 * m 45 + yy)) ((m 33) + (255 - (m (m 44 + 256 * m 45 + yy))) + Bool.toNat (decide (m (m 40 + 256 * m 41 + yy) ≤ m 32))), decide (((m 33) + (255 - (m (m 44 + 256 * m 45 + yy))) + Bool.toNat (decide (m (m 40 + 256 * m 41 + yy) ≤ m 32))) % 256 = 0), decide (256 ≤ ((m 33) + (255 - (m (m 44 + 256 * m 45 + yy))) + Bool.toNat (decide (m (m 40 + 256 * m 41 + yy) ≤ m 32)))), m⟩) (Q ⟨((m 33) + (255 - (m (m 44 + 256 * m 45 + yy))) + Bool.toNat (decide (m (m 40 + 256 * m 41 + yy) ≤ m 32))) % 256, x, yy, sp, 538, decide (128 ≤ ((m 33) + (255 - (m (m 44 + 256 * m 45 + yy))) + Bool.toNat (decide (m (m 40 + 256 * m 41 + yy) ≤ m 32))) % 256), sbV (m 33) (m (m 44 + 256 * m 45 + yy)) ((m 33) + (255 - (m (m 44 + 256 * m 45 + yy))) + Bool.toNat (decide (m (m 40 + 256 * m 41 + yy) ≤ m 32))), decide (((m 33) + (255 - (m (m 44 + 256 * m 45 + yy))) + Bool.toNat (decide (m (m 40 + 256 * m 41 + yy) ≤ m 32))) % 256 = 0), decide (256 ≤ ((m 33) + (255 - (m (m 44 + 256 * m 45 + yy))) + Bool.toNat (decide (m (m 40 + 256 * m 41 + yy) ≤ m 32)))), m⟩)) := by kernel_rfl
noncomputable abbrev I101 (n0 : Nat) : List Nat := iC10 n0 177 40 197 32 177 44 229 33 176 11
theorem i101_t {n0 : Nat} (a x yy sp : Nat) (n v z cc : Bool) (m : Nat → Nat) (Q : Co → Prop) : gs (I101 n0) 1088 5 ⟨a, x, yy, sp, 528, n, v, z, cc, m⟩ Q = ((m 40 + 256 * m 41 + yy < 1088) ∧ (m 44 + 256 * m 45 + yy < 1088) ∧ ifB (decide (256 ≤ ((m (m 44 + 256 * m 45 + yy)) + (255 - (m 33)) + Bool.toNat (decide (m 32 ≤ m (m 40 + 256 * m 41 + yy)))))) (Q ⟨((m (m 44 + 256 * m 45 + yy)) + (255 - (m 33)) + Bool.toNat (decide (m 32 ≤ m (m 40 + 256 * m 41 + yy)))) % 256, x, yy, sp, 549, decide (128 ≤ ((m (m 44 + 256 * m 45 + yy)) + (255 - (m 33)) + Bool.toNat (decide (m 32 ≤ m (m 40 + 256 * m 41 + yy)))) % 256), sbV (m (m 44 + 256 * m 45 + yy)) (m 33) ((m (m 44 + 256 * m 45 + yy)) + (255 - (m 33)) + Bool.toNat (decide (m 32 ≤ m (m 40 + 256 * m 41 + yy)))), decide (((m (m 44 + 256 * m 45 + yy)) + (255 - (m 33)) + Bool.toNat (decide (m 32 ≤ m (m 40 + 256 * m 41 + yy)))) % 256 = 0), decide (256 ≤ ((m (m 44 + 256 * m 45 + yy)) + (255 - (m 33)) + Bool.toNat (decide (m 32 ≤ m (m 40 + 256 * m 41 + yy))))), m⟩) (Q ⟨((m (m 44 + 256 * m 45 + yy)) + (255 - (m 33)) + Bool.toNat (decide (m 32 ≤ m (m 40 + 256 * m 41 + yy)))) % 256, x, yy, sp, 538, decide (128 ≤ ((m (m 44 + 256 * m 45 + yy)) + (255 - (m 33)) + Bool.toNat (decide (m 32 ≤ m (m 40 + 256 * m 41 + yy)))) % 256), sbV (m (m 44 + 256 * m 45 + yy)) (m 33) ((m (m 44 + 256 * m 45 + yy)) + (255 - (m 33)) + Bool.toNat (decide (m 32 ≤ m (m 40 + 256 * m 41 + yy)))), decide (((m (m 44 + 256 * m 45 + yy)) + (255 - (m 33)) + Bool.toNat (decide (m 32 ≤ m (m 40 + 256 * m 41 + yy)))) % 256 = 0), decide (256 ≤ ((m (m 44 + 256 * m 45 + yy)) + (255 - (m 33)) + Bool.toNat (decide (m 32 ≤ m (m 40 + 256 * m 41 + yy))))), m⟩)) := by kernel_rfl
noncomputable abbrev I110 (n0 : Nat) : List Nat := iC14 n0 165 32 209 40 165 33 241 44 80 2 73 128 16 11
theorem i110_t {n0 : Nat} (a x yy sp : Nat) (n v z cc : Bool) (m : Nat → Nat) (Q : Co → Prop) : gs (I110 n0) 1088 5 ⟨a, x, yy, sp, 528, n, v, z, cc, m⟩ Q = ((m 40 + 256 * m 41 + yy < 1088) ∧ (m 44 + 256 * m 45 + yy < 1088) ∧ ifB (!(sbV (m 33) (m (m 44 + 256 * m 45 + yy)) ((m 33) + (255 - (m (m 44 + 256 * m 45 + yy))) + Bool.toNat (decide (m (m 40 + 256 * m 41 + yy) ≤ m 32))))) (Q ⟨((m 33) + (255 - (m (m 44 + 256 * m 45 + yy))) + Bool.toNat (decide (m (m 40 + 256 * m 41 + yy) ≤ m 32))) % 256, x, yy, sp, 540, decide (128 ≤ ((m 33) + (255 - (m (m 44 + 256 * m 45 + yy))) + Bool.toNat (decide (m (m 40 + 256 * m 41 + yy) ≤ m 32))) % 256), sbV (m 33) (m (m 44 + 256 * m 45 + yy)) ((m 33) + (255 - (m (m 44 + 256 * m 45 + yy))) + Bool.toNat (decide (m (m 40 + 256 * m 41 + yy) ≤ m 32))), decide (((m 33) + (255 - (m (m 44 + 256 * m 45 + yy))) + Bool.toNat (decide (m (m 40 + 256 * m 41 + yy) ≤ m 32))) % 256 = 0), decide (256 ≤ ((m 33) + (255 - (m (m 44 + 256 * m 45 + yy))) + Bool.toNat (decide (m (m 40 + 256 * m 41 + yy) ≤ m 32)))), m⟩) (Q ⟨((m 33) + (255 - (m (m 44 + 256 * m 45 + yy))) + Bool.toNat (decide (m (m 40 + 256 * m 41 + yy) ≤ m 32))) % 256, x, yy, sp, 538, decide (128 ≤ ((m 33) + (255 - (m (m 44 + 256 * m 45 + yy))) + Bool.toNat (decide (m (m 40 + 256 * m 41 + yy) ≤ m 32))) % 256), sbV (m 33) (m (m 44 + 256 * m 45 + yy)) ((m 33) + (255 - (m (m 44 + 256 * m 45 + yy))) + Bool.toNat (decide (m (m 40 + 256 * m 41 + yy) ≤ m 32))), decide (((m 33) + (255 - (m (m 44 + 256 * m 45 + yy))) + Bool.toNat (decide (m (m 40 + 256 * m 41 + yy) ≤ m 32))) % 256 = 0), decide (256 ≤ ((m 33) + (255 - (m (m 44 + 256 * m 45 + yy))) + Bool.toNat (decide (m (m 40 + 256 * m 41 + yy) ≤ m 32)))), m⟩)) := by kernel_rfl
theorem i110_e {n0 : Nat} (a x yy sp : Nat) (n v z cc : Bool) (m : Nat → Nat) (Q : Co → Prop) : gs (I110 n0) 1088 2 ⟨a, x, yy, sp, 538, n, v, z, cc, m⟩ Q = (ifB (!(decide (128 ≤ (a ^^^ 128)))) (Q ⟨(a ^^^ 128), x, yy, sp, 553, decide (128 ≤ (a ^^^ 128)), v, decide ((a ^^^ 128) = 0), cc, m⟩) (Q ⟨(a ^^^ 128), x, yy, sp, 542, decide (128 ≤ (a ^^^ 128)), v, decide ((a ^^^ 128) = 0), cc, m⟩)) := by kernel_rfl
theorem i110_p {n0 : Nat} (a x yy sp : Nat) (n v z cc : Bool) (m : Nat → Nat) (Q : Co → Prop) : gs (I110 n0) 1088 1 ⟨a, x, yy, sp, 540, n, v, z, cc, m⟩ Q = (ifB (!n) (Q ⟨a, x, yy, sp, 553, n, v, z, cc, m⟩) (Q ⟨a, x, yy, sp, 542, n, v, z, cc, m⟩)) := by kernel_rfl
noncomputable abbrev I111 (n0 : Nat) : List Nat := iC14 n0 177 40 197 32 177 44 229 33 80 2 73 128 16 11
theorem i111_t {n0 : Nat} (a x yy sp : Nat) (n v z cc : Bool) (m : Nat → Nat) (Q : Co → Prop) : gs (I111 n0) 1088 5 ⟨a, x, yy, sp, 528, n, v, z, cc, m⟩ Q = ((m 40 + 256 * m 41 + yy < 1088) ∧ (m 44 + 256 * m 45 + yy < 1088) ∧ ifB (!(sbV (m (m 44 + 256 * m 45 + yy)) (m 33) ((m (m 44 + 256 * m 45 + yy)) + (255 - (m 33)) + Bool.toNat (decide (m 32 ≤ m (m 40 + 256 * m 41 + yy)))))) (Q ⟨((m (m 44 + 256 * m 45 + yy)) + (255 - (m 33)) + Bool.toNat (decide (m 32 ≤ m (m 40 + 256 * m 41 + yy)))) % 256, x, yy, sp, 540, decide (128 ≤ ((m (m 44 + 256 * m 45 + yy)) + (255 - (m 33)) + Bool.toNat (decide (m 32 ≤ m (m 40 + 256 * m 41 + yy)))) % 256), sbV (m (m 44 + 256 * m 45 + yy)) (m 33) ((m (m 44 + 256 * m 45 + yy)) + (255 - (m 33)) + Bool.toNat (decide (m 32 ≤ m (m 40 + 256 * m 41 + yy)))), decide (((m (m 44 + 256 * m 45 + yy)) + (255 - (m 33)) + Bool.toNat (decide (m 32 ≤ m (m 40 + 256 * m 41 + yy)))) % 256 = 0), decide (256 ≤ ((m (m 44 + 256 * m 45 + yy)) + (255 - (m 33)) + Bool.toNat (decide (m 32 ≤ m (m 40 + 256 * m 41 + yy))))), m⟩) (Q ⟨((m (m 44 + 256 * m 45 + yy)) + (255 - (m 33)) + Bool.toNat (decide (m 32 ≤ m (m 40 + 256 * m 41 + yy)))) % 256, x, yy, sp, 538, decide (128 ≤ ((m (m 44 + 256 * m 45 + yy)) + (255 - (m 33)) + Bool.toNat (decide (m 32 ≤ m (m 40 + 256 * m 41 + yy)))) % 256), sbV (m (m 44 + 256 * m 45 + yy)) (m 33) ((m (m 44 + 256 * m 45 + yy)) + (255 - (m 33)) + Bool.toNat (decide (m 32 ≤ m (m 40 + 256 * m 41 + yy)))), decide (((m (m 44 + 256 * m 45 + yy)) + (255 - (m 33)) + Bool.toNat (decide (m 32 ≤ m (m 40 + 256 * m 41 + yy)))) % 256 = 0), decide (256 ≤ ((m (m 44 + 256 * m 45 + yy)) + (255 - (m 33)) + Bool.toNat (decide (m 32 ≤ m (m 40 + 256 * m 41 + yy))))), m⟩)) := by kernel_rfl
theorem i111_e {n0 : Nat} (a x yy sp : Nat) (n v z cc : Bool) (m : Nat → Nat) (Q : Co → Prop) : gs (I111 n0) 1088 2 ⟨a, x, yy, sp, 538, n, v, z, cc, m⟩ Q = (ifB (!(decide (128 ≤ (a ^^^ 128)))) (Q ⟨(a ^^^ 128), x, yy, sp, 553, decide (128 ≤ (a ^^^ 128)), v, decide ((a ^^^ 128) = 0), cc, m⟩) (Q ⟨(a ^^^ 128), x, yy, sp, 542, decide (128 ≤ (a ^^^ 128)), v, decide ((a ^^^ 128) = 0), cc, m⟩)) := by kernel_rfl
theorem i111_p {n0 : Nat} (a x yy sp : Nat) (n v z cc : Bool) (m : Nat → Nat) (Q : Co → Prop) : gs (I111 n0) 1088 1 ⟨a, x, yy, sp, 540, n, v, z, cc, m⟩ Q = (ifB (!n) (Q ⟨a, x, yy, sp, 553, n, v, z, cc, m⟩) (Q ⟨a, x, yy, sp, 542, n, v, z, cc, m⟩)) := by kernel_rfl
end
end Mine

end
section
open PySem PySem.W PyProof.Rows
namespace Mine
noncomputable section
structure BubB (L : List Nat) (n1 ll lh ml mh hl hh kl kh sw s1 s2 s3 s4 s5 fi g0 g1 g2 dn : Nat) : Prop where
  len : 512 + L.length = dn
  ba : ∀ (a x yy sp : Nat) (n v z cc : Bool) (m : Nat → Nat) (Q : Co → Prop), gs L 1088 1 ⟨a, x, yy, sp, 512, n, v, z, cc, m⟩ Q = (Q ⟨a, n1, yy, sp, 514, decide (128 ≤ n1), v, decide (n1 = 0), cc, m⟩)
  bb : ∀ (a x yy sp : Nat) (n v z cc : Bool) (m : Nat → Nat) (Q : Co → Prop), gs L 1088 1 ⟨a, x, yy, sp, 514, n, v, z, cc, m⟩ Q = (Q ⟨a, x, yy, sp, 516, n, v, z, cc, (up m 34 x)⟩)
  bc : ∀ (a x yy sp : Nat) (n v z cc : Bool) (m : Nat → Nat) (Q : Co → Prop), gs L 1088 2 ⟨a, x, yy, sp, 516, n, v, z, cc, m⟩ Q = (Q ⟨a, 0, yy, sp, 520, decide (128 ≤ 0), v, decide (0 = 0), cc, (up m 35 0)⟩)
  bs : ∀ (a x yy sp : Nat) (n v z cc : Bool) (m : Nat → Nat) (Q : Co → Prop), gs L 1088 3 ⟨a, x, yy, sp, sw, n, v, z, cc, m⟩ Q = ((ll + 256 * lh + x < 1088) ∧ (ml + 256 * mh + x < 1088) ∧ (ml + 256 * mh + x < 1088) ∧ (ml + 256 * mh + x < 512 ∨ dn ≤ ml + 256 * mh + x) ∧ Q ⟨m (ll + 256 * lh + x), x, m (ml + 256 * mh + x), sp, s1, decide (128 ≤ m (ml + 256 * mh + x)), v, decide (m (ml + 256 * mh + x) = 0), cc, (up m (ml + 256 * mh + x) (m (ll + 256 * lh + x)))⟩)
  bt : ∀ (a x yy sp : Nat) (n v z cc : Bool) (m : Nat → Nat) (Q : Co → Prop), gs L 1088 2 ⟨a, x, yy, sp, s1, n, v, z, cc, m⟩ Q = ((ll + 256 * lh + x < 1088) ∧ (ll + 256 * lh + x < 512 ∨ dn ≤ ll + 256 * lh + x) ∧ Q ⟨yy, x, yy, sp, s2, decide (128 ≤ yy), v, decide (yy = 0), cc, (up m (ll + 256 * lh + x) yy)⟩)
  bu : ∀ (a x yy sp : Nat) (n v z cc : Bool) (m : Nat → Nat) (Q : Co → Prop), gs L 1088 3 ⟨a, x, yy, sp, s2, n, v, z, cc, m⟩ Q = ((hl + 256 * hh + x < 1088) ∧ (kl + 256 * kh + x < 1088) ∧ (kl + 256 * kh + x < 1088) ∧ (kl + 256 * kh + x < 512 ∨ dn ≤ kl + 256 * kh + x) ∧ Q ⟨m (hl + 256 * hh + x), x, m (kl + 256 * kh + x), sp, s3, decide (128 ≤ m (kl + 256 * kh + x)), v, decide (m (kl + 256 * kh + x) = 0), cc, (up m (kl + 256 * kh + x) (m (hl + 256 * hh + x)))⟩)
  bw : ∀ (a x yy sp : Nat) (n v z cc : Bool) (m : Nat → Nat) (Q : Co → Prop), gs L 1088 2 ⟨a, x, yy, sp, s3, n, v, z, cc, m⟩ Q = ((hl + 256 * hh + x < 1088) ∧ (hl + 256 * hh + x < 512 ∨ dn ≤ hl + 256 * hh + x) ∧ Q ⟨yy, x, yy, sp, s4, decide (128 ≤ yy), v, decide (yy = 0), cc, (up m (hl + 256 * hh + x) yy)⟩)
  bi : ∀ (a x yy sp : Nat) (n v z cc : Bool) (m : Nat → Nat) (Q : Co → Prop), gs L 1088 2 ⟨a, x, yy, sp, s4, n, v, z, cc, m⟩ Q = (Q ⟨a, (x + 1) % 256, yy, sp, s5, decide (128 ≤ (x + 1) % 256), v, decide ((x + 1) % 256 = 0), cc, (up m 35 ((x + 1) % 256))⟩)
  bk : ∀ (a x yy sp : Nat) (n v z cc : Bool) (m : Nat → Nat) (Q : Co → Prop), gs L 1088 1 ⟨a, x, yy, sp, s5, n, v, z, cc, m⟩ Q = (ifB (!z) (Q ⟨a, x, yy, sp, g0, n, v, z, cc, m⟩) (Q ⟨a, x, yy, sp, fi, n, v, z, cc, m⟩))
  bf : ∀ (a x yy sp : Nat) (n v z cc : Bool) (m : Nat → Nat) (Q : Co → Prop), gs L 1088 1 ⟨a, x, yy, sp, fi, n, v, z, cc, m⟩ Q = (Q ⟨a, (x + 1) % 256, yy, sp, g0, decide (128 ≤ (x + 1) % 256), v, decide ((x + 1) % 256 = 0), cc, m⟩)
  bg : ∀ (a x yy sp : Nat) (n v z cc : Bool) (m : Nat → Nat) (Q : Co → Prop), gs L 1088 2 ⟨a, x, yy, sp, g0, n, v, z, cc, m⟩ Q = (ifB (!(decide (m 34 ≤ x))) (Q ⟨a, x, yy, sp, 520, decide (128 ≤ (x + 256 - (m 34)) % 256), v, decide (x = m 34), decide (m 34 ≤ x), m⟩) (Q ⟨a, x, yy, sp, g1, decide (128 ≤ (x + 256 - (m 34)) % 256), v, decide (x = m 34), decide (m 34 ≤ x), m⟩))
  bh : ∀ (a x yy sp : Nat) (n v z cc : Bool) (m : Nat → Nat) (Q : Co → Prop), gs L 1088 2 ⟨a, x, yy, sp, g1, n, v, z, cc, m⟩ Q = (ifB (decide (m 35 = 0)) (Q ⟨a, m 35, yy, sp, dn, decide (128 ≤ m 35), v, decide (m 35 = 0), cc, m⟩) (Q ⟨a, m 35, yy, sp, g2, decide (128 ≤ m 35), v, decide (m 35 = 0), cc, m⟩))
  bj : ∀ (a x yy sp : Nat) (n v z cc : Bool) (m : Nat → Nat) (Q : Co → Prop), gs L 1088 2 ⟨a, x, yy, sp, g2, n, v, z, cc, m⟩ Q = (ifB (!(decide ((x + 255) % 256 = 0))) (Q ⟨a, (x + 255) % 256, yy, sp, 514, decide (128 ≤ (x + 255) % 256), v, decide ((x + 255) % 256 = 0), cc, m⟩) (Q ⟨a, (x + 255) % 256, yy, sp, dn, decide (128 ≤ (x + 255) % 256), v, decide ((x + 255) % 256 = 0), cc, m⟩))
noncomputable abbrev uC9 (n1 ll lh ml mh hl hh kl kh t0 t1 t2 t3 t4 t5 t6 t7 t8 : Nat) : List Nat := [162, n1, 134, 34, 162, 0, 134, 35, t0, t1, t2, t3, t4, t5, t6, t7, t8, 189, ll, lh, 188, ml, mh, 157, ml, mh, 152, 157, ll, lh, 189, hl, hh, 188, kl, kh, 157, kl, kh, 152, 157, hl, hh, 232, 134, 35, 208, 1, 232, 228, 34, 144, 211, 166, 35, 240, 3, 202, 208, 198]
theorem u9_ok (n1 ll lh ml mh hl hh kl kh t0 t1 t2 t3 t4 t5 t6 t7 t8 : Nat) : BubB (uC9 n1 ll lh ml mh hl hh kl kh t0 t1 t2 t3 t4 t5 t6 t7 t8) n1 ll lh ml mh hl hh kl kh 529 538 542 551 555 558 560 561 565 569 572 :=
  ⟨rfl, fun a x yy sp n v z cc m Q => by kernel_rfl, fun a x yy sp n v z cc m Q => by kernel_rfl, fun a x yy sp n v z cc m Q => by kernel_rfl, fun a x yy sp n v z cc m Q => by kernel_rfl, fun a x yy sp n v z cc m Q => by kernel_rfl, fun a x yy sp n v z cc m Q => by kernel_rfl, fun a x yy sp n v z cc m Q => by kernel_rfl, fun a x yy sp n v z cc m Q => by kernel_rfl, fun a x yy sp n v z cc m Q => by kernel_rfl, fun a x yy sp n v z cc m Q => by kernel_rfl, fun a x yy sp n v z cc m Q => by kernel_rfl, fun a x yy sp n v z cc m Q => by kernel_rfl, fun a x yy sp n v z cc m Q => by kernel_rfl⟩
noncomputable abbrev U000 (n1 ll lh ml mh hl hh kl kh : Nat) : List Nat := uC9 n1 ll lh ml mh hl hh kl kh 56 189 kl kh 253 hl hh 176 31
theorem u000_t {n1 ll lh ml mh hl hh kl kh : Nat} (a x yy sp : Nat) (n v z cc : Bool) (m : Nat → Nat) (Q : Co → Prop) : gs (U000 n1 ll lh ml mh hl hh kl kh) 1088 4 ⟨a, x, yy, sp, 520, n, v, z, cc, m⟩ Q = ((kl + 256 * kh + x < 1088) ∧ (hl + 256 * hh + x < 1088) ∧ ifB (decide (256 ≤ ((m (kl + 256 * kh + x)) + (255 - (m (hl + 256 * hh + x))) + Bool.toNat true))) (Q ⟨((m (kl + 256 * kh + x)) + (255 - (m (hl + 256 * hh + x))) + Bool.toNat true) % 256, x, yy, sp, 560, decide (128 ≤ ((m (kl + 256 * kh + x)) + (255 - (m (hl + 256 * hh + x))) + Bool.toNat true) % 256), sbV (m (kl + 256 * kh + x)) (m (hl + 256 * hh + x)) ((m (kl + 256 * kh + x)) + (255 - (m (hl + 256 * hh + x))) + Bool.toNat true), decide (((m (kl + 256 * kh + x)) + (255 - (m (hl + 256 * hh + x))) + Bool.toNat true) % 256 = 0), decide (256 ≤ ((m (kl + 256 * kh + x)) + (255 - (m (hl + 256 * hh + x))) + Bool.toNat true)), m⟩) (Q ⟨((m (kl + 256 * kh + x)) + (255 - (m (hl + 256 * hh + x))) + Bool.toNat true) % 256, x, yy, sp, 529, decide (128 ≤ ((m (kl + 256 * kh + x)) + (255 - (m (hl + 256 * hh + x))) + Bool.toNat true) % 256), sbV (m (kl + 256 * kh + x)) (m (hl + 256 * hh + x)) ((m (kl + 256 * kh + x)) + (255 - (m (hl + 256 * hh + x))) + Bool.toNat true), decide (((m (kl + 256 * kh + x)) + (255 - (m (hl + 256 * hh + x))) + Bool.toNat true) % 256 = 0), decide (256 ≤ ((m (kl + 256 * kh + x)) + (255 - (m (hl + 256 * hh + x))) + Bool.toNat true)), m⟩)) := by kernel_rfl
noncomputable abbrev U001 (n1 ll lh ml mh hl hh kl kh : Nat) : List Nat := uC9 n1 ll lh ml mh hl hh kl kh 56 189 hl hh 253 kl kh 176 31
theorem u001_t {n1 ll lh ml mh hl hh kl kh : Nat} (a x yy sp : Nat) (n v z cc : Bool) (m : Nat → Nat) (Q : Co → Prop) : gs (U001 n1 ll lh ml mh hl hh kl kh) 1088 4 ⟨a, x, yy, sp, 520, n, v, z, cc, m⟩ Q = ((hl + 256 * hh + x < 1088) ∧ (kl + 256 * kh + x < 1088) ∧ ifB (decide (256 ≤ ((m (hl + 256 * hh + x)) + (255 - (m (kl + 256 * kh + x))) + Bool.toNat true))) (Q ⟨((m (hl + 256 * hh + x)) + (255 - (m (kl + 256 * kh + x))) + Bool.toNat true) % 256, x, yy, sp, 560, decide (128 ≤ ((m (hl + 256 * hh + x)) + (255 - (m (kl + 256 * kh + x))) + Bool.toNat true) % 256), sbV (m (hl + 256 * hh + x)) (m (kl + 256 * kh + x)) ((m (hl + 256 * hh + x)) + (255 - (m (kl + 256 * kh + x))) + Bool.toNat true), decide (((m (hl + 256 * hh + x)) + (255 - (m (kl + 256 * kh + x))) + Bool.toNat true) % 256 = 0), decide (256 ≤ ((m (hl + 256 * hh + x)) + (255 - (m (kl + 256 * kh + x))) + Bool.toNat true)), m⟩) (Q ⟨((m (hl + 256 * hh + x)) + (255 - (m (kl + 256 * kh + x))) + Bool.toNat true) % 256, x, yy, sp, 529, decide (128 ≤ ((m (hl + 256 * hh + x)) + (255 - (m (kl + 256 * kh + x))) + Bool.toNat true) % 256), sbV (m (hl + 256 * hh + x)) (m (kl + 256 * kh + x)) ((m (hl + 256 * hh + x)) + (255 - (m (kl + 256 * kh + x))) + Bool.toNat true), decide (((m (hl + 256 * hh + x)) + (255 - (m (kl + 256 * kh + x))) + Bool.toNat true) % 256 = 0), decide (256 ≤ ((m (hl + 256 * hh + x)) + (255 - (m (kl + 256 * kh + x))) + Bool.toNat true)), m⟩)) := by kernel_rfl
noncomputable abbrev uC13 (n1 ll lh ml mh hl hh kl kh t0 t1 t2 t3 t4 t5 t6 t7 t8 t9 t10 t11 t12 : Nat) : List Nat := [162, n1, 134, 34, 162, 0, 134, 35, t0, t1, t2, t3, t4, t5, t6, t7, t8, t9, t10, t11, t12, 189, ll, lh, 188, ml, mh, 157, ml, mh, 152, 157, ll, lh, 189, hl, hh, 188, kl, kh, 157, kl, kh, 152, 157, hl, hh, 232, 134, 35, 208, 1, 232, 228, 34, 144, 207, 166, 35, 240, 3, 202, 208, 194]
theorem u13_ok (n1 ll lh ml mh hl hh kl kh t0 t1 t2 t3 t4 t5 t6 t7 t8 t9 t10 t11 t12 : Nat) : BubB (uC13 n1 ll lh ml mh hl hh kl kh t0 t1 t2 t3 t4 t5 t6 t7 t8 t9 t10 t11 t12) n1 ll lh ml mh hl hh kl kh 533 542 546 555 559 562 564 565 569 573 576 :=
  ⟨rfl, fun a x yy sp n v z cc m Q => by kernel_rfl, fun a x yy sp n v z cc m Q => by kernel_rfl, fun a x yy sp n v z cc m Q => by kernel_rfl, fun a x yy sp n v z cc m Q => by kernel_rfl, fun a x yy sp n v z cc m Q => by kernel_rfl, fun a x yy sp n v z cc m Q => by kernel_rfl, fun a x yy sp n v z cc m Q => by kernel_rfl, fun a x yy sp n v z cc m Q => by kernel_rfl, fun a x yy sp n v z cc m Q => by kernel_rfl, fun a x yy sp n v z cc m Q => by kernel_rfl, fun a x yy sp n v z cc m Q => by kernel_rfl, fun a x yy sp n v z cc m Q => by kernel_rfl, fun a x yy sp n v z cc m Q => by kernel_rfl⟩
noncomputable abbrev U010 (n1 ll lh ml mh hl hh kl kh : Nat) : List Nat := uC13 n1 ll lh ml mh hl hh kl kh 56 189 kl kh 253 hl hh 80 2 73 128 16 31
theorem u010_t {n1 ll lh ml mh hl hh kl kh : Nat} (a x yy sp : Nat) (n v z cc : Bool) (m : Nat → Nat) (Q : Co → Prop) : gs (U010 n1 ll lh ml mh hl hh kl kh) 1088 4 ⟨a, x, yy, sp, 520, n, v, z, cc, m⟩ Q = ((kl + 256 * kh + x < 1088) ∧ (hl + 256 * hh + x < 1088) ∧ ifB (!(sbV (m (kl + 256 * kh + x)) (m (hl + 256 * hh + x)) ((m (kl + 256 * kh + x)) + (255 - (m (hl + 256 * hh + x))) + Bool.toNat true))) (Q ⟨((m (kl + 256 * kh + x)) + (255 - (m (hl + 256 * hh + x))) + Bool.toNat true) % 256, x, yy, sp, 531, decide (128 ≤ ((m (kl + 256 * kh + x)) + (255 - (m (hl + 256 * hh + x))) + Bool.toNat true) % 256), sbV (m (kl + 256 * kh + x)) (m (hl + 256 * hh + x)) ((m (kl + 256 * kh + x)) + (255 - (m (hl + 256 * hh + x))) + Bool.toNat true), decide (((m (kl + 256 * kh + x)) + (255 - (m (hl + 256 * hh + x))) + Bool.toNat true) % 256 = 0), decide (256 ≤ ((m (kl + 256 * kh + x)) + (255 - (m (hl + 256 * hh + x))) + Bool.toNat true)), m⟩) (Q ⟨((m (kl + 256 * kh + x)) + (255 - (m (hl + 256 * hh + x))) + Bool.toNat true) % 256, x, yy, sp, 529, decide (128 ≤ ((m (kl + 256 * kh + x)) + (255 - (m (hl + 256 * hh + x))) + Bool.toNat true) % 256), sbV (m (kl + 256 * kh + x)) (m (hl + 256 * hh + x)) ((m (kl + 256 * kh + x)) + (255 - (m (hl + 256 * hh + x))) + Bool.toNat true), decide (((m (kl + 256 * kh + x)) + (255 - (m (hl + 256 * hh + x))) + Bool.toNat true) % 256 = 0), decide (256 ≤ ((m (kl + 256 * kh + x)) + (255 - (m (hl + 256 * hh + x))) + Bool.toNat true)), m⟩)) := by kernel_rfl
theorem u010_e {n1 ll lh ml mh hl hh kl kh : Nat} (a x yy sp : Nat) (n v z cc : Bool) (m : Nat → Nat) (Q : Co → Prop) : gs (U010 n1 ll lh ml mh hl hh kl kh) 1088 2 ⟨a, x, yy, sp, 529, n, v, z, cc, m⟩ Q = (ifB (!(decide (128 ≤ (a ^^^ 128)))) (Q ⟨(a ^^^ 128), x, yy, sp, 564, decide (128 ≤ (a ^^^ 128)), v, decide ((a ^^^ 128) = 0), cc, m⟩) (Q ⟨(a ^^^ 128), x, yy, sp, 533, decide (128 ≤ (a ^^^ 128)), v, decide ((a ^^^ 128) = 0), cc, m⟩)) := by kernel_rfl
theorem u010_p {n1 ll lh ml mh hl hh kl kh : Nat} (a x yy sp : Nat) (n v z cc : Bool) (m : Nat → Nat) (Q : Co → Prop) : gs (U010 n1 ll lh ml mh hl hh kl kh) 1088 1 ⟨a, x, yy, sp, 531, n, v, z, cc, m⟩ Q = (ifB (!n) (Q ⟨a, x, yy, sp, 564, n, v, z, cc, m⟩) (Q ⟨a, x, yy, sp, 533, n, v, z, cc, m⟩)) := by kernel_rfl
noncomputable abbrev U011 (n1 ll lh ml mh hl hh kl kh : Nat) : List Nat := uC13 n1 ll lh ml mh hl hh kl kh 56 189 hl hh 253 kl kh 80 2 73 128 16 31
theorem u011_t {n1 ll lh ml mh hl hh kl kh : Nat} (a x yy sp : Nat) (n v z cc : Bool) (m : Nat → Nat) (Q : Co → Prop) : gs (U011 n1 ll lh ml mh hl hh kl kh) 1088 4 ⟨a, x, yy, sp, 520, n, v, z, cc, m⟩ Q = ((hl + 256 * hh + x < 1088) ∧ (kl + 256 * kh + x < 1088) ∧ ifB (!(sbV (m (hl + 256 * hh + x)) (m (kl + 256 * kh + x)) ((m (hl + 256 * hh + x)) + (255 - (m (kl + 256 * kh + x))) + Bool.toNat true))) (Q ⟨((m (hl + 256 * hh + x)) + (255 - (m (kl + 256 * kh + x))) + Bool.toNat true) % 256, x, yy, sp, 531, decide (128 ≤ ((m (hl + 256 * hh + x)) + (255 - (m (kl + 256 * kh + x))) + Bool.toNat true) % 256), sbV (m (hl + 256 * hh + x)) (m (kl + 256 * kh + x)) ((m (hl + 256 * hh + x)) + (255 - (m (kl + 256 * kh + x))) + Bool.toNat true), decide (((m (hl + 256 * hh + x)) + (255 - (m (kl + 256 * kh + x))) + Bool.toNat true) % 256 = 0), decide (256 ≤ ((m (hl + 256 * hh + x)) + (255 - (m (kl + 256 * kh + x))) + Bool.toNat true)), m⟩) (Q ⟨((m (hl + 256 * hh + x)) + (255 - (m (kl + 256 * kh + x))) + Bool.toNat true) % 256, x, yy, sp, 529, decide (128 ≤ ((m (hl + 256 * hh + x)) + (255 - (m (kl + 256 * kh + x))) + Bool.toNat true) % 256), sbV (m (hl + 256 * hh + x)) (m (kl + 256 * kh + x)) ((m (hl + 256 * hh + x)) + (255 - (m (kl + 256 * kh + x))) + Bool.toNat true), decide (((m (hl + 256 * hh + x)) + (255 - (m (kl + 256 * kh + x))) + Bool.toNat true) % 256 = 0), decide (256 ≤ ((m (hl + 256 * hh + x)) + (255 - (m (kl + 256 * kh + x))) + Bool.toNat true)), m⟩)) := by kernel_rfl
theorem u011_e {n1 ll lh ml mh hl hh kl kh : Nat} (a x yy sp : Nat) (n v z cc : Bool) (m : Nat → Nat) (Q : Co → Prop) : gs (U011 n1 ll lh ml mh hl hh kl kh) 1088 2 ⟨a, x, yy, sp, 529, n, v, z, cc, m⟩ Q = (ifB (!(decide (128 ≤ (a ^^^ 128)))) (Q ⟨(a ^^^ 128), x, yy, sp, 564, decide (128 ≤ (a ^^^ 128)), v, decide ((a ^^^ 128) = 0), cc, m⟩) (Q ⟨(a ^^^ 128), x, yy, sp, 533, decide (128 ≤ (a ^^^ 128)), v, decide ((a ^^^ 128) = 0), cc, m⟩)) := by kernel_rfl
theorem u011_p {n1 ll lh ml mh hl hh kl kh : Nat} (a x yy sp : Nat) (n v z cc : Bool) (m : Nat → Nat) (Q : Co → Prop) : gs (U011 n1 ll lh ml mh hl hh kl kh) 1088 1 ⟨a, x, yy, sp, 531, n, v, z, cc, m⟩ Q = (ifB (!n) (Q ⟨a, x, yy, sp, 564, n, v, z, cc, m⟩) (Q ⟨a, x, yy, sp, 533, n, v, z, cc, m⟩)) := by kernel_rfl
noncomputable abbrev uC14 (n1 ll lh ml mh hl hh kl kh t0 t1 t2 t3 t4 t5 t6 t7 t8 t9 t10 t11 t12 t13 : Nat) : List Nat := [162, n1, 134, 34, 162, 0, 134, 35, t0, t1, t2, t3, t4, t5, t6, t7, t8, t9, t10, t11, t12, t13, 189, ll, lh, 188, ml, mh, 157, ml, mh, 152, 157, ll, lh, 189, hl, hh, 188, kl, kh, 157, kl, kh, 152, 157, hl, hh, 232, 134, 35, 208, 1, 232, 228, 34, 144, 206, 166, 35, 240, 3, 202, 208, 193]
theorem u14_ok (n1 ll lh ml mh hl hh kl kh t0 t1 t2 t3 t4 t5 t6 t7 t8 t9 t10 t11 t12 t13 : Nat) : BubB (uC14 n1 ll lh ml mh hl hh kl kh t0 t1 t2 t3 t4 t5 t6 t7 t8 t9 t10 t11 t12 t13) n1 ll lh ml mh hl hh kl kh 534 543 547 556 560 563 565 566 570 574 577 :=
  ⟨rfl, fun a x yy sp n v z cc m Q => by kernel_rfl, fun a x yy sp n v z cc m Q => by kernel_rfl, fun a x yy sp n v z cc m Q => by kernel_rfl, fun a x yy sp n v z cc m Q => by kernel_rfl, fun a x yy sp n v z cc m Q => by kernel_rfl, fun a x yy sp n v z cc m Q => by kernel_rfl, fun a x yy sp n v z cc m Q => by kernel_rfl, fun a x yy sp n v z cc m Q => by kernel_rfl, fun a x yy sp n v z cc m Q => by kernel_rfl, fun a x yy sp n v z cc m Q => by kernel_rfl, fun a x yy sp n v z cc m Q => by kernel_rfl, fun a x yy sp n v z cc m Q => by kernel_rfl, fun a x yy sp n v z cc m Q => by kernel_rfl⟩
noncomputable abbrev U100 (n1 ll lh ml mh hl hh kl kh : Nat) : List Nat := uC14 n1 ll lh ml mh hl hh kl kh 189 ml mh 221 ll lh 189 kl kh 253 hl hh 176 31
theorem u100_t {n1 ll lh ml mh hl hh kl kh : Nat} (a x yy sp : Nat) (n v z cc : Bool) (m : Nat → Nat) (Q : Co → Prop) : gs (U100 n1 ll lh ml mh hl hh kl kh) 1088 5 ⟨a, x, yy, sp, 520, n, v, z, cc, m⟩ Q = ((ml + 256 * mh + x < 1088) ∧ (ll + 256 * lh + x < 1088) ∧ (kl + 256 * kh + x < 1088) ∧ (hl + 256 * hh + x < 1088) ∧ ifB (decide (256 ≤ ((m (kl + 256 * kh + x)) + (255 - (m (hl + 256 * hh + x))) + Bool.toNat (decide (m (ll + 256 * lh + x) ≤ m (ml + 256 * mh + x)))))) (Q ⟨((m (kl + 256 * kh + x)) + (255 - (m (hl + 256 * hh + x))) + Bool.toNat (decide (m (ll + 256 * lh + x) ≤ m (ml + 256 * mh + x)))) % 256, x, yy, sp, 565, decide (128 ≤ ((m (kl + 256 * kh + x)) + (255 - (m (hl + 256 * hh + x))) + Bool.toNat (decide (m (ll + 256 * lh + x) ≤ m (ml + 256 * mh + x)))) % 256), sbV (m (kl + 256 * kh + x)) (m (hl + 256 * hh + x)) ((m (kl + 256 * kh + x)) + (255 - (m (hl + 256 * hh + x))) + Bool.toNat (decide (m (ll + 256 * lh + x) ≤ m (ml + 256 * mh + x)))), decide (((m (kl + 256 * kh + x)) + (255 - (m (hl + 256 * hh + x))) + Bool.toNat (decide (m (ll + 256 * lh + x) ≤ m (ml + 256 * mh + x)))) % 256 = 0), decide (256 ≤ ((m (kl + 256 * kh + x)) + (255 - (m (hl + 256 * hh + x))) + Bool.toNat (decide (m (ll + 256 * lh + x) ≤ m (ml + 256 * mh + x))))), m⟩) (Q ⟨((m (kl + 256 * kh + x)) + (255 - (m (hl + 256 * hh + x))) + Bool.toNat (decide (m (ll + 256 * lh + x) ≤ m (ml + 256 * mh + x)))) % 256, x, yy, sp, 534, decide (128 ≤ ((m (kl + 256 * kh + x)) + (255 - (m (hl + 256 * hh + x))) + Bool.toNat (decide (m (ll + 256 * lh + x) ≤ m (ml + 256 * mh + x)))) % 256), sbV (m (kl + 256 * kh + x)) (m (hl + 256 * hh + x)) ((m (kl + 256 * kh + x)) + (255 - (m (hl + 256 * hh + x))) + Bool.toNat (decide (m (ll + 256 * lh + x) ≤ m (ml + 256 * mh + x)))), decide (((m (kl + 256 * kh + x)) + (255 - (m (hl + 256 * hh + x))) + Bool.toNat (decide (m (ll + 256 * lh + x) ≤ m (ml + 256 * mh + x)))) % 256 = 0), decide (256 ≤ ((m (kl + 256 * kh + x)) + (255 - (m (hl + 256 * hh + x))) + Bool.toNat (decide (m (ll + 256 * lh + x) ≤ m (ml + 256 * mh + x))))), m⟩)) := by kernel_rfl
noncomputable abbrev U101 (n1 ll lh ml mh hl hh kl kh : Nat) : List Nat := uC14 n1 ll lh ml mh hl hh kl kh 189 ll lh 221 ml mh 189 hl hh 253 kl kh 176 31
theorem u101_t {n1 ll lh ml mh hl hh kl kh : Nat} (a x yy sp : Nat) (n v z cc : Bool) (m : Nat → Nat) (Q : Co → Prop) : gs (U101 n1 ll lh ml mh hl hh kl kh) 1088 5 ⟨a, x, yy, sp, 520, n, v, z, cc, m⟩ Q = ((ll + 256 * lh + x < 1088) ∧ (ml + 256 * mh + x < 1088) ∧ (hl + 256 * hh + x < 1088) ∧ (kl + 256 * kh + x < 1088) ∧ ifB (decide (256 ≤ ((m (hl + 256 * hh + x)) + (255 - (m (kl + 256 * kh + x))) + Bool.toNat (decide (m (ml + 256 * mh + x) ≤ m (ll + 256 * lh + x)))))) (Q ⟨((m (hl + 256 * hh + x)) + (255 - (m (kl + 256 * kh + x))) + Bool.toNat (decide (m (ml + 256 * mh + x) ≤ m (ll + 256 * lh + x)))) % 256, x, yy, sp, 565, decide (128 ≤ ((m (hl + 256 * hh + x)) + (255 - (m (kl + 256 * kh + x))) + Bool.toNat (decide (m (ml + 256 * mh + x) ≤ m (ll + 256 * lh + x)))) % 256), sbV (m (hl + 256 * hh + x)) (m (kl + 256 * kh + x)) ((m (hl + 256 * hh + x)) + (255 - (m (kl + 256 * kh + x))) + Bool.toNat (decide (m (ml + 256 * mh + x) ≤ m (ll + 256 * lh + x)))), decide (((m (hl + 256 * hh + x)) + (255 - (m (kl + 256 * kh + x))) + Bool.toNat (decide (m (ml + 256 * mh + x) ≤ m (ll + 256 * lh + x)))) % 256 = 0), decide (256 ≤ ((m (hl + 256 * hh + x)) + (255 - (m (kl + 256 * kh + x))) + Bool.toNat (decide (m (ml + 256 * mh + x) ≤ m (ll + 256 * lh + x))))), m⟩) (Q ⟨((m (hl + 256 * hh + x)) + (255 - (m (kl + 256 * kh + x))) + Bool.toNat (decide (m (ml + 256 * mh + x) ≤ m (ll + 256 * lh + x)))) % 256, x, yy, sp, 534, decide (128 ≤ ((m (hl + 256 * hh + x)) + (255 - (m (kl + 256 * kh + x))) + Bool.toNat (decide (m (ml + 256 * mh + x) ≤ m (ll + 256 * lh + x)))) % 256), sbV (m (hl + 256 * hh + x)) (m (kl + 256 * kh + x)) ((m (hl + 256 * hh + x)) + (255 - (m (kl + 256 * kh + x))) + Bool.toNat (decide (m (ml + 256 * mh + x) ≤ m (ll + 256 * lh + x)))), decide (((m (hl + 256 * hh + x)) + (255 - (m (kl + 256 * kh + x))) + Bool.toNat (decide (m (ml + 256 * mh + x) ≤ m (ll + 256 * lh + x)))) % 256 = 0), decide (256 ≤ ((m (hl + 256 * hh + x)) + (255 - (m (kl + 256 * kh + x))) + Bool.toNat (decide (m (ml + 256 * mh + x) ≤ m (ll + 256 * lh + x))))), m⟩)) := by kernel_rfl
noncomputable abbrev uC18 (n1 ll lh ml mh hl hh kl kh t0 t1 t2 t3 t4 t5 t6 t7 t8 t9 t10 t11 t12 t13 t14 t15 t16 t17 : Nat) : List Nat := [162, n1, 134, 34, 162, 0, 134, 35, t0, t1, t2, t3, t4, t5, t6, t7, t8, t9, t10, t11, t12, t13, t14, t15, t16, t17, 189, ll, lh, 188, ml, mh, 157, ml, mh, 152, 157, ll, lh, 189, hl, hh, 188, kl, kh, 157, kl, kh, 152, 157, hl, hh, 232, 134, 35, 208, 1, 232, 228, 34, 144, 202, 166, 35, 240, 3, 202, 208, 189]
theorem u18_ok (n1 ll lh ml mh hl hh kl kh t0 t1 t2 t3 t4 t5 t6 t7 t8 t9 t10 t11 t12 t13 t14 t15 t16 t17 : Nat) : BubB (uC18 n1 ll lh ml mh hl hh kl kh t0 t1 t2 t3 t4 t5 t6 t7 t8 t9 t10 t11 t12 t13 t14 t15 t16 t17) n1 ll lh ml mh hl hh kl kh 538 547 551 560 564 567 569 570 574 578 581 :=
  ⟨rfl, fun a x yy sp n v z cc m Q => by kernel_rfl, fun a x yy sp n v z cc m Q => by kernel_rfl, fun a x yy sp n v z cc m Q => by kernel_rfl, fun a x yy sp n v z cc m Q => by kernel_rfl, fun a x yy sp n v z cc m Q => by kernel_rfl, fun a x yy sp n v z cc m Q => by kernel_rfl, fun a x yy sp n v z cc m Q => by kernel_rfl, fun a x yy sp n v z cc m Q => by kernel_rfl, fun a x yy sp n v z cc m Q => by kernel_rfl, fun a x yy sp n v z cc m Q => by kernel_rfl, fun a x yy sp n v z cc m Q => by kernel_rfl, fun a x yy sp n v z cc m Q => by kernel_rfl, fun a x yy sp n v z cc m Q => by kernel_rfl⟩
noncomputable abbrev U110 (n1 ll lh ml mh hl hh kl kh : Nat) : List Nat := uC18 n1 ll lh ml mh hl hh kl kh 189 ml mh 221 ll lh 189 kl kh 253 hl hh 80 2 73 128 16 31
theorem u110_t {n1 ll lh ml mh hl hh kl kh : Nat} (a x yy sp : Nat) (n v z cc : Bool) (m : Nat → Nat) (Q : Co → Prop) : gs (U110 n1 ll lh ml mh hl hh kl kh) 1088 5 ⟨a, x, yy, sp, 520, n, v, z, cc, m⟩ Q = ((ml + 256 * mh + x < 1088) ∧ (ll + 256 * lh + x < 1088) ∧ (kl + 256 * kh + x < 1088) ∧ (hl + 256 * hh + x < 1088) ∧ ifB (!(sbV (m (kl + 256 * kh + x)) (m (hl + 256 * hh + x)) ((m (kl + 256 * kh + x)) + (255 - (m (hl + 256 * hh + x))) + Bool.toNat (decide (m (ll + 256 * lh + x) ≤ m (ml + 256 * mh + x)))))) (Q ⟨((m (kl + 256 * kh + x)) + (255 - (m (hl + 256 * hh + x))) + Bool.toNat (decide (m (ll + 256 * lh + x) ≤ m (ml + 256 * mh + x)))) % 256, x, yy, sp, 536, decide (128 ≤ ((m (kl + 256 * kh + x)) + (255 - (m (hl + 256 * hh + x))) + Bool.toNat (decide (m (ll + 256 * lh + x) ≤ m (ml + 256 * mh + x)))) % 256), sbV (m (kl + 256 * kh + x)) (m (hl + 256 * hh + x)) ((m (kl + 256 * kh + x)) + (255 - (m (hl + 256 * hh + x))) + Bool.toNat (decide (m (ll + 256 * lh + x) ≤ m (ml + 256 * mh + x)))), decide (((m (kl + 256 * kh + x)) + (255 - (m (hl + 256 * hh + x))) + Bool.toNat (decide (m (ll + 256 * lh + x) ≤ m (ml + 256 * mh + x)))) % 256 = 0), decide (256 ≤ ((m (kl + 256 * kh + x)) + (255 - (m (hl + 256 * hh + x))) + Bool.toNat (decide (m (ll + 256 * lh + x) ≤ m (ml + 256 * mh + x))))), m⟩) (Q ⟨((m (kl + 256 * kh + x)) + (255 - (m (hl + 256 * hh + x))) + Bool.toNat (decide (m (ll + 256 * lh + x) ≤ m (ml + 256 * mh + x)))) % 256, x, yy, sp, 534, decide (128 ≤ ((m (kl + 256 * kh + x)) + (255 - (m (hl + 256 * hh + x))) + Bool.toNat (decide (m (ll + 256 * lh + x) ≤ m (ml + 256 * mh + x)))) % 256), sbV (m (kl + 256 * kh + x)) (m (hl + 256 * hh + x)) ((m (kl + 256 * kh + x)) + (255 - (m (hl + 256 * hh + x))) + Bool.toNat (decide (m (ll + 256 * lh + x) ≤ m (ml + 256 * mh + x)))), decide (((m (kl + 256 * kh + x)) + (255 - (m (hl + 256 * hh + x))) + Bool.toNat (decide (m (ll + 256 * lh + x) ≤ m (ml + 256 * mh + x)))) % 256 = 0), decide (256 ≤ ((m (kl + 256 * kh + x)) + (255 - (m (hl + 256 * hh + x))) + Bool.toNat (decide (m (ll + 256 * lh + x) ≤ m (ml + 256 * mh + x))))), m⟩)) := by kernel_rfl
theorem u110_e {n1 ll lh ml mh hl hh kl kh : Nat} (a x yy sp : Nat) (n v z cc : Bool) (m : Nat → Nat) (Q : Co → Prop) : gs (U110 n1 ll lh ml mh hl hh kl kh) 1088 2 ⟨a, x, yy, sp, 534, n, v, z, cc, m⟩ Q = (ifB (!(decide (128 ≤ (a ^^^ 128)))) (Q ⟨(a ^^^ 128), x, yy, sp, 569, decide (128 ≤ (a ^^^ 128)), v, decide ((a ^^^ 128) = 0), cc, m⟩) (Q ⟨(a ^^^ 128), x, yy, sp, 538, decide (128 ≤ (a ^^^ 128)), v, decide ((a ^^^ 128) = 0), cc, m⟩)) := by kernel_rfl
theorem u110_p {n1 ll lh ml mh hl hh kl kh : Nat} (a x yy sp : Nat) (n v z cc : Bool) (m : Nat → Nat) (Q : Co → Prop) : gs (U110 n1 ll lh ml mh hl hh kl kh) 1088 1 ⟨a, x, yy, sp, 536, n, v, z, cc, m⟩ Q = (ifB (!n) (Q ⟨a, x, yy, sp, 569, n, v, z, cc, m⟩) (Q ⟨a, x, yy, sp, 538, n, v, z, cc, m⟩)) := by kernel_rfl
noncomputable abbrev U111 (n1 ll lh ml mh hl hh kl kh : Nat) : List Nat := uC18 n1 ll lh ml mh hl hh kl kh 189 ll lh 221 ml mh 189 hl hh 253 kl kh 80 2 73 128 16 31
theorem u111_t {n1 ll lh ml mh hl hh kl kh : Nat} (a x yy sp : Nat) (n v z cc : Bool) (m : Nat → Nat) (Q : Co → Prop) : gs (U111 n1 ll lh ml mh hl hh kl kh) 1088 5 ⟨a, x, yy, sp, 520, n, v, z, cc, m⟩ Q = ((ll + 256 * lh + x < 1088) ∧ (ml + 256 * mh + x < 1088) ∧ (hl + 256 * hh + x < 1088) ∧ (kl + 256 * kh + x < 1088) ∧ ifB (!(sbV (m (hl + 256 * hh + x)) (m (kl + 256 * kh + x)) ((m (hl + 256 * hh + x)) + (255 - (m (kl + 256 * kh + x))) + Bool.toNat (decide (m (ml + 256 * mh + x) ≤ m (ll + 256 * lh + x)))))) (Q ⟨((m (hl + 256 * hh + x)) + (255 - (m (kl + 256 * kh + x))) + Bool.toNat (decide (m (ml + 256 * mh + x) ≤ m (ll + 256 * lh + x)))) % 256, x, yy, sp, 536, decide (128 ≤ ((m (hl + 256 * hh + x)) + (255 - (m (kl + 256 * kh + x))) + Bool.toNat (decide (m (ml + 256 * mh + x) ≤ m (ll + 256 * lh + x)))) % 256), sbV (m (hl + 256 * hh + x)) (m (kl + 256 * kh + x)) ((m (hl + 256 * hh + x)) + (255 - (m (kl + 256 * kh + x))) + Bool.toNat (decide (m (ml + 256 * mh + x) ≤ m (ll + 256 * lh + x)))), decide (((m (hl + 256 * hh + x)) + (255 - (m (kl + 256 * kh + x))) + Bool.toNat (decide (m (ml + 256 * mh + x) ≤ m (ll + 256 * lh + x)))) % 256 = 0), decide (256 ≤ ((m (hl + 256 * hh + x)) + (255 - (m (kl + 256 * kh + x))) + Bool.toNat (decide (m (ml + 256 * mh + x) ≤ m (ll + 256 * lh + x))))), m⟩) (Q ⟨((m (hl + 256 * hh + x)) + (255 - (m (kl + 256 * kh + x))) + Bool.toNat (decide (m (ml + 256 * mh + x) ≤ m (ll + 256 * lh + x)))) % 256, x, yy, sp, 534, decide (128 ≤ ((m (hl + 256 * hh + x)) + (255 - (m (kl + 256 * kh + x))) + Bool.toNat (decide (m (ml + 256 * mh + x) ≤ m (ll + 256 * lh + x)))) % 256), sbV (m (hl + 256 * hh + x)) (m (kl + 256 * kh + x)) ((m (hl + 256 * hh + x)) + (255 - (m (kl + 256 * kh + x))) + Bool.toNat (decide (m (ml + 256 * mh + x) ≤ m (ll + 256 * lh + x)))), decide (((m (hl + 256 * hh + x)) + (255 - (m (kl + 256 * kh + x))) + Bool.toNat (decide (m (ml + 256 * mh + x) ≤ m (ll + 256 * lh + x)))) % 256 = 0), decide (256 ≤ ((m (hl + 256 * hh + x)) + (255 - (m (kl + 256 * kh + x))) + Bool.toNat (decide (m (ml + 256 * mh + x) ≤ m (ll + 256 * lh + x))))), m⟩)) := by kernel_rfl
theorem u111_e {n1 ll lh ml mh hl hh kl kh : Nat} (a x yy sp : Nat) (n v z cc : Bool) (m : Nat → Nat) (Q : Co → Prop) : gs (U111 n1 ll lh ml mh hl hh kl kh) 1088 2 ⟨a, x, yy, sp, 534, n, v, z, cc, m⟩ Q = (ifB (!(decide (128 ≤ (a ^^^ 128)))) (Q ⟨(a ^^^ 128), x, yy, sp, 569, decide (128 ≤ (a ^^^ 128)), v, decide ((a ^^^ 128) = 0), cc, m⟩) (Q ⟨(a ^^^ 128), x, yy, sp, 538, decide (128 ≤ (a ^^^ 128)), v, decide ((a ^^^ 128) = 0), cc, m⟩)) := by kernel_rfl
theorem u111_p {n1 ll lh ml mh hl hh kl kh : Nat} (a x yy sp : Nat) (n v z cc : Bool) (m : Nat → Nat) (Q : Co → Prop) : gs (U111 n1 ll lh ml mh hl hh kl kh) 1088 1 ⟨a, x, yy, sp, 536, n, v, z, cc, m⟩ Q = (ifB (!n) (Q ⟨a, x, yy, sp, 569, n, v, z, cc, m⟩) (Q ⟨a, x, yy, sp, 538, n, v, z, cc, m⟩)) := by kernel_rfl
end
end Mine

end
section
open PySem PySem.W PyProof.Rows
namespace Mine
noncomputable section
noncomputable def ansR {α : Type} (n : Nat) (c : Nat → Nat → Bool) : KasT α → Option α
  | .ret a => some a
  | .ask i j k => match Nat.blt i n && Nat.blt j n with
    | true => ansR n c (k (c i j))
    | false => none
noncomputable def gtL (l : List Nat) (i : Nat) : Nat := l.getD i 0
noncomputable def insIn (c : Nat → Nat → Bool) (s : Nat) : Nat → List Nat → List Nat
  | 0, p => p.set 0 s
  | y + 1, p => match c s (gtL p y) with
    | false => p.set (y + 1) s
    | true => insIn c s y (p.set (y + 1) (gtL p y))
noncomputable def insOut (c : Nat → Nat → Bool) : Nat → Nat → List Nat → List Nat
  | 0, _, p => p
  | k + 1, y, p => insOut c k (y + 1) (insIn c (gtL p y) y p)
noncomputable def insAlg (c : Nat → Nat → Bool) (n : Nat) : List Nat := insOut c (n - 1) 1 (List.range n)
noncomputable def bubIn (c : Nat → Nat → Bool) : Nat → Nat → Nat → List Nat → Nat × List Nat
  | 0, _, z, p => (z, p)
  | k + 1, x, z, p => match c (gtL p (x + 1)) (gtL p x) with
    | false => bubIn c k (x + 1) z p
    | true => bubIn c k (x + 1) (x + 1) ((p.set x (gtL p (x + 1))).set (x + 1) (gtL p x))
noncomputable def bubOut (c : Nat → Nat → Bool) : Nat → Nat → List Nat → Option (List Nat)
  | 0, _, _ => none
  | f + 1, l, p => match bubIn c l 0 0 p with
    | (z, q) => match z with
      | 0 => some q
      | z + 1 => match z with
        | 0 => some q
        | z + 1 => bubOut c f (z + 1) q
noncomputable def bubAlg (c : Nat → Nat → Bool) (n : Nat) : Option (List Nat) := bubOut c 4 (n - 1) (List.range n)
noncomputable def digs : Nat → Nat → List (List Nat)
  | _, 0 => [[]]
  | b, k + 1 => (digs b k).flatMap fun r => (List.range b).map fun d => d :: r
noncomputable def leq : List Nat → List Nat → Bool
  | [], [] => true
  | x :: r, y :: t => Nat.beq x y && leq r t
  | _, _ => false
noncomputable def allB (f : Nat → Bool) : List Nat → Bool
  | [] => true
  | x :: r => f x && allB f r
noncomputable def cntB (f : Nat → Bool) : List Nat → Nat
  | [] => 0
  | x :: r => match f x with
    | true => cntB f r + 1
    | false => cntB f r
noncomputable def canon (ρ : List Nat) : Bool := allB (fun x => Nat.beq x (cntB (fun y => Nat.blt y x) ρ)) ρ
noncomputable def cmpR (ρ : List Nat) (i j : Nat) : Bool := Nat.blt (gtL ρ i) (gtL ρ j)
noncomputable def okAt (n : Nat) (ρ : List Nat) : Bool := match canon ρ with
  | false => true
  | true => match ansR n (cmpR ρ) (kas_sort n), bubAlg (cmpR ρ) n with
    | some a, some q => leq a.toList (insAlg (cmpR ρ) n) && leq a.toList q && Nat.beq a.toList.length n && allB (fun x => Nat.blt x n) a.toList
    | _, _ => false
theorem ok3 : (digs 3 3).all (okAt 3) = true := by kernel_rfl
theorem ok4 : (digs 4 4).all (okAt 4) = true := by kernel_rfl
theorem ok5 : (digs 5 5).all (okAt 5) = true := by kernel_rfl
theorem leq_eq : ∀ {a b : List Nat}, leq a b = true → a = b := by
  intro a
  induction a with
  | nil => intro b h; cases b with
    | nil => rfl
    | cons _ _ => exact ff h
  | cons x r ih => intro b h; cases b with
    | nil => exact ff h
    | cons y t =>
      have h := Bool.and_eq_true_iff.mp h
      rw [Nat.eq_of_beq_eq_true h.1, ih h.2]
theorem allB_ok {f : Nat → Bool} {l : List Nat} (h : allB f l = true) : ∀ x ∈ l, f x = true := by
  induction l with
  | nil => exact fun _ m => nomatch m
  | cons y r ih =>
    have h := Bool.and_eq_true_iff.mp h
    intro x m
    cases m with
    | head _ => exact h.1
    | tail _ m => exact ih h.2 x m
theorem allB_of {f : Nat → Bool} {l : List Nat} (h : ∀ x ∈ l, f x = true) : allB f l = true := by
  induction l with
  | nil => rfl
  | cons y r ih => exact Bool.and_eq_true_iff.mpr ⟨h y (.head _), ih fun x m => h x (.tail _ m)⟩
theorem cntB_le {f g : Nat → Bool} {l : List Nat} (h : ∀ x ∈ l, f x = true → g x = true) : cntB f l ≤ cntB g l := by
  induction l with
  | nil => exact Nat.le_refl 0
  | cons y r ih =>
    have ih := ih fun x m => h x (.tail _ m)
    have hy := h y (.head _)
    unfold cntB
    cases p : f y with
    | false => cases g y with
      | false => exact ih
      | true => exact Nat.le_succ_of_le ih
    | true => rw [hy p]; exact Nat.succ_le_succ ih
theorem cntB_lt {f g : Nat → Bool} {l : List Nat} (h : ∀ x ∈ l, f x = true → g x = true) {z : Nat} (hz : z ∈ l) (h1 : f z = false) (h2 : g z = true) : cntB f l < cntB g l := by
  induction l with
  | nil => cases hz
  | cons y r ih =>
    have hr : ∀ x ∈ r, f x = true → g x = true := fun x m => h x (.tail _ m)
    unfold cntB
    cases hz with
    | head _ => rw [h1, h2]; exact Nat.lt_succ_of_le (cntB_le hr)
    | tail _ m =>
      have ih := ih hr m
      have hy := h y (.head _)
      cases p : f y with
      | false => cases g y with
        | false => exact ih
        | true => exact Nat.lt_succ_of_lt ih
      | true => rw [hy p]; exact Nat.succ_lt_succ ih
theorem cntB_len (f : Nat → Bool) (l : List Nat) : cntB f l ≤ l.length := by
  induction l with
  | nil => exact Nat.le_refl 0
  | cons y r ih =>
    unfold cntB
    cases f y with
    | false => exact Nat.le_succ_of_le ih
    | true => exact Nat.succ_le_succ ih
theorem cntB_map {f : Nat → Bool} {g : Nat → Nat} (l : List Nat) : cntB f (l.map g) = cntB (fun x => f (g x)) l := by
  induction l with
  | nil => rfl
  | cons y r ih =>
    show (match f (g y) with | true => cntB f (r.map g) + 1 | false => cntB f (r.map g)) = _
    rw [ih]; rfl
theorem cntB_congr {f g : Nat → Bool} {l : List Nat} (h : ∀ x ∈ l, f x = g x) : cntB f l = cntB g l :=
  Nat.le_antisymm (cntB_le fun x m p => (h x m).symm.trans p) (cntB_le fun x m p => (h x m).trans p)
theorem digs_mem {b : Nat} : ∀ {l : List Nat}, (∀ x ∈ l, x < b) → l ∈ digs b l.length := by
  intro l
  induction l with
  | nil => exact fun _ => .head _
  | cons x r ih => exact fun h => List.mem_flatMap.mpr ⟨r, ih fun y m => h y (.tail _ m), List.mem_map.mpr ⟨x, List.mem_range.mpr (h x (.head _)), rfl⟩⟩
noncomputable def rkL (key : Nat → Int) (n : Nat) : List Nat := (List.range n).map fun i => cntB (fun j => decide (key j < key i)) (List.range n)
theorem rk_get {key : Nat → Int} {n i : Nat} (h : i < n) : gtL (rkL key n) i = cntB (fun j => decide (key j < key i)) (List.range n) := by
  unfold gtL rkL
  rw [List.getD_eq_getElem?_getD, List.getElem?_map, List.getElem?_range h]; rfl
theorem rk_lt {key : Nat → Int} {n i j : Nat} (hi : i < n) (hj : j < n) : cmpR (rkL key n) i j = decide (key i < key j) := by
  unfold cmpR
  rw [rk_get hi, rk_get hj]
  by_cases h : key i < key j
  · rw [decide_eq_true h]
    exact Nat.ble_eq_true_of_le (cntB_lt (fun x _ p => decide_eq_true (Int.lt_trans (of_decide_eq_true p) h)) (List.mem_range.mpr hi) (decide_eq_false (Int.lt_irrefl _)) (decide_eq_true h))
  · rw [decide_eq_false h]
    have := cntB_le (l := List.range n) (f := fun x => decide (key x < key j)) (g := fun x => decide (key x < key i)) fun x _ p => decide_eq_true (Int.lt_of_lt_of_le (of_decide_eq_true p) (Int.not_lt.mp h))
    cases q : Nat.blt _ _ with
    | false => rfl
    | true => exact absurd (Nat.le_of_ble_eq_true q) (Nat.not_le_of_lt (Nat.lt_succ_of_le this))
theorem rk_canon (key : Nat → Int) (n : Nat) : canon (rkL key n) = true := by
  refine allB_of fun x m => ?_
  obtain ⟨i, hi, rfl⟩ := List.mem_map.mp m
  have hi := List.mem_range.mp hi
  rw [show cntB (fun y => Nat.blt y (cntB (fun j => decide (key j < key i)) (List.range n))) (rkL key n) = cntB (fun j => decide (key j < key i)) (List.range n) from ?_]
  · exact Nat.beq_refl _
  · unfold rkL
    rw [cntB_map]
    refine cntB_congr fun j hj => ?_
    have := rk_lt (key := key) (List.mem_range.mp hj) hi
    unfold cmpR at this
    rw [rk_get (List.mem_range.mp hj), rk_get hi] at this
    exact this
theorem srt_eq {n : Nat} (hn : n = 3 ∨ n = 4 ∨ n = 5) (key : Nat → Int) : ∃ (c : Nat → Nat → Bool) (a : Array Nat), (∀ i j, i < n → j < n → c i j = decide (key i < key j)) ∧ ansR n c (kas_sort n) = some a ∧ insAlg c n = a.toList ∧ bubAlg c n = some a.toList ∧ a.toList.length = n ∧ ∀ x ∈ a.toList, x < n := by
  have hm : rkL key n ∈ digs n n := by
    have hl : (rkL key n).length = n := by unfold rkL; rw [List.length_map, List.length_range]
    have := digs_mem (b := n) (l := rkL key n) fun x m => by
      obtain ⟨i, hi, rfl⟩ := List.mem_map.mp m
      have := cntB_lt (l := List.range n) (f := fun j => decide (key j < key i)) (g := fun _ => true) (fun _ _ _ => rfl) hi (decide_eq_false (Int.lt_irrefl _)) rfl
      exact Nat.lt_of_lt_of_le this (by have := cntB_len (fun _ => true) (List.range n); rw [List.length_range] at this; exact this)
    rw [hl] at this; exact this
  have ok : okAt n (rkL key n) = true := by
    rcases hn with rfl | rfl | rfl
    · exact List.all_eq_true.mp ok3 _ hm
    · exact List.all_eq_true.mp ok4 _ hm
    · exact List.all_eq_true.mp ok5 _ hm
  refine ⟨cmpR (rkL key n), ?_⟩
  unfold okAt at ok
  rw [rk_canon] at ok
  revert ok
  show (match ansR n (cmpR (rkL key n)) (kas_sort n), bubAlg (cmpR (rkL key n)) n with | some a, some q => _ | _, _ => false) = true → _
  cases ansR n (cmpR (rkL key n)) (kas_sort n) with
  | none => exact fun h => ff h
  | some a => cases bubAlg (cmpR (rkL key n)) n with
    | none => exact fun h => ff h
    | some q =>
      intro h
      have h := Bool.and_eq_true_iff.mp h
      have h2 := Bool.and_eq_true_iff.mp h.1
      have h3 := Bool.and_eq_true_iff.mp h2.1
      exact ⟨a, fun i j hi hj => rk_lt hi hj, rfl, (leq_eq h3.1).symm, by rw [leq_eq h3.2], Nat.eq_of_beq_eq_true h2.2, fun x m => Nat.le_of_ble_eq_true (allB_ok h.2 x m)⟩
end
end Mine

end
section
open PySem PySem.W PyProof.Rows
namespace Mine
noncomputable section
noncomputable def At (pc x y : Nat) (m : Nat → Nat) (c : Co) : Prop := ∃ a n v z cc, c = ⟨a, x, y, 255, pc, n, v, z, cc, m⟩
theorem at_ {pc x y a : Nat} {n v z cc : Bool} {m : Nat → Nat} : At pc x y m ⟨a, x, y, 255, pc, n, v, z, cc, m⟩ := ⟨a, n, v, z, cc, rfl⟩
theorem Wi.seq {L : List Nat} {N k m : Nat} {c : Co} {Q : Co → Prop} (h : gs L N k c fun c' => Wi L N m c' Q) : Wi L N (k + m) c Q := Wi.bind (gs_ok h) fun c' _ h => h
theorem ifD {P A B : Prop} [d : Decidable P] (h : P → A) (g : ¬ P → B) : ifB (decide P) A B := by
  by_cases q : P
  · rw [decide_eq_true q]; exact h q
  · rw [decide_eq_false q]; exact g q
theorem ifDn {P A B : Prop} [d : Decidable P] (h : ¬ P → A) (g : P → B) : ifB (!decide P) A B := by
  by_cases q : P
  · rw [decide_eq_true q]; exact g q
  · rw [decide_eq_false q]; exact h q
noncomputable def sgn (b : Nat) : Int := bif Nat.ble 128 b then (b : Int) - 256 else b
noncomputable def num (w s : Bool) (lo hi : Nat) : Int := bif w then (lo : Int) + 256 * (bif s then sgn hi else (hi : Int)) else bif s then sgn hi else (hi : Int)
theorem sgn_pos {b : Nat} (h : b < 128) : sgn b = b := by
  unfold sgn
  cases q : Nat.ble 128 b with
  | false => rfl
  | true => exact absurd (Nat.le_of_ble_eq_true q) (Nat.not_le_of_lt h)
theorem sgn_neg {b : Nat} (h : 128 ≤ b) : sgn b = (b : Int) - 256 := by unfold sgn; rw [Nat.ble_eq_true_of_le h]; rfl
theorem car {A M k : Nat} (hA : A < 256) (hM : M < 256) (hk : k ≤ 1) : decide (256 ≤ A + (255 - M) + k) = !decide ((A : Int) - 1 + k < (M : Int)) := by
  by_cases h : (A : Int) - 1 + k < (M : Int)
  · rw [decide_eq_true h]; exact decide_eq_false (by lia)
  · rw [decide_eq_false h]; exact decide_eq_true (by lia)
theorem bit7 {x : Nat} : x.testBit 7 = decide (128 ≤ x % 256) := by
  rw [Nat.testBit_eq_decide_div_mod_eq]
  by_cases h : 128 ≤ x % 256
  · rw [decide_eq_true h]; exact decide_eq_true (by lia)
  · rw [decide_eq_false h]; exact decide_eq_false (by lia)
theorem and128 (x : Nat) : (((x &&& 128 : Nat) : Int) != 0) = decide (128 ≤ x % 256) := by
  have e := kbt_bit (x : Int) 7
  rw [show (2 : Int) ^ 7 = ((128 : Nat) : Int) by rfl, b_and] at e
  rw [e]
  by_cases h : 128 ≤ x % 256
  · rw [decide_eq_true h, show (x : Int) / ((128 : Nat) : Int) % 2 = 1 by lia]; rfl
  · rw [decide_eq_false h, show (x : Int) / ((128 : Nat) : Int) % 2 = 0 by lia]; rfl
theorem sb_v {A M S : Nat} (hA : A < 256) (hM : M < 256) : sbV A M S = ((decide (128 ≤ A) ^^ decide (128 ≤ M)) && (decide (128 ≤ A) ^^ decide (128 ≤ S % 256))) := by
  unfold sbV
  rw [b_xor, b_xor, b_and, show (128 : Int) = ((128 : Nat) : Int) by rfl, b_and, and128, ← bit7, Nat.testBit_and, Nat.testBit_xor, Nat.testBit_xor, bit7, bit7, bit7, Nat.mod_eq_of_lt hA, Nat.mod_eq_of_lt hM]
theorem eor7 : ∀ x < 256, decide (128 ≤ x ^^^ 128) = !decide (128 ≤ x) := by decide +kernel
theorem sgn_sub {A M k : Nat} (hA : A < 256) (hM : M < 256) (hk : k ≤ 1) : (decide (128 ≤ (A + (255 - M) + k) % 256) ^^ sbV A M (A + (255 - M) + k)) = decide (sgn A - 1 + k < sgn M) := by
  rw [sb_v hA hM]
  by_cases a : 128 ≤ A
  · by_cases b : 128 ≤ M
    · rw [sgn_neg a, sgn_neg b, decide_eq_true a, decide_eq_true b]
      show (decide _ ^^ (false && _)) = _
      rw [Bool.false_and, Bool.xor_false]
      exact decide_eq_decide.mpr (by lia)
    · rw [sgn_neg a, sgn_pos (Nat.lt_of_not_le b), decide_eq_true a, decide_eq_false b, decide_eq_true (p := (A : Int) - 256 - 1 + k < M) (by lia)]
      cases decide (128 ≤ (A + (255 - M) + k) % 256) <;> rfl
  · by_cases b : 128 ≤ M
    · rw [sgn_pos (Nat.lt_of_not_le a), sgn_neg b, decide_eq_false a, decide_eq_true b, decide_eq_false (p := (A : Int) - 1 + k < (M : Int) - 256) (by lia)]
      cases decide (128 ≤ (A + (255 - M) + k) % 256) <;> rfl
    · rw [sgn_pos (Nat.lt_of_not_le a), sgn_pos (Nat.lt_of_not_le b), decide_eq_false a, decide_eq_false b]
      show (decide _ ^^ (false && _)) = _
      rw [Bool.false_and, Bool.xor_false]
      exact decide_eq_decide.mpr (by lia)
theorem ask_u {la A lm M : Nat} (hA : A < 256) (hM : M < 256) (hl : la < 256) (hm : lm < 256) : decide (256 ≤ A + (255 - M) + Bool.toNat (decide (lm ≤ la))) = !decide (num true false la A < num true false lm M) := by
  rw [car hA hM (by cases decide (lm ≤ la) <;> decide)]
  show (!decide _) = !decide ((la : Int) + 256 * A < lm + 256 * M)
  by_cases h : lm ≤ la
  · rw [decide_eq_true h]; exact congrArg (!·) (decide_eq_decide.mpr (by show (A : Int) - 1 + ((1 : Nat) : Int) < M ↔ _; lia))
  · rw [decide_eq_false h]; exact congrArg (!·) (decide_eq_decide.mpr (by show (A : Int) - 1 + ((0 : Nat) : Int) < M ↔ _; lia))
theorem ask_u1 {la A lm M : Nat} (hA : A < 256) (hM : M < 256) : decide (256 ≤ A + (255 - M) + Bool.toNat true) = !decide (num false false la A < num false false lm M) := by
  rw [car hA hM (by decide)]
  exact congrArg (!·) (decide_eq_decide.mpr (by show (A : Int) - 1 + ((1 : Nat) : Int) < M ↔ (A : Int) < M; lia))
theorem ask_s {la A lm M : Nat} (hA : A < 256) (hM : M < 256) (hl : la < 256) (hm : lm < 256) : (decide (128 ≤ (A + (255 - M) + Bool.toNat (decide (lm ≤ la))) % 256) ^^ sbV A M (A + (255 - M) + Bool.toNat (decide (lm ≤ la)))) = decide (num true true la A < num true true lm M) := by
  rw [sgn_sub hA hM (by cases decide (lm ≤ la) <;> decide)]
  show decide _ = decide ((la : Int) + 256 * sgn A < lm + 256 * sgn M)
  by_cases h : lm ≤ la
  · rw [decide_eq_true h]; exact decide_eq_decide.mpr (by show sgn A - 1 + ((1 : Nat) : Int) < sgn M ↔ _; lia)
  · rw [decide_eq_false h]; exact decide_eq_decide.mpr (by show sgn A - 1 + ((0 : Nat) : Int) < sgn M ↔ _; lia)
theorem ask_s1 {la A lm M : Nat} (hA : A < 256) (hM : M < 256) : (decide (128 ≤ (A + (255 - M) + Bool.toNat true) % 256) ^^ sbV A M (A + (255 - M) + Bool.toNat true)) = decide (num false true la A < num false true lm M) := by
  rw [sgn_sub hA hM (by decide)]
  exact decide_eq_decide.mpr (by show sgn A - 1 + ((1 : Nat) : Int) < sgn M ↔ sgn A < sgn M; lia)
theorem end_s {S mv fi x y : Nat} {V b : Bool} {L : List Nat} {m : Nat → Nat} {pe pp : Nat} (e : (decide (128 ≤ S % 256) ^^ V) = b)
    (he : ∀ a n z cc, a < 256 → gs L 1088 2 ⟨a, x, y, 255, pe, n, V, z, cc, m⟩ (At (bif decide (128 ≤ a ^^^ 128) then mv else fi) x y m))
    (hp : ∀ a n z cc, gs L 1088 1 ⟨a, x, y, 255, pp, n, V, z, cc, m⟩ (At (bif n then mv else fi) x y m)) {n' z' cc' : Bool} {a' : Nat} :
    ifB (!V) (Wi L 1088 2 ⟨a', x, y, 255, pp, decide (128 ≤ S % 256), V, z', cc', m⟩ (At (bif b then mv else fi) x y m)) (Wi L 1088 2 ⟨S % 256, x, y, 255, pe, n', V, z', cc', m⟩ (At (bif b then mv else fi) x y m)) := by
  subst e
  cases V with
  | false =>
    rw [Bool.xor_false]
    exact (gs_ok (hp a' _ z' cc')).le (by decide)
  | true =>
    rw [Bool.xor_true]
    have := he (S % 256) n' z' cc' (Nat.mod_lt _ (by decide))
    rw [eor7 _ (Nat.mod_lt _ (by decide))] at this
    exact gs_ok this
end
end Mine

end
section
open PySem PySem.W PyProof.Rows
namespace Mine
noncomputable section
noncomputable def ltR (f w s : Bool) (sl sh el eh : Nat) : Bool := bif f then decide (num w s el eh < num w s sl sh) else decide (num w s sl sh < num w s el eh)
theorem pick {mv fi x y : Nat} {m : Nat → Nat} {c1 c2 : Co} (b : Bool) (h1 : At fi x y m c1) (h2 : At mv x y m c2) : ifB (!b) (At (bif b then mv else fi) x y m c1) (At (bif b then mv else fi) x y m c2) := by
  cases b
  · exact h1
  · exact h2
noncomputable def TestI (f w s : Bool) (L : List Nat) (mv fi : Nat) : Prop := ∀ c x y m, At 528 x y m c → m 40 + 256 * m 41 + y < 1088 → m 44 + 256 * m 45 + y < 1088 →
  Wi L 1088 7 c (At (bif ltR f w s (m 32) (m 33) (m (m 40 + 256 * m 41 + y)) (m (m 44 + 256 * m 45 + y)) then mv else fi) x y m)
noncomputable def TestB (f w s : Bool) (L : List Nat) (l1 l2 h1 h2 sw fi : Nat) : Prop := ∀ c x y m, At 520 x y m c → l1 + x < 1088 → l2 + x < 1088 → h1 + x < 1088 → h2 + x < 1088 →
  Wi L 1088 7 c (At (bif ltR f w s (m (l2 + x)) (m (h2 + x)) (m (l1 + x)) (m (h1 + x)) then sw else fi) x y m)
theorem ti000 (n0 : Nat) : TestI false false false (I000 n0) 535 546 := fun c x y m h g1 g2 => by
  obtain ⟨a, n, v, z, cc, rfl⟩ := h
  refine Wi.wf fun W => (gs_ok (k := 4) ?_).le (by decide)
  rw [i000_t]
  refine ⟨g2, ?_⟩
  rw [ask_u1 (la := m 32) (A := m 33) (lm := m (m 40 + 256 * m 41 + y)) (M := m (m 44 + 256 * m 45 + y)) (W.m _) (W.m _)]
  exact pick _ at_ at_
theorem ti001 (n0 : Nat) : TestI true false false (I001 n0) 535 546 := fun c x y m h g1 g2 => by
  obtain ⟨a, n, v, z, cc, rfl⟩ := h
  refine Wi.wf fun W => (gs_ok (k := 4) ?_).le (by decide)
  rw [i001_t]
  refine ⟨g2, ?_⟩
  rw [ask_u1 (la := m (m 40 + 256 * m 41 + y)) (A := m (m 44 + 256 * m 45 + y)) (lm := m 32) (M := m 33) (W.m _) (W.m _)]
  exact pick _ at_ at_
theorem ti010 (n0 : Nat) : TestI false false true (I010 n0) 539 550 := fun c x y m h g1 g2 => by
  obtain ⟨a, n, v, z, cc, rfl⟩ := h
  refine Wi.wf fun W => (Wi.seq (k := 4) (m := 2) ?_).le (by decide)
  rw [i010_t]
  exact ⟨g2, end_s (ask_s1 (la := m 32) (A := m 33) (lm := m (m 40 + 256 * m 41 + y)) (M := m (m 44 + 256 * m 45 + y)) (W.m _) (W.m _)) (fun a n z cc h => by rw [i010_e]; exact pick _ at_ at_) (fun a n z cc => by rw [i010_p]; exact pick _ at_ at_)⟩
theorem ti011 (n0 : Nat) : TestI true false true (I011 n0) 539 550 := fun c x y m h g1 g2 => by
  obtain ⟨a, n, v, z, cc, rfl⟩ := h
  refine Wi.wf fun W => (Wi.seq (k := 4) (m := 2) ?_).le (by decide)
  rw [i011_t]
  exact ⟨g2, end_s (ask_s1 (la := m (m 40 + 256 * m 41 + y)) (A := m (m 44 + 256 * m 45 + y)) (lm := m 32) (M := m 33) (W.m _) (W.m _)) (fun a n z cc h => by rw [i011_e]; exact pick _ at_ at_) (fun a n z cc => by rw [i011_p]; exact pick _ at_ at_)⟩
theorem ti100 (n0 : Nat) : TestI false true false (I100 n0) 538 549 := fun c x y m h g1 g2 => by
  obtain ⟨a, n, v, z, cc, rfl⟩ := h
  refine Wi.wf fun W => (gs_ok (k := 5) ?_).le (by decide)
  rw [i100_t]
  refine ⟨g1, g2, ?_⟩
  rw [ask_u (la := m 32) (A := m 33) (lm := m (m 40 + 256 * m 41 + y)) (M := m (m 44 + 256 * m 45 + y)) (W.m _) (W.m _) (W.m _) (W.m _)]
  exact pick _ at_ at_
theorem ti101 (n0 : Nat) : TestI true true false (I101 n0) 538 549 := fun c x y m h g1 g2 => by
  obtain ⟨a, n, v, z, cc, rfl⟩ := h
  refine Wi.wf fun W => (gs_ok (k := 5) ?_).le (by decide)
  rw [i101_t]
  refine ⟨g1, g2, ?_⟩
  rw [ask_u (la := m (m 40 + 256 * m 41 + y)) (A := m (m 44 + 256 * m 45 + y)) (lm := m 32) (M := m 33) (W.m _) (W.m _) (W.m _) (W.m _)]
  exact pick _ at_ at_
theorem ti110 (n0 : Nat) : TestI false true true (I110 n0) 542 553 := fun c x y m h g1 g2 => by
  obtain ⟨a, n, v, z, cc, rfl⟩ := h
  refine Wi.wf fun W => (Wi.seq (k := 5) (m := 2) ?_).le (by decide)
  rw [i110_t]
  exact ⟨g1, g2, end_s (ask_s (la := m 32) (A := m 33) (lm := m (m 40 + 256 * m 41 + y)) (M := m (m 44 + 256 * m 45 + y)) (W.m _) (W.m _) (W.m _) (W.m _)) (fun a n z cc h => by rw [i110_e]; exact pick _ at_ at_) (fun a n z cc => by rw [i110_p]; exact pick _ at_ at_)⟩
theorem ti111 (n0 : Nat) : TestI true true true (I111 n0) 542 553 := fun c x y m h g1 g2 => by
  obtain ⟨a, n, v, z, cc, rfl⟩ := h
  refine Wi.wf fun W => (Wi.seq (k := 5) (m := 2) ?_).le (by decide)
  rw [i111_t]
  exact ⟨g1, g2, end_s (ask_s (la := m (m 40 + 256 * m 41 + y)) (A := m (m 44 + 256 * m 45 + y)) (lm := m 32) (M := m 33) (W.m _) (W.m _) (W.m _) (W.m _)) (fun a n z cc h => by rw [i111_e]; exact pick _ at_ at_) (fun a n z cc => by rw [i111_p]; exact pick _ at_ at_)⟩
theorem tu000 (n1 ll lh ml mh hl hh kl kh : Nat) : TestB false false false (U000 n1 ll lh ml mh hl hh kl kh) (ll + 256 * lh) (ml + 256 * mh) (hl + 256 * hh) (kl + 256 * kh) 529 560 := fun c x y m h g1 g2 g3 g4 => by
  obtain ⟨a, n, v, z, cc, rfl⟩ := h
  refine Wi.wf fun W => (gs_ok (k := 4) ?_).le (by decide)
  rw [u000_t]
  refine ⟨g4, g3, ?_⟩
  rw [ask_u1 (la := m (ml + 256 * mh + x)) (A := m (kl + 256 * kh + x)) (lm := m (ll + 256 * lh + x)) (M := m (hl + 256 * hh + x)) (W.m _) (W.m _)]
  exact pick _ at_ at_
theorem tu001 (n1 ll lh ml mh hl hh kl kh : Nat) : TestB true false false (U001 n1 ll lh ml mh hl hh kl kh) (ll + 256 * lh) (ml + 256 * mh) (hl + 256 * hh) (kl + 256 * kh) 529 560 := fun c x y m h g1 g2 g3 g4 => by
  obtain ⟨a, n, v, z, cc, rfl⟩ := h
  refine Wi.wf fun W => (gs_ok (k := 4) ?_).le (by decide)
  rw [u001_t]
  refine ⟨g3, g4, ?_⟩
  rw [ask_u1 (la := m (ll + 256 * lh + x)) (A := m (hl + 256 * hh + x)) (lm := m (ml + 256 * mh + x)) (M := m (kl + 256 * kh + x)) (W.m _) (W.m _)]
  exact pick _ at_ at_
theorem tu010 (n1 ll lh ml mh hl hh kl kh : Nat) : TestB false false true (U010 n1 ll lh ml mh hl hh kl kh) (ll + 256 * lh) (ml + 256 * mh) (hl + 256 * hh) (kl + 256 * kh) 533 564 := fun c x y m h g1 g2 g3 g4 => by
  obtain ⟨a, n, v, z, cc, rfl⟩ := h
  refine Wi.wf fun W => (Wi.seq (k := 4) (m := 2) ?_).le (by decide)
  rw [u010_t]
  exact ⟨g4, g3, end_s (ask_s1 (la := m (ml + 256 * mh + x)) (A := m (kl + 256 * kh + x)) (lm := m (ll + 256 * lh + x)) (M := m (hl + 256 * hh + x)) (W.m _) (W.m _)) (fun a n z cc h => by rw [u010_e]; exact pick _ at_ at_) (fun a n z cc => by rw [u010_p]; exact pick _ at_ at_)⟩
theorem tu011 (n1 ll lh ml mh hl hh kl kh : Nat) : TestB true false true (U011 n1 ll lh ml mh hl hh kl kh) (ll + 256 * lh) (ml + 256 * mh) (hl + 256 * hh) (kl + 256 * kh) 533 564 := fun c x y m h g1 g2 g3 g4 => by
  obtain ⟨a, n, v, z, cc, rfl⟩ := h
  refine Wi.wf fun W => (Wi.seq (k := 4) (m := 2) ?_).le (by decide)
  rw [u011_t]
  exact ⟨g3, g4, end_s (ask_s1 (la := m (ll + 256 * lh + x)) (A := m (hl + 256 * hh + x)) (lm := m (ml + 256 * mh + x)) (M := m (kl + 256 * kh + x)) (W.m _) (W.m _)) (fun a n z cc h => by rw [u011_e]; exact pick _ at_ at_) (fun a n z cc => by rw [u011_p]; exact pick _ at_ at_)⟩
theorem tu100 (n1 ll lh ml mh hl hh kl kh : Nat) : TestB false true false (U100 n1 ll lh ml mh hl hh kl kh) (ll + 256 * lh) (ml + 256 * mh) (hl + 256 * hh) (kl + 256 * kh) 534 565 := fun c x y m h g1 g2 g3 g4 => by
  obtain ⟨a, n, v, z, cc, rfl⟩ := h
  refine Wi.wf fun W => (gs_ok (k := 5) ?_).le (by decide)
  rw [u100_t]
  refine ⟨g2, g1, g4, g3, ?_⟩
  rw [ask_u (la := m (ml + 256 * mh + x)) (A := m (kl + 256 * kh + x)) (lm := m (ll + 256 * lh + x)) (M := m (hl + 256 * hh + x)) (W.m _) (W.m _) (W.m _) (W.m _)]
  exact pick _ at_ at_
theorem tu101 (n1 ll lh ml mh hl hh kl kh : Nat) : TestB true true false (U101 n1 ll lh ml mh hl hh kl kh) (ll + 256 * lh) (ml + 256 * mh) (hl + 256 * hh) (kl + 256 * kh) 534 565 := fun c x y m h g1 g2 g3 g4 => by
  obtain ⟨a, n, v, z, cc, rfl⟩ := h
  refine Wi.wf fun W => (gs_ok (k := 5) ?_).le (by decide)
  rw [u101_t]
  refine ⟨g1, g2, g3, g4, ?_⟩
  rw [ask_u (la := m (ll + 256 * lh + x)) (A := m (hl + 256 * hh + x)) (lm := m (ml + 256 * mh + x)) (M := m (kl + 256 * kh + x)) (W.m _) (W.m _) (W.m _) (W.m _)]
  exact pick _ at_ at_
theorem tu110 (n1 ll lh ml mh hl hh kl kh : Nat) : TestB false true true (U110 n1 ll lh ml mh hl hh kl kh) (ll + 256 * lh) (ml + 256 * mh) (hl + 256 * hh) (kl + 256 * kh) 538 569 := fun c x y m h g1 g2 g3 g4 => by
  obtain ⟨a, n, v, z, cc, rfl⟩ := h
  refine Wi.wf fun W => (Wi.seq (k := 5) (m := 2) ?_).le (by decide)
  rw [u110_t]
  exact ⟨g2, g1, g4, g3, end_s (ask_s (la := m (ml + 256 * mh + x)) (A := m (kl + 256 * kh + x)) (lm := m (ll + 256 * lh + x)) (M := m (hl + 256 * hh + x)) (W.m _) (W.m _) (W.m _) (W.m _)) (fun a n z cc h => by rw [u110_e]; exact pick _ at_ at_) (fun a n z cc => by rw [u110_p]; exact pick _ at_ at_)⟩
theorem tu111 (n1 ll lh ml mh hl hh kl kh : Nat) : TestB true true true (U111 n1 ll lh ml mh hl hh kl kh) (ll + 256 * lh) (ml + 256 * mh) (hl + 256 * hh) (kl + 256 * kh) 538 569 := fun c x y m h g1 g2 g3 g4 => by
  obtain ⟨a, n, v, z, cc, rfl⟩ := h
  refine Wi.wf fun W => (Wi.seq (k := 5) (m := 2) ?_).le (by decide)
  rw [u111_t]
  exact ⟨g1, g2, g3, g4, end_s (ask_s (la := m (ll + 256 * lh + x)) (A := m (hl + 256 * hh + x)) (lm := m (ml + 256 * mh + x)) (M := m (kl + 256 * kh + x)) (W.m _) (W.m _) (W.m _) (W.m _)) (fun a n z cc h => by rw [u111_e]; exact pick _ at_ at_) (fun a n z cc => by rw [u111_p]; exact pick _ at_ at_)⟩
end
end Mine

end
section
open PySem PySem.W PyProof.Rows
namespace Mine
noncomputable section
theorem up_ne {m : Nat → Nat} {k v i : Nat} (h : i ≠ k) : up m k v i = m i := if_neg h
theorem up_eq {m : Nat → Nat} {k v : Nat} : up m k v k = v := if_pos rfl
theorem gt_set {p : List Nat} {y s : Nat} (h : y < p.length) (i : Nat) : gtL (p.set y s) i = if i = y then s else gtL p i := by
  unfold gtL
  rw [List.getD_eq_getElem?_getD, List.getElem?_set]
  by_cases q : y = i
  · subst q; rw [if_pos rfl, if_pos h, if_pos rfl]; rfl
  · rw [if_neg q, if_neg (Ne.symm q), List.getD_eq_getElem?_getD]
noncomputable def PL (n : Nat) (p : List Nat) : Prop := p.length = n ∧ ∀ i, i < n → gtL p i < n
theorem PL.set {n y s : Nat} {p : List Nat} (h : PL n p) (hy : y < n) (hs : s < n) : PL n (p.set y s) := by
  refine ⟨by rw [List.length_set]; exact h.1, fun i hi => ?_⟩
  rw [gt_set (by rw [h.1]; exact hy)]
  split
  · exact hs
  · exact h.2 i hi
structure Rw (n low high : Nat) (A B M0 : Nat → Nat) (p : List Nat) (m : Nat → Nat) : Prop where
  row : ∀ i, i < n → m (low + i) = A (gtL p i) ∧ m (high + i) = B (gtL p i)
  fr : ∀ j, (∀ i, i < n → j ≠ low + i ∧ j ≠ high + i) → (j < 32 ∨ 36 ≤ j) → m j = M0 j
structure Lie (n low high : Nat) : Prop where
  n3 : 3 ≤ n
  n5 : n ≤ 5
  l1 : 760 ≤ low
  l2 : low ≤ 769
  h1 : 1018 ≤ high
  h2 : high ≤ 1025
section
variable {n low high : Nat} {A B M0 : Nat → Nat} {p : List Nat} {m : Nat → Nat}
theorem Lie.ne (Z : Lie n low high) {i j : Nat} (hi : i < n) (hj : j < n) : low + i ≠ high + j := by
  have := Z.n5; have := Z.l2; have := Z.h1
  exact Nat.ne_of_lt (by lia)
theorem Lie.lo (Z : Lie n low high) {j i : Nat} (h : j < 700) : j ≠ low + i ∧ j ≠ high + i := by
  have := Z.l1; have := Z.h1
  exact ⟨Nat.ne_of_lt (by lia), Nat.ne_of_lt (by lia)⟩
theorem Rw.scr (R : Rw n low high A B M0 p m) (Z : Lie n low high) {j v : Nat} (h1 : 32 ≤ j) (h2 : j < 36) : Rw n low high A B M0 p (up m j v) := by
  refine ⟨fun i hi => ?_, fun k hk h => ?_⟩
  · have := Z.lo (j := j) (i := i) (Nat.lt_of_lt_of_le h2 (by decide))
    rw [up_ne (Ne.symm this.1), up_ne (Ne.symm this.2)]; exact R.row i hi
  · rw [up_ne (fun e => by subst e; exact h.elim (fun h => absurd h1 (Nat.not_le_of_lt h)) fun h => absurd h2 (Nat.not_lt_of_le h))]; exact R.fr k hk h
theorem Rw.put (R : Rw n low high A B M0 p m) (Z : Lie n low high) {y s : Nat} (hy : y < n) (hp : p.length = n) : Rw n low high A B M0 (p.set y s) (up (up m (low + y) (A s)) (high + y) (B s)) := by
  refine ⟨fun i hi => ?_, fun k hk h => ?_⟩
  · rw [gt_set (by rw [hp]; exact hy), up_ne (Z.ne hi hy)]
    by_cases q : i = y
    · subst q; rw [up_eq, up_eq, if_pos rfl]; exact ⟨rfl, rfl⟩
    · rw [up_ne (fun e => q (Nat.add_left_cancel e)), up_ne (fun e => q (Nat.add_left_cancel e)), up_ne (Ne.symm (Z.ne hy hi)), if_neg q]; exact R.row i hi
  · rw [up_ne (hk y hy).2, up_ne (hk y hy).1]; exact R.fr k hk h
structure Pt (low high : Nat) (m : Nat → Nat) : Prop where
  a : m 40 + 256 * m 41 + 1 = low
  b : m 42 + 256 * m 43 = low
  c : m 44 + 256 * m 45 + 1 = high
  d : m 46 + 256 * m 47 = high
theorem Rw.lw (R : Rw n low high A B M0 p m) (Z : Lie n low high) {j : Nat} (h1 : 36 ≤ j) (h2 : j < 700) : m j = M0 j := R.fr j (fun i _ => Z.lo h2) (.inr h1)
theorem Rw.pt (R : Rw n low high A B M0 p m) (Z : Lie n low high) (P : Pt low high M0) : Pt low high m := by
  obtain ⟨a, b, c, d⟩ := P
  rw [← R.lw Z (j := 40) (by decide) (by decide), ← R.lw Z (j := 41) (by decide) (by decide)] at a
  rw [← R.lw Z (j := 42) (by decide) (by decide), ← R.lw Z (j := 43) (by decide) (by decide)] at b
  rw [← R.lw Z (j := 44) (by decide) (by decide), ← R.lw Z (j := 45) (by decide) (by decide)] at c
  rw [← R.lw Z (j := 46) (by decide) (by decide), ← R.lw Z (j := 47) (by decide) (by decide)] at d
  exact ⟨a, b, c, d⟩
theorem Pt.up (P : Pt low high m) (Z : Lie n low high) {j v : Nat} (h : j < 40 ∨ 48 ≤ j) : Pt low high (up m j v) := by
  have k : ∀ i, 40 ≤ i → i < 48 → Mine.up m j v i = m i := fun i h1 h2 => up_ne fun e => by subst e; exact h.elim (fun h => absurd h1 (Nat.not_le_of_lt h)) fun h => absurd h2 (Nat.not_lt_of_le h)
  obtain ⟨a, b, c, d⟩ := P
  refine ⟨?_, ?_, ?_, ?_⟩
  · rw [k 40 (by decide) (by decide), k 41 (by decide) (by decide)]; exact a
  · rw [k 42 (by decide) (by decide), k 43 (by decide) (by decide)]; exact b
  · rw [k 44 (by decide) (by decide), k 45 (by decide) (by decide)]; exact c
  · rw [k 46 (by decide) (by decide), k 47 (by decide) (by decide)]; exact d
theorem Lie.big (Z : Lie n low high) {y : Nat} (h : y < n) : low + y < 1088 ∧ high + y < 1088 ∧ 581 ≤ low + y ∧ 581 ≤ high + y ∧ 48 ≤ low + y ∧ 48 ≤ high + y := by
  obtain ⟨_, a, b, c, d, e⟩ := Z
  refine ⟨by lia, by lia, by lia, by lia, by lia, by lia⟩
theorem Lie.w (Z : Lie n low high) {j i v w : Nat} (h : j < 700) : Mine.up (Mine.up m (low + i) v) (high + i) w j = m j := by rw [up_ne (Z.lo h).2, up_ne (Z.lo h).1]
section
variable {L : List Nat} {mv m1 m2 fi f1 f2 dn : Nat} {f w s : Bool} {c : Nat → Nat → Bool}
theorem ins_f (I : InsB L n mv m1 m2 fi f1 f2 dn) (hd : dn ≤ 581) (Z : Lie n low high) (P : Pt low high M0) (R : Rw n low high A B M0 p m) (hp : p.length = n) {x y i y0 : Nat} (hy : y < n) (h32 : m 32 = A i) (h33 : m 33 = B i) (h34 : m 34 = y0) (h0 : y0 < 5) {co : Co} (h : At fi x y m co) :
    Wi L 1088 7 co fun co' => ∃ m', At 514 x (y0 + 1) m' co' ∧ Rw n low high A B M0 (p.set y i) m' := by
  obtain ⟨a, fn, v, z, cc, rfl⟩ := h
  have P1 := R.pt Z P
  have g := Z.big hy
  refine Wi.seq (k := 2) (m := 5) ?_
  rw [I.bf, P1.b]
  refine ⟨g.1, .inr (Nat.le_trans hd g.2.2.1), ?_⟩
  refine Wi.seq (k := 2) (m := 3) ?_
  have P2 := P1.up Z (j := low + y) (v := m 32) (.inr g.2.2.2.2.1)
  rw [I.bg, P2.d]
  refine ⟨g.2.1, .inr (Nat.le_trans hd g.2.2.2.1), ?_⟩
  refine gs_ok (k := 3) ?_
  rw [I.bh, up_ne (i := 33) (Z.lo (by decide)).1, Z.w (j := 34) (by decide), h34, Nat.mod_eq_of_lt (Nat.lt_of_lt_of_le (Nat.succ_lt_succ h0) (by decide))]
  refine ifDn (fun _ => ⟨_, at_, ?_⟩) fun e => nomatch e
  rw [h32, h33]
  exact R.put Z hy hp
theorem ins_in (I : InsB L n mv m1 m2 fi f1 f2 dn) (T : TestI f w s L mv fi) (hd : dn ≤ 581) (Z : Lie n low high) (P : Pt low high M0) (hc : ∀ i j, i < n → j < n → c i j = ltR f w s (A i) (B i) (A j) (B j)) {x i y0 : Nat} (hi : i < n) (h0 : y0 < 5) :
    ∀ (y : Nat) (p : List Nat) (m : Nat → Nat) (co : Co), PL n p → Rw n low high A B M0 p m → y + 1 < n → m 32 = A i → m 33 = B i → m 34 = y0 → At 528 x (y + 1) m co →
      Wi L 1088 (13 * (y + 1) + 14) co fun co' => ∃ m', At 514 x (y0 + 1) m' co' ∧ Rw n low high A B M0 (insIn c i (y + 1) p) m' := by
  intro y
  induction y with
  | zero =>
    intro p m co hp R hy h32 h33 h34 h
    have P1 := R.pt Z P
    have hy0 : 0 < n := Nat.lt_of_succ_lt hy
    have g := Z.big hy
    have g0 := Z.big hy0
    have e1 : m 40 + 256 * m 41 + (0 + 1) = low + 0 := P1.a
    have e2 : m 44 + 256 * m 45 + (0 + 1) = high + 0 := P1.c
    refine (Wi.bind (m := 13) (T co x _ m h (by rw [e1]; exact g0.1) (by rw [e2]; exact g0.2.1)) fun c2 _ h2 => ?_).le (by decide)
    rw [e1, e2, (R.row 0 hy0).1, (R.row 0 hy0).2, h32, h33, ← hc _ _ hi (hp.2 0 hy0)] at h2
    show Wi L 1088 13 c2 fun co' => ∃ m', At 514 x (y0 + 1) m' co' ∧ Rw n low high A B M0 (match c i (gtL p 0) with | false => p.set 1 i | true => insIn c i 0 (p.set 1 (gtL p 0))) m'
    cases q : c i (gtL p 0) with
    | false =>
      rw [q] at h2
      exact (ins_f I hd Z P R hp.1 hy h32 h33 h34 h0 h2).le (by decide)
    | true =>
      rw [q] at h2
      obtain ⟨a, fn, v, z, cc, rfl⟩ := h2
      refine Wi.seq (k := 2) (m := 11) ?_
      show gs L 1088 2 ⟨a, x, 0 + 1, 255, mv, fn, v, z, cc, m⟩ _
      rw [I.bm, e1, P1.b]
      refine ⟨g0.1, g.1, .inr (Nat.le_trans hd g.2.2.1), Wi.seq (k := 2) (m := 9) ?_⟩
      have P2 := P1.up Z (j := low + (0 + 1)) (v := m (low + 0)) (.inr g.2.2.2.2.1)
      rw [I.bo, show ∀ t, t + 1 = high → t + (0 + 1) = high + 0 from fun _ h => h, P2.d]
      · refine ⟨g0.2.1, g.2.1, .inr (Nat.le_trans hd g.2.2.2.1), Wi.seq (k := 2) (m := 7) ?_⟩
        rw [I.bp, up_ne (i := high + 0) (Ne.symm (Z.ne hy hy0)), (R.row 0 hy0).1, (R.row 0 hy0).2]
        refine ifDn (fun e => absurd rfl e) fun _ => ?_
        have R2 := R.put Z (s := gtL p 0) hy hp.1
        exact ins_f I hd Z P R2 (by rw [List.length_set]; exact hp.1) hy0 (by rw [Z.w (by decide)]; exact h32) (by rw [Z.w (by decide)]; exact h33) (by rw [Z.w (by decide)]; exact h34) h0 at_
      · exact P2.c
  | succ y ih =>
    intro p m co hp R hy h32 h33 h34 h
    have P1 := R.pt Z P
    have hy0 : y + 1 < n := Nat.lt_of_succ_lt hy
    have g := Z.big hy
    have g0 := Z.big hy0
    have e1 : m 40 + 256 * m 41 + (y + 1 + 1) = low + (y + 1) := by rw [← P1.a]; lia
    have e2 : m 44 + 256 * m 45 + (y + 1 + 1) = high + (y + 1) := by rw [← P1.c]; lia
    refine (Wi.bind (m := 6 + (13 * (y + 1) + 14)) (T co x _ m h (by rw [e1]; exact g0.1) (by rw [e2]; exact g0.2.1)) fun c2 _ h2 => ?_).le (by lia)
    rw [e1, e2, (R.row _ hy0).1, (R.row _ hy0).2, h32, h33, ← hc _ _ hi (hp.2 _ hy0)] at h2
    show Wi L 1088 _ c2 fun co' => ∃ m', At 514 x (y0 + 1) m' co' ∧ Rw n low high A B M0 (match c i (gtL p (y + 1)) with | false => p.set (y + 1 + 1) i | true => insIn c i (y + 1) (p.set (y + 1 + 1) (gtL p (y + 1)))) m'
    cases q : c i (gtL p (y + 1)) with
    | false =>
      rw [q] at h2
      exact (ins_f I hd Z P R hp.1 hy h32 h33 h34 h0 h2).le (by lia)
    | true =>
      rw [q] at h2
      obtain ⟨a, fn, v, z, cc, rfl⟩ := h2
      refine (Wi.seq (k := 2) (m := 2 + (2 + (13 * (y + 1) + 14))) ?_).le (by lia)
      show gs L 1088 2 ⟨a, x, y + 1 + 1, 255, mv, fn, v, z, cc, m⟩ _
      rw [I.bm, e1, P1.b]
      refine ⟨g0.1, g.1, .inr (Nat.le_trans hd g.2.2.1), Wi.seq (k := 2) ?_⟩
      have P2 := P1.up Z (j := low + (y + 1 + 1)) (v := m (low + (y + 1))) (.inr g.2.2.2.2.1)
      have e3 : Mine.up m (low + (y + 1 + 1)) (m (low + (y + 1))) 44 + 256 * Mine.up m (low + (y + 1 + 1)) (m (low + (y + 1))) 45 + (y + 1 + 1) = high + (y + 1) := by rw [up_ne (Z.lo (by decide)).1, up_ne (Z.lo (by decide)).1]; exact e2
      rw [I.bo, e3, P2.d]
      refine ⟨g0.2.1, g.2.1, .inr (Nat.le_trans hd g.2.2.2.1), Wi.seq (k := 2) ?_⟩
      have e4 : (y + 1 + 1 + 255) % 256 = y + 1 := by have := Z.n5; lia
      rw [I.bp, up_ne (i := high + (y + 1)) (Ne.symm (Z.ne hy hy0)), (R.row _ hy0).1, (R.row _ hy0).2, e4]
      refine ifDn (fun _ => ?_) fun e => nomatch e
      have R2 := R.put Z (s := gtL p (y + 1)) hy hp.1
      exact ih _ _ _ (hp.set hy (hp.2 _ hy0)) R2 hy0 (by rw [Z.w (by decide)]; exact h32) (by rw [Z.w (by decide)]; exact h33) (by rw [Z.w (by decide)]; exact h34) at_
theorem insIn_pl {i : Nat} (hi : i < n) : ∀ (y : Nat) (p : List Nat), PL n p → y < n → PL n (insIn c i y p) := by
  intro y
  induction y with
  | zero => exact fun p hp hy => hp.set hy hi
  | succ y ih =>
    intro p hp hy
    show PL n (match c i (gtL p y) with | false => p.set (y + 1) i | true => insIn c i y (p.set (y + 1) (gtL p y)))
    have hy0 := Nat.lt_of_succ_lt hy
    cases c i (gtL p y) with
    | false => exact hp.set hy hi
    | true => exact ih _ (hp.set hy (hp.2 y hy0)) hy0
theorem ins_out (I : InsB L n mv m1 m2 fi f1 f2 dn) (T : TestI f w s L mv fi) (hd : dn ≤ 581) (Z : Lie n low high) (P : Pt low high M0) (hc : ∀ i j, i < n → j < n → c i j = ltR f w s (A i) (B i) (A j) (B j)) {x : Nat} :
    ∀ (k y : Nat) (p : List Nat) (m : Nat → Nat) (co : Co), PL n p → Rw n low high A B M0 p m → y + 1 + k = n → At 514 x (y + 1) m co →
      Wi L 1088 (k * 80 + 2) co fun co' => ∃ y' m', At dn x y' m' co' ∧ Rw n low high A B M0 (insOut c k (y + 1) p) m' := by
  intro k
  induction k with
  | zero =>
    intro y p m co hp R hy h
    obtain ⟨a, fn, v, z, cc, rfl⟩ := h
    refine (gs_ok (k := 2) ?_).le (by decide)
    rw [I.bb]
    exact ifD (fun _ => ⟨_, _, at_, R⟩) fun e => absurd (Nat.le_of_eq hy.symm) e
  | succ k ih =>
    intro y p m co hp R hy h
    obtain ⟨a, fn, v, z, cc, rfl⟩ := h
    have hyn : y + 1 < n := by lia
    have g := Z.big hyn
    have y5 : y + 1 < 5 := Nat.lt_of_lt_of_le hyn Z.n5
    refine (Wi.seq (k := 2) (m := 1 + (2 + (2 + ((13 * (y + 1) + 14) + (k * 80 + 2))))) ?_).le (by lia)
    rw [I.bb]
    refine ifD (fun e => absurd e (Nat.not_le_of_lt hyn)) fun _ => ?_
    refine Wi.seq (k := 1) ?_
    rw [I.bc]
    have R1 := R.scr Z (j := 34) (v := y + 1) (by decide) (by decide)
    refine Wi.seq (k := 2) ?_
    rw [I.bd, (R1.pt Z P).b, (R1.row _ hyn).1]
    refine ⟨g.1, Wi.seq (k := 2) ?_⟩
    have R2 := R1.scr Z (j := 32) (v := A (gtL p (y + 1))) (by decide) (by decide)
    rw [I.be, (R2.pt Z P).d, (R2.row _ hyn).2]
    refine ⟨g.2.1, ?_⟩
    have R3 := R2.scr Z (j := 33) (v := B (gtL p (y + 1))) (by decide) (by decide)
    refine Wi.bind (ins_in I T hd Z P hc (hp.2 _ hyn) y5 y p _ _ hp R3 hyn rfl rfl rfl at_) fun c2 _ h2 => ?_
    obtain ⟨m', h2, R4⟩ := h2
    exact ih (y + 1) _ _ _ (insIn_pl (hp.2 _ hyn) _ _ hp hyn) R4 (by lia) h2
end
end
end
end Mine

end
section
open PySem PySem.W PyProof.Rows
namespace Mine
noncomputable section
theorem El_eeeeaaaaa {P : Prop} {α1 : Sort _} {α2 : Sort _} {α3 : Sort _} {α4 : Sort _} {q1 : α1 → α2 → α3 → α4 → Prop} {q2 : α1 → α2 → α3 → α4 → Prop} {q3 : α1 → α2 → α3 → α4 → Prop} {q4 : α1 → α2 → α3 → α4 → Prop} {q5 : α1 → α2 → α3 → α4 → Prop} {q6 : α1 → α2 → α3 → α4 → Prop} (h : ∃ x1, ∃ x2, ∃ x3, ∃ x4, q1 x1 x2 x3 x4 ∧ q2 x1 x2 x3 x4 ∧ q3 x1 x2 x3 x4 ∧ q4 x1 x2 x3 x4 ∧ q5 x1 x2 x3 x4 ∧ q6 x1 x2 x3 x4) (k : ∀ x1 : α1, ∀ x2 : α2, ∀ x3 : α3, ∀ x4 : α4, q1 x1 x2 x3 x4 → q2 x1 x2 x3 x4 → q3 x1 x2 x3 x4 → q4 x1 x2 x3 x4 → q5 x1 x2 x3 x4 → q6 x1 x2 x3 x4 → P) : P := Exists.elim h fun w0 g0 => Exists.elim g0 fun w1 g1 => Exists.elim g1 fun w2 g2 => Exists.elim g2 fun w3 g3 => k w0 w1 w2 w3 g3.1 g3.2.1 g3.2.2.1 g3.2.2.2.1 g3.2.2.2.2.1 g3.2.2.2.2.2
theorem El_eeeaa {P : Prop} {α1 : Sort _} {α2 : Sort _} {α3 : Sort _} {q1 : α1 → α2 → α3 → Prop} {q2 : α1 → α2 → α3 → Prop} {q3 : α1 → α2 → α3 → Prop} (h : ∃ x1, ∃ x2, ∃ x3, q1 x1 x2 x3 ∧ q2 x1 x2 x3 ∧ q3 x1 x2 x3) (k : ∀ x1 : α1, ∀ x2 : α2, ∀ x3 : α3, q1 x1 x2 x3 → q2 x1 x2 x3 → q3 x1 x2 x3 → P) : P := Exists.elim h fun w0 g0 => Exists.elim g0 fun w1 g1 => Exists.elim g1 fun w2 g2 => k w0 w1 w2 g2.1 g2.2.1 g2.2.2
section
variable {n low high : Nat} {A B M0 : Nat → Nat} {p : List Nat} {m : Nat → Nat}
theorem Rw.swap (R : Rw n low high A B M0 p m) (Z : Lie n low high) {x : Nat} (hx : x + 1 < n) (hp : p.length = n) :
    Rw n low high A B M0 ((p.set x (gtL p (x + 1))).set (x + 1) (gtL p x)) (up (up (up (up m (low + 1 + x) (A (gtL p x))) (low + x) (A (gtL p (x + 1)))) (high + 1 + x) (B (gtL p x))) (high + x) (B (gtL p (x + 1)))) := by
  have hx0 : x < n := Nat.lt_of_succ_lt hx
  have e1 : low + 1 + x = low + (x + 1) := by rw [Nat.add_assoc, Nat.add_comm 1 x]
  have e2 : high + 1 + x = high + (x + 1) := by rw [Nat.add_assoc, Nat.add_comm 1 x]
  rw [e1, e2]
  refine ⟨fun i hi => ?_, fun k hk h => ?_⟩
  · rw [gt_set (by rw [List.length_set, hp]; exact hx), gt_set (by rw [hp]; exact hx0)]
    have a1 := Z.ne hi hx0
    have a2 := Z.ne hi hx
    have b1 := Z.ne hx0 hi
    have b2 := Z.ne hx hi
    by_cases q : i = x + 1
    · subst q
      rw [if_pos rfl, up_ne a1, up_ne a2, up_ne (fun e => absurd (Nat.add_left_cancel e) (Nat.succ_ne_self x)), up_eq, up_ne (fun e => absurd (Nat.add_left_cancel e) (Nat.succ_ne_self x)), up_eq]
      exact ⟨rfl, rfl⟩
    · rw [if_neg q]
      by_cases q' : i = x
      · subst q'
        rw [if_pos rfl, up_ne a1, up_ne a2, up_eq, up_eq]
        exact ⟨rfl, rfl⟩
      · rw [if_neg q', up_ne a1, up_ne a2, up_ne (fun e => q' (Nat.add_left_cancel e)), up_ne (fun e => q (Nat.add_left_cancel e)), up_ne (fun e => q' (Nat.add_left_cancel e)), up_ne (fun e => q (Nat.add_left_cancel e)), up_ne (Ne.symm b1), up_ne (Ne.symm b2)]
        exact R.row i hi
  · rw [up_ne (hk x hx0).2, up_ne (hk (x + 1) hx).2, up_ne (hk x hx0).1, up_ne (hk (x + 1) hx).1]; exact R.fr k hk h
theorem Lie.w' (Z : Lie n low high) {j i k v u : Nat} (h : j < 700) : Mine.up (Mine.up m (low + i) v) (low + k) u j = m j := by rw [up_ne (Z.lo h).1, up_ne (Z.lo h).1]
theorem Lie.w2 (Z : Lie n low high) {j i k v u : Nat} (h : j < 700) : Mine.up (Mine.up m (high + i) v) (high + k) u j = m j := by rw [up_ne (Z.lo h).2, up_ne (Z.lo h).2]
theorem Wi.ret' {L : List Nat} {N k : Nat} {c : Co} {Q : Co → Prop} (h : Q c) : Wi L N k c Q := (Wi.ret h).le (Nat.zero_le k)
theorem bubIn_pl {c : Nat → Nat → Bool} : ∀ (k x z : Nat) (p : List Nat), PL n p → x + k < n → z ≤ x → PL n (bubIn c k x z p).2 ∧ (bubIn c k x z p).1 ≤ x + k := by
  intro k
  induction k with
  | zero => exact fun x z p hp hx hz => ⟨hp, hz⟩
  | succ k ih =>
    intro x z p hp hx hz
    have e : x + (k + 1) = x + 1 + k := by rw [Nat.add_assoc, Nat.add_comm 1 k]
    rw [e] at hx ⊢
    have hx1 : x + 1 < n := Nat.lt_of_le_of_lt (Nat.le_add_right _ k) hx
    have hx0 : x < n := Nat.lt_of_succ_lt hx1
    show PL n (match c (gtL p (x + 1)) (gtL p x) with | false => bubIn c k (x + 1) z p | true => bubIn c k (x + 1) (x + 1) ((p.set x (gtL p (x + 1))).set (x + 1) (gtL p x))).2 ∧ (match c (gtL p (x + 1)) (gtL p x) with | false => bubIn c k (x + 1) z p | true => bubIn c k (x + 1) (x + 1) ((p.set x (gtL p (x + 1))).set (x + 1) (gtL p x))).1 ≤ x + 1 + k
    cases c (gtL p (x + 1)) (gtL p x) with
    | false => exact ih _ _ _ hp hx (Nat.le_succ_of_le hz)
    | true => exact ih _ _ _ ((hp.set hx0 (hp.2 _ hx1)).set hx1 (hp.2 _ hx0)) hx (Nat.le_refl _)
variable {L : List Nat} {ll lh ml mh hl hh kl kh sw s1 s2 s3 s4 s5 fi g0 g1 g2 dn : Nat} {f w s : Bool} {c : Nat → Nat → Bool}
structure Op (low high ll lh ml mh hl hh kl kh : Nat) : Prop where
  a : ll + 256 * lh = low
  b : ml + 256 * mh = low + 1
  c : hl + 256 * hh = high
  d : kl + 256 * kh = high + 1
theorem bub_turn (I : BubB L (n - 1) ll lh ml mh hl hh kl kh sw s1 s2 s3 s4 s5 fi g0 g1 g2 dn) (T : TestB f w s L (ll + 256 * lh) (ml + 256 * mh) (hl + 256 * hh) (kl + 256 * kh) sw fi) (hd : dn ≤ 581) (Z : Lie n low high) (O : Op low high ll lh ml mh hl hh kl kh)
    (hc : ∀ i j, i < n → j < n → c i j = ltR f w s (A i) (B i) (A j) (B j)) {l x y z : Nat} {p : List Nat} {m : Nat → Nat} {co : Co} (hp : PL n p) (R : Rw n low high A B M0 p m) (hx : x + 1 < n) (h34 : m 34 = l) (h35 : m 35 = z) (h : At 520 x y m co) :
    Wi L 1088 20 co fun co' => ∃ z' q y' m', At g0 (x + 1) y' m' co' ∧ Rw n low high A B M0 q m' ∧ PL n q ∧ m' 34 = l ∧ m' 35 = z' ∧ ∀ k, bubIn c (k + 1) x z p = bubIn c k (x + 1) z' q := by
  have hx0 : x < n := Nat.lt_of_succ_lt hx
  have g := Z.big hx
  have g0' := Z.big hx0
  have e1 : low + 1 + x = low + (x + 1) := by rw [Nat.add_assoc, Nat.add_comm 1 x]
  have e2 : high + 1 + x = high + (x + 1) := by rw [Nat.add_assoc, Nat.add_comm 1 x]
  have x5 : x + 1 < 256 := Nat.lt_of_lt_of_le hx (Nat.le_trans Z.n5 (by decide))
  obtain ⟨oa, ob, oc, od⟩ := O
  rw [oa, ob, oc, od] at T
  refine Wi.bind (m := 13) (T co x y m h g0'.1 (by rw [e1]; exact g.1) g0'.2.1 (by rw [e2]; exact g.2.1)) fun c2 _ h2 => ?_
  rw [e1, e2, (R.row _ hx).1, (R.row _ hx).2, (R.row _ hx0).1, (R.row _ hx0).2, ← hc _ _ (hp.2 _ hx) (hp.2 _ hx0)] at h2
  have step : ∀ k, bubIn c (k + 1) x z p = match c (gtL p (x + 1)) (gtL p x) with | false => bubIn c k (x + 1) z p | true => bubIn c k (x + 1) (x + 1) ((p.set x (gtL p (x + 1))).set (x + 1) (gtL p x)) := fun _ => rfl
  cases q : c (gtL p (x + 1)) (gtL p x) with
  | false =>
    rw [q] at h2 step
    obtain ⟨a, fn, v, zf, cc, rfl⟩ := h2
    refine (gs_ok (k := 1) ?_).le (by decide)
    show gs L 1088 1 ⟨a, x, y, 255, fi, fn, v, zf, cc, m⟩ _
    rw [I.bf, Nat.mod_eq_of_lt x5]
    exact ⟨z, p, _, _, at_, R, hp, h34, h35, step⟩
  | true =>
    rw [q] at h2 step
    obtain ⟨a, fn, v, zf, cc, rfl⟩ := h2
    refine Wi.seq (k := 3) (m := 10) ?_
    show gs L 1088 3 ⟨a, x, y, 255, sw, fn, v, zf, cc, m⟩ _
    rw [I.bs, oa, ob]
    refine ⟨g0'.1, by rw [e1]; exact g.1, by rw [e1]; exact g.1, .inr (by rw [e1]; exact Nat.le_trans hd g.2.2.1), Wi.seq (k := 2) (m := 8) ?_⟩
    rw [I.bt, oa]
    refine ⟨g0'.1, .inr (Nat.le_trans hd g0'.2.2.1), Wi.seq (k := 3) (m := 5) ?_⟩
    rw [I.bu, oc, od]
    refine ⟨g0'.2.1, by rw [e2]; exact g.2.1, by rw [e2]; exact g.2.1, .inr (by rw [e2]; exact Nat.le_trans hd g.2.2.2.1), Wi.seq (k := 2) (m := 3) ?_⟩
    rw [I.bw, oc]
    refine ⟨g0'.2.1, .inr (Nat.le_trans hd g0'.2.2.2.1), Wi.seq (k := 2) (m := 1) ?_⟩
    rw [I.bi, Nat.mod_eq_of_lt x5]
    refine gs_ok (k := 1) ?_
    rw [I.bk]
    refine ifDn (fun _ => ?_) fun e => nomatch e
    have R2 := R.swap Z hx hp.1
    rw [up_ne (i := high + x) (Ne.symm (Z.ne hx0 hx0)), up_ne (i := high + 1 + x) (by rw [e2]; exact Ne.symm (Z.ne hx0 hx)), e1, e2, up_ne (i := high + x) (Ne.symm (Z.ne hx hx0)), up_ne (i := high + (x + 1)) (Ne.symm (Z.ne hx hx)), (R.row _ hx).1, (R.row _ hx).2, (R.row _ hx0).1, (R.row _ hx0).2]
    rw [e1, e2] at R2
    refine ⟨x + 1, _, _, _, at_, R2.scr Z (by decide) (by decide), (hp.set hx0 (hp.2 _ hx)).set hx (hp.2 _ hx0), ?_, up_eq, step⟩
    rw [up_ne (by decide), Z.w2 (by decide), Z.w' (by decide)]
    exact h34
theorem bub_in (I : BubB L (n - 1) ll lh ml mh hl hh kl kh sw s1 s2 s3 s4 s5 fi g0 g1 g2 dn) (T : TestB f w s L (ll + 256 * lh) (ml + 256 * mh) (hl + 256 * hh) (kl + 256 * kh) sw fi) (hd : dn ≤ 581) (Z : Lie n low high) (O : Op low high ll lh ml mh hl hh kl kh)
    (hc : ∀ i j, i < n → j < n → c i j = ltR f w s (A i) (B i) (A j) (B j)) {l : Nat} (hl' : l < n) :
    ∀ (k x y z : Nat) (p : List Nat) (m : Nat → Nat) (co : Co), PL n p → Rw n low high A B M0 p m → x + (k + 1) = l → m 34 = l → m 35 = z → At 520 x y m co →
      Wi L 1088 ((k + 1) * 22) co fun co' => ∃ x' y' m', At g1 x' y' m' co' ∧ Rw n low high A B M0 (bubIn c (k + 1) x z p).2 m' ∧ m' 35 = (bubIn c (k + 1) x z p).1 := by
  intro k
  induction k with
  | zero =>
    intro x y z p m co hp R hx h34 h35 h
    refine Wi.bind (m := 2) (bub_turn I T hd Z O hc hp R (by rw [← hx] at hl'; exact hl') h34 h35 h) fun c2 _ h2 => ?_
    refine El_eeeeaaaaa h2 fun z' q y' m' h3 R' hq e34 e35 e => ?_
    obtain ⟨a, fn, v, zf, cc, rfl⟩ := h3
    refine gs_ok (k := 2) ?_
    rw [I.bg, e34, e]
    exact ifDn (fun e => absurd (Nat.le_of_eq hx.symm) e) fun _ => ⟨_, _, _, at_, R', e35⟩
  | succ k ih =>
    intro x y z p m co hp R hx h34 h35 h
    have hx1 : x + 1 < l := by rw [← hx]; exact Nat.add_lt_add_left (Nat.succ_lt_succ (Nat.succ_pos k)) x
    refine (Wi.bind (m := 2 + (k + 1) * 22) (bub_turn I T hd Z O hc hp R (Nat.lt_trans hx1 hl') h34 h35 h) fun c2 _ h2 => ?_).le (by rw [Nat.add_mul (k + 1) 1 22, Nat.add_comm]; exact Nat.le_of_eq (by rw [Nat.add_comm 2, Nat.add_assoc]))
    refine El_eeeeaaaaa h2 fun z' q y' m' h3 R' hq e34 e35 e => ?_
    obtain ⟨a, fn, v, zf, cc, rfl⟩ := h3
    refine Wi.seq (k := 2) ?_
    rw [I.bg, e34, e]
    exact ifDn (fun _ => ih (x + 1) y' z' q m' _ hq R' (by rw [← hx, Nat.add_assoc x 1, Nat.add_comm 1 (k + 1)]) e34 e35 at_) fun e => absurd e (Nat.not_le_of_lt hx1)
theorem bub_out (I : BubB L (n - 1) ll lh ml mh hl hh kl kh sw s1 s2 s3 s4 s5 fi g0 g1 g2 dn) (T : TestB f w s L (ll + 256 * lh) (ml + 256 * mh) (hl + 256 * hh) (kl + 256 * kh) sw fi) (hd : dn ≤ 581) (Z : Lie n low high) (O : Op low high ll lh ml mh hl hh kl kh)
    (hc : ∀ i j, i < n → j < n → c i j = ltR f w s (A i) (B i) (A j) (B j)) {r : List Nat} :
    ∀ (k l y : Nat) (p : List Nat) (m : Nat → Nat) (co : Co), bubOut c k (l + 1) p = some r → l + 1 < n → PL n p → Rw n low high A B M0 p m → At 514 (l + 1) y m co →
      Wi L 1088 (k * 96) co fun co' => ∃ x' y' m', At dn x' y' m' co' ∧ Rw n low high A B M0 r m' := by
  intro k
  induction k with
  | zero => intro l y p m co hr; exact nosome hr
  | succ k ih =>
    intro l y p m co hr hl hp R h
    obtain ⟨a, fn, v, zf, cc, rfl⟩ := h
    have l5 : l + 1 ≤ 4 := Nat.le_of_lt_succ (Nat.lt_of_lt_of_le hl Z.n5)
    refine (Wi.seq (k := 1) (m := 2 + ((l + 1) * 22 + (2 + (2 + k * 96)))) ?_).le (by lia)
    rw [I.bb]
    refine Wi.seq (k := 2) ?_
    rw [I.bc]
    have R1 := (R.scr Z (j := 34) (v := l + 1) (by decide) (by decide)).scr Z (j := 35) (v := 0) (by decide) (by decide)
    refine Wi.bind (bub_in I T hd Z O hc hl l 0 y 0 p _ _ hp R1 (by rw [Nat.zero_add]) rfl rfl at_) fun c2 _ h2 => ?_
    refine El_eeeaa h2 fun x' y' m' h3 R' e35 => ?_
    have ⟨hq, hz⟩ := bubIn_pl (n := n) (c := c) (l + 1) 0 0 p hp (by rw [Nat.zero_add]; exact hl) (Nat.le_refl 0)
    have hr : (match bubIn c (l + 1) 0 0 p with | (z, q) => match z with | 0 => some q | z + 1 => match z with | 0 => some q | z + 1 => bubOut c k (z + 1) q) = some r := hr
    revert hr R' e35 hq hz
    generalize bubIn c (l + 1) 0 0 p = b
    obtain ⟨z, q⟩ := b
    intro R' e35 hq hz hr
    have e35 : m' 35 = z := e35
    obtain ⟨a, fn, v, zf, cc, rfl⟩ := h3
    refine Wi.seq (k := 2) ?_
    rw [I.bh, e35]
    cases z with
    | zero =>
      obtain rfl := Option.some.inj hr
      exact ifD (fun _ => Wi.ret' ⟨_, _, _, at_, R'⟩) fun e => absurd rfl e
    | succ z =>
      refine ifD (fun e => nomatch e) fun _ => ?_
      have z4 : z + 1 ≤ l + 1 := by rw [Nat.zero_add] at hz; exact hz
      have e4 : (z + 1 + 255) % 256 = z := by lia
      refine Wi.seq (k := 2) ?_
      rw [I.bj, e4]
      cases z with
      | zero =>
        obtain rfl := Option.some.inj hr
        exact ifDn (fun e => absurd rfl e) fun _ => Wi.ret' ⟨_, _, _, at_, R'⟩
      | succ z =>
        refine ifDn (fun _ => ?_) fun e => nomatch e
        exact ih z _ q m' _ hr (Nat.lt_trans (Nat.lt_of_succ_le z4) hl) hq R' at_
end
end
end Mine

end
section
open PySem PySem.W PyProof.Rows
namespace Mine
noncomputable section
noncomputable abbrev st0 (m : Nat → Nat) : Co := ⟨0, 0, 0, 255, 512, false, false, false, false, m⟩
noncomputable def codeI (w s f : Bool) (n : Nat) : List Nat := match w with
  | false => (match s with
    | false => (match f with | false => I000 n | true => I001 n)
    | true => (match f with | false => I010 n | true => I011 n))
  | true => (match s with
    | false => (match f with | false => I100 n | true => I101 n)
    | true => (match f with | false => I110 n | true => I111 n))
noncomputable def codeU (w s f : Bool) (n lo hi : Nat) : List Nat := match w with
  | false => (match s with
    | false => (match f with | false => U000 (n - 1) (lo % 256) (lo / 256) ((lo + 1) % 256) ((lo + 1) / 256) (hi % 256) (hi / 256) ((hi + 1) % 256) ((hi + 1) / 256) | true => U001 (n - 1) (lo % 256) (lo / 256) ((lo + 1) % 256) ((lo + 1) / 256) (hi % 256) (hi / 256) ((hi + 1) % 256) ((hi + 1) / 256))
    | true => (match f with | false => U010 (n - 1) (lo % 256) (lo / 256) ((lo + 1) % 256) ((lo + 1) / 256) (hi % 256) (hi / 256) ((hi + 1) % 256) ((hi + 1) / 256) | true => U011 (n - 1) (lo % 256) (lo / 256) ((lo + 1) % 256) ((lo + 1) / 256) (hi % 256) (hi / 256) ((hi + 1) % 256) ((hi + 1) / 256)))
  | true => (match s with
    | false => (match f with | false => U100 (n - 1) (lo % 256) (lo / 256) ((lo + 1) % 256) ((lo + 1) / 256) (hi % 256) (hi / 256) ((hi + 1) % 256) ((hi + 1) / 256) | true => U101 (n - 1) (lo % 256) (lo / 256) ((lo + 1) % 256) ((lo + 1) / 256) (hi % 256) (hi / 256) ((hi + 1) % 256) ((hi + 1) / 256))
    | true => (match f with | false => U110 (n - 1) (lo % 256) (lo / 256) ((lo + 1) % 256) ((lo + 1) / 256) (hi % 256) (hi / 256) ((hi + 1) % 256) ((hi + 1) / 256) | true => U111 (n - 1) (lo % 256) (lo / 256) ((lo + 1) % 256) ((lo + 1) / 256) (hi % 256) (hi / 256) ((hi + 1) % 256) ((hi + 1) / 256)))
noncomputable def key5 (w s f : Bool) (A B : Nat → Nat) (i : Nat) : Int := bif f then - num w s (A i) (B i) else num w s (A i) (B i)
theorem lt_key {w s f : Bool} {A B : Nat → Nat} {i j : Nat} : ltR f w s (A i) (B i) (A j) (B j) = decide (key5 w s f A B i < key5 w s f A B j) := by
  cases f
  · rfl
  · exact decide_eq_decide.mpr (by show num w s (A j) (B j) < num w s (A i) (B i) ↔ - num w s (A i) (B i) < - num w s (A j) (B j); exact Int.neg_lt_neg_iff.symm)
theorem gt_range {n i : Nat} (h : i < n) : gtL (List.range n) i = i := by
  unfold gtL
  rw [List.getD_eq_getElem?_getD, List.getElem?_range h]; rfl
section
variable {n low high : Nat} {M0 : Nat → Nat} {f w s : Bool} {c : Nat → Nat → Bool} {L : List Nat} {r : List Nat}
noncomputable abbrev tA (M0 : Nat → Nat) (low : Nat) : Nat → Nat := fun i => M0 (low + i)
theorem pl0 : PL n (List.range n) := ⟨List.length_range, fun i h => by rw [gt_range h]; exact h⟩
theorem rw0 : Rw n low high (tA M0 low) (tA M0 high) M0 (List.range n) M0 := ⟨fun i h => by rw [gt_range h]; exact ⟨rfl, rfl⟩, fun _ _ _ => rfl⟩
noncomputable def End5 (dn n low high : Nat) (M0 : Nat → Nat) (r : List Nat) (co : Co) : Prop := co.pc = dn ∧ co.sp = 255 ∧ Rw n low high (tA M0 low) (tA M0 high) M0 r co.m
theorem ins_run {mv m1 m2 fi f1 f2 dn : Nat} (I : InsB L n mv m1 m2 fi f1 f2 dn) (T : TestI f w s L mv fi) (hd : dn ≤ 581) (Z : Lie n low high) (P : Pt low high M0) (hc : ∀ i j, i < n → j < n → c i j = decide (key5 w s f (tA M0 low) (tA M0 high) i < key5 w s f (tA M0 low) (tA M0 high) j)) (hr : insAlg c n = r) :
    Wi L 1088 499 (st0 M0) (End5 (512 + L.length) n low high M0 r) := by
  rw [I.len]
  have n3 := Z.n3
  have n5 := Z.n5
  obtain ⟨k, rfl⟩ : ∃ k, n = 1 + k := ⟨n - 1, by lia⟩
  refine (Wi.seq (k := 1) (m := k * 80 + 2) ?_).le (by lia)
  rw [I.ba]
  refine (ins_out I T hd Z P (fun i j hi hj => (hc i j hi hj).trans lt_key.symm) k 0 _ _ _ pl0 rw0 (by rw [Nat.zero_add]) at_).mono fun co h => ?_
  obtain ⟨y, m, ⟨a, fn, v, z, cc, rfl⟩, R⟩ := h
  refine ⟨rfl, rfl, ?_⟩
  rw [← hr]
  unfold insAlg
  rw [Nat.add_sub_cancel_left]
  exact R
theorem bub_run {ll lh ml mh hl hh kl kh sw s1 s2 s3 s4 s5 fi g0 g1 g2 dn : Nat} (I : BubB L (n - 1) ll lh ml mh hl hh kl kh sw s1 s2 s3 s4 s5 fi g0 g1 g2 dn) (T : TestB f w s L (ll + 256 * lh) (ml + 256 * mh) (hl + 256 * hh) (kl + 256 * kh) sw fi) (hd : dn ≤ 581) (Z : Lie n low high) (O : Op low high ll lh ml mh hl hh kl kh)
    (hc : ∀ i j, i < n → j < n → c i j = decide (key5 w s f (tA M0 low) (tA M0 high) i < key5 w s f (tA M0 low) (tA M0 high) j)) (hr : bubAlg c n = some r) : Wi L 1088 499 (st0 M0) (End5 (512 + L.length) n low high M0 r) := by
  rw [I.len]
  have n3 := Z.n3
  obtain ⟨k, rfl⟩ : ∃ k, n = k + 1 + 1 := ⟨n - 2, by lia⟩
  refine (Wi.seq (k := 1) (m := 4 * 96) ?_).le (by decide)
  rw [I.ba]
  refine (bub_out I T hd Z O (fun i j hi hj => (hc i j hi hj).trans lt_key.symm) 4 k 0 _ _ _ hr (Nat.lt_succ_self _) pl0 rw0 at_).mono fun co h => ?_
  obtain ⟨x, y, m, ⟨a, fn, v, z, cc, rfl⟩, R⟩ := h
  exact ⟨rfl, rfl, R⟩
theorem op_ok : Op low high (low % 256) (low / 256) ((low + 1) % 256) ((low + 1) / 256) (high % 256) (high / 256) ((high + 1) % 256) ((high + 1) / 256) := ⟨Nat.mod_add_div _ _, Nat.mod_add_div _ _, Nat.mod_add_div _ _, Nat.mod_add_div _ _⟩
theorem run_I (Z : Lie n low high) (P : Pt low high M0) (hc : ∀ i j, i < n → j < n → c i j = decide (key5 w s f (tA M0 low) (tA M0 high) i < key5 w s f (tA M0 low) (tA M0 high) j)) (hr : insAlg c n = r) : Wi (codeI w s f n) 1088 499 (st0 M0) (End5 (512 + (codeI w s f n).length) n low high M0 r) := by
  cases w with
  | false => cases s with
    | false => cases f with
      | false => exact ins_run (i7_ok n _ _ _ _ _ _ _) (ti000 n) (by decide) Z P hc hr
      | true => exact ins_run (i7_ok n _ _ _ _ _ _ _) (ti001 n) (by decide) Z P hc hr
    | true => cases f with
      | false => exact ins_run (i11_ok n _ _ _ _ _ _ _ _ _ _ _) (ti010 n) (by decide) Z P hc hr
      | true => exact ins_run (i11_ok n _ _ _ _ _ _ _ _ _ _ _) (ti011 n) (by decide) Z P hc hr
  | true => cases s with
    | false => cases f with
      | false => exact ins_run (i10_ok n _ _ _ _ _ _ _ _ _ _) (ti100 n) (by decide) Z P hc hr
      | true => exact ins_run (i10_ok n _ _ _ _ _ _ _ _ _ _) (ti101 n) (by decide) Z P hc hr
    | true => cases f with
      | false => exact ins_run (i14_ok n _ _ _ _ _ _ _ _ _ _ _ _ _ _) (ti110 n) (by decide) Z P hc hr
      | true => exact ins_run (i14_ok n _ _ _ _ _ _ _ _ _ _ _ _ _ _) (ti111 n) (by decide) Z P hc hr
theorem run_U (Z : Lie n low high) (hc : ∀ i j, i < n → j < n → c i j = decide (key5 w s f (tA M0 low) (tA M0 high) i < key5 w s f (tA M0 low) (tA M0 high) j)) (hr : bubAlg c n = some r) : Wi (codeU w s f n low high) 1088 499 (st0 M0) (End5 (512 + (codeU w s f n low high).length) n low high M0 r) := by
  cases w with
  | false => cases s with
    | false => cases f with
      | false => exact bub_run (u9_ok _ _ _ _ _ _ _ _ _ _ _ _ _ _ _ _ _ _) (tu000 _ _ _ _ _ _ _ _ _) (by decide) Z op_ok hc hr
      | true => exact bub_run (u9_ok _ _ _ _ _ _ _ _ _ _ _ _ _ _ _ _ _ _) (tu001 _ _ _ _ _ _ _ _ _) (by decide) Z op_ok hc hr
    | true => cases f with
      | false => exact bub_run (u13_ok _ _ _ _ _ _ _ _ _ _ _ _ _ _ _ _ _ _ _ _ _ _) (tu010 _ _ _ _ _ _ _ _ _) (by decide) Z op_ok hc hr
      | true => exact bub_run (u13_ok _ _ _ _ _ _ _ _ _ _ _ _ _ _ _ _ _ _ _ _ _ _) (tu011 _ _ _ _ _ _ _ _ _) (by decide) Z op_ok hc hr
  | true => cases s with
    | false => cases f with
      | false => exact bub_run (u14_ok _ _ _ _ _ _ _ _ _ _ _ _ _ _ _ _ _ _ _ _ _ _ _) (tu100 _ _ _ _ _ _ _ _ _) (by decide) Z op_ok hc hr
      | true => exact bub_run (u14_ok _ _ _ _ _ _ _ _ _ _ _ _ _ _ _ _ _ _ _ _ _ _ _) (tu101 _ _ _ _ _ _ _ _ _) (by decide) Z op_ok hc hr
    | true => cases f with
      | false => exact bub_run (u18_ok _ _ _ _ _ _ _ _ _ _ _ _ _ _ _ _ _ _ _ _ _ _ _ _ _ _ _) (tu110 _ _ _ _ _ _ _ _ _) (by decide) Z op_ok hc hr
      | true => exact bub_run (u18_ok _ _ _ _ _ _ _ _ _ _ _ _ _ _ _ _ _ _ _ _ _ _ _ _ _ _ _) (tu111 _ _ _ _ _ _ _ _ _) (by decide) Z op_ok hc hr
end
end
end Mine

end
section
open PySem PySem.W PyProof.Rows PySem.SeqAt PySem.Calls
namespace Mine
structure Keepy (I : Shared → Prop) (n0 : Nat) : Prop where
  grow : ∀ (s : Shared) (h' : Heap) (tk : Nat), I s → (∀ b o, s.heap.get? b = some o → h'.get? b = some o) → I { s with heap := h', toks := tk }
  upd : ∀ (s : Shared) (h' : Heap) (a : Addr) (xs : Array Value) (n : Nat), I s → n0 ≤ a → s.heap.get? a = some (seqObj "list" xs n) → Heap.SameBut a s.heap h' → I { s with heap := h' }
section
variable {prog : Program} {w : World} {A : Around} {E : Value → Shared → Prop} {s : Shared} {I : Shared → Prop} {n0 : Nat} {kS a : Addr} {ks : List Int} {ksV vs : List Value} {c : Nat → Nat → Bool}
theorem ints_getD {us : List Value} {xs : List Int} (h : IntsAre us xs) {i : Nat} (hi : i < xs.length) : ∃ t, us.getD i Value.none = .int (xs.getD i 0) t := by
  obtain ⟨t, e⟩ := h.get i (xs.getD i 0) (getD_some hi)
  exact ⟨t, by rw [List.getD_eq_getElem?_getD, e]; rfl⟩
theorem kas_pure {α : Type} {G : α → Shared → Prop} {r : α} (hk : IntsAre ksV ks) (hc : ∀ i j, i < ks.length → j < ks.length → c i j = decide (ks.getD i 0 < ks.getD j 0)) (t : KasT α) : ansR ks.length c t = some r → G r s → t.kasWp (kas_ask prog w A oneType' ksV) G s := by
  induction t with
  | ret a => intro h g; cases h; exact g
  | ask i j k ih =>
    intro h g
    revert h
    show (match Nat.blt i ks.length && Nat.blt j ks.length with | true => ansR ks.length c (k (c i j)) | false => none) = some r → _
    cases q : Nat.blt i ks.length && Nat.blt j ks.length with
    | false => exact fun h => nosome h
    | true =>
      intro h
      have q := Bool.and_eq_true_iff.mp q
      have hi := Nat.le_of_ble_eq_true q.1
      have hj := Nat.le_of_ble_eq_true q.2
      obtain ⟨t1, e1⟩ := ints_getD hk hi
      obtain ⟨t2, e2⟩ := ints_getD hk hj
      show kas_ask prog w A oneType' ksV i j _ s
      unfold kas_ask
      rw [e1, e2]
      refine kat_lt_int ?_
      rw [← hc i j hi hj]
      exact ih _ h g
theorem srt_end {e e1 : Nat} {p : Array Nat} {P : PySem.Fin → Shared → Prop} (K : Keepy I n0) (hI : I s) (hka : kS ≠ a) (h1 : s.heap.get? kS = some (seqObj "list" ksV.toArray e)) (h2 : s.heap.get? a = some (seqObj "list" #[] e1)) (g1 : n0 ≤ kS) (g2 : n0 ≤ a)
    (hk : IntsAre ksV ks) (hl : ks.length = vs.length) (l2 : 2 ≤ vs.length) (l64 : vs.length < 64) (hc : ∀ i j, i < vs.length → j < vs.length → c i j = decide (ks.getD i 0 < ks.getD j 0)) (ha : ansR vs.length c (kas_sort vs.length) = some p)
    (h : ∀ s' n', I s' → s'.heap.get? a = some (seqObj "list" (p.toList.map fun i => vs.getD i Value.none).toArray n') → P (.done (.ret .none)) s') :
    wpAny (model prog w) A (ksk_end a false vs.toArray e1 (.ref kS) ksV.toArray) P E s := by
  have hn2 : ¬ vs.toArray.size < 2 := by rw [List.size_toArray]; exact Nat.not_lt.mpr l2
  have hkl : ksV.length = vs.length := hk.length.trans hl
  have hkz : ksV.length < 64 := by rw [hkl]; exact l64
  unfold ksk_end
  dsimp only
  rw [if_neg Bool.false_ne_true, if_neg hn2]
  rw [ksk_kind (keys := ksV.toArray) (by rw [List.toList_toArray]; exact hk) (by rw [List.size_toArray, hkl]; exact l2)]
  refine wpAny_bind (wpAny_pure ?_)
  rw [if_neg hn2, if_neg Bool.false_ne_true]
  have run : (kas_sort vs.length).kasWp (kas_ask prog w A oneType' ksV) (fun p' s' => p' = p ∧ s' = s) s :=
    kas_pure (G := fun p' s' => p' = p ∧ s' = s) hk (fun i j hi hj => hc i j (by rw [← hl]; exact hi) (by rw [← hl]; exact hj)) _ (by rw [hl]; exact ha) ⟨rfl, rfl⟩
  refine wpAny_bind (wpAny_mono (kat_run (Q := fun st' s' => s' = s ∧ arrOf st' = p.map (kas_item (ksV.toArray.zip vs.toArray)) ∧ failedOf st' = none ∧ p.size = vs.length) hkl l2 l64 (fun p' st' s' a1 a2 a3 a4 => ⟨a4.2, by rw [← a4.1]; exact a2, a3, by rw [← a4.1]; exact a1⟩) run) ?_ fun _ _ x => x)
  rintro ⟨⟨⟩, st'⟩ s' ⟨rfl, har, hf, hp⟩
  dsimp only
  have hout := kat_snds hkl har
  generalize hO : (p.toList.map fun i => vs.getD i Value.none) = out at hout h
  have hz : out.length < 64 := by rw [← hO, List.length_map, Array.length_toList, hp]; exact l64
  unfold ksk_tail
  dsimp only
  rw [hout]
  have s1 := Heap.SameBut.update s'.heap kS (Obj.mapSeq fun _ => (#[] : Array Value))
  have i1 := K.upd s' _ kS _ _ hI g1 h1 s1
  have na : (s'.heap.update kS (Obj.mapSeq fun _ => (#[] : Array Value))).get? a = some (seqObj "list" #[] e1) := (s1.2 a (Ne.symm hka)).trans h2
  have s2 := Heap.SameBut.update (s'.heap.update kS (Obj.mapSeq fun _ => (#[] : Array Value))) a (Obj.mapSeq fun _ => out.toArray)
  have i2 := K.upd _ _ a _ _ i1 g2 na s2
  obtain ⟨c2, hc2⟩ : ∃ c2, ((s'.heap.update kS (Obj.mapSeq fun _ => (#[] : Array Value))).update a (Obj.mapSeq fun _ => out.toArray)).get? a = some (seqObj "list" out.toArray c2) := ⟨_, get?_update_seq na fun _ => out.toArray⟩
  refine wpAny_bind (listUpdate_at h1 rfl ?_ (by rw [List.size_toArray, sizeLine_eq]; lia) (Nat.zero_le _))
  refine wpAny_bind (wpAny_letGo ?_)
  refine wpAny_bind (seqEpoch_at na rfl ?_)
  refine wpAny_bind (listUpdate_at na rfl ?_ (Nat.zero_le _) (by rw [List.size_toArray, sizeLine_eq]; lia))
  rw [hf]
  simp only [bne_self_eq_false, Bool.false_eq_true, if_false]
  exact wpAny_pure (h _ c2 i2 hc2)
theorem srt_rest {f : Value} {e1 : Nat} {p : Array Nat} {P : PySem.Fin → Shared → Prop} (K : Keepy I n0) (hI : I s) (hka : kS ≠ a) (h1 : s.heap.get? kS = some (seqObj "list" #[] 0)) (h2 : s.heap.get? a = some (seqObj "list" #[] e1)) (g1 : n0 ≤ kS) (g2 : n0 ≤ a)
    (hl : ks.length = vs.length) (l2 : 2 ≤ vs.length) (l64 : vs.length < 64) (hc : ∀ i j, i < vs.length → j < vs.length → c i j = decide (ks.getD i 0 < ks.getD j 0)) (ha : ansR vs.length c (kas_sort vs.length) = some p)
    (turn : ∀ (j : Nat) (v : Value) (k : Int), vs[j]? = some v → ks[j]? = some k → ∀ (s : Shared) (Q : Value → Shared → Prop), I s → (∀ t s', I s' → (∀ b o, n0 ≤ b → s.heap.get? b = some o → s'.heap.get? b = some o) → Q (.int k t) s') → wpAny (model prog w) A (call f [v]) Q (fun _ _ => False) s)
    (h : ∀ s' n', I s' → s'.heap.get? a = some (seqObj "list" (p.toList.map fun i => vs.getD i Value.none).toArray n') → P (.done (.ret .none)) s') :
    wpAny (model prog w) A (ksk_rest a f false vs.toArray e1 (.ref kS)) P E s := by
  unfold ksk_rest
  refine wpAny_bind (wpAny_rule ?_)
  rw [List.forIn_toArray]
  refine wpAny_bind (ksk_fold (fun i s' => ∃ (kA : Array Value) (e : Nat), I s' ∧ s'.heap.get? kS = some (seqObj "list" kA e) ∧ s'.heap.get? a = some (seqObj "list" #[] e1) ∧ IntsAre kA.toList (ks.take i)) vs 0 s ⟨#[], 0, hI, h1, h2, by rw [List.take_zero]; exact .nil⟩ ?step ?done)
  case step =>
    rintro j x s' hx ⟨kA, e, i1, k1, a1, hk⟩
    rw [Nat.zero_add] at hk ⊢
    have hj : j < vs.length := (List.getElem?_eq_some_iff.mp hx).1
    obtain ⟨k, hkj⟩ : ∃ k, ks[j]? = some k := ⟨_, List.getElem?_eq_getElem (by rw [hl]; exact hj)⟩
    have hz : kA.size ≤ vs.length := by
      have h1 := hk.length
      rw [Array.length_toList, List.length_take] at h1
      lia
    refine wpAny_bind (wpAny_attempt (wpAny_mono (turn j x k hx hkj s' (fun v s2 => ∃ t, v = .int k t ∧ I s2 ∧ ∀ b o, n0 ≤ b → s'.heap.get? b = some o → s2.heap.get? b = some o) i1 fun t s2 i2 kp => ⟨t, rfl, i2, kp⟩) (fun v s2 he => ?_) fun _ _ hF => hF.elim))
    obtain ⟨t, rfl, i2, kp⟩ := he
    dsimp only
    have k2 := kp _ _ g1 k1
    have a2 := kp _ _ g2 a1
    have sb := Heap.SameBut.update s2.heap kS (Obj.mapSeq (·.push (.int k t)))
    obtain ⟨c2, hc2⟩ : ∃ c2, (s2.heap.update kS (Obj.mapSeq (·.push (.int k t)))).get? kS = some (seqObj "list" (kA.push (.int k t)) c2) := ⟨_, get?_update_seq k2 (·.push (.int k t))⟩
    have ek : ks.take (j + 1) = ks.take j ++ [k] := by rw [List.take_add_one, hkj]; rfl
    refine wpAny_bind (listUpdate_at k2 rfl ?_ (by rw [sizeLine_eq]; lia) (Nat.le_trans (Nat.le_of_eq (Array.size_push ..)) (by rw [sizeLine_eq]; lia)))
    exact wpAny_pure ⟨rfl, kA.push (.int k t), c2, K.upd s2 _ kS _ _ i2 g1 k2 sb, hc2, (sb.2 a (Ne.symm hka)).trans a2, by rw [Array.toList_push, ek]; exact ksk_snoc hk⟩
  case done =>
    rintro s' ⟨kA, e, i1, k1, a1, hk⟩
    rw [Nat.zero_add, List.take_of_length_le (Nat.le_of_eq hl)] at hk
    refine wpAny_bind (listItems_at k1 rfl ?_)
    have e2 : kA = kA.toList.toArray := Array.toArray_toList.symm
    rw [e2] at k1 ⊢
    exact srt_end K i1 hka k1 a1 g1 g2 (by rw [List.toList_toArray] at *; exact hk) hl l2 l64 hc ha h
theorem srt_tree {f : Value} {n : Nat} {p : Array Nat} {P : PySem.Fin → Shared → Prop} (K : Keepy I n0) (hb : n0 ≤ s.heap.objs.size) (hI : I s) (ho : s.heap.get? a = some (seqObj "list" vs.toArray n)) (g2 : n0 ≤ a)
    (hl : ks.length = vs.length) (l2 : 2 ≤ vs.length) (l64 : vs.length < 64) (hc : ∀ i j, i < vs.length → j < vs.length → c i j = decide (ks.getD i 0 < ks.getD j 0)) (ha : ansR vs.length c (kas_sort vs.length) = some p)
    (turn : ∀ (j : Nat) (v : Value) (k : Int), vs[j]? = some v → ks[j]? = some k → ∀ (s : Shared) (Q : Value → Shared → Prop), I s → (∀ t s', I s' → (∀ b o, n0 ≤ b → s.heap.get? b = some o → s'.heap.get? b = some o) → Q (.int k t) s') → wpAny (model prog w) A (call f [v]) Q (fun _ _ => False) s)
    (h : ∀ s' n', I s' → s'.heap.get? a = some (seqObj "list" (p.toList.map fun i => vs.getD i Value.none).toArray n') → P (.done (.ret .none)) s') :
    wpAny (model prog w) A (ksk_tree a f false) P E s := by
  have s1 := Heap.SameBut.update s.heap a (Obj.mapSeq fun _ => (#[] : Array Value))
  obtain ⟨e1, ho1⟩ : ∃ e1, (s.heap.update a (Obj.mapSeq fun _ => (#[] : Array Value))).get? a = some (seqObj "list" #[] e1) := ⟨_, get?_update_seq ho fun _ => #[]⟩
  have i1 := K.upd s _ a _ _ hI g2 ho s1
  have ha' : a < s.heap.objs.size := Heap.lt_size ho
  have hkS : ((s.heap.update a (Obj.mapSeq fun _ => (#[] : Array Value))).push (seqObj "tuple" vs.toArray 0)).objs.size = s.heap.objs.size + 1 := by rw [Heap.size_push, Heap.size_update]
  unfold ksk_tree
  refine wpAny_bind (listItems_at ho rfl ?_)
  refine wpAny_bind (listUpdate_at ho rfl ?_ (by rw [List.size_toArray, sizeLine_eq]; lia) (Nat.zero_le _))
  refine wpAny_bind (seqEpoch_at ho1 rfl ?_)
  refine wpAny_bind (wpAny_newTuple ?_ (by show vs.length ≤ _; rw [sizeLine_eq]; lia))
  refine wpAny_bind (wpAny_newList ?_ (Nat.zero_le _))
  refine wpAny_holding ?_
  have i2 := K.grow _ (((s.heap.update a (Obj.mapSeq fun _ => (#[] : Array Value))).push (seqObj "tuple" vs.toArray 0)).push (seqObj "list" #[] 0)) s.toks i1 fun b o e => Heap.get?_push_of_some _ (Heap.get?_push_of_some _ e)
  refine srt_rest (kS := ((s.heap.update a (Obj.mapSeq fun _ => (#[] : Array Value))).push (seqObj "tuple" vs.toArray 0)).objs.size) K i2 ?_ (Heap.get?_push_size _ rfl) (Heap.get?_push_of_some _ (Heap.get?_push_of_some _ ho1)) ?_ g2 hl l2 l64 hc ha turn h
  · rw [hkS]; exact Nat.ne_of_gt (Nat.lt_succ_of_lt ha')
  · rw [hkS]; exact Nat.le_succ_of_le hb
theorem srt_call {f : Value} {l : Addr} {p : Array Nat} {Q : Value → Shared → Prop} (K : Keepy I n0) (hb : n0 ≤ s.heap.objs.size) (hI : I s) (hls : s.heap.IsList l vs.toArray) (q : Addr) (hf : f = .ref q)
    (hl : ks.length = vs.length) (l2 : 2 ≤ vs.length) (l64 : vs.length < 64) (hc : ∀ i j, i < vs.length → j < vs.length → c i j = decide (ks.getD i 0 < ks.getD j 0)) (ha : ansR vs.length c (kas_sort vs.length) = some p)
    (turn : ∀ (j : Nat) (v : Value) (k : Int), vs[j]? = some v → ks[j]? = some k → ∀ (s : Shared) (Q : Value → Shared → Prop), I s → (∀ t s', I s' → (∀ b o, n0 ≤ b → s.heap.get? b = some o → s'.heap.get? b = some o) → Q (.int k t) s') → wpAny (model prog w) A.in1.in1 (call f [v]) Q (fun _ _ => False) s)
    (h : ∀ D s' n', I s' → n0 ≤ D → s'.heap.get? D = some (seqObj "list" (p.toList.map fun i => vs.getD i Value.none).toArray n') → Q (.ref D) s') :
    wpAny (model prog w) A (call (.builtin "sorted") [.ref l] [(Str.ofString "key", f)]) Q E s := by
  subst hf
  refine call_function_entry_kw kind_sorted plain_sorted entry_sorted (ksk_s1 _ _) ?_
  unfold Builtin.«sorted»
  refine wpAny_bind (m := checkCount "sorted" 1 1 _) (wpAny_pure ?_)
  refine wpAny_bind (collect_list hls ?_ (by rw [sizeLine_eq]; lia))
  refine wpAny_bind (wpAny_newList ?_ (by rw [sizeLine_eq]; lia))
  have hsz : ((s.heap.push (seqObj "list" #[] 0)).update s.heap.objs.size (Obj.mapSeq (· ++ vs.toArray))).objs.size = s.heap.objs.size + 1 := by
    rw [Heap.size_update, Heap.size_push]
  have hoL : (((s.heap.push (seqObj "list" #[] 0)).update s.heap.objs.size (Obj.mapSeq (· ++ vs.toArray))).push (seqObj "list" vs.toArray 0)).get? (s.heap.objs.size + 1) = some (seqObj "list" vs.toArray 0) := by
    rw [← hsz]; exact Heap.get?_push_size _ rfl
  have keep : ∀ b o, s.heap.get? b = some o → (((s.heap.push (seqObj "list" #[] 0)).update s.heap.objs.size (Obj.mapSeq (· ++ vs.toArray))).push (seqObj "list" vs.toArray 0)).get? b = some o := fun b o q => by
    have hlt : b < s.heap.objs.size := Heap.lt_size q
    rw [Heap.get?_push_ne _ _ _ (by rw [hsz]; exact Nat.ne_of_lt (Nat.lt_succ_of_lt hlt)), Heap.get?_update_ne _ _ _ _ (Nat.ne_of_lt hlt), Heap.get?_push_ne _ _ _ (Nat.ne_of_lt hlt)]
    exact q
  have i1 := K.grow s (((s.heap.push (seqObj "list" #[] 0)).update s.heap.objs.size (Obj.mapSeq (· ++ vs.toArray))).push (seqObj "list" vs.toArray 0)) s.toks hI keep
  have gD : n0 ≤ s.heap.objs.size + 1 := Nat.le_succ_of_le hb
  show wpAny _ _ _ _ _ { s with heap := ((s.heap.push (seqObj "list" #[] 0)).update s.heap.objs.size (Obj.mapSeq (· ++ vs.toArray))).push (seqObj "list" vs.toArray 0) }
  rw [hsz]
  refine wpAny_bind (wpAny_holding (wpAny_call_entry_kw slot_list_sort ⟨_, hoL, rfl⟩ entry_list_sort ?body (ksk_l1 _ _)))
  case body =>
    show wpAny (model prog w) A.in1.in1 (Builtin.«list.sort» ⟨[.ref (s.heap.objs.size + 1)], [(Str.ofString "key", .ref q)]⟩) _ _ _
    rw [ksk_t1]
    refine srt_tree (s := { s with heap := ((s.heap.push (seqObj "list" #[] 0)).update s.heap.objs.size (Obj.mapSeq (· ++ vs.toArray))).push (seqObj "list" vs.toArray 0) }) K (by show n0 ≤ (Heap.push _ _).objs.size; rw [Heap.size_push, hsz]; exact Nat.le_succ_of_le gD) i1 hoL gD hl l2 l64 hc ha turn fun s' n' i' e' => ⟨_, rfl, ?_⟩
    exact wpAny_pure ⟨_, rfl, h _ s' n' i' gD e'⟩
end
section
variable {X : Cx} {dp : Nat} {f : Fm} {as as' : List AO} {θ θ' : List Addr} {s s' : Shared}
noncomputable def Hold (X : Cx) (θ : List Addr) (as : List AO) (h₀ : Heap) (s : Shared) : Prop := X.S θ as s ∧ Ext X.H θ h₀ θ s.heap
theorem hold_keepy (S : X.S θ as s) : Keepy (Hold X θ as s.heap) s.heap.objs.size := by
  have lt : ∀ b o, s.heap.get? b = some o → b < s.heap.objs.size := fun b o e => Heap.lt_size e
  have hH : ∀ b ∈ X.H, b < s.heap.objs.size := fun b m => by
    obtain ⟨t, ht, rfl⟩ := List.mem_map.mp m
    obtain ⟨ps, x⟩ := (S.tabs t ht).is
    exact Heap.lt_size x
  refine ⟨fun s' h' tk hi hk => ⟨hi.1.keeps (k := tk) hk, hi.2.trans (Ext.kept hi.1 hk)⟩, fun s' h' a xs n hi ha hg sb => ?_⟩
  · obtain ⟨S', X'⟩ := hi
    have ne : ∀ b, b < s.heap.objs.size → b ≠ a := fun b hb e => absurd ha (Nat.not_le_of_lt (e ▸ hb))
    have nt : ∀ b ∈ θ, b ≠ a := fun b m => ne b (S.lt m)
    have nb : ∀ b o, X.h₀.get? b = some o → b ≠ a := fun b o e => ne b (lt b o (S.base b o e))
    refine ⟨⟨⟨S'.ar.len, S'.ar.nodup, fun i o b e1 e2 => ?_⟩, fun b o e => (sb.2 b (nb b o e)).trans (S'.base b o e), S'.apart, S'.gens, S'.os, fun e he => ?_, S'.hnin, S'.hbase, S'.pin⟩, ⟨List.prefix_refl _, fun _ x y => absurd x y, fun b o e n1 n2 => (sb.2 b (ne b (lt b o e))).trans (X'.keep b o e n1 n2), fun b o e => ?_, fun P m => ?_⟩⟩
    · obtain ⟨ob, x, y⟩ := S'.ar.objs i o b e1 e2
      exact ⟨ob, (sb.2 b (nt b (List.mem_of_getElem? e2))).trans x, y⟩
    · have hP : e.P ≠ a := ne _ (hH _ (List.mem_map_of_mem he))
      refine (S'.tabs e he).to (fun o x => (sb.2 _ hP).trans x) (fun c o vs x hd _ _ => (sb.2 c fun q => ?_).trans x) fun _ _ _ n => n
      subst q
      rw [hg] at x
      cases x
      cases hd
    · obtain ⟨o', x⟩ := X'.ex b o e
      exact ⟨o', (sb.2 b (ne b (lt b o e))).trans x⟩
    · rw [sb.2 P (ne P (hH P m))]; exact X'.tab P m
noncomputable def KeyS (X : Cx) (dp : Nat) (fa : Addr) (vs : List AV) (as : List AO) (ks : List Int) : Prop := ∀ (j : Nat) (v : AV) (k : Int), vs[j]? = some v → ks[j]? = some k → ClS X dp (.ref fa) [v] as fun r as' => r = .int k ∧ as' = as
theorem vrs_pick {vs : List AV} {us : List Value} (V : VRs θ vs us) {r : List Nat} (hr : ∀ x ∈ r, x < vs.length) : VRs θ (r.map fun i => vs.getD i .none) (r.map fun i => us.getD i Value.none) := by
  induction r with
  | nil => exact .nil
  | cons x r ih =>
    refine .cons ?_ (ih fun y m => hr y (.tail _ m))
    have hx := hr x (.head _)
    obtain ⟨v, e, w⟩ := V.get (k := x) (a := vs.getD x .none) (by rw [List.getD_eq_getElem?_getD, List.getElem?_eq_getElem hx]; rfl)
    show VR θ (vs.getD x .none) (us.getD x Value.none)
    rw [show us.getD x Value.none = v by rw [List.getD_eq_getElem?_getD, e]; rfl]
    exact w
theorem St.newAt (S : X.S θ as s) (S' : X.S θ as s') (Y : Ext X.H θ s.heap θ s'.heap) {D : Addr} {o : AO} {xs : Array Value} {n : Nat} (hD : s.heap.objs.size ≤ D) (gD : s'.heap.get? D = some (seqObj "list" xs n)) (r : OR θ o (seqObj "list" xs n)) : X.S (θ ++ [D]) (as ++ [o]) s' ∧ Ext X.H θ s.heap (θ ++ [D]) s'.heap := by
  have pre : θ <+: θ ++ [D] := ⟨_, rfl⟩
  have none_ : s.heap.get? D = none := none_ge hD
  have nin : D ∉ θ := fun m => absurd hD (Nat.not_le_of_lt (S.lt m))
  have nh : D ∉ X.H := fun m => by
    obtain ⟨e, he, q⟩ := List.mem_map.mp m
    obtain ⟨ps, x⟩ := (S.tabs e he).is
    rw [q, none_] at x; cases x
  refine ⟨⟨⟨?_, ?_, ?_⟩, S'.base, ?_, S'.gens, S'.os, fun e he => ?_, fun e he m => ?_, S'.hbase, S'.pin.trans pre⟩, ⟨pre, ?_, Y.keep, Y.ex, Y.tab⟩⟩
  · rw [List.length_append, List.length_append, S'.ar.len]; rfl
  · rw [List.nodup_append]
    exact ⟨S'.ar.nodup, by simp, fun a ha b hb => by
      have : b = D := by simpa using hb
      rintro rfl
      exact nin (this ▸ ha)⟩
  · intro i o' a e1 e2
    by_cases q : i < as.length
    · rw [List.getElem?_append_left q] at e1
      rw [List.getElem?_append_left (by rw [← S'.ar.len]; exact q)] at e2
      refine El_ea (S'.ar.objs i o' a e1 e2) fun ob' x y => ?_
      exact ⟨ob', x, y.mono pre⟩
    · have hi : i = as.length := by
        have := (List.getElem?_eq_some_iff.mp e1).1
        simp at this; exact Nat.eq_of_lt_succ_of_not_lt this q
      subst hi
      rw [List.getElem?_append_right (Nat.le_refl _), Nat.sub_self] at e1
      rw [S'.ar.len, List.getElem?_append_right (Nat.le_refl _), Nat.sub_self] at e2
      cases e1; cases e2
      exact ⟨_, gD, r.mono pre⟩
  · intro a ha
    rcases List.mem_append.mp ha with m | m
    · exact S'.apart a m
    · have e : a = D := by simpa using m
      subst e
      cases q : X.h₀.get? a with
      | none => rfl
      | some o => have := S.base _ _ q; rw [none_] at this; cases this
  · rcases S'.tabs e he with t | ⟨c', t1, t2, t3, t4⟩
    · exact .inl t
    · refine .inr ⟨c', t1, t2, fun m => ?_, t4⟩
      rcases List.mem_append.mp m with m | m
      · exact t3 m
      · have e : c' = D := by simpa using m
        subst e
        obtain ⟨c'', o, vs, t, e1, e2, e3, _⟩ := t2
        cases e1
        rw [gD] at e2; cases e2; cases e3
  · rcases List.mem_append.mp m with m | m
    · exact S'.hnin e he m
    · have q : e.P = D := by simpa using m
      exact nh (q ▸ List.mem_map_of_mem he)
  · intro a ha na
    rcases List.mem_append.mp ha with m | m
    · exact absurd m na
    · have e : a = D := by simpa using m
      subst e; exact ⟨none_, nh⟩
theorem evs_one {e : Expr} {P : AV → List AO → Prop} (h : EvS X dp f e as P) : EvsS X dp f [e] as fun vs as₁ => ∃ o, vs = [o] ∧ P o as₁ := evs_cons (h.mono fun o as₂ q => evs_nil ⟨o, rfl, q⟩)
theorem ev_sortK {x : Str} {p p1 pos : Pos} {e g : Expr} {Q : PV} (hk : isKind .globalImplicit f.sc x = true) (G : GlobV X x (.builtin "sorted")) (hs : noStar [e] = true) (hdp : 1 ≤ dp)
    (h : EvS X dp f e as fun o as₁ => EvS X dp f g as₁ fun gv as₂ => ∃ i ob vs fa ks c r, o = .obj i ∧ gv = .addr fa ∧ as₂[i]? = some ob ∧ listX ob = some vs ∧ (2 ≤ vs.length ∧ vs.length < 64 ∧ ks.length = vs.length) ∧ KeyS X (dp - 1) fa vs as₂ ks ∧
      (∀ i j, i < vs.length → j < vs.length → c i j = decide (ks.getD i 0 < ks.getD j 0)) ∧ ansR vs.length c (kas_sort vs.length) = some r ∧ (∀ x ∈ r.toList, x < vs.length) ∧ Q (.obj as₂.length) (as₂ ++ [.list (r.toList.map fun i => vs.getD i .none)])) :
    EvS X dp f (.Call (.Name x p) [e] [⟨some (Str.ofString "key"), g, p1⟩] pos) as Q := by
  intro A θ s L env post E R F S k0
  refine wpAny_Call_Name_kw (ev_glob (av := .bi "sorted") (Q := fun av as₁ => av = .bi "sorted" ∧ as₁ = as) hk G rfl ⟨rfl, rfl⟩ A θ s L env _ E R F S fun av as₁ θ₁ s₁ v q S₁ X₁ V₁ => ?_)
  obtain ⟨rfl, rfl⟩ := q
  cases V₁
  rw [back_eq pos env [e] hs]
  refine callWith_builtin_kwB rfl rfl (evalArgs_kwB rfl ?_)
  refine evs_one h A θ₁ s₁ L env _ E R (F.ext X₁) S₁ fun vs as₂ θ₂ s₂ ovs q S₂ X₂ V₂ => ?_
  obtain ⟨o, rfl, q⟩ := q
  obtain ⟨ov, rfl, Vo⟩ : ∃ ov, ovs = [ov] ∧ VR θ₂ o ov := by cases V₂ with | cons a r => cases r; exact ⟨_, rfl, a⟩
  refine kwAll_cons (q A θ₂ s₂ L env _ E R (F.ext (X₁.trans X₂)) S₂ fun gv as₃ θ₃ s₃ gw q S₃ X₃ V₃ => kwAll_nil ?_)
  obtain ⟨i, ob, vs, fa, ks, c, r, rfl, rfl, hi, hx, ⟨l2, l64, lk⟩, KS, hc, ha, hr, q⟩ := q
  obtain rfl : gw = .ref fa := V₃
  have V4 : VR θ₃ (.obj i) ov := Vo.mono X₃.pre
  obtain ⟨l, hl, ev⟩ := V4
  subst ev
  obtain ⟨us, n, gl, rv⟩ := listX_of S₃ hi hl hx
  have hz : us.toList.length = vs.length := rv.len
  have il : s₃.heap.IsList l us.toList.toArray := by rw [Array.toArray_toList]; exact ⟨_, gl, rfl, n, rfl⟩
  show wpAny X.M A (call (.builtin "sorted") [.ref l] [(Str.ofString "key", .ref fa)]) post E s₃
  have R1 : Room A.in1.in1 (dp - 1) := ⟨by have := R.1; show A.depth + (dp - 1) < _; lia, by have := R.2.1; show A.units + 1 + 1 + 4 * (dp - 1) + 40 < _; lia, R.2.2⟩
  refine srt_call (vs := us.toList) (c := c) (p := r) (hold_keepy S₃) (Nat.le_refl _) ⟨S₃, Ext.refl _ _⟩ il fa rfl (lk.trans hz.symm) (by rw [hz]; exact l2) (by rw [hz]; exact l64) (by rw [hz]; exact hc) (by rw [hz]; exact ha) (fun j v k hv hk s₄ Q₄ hI h4 => ?_) fun D s₄ n₄ hI hD gD => ?_
  · obtain ⟨S₄, X₄⟩ := hI
    have hjl : j < vs.length := by rw [← hz]; exact (List.getElem?_eq_some_iff.mp hv).1
    obtain ⟨v', e', w'⟩ := rv.get (k := j) (a := vs[j]) (List.getElem?_eq_getElem hjl)
    rw [hv] at e'
    obtain rfl := Option.some.inj e'
    refine wpAny_call (KS j _ k (List.getElem?_eq_getElem hjl) hk A.in1.in1 θ₃ s₄ [v] Q₄ _ R1 S₄ (.cons w' .nil) fun av as' θ' s' u q' S' X' V' => ?_)
    obtain ⟨rfl, rfl⟩ := q'
    obtain ⟨t, rfl⟩ := V'
    have e3 : θ' = θ₃ := by
      obtain ⟨z, e⟩ := X'.pre
      have := S'.ar.len
      rw [← e, List.length_append, S₃.ar.len] at this
      have : z = [] := List.eq_nil_of_length_eq_zero (by lia)
      rw [← e, this, List.append_nil]
    subst e3
    exact h4 t s' ⟨S', X₄.trans X'⟩ fun b o hb e => X'.keep b o e (fun m => absurd hb (Nat.not_le_of_lt (S₃.lt m))) fun m => absurd hb (Nat.not_le_of_lt (by
      obtain ⟨t, ht, rfl⟩ := List.mem_map.mp m
      obtain ⟨ps, x⟩ := (S₃.tabs t ht).is
      exact Heap.lt_size x))
  · obtain ⟨S₄, X₄⟩ := hI
    have P := S₃.newAt S₄ X₄ (o := .list (r.toList.map fun i => vs.getD i .none)) hD gD ⟨_, n₄, rfl, by rw [List.toList_toArray]; exact vrs_pick rv hr⟩
    exact k0 _ _ _ _ _ q P.1 (((X₁.trans X₂).trans X₃).trans P.2) ⟨D, by rw [S₃.ar.len]; exact List.getElem?_concat_length, rfl⟩
end
end Mine

end
section
open PySem PySem.W PyProof.Rows PySem.SeqAt PySem.Calls
namespace Mine
structure CloOK (X : Cx) (q : Addr) (d : FD) (cells : List (Str × Nat)) : Prop where
  ex : ∃ o fd, X.h₀.get? q = some o ∧ o.data = .func fd ∧ X.h₀.CodeRec fd.code fd.qualname ∧ fd.body = .stmts d.body ∧ fd.scope = d.scope ∧ fd.globals = 3 ∧ fd.builtins = 0 ∧ fd.code = d.code ∧ fd.qualname ++ ".<locals>." = d.qual ∧
    (∀ vals : List Value, vals.length = d.names.length → bindArgs fd ⟨vals, []⟩ = pure (d.names.zip vals)) ∧ (∀ x i, lk cells x = some i → ∃ a, X.T.pin[i]? = some a ∧ fd.closure.lookup x = some a)
  cell : ∀ x ∈ d.scope.names, x.2 ≠ .cell
  loc : ∀ x ∈ d.names, d.scope.names.lookup x = some .local
  co : d.scope.isCoroutine = false
  gen : d.scope.isGenerator = false
  kind : d.scope.kind = .function
section
variable {X : Cx} {dp : Nat} {f : Fm} {as : List AO}
theorem cl_clo {fa : Addr} {d : FD} {cells : List (Str × Nat)} {vs : List AV} {Q : PV} (O : CloOK X fa d cells) (lim : X.h₀.NoLimit) (hl : vs.length = d.names.length)
    (h : ExsS X dp ⟨d.scope, (d.names.zip vs).reverse, cells, d.code, d.qual⟩ d.body as fun fl _ as' => match fl with | .ret v => Q v as' | .next => Q .none as' | _ => False) : ClS X (dp + 1) (.ref fa) vs as Q := by
  intro A θ s us post E R S V c
  refine El_eeaaaaaaaaaa O.ex fun o fd ho hd hc hb hs hg hbl hcd hql hbind hclo => ?_
  have hroom : A.depth < recursionLimit := by have := R.1; exact Nat.lt_of_add_right_lt this
  refine codeAny_call_def hroom (S.base _ _ ho) hd (lim.keeps S.base) (Heap.CodeRec.keeps hc S.base) hb (BindsTo.of_eq (hbind us (by rw [V.len, hl]))) (by rw [hs]; exact O.cell) (fun x hx => by rw [hs]; exact O.loc _ (List.of_mem_zip hx).1) (fun h₁ hn hk => ?_) (by rw [hs]; exact O.co) (by rw [hs]; exact O.gen) (by rw [hs]; exact O.kind)
  have S₁ : X.S θ as { s with heap := h₁, toks := s.toks + (d.names.zip us).length } := S.keeps hk
  refine h (A.deeper _) θ _ s.heap.objs.size _ _ _ ⟨?_, ?_, R.2.2⟩ ⟨hs, O.kind, rfl, fun m => Nat.lt_irrefl _ (S.lt m), S.fresh, S.freshH, ⟨_, hn, fun x av e => ((LRs.zip V d.names).rev).look x av e⟩, fun x i e => (let ⟨a, h1, h2⟩ := hclo x i e; ⟨a, get_pre S.pin h1, h2⟩), hg, hbl, hcd, hql⟩ S₁ fun fl loc' as' θ' s' g q S' X' F' G => ?_
  · have := R.1; show A.depth + 1 + dp < _; lia
  · have := R.2.1; show A.units + 3 + 4 * dp + 40 < _; lia
  · have X'' : Ext X.H θ s.heap θ' s'.heap := ⟨X'.pre, fun a m n => ⟨(by
        cases r : s.heap.get? a with
        | none => rfl
        | some o => have := (X'.fresh a m n).1; rw [hk a o r] at this; cases this), (X'.fresh a m n).2⟩,
      fun b o e n nh => X'.keep b o (hk b o e) n nh fun q => (by rw [q] at e; rw [size_none] at e; cases e), fun b o e => X'.ex b o (hk b o e), tab_trans (fun b o e => ⟨o, hk b o e⟩) (S.tabKeep hk) X'.tab⟩
    cases fl with
    | next => cases G; exact c _ _ θ' s' _ q S' X'' rfl
    | brk => exact q.elim
    | cont => exact q.elim
    | ret v => obtain ⟨u, rfl, hu⟩ := G; exact c _ _ θ' s' _ q S' X'' hu
theorem mkdef_ok {A : Around} {θ : List Addr} {s : Shared} {L : Addr} {env : Env} {post : Value → Shared → Prop} {E : Value → Shared → Prop} {params : Arguments} {body : List Stmt} {scope : Scope} {pos : Pos} {name : Str} {e : TabE} {c : Addr} {mg : Str → Option Value} {clos : List (Str × Addr)}
    (F : FrR X f L env θ s.heap) (S : X.S θ as s) (hc : f.code = .ref c) (C : CodeHd X.h₀ c e.P) (he : e ∈ X.T.tabs) (hu : ∀ e' ∈ X.T.tabs, e'.P = e.P → e' = e) (hpos : e.pos = pos) (hq : e.qual = f.qual ++ name)
    (hg : X.h₀.Ns 3 mg) (hb : X.h₀.BuiltinsAt mg e.P) (hcl : clo env.cells scope.names [] = some clos)
    (k : ∀ q c' doc pm ctv s', X.S θ as s' → Ext X.H θ s.heap θ s'.heap → s'.heap.get? q = some (fnMade name e.qual params body scope clos doc pm c' ctv) → s'.heap.CodeRec (.ref c') e.qual → (c' ≠ L ∧ c' ∉ θ ∧ c' ∉ X.H) → (q ≠ L ∧ q ∉ θ ∧ q ∉ X.H) → post (.ref q) s') :
    wpAny X.M A (makeFunction name (f.qual ++ name) params (.stmts body) scope env [] [] [] pos pos.line) post E s := by
  have hcode : env.code = .ref c := F.code.trans hc
  have hgs : s.heap.Ns 3 mg := hg.keeps S.base
  refine El_eeaaaaaaa hb fun bm ob b1 b2 b3 b4 b5 b6 b7 b8 => ?_; try clear hb
  have hbs : s.heap.BuiltinsAt mg e.P := ⟨bm, ob, b1, b2, b3, b4, S.base _ _ b5, b6, b7, b8⟩
  have hgP : (3 : Addr) ≠ e.P := fun q => by
    obtain ⟨o, es, ep, e1, _⟩ := hg
    rw [q, S.hbase e he] at e1; cases e1
  have Cs := C.keeps S.base
  have Hlt : ∀ a ∈ X.H, a < s.heap.objs.size := fun a m => by
    obtain ⟨t, ht, rfl⟩ := List.mem_map.mp m
    obtain ⟨ps, x⟩ := (S.tabs t ht).is
    exact Heap.lt_size x
  obtain ⟨oL, hoL⟩ := F.there
  have big : ∀ a, s.heap.objs.size ≤ a → a ≠ L ∧ a ∉ θ ∧ a ∉ X.H := fun a ha =>
    ⟨fun q => absurd (Heap.lt_size hoL) (Nat.not_lt.mpr (q ▸ ha)), fun m => absurd (S.lt m) (Nat.not_lt.mpr ha), fun m => absurd (Hlt a m) (Nat.not_lt.mpr ha)⟩
  rw [← hq]
  rcases S.tabs e he with t | ⟨c', t1, t2, t3, t4⟩
  · refine makeFunction_K (closure_eq hcl) F.glob hgs hcode Cs t trivial rfl hgP hbs fun c' ctv doc h' tk hx hge hlt hrec htb => ?_
    have gb := big c' hge
    have P := S.extBut (k := tk) he hu (h' := h'.push (fnMade name e.qual params body scope clos doc ((mg "__name__").getD .none) c' ctv)) (fun b o n q => Heap.get?_push_of_some _ (hx b o n q)) (.inr ⟨_, _, c', Heap.get?_push_of_some _ (by rw [htb]; rfl), none_ge hge⟩)
      (.inr ⟨c', Heap.get?_push_of_some _ (by rw [htb, hpos]; rfl), Heap.CodeRec.push hrec _, gb.2.1, gb.2.2⟩)
    exact k _ c' doc _ ctv _ P.1 P.2 (Heap.get?_push_size _ rfl) (Heap.CodeRec.push hrec _) gb (big _ (Nat.le_trans hge (Nat.le_of_lt hlt)))
  · have hf : codeAmong pos #[rawInt e.pos.line, rawInt e.pos.col, Value.ref c'].toList = some (.ref c') := by
      rw [hpos]; show codeAmong pos [.int _ 0, .int _ 0, .ref c'] = _; unfold codeAmong; simp
    refine makeFunction_hit (closure_eq hcl) F.glob hgs hcode Cs t1 trivial hf hbs fun ctv doc h' tk hk hsz => ?_
    have hk' := fun b o (q : s.heap.get? b = some o) => Heap.get?_push_of_some (fnMade name e.qual params body scope clos doc ((mg "__name__").getD .none) c' ctv) (hk b o q)
    have P := S.extBut (k := tk) he hu (h' := h'.push (fnMade name e.qual params body scope clos doc ((mg "__name__").getD .none) c' ctv)) (fun b o n q => hk' b o q) (.inl (by rw [t1]; exact hk' _ _ t1))
      (.inr ⟨c', hk' _ _ t1, Heap.CodeRec.keeps t2 hk', t3, t4⟩)
    refine k _ c' doc _ ctv _ P.1 P.2 (Heap.get?_push_size _ rfl) (Heap.CodeRec.keeps t2 hk') ⟨fun q => ?_, t3, t4⟩ (big _ hsz)
    obtain ⟨c'', o, vs, t, e1, e2, e3, _⟩ := t2
    cases e1
    obtain ⟨m, ⟨oL', es, ep, ho', hd', _⟩, _⟩ := F.ns
    rw [q, ho'] at e2; cases e2; rw [hd'] at e3; cases e3
end
structure Aft (X X' : Cx) (q : Addr) (name qual : Str) (params : Arguments) (body : List Stmt) (scope : Scope) (cA : List (Str × Nat)) : Prop where
  prog : X'.prog = X.prog
  w : X'.w = X.w
  base : ∀ b o, X.h₀.get? b = some o → X'.h₀.get? b = some o
  tabs : X'.T.tabs = X.T.tabs
  fn : ∃ clos doc pm c' ctv, X'.h₀.get? q = some (fnMade name qual params body scope clos doc pm c' ctv) ∧ X'.h₀.CodeRec (.ref c') qual ∧ ∀ x i, lk cA x = some i → ∃ a, X'.T.pin[i]? = some a ∧ clos.lookup x = some a
section
variable {X : Cx} {dp : Nat} {f : Fm} {as : List AO}
theorem exs_nest {name : Str} {params : Arguments} {body : List Stmt} {scope : Scope} {pos : Pos} {e : TabE} {c : Addr} {mg : Str → Option Value} {cA : List (Str × Nat)} {rest : List Stmt} {Q : PF}
    (hd0 : params.defaults = []) (hk0 : params.kw_defaults = []) (ha : ∀ env, annTrees params none env = []) (hkind : isKind .local f.sc name = true)
    (hc : f.code = .ref c) (C : CodeHd X.h₀ c e.P) (he : e ∈ X.T.tabs) (hu : ∀ e' ∈ X.T.tabs, e'.P = e.P → e' = e) (hpos : e.pos = pos) (hq : e.qual = f.qual ++ name)
    (hg : X.h₀.Ns 3 mg) (hb : X.h₀.BuiltinsAt mg e.P) (hcA : cloA f.cells scope.names [] = some cA)
    (h : ∀ X' q, Aft X X' q name e.qual params body scope cA → ExsS X' dp { f with loc := pt f.loc name (.addr q) } rest as Q) :
    ExsS X dp f (.FunctionDef name params body [] none [] scope none name pos :: rest) as Q := by
  intro A θ s L env post E R F S k0
  refine wpAny_execs_cons ?_
  refine nestDef_K hd0 hk0 (ha env) ?_
  have hqn : qualnameIn env name name = f.qual ++ name := by
    unfold qualnameIn
    rw [F.kindOf hkind, F.qual]
    rfl
  rw [hqn]
  obtain ⟨cs, hclo, hcs⟩ := clo_rel F scope.names [] [] hcA (fun x i q => by cases q)
  refine mkdef_ok F S hc C he hu hpos hq hg hb hclo fun q c' doc pm ctv s₁ S₁ X₁ g1 rec gb gq => ?_
  have F₁ := F.ext X₁
  have hst : storeW f name (.addr q) as fun loc' as' => loc' = pt f.loc name (.addr q) ∧ as' = as := by
    unfold storeW
    rw [hkind]
    exact ⟨rfl, rfl⟩
  refine store_ok hst F₁ S₁ (av := .addr q) rfl fun loc' as' s₂ qs S₂ X₂ F₂ => ?_
  obtain ⟨rfl, rfl⟩ := qs
  have kp : ∀ b o, b ≠ L → b ∉ θ → b ∉ X.H → s₁.heap.get? b = some o → s₂.heap.get? b = some o := fun b o n1 n2 n3 e => X₂.keep b o e n2 n3 n1
  have g2 := kp _ _ gq.1 gq.2.1 gq.2.2 g1
  have rec2 : (X.re L θ s₂.heap).h₀.CodeRec (.ref c') e.qual := by
    obtain ⟨c'', oc, vs, t, e1, e2, e3, e4⟩ := rec
    cases e1
    exact ⟨c', oc, vs, t, rfl, re_at (kp _ _ gb.1 gb.2.1 gb.2.2 e2) gb.1 gb.2.1 gb.2.2, e3, e4⟩
  have AF : Aft X (X.re L θ s₂.heap) q name e.qual params body scope cA := ⟨rfl, rfl, re_base S₂ F₂.apart, rfl, cs, doc, pm, c', ctv, re_at g2 gq.1 gq.2.1 gq.2.2, rec2, fun x i z => hcs x i z⟩
  refine h _ q AF A θ s₂ L env post E R (re_F F₂) (re_S S₂) fun fl loc as' θ' s' g q' S' X' F' G => ?_
  refine k0 fl loc as' θ' s' g q' (re_back S₂ F₂.apart S') (X₁.toL.trans F.there F.nin F₁.there (X₂.trans F₁.there F₁.nin F₂.there X')) ⟨F'.scope, F'.kind, F'.loc, F'.nin, F₂.apart, F'.nhid, F'.ns, F'.cells, F'.glob, F'.blt, F'.code, F'.qual⟩ G
end
end Mine

end
section
open PySem PySem.W PyProof.Rows PySem.SeqAt
set_option backward.match.sparseCases false
namespace Mine
structure ForP where
  (tg iter : Expr)
  body : List Stmt
  pos : Pos
noncomputable def noExpr : Expr := .Constant .none 0 default
noncomputable def forP : Stmt → ForP
  | .For t i b [] p => ⟨t, i, b, p⟩
  | _ => ⟨noExpr, noExpr, [], default⟩
noncomputable def ForP.st (b : ForP) : Stmt := .For b.tg b.iter b.body [] b.pos
structure CmpP where
  (elt tg iter : Expr)
  ifs : List Expr
  scope : Scope
  pos : Pos
noncomputable def cmpP (sc : Scope) : Expr → CmpP
  | .ListComp elt [⟨tg, iter, ifs, 0⟩] scope pos => ⟨elt, tg, iter, ifs, scope, pos⟩
  | e => ⟨e, e, e, [], sc, default⟩
noncomputable def CmpP.ex (b : CmpP) : Expr := .ListComp b.elt [⟨b.tg, b.iter, b.ifs, 0⟩] b.scope b.pos
noncomputable def asgX : Stmt → Str × Pos × Expr × Pos
  | .Assign [.Name x p] e q => (x, p, e, q)
  | _ => (⟨⟨[]⟩⟩, default, noExpr, default)
theorem intsOf_int : ∀ xs : List Int, intsOf (xs.map .int) = some xs
  | [] => rfl
  | x :: xs => by
    show intsOf (.int x :: xs.map .int) = _
    unfold intsOf
    rw [intsOf_int xs]
theorem mkL_ints (xs : List Int) : mkL (xs.map .int) = .intx xs := by unfold mkL; rw [intsOf_int]
section
variable {X : Cx} {N : Ken} {dp n : Nat} {f : Fm} {as : List AO}
theorem forW (O : KenOK X N) {b : ForP} {Q : PF} (h : itW N (recL N n) dp f b.iter b.tg as fun N bnd chk as₁ => ∃ Inv Bd : Nat → Loc → List AO → Prop, Inv 0 f.loc as₁ ∧ (∀ k loc as₂, Inv k loc as₂ → chk as₂ True) ∧ (∀ k loc as₂, k < N → Inv k loc as₂ → bnd { f with loc := loc } k as₂ (Bd k)) ∧
      (∀ k loc as₂, Bd k loc as₂ → ExsS X dp { f with loc := loc } b.body as₂ fun fl loc' as' => match fl with | .next | .cont => Inv (k + 1) loc' as' | .brk => Q .next loc' as' | .ret v => Q (.ret v) loc' as') ∧
      (∀ loc as₂, Inv N loc as₂ → Q .next loc as₂)) : ExS X dp f b.st as Q := by
  obtain ⟨hf, z⟩ := itW_ok O (specL0 O n) h
  refine st_forI hf (z.mono fun n bnd G as₁ q => ?_)
  obtain ⟨chk, hg, Inv, Bd, h0, h1, h2, h3, h4⟩ := q
  exact ⟨Inv, Bd, h0, fun k loc as₂ i => (hg _ _ (h1 k loc as₂ i)).1, h2, h3, h4⟩
theorem cmpW (O : KenOK X N) {b : CmpP} {cA : List (Str × Nat)} {Q : PV} (hok : compOk b.scope = true) (hcA : cloA f.cells b.scope.names [] = some cA)
    (h : itW N (recL N n) dp f b.iter b.tg as fun N bnd chk as₁ => N ≤ 100000 ∧ ∃ (el : Nat → Int) (t : Nat → Bool) (lc : Nat → Loc), (∀ ys, chk (as₁ ++ [.list ys]) True) ∧
      (∀ k loc ys (P : Loc → List AO → Prop), k < N → (loc = [] ∨ ∃ j, loc = lc j) → P (lc k) (as₁ ++ [.list ys]) → bnd (compFm f b.scope cA loc) k (as₁ ++ [.list ys]) P) ∧
      (∀ k ys, k < N → FlS X dp (compFm f b.scope cA (lc k)) b.ifs (as₁ ++ [.list ys]) fun r as₃ => r = t k ∧ as₃ = as₁ ++ [.list ys]) ∧
      (∀ k ys, k < N → t k = true → EvS X dp (compFm f b.scope cA (lc k)) b.elt (as₁ ++ [.list ys]) fun y as₄ => y = .int (el k) ∧ as₄ = as₁ ++ [.list ys]) ∧
      Q (.obj as₁.length) (as₁ ++ [.intx (((List.range N).filter t).map el)])) : CmpS X dp f b.elt b.tg b.iter b.ifs b.scope b.pos as Q := by
  obtain ⟨hf, z⟩ := itW_ok O (specL0 O n) h
  obtain ⟨h1, h2, h3, h4⟩ := compOk_of hok
  refine cmp_I hf hcA h1 h2 h3 h4 (z.mono fun n bnd G as₁ q => ?_)
  obtain ⟨chk, hg, hN, el, t, lc, g1, g2, g3, g4, g5⟩ := q
  have at1 : ∀ ys : List AV, (as₁ ++ [AO.list ys])[as₁.length]? = some (.list ys) := fun ys => by rw [List.getElem?_append_right (Nat.le_refl _), Nat.sub_self]; rfl
  have set1 : ∀ (ys : List AV) (o : AO), (as₁ ++ [AO.list ys]).set as₁.length o = as₁ ++ [o] := fun ys o => by rw [List.set_append_right _ _ (Nat.le_refl _), Nat.sub_self]; rfl
  refine ⟨hN, fun k loc as₂ => k ≤ n ∧ (loc = [] ∨ ∃ j, loc = lc j) ∧ as₂ = as₁ ++ [.list ((((List.range k).filter t).map el).map .int)], fun k loc as₂ => loc = lc k ∧ as₂ = as₁ ++ [.list ((((List.range k).filter t).map el).map .int)],
    ⟨Nat.zero_le _, .inl rfl, rfl⟩, fun k loc as₂ i => by rw [i.2.2]; exact (hg _ _ (g1 _)).1, fun k loc as₂ hk i => ?_, fun k loc as₂ hk i => ?_, fun loc as₂ i => ?_⟩
  · obtain ⟨_, i, rfl⟩ := i
    exact g2 k loc _ _ hk i ⟨rfl, rfl⟩
  · obtain ⟨rfl, rfl⟩ := i
    have fin := g3 k ((((List.range k).filter t).map el).map .int) hk
    have post : ∀ r as₃, (r = t k ∧ as₃ = as₁ ++ [.list ((((List.range k).filter t).map el).map .int)]) → ifB r (EvS X dp (compFm f b.scope cA (lc k)) b.elt as₃ fun y as₄ => ∃ ys, as₄[as₁.length]? = some (.list ys) ∧ ys.length ≤ k ∧ (k + 1 ≤ n ∧ (lc k = [] ∨ ∃ j, lc k = lc j) ∧ as₄.set as₁.length (.list (ys ++ [y])) = as₁ ++ [.list ((((List.range (k + 1)).filter t).map el).map .int)])) (k + 1 ≤ n ∧ (lc k = [] ∨ ∃ j, lc k = lc j) ∧ as₃ = as₁ ++ [.list ((((List.range (k + 1)).filter t).map el).map .int)]) := by
      rintro r as₃ ⟨rfl, rfl⟩
      cases ht : t k with
      | true =>
        refine (g4 k _ hk ht).mono fun y as₄ q => ?_
        obtain ⟨rfl, rfl⟩ := q
        refine ⟨_, at1 _, ?_, hk, .inr ⟨k, rfl⟩, ?_⟩
        · rw [List.length_map, List.length_map]
          refine Nat.le_trans (List.length_filter_le _ _) ?_
          rw [List.length_range]; exact Nat.le_refl _
        · rw [set1, List.range_succ, List.filter_append, List.filter_cons_of_pos (by rw [ht]), List.filter_nil, List.map_append, List.map_append]; rfl
      | false =>
        refine ⟨hk, .inr ⟨k, rfl⟩, ?_⟩
        rw [List.range_succ, List.filter_append, List.filter_cons_of_neg (by rw [ht]; decide), List.filter_nil, List.append_nil]
    revert fin
    match b.ifs with
    | [] => exact fun fin => post _ _ fin
    | [c] => exact fun fin => TsS.mono fin post
    | _ :: _ :: _ => exact fun fin => fin
  · refine El_aa i fun _ _ hr2 => ?_; obtain rfl := hr2; try clear i
    exact ⟨_, at1 _, by rw [set1, mkL_ints]; exact g5⟩
end
end Mine

end
section
open PySem PySem.W PyProof.Rows PySem.SeqAt
namespace Mine
section
variable {X : Cx} {dp : Nat} {f : Fm} {as : List AO}
theorem ev_cmpP {b : CmpP} {Q : PV} (h : CmpS X dp f b.elt b.tg b.iter b.ifs b.scope b.pos as Q) : EvS X dp f b.ex as Q := ev_cmp h
theorem glob_bi {N : Ken} (O : KenOK X N) {x : Str} {s : String} (h : N.gv x = some (.bi s)) : GlobV X x (.builtin s) := by
  obtain ⟨v, G, V⟩ := O.gvs x _ h
  cases V; exact G
end
end Mine

end
section
open PySem PySem.W PyProof.Rows PySem.SeqAt
set_option backward.match.sparseCases false
namespace Mine
noncomputable section
noncomputable abbrev fP (i : Nat) : ForP := forP (stL i)
noncomputable abbrev forBody (i : Nat) : List Stmt := (fP i).body
noncomputable def binX : Expr → Expr × Operator × Expr × Pos
  | .BinOp l op r p => (l, op, r, p)
  | e => (e, .Add, e, default)
noncomputable def valX (s : Stmt) : Expr := (asgX s).2.2.1
noncomputable abbrev c11 : CmpP := cmpP lawD.scope (binX (valX (stL 11))).1
structure Rec where
  (a0 a1 a2 a3 a4 b0 b1 b2 b3 b4 : Int)
noncomputable def objs (n k : Nat) : List AV := match n with
  | 3 => [.obj (k + 1), .obj (k + 2), .obj (k + 3)]
  | 4 => [.obj (k + 1), .obj (k + 2), .obj (k + 3), .obj (k + 4)]
  | _ => [.obj (k + 1), .obj (k + 2), .obj (k + 3), .obj (k + 4), .obj (k + 5)]
noncomputable def tups (n : Nat) (r : Rec) : List AO := match n with
  | 3 => [.tuple [.int r.a0, .int r.b0], .tuple [.int r.a1, .int r.b1], .tuple [.int r.a2, .int r.b2]]
  | 4 => [.tuple [.int r.a0, .int r.b0], .tuple [.int r.a1, .int r.b1], .tuple [.int r.a2, .int r.b2], .tuple [.int r.a3, .int r.b3]]
  | _ => [.tuple [.int r.a0, .int r.b0], .tuple [.int r.a1, .int r.b1], .tuple [.int r.a2, .int r.b2], .tuple [.int r.a3, .int r.b3], .tuple [.int r.a4, .int r.b4]]
noncomputable abbrev B4 (o : Obj) : List AO := [.fix o, .cell none, .cell none, .cell none]
noncomputable abbrev C4 (o : Obj) (w s f : Bool) : List AO := [.fix o, .cell (some (.bool w)), .cell (some (.bool s)), .cell (some (.bool f))]
noncomputable def keepQ (n : Nat) (P : Option AV → Option AV → Option AV → List AO → List Int → Prop) : PF := fun fl loc as' => match fl with
  | .next => onSm (lk loc v_code) (fun v => onObj v (fun j => onSm as'[j]? (fun o => match o with
    | .intx xs => Nat.ble n j = true ∧ P (lk loc v_records) (lk loc v_low) (lk loc v_high) (as'.take n) xs
    | _ => False) False) False) False
  | _ => False
noncomputable abbrev LA (d : Int) : Loc := [(v_script, .obj 0), (v_draw, .int d), (v_values, .obj 4)]
noncomputable abbrev LB (d : Int) (nr : Bool) : Loc := LA d ++ [(v_narrow, .bool nr), (v_records, .obj 5)]
noncomputable abbrev LB' (d : Int) (nr : Bool) (p h : Int) : Loc := LB d nr ++ [(v_place, .int p), (v_high, .int h)]
noncomputable abbrev LC (d : Int) (nr : Bool) (p : Int) (b : Bool) (lo hi : Int) : Loc := LB' d nr p hi ++ [(v_bubble, .bool b), (v_low, .int lo)]
noncomputable abbrev Z6 (n : Nat) (o : Obj) (w s f : Bool) (vs : List Int) (r : Rec) : List AO := C4 o w s f ++ [.intx vs, .list (objs n 5)] ++ tups n r
end
end Mine

end
section
open PySem PySem.W PyProof.Rows PySem.SeqAt
set_option backward.match.sparseCases false
namespace Mine
noncomputable section
noncomputable def iL (c : List Nat) : List Int := c.map fun (b : Nat) => (b : Int)
inductive Gk where
  | a | c (k : Int) | e (k : Nat) | s | t
noncomputable def grd : List Gk → Option (Program × World) → Prop → Prop
  | [], _, P => P
  | .a :: r, _, P => ∀ (p : Program) (w : World) (cd : Value), grd r (some (p, w)) P
  | .c k :: r, pw, P => ((0 : Int) ≤ k ∧ k < 9223372036854775808) ∧ grd r pw P
  | .e k :: r, pw, P => k = k ∧ grd r pw P
  | .s :: r, pw, P => pw = pw ∧ grd r pw P
  | .t :: r, pw, P => true = true ∧ grd r pw P
noncomputable def Gk.ok : Gk → Bool
  | .c k => decide (0 ≤ k) && decide (k < 9223372036854775808)
  | _ => true
theorem grd_of {P : Prop} (h : P) : ∀ (l : List Gk), l.all Gk.ok = true → ∀ pw, grd l pw P
  | [], _, _ => h
  | .a :: r, k, _ => fun p w _ => grd_of h r (Bool.and_eq_true_iff.mp k).2 _
  | .c _ :: r, k, pw => ⟨(by
      have := Bool.and_eq_true_iff.mp (Bool.and_eq_true_iff.mp k).1
      exact ⟨of_decide_eq_true this.1, of_decide_eq_true this.2⟩), grd_of h r (Bool.and_eq_true_iff.mp k).2 _⟩
  | .e _ :: r, k, pw => ⟨rfl, grd_of h r (Bool.and_eq_true_iff.mp k).2 _⟩
  | .s :: r, k, pw => ⟨rfl, grd_of h r (Bool.and_eq_true_iff.mp k).2 _⟩
  | .t :: r, k, pw => ⟨rfl, grd_of h r (Bool.and_eq_true_iff.mp k).2 _⟩
noncomputable def gC (w : Bool) : List Gk := match w with | false => [.c 1, .c 1] | true => [.c 0, .c 0, .c 1, .c 1]
noncomputable def gI (w : Bool) : List Gk := [.e 4, .a, .e 4, .a] ++ gC w ++ [.e 2, .a, .s, .s, .s, .s, .s, .s, .s, .s, .t]
noncomputable def gU (w : Bool) : List Gk := [.e 6, .a, .e 2, .a, .e 2, .a, .e 2, .a, .e 2, .a, .e 4, .a] ++ gC w ++ [.e 2, .e 2, .a, .e 2, .a, .e 2, .a, .e 2, .a, .e 2, .e 2, .a, .e 2, .a, .e 2, .a, .e 2, .a, .e 2, .a, .s, .s, .s, .s, .s, .s, .s, .s, .s, .s, .t]
theorem g_ok : ((gI true).all Gk.ok && (gI false).all Gk.ok && (gU true).all Gk.ok && (gU false).all Gk.ok) = true := by decide +kernel
noncomputable def codeM (w s f : Bool) (k a b c d e g h i : Nat) : List Nat := match w with
  | false => (match s with
    | false => (match f with | false => U000 k a b c d e g h i | true => U001 k a b c d e g h i)
    | true => (match f with | false => U010 k a b c d e g h i | true => U011 k a b c d e g h i))
  | true => (match s with
    | false => (match f with | false => U100 k a b c d e g h i | true => U101 k a b c d e g h i)
    | true => (match f with | false => U110 k a b c d e g h i | true => U111 k a b c d e g h i))
noncomputable def zT (lo hi : Int) : Nat → Int
  | 0 => lo.fmod 256
  | 1 => lo.fdiv 256
  | 2 => (lo + 1).fmod 256
  | 3 => (lo + 1).fdiv 256
  | 4 => hi.fmod 256
  | 5 => hi.fdiv 256
  | 6 => (hi + 1).fmod 256
  | _ => (hi + 1).fdiv 256
noncomputable def zW (t : Nat → Int) (c : Nat) : Int := match Nat.blt c 1000 with | true => (c : Int) | false => t (c - 1000)
noncomputable def zU (w s f : Bool) (n : Nat) (t : Nat → Int) : List Int := (codeM w s f (n - 1) 1000 1001 1002 1003 1004 1005 1006 1007).map (zW t)
section
variable (cd : Value) (o : Obj) (d : Int) (nr : Bool) (p lo hi : Int) (vs : List Int) (r : Rec) (P : Option AV → Option AV → Option AV → List AO → List Int → Prop) (x : AO)
noncomputable abbrev asI (w s f : Bool) (n : Nat) : Prop := lxs kN 60 40 (F0 cd (LC d nr p false lo hi)) (stG 9 11) (Z6 n o w s f vs r ++ [x]) (keepQ (6 + n) P) = grd (gI w) none (P (some (.obj 5)) (some (.int lo)) (some (.int hi)) (Z6 n o w s f vs r) (iL (codeI w s f n)))
noncomputable abbrev asU (w s f : Bool) (n : Nat) : Prop := lxs kN 60 40 (F0 cd (LC d nr p true lo hi)) (stG 9 11) (Z6 n o w s f vs r ++ [x]) (keepQ (6 + n) P) = grd (gU w) none (P (some (.obj 5)) (some (.int lo)) (some (.int hi)) (Z6 n o w s f vs r) (zU w s f n (zT lo hi)))
theorem as_I3 (w s f : Bool) : asI cd o d nr p lo hi vs r P x w s f 3 := by
  cases w <;> cases s <;> cases f <;> kernel_rfl
theorem as_I4 (w s f : Bool) : asI cd o d nr p lo hi vs r P x w s f 4 := by
  cases w <;> cases s <;> cases f <;> kernel_rfl
theorem as_I5 (w s f : Bool) : asI cd o d nr p lo hi vs r P x w s f 5 := by
  cases w <;> cases s <;> cases f <;> kernel_rfl
theorem as_I {n : Nat} (hn : n = 3 ∨ n = 4 ∨ n = 5) (w s f : Bool) : asI cd o d nr p lo hi vs r P x w s f n := by
  rcases hn with rfl | rfl | rfl
  · exact as_I3 cd o d nr p lo hi vs r P x w s f
  · exact as_I4 cd o d nr p lo hi vs r P x w s f
  · exact as_I5 cd o d nr p lo hi vs r P x w s f
end
end
end Mine

end
section
open PySem PySem.W PyProof.Rows PySem.SeqAt
namespace Mine
noncomputable section
section
variable (cd : Value) (o : Obj) (d : Int) (nr : Bool) (p lo hi : Int) (vs : List Int) (r : Rec) (P : Option AV → Option AV → Option AV → List AO → List Int → Prop) (x : AO)
theorem as_U3 (w s f : Bool) : asU cd o d nr p lo hi vs r P x w s f 3 := by
  cases w <;> cases s <;> cases f <;> kernel_rfl
theorem as_U4 (w s f : Bool) : asU cd o d nr p lo hi vs r P x w s f 4 := by
  cases w <;> cases s <;> cases f <;> kernel_rfl
theorem as_U5 (w s f : Bool) : asU cd o d nr p lo hi vs r P x w s f 5 := by
  cases w <;> cases s <;> cases f <;> kernel_rfl
theorem as_U {n : Nat} (hn : n = 3 ∨ n = 4 ∨ n = 5) (w s f : Bool) : asU cd o d nr p lo hi vs r P x w s f n := by
  rcases hn with rfl | rfl | rfl
  · exact as_U3 cd o d nr p lo hi vs r P x w s f
  · exact as_U4 cd o d nr p lo hi vs r P x w s f
  · exact as_U5 cd o d nr p lo hi vs r P x w s f
end
end
end Mine

end
section
open PySem PySem.W PyProof.Rows PySem.SeqAt
set_option backward.match.sparseCases false
namespace Mine
noncomputable section
section
variable (cd : Value) (o : Obj) (d : Int) (ns : List Int)
theorem v0 (Q : PF) : lxs kN 40 40 (F0 cd lsc) (stG 0 2) (B4 o) Q = (∃ xs, FixI o xs ∧ xs.length ≤ 100000 ∧ ifB (!xs.isEmpty) (∃ xs, FixI o xs ∧ ((0 : Int) ≤ 0 ∧ (0 : Int) < (xs.length : Int) ∧ (0 : Int) < 9223372036854775808) ∧ ∃ ys, FixI o ys ∧ gN ys.length 100000 (((0 : Int) ≤ 1 ∧ (0 : Int) ≤ 11) ∧ Q .next (LA (xs.getD 0 0)) (B4 o ++ [.intx ((ys.drop 1).take (min 11 ys.length - 1))])))
   (∃ ys, FixI o ys ∧ gN ys.length 100000 (((0 : Int) ≤ 1 ∧ (0 : Int) ≤ 11) ∧ Q .next (LA 0) (B4 o ++ [.intx ((ys.drop 1).take (min 11 ys.length - 1))])))) := by kernel_rfl
noncomputable abbrev six : List Int := [200, 9, 100, 8, 200, 7]
theorem v2 (Q : PF) : lxs kN 40 40 (F0 cd (LA d)) (stG 2 3) (B4 o ++ [.intx ns]) Q = gN ns.length 1000000 (ifB (decide ((ns.length : Int) < 6)) (gN (ns.length + 6) 100000 (gN (ns ++ six).length 100000 ((0 : Int) ≤ 6 ∧ Q .next ([(v_script, .obj 0), (v_draw, .int d), (v_values, .obj 7)]) (B4 o ++ [.intx ns, .intx six, .intx (ns ++ six), .intx ((ns ++ six).take 6)]))))
   (Q .next (LA d) (B4 o ++ [.intx ns]))) := by kernel_rfl
theorem v3 (Q : PF) : lxs kN 40 40 (F0 cd (LA d)) (stG 3 5) (B4 o ++ [.intx ns]) Q = Q .next (LB d (ns.sum.fmod 2 == 1)) (B4 o ++ [.intx ns, .intx []]) := by kernel_rfl
noncomputable def vl (L : Nat) (x : Nat → Int) : List Int := match L with
  | 6 => [x 0, x 1, x 2, x 3, x 4, x 5]
  | 7 => [x 0, x 1, x 2, x 3, x 4, x 5, x 6]
  | 8 => [x 0, x 1, x 2, x 3, x 4, x 5, x 6, x 7]
  | 9 => [x 0, x 1, x 2, x 3, x 4, x 5, x 6, x 7, x 8]
  | _ => [x 0, x 1, x 2, x 3, x 4, x 5, x 6, x 7, x 8, x 9]
noncomputable def hiV (nr : Bool) (v : Int) : Int := match nr with | true => v.fmod 4 * 64 + 1 | false => v.fmod 256
noncomputable def recV (nr : Bool) (x : Nat → Int) : Rec := ⟨(x 1).fmod 256, (x 3).fmod 256, (x 5).fmod 256, (x 7).fmod 256, (x 9).fmod 256, hiV nr (x 0), hiV nr (x 2), hiV nr (x 4), hiV nr (x 6), hiV nr (x 8)⟩
noncomputable def gB (L : Int) (nr : Bool) (x : Nat → Int) : Nat → Nat → Prop → Prop
  | 0, _, P => P
  | k + 1, i, P => ((0 : Int) ≤ (i : Int) ∧ (i : Int) < L ∧ (i : Int) < 9223372036854775808) ∧ (match nr with
    | true => (Builtin.Int.intBits ((x i).fmod 4) ≤ 64 ∨ (7 : Nat) ≤ 64) ∧ ((0 : Int) ≤ ((i + 1 : Nat) : Int) ∧ ((i + 1 : Nat) : Int) < L ∧ ((i + 1 : Nat) : Int) < 9223372036854775808) ∧ gB L nr x k (i + 2) P
    | false => ((0 : Int) ≤ ((i + 1 : Nat) : Int) ∧ ((i + 1 : Nat) : Int) < L ∧ ((i + 1 : Nat) : Int) < 9223372036854775808) ∧ gB L nr x k (i + 2) P)
theorem gB_of {L : Int} {nr : Bool} {x : Nat → Int} {P : Prop} (h : P) (hL : L ≤ 100) : ∀ k i, ((i + 2 * k : Nat) : Int) ≤ L → gB L nr x k i P
  | 0, _, _ => h
  | k + 1, i, q => by
    have c1 : (0 : Int) ≤ (i : Int) ∧ (i : Int) < L ∧ (i : Int) < 9223372036854775808 := ⟨by lia, by lia, by lia⟩
    have c2 : (0 : Int) ≤ ((i + 1 : Nat) : Int) ∧ ((i + 1 : Nat) : Int) < L ∧ ((i + 1 : Nat) : Int) < 9223372036854775808 := ⟨by lia, by lia, by lia⟩
    have r := gB_of (nr := nr) (x := x) h hL k (i + 2) (by rw [show i + 2 + 2 * k = i + 2 * (k + 1) by lia]; exact q)
    cases nr with
    | true => exact ⟨c1, .inr (by decide), c2, r⟩
    | false => exact ⟨c1, c2, r⟩
noncomputable abbrev b5 (L n : Nat) (nr : Bool) (x : Nat → Int) (Q : PF) : Prop := lxs kN 60 40 (F0 cd (LB d nr)) (stG 5 6) (B4 o ++ [.intx (vl L x), .intx []]) Q = (((2 : Int) ≠ 0 ∧ true = true ∧ false = false ∧ (0 : Int) ≤ (n : Int)) ∧ gB (L : Int) nr x n 0 (Q .next (LB' d nr ((2 * (n - 1) : Nat) : Int) (hiV nr (x (2 * (n - 1))))) (B4 o ++ [.intx (vl L x), .list (objs n 5)] ++ tups n (recV nr x))))
theorem v5 {L n : Nat} (h : (L = 6 ∧ n = 3) ∨ (L = 7 ∧ n = 3) ∨ (L = 8 ∧ n = 4) ∨ (L = 9 ∧ n = 4) ∨ (L = 10 ∧ n = 5)) (nr : Bool) (x : Nat → Int) (Q : PF) : b5 cd o d L n nr x Q := by
  rcases h with ⟨rfl, rfl⟩ | ⟨rfl, rfl⟩ | ⟨rfl, rfl⟩ | ⟨rfl, rfl⟩ | ⟨rfl, rfl⟩ <;> cases nr <;> kernel_rfl
theorem v6 {n : Nat} (hn : n = 3 ∨ n = 4 ∨ n = 5) (nr : Bool) (p h : Int) (vs : List Int) (r : Rec) (Q : PF) : lxs kN 40 40 (F0 cd (LB' d nr p h)) (stG 6 9) (B4 o ++ [.intx vs, .list (objs n 5)] ++ tups n r) Q =
    Q .next (LC d nr p (d.fmod 2 == 1) (760 + (d.fdiv 16).fmod 10) (1018 + (d.fdiv 160).fmod 8)) (Z6 n o ((d.fdiv 2).fmod 2 == 1) ((d.fdiv 4).fmod 2 == 1) ((d.fdiv 8).fmod 2 == 1) vs r ++ [.tuple [.bool (d.fmod 2 == 1), .bool ((d.fdiv 2).fmod 2 == 1), .bool ((d.fdiv 4).fmod 2 == 1), .bool ((d.fdiv 8).fmod 2 == 1)]]) := by
  rcases hn with rfl | rfl | rfl <;> kernel_rfl
end
end
end Mine

end
section
open PySem PySem.W PyProof.Rows PySem.SeqAt
set_option backward.match.sparseCases false
namespace Mine
noncomputable section
theorem gN_in {n m : Nat} {P : Prop} (h : n ≤ m) (p : P) : gN n m P := by unfold gN; split; exact p; exact ⟨h, p⟩
theorem ifB_f {A B : Prop} (h : B) : ifB false A B := h
theorem ifB_t {A B : Prop} (h : A) : ifB true A B := h
theorem fdiv_c (a b : Nat) : (a : Int).fdiv (b : Int) = ((a / b : Nat) : Int) := by rw [Int.fdiv_eq_ediv_of_nonneg _ (by lia)]; lia
theorem fmod_c (a b : Nat) : (a : Int).fmod (b : Int) = ((a % b : Nat) : Int) := by rw [Int.fmod_eq_emod_of_nonneg _ (by lia)]; lia
theorem lk_mem5 {V : Type} {y : Str} {av : V} : ∀ {l : List (Str × V)}, lk l y = some av → (y, av) ∈ l
  | [], h => by cases h
  | (x, a) :: r, h => by
    unfold lk at h
    cases q : seq x y with
    | true => rw [q] at h; obtain rfl := seq_iff.mp q; cases h; exact .head _
    | false => rw [q] at h; exact .tail _ (lk_mem5 h)
noncomputable def tN (lo hi : Nat) : Nat → Nat
  | 0 => lo % 256
  | 1 => lo / 256
  | 2 => (lo + 1) % 256
  | 3 => (lo + 1) / 256
  | 4 => hi % 256
  | 5 => hi / 256
  | 6 => (hi + 1) % 256
  | _ => (hi + 1) / 256
theorem zT_c (lo hi : Nat) : zT lo hi = fun k => (tN lo hi k : Int) := by
  funext k
  have m := fun a => fmod_c a 256
  have d := fun a => fdiv_c a 256
  rcases k with _ | _ | _ | _ | _ | _ | _ | k
  · exact m lo
  · exact d lo
  · exact m (lo + 1)
  · exact d (lo + 1)
  · exact m hi
  · exact d hi
  · exact m (hi + 1)
  · exact d (hi + 1)
theorem zU_c {n : Nat} (hn : n = 3 ∨ n = 4 ∨ n = 5) (w s f : Bool) (lo hi : Nat) : zU w s f n (fun k => (tN lo hi k : Int)) = iL (codeU w s f n lo hi) := by
  rcases hn with rfl | rfl | rfl <;> cases w <;> cases s <;> cases f <;> kernel_rfl
noncomputable def codeP (b w s f : Bool) (n lo hi : Nat) : List Nat := match b with | false => codeI w s f n | true => codeU w s f n lo hi
noncomputable def recN (A B : Nat → Nat) : Rec := ⟨A 0, A 1, A 2, A 3, A 4, B 0, B 1, B 2, B 3, B 4⟩
theorem fm (z : Int) : 0 ≤ z.fmod 256 ∧ z.fmod 256 < 256 := ⟨Int.fmod_nonneg_of_pos z (by decide), Int.fmod_lt_of_pos z (by decide)⟩
theorem hv (nr : Bool) (z : Int) : 0 ≤ hiV nr z ∧ hiV nr z < 256 := by
  cases nr with
  | false => exact fm z
  | true =>
    have h1 := Int.fmod_nonneg_of_pos z (b := 4) (by decide)
    have h2 := Int.fmod_lt_of_pos z (b := 4) (by decide)
    show 0 ≤ z.fmod 4 * 64 + 1 ∧ z.fmod 4 * 64 + 1 < 256
    lia
noncomputable def rA (x : Nat → Int) (i : Nat) : Nat := ((x (2 * i + 1)).fmod 256).toNat
noncomputable def rB (nr : Bool) (x : Nat → Int) (i : Nat) : Nat := (hiV nr (x (2 * i))).toNat
theorem rA_c (x : Nat → Int) (i : Nat) : (rA x i : Int) = (x (2 * i + 1)).fmod 256 := Int.toNat_of_nonneg (fm _).1
theorem rB_c (nr : Bool) (x : Nat → Int) (i : Nat) : (rB nr x i : Int) = hiV nr (x (2 * i)) := Int.toNat_of_nonneg (hv nr _).1
theorem rA_lt (x : Nat → Int) (i : Nat) : rA x i < 256 := by have := rA_c x i; have := (fm (x (2 * i + 1))).2; lia
theorem rB_lt (nr : Bool) (x : Nat → Int) (i : Nat) : rB nr x i < 256 := by have := rB_c nr x i; have := (hv nr (x (2 * i))).2; lia
theorem rec_c (nr : Bool) (x : Nat → Int) : recN (rA x) (rB nr x) = recV nr x := by
  unfold recN
  rw [rA_c, rA_c, rA_c, rA_c, rA_c, rB_c, rB_c, rB_c, rB_c, rB_c]; rfl
theorem vl_of : ∀ {vs : List Int}, 6 ≤ vs.length → vs.length ≤ 10 → vs = vl vs.length (fun i => vs.getD i 0)
  | [a, b, c, d, e, f], _, _ => rfl
  | [a, b, c, d, e, f, g], _, _ => rfl
  | [a, b, c, d, e, f, g, h], _, _ => rfl
  | [a, b, c, d, e, f, g, h, i], _, _ => rfl
  | [a, b, c, d, e, f, g, h, i, j], _, _ => rfl
  | [], h, _ => absurd h (show ¬ 6 ≤ 0 by decide)
  | [_], h, _ => absurd h (show ¬ 6 ≤ 1 by decide)
  | [_, _], h, _ => absurd h (show ¬ 6 ≤ 2 by decide)
  | [_, _, _], h, _ => absurd h (show ¬ 6 ≤ 3 by decide)
  | [_, _, _, _], h, _ => absurd h (show ¬ 6 ≤ 4 by decide)
  | [_, _, _, _, _], h, _ => absurd h (show ¬ 6 ≤ 5 by decide)
  | _ :: _ :: _ :: _ :: _ :: _ :: _ :: _ :: _ :: _ :: _ :: r, _, h => absurd h (by simp only [List.length_cons]; lia)
noncomputable abbrev LAk (d : Int) (k : Nat) : Loc := [(v_script, .obj 0), (v_draw, .int d), (v_values, .obj k)]
noncomputable abbrev LD (n : Nat) (lo hi : Int) : Loc := [(v_records, .obj 5), (v_low, .int lo), (v_high, .int hi), (v_code, .obj (6 + n))]
theorem sc6 {n : Nat} (hn : n = 3 ∨ n = 4 ∨ n = 5) (o : Obj) (w s f : Bool) (vs : List Int) (r : Rec) : scOs (6 + n) (Z6 n o w s f vs r) = true := by
  rcases hn with rfl | rfl | rfl <;> rfl
section
variable {X : Cx} {cd : Value} {o : Obj} {Q : PF}
theorem part0 (O : KenOK X kN) (hpin : X.T.pin = []) {ns : List Int} (hI : FixI o ns) (hl : ns.length ≤ 63)
    (h : ∀ (d : Int) (vs : List Int), 6 ≤ vs.length → vs.length ≤ 10 → Q .next (LA d) (B4 o ++ [.intx vs])) : ExsS X 40 (F0 cd lsc) (stG 0 2 ++ stG 2 3) (B4 o) Q := by
  refine exs_keep (n := 4) (x := v_values) (by rw [hpin]; exact Nat.zero_le _) (Nat.le_refl 4) (by rfl) ?_
  have fin : ∀ (d : Int) (k : Nat) (mid : List AO) (vs : List Int), 4 ≤ k → (B4 o ++ mid)[k]? = some (.intx vs) → 6 ≤ vs.length → vs.length ≤ 10 →
      (AF.next = .next ∧ ∃ j xs loc', lk (LAk d k) v_values = some (.obj j) ∧ 4 ≤ j ∧ (B4 o ++ mid)[j]? = some (.intx xs) ∧ scOs 4 ((B4 o ++ mid).take 4) = true ∧ (∀ y av, lk loc' y = some av → (y = v_values ∧ av = .obj 4) ∨ (lk (LAk d k) y = some av ∧ scV 4 av = true)) ∧ Q .next loc' ((B4 o ++ mid).take 4 ++ [.intx xs])) := fun d k mid vs hk hj l6 l10 => by
    refine ⟨rfl, k, vs, LA d, by kernel_rfl, hk, hj, rfl, fun y av hy => ?_, h d vs l6 l10⟩
    have m := lk_mem5 hy
    simp only [List.mem_cons, Prod.mk.injEq, List.mem_nil_iff, or_false] at m
    rcases m with ⟨rfl, rfl⟩ | ⟨rfl, rfl⟩ | ⟨rfl, rfl⟩
    · exact .inr ⟨by kernel_rfl, rfl⟩
    · exact .inr ⟨by kernel_rfl, rfl⟩
    · exact .inl ⟨rfl, rfl⟩
  have main : ∀ d : Int, ExsS X 40 (F0 cd (LA d)) (stG 2 3) (B4 o ++ [.intx ((ns.drop 1).take (min 11 ns.length - 1))]) fun fl loc as' => fl = .next ∧ ∃ j xs loc', lk loc v_values = some (.obj j) ∧ 4 ≤ j ∧ as'[j]? = some (.intx xs) ∧ scOs 4 (as'.take 4) = true ∧ (∀ y av, lk loc' y = some av → (y = v_values ∧ av = .obj 4) ∨ (lk loc y = some av ∧ scV 4 av = true)) ∧ Q .next loc' (as'.take 4 ++ [.intx xs]) := fun d => by
    have ln : ((ns.drop 1).take (min 11 ns.length - 1)).length ≤ 10 := by rw [List.length_take]; (clear hl; omega)
    generalize (ns.drop 1).take (min 11 ns.length - 1) = ms at ln
    refine (specX O 40).exs 40 _ _ _ _ (Eq.mpr (v2 cd o d ms _) (gN_in (by lia) ?_))
    by_cases c : (ms.length : Int) < 6
    · rw [decide_eq_true c]
      have l6 : ((ms ++ six).take 6).length = 6 := by rw [List.length_take, List.length_append]; show min 6 (_ + 6) = 6; exact Nat.min_add_left_self
      refine ifB_t (gN_in (by (clear c; lia)) (gN_in (by rw [List.length_append]; show _ + 6 ≤ _; (clear c; lia)) ⟨by decide, ?_⟩))
      exact fin d 7 [.intx ms, .intx six, .intx (ms ++ six), .intx ((ms ++ six).take 6)] _ (by decide) rfl (Nat.le_of_eq l6.symm) (by rw [l6]; decide)
    · rw [decide_eq_false c]
      exact ifB_f (fin d 4 [.intx ms] ms (Nat.le_refl 4) rfl (by lia) ln)
  refine exs_app ((specX O 40).exs 40 _ _ _ _ (Eq.mpr (v0 cd o _) ⟨ns, hI, by lia, ?_⟩))
  cases ns with
  | nil => exact ifB_f ⟨[], hI, gN_in (by decide) ⟨by decide, main _⟩⟩
  | cons x r => exact ifB_t ⟨_, hI, ⟨by decide, by rw [List.length_cons]; exact Int.ofNat_succ_pos r.length, by decide⟩, _, hI, gN_in (by lia) ⟨by decide, main _⟩⟩
theorem keep_mono {m : Nat} {P : Option AV → Option AV → Option AV → List AO → List Int → Prop} {fl : AF} {loc : Loc} {as' : List AO} (h : keepQ m P fl loc as') : fl = .next ∧ ∃ j xs, lk loc v_code = some (.obj j) ∧ m ≤ j ∧ as'[j]? = some (.intx xs) ∧ P (lk loc v_records) (lk loc v_low) (lk loc v_high) (as'.take m) xs := by
  cases fl with
  | next =>
    refine ⟨rfl, ?_⟩
    unfold keepQ at h
    dsimp only at h
    cases e1 : lk loc v_code with
    | none => rw [e1] at h; exact h.elim
    | some v =>
      rw [e1] at h
      have h : onObj v (fun j => onSm as'[j]? (fun o => match o with | .intx xs => Nat.ble m j = true ∧ P (lk loc v_records) (lk loc v_low) (lk loc v_high) (as'.take m) xs | _ => False) False) False := h
      cases v with
      | obj j =>
        have h : onSm as'[j]? (fun o => match o with | .intx xs => Nat.ble m j = true ∧ P (lk loc v_records) (lk loc v_low) (lk loc v_high) (as'.take m) xs | _ => False) False := h
        cases e2 : as'[j]? with
        | none => rw [e2] at h; exact h.elim
        | some ob =>
          rw [e2] at h
          cases ob with
          | intx xs => exact ⟨j, xs, rfl, Nat.le_of_ble_eq_true h.1, e2, h.2⟩
          | _ => exact h.elim
      | _ => exact h.elim
  | _ => exact h.elim
theorem part6 (O : KenOK X kN) (hpin : X.T.pin = []) {n : Nat} (hn : n = 3 ∨ n = 4 ∨ n = 5) {d p hh : Int} {nr : Bool} {vs : List Int} {r : Rec}
    (h : ∀ (b w s f : Bool) (lo hi : Nat), 760 ≤ lo → lo ≤ 769 → 1018 ≤ hi → hi ≤ 1025 → Q .next (LD n lo hi) (Z6 n o w s f vs r ++ [.intx (iL (codeP b w s f n lo hi))])) :
    ExsS X 40 (F0 cd (LB' d nr p hh)) (stG 6 9 ++ stG 9 11) (B4 o ++ [.intx vs, .list (objs n 5)] ++ tups n r) Q := by
  have hlen : (B4 o ++ [AO.intx vs, .list (objs n 5)] ++ tups n r).length ≤ 6 + n := by rcases hn with rfl | rfl | rfl <;> exact Nat.le_refl _
  refine exs_keep (n := 6 + n) (x := v_code) (by rw [hpin]; exact Nat.zero_le _) hlen (by rcases hn with rfl | rfl | rfl <;> rfl) ?_
  refine exs_app ((specX O 40).exs 40 _ _ _ _ (Eq.mpr (v6 cd o d hn nr p hh vs r _) ?_))
  have x1 := Int.fmod_nonneg_of_pos (d.fdiv 16) (b := 10) (by decide)
  have x2 := Int.fmod_lt_of_pos (d.fdiv 16) (b := 10) (by decide)
  have y1 := Int.fmod_nonneg_of_pos (d.fdiv 160) (b := 8) (by decide)
  have y2 := Int.fmod_lt_of_pos (d.fdiv 160) (b := 8) (by decide)
  obtain ⟨lo, el⟩ : ∃ lo : Nat, 760 + (d.fdiv 16).fmod 10 = lo := ⟨(760 + (d.fdiv 16).fmod 10).toNat, by (clear y1; lia)⟩
  obtain ⟨hi, eh⟩ : ∃ hi : Nat, 1018 + (d.fdiv 160).fmod 8 = hi := ⟨(1018 + (d.fdiv 160).fmod 8).toNat, by (clear x1; lia)⟩
  have l1 : 760 ≤ lo := by (clear y1 eh); lia
  have l2 : lo ≤ 769 := by (clear y1 eh); lia
  have h1 : 1018 ≤ hi := by (clear x1 el); lia
  have h2 : hi ≤ 1025 := by (clear x1 el); lia
  rw [el, eh]
  generalize (d.fmod 2 == 1) = b
  generalize ((d.fdiv 2).fmod 2 == 1) = w
  generalize ((d.fdiv 4).fmod 2 == 1) = s
  generalize ((d.fdiv 8).fmod 2 == 1) = f
  have h := h b w s f lo hi l1 l2 h1 h2
  have g := g_ok
  simp only [Bool.and_eq_true] at g
  show ExsS X 40 (F0 cd (LC d nr p b lo hi)) (stG 9 11) (Z6 n o w s f vs r ++ [.tuple [.bool b, .bool w, .bool s, .bool f]]) _
  have K : ExsS X 40 (F0 cd (LC d nr p b lo hi)) (stG 9 11) (Z6 n o w s f vs r ++ [.tuple [.bool b, .bool w, .bool s, .bool f]]) (keepQ (6 + n) fun a1 a2 a3 base xs => (a1 = some (.obj 5) ∧ a2 = some (.int lo) ∧ a3 = some (.int hi)) ∧ base = Z6 n o w s f vs r ∧ xs = iL (codeP b w s f n lo hi)) := by
    refine (specX O 60).exs 40 _ _ _ _ ?_
    cases b with
    | false => exact Eq.mpr (as_I cd o d nr p lo hi vs r _ _ hn w s f) (grd_of ⟨⟨rfl, rfl, rfl⟩, rfl, rfl⟩ _ (by cases w; exact g.1.1.2; exact g.1.1.1) _)
    | true => exact Eq.mpr (as_U cd o d nr p lo hi vs r _ _ hn w s f) (grd_of ⟨⟨rfl, rfl, rfl⟩, rfl, (congrArg _ (zT_c lo hi)).trans (zU_c hn w s f lo hi)⟩ _ (by cases w; exact g.2; exact g.1.2) _)
  refine ExsS.mono K fun fl loc as' q => ?_
  obtain ⟨rfl, j, xs, e1, e2, e3, ⟨a1, a2, a3⟩, e4, rfl⟩ := keep_mono q
  refine ⟨rfl, j, _, LD n lo hi, e1, e2, e3, by rw [e4]; exact sc6 hn .., fun y av hy => ?_, by rw [e4]; exact h⟩
  have m := lk_mem5 hy
  simp only [List.mem_cons, Prod.mk.injEq, List.mem_nil_iff, or_false] at m
  rcases m with ⟨rfl, rfl⟩ | ⟨rfl, rfl⟩ | ⟨rfl, rfl⟩ | ⟨rfl, rfl⟩
  · exact .inr ⟨a1, by rcases hn with rfl | rfl | rfl <;> rfl⟩
  · exact .inr ⟨a2, rfl⟩
  · exact .inr ⟨a3, rfl⟩
  · exact .inl ⟨rfl, rfl⟩
theorem part3 (O : KenOK X kN) (hpin : X.T.pin = []) {d : Int} {vs : List Int} (l6 : 6 ≤ vs.length) (l10 : vs.length ≤ 10)
    (h : ∀ (n : Nat) (b w s f : Bool) (lo hi : Nat) (A B : Nat → Nat), (n = 3 ∨ n = 4 ∨ n = 5) → 760 ≤ lo → lo ≤ 769 → 1018 ≤ hi → hi ≤ 1025 → (∀ i, A i < 256) → (∀ i, B i < 256) → Q .next (LD n lo hi) (Z6 n o w s f vs (recN A B) ++ [.intx (iL (codeP b w s f n lo hi))])) :
    ExsS X 40 (F0 cd (LA d)) (stG 3 5 ++ (stG 5 6 ++ (stG 6 9 ++ stG 9 11))) (B4 o ++ [.intx vs]) Q := by
  refine exs_app ((specX O 40).exs 40 _ _ _ _ (Eq.mpr (v3 cd o d vs _) ?_))
  show ExsS X 40 (F0 cd (LB d (vs.sum.fmod 2 == 1))) (stG 5 6 ++ (stG 6 9 ++ stG 9 11)) (B4 o ++ [.intx vs, .intx []]) _
  generalize (vs.sum.fmod 2 == 1) = nr
  have e := vl_of l6 l10
  generalize (fun i => vs.getD i 0) = x at e
  obtain ⟨n, hn, hL⟩ : ∃ n, (n = 3 ∨ n = 4 ∨ n = 5) ∧ ((vs.length = 6 ∧ n = 3) ∨ (vs.length = 7 ∧ n = 3) ∨ (vs.length = 8 ∧ n = 4) ∨ (vs.length = 9 ∧ n = 4) ∨ (vs.length = 10 ∧ n = 5)) := by
    have : vs.length = 6 ∨ vs.length = 7 ∨ vs.length = 8 ∨ vs.length = 9 ∨ vs.length = 10 := by (clear e); omega
    rcases this with q | q | q | q | q
    · exact ⟨3, .inl rfl, .inl ⟨q, rfl⟩⟩
    · exact ⟨3, .inl rfl, .inr (.inl ⟨q, rfl⟩)⟩
    · exact ⟨4, .inr (.inl rfl), .inr (.inr (.inl ⟨q, rfl⟩))⟩
    · exact ⟨4, .inr (.inl rfl), .inr (.inr (.inr (.inl ⟨q, rfl⟩)))⟩
    · exact ⟨5, .inr (.inr rfl), .inr (.inr (.inr (.inr ⟨q, rfl⟩)))⟩
  have hL2 : 2 * n ≤ vs.length := by (clear e); omega
  generalize vs.length = L at e hL hL2 l10
  subst e
  refine exs_app ((specX O 60).exs 40 _ _ _ _ (Eq.mpr (v5 cd o d hL nr x _) ⟨⟨by decide, rfl, rfl, by lia⟩, gB_of ?_ (by lia) n 0 (by lia)⟩))
  rw [← rec_c nr x]
  exact part6 O hpin hn fun b w s f lo hi a1 a2 a3 a4 => h n b w s f lo hi _ _ hn a1 a2 a3 a4 (rA_lt x) (rB_lt nr x)
end
end
end Mine

end
section
open PySem PySem.W PyProof.Rows PySem.SeqAt
namespace Mine
noncomputable section
structure Zp where
  (o : Obj)
  (w s f : Bool)
  (vs c : List Int)
  (a : AO)
  (r : Rec)
noncomputable abbrev Zy (n : Nat) (z : Zp) : List AO := Z6 n z.o z.w z.s z.f z.vs z.r ++ [.intx z.c]
noncomputable abbrev Zz (n : Nat) (z : Zp) : List AO := Z6 n z.o z.w z.s z.f z.vs z.r ++ [.intx z.c, z.a]
noncomputable abbrev LM (n : Nat) (lo hi : Int) : Loc := LD n lo hi ++ [(v_memory, .obj (8 + n))]
noncomputable abbrev LP (n : Nat) (lo hi p : Int) : Loc := LM n lo hi ++ [(v_place, .int p)]
noncomputable abbrev LQ (n : Nat) (lo hi p : Int) : Loc := LP n lo hi p ++ [(v_pointers, .obj (9 + n))]
noncomputable abbrev LR (n : Nat) (lo hi p en : Int) : Loc := LQ n lo hi p ++ [(v_plain, .obj (10 + n)), (v_mpu, .obj (12 + n)), (v_end, .int en)]
noncomputable def M0 (m : List Int) (pc : Int) : MS := ⟨0, 0, 0, 48, pc, 255, 0, 0, .bool false, .int pc, m⟩
noncomputable abbrev ZM (n : Nat) (z : Zp) (pt pl : List Int) (M : MS) : List AO := Zz n z ++ [.ints M.mem, .intx pt, pl |> .intx, .dict (esL M (8 + n)), .inst 1428 (11 + n)]
noncomputable def ixP (k : Int) (m : List Int) : Prop := (0 : Int) ≤ k ∧ k < (m.length : Int) ∧ k < 9223372036854775808
theorem e11 : stL 11 = .Assign [.Name v_memory (asgX (stL 11)).2.1] (.BinOp c11.ex .Mult (binX (valX (stL 11))).2.2.1 (binX (valX (stL 11))).2.2.2) (asgX (stL 11)).2.2.2 := by kernel_rfl
theorem n11 : noComp (.BinOp c11.ex .Mult (binX (valX (stL 11))).2.2.1 (binX (valX (stL 11))).2.2.2) = true := by kernel_rfl
theorem ok11 : compOk c11.scope = true := by kernel_rfl
theorem cl11 : cloA lCells c11.scope.names [] = some [] := by kernel_rfl
theorem if11 : c11.ifs = [] := by kernel_rfl
section
variable (cd : Value) (n : Nat) (lo hi p : Int) (as : List AO)
theorem it11 (Q : Nat → Bnd → Chk → List AO → Prop) : itW kN (recL kN 20) 40 (F0 cd (LD n lo hi)) c11.iter c11.tg as Q = ((Small 0 ∧ Small 64) ∧ Q 64 (bndR v_place 0) (fun _ P => P) as) := by kernel_rfl
theorem bd11 (loc : Loc) (v : Int) (P : Loc → List AO → Prop) (hl : loc = [] ∨ ∃ j, loc = [(v_place, .int j)]) : storeW (compFm (F0 cd (LD n lo hi)) c11.scope [] loc) v_place (.int v) as P = P [(v_place, .int v)] as := by
  rcases hl with rfl | ⟨j, rfl⟩ <;> kernel_rfl
theorem ee11 (k : Int) (Q : PV) : lv kN 20 40 (compFm (F0 cd (LD n lo hi)) c11.scope [] [(v_place, .int k)]) c11.elt as Q = (((6 : Nat) ≤ 64 ∨ Builtin.Int.intBits k ≤ 64) ∧ Q (.int ((37 * k + 11).fmod 256)) as) := by kernel_rfl
theorem r11 (Q : PV) : lv kN 20 40 (F0 cd (LD n lo hi)) (binX (valX (stL 11))).2.2.1 as Q = Q (.int 17) as := by kernel_rfl
theorem m11 {n : Nat} (hn : n = 3 ∨ n = 4 ∨ n = 5) (z : Zp) (L : List Int) (Q : PV) : binV .Mult (.obj (7 + n)) (.int 17) (Zy n z ++ [.intx L]) Q = ((0 < L.length ∧ (0 : Int) ≤ 17 ∧ (17 : Int) < 2 ^ 62 ∧ L.length * (17 : Int).toNat ≤ 100000) ∧ Q (.obj (8 + n)) (Zz n { z with a := .intx L } ++ [.intx (repL L 17)])) := by
  rcases hn with rfl | rfl | rfl <;> kernel_rfl
theorem w11 (P : Loc → List AO → Prop) : storeW (F0 cd (LD n lo hi)) v_memory (.obj (8 + n)) as P = P (LM n lo hi) as := by kernel_rfl
theorem e12 : stL 12 = (fP 12).st := by kernel_rfl
theorem i12 {n : Nat} (hn : n = 3 ∨ n = 4 ∨ n = 5) (z : Zp) (m : List Int) (Q : Nat → Bnd → Chk → List AO → Prop) : itW kN (recL kN 20) 40 (F0 cd (LM n lo hi)) (fP 12).iter (fP 12).tg (Zz n z ++ [.intx m]) Q = gN z.c.length 1000000 ((Small 0 ∧ Small (z.c.length : Int)) ∧ Q ((z.c.length : Int) - 0).toNat (bndR v_place 0) (fun _ P => P) (Zz n z ++ [.intx m])) := by
  rcases hn with rfl | rfl | rfl <;> kernel_rfl
theorem w12a (P : Loc → List AO → Prop) : storeW (F0 cd (LM n lo hi)) v_place (.int p) as P = P (LP n lo hi p) as := by kernel_rfl
theorem w12b (q : Int) (P : Loc → List AO → Prop) : storeW (F0 cd (LP n lo hi q)) v_place (.int p) as P = P (LP n lo hi p) as := by kernel_rfl
theorem v12i {n : Nat} (hn : n = 3 ∨ n = 4 ∨ n = 5) (z : Zp) (m : List Int) (Q : PF) : lxs kN 20 40 (F0 cd (LP n lo hi p)) (forBody 12) (Zz n z ++ [.intx m]) Q = (ixP p z.c ∧ ixP (512 + p) m ∧ Q .next (LP n lo hi p) (Zz n z ++ [.ints (m.set (512 + p).toNat (z.c.getD p.toNat 0))])) := by
  rcases hn with rfl | rfl | rfl <;> kernel_rfl
theorem v12s {n : Nat} (hn : n = 3 ∨ n = 4 ∨ n = 5) (z : Zp) (m : List Int) (Q : PF) : lxs kN 20 40 (F0 cd (LP n lo hi p)) (forBody 12) (Zz n z ++ [.ints m]) Q = (ixP p z.c ∧ ixP (512 + p) m ∧ Q .next (LP n lo hi p) (Zz n z ++ [.ints (m.set (512 + p).toNat (z.c.getD p.toNat 0))])) := by
  rcases hn with rfl | rfl | rfl <;> kernel_rfl
noncomputable def pv (lo hi : Int) : Nat → Int
  | 0 => (lo - 1).fmod 256
  | 1 => (lo - 1).fdiv 256
  | 2 => lo.fmod 256
  | 3 => lo.fdiv 256
  | 4 => (hi - 1).fmod 256
  | 5 => (hi - 1).fdiv 256
  | 6 => hi.fmod 256
  | _ => hi.fdiv 256
noncomputable def g13 (lo hi : Int) : Nat → Nat → List Int → (List Int → Prop) → Prop
  | 0, _, m, Q => Q m
  | k + 1, j, m, Q => ((0 : Int) ≤ ((j / 2 : Nat) : Int) ∧ ((j / 2 : Nat) : Int) < 4 ∧ ((j / 2 : Nat) : Int) < 9223372036854775808) ∧ ((2 : Nat) ≤ 64 ∨ Builtin.Int.intBits ((j / 2 : Nat) : Int) ≤ 64) ∧ ixP ((40 + j : Nat) : Int) m ∧ g13 lo hi k (j + 1) (m.set (40 + j) (pv lo hi j)) Q
theorem v13 {n : Nat} (hn : n = 3 ∨ n = 4 ∨ n = 5) (z : Zp) (m : List Int) (Q : PF) : lxs kN 60 40 (F0 cd (LP n lo hi p)) (stG 13 15) (Zz n z ++ [.ints m]) Q = ((Small 0 ∧ Small 4) ∧ g13 lo hi 8 0 m fun m' => Q .next (LQ n lo hi 3) (Zz n z ++ [.ints m', .intx [lo - 1, lo, hi - 1, hi]])) := by
  rcases hn with rfl | rfl | rfl <;> kernel_rfl
noncomputable def ra (r : Rec) : Nat → Int
  | 0 => r.a0
  | 1 => r.a1
  | 2 => r.a2
  | 3 => r.a3
  | _ => r.a4
noncomputable def rb (r : Rec) : Nat → Int
  | 0 => r.b0
  | 1 => r.b1
  | 2 => r.b2
  | 3 => r.b3
  | _ => r.b4
noncomputable def g15 (lo hi : Int) (r : Rec) : Nat → Nat → List Int → (List Int → Prop) → Prop
  | 0, _, m, Q => Q m
  | k + 1, j, m, Q => ((0 : Int) ≤ (j : Int) ∧ (j : Int) < 9223372036854775808) ∧ ixP (lo + (j : Int)) m ∧ ixP (hi + (j : Int)) (m.set (lo + (j : Int)).toNat (ra r j)) ∧ g15 lo hi r k (j + 1) ((m.set (lo + (j : Int)).toNat (ra r j)).set (hi + (j : Int)).toNat (rb r j)) Q
theorem v15 {n : Nat} (hn : n = 3 ∨ n = 4 ∨ n = 5) (z : Zp) (m pt : List Int) (Q : PF) : lxs kN 60 40 (F0 cd (LQ n lo hi p)) (stG 15 16) (Zz n z ++ [.ints m, .intx pt]) Q = ((Small 0 ∧ Small (n : Int)) ∧ g15 lo hi z.r n 0 m fun m' => Q .next (LQ n lo hi ((n - 1 : Nat) : Int)) (Zz n z ++ [.ints m', .intx pt])) := by
  rcases hn with rfl | rfl | rfl <;> kernel_rfl
theorem v16 {n : Nat} (hn : n = 3 ∨ n = 4 ∨ n = 5) (z : Zp) (m pt : List Int) (Q : PF) : lxs kN 60 40 (F0 cd (LQ n lo hi p)) (stG 16 19) (Zz n z ++ [.ints m, .intx pt]) Q = gN m.length 100000 (((0 : Int) ≤ 8 ∧ (8 : Int) ≤ 1000000 ∧ (1 : Nat) < 18446744073709551616) ∧ ((0 : Int) ≤ 16 ∧ (16 : Int) ≤ 1000000 ∧ (1 : Nat) < 18446744073709551616) ∧ ((0 : Int) ≤ 8 ∧ (8 : Int) ≤ 1000000 ∧ (255 : Nat) < 18446744073709551616) ∧ ((0 : Int) ≤ 8 ∧ (8 : Int) ≤ 1000000 ∧ (1 : Nat) < 18446744073709551616) ∧ gN z.c.length 1000000 (Q .next (LR n lo hi p (512 + (z.c.length : Int))) (ZM n z pt m (M0 m 512)))) := by
  rcases hn with rfl | rfl | rfl <;> kernel_rfl
end
end
end Mine

end
section
open PySem PySem.W PyProof.Rows PySem.SeqAt
namespace Mine
noncomputable section
theorem iL_len (c : List Nat) : (iL c).length = c.length := List.length_map ..
theorem iL_get (c : List Nat) (k : Nat) : (iL c)[k]? = (c[k]?).map fun (b : Nat) => (b : Int) := List.getElem?_map ..
theorem iL_getD {c : List Nat} {k : Nat} (h : k < c.length) : (iL c).getD k 0 = ((c.getD k 0 : Nat) : Int) := by
  rw [List.getD_eq_getElem?_getD, iL_get, List.getD_eq_getElem?_getD, List.getElem?_eq_getElem h]; rfl
noncomputable def layF (m : Nat → Nat) (a : Nat) (c : List Nat) : Nat → Nat → Nat
  | 0 => m
  | k + 1 => up (layF m a c k) (a + k) (c.getD k 0)
theorem layF_at {m : Nat → Nat} {a : Nat} {c : List Nat} {i v : Nat} (h : c[i]? = some v) : ∀ {k}, i < k → layF m a c k (a + i) = v
  | 0, q => by lia
  | k + 1, q => by
    show up (layF m a c k) (a + k) (c.getD k 0) (a + i) = v
    by_cases z : i = k
    · subst z; rw [up_eq, List.getD_eq_getElem?_getD, h]; rfl
    · rw [up_ne (by lia)]; exact layF_at h (by lia)
noncomputable def gF : Nat → Nat := fun i => (37 * (i % 64) + 11) % 256
noncomputable def row64 : List Int := ((List.range 64).filter fun _ => true).map fun (k : Nat) => (37 * (0 + (k : Int)) + 11).fmod 256
theorem ground : row64.length = 64 ∧ repL row64 17 = memL 1088 gF := by decide +kernel
noncomputable def mo1 : Nat → List Int → AO
  | 0, l => .intx l
  | _ + 1, l => .ints l
theorem ix_ok {m : Nat → Nat} {k : Int} (a : Nat) (hk : k = a) (ha : a < 1088) : ixP k (memL 1088 m) := by
  unfold ixP; rw [memL_len, hk]; exact ⟨by exact Int.natCast_nonneg a, by exact (fun {n m} => Int.ofNat_lt.mpr) ha, by lia⟩
theorem set_c {m : Nat → Nat} {k v : Int} (a w : Nat) (hk : k = a) (hv : v = w) (ha : a < 1088) : (memL 1088 m).set k.toNat v = memL 1088 (up m a w) := by
  subst hk hv; rw [Int.toNat_natCast]; exact memL_set ha
noncomputable def pN (lo hi : Nat) : Nat → Nat
  | 0 => (lo - 1) % 256
  | 1 => (lo - 1) / 256
  | 2 => lo % 256
  | 3 => lo / 256
  | 4 => (hi - 1) % 256
  | 5 => (hi - 1) / 256
  | 6 => hi % 256
  | _ => hi / 256
theorem pv_c {lo hi : Nat} (h1 : 760 ≤ lo) (h2 : 1018 ≤ hi) (j : Nat) : pv lo hi j = (pN lo hi j : Int) := by
  have m := fun a => fmod_c a 256
  have d := fun a => fdiv_c a 256
  have e1 : (lo : Int) - 1 = ((lo - 1 : Nat) : Int) := by lia
  have e2 : (hi : Int) - 1 = ((hi - 1 : Nat) : Int) := by lia
  rcases j with _ | _ | _ | _ | _ | _ | _ | j
  · show ((lo : Int) - 1).fmod 256 = _; rw [e1]; exact m _
  · show ((lo : Int) - 1).fdiv 256 = _; rw [e1]; exact d _
  · exact m lo
  · exact d lo
  · show ((hi : Int) - 1).fmod 256 = _; rw [e2]; exact m _
  · show ((hi : Int) - 1).fdiv 256 = _; rw [e2]; exact d _
  · exact m hi
  · exact d hi
noncomputable def pF (lo hi : Nat) : Nat → Nat → (Nat → Nat) → Nat → Nat
  | 0, _, F => F
  | k + 1, j, F => pF lo hi k (j + 1) (up F (40 + j) (pN lo hi j))
theorem g13_of {lo hi : Nat} (h1 : 760 ≤ lo) (h2 : 1018 ≤ hi) {Q : List Int → Prop} : ∀ k j F, j + k ≤ 8 → Q (memL 1088 (pF lo hi k j F)) → g13 lo hi k j (memL 1088 F) Q
  | 0, _, _, _, h => h
  | k + 1, j, F, q, h => by
    refine ⟨⟨by lia, by lia, by lia⟩, .inl (by decide), ix_ok (40 + j) rfl (by lia), ?_⟩
    rw [pv_c h1 h2, memL_set (by lia)]
    exact g13_of h1 h2 k (j + 1) _ (by lia) h
noncomputable def rF (A B : Nat → Nat) (lo hi : Nat) : Nat → Nat → (Nat → Nat) → Nat → Nat
  | 0, _, F => F
  | k + 1, j, F => rF A B lo hi k (j + 1) (up (up F (lo + j) (A j)) (hi + j) (B j))
theorem ra_c (A B : Nat → Nat) {j : Nat} (h : j < 5) : ra (recN A B) j = (A j : Int) ∧ rb (recN A B) j = (B j : Int) := by
  rcases j with _ | _ | _ | _ | _ | j
  · exact ⟨rfl, rfl⟩
  · exact ⟨rfl, rfl⟩
  · exact ⟨rfl, rfl⟩
  · exact ⟨rfl, rfl⟩
  · exact ⟨rfl, rfl⟩
  · lia
theorem g15_of {A B : Nat → Nat} {lo hi : Nat} (h1 : lo ≤ 769) (h2 : hi ≤ 1025) {Q : List Int → Prop} : ∀ k j F, j + k ≤ 5 → Q (memL 1088 (rF A B lo hi k j F)) → g15 lo hi (recN A B) k j (memL 1088 F) Q
  | 0, _, _, _, h => h
  | k + 1, j, F, q, h => by
    obtain ⟨ea, eb⟩ := ra_c A B (j := j) (by lia)
    have e1 : (memL 1088 F).set ((lo : Int) + (j : Int)).toNat (A j : Int) = memL 1088 (up F (lo + j) (A j)) := set_c (lo + j) (A j) (by lia) rfl (by lia)
    have e2 : (memL 1088 (up F (lo + j) (A j))).set ((hi : Int) + (j : Int)).toNat (B j : Int) = memL 1088 (up (up F (lo + j) (A j)) (hi + j) (B j)) := set_c (hi + j) (B j) (by lia) rfl (by lia)
    refine ⟨⟨by lia, by lia⟩, ix_ok (lo + j) (by lia) (by lia), ?_, ?_⟩
    · rw [ea, e1]; exact ix_ok (hi + j) (by lia) (by lia)
    · rw [ea, eb, e1, e2]; exact g15_of h1 h2 k (j + 1) _ (by lia) h
noncomputable def lc12 (n : Nat) (lo hi : Int) : Nat → Loc
  | 0 => LM n lo hi
  | k + 1 => LP n lo hi k
section
variable {X : Cx} {cd : Value}
theorem lay_K (O : KenOK X kN) {b : ForP} {base : Nat} {c : List Nat} {F : Nat → Nat} {mo : Nat → List Int → AO} {W : Nat → AO → List AO} {lc : Nat → Loc} {Q : PF} {N : Nat} {bnd : Bnd} {chk : Chk} {as₁ : List AO} (hb : base + c.length ≤ 1088)
    (hN : N = c.length) (h1 : as₁ = W 0 (mo 0 (memL 1088 F))) (h2 : ∀ k o, chk (W k o) True)
    (h3 : ∀ k o (P : Loc → List AO → Prop), k < c.length → P (lc (k + 1)) (W (k + 1) o) → bnd (F0 cd (lc k)) k (W k o) P)
    (h4 : ∀ k m (P : PF), k < c.length → m.length = 1088 → P .next (lc (k + 1)) (W (k + 1) (mo (k + 1) (m.set (base + k) (c.getD k 0 : Nat)))) → lxs kN 20 40 (F0 cd (lc (k + 1))) b.body (W (k + 1) (mo k m)) P)
    (h5 : Q .next (lc c.length) (W c.length (mo c.length (memL 1088 (layF F base c c.length))))) :
    ∃ Inv Bd : Nat → Loc → List AO → Prop, Inv 0 (lc 0) as₁ ∧ (∀ k loc as₂, Inv k loc as₂ → chk as₂ True) ∧ (∀ k loc as₂, k < N → Inv k loc as₂ → bnd (F0 cd loc) k as₂ (Bd k)) ∧
      (∀ k loc as₂, Bd k loc as₂ → ExsS X 40 (F0 cd loc) b.body as₂ fun fl loc' as' => match fl with | .next | .cont => Inv (k + 1) loc' as' | .brk => Q .next loc' as' | .ret v => Q (.ret v) loc' as') ∧
      (∀ loc as₂, Inv N loc as₂ → Q .next loc as₂) := by
  subst hN h1
  refine ⟨fun k loc as => loc = lc k ∧ as = W k (mo k (memL 1088 (layF F base c k))), fun k loc as => k < c.length ∧ loc = lc (k + 1) ∧ as = W (k + 1) (mo k (memL 1088 (layF F base c k))), ⟨rfl, rfl⟩, ?_, ?_, ?_, ?_⟩
  · rintro k loc as ⟨rfl, rfl⟩; exact h2 _ _
  · rintro k loc as hk ⟨rfl, rfl⟩; exact h3 _ _ _ hk ⟨hk, rfl, rfl⟩
  · rintro k loc as ⟨hk, rfl, rfl⟩
    refine (specX O 20).exs 40 _ _ _ _ (h4 k _ _ hk (memL_len _ _) ?_)
    refine ⟨rfl, ?_⟩
    rw [memL_set (by lia)]; rfl
  · rintro loc as ⟨rfl, rfl⟩; exact h5
theorem part11 (O : KenOK X kN) {Q : PF} {n : Nat} (hn : n = 3 ∨ n = 4 ∨ n = 5) {z : Zp} {lo hi : Int} (h : Q .next (LM n lo hi) (Zz n { z with a := .intx row64 } ++ [.intx (memL 1088 gF)])) : ExS X 40 (F0 cd (LD n lo hi)) (stL 11) (Zy n z) Q := by
  rw [e11]
  refine st_name n11 (binV_ok (ev_cmpP (cmpW O (n := 20) ok11 cl11 (Eq.mpr (it11 cd n lo hi _ _) ⟨⟨⟨by decide, by decide⟩, ⟨by decide, by decide⟩⟩, ?_⟩))))
  refine ⟨by decide, fun k => (37 * (0 + (k : Int)) + 11).fmod 256, fun _ => true, fun k => [(v_place, .int (0 + (k : Int)))], fun _ => trivial, fun j loc ys P hj hl hP => ?_, fun j ys hj => ?_, fun j ys hj _ => ?_, ?_⟩
  · exact Eq.mpr (bd11 cd n lo hi _ loc _ P (hl.imp id fun ⟨j, h⟩ => ⟨_, h⟩)) hP
  · rw [if11]; exact ⟨rfl, rfl⟩
  · exact (specL O 20).ev 40 _ _ _ _ (Eq.mpr (ee11 cd n lo hi _ _ _) ⟨.inl (by decide), rfl, rfl⟩)
  · refine (specL O 20).ev 40 _ _ _ _ (Eq.mpr (r11 cd n lo hi _ _) ?_)
    have hl : (Zy n z).length = 7 + n := by rcases hn with rfl | rfl | rfl <;> rfl
    rw [hl]
    refine Eq.mpr (m11 hn z row64 _) ⟨by rw [ground.1]; decide, ?_⟩
    rw [ground.2]
    exact Eq.mpr (w11 cd n lo hi _ _) h
theorem part12 (O : KenOK X kN) {Q : PF} {n : Nat} (hn : n = 3 ∨ n = 4 ∨ n = 5) {z : Zp} {lo hi : Int} {c : List Nat} {F : Nat → Nat} (hz : z.c = iL c) (hc : 512 + c.length ≤ 1088) (h0 : 0 < c.length)
    (h : Q .next (LP n lo hi (c.length - 1 : Nat)) (Zz n z ++ [.ints (memL 1088 (layF F 512 c c.length))])) : ExS X 40 (F0 cd (LM n lo hi)) (stL 12) (Zz n z ++ [.intx (memL 1088 F)]) Q := by
  rw [e12]
  refine forW O (n := 20) (Eq.mpr (i12 cd lo hi hn z _ _) ?_)
  have hl : z.c.length = c.length := by rw [hz, iL_len]
  refine gN_in (by lia) ⟨⟨⟨by decide, by decide⟩, by rw [hl]; exact ⟨by (clear h0; exact Int.neg_ofNat_le_natCast (2 ^ 62) c.length), by lia⟩⟩, lay_K O (cd := cd) (b := fP 12) (base := 512) (Q := Q) (N := ((z.c.length : Int) - 0).toNat) (bnd := bndR v_place 0) (chk := fun _ P => P) (c := c) (F := F) (mo := mo1) (W := fun _ mo => Zz n z ++ [mo]) (lc := lc12 n lo hi) hc (by rw [hl]; exact lenZ c.length) rfl (fun _ _ => trivial) (fun k oo P hk hP => ?_) (fun k m P hk hm hP => ?_) ?_⟩
  · show storeW (F0 cd (lc12 n lo hi k)) v_place (.int (0 + k)) _ P
    rw [Int.zero_add]
    cases k with
    | zero => exact Eq.mpr (w12a cd n lo hi _ _ P) hP
    | succ k => exact Eq.mpr (w12b cd n lo hi _ _ _ P) hP
  · have c1 : ixP (k : Int) z.c := by unfold ixP; rw [hl]; exact ⟨by exact Int.natCast_nonneg k, by exact (fun {n m} => Int.ofNat_lt.mpr) hk, by lia⟩
    have c2 : ixP (512 + (k : Int)) m := by unfold ixP; rw [hm]; exact ⟨by exact Int.zero_le_ofNat (512 + k), by lia, by lia⟩
    have e1 : m.set (512 + (k : Int)).toNat (z.c.getD (k : Int).toNat 0) = m.set (512 + k) (c.getD k 0 : Nat) := by
      rw [show (512 + (k : Int)).toNat = 512 + k by exact Eq.symm (Nat.add_zero (Nat.add 512 k)), Int.toNat_natCast, hz, iL_getD hk]
    cases k with
    | zero => exact Eq.mpr (v12i cd lo hi _ hn z m P) ⟨c1, c2, by rw [e1]; exact hP⟩
    | succ k => exact Eq.mpr (v12s cd lo hi _ hn z m P) ⟨c1, c2, by rw [e1]; exact hP⟩
  · obtain ⟨n, hn⟩ : ∃ n, c.length = n + 1 := ⟨c.length - 1, by lia⟩
    rw [hn] at h ⊢
    exact h
noncomputable def inF (A B : Nat → Nat) (lo hi n : Nat) (F : Nat → Nat) : Nat → Nat := rF A B lo hi n 0 (pF lo hi 8 0 F)
theorem part13 (O : KenOK X kN) {Q : PF} {n : Nat} (hn : n = 3 ∨ n = 4 ∨ n = 5) {z : Zp} {lo hi : Nat} {p : Int} {A B : Nat → Nat} {F : Nat → Nat} (hr : z.r = recN A B) (hc : z.c.length ≤ 1000) (l1 : 760 ≤ lo) (l2 : lo ≤ 769) (h1 : 1018 ≤ hi) (h2 : hi ≤ 1025)
    (h : ∀ p pt, Q .next (LR n lo hi p (512 + (z.c.length : Int))) (ZM n z pt (memL 1088 (inF A B lo hi n F)) (ms 1088 (st0 (inF A B lo hi n F)) ⟨0, 0, .bool false, .int 512⟩))) :
    ExsS X 40 (F0 cd (LP n lo hi p)) (stG 13 15 ++ (stG 15 16 ++ stG 16 19)) (Zz n z ++ [.ints (memL 1088 F)]) Q := by
  refine exs_app ((specX O 60).exs 40 _ _ _ _ (Eq.mpr (v13 cd lo hi p hn z _ _) ⟨⟨⟨by decide, by decide⟩, ⟨by decide, by decide⟩⟩, g13_of l1 h1 8 0 _ (by decide) ?_⟩))
  refine exs_app ((specX O 60).exs 40 _ _ _ _ (Eq.mpr (v15 cd lo hi _ hn z _ _ _) ⟨⟨⟨by decide, by decide⟩, ⟨by lia, by lia⟩⟩, ?_⟩))
  rw [hr]
  refine g15_of l2 h2 n 0 _ (by lia) ?_
  refine (specX O 60).exs 40 _ _ _ _ (Eq.mpr (v16 cd lo hi _ hn z _ _ _) (gN_in (by rw [memL_len]; decide) ⟨by decide, by decide, by decide, by decide, gN_in (by lia) ?_⟩))
  exact h _ _
end
end
end Mine

end
section
open PySem PySem.W PyProof.Rows PySem.SeqAt
namespace Mine
noncomputable section
section
variable {lo hi : Nat} {A B : Nat → Nat}
theorem pF_out {i : Nat} : ∀ k j F, (i < 40 + j ∨ 40 + j + k ≤ i) → pF lo hi k j F i = F i
  | 0, _, _, _ => rfl
  | k + 1, j, F, h => by
    show pF lo hi k (j + 1) (up F (40 + j) (pN lo hi j)) i = F i
    rw [pF_out k (j + 1) _ (by lia), up_ne (by lia)]
theorem pF_at {i : Nat} : ∀ k j F, j ≤ i → i < j + k → pF lo hi k j F (40 + i) = pN lo hi i
  | 0, _, _, h, g => by lia
  | k + 1, j, F, h, g => by
    show pF lo hi k (j + 1) (up F (40 + j) (pN lo hi j)) (40 + i) = _
    by_cases q : j = i
    · subst q; rw [pF_out k (j + 1) _ (by lia), up_eq]
    · exact pF_at k (j + 1) _ (by lia) (by lia)
theorem rF_out {i : Nat} : ∀ k j F, (∀ t, j ≤ t → t < j + k → i ≠ lo + t ∧ i ≠ hi + t) → rF A B lo hi k j F i = F i
  | 0, _, _, _ => rfl
  | k + 1, j, F, h => by
    show rF A B lo hi k (j + 1) (up (up F (lo + j) (A j)) (hi + j) (B j)) i = F i
    have g := h j (Nat.le_refl j) (by lia)
    rw [rF_out k (j + 1) _ (fun t a b => h t (by lia) (by lia)), up_ne g.2, up_ne g.1]
theorem rF_at {i : Nat} (d : lo + 6 ≤ hi) : ∀ k j F, j + k ≤ 5 → j ≤ i → i < j + k → rF A B lo hi k j F (lo + i) = A i ∧ rF A B lo hi k j F (hi + i) = B i
  | 0, _, _, _, h, g => by lia
  | k + 1, j, F, q5, h, g => by
    show rF A B lo hi k (j + 1) (up (up F (lo + j) (A j)) (hi + j) (B j)) (lo + i) = _ ∧ rF A B lo hi k (j + 1) (up (up F (lo + j) (A j)) (hi + j) (B j)) (hi + i) = _
    by_cases q : j = i
    · subst q
      rw [rF_out (i := lo + j) k (j + 1) _ (fun t a b => by lia), rF_out (i := hi + j) k (j + 1) _ (fun t a b => by lia), up_ne (by lia), up_eq, up_eq]
      exact ⟨rfl, rfl⟩
    · exact rF_at d k (j + 1) _ (by lia) (by lia) (by lia)
theorem up_lt {F : Nat → Nat} {k v : Nat} (h1 : ∀ i, F i < 256) (h2 : v < 256) (i : Nat) : up F k v i < 256 := by
  by_cases z : i = k
  · subst z; rw [up_eq]; exact h2
  · rw [up_ne z]; exact h1 i
theorem layF_lt {F : Nat → Nat} {a : Nat} {c : List Nat} (h : ∀ i, F i < 256) (hc : ∀ x ∈ c, x < 256) : ∀ k i, layF F a c k i < 256
  | 0, i => h i
  | k + 1, i => up_lt (layF_lt h hc k) (by
      rw [List.getD_eq_getElem?_getD]
      cases e : c[k]? with
      | none => show 0 < 256; decide
      | some v => exact hc v (List.mem_of_getElem? e)) i
theorem pN_lt (l2 : lo ≤ 769) (h2 : hi ≤ 1025) (j : Nat) : pN lo hi j < 256 := by
  rcases j with _ | _ | _ | _ | _ | _ | _ | j
  · exact Nat.mod_lt _ (by decide)
  · show (lo - 1) / 256 < 256; lia
  · exact Nat.mod_lt _ (by decide)
  · show lo / 256 < 256; lia
  · exact Nat.mod_lt _ (by decide)
  · show (hi - 1) / 256 < 256; lia
  · exact Nat.mod_lt _ (by decide)
  · show hi / 256 < 256; lia
theorem pF_lt (l2 : lo ≤ 769) (h2 : hi ≤ 1025) : ∀ k j F, (∀ i, F i < 256) → ∀ i, pF lo hi k j F i < 256
  | 0, _, _, h => h
  | k + 1, j, F, h => pF_lt l2 h2 k (j + 1) _ (up_lt h (pN_lt l2 h2 j))
theorem rF_lt (hA : ∀ i, A i < 256) (hB : ∀ i, B i < 256) : ∀ k j F, (∀ i, F i < 256) → ∀ i, rF A B lo hi k j F i < 256
  | 0, _, _, h => h
  | k + 1, j, F, h => rF_lt hA hB k (j + 1) _ (up_lt (up_lt h (hA j)) (hB j))
noncomputable def zN (t : Nat → Nat) (c : Nat) : Nat := match Nat.blt c 1000 with | true => c | false => t (c - 1000)
theorem tN_lt (l2 : lo ≤ 769) (h2 : hi ≤ 1025) (j : Nat) : tN lo hi j < 256 := by
  rcases j with _ | _ | _ | _ | _ | _ | _ | j
  · exact Nat.mod_lt _ (by decide)
  · show lo / 256 < 256; lia
  · exact Nat.mod_lt _ (by decide)
  · show (lo + 1) / 256 < 256; lia
  · exact Nat.mod_lt _ (by decide)
  · show hi / 256 < 256; lia
  · exact Nat.mod_lt _ (by decide)
  · show (hi + 1) / 256 < 256; lia
theorem codeU_N {n : Nat} (hn : n = 3 ∨ n = 4 ∨ n = 5) (w s f : Bool) (lo hi : Nat) : codeU w s f n lo hi = (codeM w s f (n - 1) 1000 1001 1002 1003 1004 1005 1006 1007).map (zN (tN lo hi)) := by
  rcases hn with rfl | rfl | rfl <;> cases w <;> cases s <;> cases f <;> kernel_rfl
theorem codeM_ok {n : Nat} (hn : n = 3 ∨ n = 4 ∨ n = 5) (w s f : Bool) : (codeM w s f (n - 1) 1000 1001 1002 1003 1004 1005 1006 1007).all (fun c => Nat.blt c 256 || Nat.ble 1000 c) = true := by
  rcases hn with rfl | rfl | rfl <;> cases w <;> cases s <;> cases f <;> kernel_rfl
theorem codeI_ok {n : Nat} (hn : n = 3 ∨ n = 4 ∨ n = 5) (w s f : Bool) : (codeI w s f n).all (fun c => Nat.blt c 256) = true := by
  rcases hn with rfl | rfl | rfl <;> cases w <;> cases s <;> cases f <;> kernel_rfl
theorem code_lt {n : Nat} (hn : n = 3 ∨ n = 4 ∨ n = 5) (b w s f : Bool) (l2 : lo ≤ 769) (h2 : hi ≤ 1025) : ∀ x ∈ codeP b w s f n lo hi, x < 256 := by
  intro x hx
  cases b with
  | false => exact Nat.le_of_ble_eq_true (List.all_eq_true.mp (codeI_ok hn w s f) x hx)
  | true =>
    have hx : x ∈ codeU w s f n lo hi := hx
    rw [codeU_N hn] at hx
    obtain ⟨c, hc, rfl⟩ := List.mem_map.mp hx
    have k := List.all_eq_true.mp (codeM_ok hn w s f) c hc
    unfold zN
    cases q : Nat.blt c 1000 with
    | true =>
      rcases Bool.or_eq_true_iff.mp k with k | k
      · exact Nat.le_of_ble_eq_true k
      · exact absurd (Nat.le_of_ble_eq_true k) (Nat.not_le_of_lt (Nat.le_of_ble_eq_true q))
    | false => exact tN_lt l2 h2 _
theorem code_len {n : Nat} (hn : n = 3 ∨ n = 4 ∨ n = 5) (b w s f : Bool) (lo hi : Nat) : (Nat.blt 0 (codeP b w s f n lo hi).length && Nat.ble (codeP b w s f n lo hi).length 100) = true := by
  rcases hn with rfl | rfl | rfl <;> cases b <;> cases w <;> cases s <;> cases f <;> kernel_rfl
structure Fnd (b w s f : Bool) (n lo hi : Nat) (A B M : Nat → Nat) : Prop where
  wf : WF (codeP b w s f n lo hi) 1088 (st0 M)
  pt : Pt lo hi M
  row : ∀ i, i < n → M (lo + i) = A i ∧ M (hi + i) = B i
theorem fnd5 {n : Nat} (hn : n = 3 ∨ n = 4 ∨ n = 5) (b w s f : Bool) (l1 : 760 ≤ lo) (l2 : lo ≤ 769) (h1 : 1018 ≤ hi) (h2 : hi ≤ 1025) (hA : ∀ i, A i < 256) (hB : ∀ i, B i < 256) :
    Fnd b w s f n lo hi A B (inF A B lo hi n (layF gF 512 (codeP b w s f n lo hi) (codeP b w s f n lo hi).length)) := by
  have cl := code_lt hn b w s f l2 h2
  have ln := code_len hn b w s f lo hi
  have ln := Nat.le_of_ble_eq_true (Bool.and_eq_true_iff.mp ln).2
  have n5 : n ≤ 5 := by lia
  have low : ∀ F i, i < 700 → inF A B lo hi n F i = pF lo hi 8 0 F i := fun F i h => rF_out _ _ _ fun t _ ht => by lia
  refine ⟨⟨show (0 : Nat) < 256 by decide, show (0 : Nat) < 256 by decide, show (0 : Nat) < 256 by decide, show (255 : Nat) < 256 by decide, rF_lt hA hB _ _ _ (pF_lt l2 h2 _ _ _ (layF_lt (fun i => Nat.mod_lt _ (by decide)) cl _)), fun i x hx => ?_, by lia, by decide, ?_⟩, ?_, fun i hin => rF_at (by lia) _ _ _ (by lia) (Nat.zero_le _) (by lia)⟩
  · have hil : i < (codeP b w s f n lo hi).length := (List.getElem?_eq_some_iff.mp hx).1
    show inF A B lo hi n _ (512 + i) = x
    rw [low _ _ (by lia), pF_out _ _ _ (by lia)]
    exact layF_at hx hil
  · show (512 : Nat) ≤ 60000; decide
  · have g := fun j (hj : j < 8) => (low (layF gF 512 (codeP b w s f n lo hi) (codeP b w s f n lo hi).length) (40 + j) (by lia)).trans (pF_at 8 0 _ (Nat.zero_le j) (by lia))
    have g0 := g 0 (by decide)
    have g1 := g 1 (by decide)
    have g2 := g 2 (by decide)
    have g3 := g 3 (by decide)
    have g4 := g 4 (by decide)
    have g5 := g 5 (by decide)
    have g6 := g 6 (by decide)
    have g7 := g 7 (by decide)
    have e1 : (lo - 1) % 256 + 256 * ((lo - 1) / 256) = lo - 1 := Nat.mod_add_div _ _
    have e2 : lo % 256 + 256 * (lo / 256) = lo := Nat.mod_add_div _ _
    have e3 : (hi - 1) % 256 + 256 * ((hi - 1) / 256) = hi - 1 := Nat.mod_add_div _ _
    have e4 : hi % 256 + 256 * (hi / 256) = hi := Nat.mod_add_div _ _
    exact ⟨by rw [g0, g1]; show (lo - 1) % 256 + 256 * ((lo - 1) / 256) + 1 = lo; rw [e1]; lia, by rw [g2, g3]; exact e2, by rw [g4, g5]; show (hi - 1) % 256 + 256 * ((hi - 1) / 256) + 1 = hi; rw [e3]; lia, by rw [g6, g7]; exact e4⟩
theorem run_P {n : Nat} (hn : n = 3 ∨ n = 4 ∨ n = 5) {b w s f : Bool} (l1 : 760 ≤ lo) (l2 : lo ≤ 769) (h1 : 1018 ≤ hi) (h2 : hi ≤ 1025) {M : Nat → Nat} (F : Fnd b w s f n lo hi A B M) {c : Nat → Nat → Bool} {r : List Nat}
    (hc : ∀ i j, i < n → j < n → c i j = decide (key5 w s f A B i < key5 w s f A B j)) (hi' : insAlg c n = r) (hu : bubAlg c n = some r) :
    Wi (codeP b w s f n lo hi) 1088 499 (st0 M) (End5 (512 + (codeP b w s f n lo hi).length) n lo hi M r) := by
  have Z : Lie n lo hi := ⟨by lia, by lia, l1, l2, h1, h2⟩
  have ky : ∀ i, i < n → key5 w s f (tA M lo) (tA M hi) i = key5 w s f A B i := fun i h => by
    obtain ⟨a, e⟩ := F.row i h
    unfold key5 tA
    rw [a, e]
  have hc' : ∀ i j, i < n → j < n → c i j = decide (key5 w s f (tA M lo) (tA M hi) i < key5 w s f (tA M lo) (tA M hi) j) := fun i j a e => by rw [ky i a, ky j e]; exact hc i j a e
  cases b with
  | false => exact run_I Z F.pt hc' hi'
  | true => exact run_U Z hc' hu
end
end
end Mine

end
section
open PySem PySem.W PyProof.Rows PySem.SeqAt
namespace Mine
noncomputable section
noncomputable abbrev LT (n : Nat) (lo hi p en ct : Int) : Loc := LR n lo hi p en ++ [(v_count, .int ct)]
theorem e19 : stL 19 = (fP 19).st := by kernel_rfl
section
variable (cd : Value) (n : Nat) (lo hi p en ct : Int) (as : List AO)
theorem i19 (Q : Nat → Bnd → Chk → List AO → Prop) : itW kN (recL kN 20) 40 (F0 cd (LR n lo hi p en)) (fP 19).iter (fP 19).tg as Q = ((Small 0 ∧ Small 500) ∧ Q 500 (bndR v_count 0) (fun _ P => P) as) := by kernel_rfl
theorem w19a (P : Loc → List AO → Prop) : storeW (F0 cd (LR n lo hi p en)) v_count (.int ct) as P = P (LT n lo hi p en ct) as := by kernel_rfl
theorem w19b (c' : Int) (P : Loc → List AO → Prop) : storeW (F0 cd (LT n lo hi p en c')) v_count (.int ct) as P = P (LT n lo hi p en ct) as := by kernel_rfl
theorem v19 {n : Nat} (hn : n = 3 ∨ n = 4 ∨ n = 5) (z : Zp) (pt pl : List Int) (M : MS) (Q : PF) : lxs kN 30 40 (F0 cd (LT n lo hi p en ct)) (forBody 19) (ZM n z pt pl M) Q = ifB (M.pc == en) (Q .brk (LT n lo hi p en ct) (ZM n z pt pl M)) (stepP [.obj (12 + n)] (ZM n z pt pl M) fun _ as' => Q .next (LT n lo hi p en ct) as') := by
  rcases hn with rfl | rfl | rfl <;> kernel_rfl
end
section
variable {X : Cx} {cd : Value} {Q : PF}
theorem part19 (O : KenOK X kN) {n : Nat} (hn : n = 3 ∨ n = 4 ∨ n = 5) {z : Zp} {pt pl : List Int} {lo hi p : Int} {en : Nat} {L : List Nat} {c0 c' : Co} {e0 e' : Ee} {k : Nat} (hk : k < 500) (hr : Runs L 1088 k c0 e0 c' e') (f0 : FE e0) (hpc : c'.pc = en) (hL : 512 + L.length = en)
    (hQ : ∀ ct, Q .next (LT n lo hi p en ct) (ZM n z pt pl (ms 1088 c' e'))) : ExS X 40 (F0 cd (LR n lo hi p en)) (stL 19) (ZM n z pt pl (ms 1088 c0 e0)) Q := by
  rw [e19]
  refine forW O (n := 20) (Eq.mpr (i19 cd n lo hi p en _ _) ⟨⟨⟨by decide, by decide⟩, ⟨by decide, by decide⟩⟩, ?_⟩)
  refine ⟨fun j loc as => (loc = LR n lo hi p en ∨ ∃ ct, loc = LT n lo hi p en ct) ∧ ∃ cj ej i, FE ej ∧ Runs L 1088 i cj ej c' e' ∧ j + i = k ∧ as = ZM n z pt pl (ms 1088 cj ej),
      fun j loc as => (∃ ct, loc = LT n lo hi p en ct) ∧ ∃ cj ej i, FE ej ∧ Runs L 1088 i cj ej c' e' ∧ j + i = k ∧ as = ZM n z pt pl (ms 1088 cj ej), ⟨.inl rfl, c0, e0, k, f0, hr, Nat.zero_add _, rfl⟩, fun _ _ _ _ => trivial, ?_, ?_, ?_⟩
  · rintro j loc as hj ⟨(rfl | ⟨ct, rfl⟩), r⟩
    · exact Eq.mpr (w19a cd n lo hi p en _ _ _) ⟨⟨_, rfl⟩, r⟩
    · exact Eq.mpr (w19b cd n lo hi p en _ _ _ _) ⟨⟨_, rfl⟩, r⟩
  · rintro j loc as ⟨⟨ct, rfl⟩, cj, ej, i', fj, rj, ij, rfl⟩
    refine (specX O 30).exs 40 (F0 cd (LT n lo hi p en ct)) (forBody 19) _ _ ?_
    refine Eq.mpr (v19 cd lo hi p en ct hn z pt pl (ms 1088 cj ej) _) ?_
    cases rj with
    | nil =>
      rw [show ((ms 1088 c' e').pc == (en : Int)) = true by show ((c'.pc : Int) == (en : Int)) = true; rw [hpc]; exact beq_self_eq_true _]
      exact ifB_t (hQ ct)
    | @cons i _ _ c2 e2 _ _ h1 h2 f1 f2 sp rest =>
      have hne : ((ms 1088 cj ej).pc == (en : Int)) = false := by
        show ((cj.pc : Int) == (en : Int)) = false
        rw [beq_eq_false_iff_ne]; lia
      rw [hne]
      refine ifB_f ⟨12 + n, 11 + n, 8 + n, ms 1088 cj ej, ms 1088 c2 e2, rfl, ?_, ?_, ?_, ⟨f1.1, f1.2, f2.1, f2.2⟩, sp, .inr ⟨ct, rfl⟩, c2, e2, i, f2, rest, by lia, ?_⟩
      all_goals (rcases hn with rfl | rfl | rfl <;> rfl)
  · rintro loc as ⟨_, cj, ej, i', _, rj, ij, rfl⟩
    omega
end
end
end Mine

end
section
open PySem PySem.W PyProof.Rows
namespace Mine
noncomputable section
structure MpuB (h : Heap) (es : Array DictEntry) (n : Nat) : Prop where
  cls : h.get? 1428 = some clsO
  nso : h.get? 1427 = some ⟨.type "dict", none, .dict es n, #[]⟩
  look : allNames.map (fun x => (lookIn x ⟨.type "dict", none, .dict es n, #[]⟩).map (Option.map bare)) = allVals
  fns : ∀ x ∈ metNames, h.get? x.2.2 = some (fObj x.2.1 x.2.2)
  codes : ∀ x ∈ metNames, ∃ o, h.get? (x.2.2 - 1) = some o ∧ codeQ o = some (fQual x.2.1)
  tabs : ∀ (i : Nat) (x : Str × Addr), tabNames[i]? = some x → ∃ o, h.get? x.2 = some o ∧ some (seqOf o) = tabVals[i]?
  dflt : ∃ o, h.get? 29 = some o ∧ seqOf o = some (.type "tuple", [.none, .int 0 0])
  code : ∃ o, h.get? 84 = some o ∧ codeHd o = some (.type "code", [some (.int 3 0), some (.bool true), some (.int 181 0), some (.ref 80), some (.str fileS 0)])
noncomputable def KF (es : Array DictEntry) (n : Nat) (o1 o2 o3 : Obj) : Frag :=
  (1428, clsO) :: (1427, ⟨.type "dict", none, .dict es n, #[]⟩) :: (1423, o1) :: (1424, o2) :: (1425, o3) :: methNames.map fun x => (x.2.2, fObj x.2.1 x.2.2)
theorem lookup_in {K : Frag} : ∀ {a : Addr} {o : Obj}, K.lookup a = some o → (a, o) ∈ K := by
  intro a o e
  induction K with
  | nil => cases e
  | cons p r ih =>
    obtain ⟨b, x⟩ := p
    rw [List.lookup_cons] at e
    cases q : a == b with
    | true => rw [q] at e; cases e; rw [eq_of_beq q]; exact .head _
    | false => rw [q] at e; exact .tail _ (ih e)
theorem KF_in {h : Heap} {es : Array DictEntry} {n : Nat} (M : MpuB h es n) {o1 o2 o3 : Obj} (h1 : h.get? 1423 = some o1) (h2 : h.get? 1424 = some o2) (h3 : h.get? 1425 = some o3) : (KF es n o1 o2 o3).In h := by
  intro a o e
  have m := lookup_in e
  unfold KF at m
  simp only [List.mem_cons, Prod.mk.injEq, List.mem_map] at m
  rcases m with ⟨rfl, rfl⟩ | ⟨rfl, rfl⟩ | ⟨rfl, rfl⟩ | ⟨rfl, rfl⟩ | ⟨rfl, rfl⟩ | ⟨x, hx, rfl, rfl⟩
  · exact M.cls
  · exact M.nso
  · exact h1
  · exact h2
  · exact h3
  · exact M.fns x (List.mem_append_left _ hx)
theorem KF_fn (es : Array DictEntry) (n : Nat) (o1 o2 o3 : Obj) : methNames.map (fun x => (KF es n o1 o2 o3).lookup x.2.2) = methNames.map fun x => some (fObj x.2.1 x.2.2) := by kernel_rfl
theorem fObj_cls : methNames.map (fun x => (fObj x.2.1 x.2.2).cls) = methNames.map fun _ => Value.type "function" := by kernel_rfl
section
variable {es : Array DictEntry} {n : Nat} {o1 o2 o3 : Obj}
noncomputable abbrev nsD (es : Array DictEntry) (n : Nat) : Obj := ⟨.type "dict", none, .dict es n, #[]⟩
theorem fnd (x : Str) : findIn (KF es n o1 o2 o3) (.ref 1428) x = match lookIn x (nsD es n) with
    | some (some v) => some (some v)
    | some none => (match fastBuiltinOwn "object" x with | some v => some (some v) | none => some none)
    | none => none := by
  have e1 : findIn (KF es n o1 o2 o3) (.ref 1428) x = alongIn (KF es n o1 o2 o3) x [.ref 1428, .type "object"] := rfl
  have e2 : ownIn (KF es n o1 o2 o3) x (.ref 1428) = lookIn x (nsD es n) := rfl
  rw [e1]
  unfold alongIn
  rw [e2]
  rcases lookIn x (nsD es n) with _ | _ | v
  · rfl
  · unfold alongIn
    have e3 : ownIn (KF es n o1 o2 o3) x (.type "object") = some (fastBuiltinOwn "object" x) := rfl
    rw [e3]
    cases fastBuiltinOwn "object" x <;> rfl
  · rfl
theorem bare_int {v : Value} {i : Int} (h : bare v = .int i 0) : ∃ t, v = .int i t := by
  cases v <;> simp [bare] at h
  rename_i j t; exact ⟨t, by rw [h]⟩
theorem bare_ref {v : Value} {a : Addr} (h : bare v = .ref a) : v = .ref a := by
  cases v <;> simp [bare] at h
  rw [h]
theorem lk_mem {α : Type} : ∀ {l : List (Str × α)} {x : Str} {a : α}, lk l x = some a → (x, a) ∈ l
  | (y, v) :: r, x, a, h => by
    unfold lk at h
    split at h
    · rename_i q; cases h; rw [seq_iff.mp q]; exact .head _
    · exact .tail _ (lk_mem h)
theorem hasN_mem : ∀ {l : List Str} {x : Str}, hasN l x = true → x ∈ l
  | y :: r, x, h => by
    unfold hasN at h
    split at h
    · rename_i q; rw [seq_iff.mp q]; exact .head _
    · exact .tail _ (hasN_mem h)
theorem looks4 {h : Heap} (M : MpuB h es n) : (∀ p ∈ cstNames, (lookIn p.1 (nsD es n)).map (Option.map bare) = some (some (.int p.2 0))) ∧ (∀ p ∈ methNames, (lookIn p.1 (nsD es n)).map (Option.map bare) = some (some (.ref p.2.2))) ∧
    (∀ p ∈ tabNames, (lookIn p.1 (nsD es n)).map (Option.map bare) = some (some (.ref p.2))) ∧ (∀ p ∈ absNames, (lookIn p (nsD es n)).map (Option.map bare) = some none) := by
  have L := M.look
  unfold allNames allVals at L
  simp only [List.map_append, List.map_map] at L
  obtain ⟨L, L4⟩ := List.append_inj' L (by simp)
  obtain ⟨L, L3⟩ := List.append_inj' L (by simp)
  obtain ⟨L1, L2⟩ := List.append_inj' L (by simp)
  exact ⟨fun p hp => map_all L1 p hp, fun p hp => map_all L2 p hp, fun p hp => map_all L3 p hp, fun p hp => map_all L4 p hp⟩
theorem look_some {x : Str} {b : Value} (h : (lookIn x (nsD es n)).map (Option.map bare) = some (some b)) : ∃ v, lookIn x (nsD es n) = some (some v) ∧ bare v = b := by
  cases q : lookIn x (nsD es n) with
  | none => rw [q] at h; cases h
  | some r =>
    rw [q] at h
    cases r with
    | none => cases h
    | some v => exact ⟨v, rfl, by simpa using h⟩
theorem look_none {x : Str} (h : (lookIn x (nsD es n)).map (Option.map bare) = some none) : lookIn x (nsD es n) = some none := by
  cases q : lookIn x (nsD es n) with
  | none => rw [q] at h; cases h
  | some r =>
    rw [q] at h
    cases r with
    | none => rfl
    | some v => cases h
theorem att_abs : attNames.all (fun x => hasN absNames x) = true := by kernel_rfl
theorem att_obj : attNames.map (fastBuiltinOwn "object") = attNames.map fun _ => none := by kernel_rfl
theorem fnd_abs {h : Heap} (M : MpuB h es n) {x : Str} (hx : x ∈ absNames) : findIn (KF es n o1 o2 o3) (.ref 1428) x = (match fastBuiltinOwn "object" x with | some v => some (some v) | none => some none) := by
  rw [fnd, look_none ((looks4 M).2.2.2 x hx)]
theorem sp_int (K : Frag) (i : Int) (t : Tok) : specialIn K (.int i t) "__get__" = some none := by kernel_rfl
theorem sp_fn (K : Frag) : findIn K (.type "function") "__get__" = some (some (.builtin "function.__get__")) ∧ findIn K (.type "function") "__set__" = some none ∧ findIn K (.type "function") "__delete__" = some none ∧ findIn K (.type "list") "__get__" = some none := ⟨by kernel_rfl, by kernel_rfl, by kernel_rfl, by kernel_rfl⟩
theorem cop_c : cstNames.all (fun p => !copiedNames.contains p.1) = true := by kernel_rfl
theorem cop_m : methNames.all (fun p => !copiedNames.contains p.1) = true := by kernel_rfl
theorem cop_t : tabNames.all (fun p => !copiedNames.contains p.1) = true := by kernel_rfl
theorem ns_all {α : Type} {l : List α} {f : α → Bool} (h : l.all (fun p => !f p) = true) {p : α} (hp : p ∈ l) : f p = false := by
  have := List.all_eq_true.mp h p hp
  simpa using this
theorem ty_fn {x : Str × Nat × Nat} (hx : x ∈ methNames) : typeIn (KF es n o1 o2 o3) (.ref x.2.2) = some (.type "function") := by
  show ((KF es n o1 o2 o3).lookup x.2.2).map (·.cls) = _
  rw [map_all (KF_fn es n o1 o2 o3) x hx]
  show some (fObj x.2.1 x.2.2).cls = _
  rw [map_all fObj_cls x hx]
theorem dunders : hasN absNames "__getattribute__" = true ∧ hasN absNames "__getattr__" = true ∧ hasN absNames "__setattr__" = true ∧ hasN absNames "__call__" = true := ⟨by kernel_rfl, by kernel_rfl, by kernel_rfl, by kernel_rfl⟩
theorem dobj : fastBuiltinOwn "object" "__getattribute__" = some (.builtin "object.__getattribute__") ∧ fastBuiltinOwn "object" "__getattr__" = none ∧ fastBuiltinOwn "object" "__setattr__" = some (.builtin "object.__setattr__") := ⟨by kernel_rfl, by kernel_rfl, by kernel_rfl⟩
theorem cf_ok {h : Heap} (M : MpuB h es n) : CF (KF es n o1 o2 o3) 1428 := by
  refine ⟨?_, rfl, ?_, by kernel_rfl⟩
  · unfold plainGet
    rw [fnd_abs M (hasN_mem dunders.1), fnd_abs M (hasN_mem dunders.2.1), dobj.1, dobj.2.1]; rfl
  · rw [fnd_abs M (hasN_mem dunders.2.2.1), dobj.2.2]
theorem seq_is {o : Obj} {c : Value} {vs : List Value} (h : seqOf o = some (c, vs)) : o.cls = c ∧ ∃ xs m, o.data = .seq xs m ∧ xs.toList.map bare = vs := by
  unfold seqOf at h
  split at h
  · rename_i xs m e
    simp only [Option.some.injEq, Prod.mk.injEq] at h
    exact ⟨h.1, xs, m, e, h.2⟩
  · cases h
theorem vrs_ref : ∀ {l : List Addr} {vs : List Value}, vs.map bare = l.map Value.ref → VRs [] (l.map AV.addr) vs
  | [], [], _ => .nil
  | [], _ :: _, h => by cases h
  | _ :: _, [], h => by cases h
  | a :: l, v :: vs, h => by
    simp only [List.map_cons, List.cons.injEq] at h
    exact .cons (show v = .ref a from bare_ref h.1) (vrs_ref h.2)
theorem vrs_int : ∀ {l : List Int} {vs : List Value}, vs.map bare = l.map (fun i => Value.int i 0) → VRs [] (l.map AV.int) vs
  | [], [], _ => .nil
  | [], _ :: _, h => by cases h
  | _ :: _, [], h => by cases h
  | a :: l, v :: vs, h => by
    simp only [List.map_cons, List.cons.injEq] at h
    exact .cons (show ∃ t, v = .int a t from bare_int h.1) (vrs_int h.2)
structure ClsM (K : Frag) (h : Heap) : Prop where
  ok : ClsOK mD K h
  mks : makesIn K 1428 = true
  kp : keepIn K (.ref 1428) = true
  ini : findIn K (.ref 1428) "__init__" = some (some (.ref 36))
  ty : typeIn K (.ref 36) = some (.type "function")
theorem ini_mem : lk methNames "__init__" = some (15, 36) := by kernel_rfl
theorem cls_ok {h : Heap} (M : MpuB h es n) (hl : h.NoLimit) : ∃ K, ClsM K h := by
  obtain ⟨o1, g1, e1⟩ := M.tabs 0 (_, 1423) rfl
  obtain ⟨o2, g2, e2⟩ := M.tabs 1 (_, 1424) rfl
  obtain ⟨o3, g3, e3⟩ := M.tabs 2 (_, 1425) rfl
  obtain ⟨c1, xs1, m1, d1, b1⟩ := seq_is (Option.some.inj e1)
  obtain ⟨c2, xs2, m2, d2, b2⟩ := seq_is (Option.some.inj e2)
  obtain ⟨c3, xs3, m3, d3, b3⟩ := seq_is (Option.some.inj e3)
  have IN := KF_in M g1 g2 g3
  have LK := looks4 M
  have fnM : ∀ p ∈ methNames, findIn (KF es n o1 o2 o3) (.ref 1428) p.1 = some (some (.ref p.2.2)) := fun p hp => by
    obtain ⟨v, ev, bv⟩ := look_some (LK.2.1 p hp)
    rw [fnd, ev, bare_ref bv]
  refine ⟨KF es n o1 o2 o3, ⟨IN, cf_ok M, hl, fun x hx => ?_, fun x i hx => ?_, fun x f hx => ?_, fun x a hx => ?_, fun a xs hx => ?_⟩, by kernel_rfl, by kernel_rfl, ?_, ?_⟩
  · have hx : mAttr x = .inst := hx
    unfold mAttr at hx
    split at hx
    · cases hx
    · split at hx
      · cases hx
      · split at hx
        · cases hx
        · split at hx
          · rename_i q
            have ha := hasN_mem q
            have hb := hasN_mem (List.all_eq_true.mp att_abs x ha)
            have hf : findIn (KF es n o1 o2 o3) (.ref 1428) x = some none := by rw [fnd_abs M hb, map_all att_obj x ha]
            exact ⟨hf, (by show takerIn _ 1428 x = _; unfold takerIn; rw [hf]; rfl)⟩
          · cases hx
  · have hx : mAttr x = .int i := hx
    unfold mAttr at hx
    split at hx
    · rename_i j q
      cases hx
      have hm := lk_mem q
      refine El_ea (look_some (LK.1 _ hm)) fun v ev bv => ?_
      obtain ⟨t, rfl⟩ := bare_int bv
      exact ⟨t, (fnd x).trans (by rw [ev]), sp_int _ _ _, ns_all cop_c hm⟩
    · split at hx
      · cases hx
      · split at hx
        · cases hx
        · split at hx <;> cases hx
  · have hx : mAttr x = .fn f := hx
    unfold mAttr at hx
    split at hx
    · cases hx
    · split at hx
      · rename_i j a q
        cases hx
        have hm := lk_mem q
        have ht := ty_fn (es := es) (n := n) (o1 := o1) (o2 := o2) (o3 := o3) hm
        refine ⟨fnM _ hm, ?_, ?_, ?_, ns_all cop_m hm⟩
        · unfold isFn; rw [ht]; rfl
        · unfold specialIn; rw [ht]; exact (sp_fn (KF es n o1 o2 o3)).1
        · unfold takesIn specialIn; rw [ht]
          show (match findIn (KF es n o1 o2 o3) (.type "function") "__set__" with | some (some _) => some true | some none => (findIn (KF es n o1 o2 o3) (.type "function") "__delete__").map Option.isSome | none => none) = _
          rw [(sp_fn (KF es n o1 o2 o3)).2.1, (sp_fn (KF es n o1 o2 o3)).2.2.1]; rfl
      · split at hx
        · cases hx
        · split at hx <;> cases hx
  · have hx : mAttr x = .tab a := hx
    unfold mAttr at hx
    split at hx
    · cases hx
    · split at hx
      · cases hx
      · split at hx
        · rename_i q
          cases hx
          have hm := lk_mem q
          refine El_ea (look_some (LK.2.2.1 _ hm)) fun v ev bv => ?_
          refine ⟨(fnd x).trans (by rw [ev, bare_ref bv]), ?_, ns_all cop_t hm⟩
          have ty : typeIn (KF es n o1 o2 o3) (.ref a) = some (.type "list") := by
            unfold tabNames at hm
            simp only [List.mem_cons, Prod.mk.injEq, List.not_mem_nil, or_false] at hm
            rcases hm with ⟨_, rfl⟩ | ⟨_, rfl⟩ | ⟨_, rfl⟩
            · show some o1.cls = _; rw [c1]
            · show some o2.cls = _; rw [c2]
            · show some o3.cls = _; rw [c3]
          unfold specialIn; rw [ty]; exact (sp_fn (KF es n o1 o2 o3)).2.2.2
        · split at hx <;> cases hx
  · have hx : mTab a = some xs := hx
    unfold mTab at hx
    cases q1 : Nat.beq a 1423 with
    | true =>
      rw [q1] at hx; cases hx; have := Nat.eq_of_beq_eq_true q1; subst this
      exact ⟨xs1, ⟨o1, g1, c1, m1, d1⟩, vrs_ref b1⟩
    | false =>
      rw [q1] at hx
      cases q2 : Nat.beq a 1424 with
      | true =>
        rw [q2] at hx; cases hx; have := Nat.eq_of_beq_eq_true q2; subst this
        exact ⟨xs2, ⟨o2, g2, c2, m2, d2⟩, vrs_int (by rw [b2])⟩
      | false =>
        rw [q2] at hx
        cases q3 : Nat.beq a 1425 with
        | true =>
          rw [q3] at hx; cases hx; have := Nat.eq_of_beq_eq_true q3; subst this
          exact ⟨xs3, ⟨o3, g3, c3, m3, d3⟩, vrs_int (by rw [b3])⟩
        | false => rw [q3] at hx; cases hx
  · exact fnM _ (lk_mem ini_mem)
  · exact ty_fn (lk_mem ini_mem)
theorem fnAt_mem : ∀ {l : List (Str × Nat × Nat)} {b : Addr} {j : Nat}, fnAt l b = some j → ∃ x, (x, j, b) ∈ l
  | (x, j', a) :: r, b, j, h => by
    unfold fnAt at h
    split at h
    · rename_i q; cases h; have := Nat.eq_of_beq_eq_true q; subst this; exact ⟨x, .head _⟩
    · obtain ⟨y, hy⟩ := fnAt_mem h; exact ⟨y, .tail _ hy⟩
noncomputable def defOk (j : Nat) : Bool := match clsB[j]? with
  | some (.FunctionDef _ args _ _ _ _ sc _ _ _) => sc.names.all (fun x => match x.2 with | .cell => false | _ => true) && (args.args.map (·.arg)).all (fun x => match lk sc.names x with | some .local => true | _ => false) &&
      (!sc.isCoroutine) && (!sc.isGenerator) && (match sc.kind with | .function => true | _ => false) && Nat.ble args.args.length 3 && Nat.ble 1 args.args.length
  | _ => false
theorem defs_ok : metNames.all (fun x => (Nat.beq x.2.2 85 || Nat.beq x.2.2 36) || defOk x.2.1) = true := by kernel_rfl
noncomputable def bindA (j a : Nat) (vs : List Value) : Option (Sem (List (Str × Value))) := match (fObj j a).data with
  | .func fd => some (bindArgs fd ⟨vs.take fd.params.args.length, []⟩)
  | _ => none
noncomputable def zipA (j : Nat) (vs : List Value) : Option (Sem (List (Str × Value))) := match clsB[j]? with
  | some (.FunctionDef _ args _ _ _ _ _ _ _ _) => some (pure ((args.args.map (·.arg)).zip (vs.take args.args.length)))
  | _ => none
theorem binds_all (a b c : Value) : metNames.tail.map (fun x => bindA x.2.1 x.2.2 [a, b, c]) = metNames.tail.map fun x => zipA x.2.1 [a, b, c] := by kernel_rfl
theorem met_tail : metNames = (⟨⟨[95, 95, 105, 110, 105, 116, 95, 95]⟩⟩, 15, 36) :: metNames.tail := by kernel_rfl
theorem mem_tail {x : Str} {j a : Nat} (h : (x, j, a) ∈ metNames) (n : a ≠ 36) : (x, j, a) ∈ metNames.tail := by
  rw [met_tail] at h
  rcases List.mem_cons.mp h with e | h
  · simp only [Prod.mk.injEq] at e; exact absurd e.2.2 n
  · exact h
theorem codeQ_of {o : Obj} {q : Str} (h : codeQ o = some q) : ∃ vs t, o.data = .fields vs ∧ vs[1]? = some (.str q t) := by
  unfold codeQ at h
  split at h
  · rename_i vs e
    split at h
    · rename_i t r ee
      cases h
      exact ⟨vs, t, e, by rw [← Array.getElem?_toList, ee]; rfl⟩
    · cases h
  · cases h
theorem code_rec {h : Heap} (M : MpuB h es n) {x : Str × Nat × Nat} (hx : x ∈ metNames) : h.CodeRec (.ref (x.2.2 - 1)) (fQual x.2.1) := by
  obtain ⟨o, g, e⟩ := M.codes x hx
  refine El_eea (codeQ_of e) fun vs t e1 e2 => ?_
  exact ⟨_, o, vs, t, rfl, g, e1, e2⟩
theorem take3 {vals : List Value} {k : Nat} (hk : k ≤ 3) (hv : vals.length = k) : ∃ a b c, vals = [a, b, c].take k := by
  match vals, hv with
  | [], rfl => exact ⟨.none, .none, .none, rfl⟩
  | [a], rfl => exact ⟨a, .none, .none, rfl⟩
  | [a, b], rfl => exact ⟨a, b, .none, rfl⟩
  | [a, b, c], rfl => exact ⟨a, b, c, rfl⟩
  | _ :: _ :: _ :: _ :: r, hv => simp at hv; lia
theorem fns_ok {h : Heap} (M : MpuB h es n) : ∀ fa d, mFn fa = some d → FnOK h fa d := by
  intro fa d hd
  unfold mFn at hd
  split at hd
  · rename_i j q hj
    obtain ⟨x, hx⟩ := fnAt_mem hj
    have h85 : (Nat.beq fa 85 || Nat.beq fa 36) = false := q
    have n36 : fa ≠ 36 := fun e => by subst e; cases h85
    have ok := List.all_eq_true.mp defs_ok _ hx
    dsimp only at ok
    rw [h85, Bool.false_or] at ok
    unfold defOk at ok
    split at ok
    · rename_i name args body _ _ _ sc _ _ _ hcl
      simp only [Bool.and_eq_true, Bool.not_eq_true', List.all_eq_true] at ok
      obtain ⟨⟨⟨⟨⟨⟨k1, k2⟩, k3⟩, k4⟩, k5⟩, k6⟩, k7⟩ := ok
      rw [hcl] at hd
      simp only [fdOf, Option.some.injEq] at hd
      subst hd
      have F := M.fns _ hx
      have C := code_rec M hx
      have B := fun a b c => map_all (binds_all a b c) _ (mem_tail hx n36)
      dsimp only at F C B
      unfold fQual at C
      unfold fObj at F
      unfold bindA fObj zipA at B
      rw [hcl] at F C B
      have kd : sc.kind = .function := by
        split at k5
        · assumption
        · cases k5
      refine ⟨⟨_, _, F, rfl, C, rfl, rfl, rfl, rfl, rfl, ?_, fun vals hv => ?_⟩, fun y hy e => ?_, fun y hy => ?_, k3, k4, kd⟩
      · show _ = fQual j ++ ".<locals>."
        unfold fQual; rw [hcl]
      · have hv : vals.length = args.args.length := by simpa using hv
        refine El_eee (take3 (Nat.le_of_ble_eq_true k6) hv) fun a b c hr3 => ?_; obtain rfl := hr3
        exact Option.some.inj (B a b c)
      · have := k1 y hy; rw [e] at this; cases this
      · have := k2 y hy
        rw [lk_lookup] at this
        split at this
        · assumption
        · cases this
    · cases ok
  · cases hd
theorem w_mem : ∃ x, (x, 22, 85) ∈ metNames := by
  obtain ⟨x, hx⟩ := fnAt_mem (show fnAt metNames 85 = some 22 by kernel_rfl)
  exact ⟨x, hx⟩
theorem w_bind (a b c : Value) : bindA 22 85 [a, b, c] = zipA 22 [a, b, c] := by kernel_rfl
theorem w_def : (match clsB[22]? with | some (.FunctionDef _ _ _ _ _ _ _ _ _ _) => true | _ => false) = true := by kernel_rfl
noncomputable def wLoc (x : Str) : Bool := match lk dW.scope.names x with | some .local => true | some .cell => hasN (cellNs dW.scope.names) x | _ => false
theorem w_facts : ((cellNs dW.scope.names) = [nSelf]) ∧ dW.names.all wLoc = true ∧ dW.scope.isCoroutine = false ∧ dW.scope.isGenerator = false ∧ dW.scope.kind = .function ∧ dW.names.length = 2 := ⟨by kernel_rfl, by kernel_rfl, by kernel_rfl, by kernel_rfl, by kernel_rfl, by kernel_rfl⟩
theorem fnW_ok {h : Heap} (M : MpuB h es n) : FnOKC h 85 dW := by
  obtain ⟨x, hx⟩ := w_mem
  have F := M.fns _ hx
  have C := code_rec M hx
  have hd := w_def
  have W := w_facts
  have B := w_bind
  split at hd
  · rename_i name args body _ _ _ sc _ _ _ hcl
    have e : dW = ⟨args.args.map (·.arg), body, sc, .ref 84, fQual 22 ++ ".<locals>."⟩ := by unfold dW; rw [hcl]; rfl
    dsimp only at F C
    unfold fQual at C
    unfold fObj at F
    unfold bindA fObj zipA at B
    rw [hcl] at F C B
    have hn : args.args.length = 2 := by have := W.2.2.2.2.2; rw [e] at this; simpa using this
    refine ⟨⟨_, _, F, rfl, C, by rw [e], by rw [e], rfl, rfl, by rw [e], ?_, rfl, fun vals hv => ?_⟩, by rw [W.1]; exact List.nodup_cons.mpr ⟨fun h => (by cases h), List.nodup_nil⟩, fun y hy => ?_, W.2.2.1, W.2.2.2.1, W.2.2.2.2.1⟩
    · rw [e]; show _ = fQual 22 ++ ".<locals>."
      unfold fQual; rw [hcl]
    · rw [W.2.2.2.2.2] at hv
      obtain ⟨a, b, rfl⟩ := two_list hv
      · have := B a b .none
        simp only [hn, List.take] at this
        have := Option.some.inj this
        rw [e]
        exact this
    · have := List.all_eq_true.mp W.2.1 y hy
      unfold wLoc at this
      rw [lk_lookup] at this
      split at this
      · rename_i q; exact .inl q
      · rename_i q; exact .inr ⟨q, hasN_mem this⟩
      · cases this
  · cases hd
theorem codeHd_of {h : Heap} {c P : Addr} (hcp : c ≠ P) (M : ∃ o, h.get? c = some o ∧ codeHd o = some (.type "code", [some (.int 3 0), some (.bool true), some (.int 181 0), some (.ref P), some (.str fileS 0)])) : CodeHd h c P := by
  obtain ⟨o, g, e⟩ := M
  unfold codeHd at e
  split at e
  · rename_i vs d
    simp only [Option.some.injEq, Prod.mk.injEq, List.map_cons, List.map_nil, List.cons.injEq, and_true] at e
    refine El_aaaaa e fun e0 e7 e9 e10 e11 e18 => ?_; try clear e
    have bm : ∀ {k : Nat} {b : Value}, (vs.toList[k]?).map bare = some b → ∃ v, vs[k]? = some v ∧ bare v = b := fun {k b} h => by
      rw [Array.getElem?_toList] at h
      obtain ⟨v, a, b⟩ := Option.map_eq_some_iff.mp h
      exact ⟨v, a, b⟩
    obtain ⟨v7, a7, b7⟩ := bm e7
    obtain ⟨v9, a9, b9⟩ := bm e9
    obtain ⟨v10, a10, b10⟩ := bm e10
    obtain ⟨v11, a11, b11⟩ := bm e11
    obtain ⟨v18, a18, b18⟩ := bm e18
    obtain ⟨t7, rfl⟩ := bare_int b7
    obtain ⟨t10, rfl⟩ := bare_int b10
    have := bare_ref b11; subst this
    have : v9 = .bool true := by cases v9 <;> simp [bare] at b9; rw [b9]
    subst this
    obtain ⟨t18, rfl⟩ : ∃ t, v18 = .str fileS t := by cases v18 <;> simp [bare] at b18; rename_i t; exact ⟨t, by rw [b18]⟩
    have gd : ∀ {k : Nat} {v : Value}, vs[k]? = some v → vs.getD k .none = v := fun h => by rw [Array.getD_eq_getD_getElem?, h]; rfl
    exact ⟨o, vs, fileS, t18, 3, t7, true, 181, t10, g, e0, d, a11, gd a11, gd a18, gd a7, gd a9, gd a10, hcp⟩
  · cases e
theorem codeHd_ok {h : Heap} (M : MpuB h es n) : CodeHd h 84 80 := codeHd_of (by decide) M.code
end
end
end Mine

end
section
end
section
open PySem PySem.W PyProof.Rows
namespace Mine
noncomputable section
theorem p2a (w : World) (os : OsState) (k : Result → Sem Fin) : piece w os k 1000 16 36 := by kernel_rfl
theorem p2b (w : World) (os : OsState) (k : Result → Sem Fin) : piece w os k 1000 36 56 := by kernel_rfl
theorem p2x (w : World) (os : OsState) (k : Result → Sem Fin) : Rn w os k 2000 16 56 := Rn_tr rfl (Rn_of rfl (p2a w os k)) (Rn_of rfl (p2b w os k))
theorem p3a (w : World) (os : OsState) (k : Result → Sem Fin) : piece w os k 1000 56 76 := by kernel_rfl
theorem p3b (w : World) (os : OsState) (k : Result → Sem Fin) : piece w os k 1000 76 96 := by kernel_rfl
theorem p3x (w : World) (os : OsState) (k : Result → Sem Fin) : Rn w os k 2000 56 96 := Rn_tr rfl (Rn_of rfl (p3a w os k)) (Rn_of rfl (p3b w os k))
theorem p4a (w : World) (os : OsState) (k : Result → Sem Fin) : piece w os k 1000 96 116 := by kernel_rfl
theorem p4b (w : World) (os : OsState) (k : Result → Sem Fin) : piece w os k 1000 116 136 := by kernel_rfl
theorem p4x (w : World) (os : OsState) (k : Result → Sem Fin) : Rn w os k 2000 96 136 := Rn_tr rfl (Rn_of rfl (p4a w os k)) (Rn_of rfl (p4b w os k))
theorem p5a (w : World) (os : OsState) (k : Result → Sem Fin) : piece w os k 1000 136 156 := by kernel_rfl
theorem p5b (w : World) (os : OsState) (k : Result → Sem Fin) : piece w os k 1000 156 176 := by kernel_rfl
theorem p5x (w : World) (os : OsState) (k : Result → Sem Fin) : Rn w os k 2000 136 176 := Rn_tr rfl (Rn_of rfl (p5a w os k)) (Rn_of rfl (p5b w os k))
theorem p6a (w : World) (os : OsState) (k : Result → Sem Fin) : piece w os k 1000 176 195 := by kernel_rfl
theorem p6b (w : World) (os : OsState) (k : Result → Sem Fin) : piece w os k 1000 195 214 := by kernel_rfl
theorem p6x (w : World) (os : OsState) (k : Result → Sem Fin) : Rn w os k 2000 176 214 := Rn_tr rfl (Rn_of rfl (p6a w os k)) (Rn_of rfl (p6b w os k))
theorem p7a (w : World) (os : OsState) (k : Result → Sem Fin) : piece w os k 2000 214 215 := by kernel_rfl
theorem p7x (w : World) (os : OsState) (k : Result → Sem Fin) : Rn w os k 2000 214 215 := Rn_of rfl (p7a w os k)
theorem p8a (w : World) (os : OsState) (k : Result → Sem Fin) : piece w os k 2000 215 217 := by kernel_rfl
theorem p8x (w : World) (os : OsState) (k : Result → Sem Fin) : Rn w os k 2000 215 217 := Rn_of rfl (p8a w os k)
end
end Mine

end
section
open PySem PySem.W PyProof.Rows
namespace Mine
noncomputable section
theorem reads_in {w : World} {s₀ s₁ : Shared} {args : List WData} {vals : List Value} {as : List Addr} (hpre : RW.row.toRowW.claim.pre args = true) (hlay : WData.layableAll args = true) (hrd : ReadsAllW RW.row.toRowW.records (classAt s₀.heap) s₁.heap vals args as) (hwl : WellAll w.params s₁.heap vals args) (hlo : ∀ a ∈ as, (a == sysModules) = false) :
    ∃ (ns : List Int) (a : Addr) (o : Obj), ns.length ≤ 63 ∧ vals = [.ref a] ∧ s₁.heap.get? a = some o ∧ FixI o ns := by
  wrow_args hpre hlay hrd hwl hlo
  rename_i ns _ _ _ _ _ _ _ a vs _ hL _ _ _ hI _ h63 _
  refine El_eaae hL fun o g c m d => ?_; try clear hL
  exact ⟨ns, a, o, by lia, rfl, g, c, _, m, d, by simpa using hI⟩
noncomputable def TB80 : TabE := ⟨80, wb.lp, dW.qual ++ "<lambda>"⟩
noncomputable def rankD : DefRec := match stL 20 with
  | .FunctionDef n a b _ _ _ sc _ _ pos => ⟨n, a, b, sc, pos⟩
  | _ => lawD
noncomputable def TBL : TabE := ⟨1469, rankD.pos, (lF .none).qual ++ rankD.name⟩
noncomputable def cx (w : World) (s : Shared) (a : Addr) : Cx := ⟨RW.row.toRowW.prog, w, hideAll s.heap [80, 1469, a], s.gens, s.os, ⟨[TB80, TBL], []⟩⟩
section
variable {w : World} {s : Shared} {es : Array DictEntry} {n : Nat} {a : Addr} {o : Obj} {ns : List Int}
theorem cx_keep (w : World) {b : Addr} {ob : Obj} (hb : s.heap.get? b = some ob) (n80 : b ≠ 80 ∧ b ≠ 1469) (na : b ≠ a) : (cx w s a).h₀.get? b = some ob :=
  hideAll_get _ hb fun m => by
    simp only [List.mem_cons, List.not_mem_nil, or_false] at m
    rcases m with m | m | m
    · exact n80.1 m
    · exact n80.2 m
    · exact na m
theorem neA_cls (ha : s.heap.get? a = some o) (hI : FixI o ns) {b : Addr} {ob : Obj} (hb : s.heap.get? b = some ob) (h : ob.cls ≠ .type "list") : b ≠ a := fun e => by
  subst e; rw [ha] at hb; cases hb; exact h hI.1
theorem neA_data (ha : s.heap.get? a = some o) (hI : FixI o ns) {b : Addr} {ob : Obj} (hb : s.heap.get? b = some ob) (h : ∀ vs m, ob.data ≠ .seq vs m) : b ≠ a := fun e => by
  subst e; rw [ha] at hb; cases hb
  obtain ⟨_, vs, m, d, _⟩ := hI
  exact h vs m d
theorem ne80_cls (M : MpuAt s.heap es n) {b : Addr} {ob : Obj} (hb : s.heap.get? b = some ob) (h : ob.cls ≠ .none) : b ≠ 80 ∧ b ≠ 1469 := ⟨fun e => by
  subst e; rw [M.tab] at hb; cases hb; exact h rfl, fun e => by
  subst e; rw [M.ltab] at hb; cases hb; exact h rfl⟩
theorem ne80_data (M : MpuAt s.heap es n) {b : Addr} {ob : Obj} (hb : s.heap.get? b = some ob) (h : ob.data ≠ .fields #[]) : b ≠ 80 ∧ b ≠ 1469 := ⟨fun e => by
  subst e; rw [M.tab] at hb; cases hb; exact h rfl, fun e => by
  subst e; rw [M.ltab] at hb; cases hb; exact h rfl⟩
theorem fObj_all : metNames.map (fun x => (fObj x.2.1 x.2.2).cls) = metNames.map fun _ => Value.type "function" := by kernel_rfl
theorem tab_len : ∀ (i : Nat) (c : Value) (vs : List Value), tabVals[i]? = some (some (c, vs)) → vs.length = 256 ∧ c = .type "list"
  | 0, c, vs, h => by
    have : some (some (Value.type "list", instrL.map Value.ref)) = some (some (c, vs)) := h
    simp only [Option.some.injEq, Prod.mk.injEq] at this
    obtain ⟨rfl, rfl⟩ := this
    exact ⟨by kernel_rfl, rfl⟩
  | 1, c, vs, h => by
    have : some (some (Value.type "list", cycL.map fun i => Value.int i 0)) = some (some (c, vs)) := h
    simp only [Option.some.injEq, Prod.mk.injEq] at this
    obtain ⟨rfl, rfl⟩ := this
    exact ⟨by kernel_rfl, rfl⟩
  | 2, c, vs, h => by
    have : some (some (Value.type "list", extL.map fun i => Value.int i 0)) = some (some (c, vs)) := h
    simp only [Option.some.injEq, Prod.mk.injEq] at this
    obtain ⟨rfl, rfl⟩ := this
    exact ⟨by kernel_rfl, rfl⟩
  | k + 3, c, vs, h => by cases h
theorem tab_some : ∀ (i : Nat) (x : Str × Addr), tabNames[i]? = some x → ∃ c vs, tabVals[i]? = some (some (c, vs))
  | 0, _, _ => ⟨_, _, rfl⟩
  | 1, _, _ => ⟨_, _, rfl⟩
  | 2, _, _ => ⟨_, _, rfl⟩
  | k + 3, x, h => by cases h
theorem mpuB (w : World) (M : MpuAt s.heap es n) (ha : s.heap.get? a = some o) (hI : FixI o ns) (hn : ns.length ≤ 63) : MpuB (cx w s a).h₀ es n := by
  refine ⟨cx_keep w M.cls (ne80_cls M M.cls (by nofun)) (neA_cls ha hI M.cls (by nofun)), cx_keep w M.nso (ne80_cls M M.nso (by nofun)) (neA_data ha hI M.nso (fun _ _ => by nofun)), M.look, fun x hx => ?_, fun x hx => ?_, fun i x hx => ?_, ?_, ?_⟩
  · have g := M.fns x hx
    have c : (fObj x.2.1 x.2.2).cls = .type "function" := map_all fObj_all x hx
    exact cx_keep w g (ne80_cls M g (by rw [c]; nofun)) (neA_cls ha hI g (by rw [c]; decide))
  · refine El_ea (M.codes x hx) fun ob g e => ?_
    refine El_eea (codeQ_of e) fun vs t e1 e2 => ?_
    refine ⟨ob, cx_keep w g (ne80_data M g ?_) (neA_data ha hI g (fun _ _ => by rw [e1]; nofun)), e⟩
    rw [e1]; intro q; injection q with q; subst q; cases e2
  · refine El_ea (M.tabs i x hx) fun ob g e => ?_
    refine El_ee (tab_some i x hx) fun c vs ev => ?_
    rw [ev] at e
    obtain ⟨l, rfl⟩ := tab_len i c vs ev
    refine El_aeea (seq_is (Option.some.inj e)) fun c1 xs m d b => ?_
    refine ⟨ob, cx_keep w g (ne80_cls M g (by rw [c1]; nofun)) fun q => ?_, by rw [ev]; exact e⟩
    rw [q, ha] at g; cases g
    obtain ⟨_, vs', m', d', r⟩ := hI
    rw [d] at d'; cases d'
    have h1 := r.length
    have h2 : xs.toList.length = 256 := by rw [← l, ← b, List.length_map]
    lia
  · refine El_ea M.dflt fun ob g e => ?_
    obtain ⟨c, _⟩ := seq_is e
    exact ⟨ob, cx_keep w g (ne80_cls M g (by rw [c]; nofun)) (neA_cls ha hI g (by rw [c]; decide)), e⟩
  · refine El_ea M.code fun ob g e => ?_
    have d : ∃ vs, ob.data = .fields vs ∧ ob.cls = .type "code" := by
      unfold codeHd at e
      split at e
      · rename_i vs d
        simp only [Option.some.injEq, Prod.mk.injEq] at e
        exact ⟨vs, d, e.1⟩
      · cases e
    refine El_ea d fun vs d c => ?_
    exact ⟨ob, cx_keep w g (ne80_cls M g (by rw [c]; nofun)) (neA_cls ha hI g (by rw [c]; decide)), e⟩
theorem ns_get (w : World) (M : MpuAt s.heap es n) (ha : s.heap.get? a = some o) (hI : FixI o ns) {b : Addr} {m : Str → Option Value} (h : s.heap.Ns b m) : (cx w s a).h₀.Ns b m := by
  obtain ⟨ob, e, ep, g, d, r⟩ := h
  exact ⟨ob, e, ep, cx_keep w g (ne80_data M g (by rw [d]; nofun)) (neA_data ha hI g (fun _ _ => by rw [d]; nofun)), d, r⟩
theorem lim_get (w : World) (M : MpuAt s.heap es n) (ha : s.heap.get? a = some o) (hI : FixI o ns) (h : s.heap.NoLimit) : (cx w s a).h₀.NoLimit := let ⟨m, x, y⟩ := h; ⟨m, ns_get w M ha hI x, y⟩
theorem start_S (w : World) (M : MpuAt s.heap es n) (ha : s.heap.get? a = some o) (hI : FixI o ns) : (cx w s a).S [a] [.fix o] s := by
  have n80 : a ≠ 80 ∧ a ≠ 1469 := ne80_cls M ha (by rw [hI.1]; nofun)
  have two : ∀ {P : TabE → Prop}, P TB80 → P TBL → ∀ e ∈ [TB80, TBL], P e := fun h1 h2 e he => by
    rcases List.mem_cons.mp he with rfl | he
    · exact h1
    · rw [List.mem_singleton.mp he]; exact h2
  refine ⟨⟨rfl, by simp, fun i ob b h1 h2 => ?_⟩, fun b ob e => of_hideAll _ e, fun b hb => hideAll_none _ ?_, rfl, rfl, two (.inl M.tab) (.inl M.ltab), two (fun q => n80.1 (List.mem_singleton.mp q).symm) (fun q => n80.2 (List.mem_singleton.mp q).symm), two (hideAll_none _ (.head _)) (hideAll_none _ (.tail _ (.head _))), List.nil_prefix⟩
  · cases i with
    | zero => cases h1; cases h2; exact ⟨o, ha, rfl⟩
    | succ i => cases h1
  · rw [List.mem_singleton] at hb; subst hb; exact .tail _ (.tail _ (.head _))
theorem wok (w : World) {mg : Str → Option Value} (M : MpuAt s.heap es n) (ha : s.heap.get? a = some o) (hI : FixI o ns) (hn : ns.length ≤ 63) (hl : s.heap.NoLimit) (hg : s.heap.Ns 3 mg)
    (hb : ∃ bm ob, mg "__builtins__" = some (.ref bm) ∧ bm ≠ builtinsNs ∧ s.heap.get? bm = some ob ∧ ob.cls = .type "module" ∧ ob.dict = some builtinsNs ∧ ob.data = .plain) : WOK (cx w s a) := by
  have B := mpuB w M ha hI hn
  obtain ⟨K, hK⟩ := cls_ok B (lim_get w M ha hI hl)
  refine ⟨⟨K, hK.ok⟩, fns_ok B, fnW_ok B, codeHd_ok B, ⟨mg, ns_get w M ha hI hg, ?_⟩, .head _, fun e he q => ?_⟩
  rotate_left
  · rcases List.mem_cons.mp he with e | he
    · exact e
    · rw [List.mem_singleton.mp he] at q; cases q
  refine El_eeaaaaa hb fun bm ob e1 e2 e3 e4 e5 e6 => ?_; try clear hb
  have n80 := ne80_cls M e3 (by rw [e4]; nofun)
  refine ⟨bm, ob, e1, e2, fun q => ?_, n80.1, cx_keep w e3 n80 (neA_cls ha hI e3 (by rw [e4]; decide)), e4, e5, e6⟩
  obtain ⟨og, eg, ep, g, d, _⟩ := hg
  rw [show bm = 3 from q, g] at e3; cases e3
  rw [d] at e6; cases e6
theorem law_code (w : World) (M : MpuAt s.heap es n) (ha : s.heap.get? a = some o) (hI : FixI o ns) : CodeHd (cx w s a).h₀ 1471 1469 := by
  refine El_ea M.lcode fun ob g e => ?_
  have d : ob.cls = .type "code" := by
    unfold codeHd at e
    split at e
    · simp only [Option.some.injEq, Prod.mk.injEq] at e
      exact e.1
    · cases e
  exact codeHd_of (by decide) ⟨ob, cx_keep w g (ne80_cls M g (by rw [d]; nofun)) (neA_cls ha hI g (by rw [d]; decide)), e⟩
end
end
end Mine

end
section
open PySem PySem.W PyProof.Rows
namespace Mine
noncomputable section
theorem hasN_not : ∀ {l : List Str} {x : Str}, hasN l x = false → x ∉ l
  | [], _, _, m => by cases m
  | y :: r, x, h, m => by
    unfold hasN at h
    split at h
    · cases h
    · rename_i q
      rcases List.mem_cons.mp m with e | m
      · subst e; rw [seq_iff.mpr rfl] at q; cases q
      · exact hasN_not h m
noncomputable def takenN : List Str := startupNames ++ (looseW qP looseL ++ ((recsOf qP).map (·.name) ++ ((litsOf qP).map (·.1) ++ (clssOf qP (looseW qP looseL)).map (·.name))))
theorem free_of {mean : ExcName → Option Value} {mg mb : Str → Option Value} {h : Heap} (T : Top qP (looseW qP looseL) mean mg mb h) {x : Str} (hx : hasN takenN x = false) : mg x = none := by
  have m := hasN_not hx
  unfold takenN at m
  simp only [List.mem_append, not_or] at m
  exact T.free x m.1 m.2.1 m.2.2.1 m.2.2.2.1 m.2.2.2.2
noncomputable abbrev sMPU : Str := nS [77, 80, 85]
noncomputable abbrev sWide : Str := nS [95, 108, 97, 119, 95, 119, 105, 100, 101]
noncomputable abbrev sAsm : Str := nS [95, 108, 97, 119, 95, 97, 115, 115, 101, 109, 98, 108, 101]
noncomputable abbrev sBra : Str := nS [95, 108, 97, 119, 95, 98, 114, 97, 110, 99, 104]
noncomputable abbrev sIns : Str := nS [95, 108, 97, 119, 95, 105, 110, 115, 101, 114, 116, 105, 111, 110]
noncomputable abbrev sBub : Str := nS [95, 108, 97, 119, 95, 98, 117, 98, 98, 108, 101]
section
variable {w : World} {s : Shared} {es : Array DictEntry} {n : Nat} {a : Addr} {o : Obj} {ns : List Int} {mg mb : Str → Option Value} {mean : ExcName → Option Value}
theorem glob_b (w : World) (M : MpuAt s.heap es n) (ha : s.heap.get? a = some o) (hI : FixI o ns) (T : Top qP (looseW qP looseL) mean mg mb s.heap) {x : Str} {v : Value} (hx : hasN takenN x = false) (hb : bootBuiltins x = some v) (hn : x ≠ "__name__") : GlobV (cx w s a) x v :=
  ⟨mg, mb, ns_get w M ha hI T.g, ns_get w M ha hI T.b, .inr ⟨free_of T hx, by rw [T.builtins x hn, hb]⟩⟩
theorem find_look {e : Array DictEntry} {x : Str} {v : Value} {c : Value} {d : Option Addr} {m : Nat} {sl : Array (Option Value)} (h : lookIn x ⟨c, d, .dict e m, sl⟩ = some (some v)) : nsFind e x = some v := by
  unfold lookIn at h
  dsimp only at h
  split at h
  · rename_i en q
    simp only [Option.some.injEq] at h
    unfold nsFind findBy
    rw [← Array.find?_toList, q, ← h]; rfl
  · split at h <;> cases h
noncomputable def biV : AV → Value
  | .bi s => .builtin s
  | .ty t => .type t
  | _ => .none
noncomputable def isBi : AV → Bool
  | .bi _ => true
  | .ty _ => true
  | _ => false
theorem biV_ok {a : AV} (h : isBi a = true) : VR [] a (biV a) := by
  unfold isBi at h
  split at h
  · exact rfl
  · exact rfl
  · cases h
theorem bi_free : (biNames ++ aNames).all (fun x => !hasN takenN x.1 && isBi x.2) = true := by kernel_rfl
theorem bi_boot : (biNames ++ aNames).map (fun x => bootBuiltins x.1) = (biNames ++ aNames).map fun x => some (biV x.2) := by kernel_rfl
theorem bi_name : ∀ x ∈ biNames ++ aNames, x.1 ≠ "__name__" := by decide +kernel
theorem glob_w (w : World) (M : MpuAt s.heap es n) (ha : s.heap.get? a = some o) (hI : FixI o ns) (T : Top qP (looseW qP looseL) mean mg mb s.heap) {x : Str × AV} (hx : x ∈ biNames ++ aNames) : ∃ v, GlobV (cx w s a) x.1 v ∧ VR [] x.2 v := by
  have := Bool.and_eq_true_iff.mp (List.all_eq_true.mp bi_free x hx)
  exact ⟨_, glob_b w M ha hI T (by cases q : hasN takenN x.1 with | false => rfl | true => rw [q] at this; cases this.1) (map_all bi_boot x hx) (bi_name x hx), biV_ok this.2⟩
noncomputable abbrev sLaw : Str := nS [108, 97, 119]
structure Own (mg : Str → Option Value) : Prop where
  o1 : mg sMPU = some (.ref 1428)
  o2 : mg sWide = some (.ref 1439)
  o3 : mg sAsm = some (.ref 1446)
  o4 : mg sBra = some (.ref 1453)
  o5 : mg sIns = some (.ref 1460)
  o6 : mg sBub = some (.ref 1467)
  o7 : mg sLaw = some (.ref 1472)
theorem own_at (M : MpuAt s.heap es n) (T : Top qP (looseW qP looseL) mean mg mb s.heap) : Own mg := by
  obtain ⟨ob, g, e⟩ := M.glob
  refine El_eeeaaa T.g fun ob' e' ep g' d' _ r => ?_
  rw [show (mainGlobals : Addr) = 3 from rfl, g] at g'; cases g'
  obtain ⟨c, di, dt, sl⟩ := ob
  dsimp only at d'; subst d'
  have e : [lookIn sMPU ⟨c, di, .dict e' ep, sl⟩, lookIn sWide ⟨c, di, .dict e' ep, sl⟩, lookIn sAsm ⟨c, di, .dict e' ep, sl⟩, lookIn sBra ⟨c, di, .dict e' ep, sl⟩, lookIn sIns ⟨c, di, .dict e' ep, sl⟩, lookIn sBub ⟨c, di, .dict e' ep, sl⟩, lookIn sLaw ⟨c, di, .dict e' ep, sl⟩] = [some (some (.ref 1428)), some (some (.ref 1439)), some (some (.ref 1446)), some (some (.ref 1453)), some (some (.ref 1460)), some (some (.ref 1467)), some (some (.ref 1472))] := e
  simp only [List.cons.injEq, and_true] at e
  obtain ⟨e1, e2, e3, e4, e5, e6, e7⟩ := e
  exact ⟨by rw [← r]; exact find_look e1, by rw [← r]; exact find_look e2, by rw [← r]; exact find_look e3, by rw [← r]; exact find_look e4, by rw [← r]; exact find_look e5, by rw [← r]; exact find_look e6, by rw [← r]; exact find_look e7⟩
theorem glob_ref (w : World) (M : MpuAt s.heap es n) (ha : s.heap.get? a = some o) (hI : FixI o ns) (T : Top qP (looseW qP looseL) mean mg mb s.heap) {x : Str} {v : Value} (h : mg x = some v) : GlobV (cx w s a) x v :=
  ⟨mg, mb, ns_get w M ha hI T.g, ns_get w M ha hI T.b, .inl h⟩
theorem own_in {G : Str → Value → Prop} (g : ∀ x v, mg x = some v → G x v) (w : Own mg) {x : Str} {av : AV} (m : (x, av) ∈ ownNames) : ∃ v, G x v ∧ VR [] av v := by
  cases m with
  | head _ => exact ⟨_, g _ _ w.o1, rfl⟩
  | tail _ m => cases m with
    | head _ => exact ⟨_, g _ _ w.o3, rfl⟩
    | tail _ m => cases m with
      | head _ => exact ⟨_, g _ _ w.o5, rfl⟩
      | tail _ m => cases m with
        | head _ => exact ⟨_, g _ _ w.o6, rfl⟩
        | tail _ m => cases m
theorem recs_eq : recsOf qP = [wideD, asmD, braD, insD, bubD, lawD] := by kernel_rfl
noncomputable def defQ (d : DefRec) : Bool := d.scope.names.all (fun x => match x.2 with | .cell => false | _ => true) && (d.params.args.map (·.arg)).all (fun x => match lk d.scope.names x with | some .local => true | _ => false) && (!d.scope.isCoroutine) && (!d.scope.isGenerator) && (match d.scope.kind with | .function => true | _ => false)
theorem def_q : (defQ wideD, defQ asmD, defQ braD, defQ insD, defQ bubD) = (true, true, true, true, true) := by kernel_rfl
theorem nm_q : (wideD.name, asmD.name, braD.name, insD.name, bubD.name) = (sWide, sAsm, sBra, sIns, sBub) := by kernel_rfl
theorem ln_q : (wideD.params.args.length, asmD.params.args.length, braD.params.args.length, insD.params.args.length, bubD.params.args.length) = (2, 2, 4, 4, 6) := by kernel_rfl
noncomputable def BdOK (d : DefRec) : Prop := ∀ (pm cd doc : Value) (vals : List Value), vals.length = d.params.args.length → bindArgs (PySem.Calls.docDef d.name d.params d.body d.scope pm cd doc) ⟨vals, []⟩ = pure ((d.params.args.map (·.arg)).zip vals)
theorem lst2 {l : List Value} (h : l.length = 2) : ∃ a b, l = [a, b] := two_list h
theorem lst4 {l : List Value} (h : l.length = 4) : ∃ a b c d, l = [a, b, c, d] := by
  rcases l with _ | ⟨a, _ | ⟨b, r⟩⟩
  · cases h
  · cases h
  · obtain ⟨c, d, rfl⟩ := two_list (Nat.succ.inj (Nat.succ.inj h)); exact ⟨a, b, c, d, rfl⟩
theorem lst6 {l : List Value} (h : l.length = 6) : ∃ a b c d e f, l = [a, b, c, d, e, f] := by
  rcases l with _ | ⟨a, _ | ⟨b, r⟩⟩
  · cases h
  · cases h
  · obtain ⟨c, d, e, f, rfl⟩ := lst4 (Nat.succ.inj (Nat.succ.inj h)); exact ⟨a, b, c, d, e, f, rfl⟩
theorem bd_wide2 (pm cd doc u v : Value) : bindArgs (PySem.Calls.docDef wideD.name wideD.params wideD.body wideD.scope pm cd doc) ⟨[u, v], []⟩ = pure ((wideD.params.args.map (·.arg)).zip [u, v]) := by kernel_rfl
theorem bd_asm2 (pm cd doc u v : Value) : bindArgs (PySem.Calls.docDef asmD.name asmD.params asmD.body asmD.scope pm cd doc) ⟨[u, v], []⟩ = pure ((asmD.params.args.map (·.arg)).zip [u, v]) := by kernel_rfl
theorem bd_bra4 (pm cd doc a b c d : Value) : bindArgs (PySem.Calls.docDef braD.name braD.params braD.body braD.scope pm cd doc) ⟨[a, b, c, d], []⟩ = pure ((braD.params.args.map (·.arg)).zip [a, b, c, d]) := by kernel_rfl
theorem bd_ins4 (pm cd doc a b c d : Value) : bindArgs (PySem.Calls.docDef insD.name insD.params insD.body insD.scope pm cd doc) ⟨[a, b, c, d], []⟩ = pure ((insD.params.args.map (·.arg)).zip [a, b, c, d]) := by kernel_rfl
theorem bd_bub6 (pm cd doc a b c d e f : Value) : bindArgs (PySem.Calls.docDef bubD.name bubD.params bubD.body bubD.scope pm cd doc) ⟨[a, b, c, d, e, f], []⟩ = pure ((bubD.params.args.map (·.arg)).zip [a, b, c, d, e, f]) := by kernel_rfl
theorem bd_wide : BdOK wideD := fun pm cd doc vals h => by
  have q := congrArg (·.1) ln_q
  obtain ⟨u, v, rfl⟩ := lst2 (h.trans q); exact bd_wide2 pm cd doc u v
theorem bd_asm : BdOK asmD := fun pm cd doc vals h => by
  have q := congrArg (·.2.1) ln_q
  obtain ⟨u, v, rfl⟩ := lst2 (h.trans q); exact bd_asm2 pm cd doc u v
theorem bd_bra : BdOK braD := fun pm cd doc vals h => by
  have q := congrArg (·.2.2.1) ln_q
  obtain ⟨a, b, c, d, rfl⟩ := lst4 (h.trans q); exact bd_bra4 pm cd doc a b c d
theorem bd_ins : BdOK insD := fun pm cd doc vals h => by
  have q := congrArg (·.2.2.2.1) ln_q
  obtain ⟨a, b, c, d, rfl⟩ := lst4 (h.trans q); exact bd_ins4 pm cd doc a b c d
theorem bd_bub : BdOK bubD := fun pm cd doc vals h => by
  have q := congrArg (·.2.2.2.2) ln_q
  obtain ⟨a, b, c, d, e, f, rfl⟩ := lst6 (h.trans q); exact bd_bub6 pm cd doc a b c d e f
noncomputable abbrev dFD (d : DefRec) (cd : Value) : FD := ⟨d.params.args.map (·.arg), d.body, d.scope, cd, d.name ++ ".<locals>."⟩
theorem def_fn (w : World) (M : MpuAt s.heap es n) (ha : s.heap.get? a = some o) (hI : FixI o ns) (T : Top qP (looseW qP looseL) mean mg mb s.heap) {d : DefRec} {fa : Addr} (hd : d ∈ recsOf qP) (hm : mg d.name = some (.ref fa)) (hq : defQ d = true)
    (hb : BdOK d) : ∃ cd, FnOK (cx w s a).h₀ fa (dFD d cd) := by
  obtain ⟨fa', of, pm, cd, doc, h1, h2, h3, h4⟩ := T.fn d hd
  rw [hm] at h1; cases h1
  unfold defQ at hq
  simp only [Bool.and_eq_true, Bool.not_eq_true', List.all_eq_true] at hq
  obtain ⟨⟨⟨⟨k1, k2⟩, k3⟩, k4⟩, k5⟩ := hq
  refine ⟨cd, ⟨of, _, cx_keep w h2 (ne80_data M h2 (by rw [h3]; nofun)) (neA_data ha hI h2 (fun _ _ => by rw [h3]; nofun)), h3, ?_, rfl, rfl, rfl, rfl, rfl, rfl, fun vals hv => ?_⟩, fun y hy e => ?_, fun y hy => ?_, k3, k4, ?_⟩
  · refine El_eeeeaaa h4 fun c oc vs t hr4 g d e => ?_; obtain rfl := hr4; try clear h4
    refine ⟨c, oc, vs, t, rfl, cx_keep w g (ne80_data M g ?_) (neA_data ha hI g (fun _ _ => by rw [d]; nofun)), d, e⟩
    rw [d]; intro q; injection q with q; subst q; cases e
  · exact hb pm cd doc vals (by have := hv; rw [List.length_map] at this; exact this)
  · have := k1 y hy; rw [e] at this; cases this
  · have := k2 y hy
    rw [lk_lookup] at this
    split at this
    · assumption
    · cases this
  · split at k5
    · assumption
    · cases k5
noncomputable def initQ : Bool := match (clsB[15]? : Option Stmt) with
  | some (.FunctionDef _ args _ _ _ _ sc _ _ _) => (match args.defaults with | [] => false | _ => true) && sc.names.all (fun x => match x.2 with | .cell => false | _ => true) && (args.args.map (·.arg)).all (fun x => match lk sc.names x with | some .local => true | _ => false) &&
      (!sc.isCoroutine) && (!sc.isGenerator) && (match sc.kind with | .function => true | _ => false) && Nat.beq args.args.length 3
  | _ => false
theorem init_ok : initQ = true := by kernel_rfl
theorem init_mem : ∃ x, (x, 15, 36) ∈ metNames := by
  obtain ⟨x, hx⟩ := fnAt_mem (show fnAt metNames 36 = some 15 by kernel_rfl)
  exact ⟨x, hx⟩
noncomputable def initN : List Str := match (clsB[15]? : Option Stmt) with
  | some (.FunctionDef _ args _ _ _ _ _ _ _ _) => args.args.map (·.arg)
  | _ => []
theorem initN_eq : initN = [nS [115, 101, 108, 102], nMem, nPc] := by kernel_rfl
theorem init_peek (S : Setting) (x v1 v2 : Value) (dd : Option Addr) (m : Nat) (sl : Array (Option Value)) (t : Tok) :
    (match (fObj 15 36).data with | .func fd => peek [(29, ⟨.type "tuple", dd, .seq ⟨[.none, .int 0 t]⟩ m, sl⟩)] S (bindArgs fd ⟨[x], [(nMem, v1), (nPc, v2)]⟩) | _ => none) = some ([nS [115, 101, 108, 102], nMem, nPc].zip [x, v1, v2]) := by kernel_rfl
theorem two_bare : ∀ {l : List Value}, l.map bare = [.none, .int 0 0] → ∃ t, l = [.none, .int 0 t]
  | [], h => by cases h
  | [_], h => by simp at h
  | _ :: _ :: _ :: _, h => by simp at h
  | [u, v], h => by
    simp only [List.map_cons, List.map_nil, List.cons.injEq, and_true] at h
    obtain ⟨t, rfl⟩ := bare_int h.2
    have h1 := h.1
    have : u = .none := by cases u <;> simp [bare] at h1 <;> rfl
    subst this
    exact ⟨t, rfl⟩
theorem make_ok {h : Heap} (B : MpuB h es n) (hl : h.NoLimit) {X : Cx} (hX : X.h₀ = h) : MakeOK X 1428 36 dI nMem nPc := by
  obtain ⟨K, hK⟩ := cls_ok B hl
  obtain ⟨x, hx⟩ := init_mem
  have F := B.fns _ hx
  have C := code_rec B hx
  have ok := init_ok
  unfold initQ at ok
  split at ok
  · rename_i name args body _ _ _ sc _ _ _ hcl
    simp only [Bool.and_eq_true, Bool.not_eq_true', List.all_eq_true] at ok
    obtain ⟨⟨⟨⟨⟨⟨k0, k1⟩, k2⟩, k3⟩, k4⟩, k5⟩, k6⟩ := ok
    have e : dI = ⟨args.args.map (·.arg), body, sc, .ref 35, fQual 15 ++ ".<locals>."⟩ := by unfold dI; rw [hcl]; rfl
    have kd : sc.kind = .function := by
      split at k5
      · assumption
      · cases k5
    have hn : args.args.map (·.arg) = [nS [115, 101, 108, 102], nMem, nPc] := by
      have := initN_eq
      unfold initN at this
      rw [hcl] at this; exact this
    obtain ⟨od, g29, e29⟩ := B.dflt
    refine El_aeea (seq_is e29) fun c29 xs m d29 b29 => ?_
    have hxs : ∃ t, xs = ⟨[.none, .int 0 t]⟩ := by
      obtain ⟨l⟩ := xs
      obtain ⟨t, e⟩ := two_bare b29
      exact ⟨t, by have : l = _ := e; rw [this]⟩
    obtain ⟨t, rfl⟩ := hxs
    have PK := init_peek
    dsimp only at F C
    unfold fQual at C
    unfold fObj at F PK
    rw [hcl] at F C PK
    refine ⟨⟨K, hX ▸ hK.ok.X, hK.mks, hK.kp, hK.ini, hK.ty⟩, ⟨_, _, hX ▸ F, rfl, hX ▸ C, by rw [e], by rw [e], rfl, rfl, by rw [e], ?_, fun s hs y v1 v2 => ?_⟩, by rw [e]; dsimp only; rw [hn]; rfl, fun y hy q => ?_, fun y hy => ?_, by rw [e]; exact k3, by rw [e]; exact k4, by rw [e]; exact kd, hX ▸ hl⟩
    · rw [e]; show _ = fQual 15 ++ ".<locals>."
      unfold fQual; rw [hcl]
    · intro M A E Q hQ
      have KI : Frag.In [(29, od)] s.heap := by
        intro b ob hb
        have := lookup_in hb
        simp only [List.mem_cons, Prod.mk.injEq, List.not_mem_nil, or_false] at this
        obtain ⟨rfl, rfl⟩ := this
        exact hs _ _ (hX ▸ g29)
      obtain ⟨oc, oo, odt, osl⟩ := od
      dsimp only at c29 d29
      subst c29 d29
      have := Looks.of_peek (M := M) KI (PK ⟨M.prog, M.w.params⟩ y v1 v2 oo m osl t)
      exact this.here (by rw [e] at hQ; dsimp only at hQ; rw [hn] at hQ; exact hQ)
    · rw [e] at hy; have := k1 y hy; rw [q] at this; cases this
    · rw [e] at hy ⊢
      have := k2 y hy
      rw [lk_lookup] at this
      split at this
      · assumption
      · cases this
  · cases ok
theorem kenA_ok (w : World) (M : MpuAt s.heap es n) (ha : s.heap.get? a = some o) (hI : FixI o ns) (hn : ns.length ≤ 63) (T : Top qP (looseW qP looseL) mean mg mb s.heap) : KenOK (cx w s a) (kA (cx w s a).prog (cx w s a).w) := by
  have W := wok w M ha hI hn T.nolimit T.g T.bmain
  refine ⟨⟨W.cls, W.fns, fun fa t g e => (by cases e)⟩, fun x av e => ?_, fun C fI d n1 n2 e => (by cases e), fun p w' e => ?_⟩
  · exact glob_w w M ha hI T (x := (x, av)) (List.mem_append_right _ (lk_mem (show lk aNames x = some av from e)))
  · cases e; exact ⟨rfl, rfl⟩
theorem def_cl (w : World) (M : MpuAt s.heap es n) (ha : s.heap.get? a = some o) (hI : FixI o ns) (T : Top qP (looseW qP looseL) mean mg mb s.heap) {K : Program → World → Ken} {m : Nat} (O : KenOK (cx w s a) (K (cx w s a).prog (cx w s a).w)) {d : DefRec} {fa : Addr} {cd : Value} (F : FnOK (cx w s a).h₀ fa (dFD d cd)) {dp : Nat} {vs : List AV} {as : List AO} {Q : PV} (hd : m + 1 ≤ dp) (h : defK K d m vs as Q) : ClS (cx w s a) dp (.ref fa) vs as Q := by
  obtain ⟨k, rfl⟩ : ∃ k, dp = k + 1 := ⟨dp - 1, by lia⟩
  refine cl_def (d := dFD d cd) F (lim_get w M ha hI T.nolimit) (by rw [List.length_map]; exact h.1) ?_
  exact exs_dp ((specX O 300).exs m _ _ _ _ (h.2 _ _ cd)) (by exact Nat.le_of_lt_succ hd)
structure Defs (X : Cx) : Prop where
  f1 : ∃ cd, FnOK X.h₀ 1439 (dFD wideD cd)
  f2 : ∃ cd, FnOK X.h₀ 1446 (dFD asmD cd)
  f3 : ∃ cd, FnOK X.h₀ 1453 (dFD braD cd)
  f4 : ∃ cd, FnOK X.h₀ 1460 (dFD insD cd)
  f5 : ∃ cd, FnOK X.h₀ 1467 (dFD bubD cd)
theorem defs_at (w : World) (M : MpuAt s.heap es n) (ha : s.heap.get? a = some o) (hI : FixI o ns) (T : Top qP (looseW qP looseL) mean mg mb s.heap) : Defs (cx w s a) := by
  have O := own_at M T
  have nq := nm_q
  have dq := def_q
  simp only [Prod.mk.injEq] at nq dq
  exact ⟨def_fn w M ha hI T (d := wideD) (by rw [recs_eq]; exact .head _) (by rw [nq.1]; exact O.o2) dq.1 bd_wide,
    def_fn w M ha hI T (d := asmD) (by rw [recs_eq]; exact .tail _ (.head _)) (by rw [nq.2.1]; exact O.o3) dq.2.1 bd_asm,
    def_fn w M ha hI T (d := braD) (by rw [recs_eq]; exact .tail _ (.tail _ (.head _))) (by rw [nq.2.2.1]; exact O.o4) dq.2.2.1 bd_bra,
    def_fn w M ha hI T (d := insD) (by rw [recs_eq]; exact .tail _ (.tail _ (.tail _ (.head _)))) (by rw [nq.2.2.2.1]; exact O.o5) dq.2.2.2.1 bd_ins,
    def_fn w M ha hI T (d := bubD) (by rw [recs_eq]; exact .tail _ (.tail _ (.tail _ (.tail _ (.head _))))) (by rw [nq.2.2.2.2]; exact O.o6) dq.2.2.2.2 bd_bub⟩
theorem kenB_ok (w : World) (M : MpuAt s.heap es n) (ha : s.heap.get? a = some o) (hI : FixI o ns) (hn : ns.length ≤ 63) (T : Top qP (looseW qP looseL) mean mg mb s.heap) : KenOK (cx w s a) (kB (cx w s a).prog (cx w s a).w) := by
  have W := wok w M ha hI hn T.nolimit T.g T.bmain
  have D := defs_at w M ha hI T
  have OA := kenA_ok w M ha hI hn T
  have O := own_at M T
  refine ⟨⟨W.cls, W.fns, fun fa t g e => ?_⟩, fun x av e => ?_, fun C fI d n1 n2 e => (by cases e), fun p w' e => ?_⟩
  · have e : bP fa = some (t, g) := e
    unfold bP at e
    cases q1 : Nat.beq fa 1439 with
    | true =>
      rw [q1] at e
      have e : some (2, defP wideD) = some (t, g) := e
      cases e; have := Nat.eq_of_beq_eq_true q1; subst this
      obtain ⟨cd, F⟩ := D.f1
      exact ⟨F.at, fun dp vs as Q hd h => def_cl w M ha hI T OA F hd h⟩
    | false =>
      rw [q1] at e
      cases q2 : Nat.beq fa 1453 with
      | true =>
        rw [q2] at e
        have e : some (2, defP braD) = some (t, g) := e
        cases e; have := Nat.eq_of_beq_eq_true q2; subst this
        obtain ⟨cd, F⟩ := D.f3
        exact ⟨F.at, fun dp vs as Q hd h => def_cl w M ha hI T OA F hd h⟩
      | false => rw [q2] at e; cases e
  · rcases List.mem_append.mp (lk_mem (show lk bNames x = some av from e)) with m | m
    · exact glob_w w M ha hI T (x := (x, av)) (List.mem_append_right _ m)
    · cases m with
      | head _ => exact ⟨_, glob_ref w M ha hI T O.o2, rfl⟩
      | tail _ m => cases m with
        | head _ => exact ⟨_, glob_ref w M ha hI T O.o4, rfl⟩
        | tail _ m => cases m
  · cases e; exact ⟨rfl, rfl⟩
theorem ken_ok (w : World) (M : MpuAt s.heap es n) (ha : s.heap.get? a = some o) (hI : FixI o ns) (hn : ns.length ≤ 63) (T : Top qP (looseW qP looseL) mean mg mb s.heap) : KenOK (cx w s a) kN := by
  have W := wok w M ha hI hn T.nolimit T.g T.bmain
  have D := defs_at w M ha hI T
  have OA := kenA_ok w M ha hI hn T
  have OB := kenB_ok w M ha hI hn T
  refine ⟨⟨W.cls, W.fns, fun fa t g e => ?_⟩, fun x av e => ?_, fun C fI d n1 n2 e => ?_, fun p w' e => (by cases e)⟩
  · have e : lP fa = some (t, g) := e
    unfold lP at e
    cases q1 : Nat.beq fa 85 with
    | true =>
      rw [q1] at e
      have e : some (5, wrapP) = some (t, g) := e
      cases e; have := Nat.eq_of_beq_eq_true q1; subst this
      refine ⟨?_, fun dp vs as Q hd h => wrap_ok W hd h⟩
      obtain ⟨o, fd, a, b, _⟩ := W.fnW.ex
      exact ⟨o, fd, a, b⟩
    | false =>
    rw [q1] at e
    cases q2 : Nat.beq fa 43 with
    | true =>
      rw [q2] at e
      have e : some (12, stepP) = some (t, g) := e
      cases e; have := Nat.eq_of_beq_eq_true q2; subst this
      refine ⟨(W.fns 43 dS dS_eq).at, fun dp vs as Q hd h => ?_⟩
      refine El_eeeeeaaaaaa h fun i d q m m' hr5 h1 h2 h3 hc9 sp hQ => ?_; obtain rfl := hr5; obtain ⟨f1, f2, f3, f4⟩ := hc9; try clear h
      exact step_cl W sp f1 f2 f3 f4 hd h1 h2 h3 hQ
    | false =>
    rw [q2] at e
    cases q3 : Nat.beq fa 1446 with
    | true =>
      rw [q3] at e
      have e : some (2, defP asmD) = some (t, g) := e
      cases e; have := Nat.eq_of_beq_eq_true q3; subst this
      obtain ⟨cd, F⟩ := D.f2
      exact ⟨F.at, fun dp vs as Q hd h => def_cl w M ha hI T OA F hd h⟩
    | false =>
    rw [q3] at e
    cases q4 : Nat.beq fa 1460 with
    | true =>
      rw [q4] at e
      have e : some (5, defK kB insD 4) = some (t, g) := e
      cases e; have := Nat.eq_of_beq_eq_true q4; subst this
      obtain ⟨cd, F⟩ := D.f4
      exact ⟨F.at, fun dp vs as Q hd h => def_cl w M ha hI T OB F hd h⟩
    | false =>
    rw [q4] at e
    cases q5 : Nat.beq fa 1467 with
    | true =>
      rw [q5] at e
      have e : some (5, defK kB bubD 4) = some (t, g) := e
      cases e; have := Nat.eq_of_beq_eq_true q5; subst this
      obtain ⟨cd, F⟩ := D.f5
      exact ⟨F.at, fun dp vs as Q hd h => def_cl w M ha hI T OB F hd h⟩
    | false => rw [q5] at e; cases e
  · rcases List.mem_append.mp (lk_mem (show lk (biNames ++ ownNames) x = some av from e)) with m | m
    · exact glob_w w M ha hI T (x := (x, av)) (List.mem_append_left _ m)
    · exact own_in (G := GlobV (cx w s a)) (fun x v h => glob_ref w M ha hI T h) (own_at M T) m
  · have e : some ((1428 : Addr), (36 : Addr), dI, nMem, nPc) = some (C, fI, d, n1, n2) := e
    simp only [Option.some.injEq, Prod.mk.injEq] at e
    obtain ⟨rfl, rfl, rfl, rfl, rfl⟩ := e
    exact make_ok (mpuB w M ha hI hn) (lim_get w M ha hI T.nolimit) rfl
end
end
end Mine

end
section
open PySem PySem.W PyProof.Rows PySem.SeqAt
set_option backward.match.sparseCases false
namespace Mine
noncomputable section
noncomputable def kR : Ken := ⟨mD, fun _ => none, lk biNames, none, none⟩
noncomputable abbrev FR (cd : Value) (q : Str) (j : Nat) : Fm := ⟨rankD.scope, [(v_record, .obj j)], lCells, cd, q⟩
section
variable (w s f : Bool) (K : Int → Int → Int → Prop)
noncomputable def rkF (nu t : Int) : Prop := ifB f (K (-nu) nu t) (K nu nu t)
noncomputable def rkE (nu t : Int) : Prop := ifB s (ifB (decide (t.fdiv 2 ≤ nu)) (rkF f K (nu - t) t) (ifB (decide (t.fdiv 2 ≤ nu)) (rkF f K (nu - t) t) (rkF f K nu t))) (ifB s (rkF f K (nu - t) t) (rkF f K nu t))
noncomputable def rkT (a b : Int) : Prop := ifB w (((9 : Nat) ≤ 64 ∨ Builtin.Int.intBits b ≤ 64) ∧ ifB w (rkE s f K (a + 256 * b) 65536) (rkE s f K (a + 256 * b) 256)) (ifB w (rkE s f K b 65536) (rkE s f K b 256))
end
theorem vR {n j : Nat} (h : (n = 3 ∨ n = 4 ∨ n = 5) ∧ j < n) (cd : Value) (q : Str) (z : Zp) (pt pl : List Int) (M : MS) (Q : PF) : lxs kR 40 38 (FR cd q (6 + j)) rankD.body (ZM n z pt pl M) Q = rkT z.w z.s z.f (fun v u t => Q (.ret (.int v)) [(v_record, .obj (6 + j)), (v_number, .int u), (v_top, .int t)] (ZM n z pt pl M)) (ra z.r j) (rb z.r j) := by
  have hj : j = 0 ∨ j = 1 ∨ j = 2 ∨ j = 3 ∨ j = 4 := by omega
  obtain ⟨hn, hj'⟩ := h
  rcases hn with rfl | rfl | rfl <;> rcases hj with rfl | rfl | rfl | rfl | rfl <;> first | exact absurd hj' (by decide) | kernel_rfl
theorem rk_num {w s f : Bool} {A B : Nat → Nat} {j : Nat} {K : Int → Int → Int → Prop} (h : ∀ u t, K (key5 w s f A B j) u t) {nu t : Int} (e : nu = num w s (A j) (B j)) : rkF f K nu t := by
  subst e
  cases f with
  | true => exact h _ _
  | false => exact h _ _
theorem rk_top {w s f : Bool} {A B : Nat → Nat} {j : Nat} {K : Int → Int → Int → Prop} (h : ∀ u t, K (key5 w s f A B j) u t) {nu t : Int} (e : s = false → nu = num w s (A j) (B j)) (e1 : s = true → t.fdiv 2 ≤ nu → nu - t = num w s (A j) (B j)) (e2 : s = true → ¬ t.fdiv 2 ≤ nu → nu = num w s (A j) (B j)) : rkE s f K nu t := by
  cases s with
  | false => exact rk_num h (e rfl)
  | true =>
    show ifB (decide (t.fdiv 2 ≤ nu)) _ _
    by_cases q : t.fdiv 2 ≤ nu
    · rw [decide_eq_true q]; exact rk_num h (e1 rfl q)
    · rw [decide_eq_false q]; exact rk_num h (e2 rfl q)
theorem rk_key {w s f : Bool} {A B : Nat → Nat} {j : Nat} {K : Int → Int → Int → Prop} (ha : A j < 256) (hb : B j < 256) (h : ∀ u t, K (key5 w s f A B j) u t) : rkT w s f K (A j) (B j) := by
  cases w with
  | true =>
    refine ⟨.inl (by decide), rk_top h (fun e => by subst e; rfl) (fun e q => ?_) fun e q => ?_⟩
    · have q : (32768 : Int) ≤ (A j : Int) + 256 * (B j : Int) := q
      subst e
      show (A j : Int) + 256 * (B j : Int) - 65536 = (A j : Int) + 256 * sgn (B j)
      rw [sgn_neg (by lia)]; lia
    · have q : ¬ (32768 : Int) ≤ (A j : Int) + 256 * (B j : Int) := q
      subst e
      show (A j : Int) + 256 * (B j : Int) = (A j : Int) + 256 * sgn (B j)
      rw [sgn_pos (by lia)]
  | false =>
    refine rk_top h (fun e => by subst e; rfl) (fun e q => ?_) fun e q => ?_
    · have q : (128 : Int) ≤ (B j : Int) := q
      subst e
      show (B j : Int) - 256 = sgn (B j)
      rw [sgn_neg (by lia)]
    · have q : ¬ (128 : Int) ≤ (B j : Int) := q
      subst e
      show (B j : Int) = sgn (B j)
      rw [sgn_pos (by lia)]
structure NestOK (X : Cx) (cd : Value) : Prop where
  ex : ∃ c mg, cd = .ref c ∧ CodeHd X.h₀ c TBL.P ∧ X.h₀.Ns 3 mg ∧ X.h₀.BuiltinsAt mg TBL.P
  he : TBL ∈ X.T.tabs
  hu : ∀ e' ∈ X.T.tabs, e'.P = TBL.P → e' = TBL
  lim : X.h₀.NoLimit
theorem e20 : stL 20 = .FunctionDef rankD.name rankD.params rankD.body [] none [] rankD.scope none rankD.name rankD.pos := by kernel_rfl
theorem hd20 : rankD.params.defaults = [] ∧ rankD.params.kw_defaults = [] := ⟨by kernel_rfl, by kernel_rfl⟩
theorem an20 (env : Env) : annTrees rankD.params none env = [] := by kernel_rfl
theorem k20 : isKind .local lawD.scope rankD.name = true := by kernel_rfl
theorem q20 (cd : Value) : TBL.qual = (lF cd).qual ++ rankD.name := rfl
theorem c20 : cloA lCells rankD.scope.names [] = some lCells := by kernel_rfl
theorem d20 : (defQ rankD && Nat.beq rankD.params.args.length 1) = true := by kernel_rfl
theorem b20 (clos : List (Str × Addr)) (doc pm cd ctv v : Value) : bindArgs (fnX rankD.name TBL.qual rankD.params rankD.body rankD.scope clos .none .none doc pm none cd ctv) ⟨[v], []⟩ = pure ((rankD.params.args.map (·.arg)).zip [v]) := by kernel_rfl
noncomputable abbrev rFD (cd : Value) : FD := ⟨rankD.params.args.map (·.arg), rankD.body, rankD.scope, cd, TBL.qual ++ ".<locals>."⟩
theorem f20 (cd : Value) (j : Nat) : (⟨(rFD cd).scope, ((rFD cd).names.zip [.obj j]).reverse, lCells, (rFD cd).code, (rFD cd).qual⟩ : Fm) = FR cd (TBL.qual ++ ".<locals>.") j := by kernel_rfl
section
variable {X X' : Cx} {q : Addr}
theorem rank_clo (A : Aft X X' q rankD.name TBL.qual rankD.params rankD.body rankD.scope lCells) : ∃ cd, CloOK X' q (rFD cd) lCells := by
  obtain ⟨clos, doc, pm, c', ctv, hg, hr, hc⟩ := A.fn
  have hq := Bool.and_eq_true_iff.mp d20
  have h1 : rankD.params.args.length = 1 := Nat.eq_of_beq_eq_true hq.2
  have hq := hq.1
  unfold defQ at hq
  simp only [Bool.and_eq_true, Bool.not_eq_true', List.all_eq_true] at hq
  obtain ⟨⟨⟨⟨k1, k2⟩, k3⟩, k4⟩, k5⟩ := hq
  refine ⟨.ref c', ⟨_, _, hg, rfl, hr, rfl, rfl, rfl, rfl, rfl, rfl, fun vals hv => ?_, hc⟩, fun y hy e => ?_, fun y hy => ?_, k3, k4, ?_⟩
  · have hv : vals.length = (rankD.params.args.map (·.arg)).length := hv
    rw [List.length_map, h1] at hv
    obtain ⟨v, rfl⟩ := one_list hv
    exact b20 clos doc pm (.ref c') ctv v
  · have := k1 y hy; rw [e] at this; cases this
  · have := k2 y hy
    rw [lk_lookup] at this
    split at this
    · assumption
    · cases this
  · split at k5
    · assumption
    · cases k5
theorem lk_app {α : Type} {x : Str} {a : α} {m : List (Str × α)} : ∀ {l : List (Str × α)}, lk l x = some a → lk (l ++ m) x = some a
  | [], h => nosome h
  | (y, v) :: r, h => by
    unfold lk at h
    show (match seq y x with | true => some v | false => lk (r ++ m) x) = some a
    cases q : seq y x with
    | true => rw [q] at h; exact h
    | false => rw [q] at h; exact lk_app h
theorem kR_ok (O : KenOK X kN) (k : ∀ b o, X.h₀.get? b = some o → X'.h₀.get? b = some o) : KenOK X' kR := by
  refine ⟨?_, fun x av e => ?_, fun _ _ _ _ _ e => (by cases e), fun _ _ e => (by cases e)⟩
  · obtain ⟨⟨K, hK⟩, hf, hp⟩ := O.cls
    exact ⟨⟨K, hK.keeps k⟩, fun fa d e => (hf fa d e).keeps k, fun fa t g e => (by cases e)⟩
  · have e2 : kN.gv x = some av := by
      show lk (biNames ++ ownNames) x = some av
      exact lk_app e
    obtain ⟨v, ⟨mg, mb, h1, h2, h3⟩, V⟩ := O.gvs x av e2
    exact ⟨v, ⟨mg, mb, h1.keeps k, h2.keeps k, h3⟩, V⟩
theorem objs_get {n k j : Nat} {v : AV} (hn : n = 3 ∨ n = 4 ∨ n = 5) (h : (objs n k)[j]? = some v) : j < n ∧ v = .obj (k + 1 + j) := by
  rcases hn with rfl | rfl | rfl <;> rcases j with _ | _ | _ | _ | _ | j <;> first | (cases h; exact ⟨by decide, rfl⟩) | exact nosome h
theorem objs_len {n k : Nat} (hn : n = 3 ∨ n = 4 ∨ n = 5) : (objs n k).length = n := by
  rcases hn with rfl | rfl | rfl <;> rfl
noncomputable def keysL (w s f : Bool) (A B : Nat → Nat) (n : Nat) : List Int := (List.range n).map (key5 w s f A B)
theorem rank_keys (O : KenOK X' kR) (lim : X'.h₀.NoLimit) (Af : Aft X X' q rankD.name TBL.qual rankD.params rankD.body rankD.scope lCells) {n : Nat} (hn : n = 3 ∨ n = 4 ∨ n = 5) {z : Zp} {A B : Nat → Nat} (hr : z.r = recN A B) (hA : ∀ i, A i < 256) (hB : ∀ i, B i < 256) (pt pl : List Int) (M : MS) :
    KeyS X' 39 q (objs n 5) (ZM n z pt pl M) (keysL z.w z.s z.f A B n) := by
  intro j v k hv hk
  obtain ⟨hj, rfl⟩ := objs_get hn hv
  unfold keysL at hk
  rw [List.getElem?_map, List.getElem?_range hj] at hk
  obtain rfl : key5 z.w z.s z.f A B j = k := Option.some.inj hk
  obtain ⟨cd, C⟩ := rank_clo Af
  have l1 : ([.obj (5 + 1 + j)] : List AV).length = (rFD cd).names.length := by
    show 1 = (rankD.params.args.map (·.arg)).length
    rw [List.length_map, Nat.eq_of_beq_eq_true (Bool.and_eq_true_iff.mp d20).2]
  refine cl_clo (dp := 38) C lim l1 ?_
  rw [f20]
  refine (specX O 40).exs 38 _ _ _ _ (Eq.mpr (vR ⟨hn, hj⟩ cd _ z pt pl M _) ?_)
  obtain ⟨ea, eb⟩ := ra_c A B (j := j) (by lia)
  rw [hr, ea, eb]
  exact rk_key (hA j) (hB j) fun u t => ⟨rfl, rfl⟩
end
end
end Mine

end
section
open PySem PySem.W PyProof.Rows PySem.SeqAt
set_option backward.match.sparseCases false
namespace Mine
noncomputable section
noncomputable abbrev LV (n : Nat) (lo hi p en ct : Int) (q : Addr) : Loc := LT n lo hi p en ct ++ [(v_rank, .addr q)]
noncomputable abbrev LW (n : Nat) (lo hi p en ct : Int) (q : Addr) : Loc := LV n lo hi p en ct q ++ [(v_ordered, .obj (13 + n))]
noncomputable def lst (n : Nat) (Y : Nat → AV) : List AV := match n with
  | 3 => [Y 0, Y 1, Y 2]
  | 4 => [Y 0, Y 1, Y 2, Y 3]
  | _ => [Y 0, Y 1, Y 2, Y 3, Y 4]
theorem lst_map {n : Nat} (hn : n = 3 ∨ n = 4 ∨ n = 5) (Y : Nat → AV) : lst n Y = (List.range n).map Y := by
  rcases hn with rfl | rfl | rfl <;> rfl
theorem lst_eq {n : Nat} (hn : n = 3 ∨ n = 4 ∨ n = 5) {L : List AV} (h : L.length = n) : lst n (fun t => L.getD t .none) = L := by
  rw [lst_map hn]
  refine List.ext_getElem? fun t => ?_
  rw [List.getElem?_map]
  by_cases c : t < n
  · rw [List.getElem?_range c, List.getElem?_eq_getElem (by rw [h]; exact c)]
    show some (L.getD t .none) = _
    rw [List.getD_eq_getElem?_getD, List.getElem?_eq_getElem (by rw [h]; exact c)]; rfl
  · rw [List.getElem?_eq_none (by rw [List.length_range]; exact Nat.le_of_not_lt c), List.getElem?_eq_none (by rw [h]; exact Nat.le_of_not_lt c)]; rfl
noncomputable abbrev ZP (n : Nat) (z : Zp) (pt : List Int) (pa : AO) (M : MS) (Y : Nat → AV) : List AO := Zz n z ++ [.ints M.mem, .intx pt, pa, .dict (esL M (8 + n)), .inst 1428 (11 + n), .list (lst n Y)]
noncomputable def srtX : Expr → Str × Pos × Expr × Expr × Pos × Pos
  | .Call (.Name x p) [e] [⟨_, g, p1⟩] pos => (x, p, e, g, p1, pos)
  | e => (⟨⟨[]⟩⟩, default, e, e, default, default)
noncomputable abbrev s21 : Str × Pos × Expr × Expr × Pos × Pos := srtX (valX (stL 21))
theorem e21 : stL 21 = .Assign [.Name v_ordered (asgX (stL 21)).2.1] (.Call (.Name s21.1 s21.2.1) [s21.2.2.1] [⟨some (Str.ofString "key"), s21.2.2.2.1, s21.2.2.2.2.1⟩] s21.2.2.2.2.2) (asgX (stL 21)).2.2.2 := by kernel_rfl
theorem n21 : noComp (.Call (.Name s21.1 s21.2.1) [s21.2.2.1] [⟨some (Str.ofString "key"), s21.2.2.2.1, s21.2.2.2.2.1⟩] s21.2.2.2.2.2) = true := by kernel_rfl
theorem k21 : (isKind .globalImplicit lawD.scope s21.1 && noStar [s21.2.2.1]) = true := by kernel_rfl
theorem g21 : kR.gv s21.1 = some (.bi "sorted") := by kernel_rfl
noncomputable def tupX : List Stmt → List Expr × Expr × Nat × Pos × Pos
  | [.Assign [.Tuple ts k p] e q] => (ts, e, k, p, q)
  | _ => ([], noExpr, 0, default, default)
noncomputable abbrev a22X : List Expr × Expr × Nat × Pos × Pos := tupX (forBody 22)
theorem f22 : forBody 22 = [.Assign [.Tuple a22X.1 a22X.2.2.1 a22X.2.2.2.1] a22X.2.1 a22X.2.2.2.2] := by kernel_rfl
theorem h22 : (noComp a22X.2.1 && (noSwap a22X.1 a22X.2.1 && (noStar a22X.1 && Nat.beq a22X.1.length 2))) = true := by kernel_rfl
noncomputable def sF (A B : Nat → Nat) (lo hi : Nat) (r : List Nat) (F : Nat → Nat) : Nat → Nat → Nat
  | 0 => F
  | k + 1 => up (up (sF A B lo hi r F k) (lo + k) (A (gtL r k))) (hi + k) (B (gtL r k))
noncomputable def g23 (mm : List Int) : Nat → Nat → List Int → (List Int → Prop) → Prop
  | 0, _, m, Q => Q m
  | k + 1, j, m, Q => ixP ((32 + j : Nat) : Int) mm ∧ ixP ((32 + j : Nat) : Int) m ∧ g23 mm k (j + 1) (m.set (32 + j) (mm.getD (32 + j) 0)) Q
section
variable (cd : Value) (lo hi p en ct : Int) (q : Addr) (as : List AO)
theorem p20 (n : Nat) : pt (LT n lo hi p en ct) rankD.name (.addr q) = LV n lo hi p en ct q := by kernel_rfl
theorem a21 (n : Nat) (Q : PV) : lv kR 20 40 (F0 cd (LV n lo hi p en ct q)) s21.2.2.1 as Q = Q (.obj 5) as := by kernel_rfl
theorem b21 (n : Nat) (Q : PV) : lv kR 20 40 (F0 cd (LV n lo hi p en ct q)) s21.2.2.2.1 as Q = Q (.addr q) as := by kernel_rfl
theorem w21 (n : Nat) (P : Loc → List AO → Prop) : storeW (F0 cd (LV n lo hi p en ct q)) v_ordered (.obj (13 + n)) as P = P (LW n lo hi p en ct q) as := by kernel_rfl
theorem e22 : stL 22 = (fP 22).st := by kernel_rfl
theorem w22 (n : Nat) (k : Int) (P : Loc → List AO → Prop) : storeW (F0 cd (LW n lo hi p en ct q)) v_place (.int k) as P = P (LW n lo hi k en ct q) as := by kernel_rfl
theorem i22 {n : Nat} (hn : n = 3 ∨ n = 4 ∨ n = 5) (z : Zp) (pt : List Int) (pa : AO) (M : MS) (Y : Nat → AV) (Q : Nat → Bnd → Chk → List AO → Prop) : itW kR (recL kR 20) 40 (F0 cd (LW n lo hi p en ct q)) (fP 22).iter (fP 22).tg (ZP n z pt pa M Y) Q = ((Small 0 ∧ Small (n : Int)) ∧ Q n (bndR v_place 0) (fun _ P => P) (ZP n z pt pa M Y)) := by
  rcases hn with rfl | rfl | rfl <;> kernel_rfl
theorem a22 {n : Nat} (hn : n = 3 ∨ n = 4 ∨ n = 5) (z : Zp) (pt : List Int) (pa : AO) (M : MS) (Y : Nat → AV) (Q : PV) : lv kR 20 40 (F0 cd (LW n lo hi p en ct q)) a22X.2.1 (ZP n z pt pa M Y) Q = ((0 ≤ p ∧ p < 2 ^ 63) ∧ onSm (lst n Y)[p.toNat]? (fun v => Q v (ZP n z pt pa M Y)) False) := by
  rcases hn with rfl | rfl | rfl <;> kernel_rfl
theorem t22i {n : Nat} (hn : n = 3 ∨ n = 4 ∨ n = 5) (z : Zp) (pt m : List Int) (M : MS) (Y : Nat → AV) (a b : Int) (P : Loc → List AO → Prop) : tgsW kR (recL kR 20) 40 (F0 cd (LW n lo hi p en ct q)) a22X.1 [.int a, .int b] (ZP n z pt (.intx m) M Y) P = (ixP (lo + p) m ∧ ixP (hi + p) (m.set (lo + p).toNat a) ∧ P (LW n lo hi p en ct q) (ZP n z pt (.ints ((m.set (lo + p).toNat a).set (hi + p).toNat b)) M Y)) := by
  rcases hn with rfl | rfl | rfl <;> kernel_rfl
theorem t22s {n : Nat} (hn : n = 3 ∨ n = 4 ∨ n = 5) (z : Zp) (pt m : List Int) (M : MS) (Y : Nat → AV) (a b : Int) (P : Loc → List AO → Prop) : tgsW kR (recL kR 20) 40 (F0 cd (LW n lo hi p en ct q)) a22X.1 [.int a, .int b] (ZP n z pt (.ints m) M Y) P = (ixP (lo + p) m ∧ ixP (hi + p) (m.set (lo + p).toNat a) ∧ P (LW n lo hi p en ct q) (ZP n z pt (.ints ((m.set (lo + p).toNat a).set (hi + p).toNat b)) M Y)) := by
  rcases hn with rfl | rfl | rfl <;> kernel_rfl
theorem v23 {n : Nat} (hn : n = 3 ∨ n = 4 ∨ n = 5) (z : Zp) (pt m : List Int) (M : MS) (Y : Nat → AV) (Q : PF) : lxs kR 60 40 (F0 cd (LW n lo hi p en ct q)) (stG 23 24) (ZP n z pt (.ints m) M Y) Q = ((Small 32 ∧ Small 36) ∧ g23 M.mem 4 0 m fun m' => Q .next (LW n lo hi 35 en ct q) (ZP n z pt (.ints m') M Y)) := by
  rcases hn with rfl | rfl | rfl <;> kernel_rfl
theorem v24 {n : Nat} (hn : n = 3 ∨ n = 4 ∨ n = 5) (z : Zp) (pt m : List Int) (M : MS) (Y : Nat → AV) (Q : PF) : lxs kR 60 40 (F0 cd (LW n lo hi p en ct q)) (stG 24 25) (ZP n z pt (.ints m) M Y) Q = ifB (M.pc == en) (ifB (M.sp == 255) (ifB (Builtin.bitAnd M.p 60 == 48) (Q (.ret (.bool (decide (M.mem = m)))) (LW n lo hi p en ct q) (ZP n z pt (.ints m) M Y)) (Q (.ret (.bool (Builtin.bitAnd M.p 60 == 48))) (LW n lo hi p en ct q) (ZP n z pt (.ints m) M Y))) (Q (.ret (.bool (M.sp == 255))) (LW n lo hi p en ct q) (ZP n z pt (.ints m) M Y))) (Q (.ret (.bool (M.pc == en))) (LW n lo hi p en ct q) (ZP n z pt (.ints m) M Y)) := by
  rcases hn with rfl | rfl | rfl <;> kernel_rfl
end
end
end Mine

end
section
open PySem PySem.W PyProof.Rows PySem.SeqAt
namespace Mine
noncomputable section
theorem sF_out {A B : Nat → Nat} {lo hi : Nat} {r : List Nat} {F : Nat → Nat} {i : Nat} : ∀ {k}, (∀ t, t < k → i ≠ lo + t ∧ i ≠ hi + t) → sF A B lo hi r F k i = F i
  | 0, _ => rfl
  | k + 1, h => by
    show up (up (sF A B lo hi r F k) (lo + k) (A (gtL r k))) (hi + k) (B (gtL r k)) i = F i
    rw [up_ne (h k (Nat.lt_succ_self k)).2, up_ne (h k (Nat.lt_succ_self k)).1]
    exact sF_out fun t ht => h t (Nat.lt_succ_of_lt ht)
theorem sF_at {A B : Nat → Nat} {lo hi : Nat} {r : List Nat} {F : Nat → Nat} {i : Nat} (d : lo + 6 ≤ hi) : ∀ {k}, k ≤ 5 → i < k → sF A B lo hi r F k (lo + i) = A (gtL r i) ∧ sF A B lo hi r F k (hi + i) = B (gtL r i)
  | 0, _, h => absurd h (Nat.not_lt_zero i)
  | k + 1, g, h => by
    show up (up (sF A B lo hi r F k) (lo + k) (A (gtL r k))) (hi + k) (B (gtL r k)) (lo + i) = _ ∧ up (up (sF A B lo hi r F k) (lo + k) (A (gtL r k))) (hi + k) (B (gtL r k)) (hi + i) = _
    by_cases q : i = k
    · subst q
      rw [up_ne (by lia), up_eq, up_eq]; exact ⟨rfl, rfl⟩
    · rw [up_ne (by lia), up_ne (by lia), up_ne (by lia), up_ne (by lia)]
      exact sF_at d (Nat.le_of_succ_le g) (by lia)
noncomputable def tF (m : Nat → Nat) : Nat → Nat → (Nat → Nat) → Nat → Nat
  | 0, _, G => G
  | k + 1, j, G => tF m k (j + 1) (up G (32 + j) (m (32 + j)))
theorem tF_out {m : Nat → Nat} {i : Nat} : ∀ k j G, (i < 32 + j ∨ 32 + j + k ≤ i) → tF m k j G i = G i
  | 0, _, _, _ => rfl
  | k + 1, j, G, h => by
    show tF m k (j + 1) (up G (32 + j) (m (32 + j))) i = G i
    rw [tF_out k (j + 1) _ (by lia), up_ne (by lia)]
theorem tF_at {m : Nat → Nat} {i : Nat} : ∀ k j G, 32 + j ≤ i → i < 32 + j + k → tF m k j G i = m i
  | 0, _, _, h, g => by lia
  | k + 1, j, G, h, g => by
    show tF m k (j + 1) (up G (32 + j) (m (32 + j))) i = _
    by_cases q : i = 32 + j
    · subst q; rw [tF_out k (j + 1) _ (by lia), up_eq]
    · exact tF_at k (j + 1) _ (by lia) (by lia)
theorem g23_of {m : Nat → Nat} {Q : List Int → Prop} : ∀ k j G, j + k ≤ 4 → Q (memL 1088 (tF m k j G)) → g23 (memL 1088 m) k j (memL 1088 G) Q
  | 0, _, _, _, h => h
  | k + 1, j, G, q, h => by
    refine ⟨ix_ok (32 + j) rfl (by lia), ix_ok (32 + j) rfl (by lia), ?_⟩
    rw [memL_get (by lia), memL_set (by lia)]
    exact g23_of k (j + 1) _ (by lia) h
theorem fin5 {n lo hi : Nat} (Z : Lie n lo hi) {A B F m : Nat → Nat} {r : List Nat} (R : Rw n lo hi (tA F lo) (tA F hi) F r m) (hr : ∀ i, i < n → gtL r i < n) (hF : ∀ i, i < n → F (lo + i) = A i ∧ F (hi + i) = B i) : m = tF m 4 0 (sF A B lo hi r F n) := by
  have n5 := Z.n5
  have l1 := Z.l1
  have l2 := Z.l2
  have h1 := Z.h1
  funext i
  by_cases c : 32 ≤ i ∧ i < 36
  · exact (tF_at 4 0 _ c.1 c.2).symm
  · rw [tF_out 4 0 _ (by lia)]
    by_cases e : ∃ t, t < n ∧ (i = lo + t ∨ i = hi + t)
    · obtain ⟨t, ht, rfl | rfl⟩ := e
      · rw [(sF_at (by lia) n5 ht).1, (R.row t ht).1]
        exact (hF _ (hr t ht)).1
      · rw [(sF_at (by lia) n5 ht).2, (R.row t ht).2]
        exact (hF _ (hr t ht)).2
    · have no : ∀ t, t < n → i ≠ lo + t ∧ i ≠ hi + t := fun t ht => ⟨fun q => e ⟨t, ht, .inl q⟩, fun q => e ⟨t, ht, .inr q⟩⟩
      rw [sF_out no]
      exact R.fr i no (by lia)
theorem p_and5 (n v z c : Bool) : (Builtin.bitAnd (pOf n v z c) 60 == 48) = true := by
  cases n <;> cases v <;> cases z <;> cases c <;> decide +kernel
section
variable {X : Cx} {cd : Value} {Q : PF}
theorem part20 (O : KenOK X kN) (N : NestOK X cd) {n : Nat} {lo hi p en ct : Int} {as : List AO} {rest : List Stmt}
    (h : ∀ X' q, KenOK X' kR → X'.h₀.NoLimit → Aft X X' q rankD.name TBL.qual rankD.params rankD.body rankD.scope lCells → ExsS X' 40 (F0 cd (LV n lo hi p en ct q)) rest as Q) :
    ExsS X 40 (F0 cd (LT n lo hi p en ct)) (stL 20 :: rest) as Q := by
  obtain ⟨c, mg, rfl, hC, hg, hb⟩ := N.ex
  rw [e20]
  refine exs_nest (f := F0 (.ref c) (LT n lo hi p en ct)) hd20.1 hd20.2 an20 k20 rfl hC N.he N.hu rfl (q20 (.ref c)) hg hb c20 fun X' q A => ?_
  show ExsS X' 40 (F0 (.ref c) (pt (LT n lo hi p en ct) rankD.name (.addr q))) rest as Q
  rw [p20]
  exact h X' q (kR_ok O A.base) (N.lim.keeps A.base) A
theorem part21 (O : KenOK X kR) {q : Addr} {n : Nat} (hn : n = 3 ∨ n = 4 ∨ n = 5) {z : Zp} {pt pl : List Int} {M : MS} {lo hi p en ct : Int} {ks : List Int} (kl : ks.length = n) (KS : KeyS X 39 q (objs n 5) (ZM n z pt pl M) ks) {c : Nat → Nat → Bool} {r : Array Nat}
    (hc : ∀ i j, i < n → j < n → c i j = decide (ks.getD i 0 < ks.getD j 0)) (ha : ansR n c (kas_sort n) = some r) (hl : r.toList.length = n) (hr : ∀ x ∈ r.toList, x < n)
    (h : ∀ Y, (∀ j, j < n → Y j = .obj (5 + 1 + gtL r.toList j)) → Q .next (LW n lo hi p en ct q) (ZP n z pt (.intx pl) M Y)) : ExS X 40 (F0 cd (LV n lo hi p en ct q)) (stL 21) (ZM n z pt pl M) Q := by
  have ol := objs_len (k := 5) hn
  have k := Bool.and_eq_true_iff.mp k21
  rw [e21]
  refine st_name n21 (ev_sortK k.1 (glob_bi O g21) k.2 (by decide) ((specL O 20).ev 40 _ _ _ _ (Eq.mpr (a21 cd lo hi p en ct q _ n _) ((specL O 20).ev 40 _ _ _ _ (Eq.mpr (b21 cd lo hi p en ct q _ n _) ?_)))))
  have e5 : (ZM n z pt pl M)[5]? = some (.list (objs n 5)) := by rcases hn with rfl | rfl | rfl <;> rfl
  have zl : (ZM n z pt pl M).length = 13 + n := by rcases hn with rfl | rfl | rfl <;> rfl
  refine ⟨5, _, objs n 5, q, ks, c, r, rfl, rfl, e5, rfl, ⟨by rw [ol]; lia, by rw [ol]; lia, by rw [ol, kl]⟩, KS, by rw [ol]; exact hc, by rw [ol]; exact ha, by rw [ol]; exact hr, ?_⟩
  rw [zl]
  refine Eq.mpr (w21 cd lo hi p en ct q _ n _) ?_
  have e := lst_eq hn (L := r.toList.map fun i => (objs n 5).getD i .none) (by rw [List.length_map, hl])
  rw [← e, show ∀ l, ZM n z pt pl M ++ [AO.list l] = Zz n z ++ [.ints M.mem, .intx pt, .intx pl, .dict (esL M (8 + n)), .inst 1428 (11 + n), .list l] from fun l => List.append_assoc ..]
  refine h (fun t => (r.toList.map fun i => (objs n 5).getD i .none).getD t .none) fun j hj => ?_
  have hj' : j < r.toList.length := by rw [hl]; exact hj
  have g := hr _ (List.getElem_mem hj')
  rw [List.getD_eq_getElem?_getD, List.getElem?_map, List.getElem?_eq_getElem hj']
  show (objs n 5).getD r.toList[j] .none = _
  have gt : gtL r.toList j = r.toList[j] := by unfold gtL; rw [List.getD_eq_getElem?_getD, List.getElem?_eq_getElem hj']; rfl
  rw [gt, List.getD_eq_getElem?_getD, List.getElem?_eq_getElem (by rw [ol]; exact g)]
  have := objs_get hn (List.getElem?_eq_getElem (l := objs n 5) (i := r.toList[j]) (by rw [ol]; exact g))
  exact this.2
theorem tup_at {n i : Nat} (hn : n = 3 ∨ n = 4 ∨ n = 5) {z : Zp} {A B : Nat → Nat} (hz : z.r = recN A B) (hi : i < n) (pt : List Int) (pa : AO) (M : MS) (Y : Nat → AV) : (ZP n z pt pa M Y)[5 + 1 + i]? = some (.tuple [.int (A i), .int (B i)]) := by
  have z1 : (ZP n z pt pa M Y)[5 + 1 + i]? = some (.tuple [.int (ra z.r i), .int (rb z.r i)]) := by
    rcases hn with rfl | rfl | rfl <;> rcases i with _ | _ | _ | _ | _ | i <;> first | rfl | exact absurd hi (by lia)
  obtain ⟨ea, eb⟩ := ra_c A B (j := i) (by lia)
  rw [z1, hz, ea, eb]
theorem part22 (O : KenOK X kR) {q : Addr} {n : Nat} (hn : n = 3 ∨ n = 4 ∨ n = 5) {z : Zp} {pt : List Int} {M : MS} {lo hi : Nat} {p en ct : Int} {A B F : Nat → Nat} {r : List Nat} {Y : Nat → AV} (hz : z.r = recN A B) (hY : ∀ j, j < n → Y j = .obj (5 + 1 + gtL r j)) (hr : ∀ j, j < n → gtL r j < n) (l2 : lo ≤ 769) (h2 : hi ≤ 1025)
    (h : ∀ p, Q .next (LW n lo hi p en ct q) (ZP n z pt (.ints (memL 1088 (sF A B lo hi r F n))) M Y)) : ExS X 40 (F0 cd (LW n lo hi p en ct q)) (stL 22) (ZP n z pt (.intx (memL 1088 F)) M Y) Q := by
  rw [e22]
  have n5 : n ≤ 5 := by lia
  refine forW O (n := 20) (Eq.mpr (i22 cd lo hi p en ct q hn z pt _ M Y _) ⟨⟨⟨by decide, by decide⟩, ⟨by lia, by lia⟩⟩, ?_⟩)
  refine ⟨fun k loc as => (∃ p, loc = LW n lo hi p en ct q) ∧ as = ZP n z pt (mo1 k (memL 1088 (sF A B lo hi r F k))) M Y, fun k loc as => k < n ∧ loc = LW n lo hi k en ct q ∧ as = ZP n z pt (mo1 k (memL 1088 (sF A B lo hi r F k))) M Y, ⟨⟨p, rfl⟩, rfl⟩, fun _ _ _ _ => trivial, ?_, ?_, ?_⟩
  · rintro k loc as hk ⟨⟨p, rfl⟩, rfl⟩
    show storeW (F0 cd (LW n lo hi p en ct q)) v_place (.int (0 + (k : Int))) _ _
    rw [Int.zero_add]
    exact Eq.mpr (w22 cd lo hi p en ct q _ n _ _) ⟨hk, rfl, rfl⟩
  · rintro k loc as ⟨hk, rfl, rfl⟩
    have h2' := Bool.and_eq_true_iff.mp h22
    have h3' := Bool.and_eq_true_iff.mp h2'.2
    have h4' := Bool.and_eq_true_iff.mp h3'.2
    obtain ⟨ea, eb⟩ := ra_c A B (j := gtL r k) (Nat.lt_of_lt_of_le (hr k hk) n5)
    have eY : (lst n Y)[((k : Int)).toNat]? = some (.obj (5 + 1 + gtL r k)) := by
      rw [Int.toNat_natCast, lst_map hn, List.getElem?_map, List.getElem?_range hk, ← hY k hk]; rfl
    have e1 : (memL 1088 (sF A B lo hi r F k)).set ((lo : Int) + (k : Int)).toNat (A (gtL r k) : Int) = memL 1088 (up (sF A B lo hi r F k) (lo + k) (A (gtL r k))) := set_c (lo + k) _ (by lia) rfl (by lia)
    have e2 : (memL 1088 (up (sF A B lo hi r F k) (lo + k) (A (gtL r k)))).set ((hi : Int) + (k : Int)).toNat (B (gtL r k) : Int) = memL 1088 (sF A B lo hi r F (k + 1)) := set_c (hi + k) _ (by lia) rfl (by lia)
    have ix1 : ixP ((lo : Int) + (k : Int)) (memL 1088 (sF A B lo hi r F k)) := ix_ok (lo + k) (by lia) (by lia)
    have ix2 : ixP ((hi : Int) + (k : Int)) (memL 1088 (up (sF A B lo hi r F k) (lo + k) (A (gtL r k)))) := ix_ok (hi + k) (by lia) (by lia)
    show ExsS X 40 (F0 cd (LW n lo hi k en ct q)) (forBody 22) _ _
    rw [f22]
    refine exs_cons (st_asgT h2'.1 h3'.1 ((specL O 20).ev 40 _ _ _ _ (Eq.mpr (a22 cd lo hi k en ct q hn z pt _ M Y _) ⟨⟨by lia, by lia⟩, ?_⟩)))
    rw [eY]
    refine as_tup h4'.1 (xs := [.int (A (gtL r k)), .int (B (gtL r k))]) (o := .tuple [.int (A (gtL r k)), .int (B (gtL r k))]) (tup_at hn hz (hr k hk) ..) rfl (Nat.eq_of_beq_eq_true h4'.2).symm (tgsW_ok O (specL0 O 20) ?_)
    cases k with
    | zero =>
      refine Eq.mpr (t22i cd lo hi _ en ct q hn z pt _ M Y _ _ _) ?_
      rw [e1, e2]; exact ⟨ix1, ix2, exs_nil ⟨⟨_, rfl⟩, rfl⟩⟩
    | succ k =>
      refine Eq.mpr (t22s cd lo hi _ en ct q hn z pt _ M Y _ _ _) ?_
      rw [e1, e2]; exact ⟨ix1, ix2, exs_nil ⟨⟨_, rfl⟩, rfl⟩⟩
  · rintro loc as ⟨⟨p, rfl⟩, rfl⟩
    obtain ⟨k, rfl⟩ : ∃ k, n = k + 1 := ⟨n - 1, by lia⟩
    exact h p
theorem part23 (O : KenOK X kR) {q : Addr} {n : Nat} (hn : n = 3 ∨ n = 4 ∨ n = 5) {z : Zp} {pt : List Int} {lo hi : Nat} {p ct : Int} {en : Nat} {G : Nat → Nat} {Y : Nat → AV} {c' : Co} {e' : Ee} (hpc : c'.pc = en) (hsp : c'.sp = 255) (hm : c'.m = tF c'.m 4 0 G)
    (h : ∀ loc as, as[0]? = some (.fix z.o) → Q (.ret (.bool true)) loc as) : ExsS X 40 (F0 cd (LW n lo hi p en ct q)) (stG 23 24 ++ stG 24 25) (ZP n z pt (.ints (memL 1088 G)) (ms 1088 c' e') Y) Q := by
  refine exs_app ((specX O 60).exs 40 _ _ _ _ (Eq.mpr (v23 cd lo hi p en ct q hn z pt _ _ Y _) ⟨⟨⟨by decide, by decide⟩, ⟨by decide, by decide⟩⟩, g23_of 4 0 G (by decide) ?_⟩))
  refine (specX O 60).exs 40 _ _ _ _ (Eq.mpr (v24 cd lo hi _ en ct q hn z pt _ _ Y _) ?_)
  rw [← hm]
  have g1 : ((ms 1088 c' e').pc == (en : Int)) = true := by show ((c'.pc : Int) == (en : Int)) = true; rw [hpc]; exact beq_self_eq_true _
  have g2 : ((ms 1088 c' e').sp == (255 : Int)) = true := by show ((c'.sp : Int) == (255 : Int)) = true; rw [hsp]; rfl
  have g3 : (Builtin.bitAnd (ms 1088 c' e').p 60 == 48) = true := p_and5 _ _ _ _
  have g4 : decide ((ms 1088 c' e').mem = memL 1088 c'.m) = true := decide_eq_true rfl
  rw [g1, g2, g3, g4]
  exact ifB_t (ifB_t (ifB_t (h _ _ rfl)))
end
end
end Mine

end
section
open PySem PySem.W PyProof.Rows PySem.SeqAt
namespace Mine
noncomputable section
theorem b05 : lawD.body = (stG 0 2 ++ stG 2 3) ++ ((stG 3 5 ++ (stG 5 6 ++ (stG 6 9 ++ stG 9 11))) ++ (stL 11 :: stL 12 :: ((stG 13 15 ++ (stG 15 16 ++ stG 16 19)) ++ (stL 19 :: stL 20 :: stL 21 :: stL 22 :: (stG 23 24 ++ stG 24 25))))) := by kernel_rfl
theorem keys_get {w s f : Bool} {A B : Nat → Nat} {n i : Nat} (h : i < n) : (keysL w s f A B n).getD i 0 = key5 w s f A B i := by
  unfold keysL
  rw [List.getD_eq_getElem?_getD, List.getElem?_map, List.getElem?_range h]; rfl
theorem law05 {X : Cx} {cd : Value} (O : KenOK X kN) (hpin : X.T.pin = []) (N : NestOK X cd) (ob : Obj) (ns : List Int) (hI : FixI ob ns) (hl : ns.length ≤ 63) (Q : PF) (hQ : ∀ loc as, as[0]? = some (.fix ob) → Q (.ret (.bool true)) loc as) :
    ExsS X 40 (F0 cd lsc) lawD.body (B4 ob) Q := by
  rw [b05]
  refine exs_app (part0 O hpin hI hl fun d vs h6 h10 => ?_)
  refine exs_app (part3 O hpin h6 h10 fun n b w s f lo hi A B hn l1 l2 h1 h2 hA hB => ?_)
  have ln := Bool.and_eq_true_iff.mp (code_len hn b w s f lo hi)
  have ln1 := Nat.le_of_ble_eq_true ln.1
  have ln2 := Nat.le_of_ble_eq_true ln.2
  have F := fnd5 hn b w s f l1 l2 h1 h2 hA hB
  obtain ⟨c, a, hc, ha, hi', hu, al, ar⟩ := srt_eq hn (key5 w s f A B)
  have R := run_P hn l1 l2 h1 h2 F hc hi' hu
  have W0 := F.wf
  have Fr := F.row
  generalize codeP b w s f n lo hi = cc at ln1 ln2 W0 Fr R
  refine exs_cons (part11 O hn (z := ⟨ob, w, s, f, vs, iL cc, .cell none, recN A B⟩) ?_)
  refine exs_cons (part12 O hn (c := cc) (F := gF) rfl (by lia) ln1 ?_)
  refine exs_app (part13 O hn (A := A) (B := B) rfl (by show (iL cc).length ≤ 1000; rw [iL_len]; lia) l1 l2 h1 h2 fun p pt => ?_)
  generalize hM : inF A B lo hi n (layF gF 512 cc cc.length) = M at W0 Fr R
  have Z : Lie n lo hi := ⟨by lia, by lia, l1, l2, h1, h2⟩
  refine El_eeeaaaa (R ⟨0, 0, .bool false, .int 512⟩ W0 ⟨trivial, trivial⟩) fun k c' e' hk hr W' f' E => ?_
  obtain ⟨E1, E2, E3⟩ := E
  show ExsS X 40 (F0 cd (LR n lo hi p (512 + ((iL cc).length : Int)))) _ _ _
  rw [iL_len, show (512 : Int) + (cc.length : Int) = ((512 + cc.length : Nat) : Int) by lia]
  refine exs_cons (part19 O hn (Nat.lt_succ_of_le hk) hr ⟨trivial, trivial⟩ E1 rfl fun ct => ?_)
  refine part20 O N fun X' q O' lim A' => ?_
  have gr : ∀ j, j < n → gtL a.toList j < n := fun j hj => by
    have hj' : j < a.toList.length := by rw [al]; exact hj
    have := ar _ (List.getElem_mem hj')
    unfold gtL
    rw [List.getD_eq_getElem?_getD, List.getElem?_eq_getElem hj']; exact this
  refine exs_cons (part21 O' hn (ks := keysL w s f A B n) (by unfold keysL; rw [List.length_map, List.length_range]) (rank_keys O' lim A' hn rfl hA hB _ _ _) (fun i j hi hj => by rw [keys_get hi, keys_get hj]; exact hc i j hi hj) ha al ar fun Y hY => ?_)
  refine exs_cons (part22 O' hn rfl hY gr l2 h2 fun p => ?_)
  exact part23 O' hn E1 E2 (fin5 Z E3 gr Fr) fun loc as h => hQ loc as h
end
end Mine

end
section
open PySem PySem.W PyProof.Rows
namespace Mine
noncomputable section
theorem l_bind (pm cd doc kV : Value) (v : Value) : bindArgs { PySem.Calls.docDef lawD.name lawD.params lawD.body lawD.scope pm cd doc with defaults := .none, kwdefaults := kV } ⟨[v], []⟩ = pure ((lF cd).names.zip [v]) := by kernel_rfl
theorem l_facts (cd : Value) : (lF cd).names.length = 1 ∧ cellNs (lF cd).scope.names = [v_falling, v_signed, v_words] ∧ (lF cd).names.all (fun x => match lk lawD.scope.names x with | some .local => true | _ => false) = true ∧ (lF cd).scope.isCoroutine = false ∧ (lF cd).scope.isGenerator = false ∧ (lF cd).scope.kind = .function := ⟨by kernel_rfl, by kernel_rfl, by kernel_rfl, by kernel_rfl, by kernel_rfl, by kernel_rfl⟩
theorem l_dflt : lawD.params.defaults = [] := by kernel_rfl
section
variable {w : World} {s : Shared} {es : Array DictEntry} {n : Nat} {a : Addr} {o : Obj} {ns : List Int}
theorem law_fn (w : World) (M : MpuAt s.heap es n) (ha : s.heap.get? a = some o) (hI : FixI o ns) {fa : Addr} {of : Obj} {pm cd doc kV : Value} (ho : s.heap.get? fa = some of) (hd : of.data = .func { PySem.Calls.docDef lawD.name lawD.params lawD.body lawD.scope pm cd doc with defaults := .none, kwdefaults := kV }) (hc : s.heap.CodeRec cd lawD.name) :
    FnOKC (cx w s a).h₀ fa (lF cd) := by
  have F := l_facts cd
  refine ⟨⟨of, _, cx_keep w ho (ne80_data M ho (by rw [hd]; nofun)) (neA_data ha hI ho (fun _ _ => by rw [hd]; nofun)), hd, ?_, rfl, rfl, rfl, rfl, rfl, rfl, rfl, fun vals hv => ?_⟩, by rw [F.2.1]; decide, fun y hy => .inl ?_, F.2.2.2.1, F.2.2.2.2.1, F.2.2.2.2.2⟩
  · refine El_eeeeaaa hc fun c oc vs t hr4 g d e => ?_; obtain rfl := hr4; try clear hc
    refine ⟨c, oc, vs, t, rfl, cx_keep w g (ne80_data M g ?_) (neA_data ha hI g (fun _ _ => by rw [d]; nofun)), d, e⟩
    rw [d]; intro q; injection q with q; subst q; cases e
  · rw [F.1] at hv
    obtain ⟨v, rfl⟩ := one_list hv
    exact l_bind pm cd doc kV v
  · have := List.all_eq_true.mp F.2.2.1 y hy
    rw [lk_lookup] at this
    split at this
    · assumption
    · cases this
theorem room : Room callerA 41 := ⟨by decide +kernel, by decide +kernel, rfl⟩
theorem code_tab {h : Heap} {c P : Addr}  (H : ∃ o, h.get? c = some o ∧ codeHd o = some (.type "code", [some (.int 3 0), some (.bool true), some (.int 181 0), some (.ref P), some (.str fileS 0)])) : isCodeTable h P := by
  obtain ⟨oc, g, e⟩ := H
  unfold codeHd at e
  split at e
  · rename_i vs d
    simp only [Option.some.injEq, Prod.mk.injEq, List.map_cons, List.map_nil, List.cons.injEq, and_true] at e
    obtain ⟨e0, e7, e9, e10, e11, e18⟩ := e
    rw [Array.getElem?_toList] at e11
    obtain ⟨v, a1, b1⟩ := Option.map_eq_some_iff.mp e11
    rw [bare_ref b1] at a1
    exact ⟨c, oc, vs, g, e0, d, a1⟩
  · cases e
theorem law_nm : lawD.name = sLaw := by kernel_rfl
theorem nest_ok (w : World) {mg mb : Str → Option Value} {mean : ExcName → Option Value} (M : MpuAt s.heap es n) (ha : s.heap.get? a = some o) (hI : FixI o ns) (T : Top qP (looseW qP looseL) mean mg mb s.heap) {fa : Addr} {of : Obj} {pm cd doc kV dV : Value} (ho : s.heap.get? fa = some of) (hd : of.data = .func { PySem.Calls.docDef lawD.name lawD.params lawD.body lawD.scope pm cd doc with defaults := dV, kwdefaults := kV }) (hmg : mg lawD.name = some (.ref fa)) : NestOK (cx w s a) cd := by
  have m := (own_at M T).o7
  rw [law_nm, m] at hmg
  obtain rfl : 1472 = fa := by cases hmg; rfl
  obtain ⟨of', g, e⟩ := M.lfn
  rw [ho] at g
  obtain rfl := Option.some.inj g
  unfold fnCode at e
  rw [hd] at e
  obtain rfl : cd = .ref 1471 := Option.some.inj e
  refine ⟨⟨1471, mg, rfl, law_code w M ha hI, ns_get w M ha hI T.g, ?_⟩, .tail _ (.head _), fun e he q => ?_, lim_get w M ha hI T.nolimit⟩
  · refine El_eeaaaaa T.bmain fun bm ob e1 e2 e3 e4 e5 e6 => ?_
    have n80 := ne80_cls M e3 (by rw [e4]; nofun)
    refine ⟨bm, ob, e1, e2, fun q => ?_, n80.2, cx_keep w e3 n80 (neA_cls ha hI e3 (by rw [e4]; decide)), e4, e5, e6⟩
    obtain ⟨og, eg, ep, g, d, _⟩ := T.g
    rw [show bm = 3 from q] at e3
    rw [show s.heap.get? 3 = some og from g] at e3
    cases e3
    rw [d] at e6; cases e6
  · rcases List.mem_cons.mp he with rfl | he
    · cases q
    · exact List.mem_singleton.mp he
theorem law_call : WalkO qP looseL (fun _ _ => True) (fun _ h => ∃ es n, MpuAt h es n) RW.row.toRowW lawD [] fun f vs => PySem.call f vs := by
  intro w s₀ s₁ mg mb G Y fa of pm cd doc dV kV ho hd hcd hD hmg hg args vals as hpre hlay hrd hwl hlo
  refine El_ee Y fun es n M => ?_; try clear Y
  have he := Dflts.none hD l_dflt
  subst he
  refine El_eeeaaa (reads_in hpre hlay hrd hwl hlo) fun ns a o hn hr4 ha hI => ?_; obtain rfl := hr4
  have T := G.T
  have KO := ken_ok w M ha hI hn T
  have S := start_S w M ha hI
  have F := law_fn w M ha hI ho hd hcd
  have NO := nest_ok w M ha hI T ho hd hmg
  have L := law05 KO rfl NO o ns hI hn (fun fl _ as' => match fl with | .ret v => v = .bool true ∧ as'[0]? = some (.fix o) | .next => False | _ => False) (fun loc as h => ⟨rfl, h⟩)
  have C : ClS (cx w s₁ a) 41 (.ref fa) [.obj 0] [.fix o] fun v as' => v = .bool true ∧ as'[0]? = some (.fix o) := by
    refine cl_defC (dp := 40) (d := lF cd) F (lim_get w M ha hI T.nolimit) (l_facts cd).1.symm ?_
    rw [show ([.fix o] : List AO).length = 1 from rfl, l_fm, l_as]
    refine ExsS.mono L fun fl loc as' q => ?_
    cases fl with
    | ret v => exact q
    | next => exact q.elim
    | brk => exact q.elim
    | cont => exact q.elim
  refine wpAny_call (C callerA [a] s₁ [.ref a] _ _ room S (.cons ⟨a, rfl, rfl⟩ .nil) fun av as' θ' s' v q S' X' V' => ?_)
  obtain ⟨rfl, h0⟩ := q
  cases V'
  refine ⟨.inl ⟨.bool true, .bool true, [], rfl, raisesW_false (r := RW.row.toRowW) allW_false_nil, .bool _, postW_of (r := RW.row.toRowW) (by wrow_shape) (by wtm_val) (by rfl), fun _ => ⟨List.nodup_nil, fun b hb => by cases hb⟩⟩, ⟨fun b ob hb => ?_, X'.ex⟩, S'.os, AllBare.of_eq (S'.gens.trans hg)⟩
  by_cases q80 : b = 80
  · subst q80
    rw [M.tab] at hb; cases hb
    rcases S'.tabs TB80 (.head _) with t | ⟨c, t, _⟩
    · exact .inl t
    · exact .inr (.inl ⟨code_tab M.code, rfl, #[], #[rawInt TB80.pos.line, rawInt TB80.pos.col, .ref c], rfl, by rw [Array.empty_append]; exact t⟩)
  by_cases qL : b = 1469
  · subst qL
    rw [M.ltab] at hb; cases hb
    rcases S'.tabs TBL (.tail _ (.head _)) with t | ⟨c, t, _⟩
    · exact .inl t
    · exact .inr (.inl ⟨code_tab M.lcode, rfl, #[], #[rawInt TBL.pos.line, rawInt TBL.pos.col, .ref c], rfl, by rw [Array.empty_append]; exact t⟩)
  · by_cases qa : b = a
    · subst qa
      rw [ha] at hb; cases hb
      have p0 : θ'[0]? = some b := get_pre X'.pre rfl
      obtain ⟨ob', g', e'⟩ := S'.ar.objs 0 _ b h0 p0
      have : ob' = o := e'
      rw [this] at g'
      exact .inl g'
    · exact .inl (S'.base b ob (cx_keep w hb ⟨q80, qL⟩ qa))
end
theorem done05 : PySem.Challenge.rw_lq0011_05.Holds := holds_of p2x p3x p4x p5x p6x p7x p8x law_call
end
end Mine

end
theorem PySem.Challenge.cw_lq0011_05_holds : PySem.Challenge.rw_lq0011_05.Holds :=
  Mine.done05

import PyProof.Rows.All
import Wide.All
import OpenK.AllK
import Wide.FinOn
import Lean
import PySem.Challenge.RW_lq0011_03
set_option Elab.async false
set_option genInjectivity false
set_option genSizeOfSpec false
set_option maxRecDepth 100000
set_option maxHeartbeats 0
set_option linter.unusedVariables false
set_option linter.unusedSimpArgs false
section
namespace Mine
theorem El_aa {P : Prop} {q1 : Prop} {q2 : Prop} {q3 : Prop} (h : q1 ∧ q2 ∧ q3) (k : q1 → q2 → q3 → P) : P := match h with | ⟨h1, h2, h3⟩ => k h1 h2 h3
theorem El_aaa {P : Prop} {q1 : Prop} {q2 : Prop} {q3 : Prop} {q4 : Prop} (h : q1 ∧ q2 ∧ q3 ∧ q4) (k : q1 → q2 → q3 → q4 → P) : P := match h with | ⟨h1, h2, h3, h4⟩ => k h1 h2 h3 h4
theorem El_aaaa {P : Prop} {q1 : Prop} {q2 : Prop} {q3 : Prop} {q4 : Prop} {q5 : Prop} (h : q1 ∧ q2 ∧ q3 ∧ q4 ∧ q5) (k : q1 → q2 → q3 → q4 → q5 → P) : P := match h with | ⟨h1, h2, h3, h4, h5⟩ => k h1 h2 h3 h4 h5
theorem El_aaaaa {P : Prop} {q1 : Prop} {q2 : Prop} {q3 : Prop} {q4 : Prop} {q5 : Prop} {q6 : Prop} (h : q1 ∧ q2 ∧ q3 ∧ q4 ∧ q5 ∧ q6) (k : q1 → q2 → q3 → q4 → q5 → q6 → P) : P := match h with | ⟨h1, h2, h3, h4, h5, h6⟩ => k h1 h2 h3 h4 h5 h6
theorem El_aaaaaaa {P : Prop} {q1 : Prop} {q2 : Prop} {q3 : Prop} {q4 : Prop} {q5 : Prop} {q6 : Prop} {q7 : Prop} {q8 : Prop} (h : q1 ∧ q2 ∧ q3 ∧ q4 ∧ q5 ∧ q6 ∧ q7 ∧ q8) (k : q1 → q2 → q3 → q4 → q5 → q6 → q7 → q8 → P) : P := match h with | ⟨h1, h2, h3, h4, h5, h6, h7, h8⟩ => k h1 h2 h3 h4 h5 h6 h7 h8
theorem El_aaaaaaaaa {P : Prop} {q1 : Prop} {q2 : Prop} {q3 : Prop} {q4 : Prop} {q5 : Prop} {q6 : Prop} {q7 : Prop} {q8 : Prop} {q9 : Prop} {q10 : Prop} (h : q1 ∧ q2 ∧ q3 ∧ q4 ∧ q5 ∧ q6 ∧ q7 ∧ q8 ∧ q9 ∧ q10) (k : q1 → q2 → q3 → q4 → q5 → q6 → q7 → q8 → q9 → q10 → P) : P := match h with | ⟨h1, h2, h3, h4, h5, h6, h7, h8, h9, h10⟩ => k h1 h2 h3 h4 h5 h6 h7 h8 h9 h10
theorem El_aaeeaaa {P : Prop} {α1 : Sort _} {α2 : Sort _} {q1 : Prop} {q2 : Prop} {q3 : α1 → α2 → Prop} {q4 : α1 → α2 → Prop} {q5 : α1 → α2 → Prop} {q6 : α1 → α2 → Prop} (h : q1 ∧ q2 ∧ ∃ x1, ∃ x2, q3 x1 x2 ∧ q4 x1 x2 ∧ q5 x1 x2 ∧ q6 x1 x2) (k : q1 → q2 → ∀ x1 : α1, ∀ x2 : α2, q3 x1 x2 → q4 x1 x2 → q5 x1 x2 → q6 x1 x2 → P) : P := match h with | ⟨h1, h2, x1, x2, h3, h4, h5, h6⟩ => k h1 h2 x1 x2 h3 h4 h5 h6
theorem El_aeea {P : Prop} {α1 : Sort _} {α2 : Sort _} {q1 : Prop} {q2 : α1 → α2 → Prop} {q3 : α1 → α2 → Prop} (h : q1 ∧ ∃ x1, ∃ x2, q2 x1 x2 ∧ q3 x1 x2) (k : q1 → ∀ x1 : α1, ∀ x2 : α2, q2 x1 x2 → q3 x1 x2 → P) : P := match h with | ⟨h1, x1, x2, h2, h3⟩ => k h1 x1 x2 h2 h3
theorem El_ea {P : Prop} {α1 : Sort _} {q1 : α1 → Prop} {q2 : α1 → Prop} (h : ∃ x1, q1 x1 ∧ q2 x1) (k : ∀ x1 : α1, q1 x1 → q2 x1 → P) : P := match h with | ⟨x1, h1, h2⟩ => k x1 h1 h2
theorem El_eaa {P : Prop} {α1 : Sort _} {q1 : α1 → Prop} {q2 : α1 → Prop} {q3 : α1 → Prop} (h : ∃ x1, q1 x1 ∧ q2 x1 ∧ q3 x1) (k : ∀ x1 : α1, q1 x1 → q2 x1 → q3 x1 → P) : P := match h with | ⟨x1, h1, h2, h3⟩ => k x1 h1 h2 h3
theorem El_eaaa {P : Prop} {α1 : Sort _} {q1 : α1 → Prop} {q2 : α1 → Prop} {q3 : α1 → Prop} {q4 : α1 → Prop} (h : ∃ x1, q1 x1 ∧ q2 x1 ∧ q3 x1 ∧ q4 x1) (k : ∀ x1 : α1, q1 x1 → q2 x1 → q3 x1 → q4 x1 → P) : P := match h with | ⟨x1, h1, h2, h3, h4⟩ => k x1 h1 h2 h3 h4
theorem El_eaaaa {P : Prop} {α1 : Sort _} {q1 : α1 → Prop} {q2 : α1 → Prop} {q3 : α1 → Prop} {q4 : α1 → Prop} {q5 : α1 → Prop} (h : ∃ x1, q1 x1 ∧ q2 x1 ∧ q3 x1 ∧ q4 x1 ∧ q5 x1) (k : ∀ x1 : α1, q1 x1 → q2 x1 → q3 x1 → q4 x1 → q5 x1 → P) : P := match h with | ⟨x1, h1, h2, h3, h4, h5⟩ => k x1 h1 h2 h3 h4 h5
theorem El_eaae {P : Prop} {α1 : Sort _} {α2 : Sort _} {q1 : α1 → Prop} {q2 : α1 → Prop} {q3 : α1 → α2 → Prop} (h : ∃ x1, q1 x1 ∧ q2 x1 ∧ ∃ x2, q3 x1 x2) (k : ∀ x1 : α1, q1 x1 → q2 x1 → ∀ x2 : α2, q3 x1 x2 → P) : P := match h with | ⟨x1, h1, h2, x2, h3⟩ => k x1 h1 h2 x2 h3
theorem El_eaaeea {P : Prop} {α1 : Sort _} {α2 : Sort _} {α3 : Sort _} {q1 : α1 → Prop} {q2 : α1 → Prop} {q3 : α1 → α2 → α3 → Prop} {q4 : α1 → α2 → α3 → Prop} (h : ∃ x1, q1 x1 ∧ q2 x1 ∧ ∃ x2, ∃ x3, q3 x1 x2 x3 ∧ q4 x1 x2 x3) (k : ∀ x1 : α1, q1 x1 → q2 x1 → ∀ x2 : α2, ∀ x3 : α3, q3 x1 x2 x3 → q4 x1 x2 x3 → P) : P := match h with | ⟨x1, h1, h2, x2, x3, h3, h4⟩ => k x1 h1 h2 x2 x3 h3 h4
theorem El_eaea {P : Prop} {α1 : Sort _} {α2 : Sort _} {q1 : α1 → Prop} {q2 : α1 → α2 → Prop} {q3 : α1 → α2 → Prop} (h : ∃ x1, q1 x1 ∧ ∃ x2, q2 x1 x2 ∧ q3 x1 x2) (k : ∀ x1 : α1, q1 x1 → ∀ x2 : α2, q2 x1 x2 → q3 x1 x2 → P) : P := match h with | ⟨x1, h1, x2, h2, h3⟩ => k x1 h1 x2 h2 h3
theorem El_eaeea {P : Prop} {α1 : Sort _} {α2 : Sort _} {α3 : Sort _} {q1 : α1 → Prop} {q2 : α1 → α2 → α3 → Prop} {q3 : α1 → α2 → α3 → Prop} (h : ∃ x1, q1 x1 ∧ ∃ x2, ∃ x3, q2 x1 x2 x3 ∧ q3 x1 x2 x3) (k : ∀ x1 : α1, q1 x1 → ∀ x2 : α2, ∀ x3 : α3, q2 x1 x2 x3 → q3 x1 x2 x3 → P) : P := match h with | ⟨x1, h1, x2, x3, h2, h3⟩ => k x1 h1 x2 x3 h2 h3
theorem El_eaeeaeeaaaa {P : Prop} {α1 : Sort _} {α2 : Sort _} {α3 : Sort _} {α4 : Sort _} {α5 : Sort _} {q1 : α1 → Prop} {q2 : α1 → α2 → α3 → Prop} {q3 : α1 → α2 → α3 → α4 → α5 → Prop} {q4 : α1 → α2 → α3 → α4 → α5 → Prop} {q5 : α1 → α2 → α3 → α4 → α5 → Prop} {q6 : α1 → α2 → α3 → α4 → α5 → Prop} {q7 : α1 → α2 → α3 → α4 → α5 → Prop} (h : ∃ x1, q1 x1 ∧ ∃ x2, ∃ x3, q2 x1 x2 x3 ∧ ∃ x4, ∃ x5, q3 x1 x2 x3 x4 x5 ∧ q4 x1 x2 x3 x4 x5 ∧ q5 x1 x2 x3 x4 x5 ∧ q6 x1 x2 x3 x4 x5 ∧ q7 x1 x2 x3 x4 x5) (k : ∀ x1 : α1, q1 x1 → ∀ x2 : α2, ∀ x3 : α3, q2 x1 x2 x3 → ∀ x4 : α4, ∀ x5 : α5, q3 x1 x2 x3 x4 x5 → q4 x1 x2 x3 x4 x5 → q5 x1 x2 x3 x4 x5 → q6 x1 x2 x3 x4 x5 → q7 x1 x2 x3 x4 x5 → P) : P := match h with | ⟨x1, h1, x2, x3, h2, x4, x5, h3, h4, h5, h6, h7⟩ => k x1 h1 x2 x3 h2 x4 x5 h3 h4 h5 h6 h7
theorem El_ee {P : Prop} {α1 : Sort _} {α2 : Sort _} {q1 : α1 → α2 → Prop} (h : ∃ x1, ∃ x2, q1 x1 x2) (k : ∀ x1 : α1, ∀ x2 : α2, q1 x1 x2 → P) : P := match h with | ⟨x1, x2, h1⟩ => k x1 x2 h1
theorem El_eea {P : Prop} {α1 : Sort _} {α2 : Sort _} {q1 : α1 → α2 → Prop} {q2 : α1 → α2 → Prop} (h : ∃ x1, ∃ x2, q1 x1 x2 ∧ q2 x1 x2) (k : ∀ x1 : α1, ∀ x2 : α2, q1 x1 x2 → q2 x1 x2 → P) : P := match h with | ⟨x1, x2, h1, h2⟩ => k x1 x2 h1 h2
theorem El_eeaa {P : Prop} {α1 : Sort _} {α2 : Sort _} {q1 : α1 → α2 → Prop} {q2 : α1 → α2 → Prop} {q3 : α1 → α2 → Prop} (h : ∃ x1, ∃ x2, q1 x1 x2 ∧ q2 x1 x2 ∧ q3 x1 x2) (k : ∀ x1 : α1, ∀ x2 : α2, q1 x1 x2 → q2 x1 x2 → q3 x1 x2 → P) : P := match h with | ⟨x1, x2, h1, h2, h3⟩ => k x1 x2 h1 h2 h3
theorem El_eeaaa {P : Prop} {α1 : Sort _} {α2 : Sort _} {q1 : α1 → α2 → Prop} {q2 : α1 → α2 → Prop} {q3 : α1 → α2 → Prop} {q4 : α1 → α2 → Prop} (h : ∃ x1, ∃ x2, q1 x1 x2 ∧ q2 x1 x2 ∧ q3 x1 x2 ∧ q4 x1 x2) (k : ∀ x1 : α1, ∀ x2 : α2, q1 x1 x2 → q2 x1 x2 → q3 x1 x2 → q4 x1 x2 → P) : P := match h with | ⟨x1, x2, h1, h2, h3, h4⟩ => k x1 x2 h1 h2 h3 h4
theorem El_eeaaaa {P : Prop} {α1 : Sort _} {α2 : Sort _} {q1 : α1 → α2 → Prop} {q2 : α1 → α2 → Prop} {q3 : α1 → α2 → Prop} {q4 : α1 → α2 → Prop} {q5 : α1 → α2 → Prop} (h : ∃ x1, ∃ x2, q1 x1 x2 ∧ q2 x1 x2 ∧ q3 x1 x2 ∧ q4 x1 x2 ∧ q5 x1 x2) (k : ∀ x1 : α1, ∀ x2 : α2, q1 x1 x2 → q2 x1 x2 → q3 x1 x2 → q4 x1 x2 → q5 x1 x2 → P) : P := match h with | ⟨x1, x2, h1, h2, h3, h4, h5⟩ => k x1 x2 h1 h2 h3 h4 h5
theorem El_eeaaaaa {P : Prop} {α1 : Sort _} {α2 : Sort _} {q1 : α1 → α2 → Prop} {q2 : α1 → α2 → Prop} {q3 : α1 → α2 → Prop} {q4 : α1 → α2 → Prop} {q5 : α1 → α2 → Prop} {q6 : α1 → α2 → Prop} (h : ∃ x1, ∃ x2, q1 x1 x2 ∧ q2 x1 x2 ∧ q3 x1 x2 ∧ q4 x1 x2 ∧ q5 x1 x2 ∧ q6 x1 x2) (k : ∀ x1 : α1, ∀ x2 : α2, q1 x1 x2 → q2 x1 x2 → q3 x1 x2 → q4 x1 x2 → q5 x1 x2 → q6 x1 x2 → P) : P := match h with | ⟨x1, x2, h1, h2, h3, h4, h5, h6⟩ => k x1 x2 h1 h2 h3 h4 h5 h6
theorem El_eeaaaaaaa {P : Prop} {α1 : Sort _} {α2 : Sort _} {q1 : α1 → α2 → Prop} {q2 : α1 → α2 → Prop} {q3 : α1 → α2 → Prop} {q4 : α1 → α2 → Prop} {q5 : α1 → α2 → Prop} {q6 : α1 → α2 → Prop} {q7 : α1 → α2 → Prop} {q8 : α1 → α2 → Prop} (h : ∃ x1, ∃ x2, q1 x1 x2 ∧ q2 x1 x2 ∧ q3 x1 x2 ∧ q4 x1 x2 ∧ q5 x1 x2 ∧ q6 x1 x2 ∧ q7 x1 x2 ∧ q8 x1 x2) (k : ∀ x1 : α1, ∀ x2 : α2, q1 x1 x2 → q2 x1 x2 → q3 x1 x2 → q4 x1 x2 → q5 x1 x2 → q6 x1 x2 → q7 x1 x2 → q8 x1 x2 → P) : P := match h with | ⟨x1, x2, h1, h2, h3, h4, h5, h6, h7, h8⟩ => k x1 x2 h1 h2 h3 h4 h5 h6 h7 h8
theorem El_eeaaaaaaaaa {P : Prop} {α1 : Sort _} {α2 : Sort _} {q1 : α1 → α2 → Prop} {q2 : α1 → α2 → Prop} {q3 : α1 → α2 → Prop} {q4 : α1 → α2 → Prop} {q5 : α1 → α2 → Prop} {q6 : α1 → α2 → Prop} {q7 : α1 → α2 → Prop} {q8 : α1 → α2 → Prop} {q9 : α1 → α2 → Prop} {q10 : α1 → α2 → Prop} (h : ∃ x1, ∃ x2, q1 x1 x2 ∧ q2 x1 x2 ∧ q3 x1 x2 ∧ q4 x1 x2 ∧ q5 x1 x2 ∧ q6 x1 x2 ∧ q7 x1 x2 ∧ q8 x1 x2 ∧ q9 x1 x2 ∧ q10 x1 x2) (k : ∀ x1 : α1, ∀ x2 : α2, q1 x1 x2 → q2 x1 x2 → q3 x1 x2 → q4 x1 x2 → q5 x1 x2 → q6 x1 x2 → q7 x1 x2 → q8 x1 x2 → q9 x1 x2 → q10 x1 x2 → P) : P := match h with | ⟨x1, x2, h1, h2, h3, h4, h5, h6, h7, h8, h9, h10⟩ => k x1 x2 h1 h2 h3 h4 h5 h6 h7 h8 h9 h10
theorem El_eeaaaaaaaaaa {P : Prop} {α1 : Sort _} {α2 : Sort _} {q1 : α1 → α2 → Prop} {q2 : α1 → α2 → Prop} {q3 : α1 → α2 → Prop} {q4 : α1 → α2 → Prop} {q5 : α1 → α2 → Prop} {q6 : α1 → α2 → Prop} {q7 : α1 → α2 → Prop} {q8 : α1 → α2 → Prop} {q9 : α1 → α2 → Prop} {q10 : α1 → α2 → Prop} {q11 : α1 → α2 → Prop} (h : ∃ x1, ∃ x2, q1 x1 x2 ∧ q2 x1 x2 ∧ q3 x1 x2 ∧ q4 x1 x2 ∧ q5 x1 x2 ∧ q6 x1 x2 ∧ q7 x1 x2 ∧ q8 x1 x2 ∧ q9 x1 x2 ∧ q10 x1 x2 ∧ q11 x1 x2) (k : ∀ x1 : α1, ∀ x2 : α2, q1 x1 x2 → q2 x1 x2 → q3 x1 x2 → q4 x1 x2 → q5 x1 x2 → q6 x1 x2 → q7 x1 x2 → q8 x1 x2 → q9 x1 x2 → q10 x1 x2 → q11 x1 x2 → P) : P := match h with | ⟨x1, x2, h1, h2, h3, h4, h5, h6, h7, h8, h9, h10, h11⟩ => k x1 x2 h1 h2 h3 h4 h5 h6 h7 h8 h9 h10 h11
theorem El_eeaaeeaaa {P : Prop} {α1 : Sort _} {α2 : Sort _} {α3 : Sort _} {α4 : Sort _} {q1 : α1 → α2 → Prop} {q2 : α1 → α2 → Prop} {q3 : α1 → α2 → α3 → α4 → Prop} {q4 : α1 → α2 → α3 → α4 → Prop} {q5 : α1 → α2 → α3 → α4 → Prop} {q6 : α1 → α2 → α3 → α4 → Prop} (h : ∃ x1, ∃ x2, q1 x1 x2 ∧ q2 x1 x2 ∧ ∃ x3, ∃ x4, q3 x1 x2 x3 x4 ∧ q4 x1 x2 x3 x4 ∧ q5 x1 x2 x3 x4 ∧ q6 x1 x2 x3 x4) (k : ∀ x1 : α1, ∀ x2 : α2, q1 x1 x2 → q2 x1 x2 → ∀ x3 : α3, ∀ x4 : α4, q3 x1 x2 x3 x4 → q4 x1 x2 x3 x4 → q5 x1 x2 x3 x4 → q6 x1 x2 x3 x4 → P) : P := match h with | ⟨x1, x2, h1, h2, x3, x4, h3, h4, h5, h6⟩ => k x1 x2 h1 h2 x3 x4 h3 h4 h5 h6
theorem El_eeaaeeaaaaa {P : Prop} {α1 : Sort _} {α2 : Sort _} {α3 : Sort _} {α4 : Sort _} {q1 : α1 → α2 → Prop} {q2 : α1 → α2 → Prop} {q3 : α1 → α2 → α3 → α4 → Prop} {q4 : α1 → α2 → α3 → α4 → Prop} {q5 : α1 → α2 → α3 → α4 → Prop} {q6 : α1 → α2 → α3 → α4 → Prop} {q7 : α1 → α2 → α3 → α4 → Prop} {q8 : α1 → α2 → α3 → α4 → Prop} (h : ∃ x1, ∃ x2, q1 x1 x2 ∧ q2 x1 x2 ∧ ∃ x3, ∃ x4, q3 x1 x2 x3 x4 ∧ q4 x1 x2 x3 x4 ∧ q5 x1 x2 x3 x4 ∧ q6 x1 x2 x3 x4 ∧ q7 x1 x2 x3 x4 ∧ q8 x1 x2 x3 x4) (k : ∀ x1 : α1, ∀ x2 : α2, q1 x1 x2 → q2 x1 x2 → ∀ x3 : α3, ∀ x4 : α4, q3 x1 x2 x3 x4 → q4 x1 x2 x3 x4 → q5 x1 x2 x3 x4 → q6 x1 x2 x3 x4 → q7 x1 x2 x3 x4 → q8 x1 x2 x3 x4 → P) : P := match h with | ⟨x1, x2, h1, h2, x3, x4, h3, h4, h5, h6, h7, h8⟩ => k x1 x2 h1 h2 x3 x4 h3 h4 h5 h6 h7 h8
theorem El_eeaeeaaaa {P : Prop} {α1 : Sort _} {α2 : Sort _} {α3 : Sort _} {α4 : Sort _} {q1 : α1 → α2 → Prop} {q2 : α1 → α2 → α3 → α4 → Prop} {q3 : α1 → α2 → α3 → α4 → Prop} {q4 : α1 → α2 → α3 → α4 → Prop} {q5 : α1 → α2 → α3 → α4 → Prop} {q6 : α1 → α2 → α3 → α4 → Prop} (h : ∃ x1, ∃ x2, q1 x1 x2 ∧ ∃ x3, ∃ x4, q2 x1 x2 x3 x4 ∧ q3 x1 x2 x3 x4 ∧ q4 x1 x2 x3 x4 ∧ q5 x1 x2 x3 x4 ∧ q6 x1 x2 x3 x4) (k : ∀ x1 : α1, ∀ x2 : α2, q1 x1 x2 → ∀ x3 : α3, ∀ x4 : α4, q2 x1 x2 x3 x4 → q3 x1 x2 x3 x4 → q4 x1 x2 x3 x4 → q5 x1 x2 x3 x4 → q6 x1 x2 x3 x4 → P) : P := match h with | ⟨x1, x2, h1, x3, x4, h2, h3, h4, h5, h6⟩ => k x1 x2 h1 x3 x4 h2 h3 h4 h5 h6
theorem El_eee {P : Prop} {α1 : Sort _} {α2 : Sort _} {α3 : Sort _} {q1 : α1 → α2 → α3 → Prop} (h : ∃ x1, ∃ x2, ∃ x3, q1 x1 x2 x3) (k : ∀ x1 : α1, ∀ x2 : α2, ∀ x3 : α3, q1 x1 x2 x3 → P) : P := match h with | ⟨x1, x2, x3, h1⟩ => k x1 x2 x3 h1
theorem El_eeea {P : Prop} {α1 : Sort _} {α2 : Sort _} {α3 : Sort _} {q1 : α1 → α2 → α3 → Prop} {q2 : α1 → α2 → α3 → Prop} (h : ∃ x1, ∃ x2, ∃ x3, q1 x1 x2 x3 ∧ q2 x1 x2 x3) (k : ∀ x1 : α1, ∀ x2 : α2, ∀ x3 : α3, q1 x1 x2 x3 → q2 x1 x2 x3 → P) : P := match h with | ⟨x1, x2, x3, h1, h2⟩ => k x1 x2 x3 h1 h2
theorem El_eeeaaa {P : Prop} {α1 : Sort _} {α2 : Sort _} {α3 : Sort _} {q1 : α1 → α2 → α3 → Prop} {q2 : α1 → α2 → α3 → Prop} {q3 : α1 → α2 → α3 → Prop} {q4 : α1 → α2 → α3 → Prop} (h : ∃ x1, ∃ x2, ∃ x3, q1 x1 x2 x3 ∧ q2 x1 x2 x3 ∧ q3 x1 x2 x3 ∧ q4 x1 x2 x3) (k : ∀ x1 : α1, ∀ x2 : α2, ∀ x3 : α3, q1 x1 x2 x3 → q2 x1 x2 x3 → q3 x1 x2 x3 → q4 x1 x2 x3 → P) : P := match h with | ⟨x1, x2, x3, h1, h2, h3, h4⟩ => k x1 x2 x3 h1 h2 h3 h4
theorem El_eeeaaaa {P : Prop} {α1 : Sort _} {α2 : Sort _} {α3 : Sort _} {q1 : α1 → α2 → α3 → Prop} {q2 : α1 → α2 → α3 → Prop} {q3 : α1 → α2 → α3 → Prop} {q4 : α1 → α2 → α3 → Prop} {q5 : α1 → α2 → α3 → Prop} (h : ∃ x1, ∃ x2, ∃ x3, q1 x1 x2 x3 ∧ q2 x1 x2 x3 ∧ q3 x1 x2 x3 ∧ q4 x1 x2 x3 ∧ q5 x1 x2 x3) (k : ∀ x1 : α1, ∀ x2 : α2, ∀ x3 : α3, q1 x1 x2 x3 → q2 x1 x2 x3 → q3 x1 x2 x3 → q4 x1 x2 x3 → q5 x1 x2 x3 → P) : P := match h with | ⟨x1, x2, x3, h1, h2, h3, h4, h5⟩ => k x1 x2 x3 h1 h2 h3 h4 h5
theorem El_eeeaaaaa {P : Prop} {α1 : Sort _} {α2 : Sort _} {α3 : Sort _} {q1 : α1 → α2 → α3 → Prop} {q2 : α1 → α2 → α3 → Prop} {q3 : α1 → α2 → α3 → Prop} {q4 : α1 → α2 → α3 → Prop} {q5 : α1 → α2 → α3 → Prop} {q6 : α1 → α2 → α3 → Prop} (h : ∃ x1, ∃ x2, ∃ x3, q1 x1 x2 x3 ∧ q2 x1 x2 x3 ∧ q3 x1 x2 x3 ∧ q4 x1 x2 x3 ∧ q5 x1 x2 x3 ∧ q6 x1 x2 x3) (k : ∀ x1 : α1, ∀ x2 : α2, ∀ x3 : α3, q1 x1 x2 x3 → q2 x1 x2 x3 → q3 x1 x2 x3 → q4 x1 x2 x3 → q5 x1 x2 x3 → q6 x1 x2 x3 → P) : P := match h with | ⟨x1, x2, x3, h1, h2, h3, h4, h5, h6⟩ => k x1 x2 x3 h1 h2 h3 h4 h5 h6
theorem El_eeeea {P : Prop} {α1 : Sort _} {α2 : Sort _} {α3 : Sort _} {α4 : Sort _} {q1 : α1 → α2 → α3 → α4 → Prop} {q2 : α1 → α2 → α3 → α4 → Prop} (h : ∃ x1, ∃ x2, ∃ x3, ∃ x4, q1 x1 x2 x3 x4 ∧ q2 x1 x2 x3 x4) (k : ∀ x1 : α1, ∀ x2 : α2, ∀ x3 : α3, ∀ x4 : α4, q1 x1 x2 x3 x4 → q2 x1 x2 x3 x4 → P) : P := match h with | ⟨x1, x2, x3, x4, h1, h2⟩ => k x1 x2 x3 x4 h1 h2
theorem El_eeeeaa {P : Prop} {α1 : Sort _} {α2 : Sort _} {α3 : Sort _} {α4 : Sort _} {q1 : α1 → α2 → α3 → α4 → Prop} {q2 : α1 → α2 → α3 → α4 → Prop} {q3 : α1 → α2 → α3 → α4 → Prop} (h : ∃ x1, ∃ x2, ∃ x3, ∃ x4, q1 x1 x2 x3 x4 ∧ q2 x1 x2 x3 x4 ∧ q3 x1 x2 x3 x4) (k : ∀ x1 : α1, ∀ x2 : α2, ∀ x3 : α3, ∀ x4 : α4, q1 x1 x2 x3 x4 → q2 x1 x2 x3 x4 → q3 x1 x2 x3 x4 → P) : P := match h with | ⟨x1, x2, x3, x4, h1, h2, h3⟩ => k x1 x2 x3 x4 h1 h2 h3
theorem El_eeeeaaa {P : Prop} {α1 : Sort _} {α2 : Sort _} {α3 : Sort _} {α4 : Sort _} {q1 : α1 → α2 → α3 → α4 → Prop} {q2 : α1 → α2 → α3 → α4 → Prop} {q3 : α1 → α2 → α3 → α4 → Prop} {q4 : α1 → α2 → α3 → α4 → Prop} (h : ∃ x1, ∃ x2, ∃ x3, ∃ x4, q1 x1 x2 x3 x4 ∧ q2 x1 x2 x3 x4 ∧ q3 x1 x2 x3 x4 ∧ q4 x1 x2 x3 x4) (k : ∀ x1 : α1, ∀ x2 : α2, ∀ x3 : α3, ∀ x4 : α4, q1 x1 x2 x3 x4 → q2 x1 x2 x3 x4 → q3 x1 x2 x3 x4 → q4 x1 x2 x3 x4 → P) : P := match h with | ⟨x1, x2, x3, x4, h1, h2, h3, h4⟩ => k x1 x2 x3 x4 h1 h2 h3 h4
theorem El_eeeee {P : Prop} {α1 : Sort _} {α2 : Sort _} {α3 : Sort _} {α4 : Sort _} {α5 : Sort _} {q1 : α1 → α2 → α3 → α4 → α5 → Prop} (h : ∃ x1, ∃ x2, ∃ x3, ∃ x4, ∃ x5, q1 x1 x2 x3 x4 x5) (k : ∀ x1 : α1, ∀ x2 : α2, ∀ x3 : α3, ∀ x4 : α4, ∀ x5 : α5, q1 x1 x2 x3 x4 x5 → P) : P := match h with | ⟨x1, x2, x3, x4, x5, h1⟩ => k x1 x2 x3 x4 x5 h1
theorem El_eeeeeaaaaaa {P : Prop} {α1 : Sort _} {α2 : Sort _} {α3 : Sort _} {α4 : Sort _} {α5 : Sort _} {q1 : α1 → α2 → α3 → α4 → α5 → Prop} {q2 : α1 → α2 → α3 → α4 → α5 → Prop} {q3 : α1 → α2 → α3 → α4 → α5 → Prop} {q4 : α1 → α2 → α3 → α4 → α5 → Prop} {q5 : α1 → α2 → α3 → α4 → α5 → Prop} {q6 : α1 → α2 → α3 → α4 → α5 → Prop} {q7 : α1 → α2 → α3 → α4 → α5 → Prop} (h : ∃ x1, ∃ x2, ∃ x3, ∃ x4, ∃ x5, q1 x1 x2 x3 x4 x5 ∧ q2 x1 x2 x3 x4 x5 ∧ q3 x1 x2 x3 x4 x5 ∧ q4 x1 x2 x3 x4 x5 ∧ q5 x1 x2 x3 x4 x5 ∧ q6 x1 x2 x3 x4 x5 ∧ q7 x1 x2 x3 x4 x5) (k : ∀ x1 : α1, ∀ x2 : α2, ∀ x3 : α3, ∀ x4 : α4, ∀ x5 : α5, q1 x1 x2 x3 x4 x5 → q2 x1 x2 x3 x4 x5 → q3 x1 x2 x3 x4 x5 → q4 x1 x2 x3 x4 x5 → q5 x1 x2 x3 x4 x5 → q6 x1 x2 x3 x4 x5 → q7 x1 x2 x3 x4 x5 → P) : P := match h with | ⟨x1, x2, x3, x4, x5, h1, h2, h3, h4, h5, h6, h7⟩ => k x1 x2 x3 x4 x5 h1 h2 h3 h4 h5 h6 h7
end Mine

end
section
open PySem PySem.W PyProof.Rows
namespace Mine
noncomputable abbrev P0 : Program := PySem.Challenge.pw_lq0011_03
inductive IsP : Program → Prop
  | mk (s : Program) (h : s = PySem.Challenge.pw_lq0011_03) : IsP s
noncomputable def TPx : { s : Program // IsP s } := by
  refine ⟨?_, ?_⟩
  rotate_left
  · refine IsP.mk _ ?_
    conv => rhs; reduce
theorem isP_eq {s : Program} (h : IsP s) : PySem.Challenge.pw_lq0011_03 = s := by cases h with | mk h => exact h.symm
noncomputable abbrev TP : Program := TPx.1
theorem TP_eq : P0 = TP := isP_eq TPx.2
end Mine
namespace Mine
noncomputable section
open PySem PySem.W PyProof.Rows
noncomputable abbrev TB : String → Option Builtin := PySem.W.Fast.tw14364793385576792824
theorem TB_eq : treeTable = TB := PySem.W.Fast.te14364793385576792824
noncomputable abbrev denW := @PySem.W.Fast.tw11892475500146522536
theorem den_eq : @denote = @denW := PySem.W.Fast.te11892475500146522536
noncomputable abbrev stepTW := @PySem.W.Fast.tw10156331382660048174
theorem stepT_eq : @stepT = @stepTW := PySem.W.Fast.te10156331382660048174
noncomputable abbrev stepOkW := @PySem.W.Fast.tw6613529449190102663
theorem stepOk_eq : @stepOk = @stepOkW := PySem.W.Fast.te6613529449190102663
noncomputable abbrev segW := @PySem.W.Fast.tw10110043849684766642
theorem seg_eq : @segRunT = @segW := PySem.W.Fast.te10110043849684766642
noncomputable abbrev execsW := @PySem.W.Fast.tw12563942051412417395
theorem execs_eq : @execs = @execsW := PySem.W.Fast.te12563942051412417395
noncomputable abbrev modCodeW := @PySem.W.Fast.tw17154629097778926822
theorem modCode_eq : @moduleCode = @modCodeW := PySem.W.Fast.te17154629097778926822
noncomputable abbrev bodyFrameW := @PySem.W.Fast.tw12822647523644345616
theorem bodyFrame_eq : @newBodyFrame = @bodyFrameW := PySem.W.Fast.te12822647523644345616
noncomputable abbrev retW := @PySem.W.Fast.tw6905046200447255374
theorem ret_eq : @PySem.ret = @retW := PySem.W.Fast.te6905046200447255374
noncomputable abbrev localNamesW := @PySem.W.Fast.tw17120021879193482534
noncomputable def goT (tb : String → Option Builtin) (p : Program) (w : World) (n₀ : Nat) (ann : Option Value) : Nat → SharedT → Thread → Option (SharedT × Thread)
  | 0, s, t => some (s, t)
  | n + 1, s, t => match through t with
    | true => none
    | false => match stepOk n₀ ann t with
      | false => none
      | true => match stepT (denote tb) p w s t with
        | some (s', t') => goT tb p w n₀ ann n s' t'
        | none => none
noncomputable def goW (tb : String → Option Builtin) (p : Program) (w : World) (n₀ : Nat) (ann : Option Value) : Nat → SharedT → Thread → Option (SharedT × Thread)
  | 0, s, t => some (s, t)
  | n + 1, s, t => match through t with
    | true => none
    | false => match stepOkW n₀ ann t with
      | false => none
      | true => match stepTW (denW tb) p w s t with
        | some (s', t') => goW tb p w n₀ ann n s' t'
        | none => none
theorem go_eq : @goT = @goW := by
  funext tb p w n₀ ann n
  induction n with
  | zero => rfl
  | succ n ih => funext s t; simp only [goT, goW, ih, ← stepOk_eq, ← stepT_eq, ← den_eq]
theorem goT_of {tb : String → Option Builtin} {p : Program} {w : World} {n₀ : Nat} {ann : Option Value} : ∀ {n : Nat} {s s' : SharedT} {t t' : Thread}, goT tb p w n₀ ann n s t = some (s', t') → topGo tb p w n₀ ann n s.abs t = some (s'.abs, t')
  | 0, _, _, _, _, h => by cases h; rfl
  | n + 1, s, s', t, t', h => by
    unfold goT at h
    unfold topGo
    cases he : through t with
    | true => rw [he] at h; cases h
    | false =>
      rw [he] at h
      cases hk : stepOk n₀ ann t with
      | false => rw [hk] at h; cases h
      | true =>
        rw [hk] at h
        cases hs : stepT (denote tb) p w s t with
        | none => rw [hs] at h; cases h
        | some r => obtain ⟨s₂, t₂⟩ := r; rw [hs] at h; rw [stepT_spec hs]; exact goT_of h

noncomputable def topT (tb : String → Option Builtin) (p : Program) (w : World) (n₀ : Nat) (ann : Option Value) : Nat → SharedT → Thread → Option SharedT
  | 0, _, _ => none
  | n + 1, s, t => match through t with
    | true => some s
    | false => match stepOk n₀ ann t with
      | false => none
      | true => match stepT (denote tb) p w s t with
        | some (s', t') => topT tb p w n₀ ann n s' t'
        | none => none
noncomputable def topW (tb : String → Option Builtin) (p : Program) (w : World) (n₀ : Nat) (ann : Option Value) : Nat → SharedT → Thread → Option SharedT
  | 0, _, _ => none
  | n + 1, s, t => match through t with
    | true => some s
    | false => match stepOkW n₀ ann t with
      | false => none
      | true => match stepTW (denW tb) p w s t with
        | some (s', t') => topW tb p w n₀ ann n s' t'
        | none => none
theorem top_eq : @topT = @topW := by
  funext tb p w n₀ ann n
  induction n with
  | zero => rfl
  | succ n ih => funext s t; simp only [topT, topW, ih, ← stepOk_eq, ← stepT_eq, ← den_eq]
theorem topT_of {tb : String → Option Builtin} {p : Program} {w : World} {n₀ : Nat} {ann : Option Value} : ∀ {n : Nat} {s s' : SharedT} {t : Thread}, topT tb p w n₀ ann n s t = some s' → topRun tb p w n₀ ann n s.abs t = some s'.abs
  | 0, _, _, _, h => by cases h
  | n + 1, s, s', t, h => by
    unfold topT at h
    unfold topRun
    cases he : through t with
    | true => rw [he] at h; cases h; rfl
    | false =>
      rw [he] at h
      cases hk : stepOk n₀ ann t with
      | false => rw [hk] at h; cases h
      | true =>
        rw [hk] at h
        cases hs : stepT (denote tb) p w s t with
        | none => rw [hs] at h; cases h
        | some r => obtain ⟨s₂, t₂⟩ := r; rw [hs] at h; rw [stepT_spec hs]; exact topT_of h

section
variable {tb : String → Option Builtin} {p : Program} {w : World} {n₀ : Nat} {ann : Option Value} {env : Env} {B : List Frame}
theorem pieceB {n N : Nat} {s s' r : Shared} {l rest : List Stmt} {c : Code} {pos p' : Pos} (hB : splitAtGen B = none) (h : segRun tb p w n₀ ann B.length n s (piecesOf l env c pos B) = some (.next, s', c, p'))
    (k : topRun tb p w n₀ ann N s' (restOf rest env c p' B) = some r) : topRun tb p w n₀ ann (n + N) s (restOf (l ++ rest) env c pos B) = some r := by
  obtain ⟨a, ha, hN⟩ := seg_top (res := id) (K' := fun f => match f with | .next => (execs rest env).wrap doneF (leaveH env) id id | f => doneF f) (H' := leaveH env) (B := B) hB n s (piecesOf l env c pos B)
    ⟨(execs l env).wrap (fun f => match f with | .next => (execs rest env).wrap doneF (leaveH env) id id | f => doneF f) (leaveH env) id id, c, pos, B⟩ _ _ _ _ ⟨rfl, rfl, .inl ⟨rfl, rfl, _, rfl, rfl⟩⟩ h
  obtain rfl : a = .next := ha
  have := hN N r k
  unfold restOf
  rw [execs_app_wrap]
  exact this
theorem blockB {n N : Nat} {s s' r : Shared} {b : List Stmt} {c : Code} {pos p' : Pos} (hB : splitAtGen B = none) (h : segRun tb p w n₀ ann B.length n s (blockOf b env c pos B) = some (.next, s', c, p'))
    (k : topRun tb p w n₀ ann N s' (restOf b env c p' B) = some r) : topRun tb p w n₀ ann (n + N) s ⟨denote tb (.body b env), c, pos, B⟩ = some r := by
  obtain ⟨a, ha, hN⟩ := seg_top (res := fun _ : Unit => Flow.next) (K' := fun _ => (execs b env).wrap doneF (leaveH env) id id) (H' := Sem.raise) (B := B) hB n s (blockOf b env c pos B)
    ⟨(blockStart b env).wrap (fun _ => (execs b env).wrap doneF (leaveH env) id id) .raise id id, c, pos, B⟩ _ _ _ _ ⟨rfl, rfl, .inl ⟨rfl, rfl, _, rfl, rfl⟩⟩ h
  rw [body_wrap]
  exact hN N r k
end

noncomputable def bootT (P : Params) : BT := ((((((((((BT.nil.ins 0 (boot_o_0 P)).ins 1 (boot_o_1 P)).ins 2 (boot_o_2 P)).ins 3 (boot_o_3 P)).ins 4 (boot_o_4 P)).ins 5 (boot_o_5 P)).ins 6 (boot_o_6 P)).ins 7 (boot_o_7 P)).ins 8 (boot_o_8 P)).ins 9 (boot_o_9 P)).ins 10 (boot_o_10 P)
noncomputable def bootLife : Life := (boot_heap ⟨fun _ => 0, fun _ => 0, fun _ => 0, fun _ => 0, fun _ _ => 0, fun _ => false, fun _ => 0, .refcount, .text, fun _ => 0, fun _ => none, fun _ => false, fun _ _ _ => true, fun _ _ _ => true, true, fun _ => false, fun _ => none, fun _ => none, fun _ _ _ => 0, fun _ _ => none, fun _ => none, fun _ => (0, false, ⟨#[]⟩), fun _ => none, fun d => d, fun _ => false⟩).life
theorem boot_abs (P : Params) : absHeap (bootT P) 11 bootLife = boot_heap P := by kernel_rfl
noncomputable def ST0 (P : Params) (os : OsState) : SharedT := ⟨bootT P, 11, bootLife, Array.mk [], boot_drawn, 181, os⟩
noncomputable def stubW : Thread :=
  ⟨(modCodeW TP.main TP.main.file none).bind fun code => (bodyFrameW code mainNs mainNs builtinsNs).bind fun frame =>
      (PySem.run (.body (behindTheImports TP) { scope := TP.main.scope, locals := mainNs, globals := mainNs, cells := [], code, frame := some frame })).bind fun _ => retW .none,
   .builtin "claim.caller" {}, default, []⟩
theorem stub_eq : topStub P0 = stubW := by
  rw [TP_eq]
  unfold topStub stubW
  simp only [modCode_eq, bodyFrame_eq, ret_eq]
  rfl
noncomputable abbrev AN : Option Value := some (.ref 6)
noncomputable def X0 (w : World) (os : OsState) : Option (SharedT × Thread) := goW TB TP w 11 AN 109 (ST0 w.params os) stubW
theorem X0_some (w : World) (os : OsState) : (X0 w os).isSome = true := by kernel_rfl
end
end Mine

end
section
open PySem PySem.W PyProof.Rows
namespace Mine
noncomputable section
noncomputable def isCls : Stmt → Option (List Stmt × Scope)
  | .ClassDef _ _ _ b _ _ sc _ _ _ _ => some (b, sc)
  | _ => none
noncomputable def clsB : List Stmt := match TP.main.body with | _ :: _ :: st :: _ => (match isCls st with | some (b, _) => b | none => []) | _ => []
noncomputable def clsSc : Scope := match TP.main.body with | _ :: _ :: st :: _ => (match isCls st with | some (_, sc) => sc | none => TP.main.scope) | _ => TP.main.scope
noncomputable def menv : Env := { scope := TP.main.scope, locals := 3, globals := 3, cells := [], code := .ref 13, frame := some 14 }
noncomputable def cenv : Env := { scope := clsSc, locals := 24, globals := 3, cells := [], qual := ⟨⟨[77, 80, 85, 46]⟩⟩, func := none, code := .ref 27, frame := some 28, builtins := 0 }
noncomputable abbrev posC : Pos := ⟨5, 0, 1029, 786⟩
noncomputable abbrev cM : Code := .body (behindTheImports TP) menv
noncomputable abbrev cC : Code := .body clsB cenv
noncomputable abbrev frC (k : Result → Sem Fin) : Frame := .ret k none false [.ref 22, .ref 22, .ref 24, .ref 28] cM posC []
noncomputable abbrev BC (k : Result → Sem Fin) : List Frame := [frC k, topFrame ⟨0, 0, 0, 0⟩]
noncomputable def s0 (w : World) (os : OsState) : SharedT := match X0 w os with | some (s, _) => s | none => ST0 w.params os
noncomputable def t0 (w : World) (os : OsState) : Thread := match X0 w os with | some (_, t) => t | none => stubW
theorem X0_eq (w : World) (os : OsState) : X0 w os = some (s0 w os, t0 w os) := by
  have h := X0_some w os
  unfold s0 t0
  revert h
  cases X0 w os with
  | none => intro h; cases h
  | some x => intro _; rfl
noncomputable def kOf (t : Thread) : Result → Sem Fin := match t.stack with | .ret k _ _ _ _ _ _ :: _ => k | _ => fun _ => .pure (.done .next)
theorem t0_eq (w : World) (os : OsState) : t0 w os = ⟨denW TB cC, cC, posC, BC (kOf (t0 w os))⟩ := by kernel_rfl

noncomputable def txts : List Str → Nat → List Value
  | [], _ => []
  | x :: r, k => .str x k :: txts r (k + 1)
noncomputable def dfl : List Expr → Nat → List Value × Nat
  | [], k => ([], k)
  | .Constant (.int i) _ _ :: r, k => match dfl r (k + 1) with | (vs, k') => (.int i k :: vs, k')
  | _ :: r, k => match dfl r k with | (vs, k') => (.none :: vs, k')
noncomputable abbrev fileS : Str := ⟨⟨[47, 99, 108, 97, 105, 109, 47, 99, 117, 116, 46, 112, 121]⟩⟩
noncomputable def modV : Value := .str ⟨⟨[112, 121, 54, 53, 46, 100, 101, 118, 105, 99, 101, 115, 46, 109, 112, 117, 54, 53, 48, 50]⟩⟩ 194
noncomputable def pushName (h : Int) (key v : Value) : Obj → Obj
  | ⟨c, d, .dict es n, s⟩ => ⟨c, d, .dict (es.toList ++ [(⟨h, key, v⟩ : DictEntry)]).toArray (n + 1), s⟩
  | o => o
noncomputable def defTail (P : Params) (T : BT) (n k : Nat) (dV : Value) (name qual : Str) (args : Arguments) (body : List Stmt) (scope : Scope) (pos : Pos) : BT × Nat × Nat :=
  match localNamesW args scope (.stmts body) with
  | none => (T, n, k)
  | some (l1, l2) =>
    let k3 := k + 3
    let k4 := k3 + l1.length
    let k5 := k4 + l2.length
    let T := T.ins n { cls := .type "tuple", data := .seq #[] }
    let T := T.ins (n + 1) { cls := .none, data := .fields #[] }
    let T := T.ins (n + 2) { cls := .type "tuple", data := .seq (txts l1 k3).toArray }
    let T := T.ins (n + 3) { cls := .type "tuple", data := .seq (txts l2 k4).toArray }
    let T := T.ins (n + 4) { cls := .none, data := .func { name := name, qualname := qual, params := args, body := .stmts body, scope := scope, globals := 0, closure := [], defaults := .none, kwdefaults := .none } }
    let T := T.ins (n + 5) { cls := .type "code", data := .fields #[.str name k, .str qual (k + 1), .str fileS (k + 2), .int pos.line 0, .int (args.posonlyargs.length + args.args.length : Nat) 0, .int 0 0, .int 0 0, .int 3 0, .ref n, .bool true, .int 181 0, .ref (n + 1), .none, .ref (n + 2), .ref (n + 3), .ref (n + 4), .int (k5 : Nat) 0, .int pos.line 0, .str fileS (k5 + 1)] }
    let T := T.ins (n + 6) { cls := .type "function", data := .func { name := name, qualname := qual, params := args, body := .stmts body, scope := scope, globals := 3, closure := [], defaults := dV, kwdefaults := .none, doc := .none, pyModule := modV, annotations := none, code := .ref (n + 5), closureTuple := .none, builtins := 0 } }
    let T := T.set 26 (Obj.mapFields fun vs => vs ++ #[.int pos.line 0, .int pos.col 0, .ref (n + 5)])
    let T := T.set 24 (pushName (PyData.keyHash P name) (.str name (k5 + 2)) (.ref (n + 6)))
    (T, n + 7, k5 + 3)
noncomputable def instrL : List Addr := [372, 379, 365, 365, 365, 386, 393, 365, 400, 407, 414, 365, 365, 421, 428, 365, 435, 442, 365, 365, 365, 449, 456, 365, 463, 470, 365, 365, 365, 477, 484, 365, 491, 498, 365, 365, 505, 512, 519, 365, 526, 533, 540, 365, 547, 554, 561, 365, 568, 575, 365, 365, 365, 582, 589, 365, 596, 603, 365, 365, 365, 610, 617, 365, 624, 631, 365, 365, 365, 638, 645, 365, 652, 659, 666, 365, 673, 680, 687, 365, 694, 701, 365, 365, 365, 708, 715, 365, 722, 729, 365, 365, 365, 736, 743, 365, 750, 757, 365, 365, 365, 764, 771, 365, 778, 785, 792, 365, 799, 806, 813, 365, 820, 827, 365, 365, 365, 834, 841, 365, 848, 855, 365, 365, 365, 862, 869, 365, 365, 876, 365, 365, 883, 890, 897, 365, 904, 365, 911, 365, 918, 925, 932, 365, 939, 946, 365, 365, 953, 960, 967, 365, 974, 981, 988, 365, 365, 995, 365, 365, 1002, 1009, 1016, 365, 1023, 1030, 1037, 365, 1044, 1051, 1058, 365, 1065, 1072, 1079, 365, 1086, 1093, 365, 365, 1100, 1107, 1114, 365, 1121, 1128, 1135, 365, 1142, 1149, 1156, 365, 1163, 1170, 365, 365, 1177, 1184, 1191, 365, 1198, 1205, 1212, 365, 1219, 1226, 1233, 365, 1240, 1247, 365, 365, 365, 1254, 1261, 365, 1268, 1275, 365, 365, 365, 1282, 1289, 365, 1296, 1303, 365, 365, 1310, 1317, 1324, 365, 1331, 1338, 1345, 365, 1352, 1359, 1366, 365, 1373, 1380, 365, 365, 365, 1387, 1394, 365, 1401, 1408, 365, 365, 365, 1415, 1422, 365]
noncomputable def listVals (k : Nat) : List Expr → List Value × Nat
  | .Name _ _ :: _ => (instrL.map Value.ref, k)
  | es => dfl es k
noncomputable def defOne (P : Params) (x : BT × Nat × Nat) (st : Stmt) : BT × Nat × Nat := match x with
  | (T, n, k) => match st with
    | .FunctionDef name args body _ _ _ scope _ _ pos => match args.defaults with
      | [] => defTail P T n k .none name (cenv.qual ++ name) args body scope pos
      | ds => match dfl ds k with
        | (vs, k') => defTail P (T.ins n { cls := .type "tuple", data := .seq vs.toArray }) (n + 1) k' (.ref n) name (cenv.qual ++ name) args body scope pos
    | .Assign (.Name x _ :: _) (.Constant (.int i) _ _) _ => (T.set 24 (pushName (PyData.keyHash P x) (.str x (k + 1)) (.int i k)), n, k + 2)
    | .Assign (.Name x _ :: _) (.Constant (.str s) _ _) _ => (T.set 24 (pushName (PyData.keyHash P x) (.str x (k + 1)) (.str s k)), n, k + 2)
    | .Assign (.Name x _ :: _) (.List elts _) _ => match listVals k elts with
      | (vs, k') => ((T.ins n { cls := .type "list", data := .seq vs.toArray }).set 24 (pushName (PyData.keyHash P x) (.str x k') (.ref n)), n + 1, k' + 1)
    | _ => (T, n, k)
noncomputable def Sj (w : World) (os : OsState) (j : Nat) : SharedT := match s0 w os with
  | ⟨T, n, life, gens, drawn, k, os⟩ => match (clsB.take j).foldl (defOne w.params) (T, n, k) with
    | (T', n', k') => ⟨T', n', life, gens, drawn, k', os⟩
noncomputable def posAt : List Stmt → Pos → Pos
  | [], p => p
  | [.FunctionDef _ _ _ _ _ _ _ _ _ p], _ => p
  | [.Assign (.Name _ p :: _) _ _], _ => p
  | _ :: r, p => posAt r p
noncomputable def posJ (j : Nat) : Pos := posAt (clsB.take j) posC
noncomputable abbrev piece (w : World) (os : OsState) (k : Result → Sem Fin) (n i j : Nat) : Prop :=
  segW TB TP w 11 AN 2 n (Sj w os i) ⟨(execsW ((clsB.drop i).take (j - i)) cenv).wrap doneF deadEnd id id, cC, posJ i, BC k⟩ = some (.next, Sj w os j, cC, posJ j)
theorem p1 (w : World) (os : OsState) (k : Result → Sem Fin) : piece w os k 186 0 16 := by kernel_rfl
end
end Mine

end
section
open PySem PySem.W PyProof.Rows
namespace Mine
noncomputable section
noncomputable abbrev leavingW := @PySem.W.Fast.tw9442747609961115081
theorem leaving_eq : @leaving = @leavingW := PySem.W.Fast.te9442747609961115081
noncomputable abbrev blockStartW := @PySem.W.Fast.tw1066825118222455980
theorem blockStart_eq : @blockStart = @blockStartW := PySem.W.Fast.te1066825118222455980
noncomputable abbrev openSeenW := @PySem.W.Fast.tw4187177175401517315
theorem openSeen_eq : @openSeen = @openSeenW := PySem.W.Fast.te4187177175401517315
noncomputable abbrev importedW := @PySem.W.Fast.tw5923862056798008813
theorem imported_eq : @importedModules = @importedW := PySem.W.Fast.te5923862056798008813
noncomputable abbrev leaveHW (env : Env) : Value → Sem Fin := fun e => ((leavingW env e).bind fun _ => (.raise e : Sem Flow)).wrap doneF .raise id id
noncomputable def tailT (w : World) (os : OsState) : Thread := ⟨(execsW (clsB.drop 217) cenv).wrap doneF (leaveHW cenv) id id, cC, posJ 217, BC (kOf (t0 w os))⟩
noncomputable def XE (w : World) (os : OsState) : Option SharedT := topW TB TP w 11 AN 3000 (Sj w os 217) (tailT w os)
theorem blk (w : World) (os : OsState) (k : Result → Sem Fin) : segW TB TP w 11 AN 2 1 (s0 w os) ⟨(blockStartW clsB cenv).wrap (fun _ => doneF .next) deadEnd id id, cC, posC, BC k⟩ = some (.next, s0 w os, cC, posC) := by kernel_rfl
theorem s0_S0 (w : World) (os : OsState) : s0 w os = Sj w os 0 := by kernel_rfl
theorem pos0 : posJ 0 = posC := by kernel_rfl

theorem Pc {w : World} {os : OsState} {k : Result → Sem Fin} {n i j : Nat} (p : piece w os k n i j) :
    segRun treeTable P0 w 11 AN (BC k).length n (Sj w os i).abs (piecesOf ((clsB.drop i).take (j - i)) cenv cC (posJ i) (BC k)) = some (.next, (Sj w os j).abs, cC, posJ j) := by
  apply segRun_of
  rw [seg_eq, TB_eq, TP_eq]
  unfold piecesOf
  rw [execs_eq]
  exact p
theorem drops {i j : Nat} (h : i ≤ j) (l : List Stmt) : (l.drop i).take (j - i) ++ l.drop j = l.drop i := by
  have := List.take_append_drop (j - i) (l.drop i)
  rw [List.drop_drop, show i + (j - i) = j by lia] at this
  exact this
theorem runC {w : World} {os : OsState} {k : Result → Sem Fin} {n i j N : Nat} {r : Shared} (h : i ≤ j) (p : piece w os k n i j)
    (q : topRun treeTable P0 w 11 AN N (Sj w os j).abs (restOf (clsB.drop j) cenv cC (posJ j) (BC k)) = some r) :
    topRun treeTable P0 w 11 AN (n + N) (Sj w os i).abs (restOf (clsB.drop i) cenv cC (posJ i) (BC k)) = some r := by
  rw [← drops h clsB]
  exact pieceB rfl (Pc p) q
noncomputable def Rn (w : World) (os : OsState) (k : Result → Sem Fin) (n i j : Nat) : Prop :=
  ∀ N r, topRun treeTable P0 w 11 AN N (Sj w os j).abs (restOf (clsB.drop j) cenv cC (posJ j) (BC k)) = some r → topRun treeTable P0 w 11 AN (n + N) (Sj w os i).abs (restOf (clsB.drop i) cenv cC (posJ i) (BC k)) = some r
theorem Rn_of {w : World} {os : OsState} {k : Result → Sem Fin} {n i j : Nat} (h : Nat.ble i j = true) (p : piece w os k n i j) : Rn w os k n i j := fun _ _ q => runC (Nat.le_of_ble_eq_true h) p q
theorem Rn_tr {w : World} {os : OsState} {k : Result → Sem Fin} {n m t i j l : Nat} (e : n + m = t) (a : Rn w os k n i j) (b : Rn w os k m j l) : Rn w os k t i l := by
  intro N r q
  rw [← e, Nat.add_assoc]
  exact a _ _ (b _ _ q)
theorem run_end {w : World} {os : OsState} {s : SharedT} (h : XE w os = some s) :
    topRun treeTable P0 w 11 AN 3000 (Sj w os 217).abs (restOf (clsB.drop 217) cenv cC (posJ 217) (BC (kOf (t0 w os)))) = some s.abs := by
  apply topT_of
  rw [top_eq, TB_eq, TP_eq]
  unfold restOf
  rw [execs_eq]
  have e : leaveH cenv = leaveHW cenv := by unfold leaveH leaveHW; rw [leaving_eq]
  rw [e]
  exact h
theorem run_all {w : World} {os : OsState} {s : SharedT} {n1 n2 n3 n4 n5 n6 n7 n8 : Nat} {a b c d e f g : Nat}
    (h1 : ∀ k, Rn w os k n1 0 a) (h2 : ∀ k, Rn w os k n2 a b) (h3 : ∀ k, Rn w os k n3 b c) (h4 : ∀ k, Rn w os k n4 c d) (h5 : ∀ k, Rn w os k n5 d e) (h6 : ∀ k, Rn w os k n6 e f) (h7 : ∀ k, Rn w os k n7 f g) (h8 : ∀ k, Rn w os k n8 g 217) (h : XE w os = some s) :
    topRun treeTable P0 w 11 AN (109 + (1 + (n1 + (n2 + (n3 + (n4 + (n5 + (n6 + (n7 + (n8 + 3000)))))))))) (ST0 w.params os).abs (topStub P0) = some s.abs := by
  have gg : goT treeTable P0 w 11 AN 109 (ST0 w.params os) (topStub P0) = some (s0 w os, t0 w os) := by
    rw [go_eq, TB_eq, stub_eq, TP_eq]
    exact X0_eq w os
  refine go_top (goT_of gg) ?_
  rw [t0_eq]
  rw [← den_eq, ← TB_eq]
  refine blockB (B := BC (kOf (t0 w os))) rfl (s' := (s0 w os).abs) (p' := posC) ?_ ?_
  · apply segRun_of
    rw [seg_eq, TB_eq, TP_eq]
    unfold blockOf
    rw [blockStart_eq]
    exact blk w os _
  · rw [s0_S0, ← pos0]
    exact h1 _ _ _ (h2 _ _ _ (h3 _ _ _ (h4 _ _ _ (h5 _ _ _ (h6 _ _ _ (h7 _ _ _ (h8 _ _ _ (run_end h))))))))
end
end Mine

end
section
open PySem PySem.W PyProof.Rows
namespace Mine
noncomputable section
noncomputable def cstNames : List (Str × Int) := [(⟨⟨[78, 69, 71, 65, 84, 73, 86, 69]⟩⟩, 128), (⟨⟨[79, 86, 69, 82, 70, 76, 79, 87]⟩⟩, 64), (⟨⟨[85, 78, 85, 83, 69, 68]⟩⟩, 32), (⟨⟨[66, 82, 69, 65, 75]⟩⟩, 16), (⟨⟨[68, 69, 67, 73, 77, 65, 76]⟩⟩, 8), (⟨⟨[73, 78, 84, 69, 82, 82, 85, 80, 84]⟩⟩, 4), (⟨⟨[90, 69, 82, 79]⟩⟩, 2), (⟨⟨[67, 65, 82, 82, 89]⟩⟩, 1), (⟨⟨[66, 89, 84, 69, 95, 87, 73, 68, 84, 72]⟩⟩, 8), (⟨⟨[65, 68, 68, 82, 95, 87, 73, 68, 84, 72]⟩⟩, 16)]
noncomputable def methNames : List (Str × Nat × Nat) := [(⟨⟨[95, 95, 105, 110, 105, 116, 95, 95]⟩⟩, 15, 36), (⟨⟨[115, 116, 101, 112]⟩⟩, 16, 43), (⟨⟨[114, 101, 115, 101, 116]⟩⟩, 17, 50), (⟨⟨[66, 121, 116, 101, 65, 116]⟩⟩, 20, 71), (⟨⟨[87, 111, 114, 100, 65, 116]⟩⟩, 21, 78), (⟨⟨[87, 114, 97, 112, 65, 116]⟩⟩, 22, 85), (⟨⟨[80, 114, 111, 103, 114, 97, 109, 67, 111, 117, 110, 116, 101, 114]⟩⟩, 23, 92), (⟨⟨[90, 101, 114, 111, 80, 97, 103, 101, 65, 100, 100, 114]⟩⟩, 25, 106), (⟨⟨[73, 110, 100, 105, 114, 101, 99, 116, 89, 65, 100, 100, 114]⟩⟩, 29, 134), (⟨⟨[73, 109, 109, 101, 100, 105, 97, 116, 101, 66, 121, 116, 101]⟩⟩, 24, 99), (⟨⟨[66, 114, 97, 110, 99, 104, 82, 101, 108, 65, 100, 100, 114]⟩⟩, 33, 162), (⟨⟨[115, 116, 80, 117, 115, 104]⟩⟩, 34, 169), (⟨⟨[115, 116, 80, 111, 112]⟩⟩, 35, 176), (⟨⟨[115, 116, 80, 117, 115, 104, 87, 111, 114, 100]⟩⟩, 36, 183), (⟨⟨[115, 116, 80, 111, 112, 87, 111, 114, 100]⟩⟩, 37, 190), (⟨⟨[70, 108, 97, 103, 115, 78, 90]⟩⟩, 38, 197), (⟨⟨[111, 112, 79, 82, 65]⟩⟩, 39, 204), (⟨⟨[111, 112, 66, 67, 76]⟩⟩, 42, 225), (⟨⟨[111, 112, 66, 83, 84]⟩⟩, 43, 232), (⟨⟨[111, 112, 83, 69, 84]⟩⟩, 45, 246), (⟨⟨[111, 112, 83, 84, 65]⟩⟩, 52, 295), (⟨⟨[111, 112, 83, 84, 88]⟩⟩, 54, 309), (⟨⟨[111, 112, 83, 66, 67]⟩⟩, 56, 323), (⟨⟨[111, 112, 73, 78, 67, 82]⟩⟩, 58, 337), (⟨⟨[111, 112, 76, 68, 65]⟩⟩, 59, 344), (⟨⟨[111, 112, 76, 68, 89]⟩⟩, 60, 351), (⟨⟨[111, 112, 76, 68, 88]⟩⟩, 61, 358), (⟨⟨[90, 101, 114, 111, 80, 97, 103, 101, 88, 65, 100, 100, 114]⟩⟩, 26, 113), (⟨⟨[65, 98, 115, 111, 108, 117, 116, 101, 88, 65, 100, 100, 114]⟩⟩, 31, 148), (⟨⟨[65, 98, 115, 111, 108, 117, 116, 101, 89, 65, 100, 100, 114]⟩⟩, 32, 155), (⟨⟨[111, 112, 65, 83, 76]⟩⟩, 40, 211), (⟨⟨[111, 112, 76, 83, 82]⟩⟩, 41, 218), (⟨⟨[111, 112, 67, 76, 82]⟩⟩, 44, 239), (⟨⟨[111, 112, 82, 79, 76]⟩⟩, 48, 267), (⟨⟨[111, 112, 69, 79, 82]⟩⟩, 49, 274), (⟨⟨[111, 112, 65, 68, 67]⟩⟩, 50, 281), (⟨⟨[111, 112, 82, 79, 82]⟩⟩, 51, 288), (⟨⟨[111, 112, 83, 84, 89]⟩⟩, 53, 302), (⟨⟨[111, 112, 67, 77, 80, 82]⟩⟩, 55, 316), (⟨⟨[111, 112, 68, 69, 67, 82]⟩⟩, 57, 330)]
noncomputable def instNames : List (Str × Nat × Nat) := [(⟨⟨[105, 110, 115, 116, 95, 48, 120, 97, 48]⟩⟩, 153, 1002), (⟨⟨[105, 110, 115, 116, 95, 48, 120, 98, 49]⟩⟩, 166, 1093), (⟨⟨[105, 110, 115, 116, 95, 48, 120, 99, 56]⟩⟩, 181, 1198), (⟨⟨[105, 110, 115, 116, 95, 48, 120, 49, 49]⟩⟩, 73, 442), (⟨⟨[105, 110, 115, 116, 95, 48, 120, 100, 48]⟩⟩, 187, 1240), (⟨⟨[105, 110, 115, 116, 95, 48, 120, 54, 48]⟩⟩, 117, 750), (⟨⟨[105, 110, 115, 116, 95, 48, 120, 51, 56]⟩⟩, 95, 596), (⟨⟨[105, 110, 115, 116, 95, 48, 120, 102, 49]⟩⟩, 207, 1380), (⟨⟨[105, 110, 115, 116, 95, 48, 120, 98, 48]⟩⟩, 165, 1086), (⟨⟨[105, 110, 115, 116, 95, 48, 120, 97, 53]⟩⟩, 157, 1030), (⟨⟨[105, 110, 115, 116, 95, 48, 120, 97, 54]⟩⟩, 158, 1037), (⟨⟨[105, 110, 115, 116, 95, 48, 120, 56, 53]⟩⟩, 137, 890), (⟨⟨[105, 110, 115, 116, 95, 48, 120, 56, 54]⟩⟩, 138, 897), (⟨⟨[105, 110, 115, 116, 95, 48, 120, 52, 99]⟩⟩, 106, 673), (⟨⟨[105, 110, 115, 116, 95, 48, 120, 57, 49]⟩⟩, 145, 946), (⟨⟨[105, 110, 115, 116, 95, 48, 120, 50, 48]⟩⟩, 80, 491), (⟨⟨[105, 110, 115, 116, 95, 48, 120, 101, 54]⟩⟩, 199, 1324), (⟨⟨[105, 110, 115, 116, 95, 48, 120, 97, 57]⟩⟩, 160, 1051), (⟨⟨[105, 110, 115, 116, 95, 48, 120, 97, 50]⟩⟩, 155, 1016), (⟨⟨[105, 110, 115, 116, 95, 48, 120, 52, 54]⟩⟩, 102, 645), (⟨⟨[105, 110, 115, 116, 95, 48, 120, 57, 48]⟩⟩, 144, 939), (⟨⟨[105, 110, 115, 116, 95, 48, 120, 49, 56]⟩⟩, 76, 463), (⟨⟨[105, 110, 115, 116, 95, 48, 120, 54, 53]⟩⟩, 119, 764), (⟨⟨[105, 110, 115, 116, 95, 48, 120, 54, 97]⟩⟩, 123, 792), (⟨⟨[105, 110, 115, 116, 95, 48, 120, 54, 54]⟩⟩, 120, 771), (⟨⟨[105, 110, 115, 116, 95, 48, 120, 99, 97]⟩⟩, 183, 1212), (⟨⟨[105, 110, 115, 116, 95, 48, 120, 48, 54]⟩⟩, 66, 393), (⟨⟨[105, 110, 115, 116, 95, 48, 120, 50, 54]⟩⟩, 84, 519), (⟨⟨[105, 110, 115, 116, 95, 48, 120, 50, 97]⟩⟩, 87, 540), (⟨⟨[105, 110, 115, 116, 95, 48, 120, 99, 53]⟩⟩, 179, 1184), (⟨⟨[105, 110, 115, 116, 95, 48, 120, 101, 53]⟩⟩, 198, 1317), (⟨⟨[105, 110, 115, 116, 95, 48, 120, 56, 56]⟩⟩, 139, 904), (⟨⟨[105, 110, 115, 116, 95, 48, 120, 98, 57]⟩⟩, 171, 1128), (⟨⟨[105, 110, 115, 116, 95, 48, 120, 52, 56]⟩⟩, 103, 652), (⟨⟨[105, 110, 115, 116, 95, 48, 120, 54, 56]⟩⟩, 121, 778), (⟨⟨[105, 110, 115, 116, 95, 48, 120, 99, 48]⟩⟩, 176, 1163), (⟨⟨[105, 110, 115, 116, 95, 48, 120, 56, 52]⟩⟩, 136, 883), (⟨⟨[105, 110, 115, 116, 95, 48, 120, 53, 48]⟩⟩, 109, 694), (⟨⟨[105, 110, 115, 116, 95, 48, 120, 52, 57]⟩⟩, 104, 659), (⟨⟨[105, 110, 115, 116, 95, 48, 120, 49, 48]⟩⟩, 72, 435), (⟨⟨[105, 110, 115, 116, 95, 48, 120, 100, 49]⟩⟩, 188, 1247), (⟨⟨[105, 110, 115, 116, 95, 48, 120, 97, 52]⟩⟩, 156, 1023), (⟨⟨[105, 110, 115, 116, 95, 48, 120, 98, 100]⟩⟩, 174, 1149), (⟨⟨[105, 110, 115, 116, 95, 48, 120, 100, 100]⟩⟩, 193, 1282), (⟨⟨[105, 110, 115, 116, 95, 48, 120, 102, 100]⟩⟩, 212, 1415), (⟨⟨[105, 110, 115, 116, 95, 48, 120, 98, 99]⟩⟩, 173, 1142), (⟨⟨[105, 110, 115, 116, 95, 48, 120, 57, 100]⟩⟩, 152, 995), (⟨⟨[105, 110, 115, 116, 95, 48, 120, 57, 56]⟩⟩, 149, 974), (⟨⟨[105, 110, 115, 116, 95, 48, 120, 101, 56]⟩⟩, 200, 1331), (⟨⟨[105, 110, 115, 116, 95, 48, 120, 101, 52]⟩⟩, 197, 1310), (⟨⟨[105, 110, 115, 116, 95, 48, 120, 102, 48]⟩⟩, 206, 1373), (⟨⟨[105, 110, 115, 116, 95, 48, 120, 100, 53]⟩⟩, 189, 1254), (⟨⟨[105, 110, 115, 116, 95, 48, 120, 98, 53]⟩⟩, 168, 1107), (⟨⟨[105, 110, 115, 116, 95, 48, 120, 97, 97]⟩⟩, 161, 1058), (⟨⟨[105, 110, 115, 116, 95, 48, 120, 57, 53]⟩⟩, 147, 960), (⟨⟨[105, 110, 115, 116, 95, 48, 120, 102, 54]⟩⟩, 209, 1394), (⟨⟨[105, 110, 115, 116, 95, 48, 120, 56, 97]⟩⟩, 140, 911), (⟨⟨[105, 110, 115, 116, 95, 48, 120, 100, 54]⟩⟩, 190, 1261)]
noncomputable def metNames : List (Str × Nat × Nat) := methNames ++ instNames
noncomputable def tabNames : List (Str × Addr) := [(⟨⟨[105, 110, 115, 116, 114, 117, 99, 116]⟩⟩, 1423), (⟨⟨[99, 121, 99, 108, 101, 116, 105, 109, 101]⟩⟩, 1424), (⟨⟨[101, 120, 116, 114, 97, 99, 121, 99, 108, 101, 115]⟩⟩, 1425)]
noncomputable def absNames : List Str := [⟨⟨[110, 97, 109, 101]⟩⟩, ⟨⟨[98, 121, 116, 101, 77, 97, 115, 107]⟩⟩, ⟨⟨[97, 100, 100, 114, 77, 97, 115, 107]⟩⟩, ⟨⟨[97, 100, 100, 114, 72, 105, 103, 104, 77, 97, 115, 107]⟩⟩, ⟨⟨[115, 112, 66, 97, 115, 101]⟩⟩, ⟨⟨[101, 120, 99, 121, 99, 108, 101, 115]⟩⟩, ⟨⟨[97, 100, 100, 99, 121, 99, 108, 101, 115]⟩⟩, ⟨⟨[112, 114, 111, 99, 101, 115, 115, 111, 114, 67, 121, 99, 108, 101, 115]⟩⟩, ⟨⟨[109, 101, 109, 111, 114, 121]⟩⟩, ⟨⟨[115, 116, 97, 114, 116, 95, 112, 99]⟩⟩, ⟨⟨[112, 99]⟩⟩, ⟨⟨[115, 112]⟩⟩, ⟨⟨[97]⟩⟩, ⟨⟨[120]⟩⟩, ⟨⟨[121]⟩⟩, ⟨⟨[112]⟩⟩, ⟨⟨[95, 95, 103, 101, 116, 97, 116, 116, 114, 105, 98, 117, 116, 101, 95, 95]⟩⟩, ⟨⟨[95, 95, 103, 101, 116, 97, 116, 116, 114, 95, 95]⟩⟩, ⟨⟨[95, 95, 115, 101, 116, 97, 116, 116, 114, 95, 95]⟩⟩, ⟨⟨[95, 95, 110, 101, 119, 95, 95]⟩⟩, ⟨⟨[95, 95, 99, 97, 108, 108, 95, 95]⟩⟩, ⟨⟨[95, 95, 99, 108, 97, 115, 115, 95, 95]⟩⟩]

noncomputable def cycL : List Int := [7, 6, 0, 0, 0, 3, 5, 0, 3, 2, 2, 0, 0, 4, 6, 0, 2, 5, 0, 0, 0, 4, 6, 0, 2, 4, 0, 0, 0, 4, 7, 0, 6, 6, 0, 0, 3, 3, 5, 0, 4, 2, 2, 0, 4, 4, 6, 0, 2, 5, 0, 0, 0, 4, 6, 0, 2, 4, 0, 0, 0, 4, 7, 0, 6, 6, 0, 0, 0, 3, 5, 0, 3, 2, 2, 0, 3, 4, 6, 0, 2, 5, 0, 0, 0, 4, 6, 0, 2, 4, 0, 0, 0, 4, 7, 0, 6, 6, 0, 0, 0, 3, 5, 0, 4, 2, 2, 0, 5, 4, 6, 0, 2, 5, 0, 0, 0, 4, 6, 0, 2, 4, 0, 0, 0, 4, 7, 0, 0, 6, 0, 0, 3, 3, 3, 0, 2, 0, 2, 0, 4, 4, 4, 0, 2, 6, 0, 0, 4, 4, 4, 0, 2, 5, 2, 0, 0, 5, 0, 0, 2, 6, 2, 0, 3, 3, 3, 0, 2, 2, 2, 0, 4, 4, 4, 0, 2, 5, 0, 0, 4, 4, 4, 0, 2, 4, 2, 0, 4, 4, 4, 0, 2, 6, 0, 0, 3, 3, 5, 0, 2, 2, 2, 0, 4, 4, 3, 0, 2, 5, 0, 0, 0, 4, 6, 0, 2, 4, 0, 0, 0, 4, 7, 0, 2, 6, 0, 0, 3, 3, 5, 0, 2, 2, 2, 0, 4, 4, 6, 0, 2, 5, 0, 0, 0, 4, 6, 0, 2, 4, 0, 0, 0, 4, 7, 0]
noncomputable def extL : List Int := [0, 0, 0, 0, 0, 0, 0, 0, 0, 0, 0, 0, 0, 0, 0, 0, 2, 1, 0, 0, 0, 0, 0, 0, 0, 1, 0, 0, 0, 1, 0, 0, 0, 0, 0, 0, 0, 0, 0, 0, 0, 0, 0, 0, 0, 0, 0, 0, 2, 1, 0, 0, 0, 0, 0, 0, 0, 1, 0, 0, 0, 1, 0, 0, 0, 0, 0, 0, 0, 0, 0, 0, 0, 0, 0, 0, 0, 0, 0, 0, 2, 1, 0, 0, 0, 0, 0, 0, 0, 1, 0, 0, 0, 1, 0, 0, 0, 0, 0, 0, 0, 0, 0, 0, 0, 0, 0, 0, 0, 0, 0, 0, 2, 1, 0, 0, 0, 0, 0, 0, 0, 1, 0, 0, 0, 1, 0, 0, 0, 0, 0, 0, 0, 0, 0, 0, 0, 0, 0, 0, 0, 0, 0, 0, 2, 0, 0, 0, 0, 0, 0, 0, 0, 0, 0, 0, 0, 0, 0, 0, 0, 0, 0, 0, 0, 0, 0, 0, 0, 0, 0, 0, 0, 0, 0, 0, 2, 1, 0, 0, 0, 0, 0, 0, 0, 1, 0, 0, 1, 1, 1, 0, 0, 0, 0, 0, 0, 0, 0, 0, 0, 0, 0, 0, 0, 0, 0, 0, 2, 1, 0, 0, 0, 0, 0, 0, 0, 1, 0, 0, 0, 1, 0, 0, 0, 0, 0, 0, 0, 0, 0, 0, 0, 0, 0, 0, 0, 0, 0, 0, 2, 1, 0, 0, 0, 0, 0, 0, 0, 1, 0, 0, 0, 1, 0, 0]

noncomputable def bare : Value → Value
  | .int i _ => .int i 0
  | .str s _ => .str s 0
  | v => v
noncomputable def fObj (j a : Nat) : Obj := match clsB[j]? with
  | some (.FunctionDef name args body _ _ _ scope _ _ _) => { cls := .type "function", data := .func { name := name, qualname := cenv.qual ++ name, params := args, body := .stmts body, scope := scope, globals := 3, closure := [], defaults := (match args.defaults with | [] => .none | _ => .ref 29), kwdefaults := .none, doc := .none, pyModule := modV, annotations := none, code := .ref (a - 1), closureTuple := .none, builtins := 0 } }
  | _ => default
noncomputable def fQual (j : Nat) : Str := match clsB[j]? with
  | some (.FunctionDef name _ _ _ _ _ _ _ _ _) => cenv.qual ++ name
  | _ => ⟨#[]⟩
noncomputable def codeQ (o : Obj) : Option Str := match o.data with
  | .fields vs => (match vs.toList with | _ :: .str q _ :: _ => some q | _ => none)
  | _ => none
noncomputable def seqOf (o : Obj) : Option (Value × List Value) := match o.data with
  | .seq xs _ => some (o.cls, xs.toList.map bare)
  | _ => none
noncomputable def clsO : Obj := { cls := .type "type", data := .cls ⟨⟨⟨[77, 80, 85]⟩⟩, [.type "object"], [.ref 1428, .type "object"], 1427, ⟨⟨[77, 80, 85]⟩⟩, true, [], [], false, none, false⟩, slots := #[none, none, some (.str ⟨⟨[77, 80, 85]⟩⟩ 196), some (.str ⟨⟨[77, 80, 85]⟩⟩ 204), some (.builtin "object.__new__"), some (.bool true)] }
noncomputable def codeHd (o : Obj) : Option (Value × List (Option Value)) := match o.data with
  | .fields vs => some (o.cls, [7, 9, 10, 11, 18].map fun i => (vs.toList[i]?).map bare)
  | _ => none
noncomputable abbrev ObsX : Type := Option (Option Value) × Option Obj × Option (Value × List (Option Value))
noncomputable abbrev Obs : Type := Option Obj × ObsX × (Option (Value × Option Addr × Array (Option Value))) × List (Option (Option Value)) × List (Option Obj) × List (Option Str) × List (Option (Value × List Value)) × Option (Value × List Value)
noncomputable def dictHd (o : Obj) : Option (Value × Option Addr × Array (Option Value)) := match o.data with
  | .dict _ _ => some (o.cls, o.dict, o.slots)
  | _ => none
noncomputable def Yg (g : Addr → Option Obj) : Obs :=
  (g 1428, ((g 3).bind fun o => lookIn ⟨⟨[77, 80, 85]⟩⟩ o, g 80, (g 84).bind codeHd), (g 1427).bind dictHd, (cstNames.map (·.1) ++ methNames.map (·.1) ++ tabNames.map (·.1) ++ absNames).map (fun x => (g 1427).bind fun o => (lookIn x o).map (Option.map bare)),
   metNames.map (fun x => g x.2.2), metNames.map (fun x => (g (x.2.2 - 1)).bind codeQ), tabNames.map (fun x => (g x.2).bind seqOf), (g 29).bind seqOf)
noncomputable def Ya (_ : World) : Obs :=
  (some clsO, (some (some (.ref 1428)), some { cls := .none, data := .fields #[] }, some (.type "code", [some (.int 3 0), some (.bool true), some (.int 181 0), some (.ref 80), some (.str fileS 0)])), some (.type "dict", none, #[]), cstNames.map (fun x => some (some (.int x.2 0))) ++ methNames.map (fun x => some (some (.ref x.2.2))) ++ tabNames.map (fun x => some (some (.ref x.2))) ++ absNames.map (fun _ => some none),
   metNames.map (fun x => some (fObj x.2.1 x.2.2)), metNames.map (fun x => some (fQual x.2.1)),
   [some (.type "list", instrL.map Value.ref), some (.type "list", cycL.map fun i => .int i 0), some (.type "list", extL.map fun i => .int i 0)], some (.type "tuple", [.none, .int 0 0]))
noncomputable def qP : Program := { TP with main := { TP.main with body := TP.main.body.drop 4 } }
noncomputable def looseL : List Str := [⟨⟨[95, 119, 97, 108, 108]⟩⟩, ⟨⟨[77, 80, 85]⟩⟩]
noncomputable def gT (s : SharedT) (a : Addr) : Option Obj := match Nat.blt a s.n with
  | true => (s.tree.get a).bind alive
  | false => none
noncomputable def obs (w : World) (s : SharedT) := (s.n, (staticsOk (importedW TP.main.body) (boot_heap w.params) s.abs.heap && namesBound TP s.abs.heap && gensDone s.abs && laidKept (boot_heap w.params) s.abs.heap), openSeenW qP looseL (importedW TP.main.body) (fun _ => true) true s.abs, Yg (gT s))
theorem XE_obs (w : World) (os : OsState) : (XE w os).map (obs w) = some (1438, true, openGood qP looseL, Ya w) := by kernel_rfl
end
end Mine

end
section
open PySem PySem.W PyProof.Rows
namespace Mine
noncomputable section
noncomputable def allNames : List Str := cstNames.map (·.1) ++ methNames.map (·.1) ++ tabNames.map (·.1) ++ absNames
noncomputable def allVals : List (Option (Option Value)) := cstNames.map (fun x => some (some (.int x.2 0))) ++ methNames.map (fun x => some (some (.ref x.2.2))) ++ tabNames.map (fun x => some (some (.ref x.2))) ++ absNames.map (fun _ => some none)
noncomputable def tabVals : List (Option (Value × List Value)) := [some (.type "list", instrL.map Value.ref), some (.type "list", cycL.map fun i => .int i 0), some (.type "list", extL.map fun i => .int i 0)]
structure MpuAt (h : Heap) (es : Array DictEntry) (n : Nat) : Prop where
  cls : h.get? 1428 = some clsO
  nso : h.get? 1427 = some ⟨.type "dict", none, .dict es n, #[]⟩
  look : allNames.map (fun x => (lookIn x ⟨.type "dict", none, .dict es n, #[]⟩).map (Option.map bare)) = allVals
  fns : ∀ x ∈ metNames, h.get? x.2.2 = some (fObj x.2.1 x.2.2)
  codes : ∀ x ∈ metNames, ∃ o, h.get? (x.2.2 - 1) = some o ∧ codeQ o = some (fQual x.2.1)
  tabs : ∀ (i : Nat) (x : Str × Addr), tabNames[i]? = some x → ∃ o, h.get? x.2 = some o ∧ some (seqOf o) = tabVals[i]?
  dflt : ∃ o, h.get? 29 = some o ∧ seqOf o = some (.type "tuple", [.none, .int 0 0])
  glob : ∃ o, h.get? 3 = some o ∧ lookIn ⟨⟨[77, 80, 85]⟩⟩ o = some (some (.ref 1428))
  tab : h.get? 80 = some { cls := .none, data := .fields #[] }
  code : ∃ o, h.get? 84 = some o ∧ codeHd o = some (.type "code", [some (.int 3 0), some (.bool true), some (.int 181 0), some (.ref 80), some (.str fileS 0)])
theorem MpuAt.keeps {h h' : Heap} {es : Array DictEntry} {n : Nat} (M : MpuAt h es n) (k : ∀ b o, h.get? b = some o → h'.get? b = some o) : MpuAt h' es n :=
  ⟨k _ _ M.cls, k _ _ M.nso, M.look, fun x hx => k _ _ (M.fns x hx), fun x hx => let ⟨o, a, b⟩ := M.codes x hx; ⟨o, k _ _ a, b⟩, fun i x hx => let ⟨o, a, b⟩ := M.tabs i x hx; ⟨o, k _ _ a, b⟩, let ⟨o, a, b⟩ := M.dflt; ⟨o, k _ _ a, b⟩, let ⟨o, a, b⟩ := M.glob; ⟨o, k _ _ a, b⟩, k _ _ M.tab, let ⟨o, a, b⟩ := M.code; ⟨o, k _ _ a, b⟩⟩
theorem map_all {α β : Type} {f g : α → β} : ∀ {l : List α}, l.map f = l.map g → ∀ x ∈ l, f x = g x
  | _ :: _, h, _, .head _ => (List.cons.inj h).1
  | _ :: _, h, _, .tail _ m => map_all (List.cons.inj h).2 _ m
theorem bind_some_of {α β : Type} {x : Option α} {f : α → Option β} {b : β} (h : x.bind f = some b) : ∃ a, x = some a ∧ f a = some b := Option.bind_eq_some_iff.mp h
theorem yp_of {w : World} {g : Addr → Option Obj} {h : Heap} (k : ∀ a o, g a = some o → h.get? a = some o) (e : Yg g = Ya w) : ∃ es n, MpuAt h es n := by
  unfold Yg Ya at e
  simp only [Prod.mk.injEq] at e
  refine El_aaaaaaa e fun e1 hc1 e2 e3 e4 e5 e6 e7 => ?_; obtain ⟨x1, x2, x3⟩ := hc1; try clear e
  obtain ⟨o, ho, hd⟩ := bind_some_of e2
  obtain ⟨c, d, dt, sl⟩ := o
  cases dt with
  | dict es n =>
    simp only [dictHd, Option.some.injEq, Prod.mk.injEq] at hd
    obtain ⟨rfl, rfl, rfl⟩ := hd
    refine ⟨es, n, k _ _ e1, k _ _ ho, ?_, ?_, ?_, ?_, ?_, ?_, k _ _ x2, ?_⟩
    · rw [ho] at e3
      simp only [Option.bind_some] at e3
      exact e3
    · exact fun x hx => k _ _ (map_all e4 x hx)
    · intro x hx
      refine El_ea (bind_some_of (map_all e5 x hx)) fun o a b => ?_
      exact ⟨o, k _ _ a, b⟩
    · intro i x hx
      have h := congrArg (·[i]?) e6
      simp only [List.getElem?_map, hx, Option.map_some] at h
      have hv : ∃ v, tabVals[i]? = some (some v) := by
        have : i < 3 := by
          have := (List.getElem?_eq_some_iff.mp hx).1
          exact this
        match i, this with
        | 0, _ => exact ⟨_, rfl⟩
        | 1, _ => exact ⟨_, rfl⟩
        | 2, _ => exact ⟨_, rfl⟩
      obtain ⟨v, hv⟩ := hv
      have h' : some ((g x.2).bind seqOf) = some (some v) := h.trans hv
      refine El_ea (bind_some_of (Option.some.inj h')) fun o a b => ?_
      exact ⟨o, k _ _ a, by rw [hv, b]⟩
    · refine El_ea (bind_some_of e7) fun o a b => ?_
      exact ⟨o, k _ _ a, b⟩
    · refine El_ea (bind_some_of x1) fun o a b => ?_
      exact ⟨o, k _ _ a, b⟩
    · refine El_ea (bind_some_of x3) fun o a b => ?_
      exact ⟨o, k _ _ a, b⟩
  | _ => cases hd
theorem opn : opening P0 = plainProg P0.main.scope.names := by kernel_rfl
theorem fen (s : Shared) : fenceModules? P0 s = some s := by kernel_rfl
theorem bootSize (w : World) : ((boot_heap w.params).isNs mainGlobals && (Array.mk [] : Array GenState).size == 0, (boot_heap w.params).objs.size, (boot_heap w.params).nsMap mainGlobals "__annotations__") = (true, 11, AN) := by kernel_rfl
theorem gT_abs (s : SharedT) (a : Addr) (o : Obj) (e : gT s a = some o) : s.abs.heap.get? a = some o := by
  show (absHeap s.tree s.n s.life).get? a = _
  unfold gT at e
  split at e
  · rename_i q
    obtain ⟨o', ho, hal⟩ := bind_some_of e
    rw [abs_get (Nat.le_of_ble_eq_true q) ho, hal]
  · cases e
theorem mods_eq : importedModules P0.main.body = importedW TP.main.body := by rw [TP_eq, imported_eq]
theorem bound_eq (h : Heap) : namesBound P0 h = namesBound TP h := by rw [TP_eq]
theorem numN : 109 + (1 + (186 + (2000 + (2000 + (2000 + (2000 + (2000 + (2000 + (2000 + 3000))))))))) + 2704 = 20000 := rfl
noncomputable def YF (s : Shared) : Prop := ∃ es n, MpuAt s.heap es n
theorem left (h2 : ∀ w os k, Rn w os k 2000 16 56) (h3 : ∀ w os k, Rn w os k 2000 56 96) (h4 : ∀ w os k, Rn w os k 2000 96 136) (h5 : ∀ w os k, Rn w os k 2000 136 176) (h6 : ∀ w os k, Rn w os k 2000 176 214) (h7 : ∀ w os k, Rn w os k 2000 214 215) (h8 : ∀ w os k, Rn w os k 2000 215 217) :
    LeftO P0 qP looseL (fun _ => true) YF (fun _ => True) 20000 := fun w => by
  refine El_ea (Option.map_eq_some_iff.mp (boot_open (p := P0) (N := 20000) opn rfl fen w)) fun hc0 e e' => ?_; obtain ⟨h, gs, d, k, os⟩ := hc0
  refine El_aaa (show h = boot_heap w.params ∧ gs = Array.mk [] ∧ d = boot_drawn ∧ k = boot_toks from by simpa only [Prod.mk.injEq] using e') fun hr0 hr1 hr2 hr3 => ?_; obtain rfl := hr0; obtain rfl := hr1; obtain rfl := hr2; obtain rfl := hr3
  refine El_aa (show _ ∧ _ ∧ _ from by simpa only [Prod.mk.injEq] using bootSize w) fun z1 z2 z3 => ?_
  refine El_ea (Option.map_eq_some_iff.mp (XE_obs w os)) fun s hs ho => ?_
  unfold obs at ho
  simp only [Prod.mk.injEq] at ho
  refine El_aaa ho fun hc0 l1 l2 l3 => ?_; obtain - := hc0; try clear ho
  have r := run_all (fun k => Rn_of rfl (p1 w os k)) (h2 w os) (h3 w os) (h4 w os) (h5 w os) (h6 w os) (h7 w os) (h8 w os) hs
  have r := topRun_mono 2704 _ _ _ _ r
  have hab : (ST0 w.params os).abs = ⟨boot_heap w.params, Array.mk [], boot_drawn, boot_toks, os⟩ := by
    show (⟨absHeap (bootT w.params) 11 bootLife, _, _, _, _⟩ : Shared) = _
    rw [boot_abs]
    rfl
  rw [hab, numN] at r
  have t : topFrom treeTable P0 w 20000 ⟨boot_heap w.params, Array.mk [], boot_drawn, boot_toks, os⟩ = some s.abs := by
    unfold topFrom
    dsimp only
    rw [z1, z2, z3]
    rw [r, Option.bind_some, mods_eq, bound_eq, l1]
  have y : YF s.abs = True := eq_true (yp_of (gT_abs s) l3)
  unfold openEnds
  rw [e, Option.bind_some, t, Option.map_some, y, mods_eq, openSeen_eq, l2]
end
end Mine

end
section
open PySem PySem.W PyProof.Rows
namespace Mine
noncomputable section
section
open PySem.TablesWhole (wModule wSs wS wEs wE wTs wClassHead declSs under holds gather noTwice)
namespace Tq
theorem ffT {p : Prop} (h : false = true) : p := nomatch h
theorem and2 {a b : Bool} (h : a = true) (g : b = true) : (a && b) = true := by subst h g; rfl
theorem and1 {a b : Bool} (h : (a && b) = true) : a = true := by cases a with | true => rfl | false => cases h
theorem and3 {a b : Bool} (h : (a && b) = true) : b = true := by cases a with | true => exact h | false => cases h
theorem wM {m : Module} (h : noTwice m.scope = true) (g : wSs holds m.scope ⟨m.scope, [], wSs gather m.scope ⟨m.scope, [], [], [], none⟩ m.scope m.body, [], none⟩ m.scope m.body = true) : wModule holds m = true :=
  and2 (a := true) rfl (and2 h (and2 g rfl))
theorem wSs_cut {top : Scope} {cx : TablesWhole.Ctx} {sc : Scope} (n : Nat) : ∀ {l : List Stmt}, wSs holds top cx sc (l.take n) = true → wSs holds top cx sc (l.drop n) = true → wSs holds top cx sc l = true := by
  induction n with
  | zero => intro l _ h; exact h
  | succ n ih => intro l h g; cases l with
    | nil => rfl
    | cons s l => exact and2 (and1 h) (ih (and3 h) g)
noncomputable def hdS : List Stmt → Stmt
  | s :: _ => s
  | [] => .Pass default
theorem wSs_hd {top : Scope} {cx : TablesWhole.Ctx} {sc : Scope} {l : List Stmt} (h : wS holds top cx sc (hdS l) = true) (g : wSs holds top cx sc l.tail = true) : wSs holds top cx sc l = true := by
  cases l with
  | nil => rfl
  | cons s l => exact and2 h g
noncomputable def clsPt (cx : TablesWhole.Ctx) (sc : Scope) (st : Stmt) : Bool × TablesWhole.Ctx × Scope × List Stmt := match st with
  | .ClassDef _ bases keywords body decorators tparams own tscope bind _ pos => (wClassHead holds cx sc bases keywords decorators tparams own tscope bind pos (declSs true body), ⟨own, declSs false body, declSs true body, under tparams tscope cx.encl, none⟩, own, body)
  | _ => (false, cx, sc, [])
theorem wS_cls {top : Scope} {cx : TablesWhole.Ctx} {sc : Scope} {st : Stmt} (h : (clsPt cx sc st).1 = true) (g : wSs holds top (clsPt cx sc st).2.1 (clsPt cx sc st).2.2.1 (clsPt cx sc st).2.2.2 = true) : wS holds top cx sc st = true := by
  cases st <;> first | exact and2 h g | exact ffT h
noncomputable def eqL : List Nat → List Nat → Bool
  | [], l => l.isEmpty
  | a :: k, l => match l with
    | [] => false
    | b :: l => Nat.beq a b && eqL k l
theorem eqL_eq {k : List Nat} : ∀ {l : List Nat}, eqL k l = true → k = l := by
  induction k with
  | nil => intro l h; cases l with | nil => rfl | cons b l => cases h
  | cons a k ih => intro l h; cases l with
    | nil => cases h
    | cons b l => rw [Nat.eq_of_beq_eq_true (and1 h), ih (and3 h)]
noncomputable def nmId : Expr → Option Str
  | .Name id _ => some id
  | _ => none
noncomputable def isAt (n : Option Str) (x : Option (Str × NameKind)) : Bool := match n with
  | none => false
  | some n => match x with
    | none => false
    | some y => eqL y.1.cps.toList n.cps.toList
noncomputable def nmsOk (t : List (Str × NameKind)) : List Expr → List Nat → Bool
  | [], _ => true
  | e :: es, ix => match ix with
    | [] => false
    | i :: ix => isAt (nmId e) t[i]? && nmsOk t es ix
theorem look_some {n : Str} {k : NameKind} : ∀ {t : List (Str × NameKind)}, (n, k) ∈ t → (t.lookup n).isSome = true := by
  intro t
  induction t with
  | nil => intro h; cases h
  | cons x t ih =>
    intro h
    show (match n == x.1 with | true => some x.2 | false => t.lookup n).isSome = true
    cases e : n == x.1 with
    | true => rfl
    | false => cases h with
      | head => rw [beq_self_eq_true] at e; cases e
      | tail _ h => exact ih h
theorem wE_nm {cx : TablesWhole.Ctx} {sc : Scope} {e : Expr} {i : Nat} (f : sc.functionLike = false) (h : isAt (nmId e) sc.names[i]? = true) : wE holds cx sc none e = true := by
  cases e <;> try exact ffT h
  rename_i n pos
  show (if (n == _ && sc.functionLike) = true then _ else sc.bears n) = true
  rw [f, Bool.and_false]
  show sc.bears n = true
  revert h
  cases hx : sc.names[i]? with
  | none => intro h; exact ffT h
  | some y =>
    intro h
    obtain ⟨m, k⟩ := y
    obtain ⟨m⟩ := m
    obtain ⟨n⟩ := n
    have e : m = n := by cases m; cases n; exact congrArg Array.mk (eqL_eq h)
    subst e
    exact look_some (List.mem_of_getElem? hx)
theorem wEs_nm {cx : TablesWhole.Ctx} {sc : Scope} (f : sc.functionLike = false) {es : List Expr} : ∀ {ix : List Nat}, nmsOk sc.names es ix = true → wEs holds cx sc none es = true := by
  induction es with
  | nil => intro _ _; rfl
  | cons e es ih => intro ix h; cases ix with
    | nil => cases h
    | cons i ix => exact and2 (wE_nm f (and1 h)) (ih (and3 h))
noncomputable def lstE (v : Expr) : Option (List Expr) := match v with
  | .List es _ => some es
  | _ => none
noncomputable def lstPt (st : Stmt) : Option (List Expr) × List Expr := match st with
  | .Assign ts v _ => (lstE v, ts)
  | _ => (none, [])
noncomputable def nmsOkO (t : List (Str × NameKind)) (es : Option (List Expr)) (ix : List Nat) : Bool := match es with
  | none => false
  | some es => nmsOk t es ix
theorem wE_lst {cx : TablesWhole.Ctx} {sc : Scope} {v : Expr} {ix : List Nat} (f : sc.functionLike = false) (h : nmsOkO sc.names (lstE v) ix = true) : wE holds cx sc none v = true := by
  cases v <;> first | exact ffT h | exact wEs_nm f h
theorem wS_lst {top : Scope} {cx : TablesWhole.Ctx} {sc : Scope} {st : Stmt} {ix : List Nat} (f : sc.functionLike = false) (h : nmsOkO sc.names (lstPt st).1 ix = true) (g : wTs holds cx sc none (lstPt st).2 = true) : wS holds top cx sc st = true := by
  cases st <;> first | exact ffT h | exact and2 (wE_lst f h) g
theorem tBody {top : Scope} {cx : TablesWhole.Ctx} {sc : Scope} {l : List Stmt} {ix : List Nat} (h1 : wSs holds top cx sc (l.take 100) = true) (h2 : wSs holds top cx sc ((l.drop 100).take 60) = true) (h3 : wSs holds top cx sc (((l.drop 100).drop 60).take 54) = true)
    (f : sc.functionLike = false) (h4 : nmsOkO sc.names (lstPt (hdS (((l.drop 100).drop 60).drop 54))).1 ix = true) (h5 : wTs holds cx sc none (lstPt (hdS (((l.drop 100).drop 60).drop 54))).2 = true) (h6 : wSs holds top cx sc (((l.drop 100).drop 60).drop 54).tail = true) : wSs holds top cx sc l = true :=
  wSs_cut 100 h1 (wSs_cut 60 h2 (wSs_cut 54 h3 (wSs_hd (wS_lst f h4 h5) h6)))
theorem tAll {m : Module} {cx : TablesWhole.Ctx} {P : Bool × TablesWhole.Ctx × Scope × List Stmt} (ec : cx = ⟨m.scope, [], [], [], none⟩) (e : P = clsPt cx m.scope (hdS (m.body.drop 2))) (h0 : noTwice m.scope = true) (h1 : wSs gather m.scope cx m.scope m.body = [])
    (a : wSs holds m.scope cx m.scope (m.body.take 2) = true) (b : P.1 = true) (c : wSs holds m.scope P.2.1 P.2.2.1 P.2.2.2 = true) (d : wSs holds m.scope cx m.scope (m.body.drop 2).tail = true) : wModule holds m = true := by
  subst ec e
  refine wM h0 ?_
  rw [h1]
  exact wSs_cut 2 a (wSs_hd (wS_cls b c) d)
theorem tProg {p : Program} (h : wModule holds p.main = true) (h1 : p.modules = []) (h2 : p.parses = []) (h3 : p.harvested = []) : p.tablesWhole = true := by
  unfold Program.tablesWhole TablesWhole.wProgram
  rw [h1, h2, h3]
  exact and2 h rfl
noncomputable abbrev cxM : TablesWhole.Ctx := ⟨TP.main.scope, [], [], [], none⟩
noncomputable def cP : Bool × TablesWhole.Ctx × Scope × List Stmt := clsPt cxM TP.main.scope (hdS (TP.main.body.drop 2))
noncomputable def tOk (l : List Stmt) : Prop := wSs holds TP.main.scope cP.2.1 cP.2.2.1 l = true
theorem told0 : wSs gather TP.main.scope cxM TP.main.scope TP.main.body = [] := by rw [PySem.W.Fast.te16421684217811934046, PySem.W.Fast.te12652042256554560961]; kernel_rfl
theorem tb1 : wSs holds TP.main.scope cxM TP.main.scope (TP.main.body.take 2) = true := by rw [PySem.W.Fast.te16421684217811934046]; kernel_rfl
theorem tb3 : wSs holds TP.main.scope cxM TP.main.scope (TP.main.body.drop 2).tail = true := by rw [PySem.W.Fast.te16421684217811934046]; kernel_rfl
theorem tc0 : cP.1 = true := by
  unfold cP clsPt
  rw [PySem.W.Fast.te7474826911137705502]
  kernel_rfl
theorem tc1 : tOk (cP.2.2.2.take 100) := by unfold tOk; rw [PySem.W.Fast.te16421684217811934046]; kernel_rfl
theorem tc2 : tOk ((cP.2.2.2.drop 100).take 60) := by unfold tOk; rw [PySem.W.Fast.te16421684217811934046]; kernel_rfl
theorem tc3 : tOk (((cP.2.2.2.drop 100).drop 60).take 54) := by unfold tOk; rw [PySem.W.Fast.te16421684217811934046]; kernel_rfl
noncomputable abbrev clsR : List Stmt := ((cP.2.2.2.drop 100).drop 60).drop 54
theorem clsNo : cP.2.2.1.functionLike = false := by kernel_rfl
theorem tc4 : nmsOkO cP.2.2.1.names (lstPt (hdS clsR)).1 (instrL.map fun a => (a - 365) / 7 + 62) = true := by kernel_rfl
theorem tc5 : wTs holds cP.2.1 cP.2.2.1 none (lstPt (hdS clsR)).2 = true := by rw [PySem.W.Fast.te12736235915007058005]; kernel_rfl
theorem tc6 : tOk clsR.tail := by unfold tOk; rw [PySem.W.Fast.te16421684217811934046]; kernel_rfl
theorem tC : wSs holds TP.main.scope cP.2.1 cP.2.2.1 cP.2.2.2 = true := tBody (ix := instrL.map fun a => (a - 365) / 7 + 62) tc1 tc2 tc3 clsNo tc4 tc5 tc6
theorem tM0 : noTwice TP.main.scope = true := by rw [PySem.W.Fast.te8331962902438777018]; kernel_rfl
theorem tMo : wModule holds TP.main = true := tAll (m := TP.main) (cx := cxM) (P := cP) rfl (by kernel_rfl) tM0 told0 tb1 tc0 tC tb3
end Tq
theorem tablesT : TP.tablesWhole = true := Tq.tProg Tq.tMo (by kernel_rfl) (by kernel_rfl) (by kernel_rfl)
theorem tablesW : P0.tablesWhole = true := (congrArg Program.tablesWhole TP_eq).trans tablesT
end
noncomputable abbrev RW : OpenLaw := PySem.Challenge.rw_lq0011_03
noncomputable def lawD : DefRec := match TP.main.body with
  | _ :: _ :: _ :: _ :: .FunctionDef n a b _ _ _ sc _ _ pos :: _ => ⟨n, a, b, sc, pos⟩
  | _ => ⟨⟨#[]⟩, ⟨[], [], none, [], [], none, []⟩, [], TP.main.scope, default⟩
theorem hdef : defOf qP RW.row.name = some (lawD, []) := by kernel_rfl
theorem hp : RW.row.prog.theDef RW.row.name = some (lawD.params, lawD.body, lawD.scope) := by
  show P0.theDef _ = _
  rw [TP_eq]
  kernel_rfl
theorem hk : kwWritten? lawD.params.kwonlyargs lawD.params.kw_defaults = some [] := by kernel_rfl
theorem hok : (chainsOk qP && opensWell RW.row.prog && (frees RW.row.toRowW && RW.row.within.isEmpty)) = true := by
  show (chainsOk qP && opensWell P0 && _) = true
  rw [TP_eq]
  kernel_rfl
theorem hbare : RW.row.prog.bare := ⟨rfl, rfl, rfl, rfl, rfl, tablesW⟩
theorem hprom : RW.row.toRowW.promised := ⟨[.list []], by kernel_rfl, by kernel_rfl⟩
noncomputable def LawT : OpenLaw := { prog := TP, name := (PySem.Str.ofString "law"), about := [(PySem.Str.ofString "MPU"), (PySem.Str.ofString "step")], foot := 1, most := some 63, bound := none, writes := false }
theorem LawT_eq : RW = LawT := congrArg (fun p => ({ prog := p, name := (PySem.Str.ofString "law"), about := [(PySem.Str.ofString "MPU"), (PySem.Str.ofString "step")], foot := 1, most := some 63, bound := none, writes := false } : OpenLaw)) TP_eq
theorem and2 {a b : Bool} (h : a = true) (g : b = true) : (a && b) = true := by subst h g; rfl
theorem said1 : namesResolve LawT.row.prog = true := by rw [PySem.W.Fast.te8377067652309620493]; kernel_rfl
theorem said2 : noRoadLSs { strict := !(importedModules LawT.row.prog.main.body).all cThrough.contains, foot := none, bare := List.filter (readsOut LawT.row.prog LawT.row.prog.main.body) [Str.ofString "vars", Str.ofString "dir", Str.ofString "locals"] } LawT.row.prog.main.body = true := by rw [PySem.W.Fast.te8326940854005059898]; kernel_rfl
theorem said3 : (namesMeet LawT.row.prog LawT.row.prog.main.body fun _ n => attrL n) = true := by rw [PySem.W.Fast.te17119622794617984870]; kernel_rfl
theorem said4 : (namesMeet LawT.prog LawT.above fun _ n => !LawT.own.contains n) = true := by rw [PySem.W.Fast.te17119622794617984870]; kernel_rfl
theorem saidT : LawT.wellSaid = true := by
  unfold OpenLaw.wellSaid OpenRow.wellSaid OpenRow.partSaid looksOpen
  repeat' (with_reducible refine and2 ?_ ?_)
  all_goals first
    | with_reducible exact said1
    | with_reducible exact said2
    | with_reducible exact said3
    | with_reducible exact said4
    | (rw [PySem.W.Fast.te8326940854005059898]; kernel_rfl)
    | (rw [PySem.W.Fast.te17119622794617984870]; kernel_rfl)
    | kernel_rfl
theorem said : RW.wellSaid = true := by rw [LawT_eq]; exact saidT
theorem holds_of (h2 : ∀ w os k, Rn w os k 2000 16 56) (h3 : ∀ w os k, Rn w os k 2000 56 96) (h4 : ∀ w os k, Rn w os k 2000 96 136) (h5 : ∀ w os k, Rn w os k 2000 136 176) (h6 : ∀ w os k, Rn w os k 2000 176 214) (h7 : ∀ w os k, Rn w os k 2000 214 215) (h8 : ∀ w os k, Rn w os k 2000 215 217)
    (call : WalkO qP looseL (fun _ _ => True) (fun _ h => ∃ es n, MpuAt h es n) RW.row.toRowW lawD [] fun f vs => PySem.call f vs) : PySem.Challenge.rw_lq0011_03.Holds := by
  refine holds_law (l := RW) said fun _ => ?_
  exact PySem.W.holds_open (left h2 h3 h4 h5 h6 h7 h8) (fun w s e => of_eq_true e) (fun w h h' ⟨es, n, m⟩ k => ⟨es, n, m.keeps k⟩) (fun _ _ => trivial) (fun _ _ _ _ _ => trivial) hdef hp hk (fun _ _ => recFacts_nil rfl) rfl (by assumption) hok hbare hprom call
end
end Mine

end
section
open PySem PySem.W PyProof.Rows
namespace Mine
inductive AV where
  | none | bool (b : Bool) | int (i : Int) | str (s : Str) | obj (i : Nat) | addr (a : Addr) | bi (n : String) | ty (n : String)
  deriving Inhabited
noncomputable def VR (θ : List Addr) : AV → Value → Prop
  | .none, v => v = .none
  | .bool b, v => v = .bool b
  | .int i, v => ∃ t, v = .int i t
  | .str s, v => ∃ t, v = .str s t
  | .obj i, v => ∃ a, θ[i]? = some a ∧ v = .ref a
  | .addr a, v => v = .ref a
  | .bi n, v => v = .builtin n
  | .ty n, v => v = .type n
inductive VRs (θ : List Addr) : List AV → List Value → Prop
  | nil : VRs θ [] []
  | cons {a v as vs} : VR θ a v → VRs θ as vs → VRs θ (a :: as) (v :: vs)
inductive DRs (θ : List Addr) : List (Str × AV) → List DictEntry → Prop
  | nil : DRs θ [] []
  | cons {x a e es l} : (∃ t, e.key = .str x t) → VR θ a e.val → DRs θ es l → DRs θ ((x, a) :: es) (e :: l)
inductive AO where
  | ints (xs : List Int)
  | intx (xs : List Int)
  | cell (v : Option AV)
  | fix (o : Obj)
  | list (xs : List AV)
  | tuple (xs : List AV)
  | inst (C : Addr) (d : Nat)
  | dict (es : List (Str × AV))
  | meth (f : Addr) (self : Nat)
noncomputable def CR (θ : List Addr) : Option AV → Option Value → Prop
  | none, v => v = none
  | some a, v => ∃ u, v = some u ∧ VR θ a u
noncomputable def OR (θ : List Addr) : AO → Obj → Prop
  | .ints xs, o => o.cls = .type "list" ∧ ∃ vs n, o.data = .seq vs n ∧ IntsAre vs.toList xs
  | .cell v, o => ∃ u, o.data = .cell u ∧ CR θ v u
  | .fix ob, o => o = ob
  | .intx xs, o => ∃ vs n, o = ⟨.type "list", none, .seq vs n, #[]⟩ ∧ IntsAre vs.toList xs
  | .list xs, o => ∃ vs n, o = ⟨.type "list", none, .seq vs n, #[]⟩ ∧ VRs θ xs vs.toList
  | .tuple xs, o => ∃ vs n, o = ⟨.type "tuple", none, .seq vs n, #[]⟩ ∧ VRs θ xs vs.toList
  | .inst C d, o => ∃ a sl, θ[d]? = some a ∧ o = ⟨.ref C, some a, .plain, sl⟩
  | .dict es, o => ∃ l n, o = dictOf l n ∧ DRs θ es l
  | .meth f i, o => ∃ a, θ[i]? = some a ∧ o = methodObj (.ref f) (.ref a)
structure AR (θ : List Addr) (as : List AO) (h : Heap) : Prop where
  len : as.length = θ.length
  nodup : θ.Nodup
  objs : ∀ (i : Nat) (o : AO) (a : Addr), as[i]? = some o → θ[i]? = some a → ∃ ob, h.get? a = some ob ∧ OR θ o ob
structure Ext (H : List Addr) (θ : List Addr) (h : Heap) (θ' : List Addr) (h' : Heap) : Prop where
  pre : θ <+: θ'
  fresh : ∀ a ∈ θ', a ∉ θ → h.get? a = none ∧ a ∉ H
  keep : ∀ b o, h.get? b = some o → b ∉ θ → b ∉ H → h'.get? b = some o
  ex : ∀ b o, h.get? b = some o → ∃ o', h'.get? b = some o'
  tab : ∀ P ∈ H, h'.get? P = h.get? P ∨ ∃ l k c, h'.get? P = some (tabObj #[l, k, .ref c]) ∧ h.get? c = none

theorem tab_trans {H : List Addr} {h h₁ h₂ : Heap} (s₁ : ∀ b o, h.get? b = some o → ∃ o', h₁.get? b = some o') (x : ∀ P ∈ H, h₁.get? P = h.get? P ∨ ∃ l k c, h₁.get? P = some (tabObj #[l, k, .ref c]) ∧ h.get? c = none)
    (y : ∀ P ∈ H, h₂.get? P = h₁.get? P ∨ ∃ l k c, h₂.get? P = some (tabObj #[l, k, .ref c]) ∧ h₁.get? c = none) : ∀ P ∈ H, h₂.get? P = h.get? P ∨ ∃ l k c, h₂.get? P = some (tabObj #[l, k, .ref c]) ∧ h.get? c = none := fun P m => by
  rcases y P m with e | ⟨l, k, c, e, q⟩
  · rcases x P m with e' | ⟨l, k, c, e', q⟩
    · exact .inl (e.trans e')
    · exact .inr ⟨l, k, c, e.trans e', q⟩
  · refine .inr ⟨l, k, c, e, ?_⟩
    cases r : h.get? c with
    | none => rfl
    | some o => obtain ⟨o', z⟩ := s₁ c o r; rw [q] at z; cases z
theorem get_pre {θ θ' : List Addr} (p : θ <+: θ') {i : Nat} {a : Addr} (h : θ[i]? = some a) : θ'[i]? = some a := by
  obtain ⟨t, rfl⟩ := p
  have := (List.getElem?_eq_some_iff.mp h).1
  rw [List.getElem?_append_left this]; exact h
theorem VR.mono {θ θ' : List Addr} (p : θ <+: θ') : ∀ {a : AV} {v : Value}, VR θ a v → VR θ' a v
  | .none, _, h | .bool _, _, h | .int _, _, h | .str _, _, h | .addr _, _, h | .bi _, _, h | .ty _, _, h => h
  | .obj _, _, ⟨a, e, h⟩ => ⟨a, get_pre p e, h⟩
theorem VRs.mono {θ θ' : List Addr} (p : θ <+: θ') {as : List AV} {vs : List Value} (h : VRs θ as vs) : VRs θ' as vs := by
  induction h with
  | nil => exact .nil
  | cons h _ ih => exact .cons (h.mono p) ih
theorem DRs.mono {θ θ' : List Addr} (p : θ <+: θ') {as : List (Str × AV)} {vs : List DictEntry} (h : DRs θ as vs) : DRs θ' as vs := by
  induction h with
  | nil => exact .nil
  | cons k h _ ih => exact .cons k (h.mono p) ih
theorem CR.mono {θ θ' : List Addr} (p : θ <+: θ') : ∀ {a : Option AV} {v : Option Value}, CR θ a v → CR θ' a v
  | none, _, h => h
  | some _, _, ⟨u, e, h⟩ => ⟨u, e, h.mono p⟩
theorem OR.mono {θ θ' : List Addr} (p : θ <+: θ') : ∀ {a : AO} {o : Obj}, OR θ a o → OR θ' a o
  | .ints _, _, h => h
  | .intx _, _, h => h
  | .cell _, _, ⟨u, e, h⟩ => ⟨u, e, h.mono p⟩
  | .fix _, _, h => h
  | .list _, _, ⟨vs, n, d, h⟩ => ⟨vs, n, d, h.mono p⟩
  | .tuple _, _, ⟨vs, n, d, h⟩ => ⟨vs, n, d, h.mono p⟩
  | .inst _ _, _, ⟨a, sl, e, h⟩ => ⟨a, sl, get_pre p e, h⟩
  | .dict _, _, ⟨l, n, e, h⟩ => ⟨l, n, e, h.mono p⟩
  | .meth _ _, _, ⟨a, e, h⟩ => ⟨a, get_pre p e, h⟩
theorem Ext.refl {H : List Addr} (θ : List Addr) (h : Heap) : Ext H θ h θ h := ⟨List.prefix_refl θ, fun _ a b => absurd a b, fun _ _ e _ _ => e, fun _ o e => ⟨o, e⟩, fun _ _ => .inl rfl⟩
theorem Ext.trans {H : List Addr} {θ θ₁ θ₂ : List Addr} {h h₁ h₂ : Heap} (x : Ext H θ h θ₁ h₁) (y : Ext H θ₁ h₁ θ₂ h₂) : Ext H θ h θ₂ h₂ := by
  refine ⟨x.pre.trans y.pre, fun a m n => ?_, fun b o e n nh => ?_, fun b o e => (let ⟨o', e'⟩ := x.ex b o e; y.ex b o' e'), tab_trans x.ex x.tab y.tab⟩
  · by_cases q : a ∈ θ₁
    · exact x.fresh a q n
    · obtain ⟨y1, y2⟩ := y.fresh a m q
      refine ⟨?_, y2⟩
      cases r : h.get? a with
      | none => rfl
      | some o => have := x.keep a o r n y2; rw [y1] at this; cases this
  · have n₁ : b ∉ θ₁ := fun m => by have := (x.fresh b m n).1; rw [e] at this; cases this
    exact y.keep b o (x.keep b o e n nh) n₁ nh

structure TabE where
  P : Addr
  pos : Pos
  qual : Str
structure Hid where
  tabs : List TabE
  pin : List Addr
noncomputable abbrev hidOf (T : Hid) : List Addr := T.tabs.map TabE.P
noncomputable def TabAt (H : List Addr) (e : TabE) (θ : List Addr) (h : Heap) : Prop :=
  h.get? e.P = some (tabObj #[]) ∨ ∃ c, h.get? e.P = some (tabObj #[rawInt e.pos.line, rawInt e.pos.col, .ref c]) ∧ h.CodeRec (.ref c) e.qual ∧ c ∉ θ ∧ c ∉ H
theorem TabAt.is {H : List Addr} {e : TabE} {θ : List Addr} {h : Heap} (x : TabAt H e θ h) : ∃ ps, h.get? e.P = some (tabObj ps) := by
  rcases x with x | ⟨c, x, _⟩ <;> exact ⟨_, x⟩
theorem TabAt.to {H : List Addr} {e : TabE} {θ θ' : List Addr} {h h' : Heap} (x : TabAt H e θ h) (k : ∀ o, h.get? e.P = some o → h'.get? e.P = some o)
    (kc : ∀ c o vs, h.get? c = some o → o.data = .fields vs → c ∉ θ → c ∉ H → h'.get? c = some o) (nc : ∀ c o, h.get? c = some o → c ∉ θ → c ∉ θ') : TabAt H e θ' h' := by
  rcases x with x | ⟨c, x, ⟨c', o, vs, t, e1, e2, e3, e4⟩, n1, n2⟩
  · exact .inl (k _ x)
  · cases e1
    exact .inr ⟨c, k _ x, ⟨c, o, vs, t, rfl, kc c o vs e2 e3 n1 n2, e3, e4⟩, nc c o e2 n1, n2⟩
structure St (T : Hid) (h₀ : Heap) (g₀ : Array GenState) (os₀ : OsState) (θ : List Addr) (as : List AO) (s : Shared) : Prop where
  ar : AR θ as s.heap
  base : ∀ b o, h₀.get? b = some o → s.heap.get? b = some o
  apart : ∀ a ∈ θ, h₀.get? a = none
  gens : s.gens = g₀
  os : s.os = os₀
  tabs : ∀ e ∈ T.tabs, TabAt (hidOf T) e θ s.heap
  hnin : ∀ e ∈ T.tabs, e.P ∉ θ
  hbase : ∀ e ∈ T.tabs, h₀.get? e.P = none
  pin : T.pin <+: θ
section
variable {T : Hid} {h₀ : Heap} {g₀ : Array GenState} {os₀ : OsState} {θ : List Addr} {as : List AO} {s : Shared}
theorem St.toks (S : St T h₀ g₀ os₀ θ as s) (k : Nat) : St T h₀ g₀ os₀ θ as { s with toks := k } := ⟨S.ar, S.base, S.apart, S.gens, S.os, S.tabs, S.hnin, S.hbase, S.pin⟩
theorem St.push (S : St T h₀ g₀ os₀ θ as s) {o : AO} {ob : Obj} (hf : ob.isFreed = false) (ho : OR (θ ++ [s.heap.objs.size]) o ob) :
    St T h₀ g₀ os₀ (θ ++ [s.heap.objs.size]) (as ++ [o]) { s with heap := s.heap.push ob } ∧ Ext (hidOf T) θ s.heap (θ ++ [s.heap.objs.size]) (s.heap.push ob) := by
  have pre : θ <+: θ ++ [s.heap.objs.size] := ⟨_, rfl⟩
  have none_ : s.heap.get? s.heap.objs.size = none := by
    cases q : s.heap.get? s.heap.objs.size with
    | none => rfl
    | some o => exact absurd (Heap.lt_size q) (Nat.lt_irrefl _)
  have nin : s.heap.objs.size ∉ θ := fun m => by
    obtain ⟨i, hi, e⟩ := List.getElem_of_mem m
    have e' : θ[i]? = some s.heap.objs.size := by rw [List.getElem?_eq_getElem hi, e]
    have hi' : i < as.length := by rw [S.ar.len]; exact hi
    obtain ⟨ob, h, _⟩ := S.ar.objs i as[i] _ (List.getElem?_eq_getElem hi') e'
    rw [none_] at h; cases h
  have nh : s.heap.objs.size ∉ hidOf T := fun m => by
    obtain ⟨e, he, q⟩ := List.mem_map.mp m
    obtain ⟨ps, x⟩ := (S.tabs e he).is
    rw [q, none_] at x; cases x
  refine ⟨⟨⟨?_, ?_, ?_⟩, fun b o e => Heap.get?_push_of_some _ (S.base b o e), ?_, S.gens, S.os, fun e he => ?_, fun e he m => ?_, S.hbase, S.pin.trans pre⟩, ⟨pre, ?_, fun b o e _ _ => Heap.get?_push_of_some _ e, fun b o e => ⟨o, Heap.get?_push_of_some _ e⟩, fun P m => .inl (by
    obtain ⟨e, he, rfl⟩ := List.mem_map.mp m
    obtain ⟨ps, x⟩ := (S.tabs e he).is
    rw [x]; exact Heap.get?_push_of_some _ x)⟩⟩
  · simp [S.ar.len]
  · rw [List.nodup_append]
    exact ⟨S.ar.nodup, by simp, fun a ha b hb => by
      have : b = s.heap.objs.size := by simpa using hb
      rintro rfl
      exact nin (this ▸ ha)⟩
  · intro i o' a e1 e2
    by_cases q : i < as.length
    · rw [List.getElem?_append_left q] at e1
      rw [List.getElem?_append_left (by rw [← S.ar.len]; exact q)] at e2
      refine El_ea (S.ar.objs i o' a e1 e2) fun ob' x y => ?_
      exact ⟨ob', Heap.get?_push_of_some _ x, y.mono pre⟩
    · have hi : i = as.length := by
        have := (List.getElem?_eq_some_iff.mp e1).1
        simp at this; lia
      subst hi
      rw [List.getElem?_append_right (Nat.le_refl _), Nat.sub_self] at e1
      rw [S.ar.len, List.getElem?_append_right (Nat.le_refl _), Nat.sub_self] at e2
      cases e1; cases e2
      exact ⟨ob, Heap.get?_push_size _ hf, ho⟩
  · intro a ha
    rcases List.mem_append.mp ha with m | m
    · exact S.apart a m
    · have e : a = s.heap.objs.size := by simpa using m
      subst e
      cases q : h₀.get? s.heap.objs.size with
      | none => rfl
      | some o => have := S.base _ _ q; rw [none_] at this; cases this
  · refine (S.tabs e he).to (fun _ x => Heap.get?_push_of_some _ x) (fun _ _ _ x _ _ _ => Heap.get?_push_of_some _ x) fun c o x n m => ?_
    rcases List.mem_append.mp m with m | m
    · exact n m
    · have e : c = s.heap.objs.size := by simpa using m
      subst e; rw [none_] at x; cases x
  · rcases List.mem_append.mp m with m | m
    · exact S.hnin e he m
    · have q : e.P = s.heap.objs.size := by simpa using m
      exact nh (q ▸ List.mem_map_of_mem he)
  · intro a ha na
    rcases List.mem_append.mp ha with m | m
    · exact absurd m na
    · have e : a = s.heap.objs.size := by simpa using m
      subst e; exact ⟨none_, nh⟩
theorem St.upd (S : St T h₀ g₀ os₀ θ as s) {i : Nat} {a : Addr} {o o' : AO} {ob' : Obj} {h' : Heap} (ha : θ[i]? = some a) (_hi : as[i]? = some o) (hs : Heap.SameBut a s.heap h') (hg : h'.get? a = some ob') (ho : OR θ o' ob') :
    St T h₀ g₀ os₀ θ (as.set i o') { s with heap := h' } ∧ Ext (hidOf T) θ s.heap θ h' := by
  have ma : a ∈ θ := List.mem_of_getElem? ha
  refine ⟨⟨⟨by rw [List.length_set]; exact S.ar.len, S.ar.nodup, ?_⟩, fun b ob e => ?_, S.apart, S.gens, S.os, fun e he => ?_, S.hnin, S.hbase, S.pin⟩, ⟨List.prefix_refl θ, fun _ x y => absurd x y, fun b ob e n _ => ?_, fun b o e => (if q : b = a then ⟨ob', q ▸ hg⟩ else ⟨o, (hs.2 b q).trans e⟩), fun P m => .inl (hs.2 P fun q => by
    obtain ⟨e, he, rfl⟩ := List.mem_map.mp m
    exact S.hnin e he (q ▸ ma))⟩⟩
  · intro j oj b e1 e2
    by_cases q : j = i
    · subst q
      have hl : j < as.length := by rw [S.ar.len]; exact (List.getElem?_eq_some_iff.mp ha).1
      rw [List.getElem?_set_self hl] at e1
      rw [ha] at e2
      cases e1; cases e2
      exact ⟨ob', hg, ho⟩
    · rw [List.getElem?_set_ne (Ne.symm q)] at e1
      obtain ⟨ob, x, y⟩ := S.ar.objs j oj b e1 e2
      have nb : b ≠ a := fun e => by
        subst e
        obtain ⟨l1, h1⟩ := List.getElem?_eq_some_iff.mp e2
        obtain ⟨l2, h2⟩ := List.getElem?_eq_some_iff.mp ha
        have nd := List.pairwise_iff_getElem.mp S.ar.nodup
        rcases Nat.lt_or_gt_of_ne q with r | r
        · exact nd j i l1 l2 r (h1.trans h2.symm)
        · exact nd i j l2 l1 r (h2.trans h1.symm)
      exact ⟨ob, (hs.2 b nb).trans x, y⟩
  · have nb : b ≠ a := fun q => by subst q; rw [S.apart b ma] at e; cases e
    exact (hs.2 b nb).trans (S.base b ob e)
  · exact (S.tabs e he).to (fun o x => (hs.2 e.P fun q => S.hnin e he (q ▸ ma)).trans x) (fun c o vs x _ n _ => (hs.2 c fun q => n (q ▸ ma)).trans x) fun c o _ n => n
  · have nb : b ≠ a := fun q => n (q ▸ ma)
    exact (hs.2 b nb).trans e
end
end Mine

end
section
open PySem PySem.W PyProof.Rows
namespace Mine
noncomputable def natsEq : List Nat → List Nat → Bool
  | [], [] => true
  | a :: x, b :: y => match Nat.beq a b with | true => natsEq x y | false => false
  | _, _ => false
theorem natsEq_iff : ∀ {x y : List Nat}, natsEq x y = true ↔ x = y
  | [], [] => by simp [natsEq]
  | [], _ :: _ => by simp [natsEq]
  | _ :: _, [] => by simp [natsEq]
  | a :: x, b :: y => by
    unfold natsEq
    cases h : Nat.beq a b with
    | true => have := Nat.eq_of_beq_eq_true h; subst this; simp [natsEq_iff]
    | false => have := Nat.ne_of_beq_eq_false h; simp [this]
noncomputable def seq (a b : Str) : Bool := natsEq a.cps.toList b.cps.toList
theorem seq_iff {a b : Str} : seq a b = true ↔ a = b := by
  unfold seq
  rw [natsEq_iff]
  constructor
  · intro h
    cases a; cases b
    simp only [Str.mk.injEq]
    exact Array.toList_inj.mp h
  · rintro rfl; rfl
theorem seq_eq (a b : Str) : seq a b = (a == b) := by
  cases h : seq a b with
  | true => rw [seq_iff.mp h]; simp
  | false =>
    have : a ≠ b := fun e => by rw [seq_iff.mpr e] at h; cases h
    simp [this]
noncomputable def lk {α : Type} : List (Str × α) → Str → Option α
  | [], _ => none
  | (y, v) :: r, x => match seq y x with | true => some v | false => lk r x
noncomputable def pt {α : Type} : List (Str × α) → Str → α → List (Str × α)
  | [], x, v => [(x, v)]
  | (y, u) :: r, x, v => match seq y x with | true => (y, v) :: r | false => (y, u) :: pt r x v

theorem isStr_key {e : DictEntry} {y : Str} (h : ∃ t, e.key = .str y t) (x : Str) : e.key.isStr x = seq y x := by
  obtain ⟨t, h⟩ := h
  rw [h, seq_eq]; rfl
theorem refKey_key {e : DictEntry} {y : Str} (h : ∃ t, e.key = .str y t) : e.refKey = false := by
  obtain ⟨t, h⟩ := h
  unfold DictEntry.refKey
  rw [h]
theorem DRs.noRef {θ : List Addr} {es : List (Str × AV)} {l : List DictEntry} (D : DRs θ es l) : l.any (·.refKey) = false := by
  induction D with
  | nil => rfl
  | cons k _ _ ih => rw [List.any_cons, refKey_key k, ih]; rfl
theorem DRs.find {θ : List Addr} {es : List (Str × AV)} {l : List DictEntry} (D : DRs θ es l) (x : Str) :
    match lk es x with
    | some av => ∃ e, l.find? (·.key.isStr x) = some e ∧ VR θ av e.val
    | none => l.find? (·.key.isStr x) = none := by
  induction D with
  | nil => rfl
  | @cons y a e es l k v _ ih =>
    unfold lk
    rw [List.find?_cons, isStr_key k x]
    cases h : seq y x with
    | true => exact ⟨e, rfl, v⟩
    | false => exact ih
theorem DRs.getSome {θ : List Addr} {es : List (Str × AV)} {l : List DictEntry} (D : DRs θ es l) {x : Str} {av : AV} (h : lk es x = some av) : ∃ v, getL x l = some (some v) ∧ VR θ av v := by
  have := D.find x
  rw [h] at this
  obtain ⟨e, f, r⟩ := this
  exact ⟨e.val, by unfold getL; rw [f], r⟩
theorem DRs.getNone {θ : List Addr} {es : List (Str × AV)} {l : List DictEntry} (D : DRs θ es l) {x : Str} (h : lk es x = none) : getL x l = some none := by
  have := D.find x
  rw [h] at this
  unfold getL
  rw [this, D.noRef]; rfl
theorem DRs.put {θ : List Addr} {es : List (Str × AV)} {l : List DictEntry} (D : DRs θ es l) {x : Str} {av : AV} {v : Value} (hv : VR θ av v) (hsh : Int) (t : Tok) : DRs θ (pt es x av) (putL x hsh (.str x t) v l) := by
  induction D with
  | nil => exact .cons ⟨t, rfl⟩ hv .nil
  | @cons y a e es l k u d ih =>
    unfold pt putL
    rw [isStr_key k x]
    cases h : seq y x with
    | true => exact .cons k hv d
    | false => exact .cons k u ih
theorem DRs.len {θ : List Addr} {es : List (Str × AV)} {l : List DictEntry} (D : DRs θ es l) : l.length = es.length := by
  induction D with
  | nil => rfl
  | cons _ _ _ ih => simp [ih]

noncomputable def handed : AV → Bool
  | .bi _ => false
  | _ => true
theorem handed_of {θ : List Addr} {a : AV} {v : Value} (h : VR θ a v) (e : handed a = true) : handedIn v = true := by
  cases a with
  | bi n => cases e
  | none => cases h; rfl
  | bool b => cases h; rfl
  | int i => obtain ⟨t, rfl⟩ := h; rfl
  | str s => obtain ⟨t, rfl⟩ := h; rfl
  | obj i => obtain ⟨a, _, rfl⟩ := h; rfl
  | addr a => cases h; rfl
  | ty n => cases h; rfl

structure CF (K : Frag) (C : Addr) : Prop where
  pg : plainGet K C ⟨#[]⟩ = true
  hd : hasDictIn K C = true
  sa : findIn K (.ref C) "__setattr__" = some (some (.builtin "object.__setattr__"))
  po : plainOver K C = true

section
variable {prog : Program} {w : World} {A : Around} {E : Value → Shared → Prop} {s : Shared} {K : Frag} {C : Addr} {T : Hid} {h₀ : Heap} {g₀ : Array GenState} {os₀ : OsState} {θ : List Addr} {as : List AO} {i d : Nat} {es : List (Str × AV)} {name : Str}
theorem St.inst (S : St T h₀ g₀ os₀ θ as s) (hi : as[i]? = some (.inst C d)) (hd : as[d]? = some (.dict es)) {x : Addr} (hx : θ[i]? = some x) :
    ∃ dx sl l n, θ[d]? = some dx ∧ DRs θ es l ∧ InstAt s.heap x ⟨.ref C, some dx, .plain, sl⟩ C (some (dictOf l n)) ∧ s.heap.get? dx = some (dictOf l n) := by
  refine El_eaeea (S.ar.objs i _ x hi hx) fun ob h1 dx sl h2 hr5 => ?_; obtain rfl := hr5
  refine El_eaeea (S.ar.objs d _ dx hd h2) fun ob' h3 l n hr4 h4 => ?_; obtain rfl := hr4
  exact ⟨dx, sl, l, n, h2, h4, ⟨h1, rfl, rfl, h3⟩, h3⟩
theorem a_get {expr : Bool} {Q : Value → Shared → Prop} {av : AV} (X : K.In s.heap) (c : CF K C) (S : St T h₀ g₀ os₀ θ as s) (hi : as[i]? = some (.inst C d)) (hd : as[d]? = some (.dict es)) (hl : lk es name = some av) (hh : handed av = true)
    (hc : findIn K (.ref C) name = some none) {x : Addr} (hx : θ[i]? = some x) (h : ∀ v, VR θ av v → Q v { s with toks := s.toks + 1 }) :
    wpAny (model prog w) A (getAttr (.ref x) name expr) Q E s := by
  refine El_eeeeaaa (S.inst hi hd hx) fun dx sl l n _ D I _ => ?_
  obtain ⟨v, e, r⟩ := D.getSome hl
  exact get_value X I (plainGet_of c.pg).1 (findObj_own c.hd hc rfl e) (handed_of r hh) (h v r)
theorem a_cst {expr : Bool} {Q : Value → Shared → Prop} {a : Value} (X : K.In s.heap) (c : CF K C) (S : St T h₀ g₀ os₀ θ as s) (hi : as[i]? = some (.inst C d)) (hd : as[d]? = some (.dict es)) (hl : lk es name = none)
    (hc : findIn K (.ref C) name = some (some a)) (hn : specialIn K a "__get__" = some none) (hv : handedIn a = true) (hcp : copiedNames.contains name = false) {x : Addr} (hx : θ[i]? = some x) (h : Q a { s with toks := s.toks + 1 }) :
    wpAny (model prog w) A (getAttr (.ref x) name expr) Q E s := by
  refine El_eeeeaaa (S.inst hi hd hx) fun dx sl l n _ D I _ => ?_
  exact get_value X I (plainGet_of c.pg).1 (findObj_cls c.hd hc hn hv hcp (D.getNone hl)) hv h
theorem a_meth {expr : Bool} {Q : Value → Shared → Prop} {f : Addr} (X : K.In s.heap) (c : CF K C) (S : St T h₀ g₀ os₀ θ as s) (hi : as[i]? = some (.inst C d)) (hd : as[d]? = some (.dict es)) (hl : lk es name = none)
    (hc : findIn K (.ref C) name = some (some (.ref f))) (hf : isFn K (.ref f) = true) (hg : specialIn K (.ref f) "__get__" = some (some (.builtin "function.__get__"))) (ht : takesIn K (.ref f) = some false) (hcp : copiedNames.contains name = false)
    {x : Addr} (hx : θ[i]? = some x)
    (h : ∀ s', St T h₀ g₀ os₀ (θ ++ [s.heap.objs.size]) (as ++ [.meth f i]) s' → Ext (hidOf T) θ s.heap (θ ++ [s.heap.objs.size]) s'.heap → Q (.ref s.heap.objs.size) s') :
    wpAny (model prog w) A (getAttr (.ref x) name expr) Q E s := by
  refine El_eeeeaaa (S.inst hi hd hx) fun dx sl l n _ D I _ => ?_
  have P := S.push (o := .meth f i) (ob := methodObj (.ref f) (.ref x)) rfl ⟨x, get_pre ⟨_, rfl⟩ hx, rfl⟩
  exact get_bind X I (plainGet_of c.pg).1 (findObj_fn c.hd hc hg ht hcp (D.getNone hl)) (plainGet_of c.pg).2
    (wpAny_call (fn_get (s := { s with toks := s.toks + 1 }) X (beq_iff_eq.mp hf) (handed_on rfl (h _ (P.1.toks _) P.2))))
theorem a_call {pl : Sem Bool} {Q : Value × List Value → Shared → Prop} {f : Addr} (X : K.In s.heap) (c : CF K C) (S : St T h₀ g₀ os₀ θ as s) (hi : as[i]? = some (.inst C d)) (hd : as[d]? = some (.dict es)) (hl : lk es name = none)
    (hc : findIn K (.ref C) name = some (some (.ref f))) (hf : isFn K (.ref f) = true) {x : Addr} (hx : θ[i]? = some x) (h : Q (.ref f, [.ref x]) s) :
    wpAny (model prog w) A (getMethod (.ref x) name pl) Q E s := by
  refine El_eeeeaaa (S.inst hi hd hx) fun dx sl l n _ D I _ => ?_
  exact method_fn X I (plainGet_of c.pg).1 (plainGet_of c.pg).2 hc (beq_iff_eq.mp hf) (by show (lookIn name (dictOf l n)).map _ = _; rw [lookIn_dict, D.getNone hl]; rfl) h
theorem a_set {Q : Unit → Shared → Prop} {av : AV} {v : Value} (X : K.In s.heap) (c : CF K C) (S : St T h₀ g₀ os₀ θ as s) (hi : as[i]? = some (.inst C d)) (hd : as[d]? = some (.dict es)) (hz : (pt es name av).length ≤ 1000)
    (ht : takerIn K C name = some none) {x : Addr} (hx : θ[i]? = some x) (hv : VR θ av v)
    (h : ∀ s', St T h₀ g₀ os₀ θ (as.set d (.dict (pt es name av))) s' → Ext (hidOf T) θ s.heap θ s'.heap → Q () s') :
    wpAny (model prog w) A (setAttr (.ref x) name v) Q E s := by
  refine El_eeeeaaa (S.inst hi hd hx) fun dx sl l n hdx D I D0 => ?_
  refine set_plain X I c.sa ?_
  refine osa_open (s := { s with toks := s.toks + 1 }) X I c.po ht fun b => ?_
  refine El_ea (any_some c.hd) fun cd hc hd' => ?_
  obtain ⟨hx', _, _, -⟩ := I
  refine wpAny_bind (wpAny_pure (wpAny_bind (wpAny_bind (wpAny_loadPart hx' (wpAny_bind (Looks.at (looks_clsIn X hc) ?_))))))
  rw [hd']
  refine wpAny_pure (a := some dx) (wpAny_bind (wpAny_pure (wpAny_bind ?_)))
  unfold nsSet
  refine wpAny_bind (wpAny_bind (wpAny_askSetting (wpAny_pure (wpAny_bind (wpAny_mkText (wpAny_bind (wpAny_loadPart D0 ?_)))))))
  show wpAny _ _ (if aRefKeyMayBeTheName name l.toArray then _ else _) _ _ _
  have cc : (!l.toArray.any (·.key.isStr name) && l.toArray.any (·.refKey)) = false := by
    rw [← Array.any_toList, ← Array.any_toList]
    show (!l.any _ && l.any _) = false
    rw [D.noRef, Bool.and_false]
  rw [aRefKeyMayBeTheName_at, cc]
  let f := Obj.putName name (PyData.keyHash w.params name) (.str name (s.toks + 1)) v
  have e : f (dictOf l n) = dictOf (putL name (PyData.keyHash w.params name) (.str name (s.toks + 1)) v l) (putN name l n) := putName_dict ..
  have D1 : (s.heap.update dx f).get? dx = some (dictOf (putL name (PyData.keyHash w.params name) (.str name (s.toks + 1)) v l) (putN name l n)) := by
    rw [← e]; exact Heap.get?_update_self _ D0 (by rw [e]; rfl)
  have P := S.upd (h' := s.heap.update dx f) (o' := .dict (pt es name av)) hdx hd (Heap.SameBut.update ..) D1 ⟨_, _, rfl, D.put hv _ _⟩
  refine wpAny_updatePart D0 ?_
  refine wpAny_bind (wpAny_lookBehind D1 (pastItsLine_dict (by rw [List.size_toArray, (D.put (x := name) hv _ _).len, sizeLine_eq]; lia)) ?_)
  exact wpAny_pure (h _ (P.1.toks _) P.2)
end
end Mine

end
section
open PySem PySem.W PyProof.Rows
namespace Mine
noncomputable def intA : Operator → Int → Int → Option Int
  | .Add, a, b => some (a + b)
  | .Sub, a, b => some (a - b)
  | .BitAnd, a, b => some (Builtin.bitAnd a b)
  | .BitOr, a, b => some (Builtin.bitOr a b)
  | .BitXor, a, b => some (Builtin.bitXor a b)
  | .LShift, a, b => if 0 ≤ b ∧ b ≤ 1000000 ∧ a.natAbs < 2 ^ 64 then some (a * 2 ^ b.toNat) else none
  | .RShift, a, b => if 0 ≤ b then some (a.fdiv (2 ^ b.toNat)) else none
  | .FloorDiv, a, b => if b ≠ 0 ∧ Builtin.divisionGoesByPylong a b = false then some (a.fdiv b) else none
  | .Mod, a, b => if b ≠ 0 then some (a.fmod b) else none
  | .Mult, a, b => if Builtin.Int.intBits a ≤ 64 ∨ Builtin.Int.intBits b ≤ 64 then some (a * b) else none
  | _, _, _ => none
noncomputable def cmpI (op : CmpOp) (a b : Int) : Option Bool := match op with
  | .Eq => some (a == b)
  | .NotEq => some (a != b)
  | .Lt => some (decide (a < b))
  | .LtE => some (decide (a ≤ b))
  | .Gt => some (decide (b < a))
  | .GtE => some (decide (b ≤ a))
  | _ => none
noncomputable def isN (a : AV) : Option Bool := match a with
  | .none => some true
  | .int _ => some false
  | .obj _ => some false
  | _ => none
noncomputable def cmpA (op : CmpOp) (a b : AV) : Option Bool := match b with
  | .int j => (match a with | .int i => cmpI op i j | _ => none)
  | .none => (match op with | .Is => isN a | _ => none)
  | _ => none
noncomputable def truA : AV → Option Bool
  | .int i => some (i != 0)
  | .bool b => some b
  | .none => some false
  | _ => none
section
variable {prog : Program} {w : World} {A : Around} {E : Value → Shared → Prop} {s : Shared} {θ : List Addr}
theorem mulOk {a b : Int} (h : Builtin.Int.intBits a ≤ 64 ∨ Builtin.Int.intBits b ≤ 64) : IntMulOk a b := h.elim IntMulOk.of_left IntMulOk.of_right
theorem bin_int {op : Operator} {a b r : Int} {t u : Tok} {Q : Value → Shared → Prop} (e : intA op a b = some r) (h : Q (.int r s.toks) { s with toks := s.toks + 1 }) : wpAny (model prog w) A (binaryOp op (.int a t) (.int b u)) Q E s := by
  cases op with
  | Add => cases (show some _ = some r from e); exact add_int h
  | Sub => cases (show some _ = some r from e); exact sub_int h
  | BitAnd => cases (show some _ = some r from e); exact and_int h
  | BitOr => cases (show some _ = some r from e); exact or_int h
  | BitXor => cases (show some _ = some r from e); exact xor_int h
  | LShift =>
    have e : (if _ then some _ else none) = some r := e
    split at e
    · rename_i q; cases e; exact lshift_int_small q.1 q.2.1 q.2.2 h
    · cases e
  | RShift =>
    have e : (if _ then some _ else none) = some r := e
    split at e
    · rename_i q; cases e; exact rshift_int q h
    · cases e
  | FloorDiv =>
    have e : (if _ then some _ else none) = some r := e
    split at e
    · rename_i q; cases e; exact floordiv_int q.1 h (.inl q.2)
    · cases e
  | Mult =>
    have e : (if _ then some _ else none) = some r := e
    split at e
    · rename_i q; cases e; exact mul_int h (mulOk q)
    · cases e
  | Mod =>
    have e : (if _ then some _ else none) = some r := e
    split at e
    · rename_i q; cases e; exact mod_int q h
    · cases e
  | _ => cases e
theorem inp_int {op : Operator} {a b r : Int} {t u : Tok} {Q : Value → Shared → Prop} (e : intA op a b = some r) (h : Q (.int r s.toks) { s with toks := s.toks + 1 }) (hop : op ≠ .Mod) : wpAny (model prog w) A (inplaceOp op (.int a t) (.int b u)) Q E s := by
  cases op with
  | Add => cases (show some _ = some r from e); exact iadd_int h
  | Sub => cases (show some _ = some r from e); exact isub_int h
  | BitAnd => cases (show some _ = some r from e); exact iand_int h
  | BitOr => cases (show some _ = some r from e); exact ior_int h
  | BitXor => cases (show some _ = some r from e); exact ixor_int h
  | LShift =>
    have e : (if _ then some _ else none) = some r := e
    split at e
    · rename_i q; cases e; exact ilshift_int_small q.1 q.2.1 q.2.2 h
    · cases e
  | RShift =>
    have e : (if _ then some _ else none) = some r := e
    split at e
    · rename_i q; cases e; exact irshift_int q h
    · cases e
  | FloorDiv =>
    have e : (if _ then some _ else none) = some r := e
    split at e
    · rename_i q; cases e; exact ifloordiv_int q.1 h (.inl q.2)
    · cases e
  | Mult =>
    have e : (if _ then some _ else none) = some r := e
    split at e
    · rename_i q; cases e; exact imul_int h (mulOk q)
    · cases e
  | Mod => exact absurd rfl hop
  | _ => cases e
theorem cmp_av {op : CmpOp} {a b : AV} {r : Bool} {x y : Value} {Q : Value → Shared → Prop} (e : cmpA op a b = some r) (ha : VR θ a x) (hb : VR θ b y) (h : Q (.bool r) s) : wpAny (model prog w) A (compareOp op x y) Q E s := by
  cases b with
  | int j => cases a with
    | int i =>
      obtain ⟨t, rfl⟩ := ha; obtain ⟨u, rfl⟩ := hb
      cases op with
      | Eq => cases (show some _ = some r from e); exact eq_int h
      | NotEq => cases (show some _ = some r from e); exact ne_int h
      | Lt => cases (show some _ = some r from e); exact lt_int h
      | LtE => cases (show some _ = some r from e); exact le_int h
      | Gt => cases (show some _ = some r from e); exact gt_int h
      | GtE => cases (show some _ = some r from e); exact ge_int h
      | _ => cases e
    | _ => cases e
  | none => cases op with
    | Is => cases a with
      | none => cases ha; cases hb; cases e; exact is_none_none h
      | int i => obtain ⟨t, rfl⟩ := ha; cases hb; cases e; exact is_int_none h
      | obj i => obtain ⟨a, _, rfl⟩ := ha; cases hb; cases e; exact is_none_ne (by intro x; cases x) h
      | _ => cases e
    | _ => cases e
  | _ => cases e
theorem tru_av {a : AV} {r : Bool} {x : Value} {Q : Bool → Shared → Prop} (e : truA a = some r) (ha : VR θ a x) (h : Q r s) : wpAny (model prog w) A (truthy x) Q E s := by
  unfold truA at e
  split at e
  · obtain ⟨t, rfl⟩ := ha; cases e; exact truthy_int h
  · cases ha; cases e; exact fun _ _ _ => h
  · cases ha; cases e; exact truthy_none h
  · cases e
end
end Mine

end
section
open PySem PySem.W PyProof.Rows
namespace Mine
structure Cx where
  prog : Program
  w : World
  h₀ : Heap
  g₀ : Array GenState
  os₀ : OsState
  T : Hid
noncomputable abbrev Cx.H (X : Cx) : List Addr := hidOf X.T
noncomputable abbrev Cx.S (X : Cx) (θ : List Addr) (as : List AO) (s : Shared) : Prop := St X.T X.h₀ X.g₀ X.os₀ θ as s
noncomputable abbrev Cx.M (X : Cx) : Model := model X.prog X.w
noncomputable abbrev Loc := List (Str × AV)
structure Fm where
  sc : Scope
  loc : Loc
  cells : List (Str × Nat)
  code : Value
  qual : Str
structure FrR (X : Cx) (f : Fm) (L : Addr) (env : Env) (θ : List Addr) (h : Heap) : Prop where
  scope : env.scope = f.sc
  kind : f.sc.kind = .function
  loc : env.locals = L
  nin : L ∉ θ
  apart : X.h₀.get? L = none
  nhid : L ∉ X.H
  ns : ∃ m, h.Ns L m ∧ ∀ x av, lk f.loc x = some av → ∃ v, m x = some v ∧ VR θ av v
  cells : ∀ x i, lk f.cells x = some i → ∃ a, θ[i]? = some a ∧ env.cells.lookup x = some a
  glob : env.globals = 3
  blt : env.builtins = 0
  code : env.code = f.code
  qual : env.qual = f.qual
theorem FrR.ext {X : Cx} {f : Fm} {L : Addr} {env : Env} {θ θ' : List Addr} {h h' : Heap} (F : FrR X f L env θ h) (e : Ext X.H θ h θ' h') : FrR X f L env θ' h' := by
  obtain ⟨m, ⟨o, es, ep, ho, hd, hk, hf⟩, r⟩ := F.ns
  refine ⟨F.scope, F.kind, F.loc, fun q => ?_, F.apart, F.nhid, ⟨m, ⟨o, es, ep, e.keep _ _ ho F.nin F.nhid, hd, hk, hf⟩, fun x av q => ?_⟩, fun x i q => ?_, F.glob, F.blt, F.code, F.qual⟩
  · have := (e.fresh L q F.nin).1; rw [ho] at this; cases this
  · obtain ⟨v, a, b⟩ := r x av q; exact ⟨v, a, b.mono e.pre⟩
  · refine El_ea (F.cells x i q) fun a c d => ?_; exact ⟨a, get_pre e.pre c, d⟩
structure ExtL (H : List Addr) (L : Addr) (θ : List Addr) (h : Heap) (θ' : List Addr) (h' : Heap) : Prop where
  pre : θ <+: θ'
  fresh : ∀ a ∈ θ', a ∉ θ → h.get? a = none ∧ a ∉ H
  keep : ∀ b o, h.get? b = some o → b ∉ θ → b ∉ H → b ≠ L → h'.get? b = some o
  ex : ∀ b o, h.get? b = some o → ∃ o', h'.get? b = some o'
  tab : ∀ P ∈ H, h'.get? P = h.get? P ∨ ∃ l k c, h'.get? P = some (tabObj #[l, k, .ref c]) ∧ h.get? c = none
theorem Ext.toL {H : List Addr} {L : Addr} {θ θ' : List Addr} {h h' : Heap} (e : Ext H θ h θ' h') : ExtL H L θ h θ' h' := ⟨e.pre, e.fresh, fun b o a c d _ => e.keep b o a c d, e.ex, e.tab⟩
theorem ExtL.refl {H : List Addr} (L : Addr) (θ : List Addr) (h : Heap) : ExtL H L θ h θ h := (Ext.refl θ h).toL
theorem ExtL.trans {H : List Addr} {L : Addr} {θ θ₁ θ₂ : List Addr} {h h₁ h₂ : Heap} (_hL : ∃ o, h.get? L = some o) (_nL : L ∉ θ) (sL : ∃ o, h₁.get? L = some o) (x : ExtL H L θ h θ₁ h₁) (y : ExtL H L θ₁ h₁ θ₂ h₂) : ExtL H L θ h θ₂ h₂ := by
  refine ⟨x.pre.trans y.pre, fun a m n => ?_, fun b o e n nh nb => ?_, fun b o e => (let ⟨o', e'⟩ := x.ex b o e; y.ex b o' e'), tab_trans x.ex x.tab y.tab⟩
  · by_cases q : a ∈ θ₁
    · exact x.fresh a q n
    · obtain ⟨y1, y2⟩ := y.fresh a m q
      refine ⟨?_, y2⟩
      by_cases eL : a = L
      · subst eL; obtain ⟨o, ho⟩ := sL; rw [y1] at ho; cases ho
      · cases r : h.get? a with
        | none => rfl
        | some o => have := x.keep a o r n y2 eL; rw [y1] at this; cases this
  · have n₁ : b ∉ θ₁ := fun m => by have := (x.fresh b m n).1; rw [e] at this; cases this
    exact y.keep b o (x.keep b o e n nh nb) n₁ nh nb
theorem ExtL.thru {H : List Addr} {L : Addr} {θ θ₁ θ₂ : List Addr} {h h₁ h₂ : Heap} (x : ExtL H L θ h θ₁ h₁) (sL : ∃ o, h₁.get? L = some o) (y : ExtL H L θ₁ h₁ θ₂ h₂) : ExtL H L θ h θ₂ h₂ := by
  refine ⟨x.pre.trans y.pre, fun a m n => ?_, fun b o e n nh nb => ?_, fun b o e => (let ⟨o', e'⟩ := x.ex b o e; y.ex b o' e'), tab_trans x.ex x.tab y.tab⟩
  · by_cases q : a ∈ θ₁
    · exact x.fresh a q n
    · obtain ⟨y1, y2⟩ := y.fresh a m q
      refine ⟨?_, y2⟩
      by_cases eL : a = L
      · subst eL; obtain ⟨o, ho⟩ := sL; rw [y1] at ho; cases ho
      · cases r : h.get? a with
        | none => rfl
        | some o => have := x.keep a o r n y2 eL; rw [y1] at this; cases this
  · have n₁ : b ∉ θ₁ := fun m => by have := (x.fresh b m n).1; rw [e] at this; cases this
    exact y.keep b o (x.keep b o e n nh nb) n₁ nh nb
theorem FrR.there {X : Cx} {f : Fm} {L : Addr} {env : Env} {θ : List Addr} {h : Heap} (F : FrR X f L env θ h) : ∃ o, h.get? L = some o := by
  obtain ⟨m, ⟨o, es, ep, ho, hd, hk, hf⟩, r⟩ := F.ns
  exact ⟨o, ho⟩
noncomputable def Room (A : Around) (dp : Nat) : Prop := A.depth + dp < recursionLimit ∧ A.units + 4 * dp + 40 < cLine ∧ A.handled = none
inductive AF where
  | next | brk | cont | ret (v : AV)
noncomputable def FlR (θ : List Addr) : AF → Flow → Prop
  | .next, g => g = .next
  | .brk, g => g = .brk
  | .cont, g => g = .cont
  | .ret a, g => ∃ v, g = .ret v ∧ VR θ a v
noncomputable abbrev PV := AV → List AO → Prop
noncomputable abbrev PVs := List AV → List AO → Prop
noncomputable abbrev PB := Bool → List AO → Prop
noncomputable abbrev PF := AF → Loc → List AO → Prop
noncomputable def EvS (X : Cx) (dp : Nat) (f : Fm) (e : Expr) (as : List AO) (Q : PV) : Prop :=
  ∀ (A : Around) (θ : List Addr) (s : Shared) (L : Addr) (env : Env) (post : Value → Shared → Prop) (E : Value → Shared → Prop), Room A dp → FrR X f L env θ s.heap → X.S θ as s →
    (∀ av as' θ' s' v, Q av as' → X.S θ' as' s' → Ext X.H θ s.heap θ' s'.heap → VR θ' av v → post v s') → wpAny X.M A (eval e env) post E s
noncomputable def TsS (X : Cx) (dp : Nat) (f : Fm) (e : Expr) (as : List AO) (Q : PB) : Prop :=
  ∀ (A : Around) (θ : List Addr) (s : Shared) (L : Addr) (env : Env) (post : Bool → Shared → Prop) (E : Value → Shared → Prop), Room A dp → FrR X f L env θ s.heap → X.S θ as s →
    (∀ b as' θ' s', Q b as' → X.S θ' as' s' → Ext X.H θ s.heap θ' s'.heap → post b s') → wpAny X.M A (isTrue e env (eval e env)) post E s
noncomputable def EvsS (X : Cx) (dp : Nat) (f : Fm) (es : List Expr) (as : List AO) (Q : PVs) : Prop :=
  ∀ (A : Around) (θ : List Addr) (s : Shared) (L : Addr) (env : Env) (post : List Value → Shared → Prop) (E : Value → Shared → Prop), Room A dp → FrR X f L env θ s.heap → X.S θ as s →
    (∀ avs as' θ' s' vs, Q avs as' → X.S θ' as' s' → Ext X.H θ s.heap θ' s'.heap → VRs θ' avs vs → post vs s') → wpAny X.M A (spliced (es.map fun e => (false, eval e env))) post E s
noncomputable def ExS (X : Cx) (dp : Nat) (f : Fm) (st : Stmt) (as : List AO) (Q : PF) : Prop :=
  ∀ (A : Around) (θ : List Addr) (s : Shared) (L : Addr) (env : Env) (post : Flow → Shared → Prop) (E : Value → Shared → Prop), Room A dp → FrR X f L env θ s.heap → X.S θ as s →
    (∀ fl loc' as' θ' s' g, Q fl loc' as' → X.S θ' as' s' → ExtL X.H L θ s.heap θ' s'.heap → FrR X { f with loc := loc' } L env θ' s'.heap → FlR θ' fl g → post g s') → wpAny X.M A (exec st env) post E s
noncomputable def ExsS (X : Cx) (dp : Nat) (f : Fm) (ss : List Stmt) (as : List AO) (Q : PF) : Prop :=
  ∀ (A : Around) (θ : List Addr) (s : Shared) (L : Addr) (env : Env) (post : Flow → Shared → Prop) (E : Value → Shared → Prop), Room A dp → FrR X f L env θ s.heap → X.S θ as s →
    (∀ fl loc' as' θ' s' g, Q fl loc' as' → X.S θ' as' s' → ExtL X.H L θ s.heap θ' s'.heap → FrR X { f with loc := loc' } L env θ' s'.heap → FlR θ' fl g → post g s') → wpAny X.M A (execs ss env) post E s
noncomputable def ClS (X : Cx) (dp : Nat) (fa : Value) (vs : List AV) (as : List AO) (Q : PV) : Prop :=
  ∀ (A : Around) (θ : List Addr) (s : Shared) (us : List Value) (post : Value → Shared → Prop) (E : Value → Shared → Prop), Room A dp → X.S θ as s → VRs θ vs us →
    (∀ av as' θ' s' v, Q av as' → X.S θ' as' s' → Ext X.H θ s.heap θ' s'.heap → VR θ' av v → post v s') → codeAny X.M A (.call fa ⟨us, []⟩) (fun r s' => match r with | .ok (.ret v) => post v s' | .ok _ => False | .error e => E e s') s
section
variable {X : Cx} {dp : Nat} {f : Fm} {as : List AO}
theorem EvS.mono {e : Expr} {Q Q' : PV} (h : EvS X dp f e as Q) (k : ∀ a b, Q a b → Q' a b) : EvS X dp f e as Q' :=
  fun A θ s L env post E R F S c => h A θ s L env post E R F S fun av as' θ' s' v q => c av as' θ' s' v (k _ _ q)
theorem TsS.mono {e : Expr} {Q Q' : PB} (h : TsS X dp f e as Q) (k : ∀ a b, Q a b → Q' a b) : TsS X dp f e as Q' :=
  fun A θ s L env post E R F S c => h A θ s L env post E R F S fun av as' θ' s' q => c av as' θ' s' (k _ _ q)
theorem EvsS.mono {e : List Expr} {Q Q' : PVs} (h : EvsS X dp f e as Q) (k : ∀ a b, Q a b → Q' a b) : EvsS X dp f e as Q' :=
  fun A θ s L env post E R F S c => h A θ s L env post E R F S fun av as' θ' s' v q => c av as' θ' s' v (k _ _ q)
theorem ExS.mono {st : Stmt} {Q Q' : PF} (h : ExS X dp f st as Q) (k : ∀ a b c, Q a b c → Q' a b c) : ExS X dp f st as Q' :=
  fun A θ s L env post E R F S c => h A θ s L env post E R F S fun fl loc' as' θ' s' g q => c fl loc' as' θ' s' g (k _ _ _ q)
theorem ExsS.mono {st : List Stmt} {Q Q' : PF} (h : ExsS X dp f st as Q) (k : ∀ a b c, Q a b c → Q' a b c) : ExsS X dp f st as Q' :=
  fun A θ s L env post E R F S c => h A θ s L env post E R F S fun fl loc' as' θ' s' g q => c fl loc' as' θ' s' g (k _ _ _ q)
theorem ClS.mono {fa : Value} {vs : List AV} {Q Q' : PV} (h : ClS X dp fa vs as Q) (k : ∀ a b, Q a b → Q' a b) : ClS X dp fa vs as Q' :=
  fun A θ s us post E R S V c => h A θ s us post E R S V fun av as' θ' s' v q => c av as' θ' s' v (k _ _ q)

theorem ev_int {i : Int} {k pos} {Q : PV} (h : Q (.int i) as) : EvS X dp f (.Constant (.int i) k pos) as Q :=
  fun _ θ s _ _ _ _ _ _ S c => wpAny_Constant_int (c _ _ θ { s with toks := s.toks + 1 } _ h (S.toks _) (Ext.refl _ _) ⟨_, rfl⟩)
theorem ev_str {i : Str} {k pos} {Q : PV} (h : Q (.str i) as) : EvS X dp f (.Constant (.str i) k pos) as Q :=
  fun _ θ s _ _ _ _ _ _ S c => wpAny_Constant_str (c _ _ θ { s with toks := s.toks + 1 } _ h (S.toks _) (Ext.refl _ _) ⟨_, rfl⟩)
theorem ev_none {k pos} {Q : PV} (h : Q .none as) : EvS X dp f (.Constant .none k pos) as Q :=
  fun _ θ s _ _ _ _ _ _ S c => wpAny_Constant_none (c _ _ θ s _ h S (Ext.refl _ _) rfl)
theorem ev_bool {b : Bool} {k pos} {Q : PV} (h : Q (.bool b) as) : EvS X dp f (.Constant (.bool b) k pos) as Q :=
  fun _ θ s _ _ _ _ _ _ S c => wpAny_Constant_bool (c _ _ θ s _ h S (Ext.refl _ _) rfl)

noncomputable def dbg : Str := "__debug__"
noncomputable def isKind (k : NameKind) (sc : Scope) (x : Str) : Bool := match lk sc.names x with
  | some j => !seq x dbg && (match k, j with | .local, .local => true | .cell, .cell => true | .free, .free => true | .globalImplicit, .globalImplicit => true | _, _ => false)
  | none => false
theorem lk_lookup {α : Type} (x : Str) : ∀ l : List (Str × α), lk l x = l.lookup x
  | [] => rfl
  | (y, v) :: r => by
    unfold lk
    rw [List.lookup_cons, seq_eq, lk_lookup x r]
    by_cases h : y = x
    · subst h; simp
    · have h' : ¬ x = y := fun e => h e.symm
      rw [beq_false_of_ne h, beq_false_of_ne h']
theorem isKind_of {k : NameKind} {sc : Scope} {x : Str} (h : isKind k sc x = true) : sc.names.lookup x = some k ∧ (x == ("__debug__" : Str)) = false := by
  unfold isKind at h
  rw [lk_lookup] at h
  split at h
  · rename_i j hj
    simp only [Bool.and_eq_true, Bool.not_eq_true'] at h
    obtain ⟨h1, h2⟩ := h
    rw [seq_eq] at h1
    refine ⟨?_, h1⟩
    rw [hj]
    split at h2 <;> first | rfl | cases h2
  · cases h
theorem FrR.kindOf {L : Addr} {env : Env} {θ : List Addr} {h : Heap} {k : NameKind} {x : Str} (F : FrR X f L env θ h) (q : isKind k f.sc x = true) : env.kindOf x = some k := by
  unfold Env.kindOf
  rw [F.scope]
  exact (isKind_of q).1
theorem ev_local {x : Str} {pos} {av : AV} {Q : PV} (hk : isKind .local f.sc x = true) (hv : lk f.loc x = some av) (h : Q av as) : EvS X dp f (.Name x pos) as Q := by
  intro A θ s L env post E R F S c
  obtain ⟨m, hm, r⟩ := F.ns
  obtain ⟨v, a, b⟩ := r x av hv
  exact wpAny_Name (wpAny_loadName_local (by rw [F.scope]; exact F.kind) (F.kindOf hk) (F.loc ▸ hm) a (c _ _ θ s _ h S (Ext.refl _ _) b)) (isKind_of hk).2
theorem St.cell {T : Hid} {h₀ : Heap} {g₀ : Array GenState} {os₀ : OsState} {θ : List Addr} {s : Shared} (S : St T h₀ g₀ os₀ θ as s) {i : Nat} {a : Addr} {v : Option AV} (hi : as[i]? = some (.cell v)) (ha : θ[i]? = some a) : ∃ u, s.heap.IsCell a u ∧ CR θ v u := by
  refine El_eaea (S.ar.objs i _ a hi ha) fun ob h1 u h2 h3 => ?_
  exact ⟨u, ⟨ob, h1, h2⟩, h3⟩
theorem ev_cell {x : Str} {pos} {av : AV} {i : Nat} {Q : PV} (hk : (isKind .cell f.sc x || isKind .free f.sc x) = true) (hn : seq x "__classdict__" = false) (hc : lk f.cells x = some i) (hi : as[i]? = some (.cell (some av))) (h : Q av as) : EvS X dp f (.Name x pos) as Q := by
  intro A θ s L env post E R F S c
  obtain ⟨a, ha, hl⟩ := F.cells x i hc
  refine El_eaea (S.cell hi ha) fun u hu v hr3 hv => ?_; obtain rfl := hr3
  have fin := c _ _ θ s _ h S (Ext.refl _ _) hv
  have kf : env.scope.kind = .function := by rw [F.scope]; exact F.kind
  rcases (Bool.or_eq_true _ _).mp hk with q | q
  · exact wpAny_Name (wpAny_loadName_cell kf (F.kindOf q) hl hu fin) (isKind_of q).2
  · exact wpAny_Name (wpAny_loadName_free kf (F.kindOf q) hl hu fin (by rw [← seq_eq]; exact hn)) (isKind_of q).2
theorem ev_bin {l r : Expr} {op : Operator} {pos} {Q : PV} (h : EvS X dp f l as fun a as₁ => EvS X dp f r as₁ fun b as₂ => ∃ i j k, a = .int i ∧ b = .int j ∧ intA op i j = some k ∧ Q (.int k) as₂) : EvS X dp f (.BinOp l op r pos) as Q := by
  intro A θ s L env post E R F S c
  refine wpAny_BinOp (h A θ s L env _ E R F S fun a as₁ θ₁ s₁ v q S₁ X₁ V₁ => q A θ₁ s₁ L env _ E R (F.ext X₁) S₁ fun b as₂ θ₂ s₂ u q₂ S₂ X₂ V₂ => ?_)
  refine El_eeeaaa q₂ fun i j k hr3 hr4 e q₃ => ?_; obtain rfl := hr3; obtain rfl := hr4; try clear q₂
  obtain ⟨t, rfl⟩ := V₁
  obtain ⟨t', rfl⟩ := V₂
  exact bin_int e (c _ _ θ₂ { s₂ with toks := s₂.toks + 1 } _ q₃ (S₂.toks _) (X₁.trans X₂) ⟨_, rfl⟩)
theorem ev_inv {x : Expr} {pos} {Q : PV} (h : EvS X dp f x as fun a as₁ => ∃ i, a = .int i ∧ Q (.int (Builtin.bitNot i)) as₁) : EvS X dp f (.UnaryOp .Invert x pos) as Q := by
  intro A θ s L env post E R F S c
  refine wpAny_UnaryOp (h A θ s L env _ E R F S fun a as₁ θ₁ s₁ v q S₁ X₁ V₁ => ?_)
  obtain ⟨i, rfl, q⟩ := q
  obtain ⟨t, rfl⟩ := V₁
  exact invert_int (c _ _ θ₁ { s₁ with toks := s₁.toks + 1 } _ q (S₁.toks _) X₁ ⟨_, rfl⟩)
end
end Mine

end
section
open PySem PySem.W PyProof.Rows
namespace Mine
inductive CA where
  | no | inst | int (i : Int) | fn (f : Addr) | tab (a : Addr)
structure FD where
  names : List Str
  body : List Stmt
  scope : Scope
  code : Value
  qual : Str
structure Cls where
  C : Addr
  attr : Str → CA
  fn : Addr → Option FD
  tab : Addr → Option (List AV)
noncomputable def noStar : List Expr → Bool
  | [] => true
  | .Starred _ _ :: _ => false
  | _ :: r => noStar r
noncomputable def noComp : Expr → Bool
  | .ListComp .. | .SetComp .. | .DictComp .. => false
  | _ => true
noncomputable def attrW (D : Cls) (i : Nat) (x : Str) (as : List AO) (Q : PV) : Prop := match as[i]? with
  | some (.inst C d) => match Nat.beq C D.C, as[d]? with
    | true, some (.dict es) => match lk es x with
      | some av => match D.attr x, handed av with
        | .inst, true => Q av as
        | _, _ => False
      | none => match D.attr x with
        | .int j => Q (.int j) as
        | .fn f => Q (.obj as.length) (as ++ [.meth f i])
        | .tab a => Q (.addr a) as
        | _ => False
    | _, _ => False
  | _ => False
noncomputable def methA (D : Cls) (i : Nat) (x : Str) (as : List AO) : Option Addr := match as[i]? with
  | some (.inst C d) => match Nat.beq C D.C, as[d]? with
    | true, some (.dict es) => match lk es x, D.attr x with
      | none, .fn f => some f
      | _, _ => none
    | _, _ => none
  | _ => none
noncomputable def setW (D : Cls) (i : Nat) (x : Str) (av : AV) (as : List AO) (Q : List AO → Prop) : Prop := match as[i]? with
  | some (.inst C d) => match Nat.beq C D.C, as[d]?, D.attr x with
    | true, some (.dict es), .inst => match Nat.ble (pt es x av).length 1000 with
      | true => Q (as.set d (.dict (pt es x av)))
      | false => False
    | _, _, _ => False
  | _ => False
noncomputable def itemW (D : Cls) (o : AV) (k : AV) (as : List AO) (Q : AV → Prop) : Prop := match k with
  | .int k => match o with
      | .obj i => (match as[i]? with
        | some (.ints xs) => (0 ≤ k ∧ k < xs.length ∧ k < 2 ^ 63) ∧ Q (.int (xs.getD k.toNat 0))
        | some (.intx xs) => (0 ≤ k ∧ k < xs.length ∧ k < 2 ^ 63) ∧ Q (.int (xs.getD k.toNat 0))
        | some (.list xs) => (0 ≤ k ∧ k < 2 ^ 63) ∧ (match xs[k.toNat]? with | some v => Q v | none => False)
        | _ => False)
      | .addr a => (match D.tab a with | some xs => (0 ≤ k ∧ k < 2 ^ 63) ∧ (match xs[k.toNat]? with | some v => Q v | none => False) | none => False)
      | _ => False
  | _ => False
noncomputable def putW (o : AV) (k : AV) (v : AV) (as : List AO) (Q : List AO → Prop) : Prop := match k, o with
  | .int k, .obj i => match as[i]?, v with
      | some (.ints xs), .int v => (0 ≤ k ∧ k < xs.length ∧ k < 2 ^ 63) ∧ Q (as.set i (.ints (xs.set k.toNat v)))
      | some (.intx xs), .int v => (0 ≤ k ∧ k < xs.length ∧ k < 2 ^ 63) ∧ Q (as.set i (.ints (xs.set k.toNat v)))
      | _, _ => False
  | _, _ => False
structure ClsOK (D : Cls) (K : Frag) (h₀ : Heap) : Prop where
  X : K.In h₀
  cf : CF K D.C
  lim : h₀.NoLimit
  inst : ∀ x, D.attr x = .inst → findIn K (.ref D.C) x = some none ∧ takerIn K D.C x = some none
  int : ∀ x i, D.attr x = .int i → ∃ t, findIn K (.ref D.C) x = some (some (.int i t)) ∧ specialIn K (.int i t) "__get__" = some none ∧ copiedNames.contains x = false
  fn : ∀ x f, D.attr x = .fn f → findIn K (.ref D.C) x = some (some (.ref f)) ∧ isFn K (.ref f) = true ∧ specialIn K (.ref f) "__get__" = some (some (.builtin "function.__get__")) ∧ takesIn K (.ref f) = some false ∧ copiedNames.contains x = false
  tab : ∀ x a, D.attr x = .tab a → findIn K (.ref D.C) x = some (some (.ref a)) ∧ specialIn K (.ref a) "__get__" = some none ∧ copiedNames.contains x = false
  tabs : ∀ a xs, D.tab a = some xs → ∃ vs, h₀.IsList a vs ∧ VRs [] xs vs.toList
section
variable {prog : Program} {w : World} {A : Around} {E : Value → Shared → Prop} {s : Shared} {D : Cls} {K : Frag} {T : Hid} {h₀ : Heap} {g₀ : Array GenState} {os₀ : OsState} {θ : List Addr} {as as' : List AO} {i : Nat} {x : Str} {av : AV}
theorem attr_ok {expr : Bool} {Q : Value → Shared → Prop} {P : PV} (O : ClsOK D K h₀) (S : St T h₀ g₀ os₀ θ as s) (e : attrW D i x as P) {a : Addr} (ha : θ[i]? = some a)
    (h : ∀ av as' θ' s' v, P av as' → St T h₀ g₀ os₀ θ' as' s' → Ext (hidOf T) θ s.heap θ' s'.heap → VR θ' av v → Q v s') : wpAny (model prog w) A (getAttr (.ref a) x expr) Q E s := by
  have X : K.In s.heap := O.X.keeps S.base
  unfold attrW at e
  split at e
  · rename_i C d hi
    split at e
    · rename_i es hC hd
      obtain rfl : C = D.C := Nat.eq_of_beq_eq_true hC
      split at e
      · rename_i v hl
        split at e
        · rename_i h1 h2
          exact a_get X O.cf S hi hd hl h2 (O.inst x h1).1 ha fun v r => h _ _ θ _ v e (S.toks _) (Ext.refl _ _) r
        · cases e
      · rename_i hl
        split at e
        · rename_i j h1
          obtain ⟨t, f1, f2, f3⟩ := O.int x j h1
          exact a_cst X O.cf S hi hd hl f1 f2 rfl f3 ha (h _ _ θ _ _ e (S.toks _) (Ext.refl _ _) ⟨t, rfl⟩)
        · rename_i f h1
          refine El_aaaa (O.fn x f h1) fun f1 f2 f3 f4 f5 => ?_
          refine a_meth X O.cf S hi hd hl f1 f2 f3 f4 f5 ha fun s' S' E' => h _ _ _ s' _ e S' E' ⟨_, ?_, rfl⟩
          rw [S.ar.len, List.getElem?_append_right (Nat.le_refl _), Nat.sub_self]; rfl
        · rename_i b h1
          obtain ⟨f1, f2, f3⟩ := O.tab x b h1
          exact a_cst X O.cf S hi hd hl f1 f2 rfl f3 ha (h _ _ θ _ _ e (S.toks _) (Ext.refl _ _) rfl)
        · cases e
    · cases e
  · cases e
theorem meth_ok {pl : Sem Bool} {Q : Value × List Value → Shared → Prop} {f : Addr} (O : ClsOK D K h₀) (S : St T h₀ g₀ os₀ θ as s) (e : methA D i x as = some f) {a : Addr} (ha : θ[i]? = some a) (h : Q (.ref f, [.ref a]) s) :
    wpAny (model prog w) A (getMethod (.ref a) x pl) Q E s := by
  have X : K.In s.heap := O.X.keeps S.base
  unfold methA at e
  split at e
  · rename_i C d hi
    split at e
    · rename_i es hC hd
      obtain rfl : C = D.C := Nat.eq_of_beq_eq_true hC
      split at e
      · rename_i f' hl h1
        cases e
        obtain ⟨f1, f2, _⟩ := O.fn x f h1
        exact a_call X O.cf S hi hd hl f1 f2 ha h
      · cases e
    · cases e
  · cases e
theorem set_ok {Q : Unit → Shared → Prop} {P : List AO → Prop} {v : Value} (O : ClsOK D K h₀) (S : St T h₀ g₀ os₀ θ as s) (e : setW D i x av as P) {a : Addr} (ha : θ[i]? = some a) (hv : VR θ av v)
    (h : ∀ as' s', P as' → St T h₀ g₀ os₀ θ as' s' → Ext (hidOf T) θ s.heap θ s'.heap → Q () s') : wpAny (model prog w) A (setAttr (.ref a) x v) Q E s := by
  have X : K.In s.heap := O.X.keeps S.base
  unfold setW at e
  split at e
  · rename_i C d hi
    split at e
    · rename_i es hC hd h1
      obtain rfl : C = D.C := Nat.eq_of_beq_eq_true hC
      split at e
      · rename_i hz
        exact a_set X O.cf S hi hd (Nat.le_of_ble_eq_true hz) (O.inst x h1).2 ha hv fun s' S' E' => h _ s' e S' E'
      · cases e
    · cases e
  · cases e
theorem VRs.get {θ : List Addr} {xs : List AV} {vs : List Value} (h : VRs θ xs vs) : ∀ {k : Nat} {a : AV}, xs[k]? = some a → ∃ v, vs[k]? = some v ∧ VR θ a v := by
  induction h with
  | nil => intro k a e; simp at e
  | cons r _ ih =>
    intro k a e
    cases k with
    | zero => simp at e; subst e; exact ⟨_, by simp, r⟩
    | succ k => simp at e ⊢; exact ih e
theorem VRs.len {θ : List Addr} {xs : List AV} {vs : List Value} (h : VRs θ xs vs) : vs.length = xs.length := by
  induction h with
  | nil => rfl
  | cons _ _ ih => simp [ih]
theorem ints_set : ∀ {vs : List Value} {xs : List Int}, IntsAre vs xs → ∀ (k : Nat) {v : Value} {i : Int}, (∃ t, v = .int i t) → IntsAre (vs.set k v) (xs.set k i)
  | _, _, .nil, k, _, _, _ => by simp; exact .nil
  | _, _, .cons n u h, 0, v, i, ⟨t, e⟩ => by subst e; exact .cons i t h
  | _, _, .cons n u h, k + 1, v, i, e => .cons n u (ints_set h k e)
theorem isList_keeps {h h' : Heap} {a : Addr} {vs : Array Value} (l : h.IsList a vs) (k : ∀ b o, h.get? b = some o → h'.get? b = some o) : h'.IsList a vs := by
  obtain ⟨o, ho, r⟩ := l; exact ⟨o, k _ _ ho, r⟩
theorem list_of (S : St T h₀ g₀ os₀ θ as s) {i : Nat} {a : Addr} {xs : List AV} (hi : as[i]? = some (.list xs)) (ha : θ[i]? = some a) : ∃ vs, s.heap.IsList a vs ∧ VRs θ xs vs.toList := by
  refine El_eaeea (S.ar.objs i _ a hi ha) fun ob h1 vs n hr4 r => ?_; obtain rfl := hr4
  exact ⟨vs, ⟨_, h1, rfl, n, rfl⟩, r⟩
theorem intx_of (S : St T h₀ g₀ os₀ θ as s) {i : Nat} {a : Addr} {xs : List Int} (hi : as[i]? = some (.intx xs)) (ha : θ[i]? = some a) : ∃ vs, s.heap.IsList a vs ∧ IntsAre vs.toList xs := by
  refine El_eaeea (S.ar.objs i _ a hi ha) fun ob h1 vs n hr4 r => ?_; obtain rfl := hr4
  exact ⟨vs, ⟨_, h1, rfl, n, rfl⟩, r⟩
theorem ints_of (S : St T h₀ g₀ os₀ θ as s) {i : Nat} {a : Addr} {xs : List Int} (hi : as[i]? = some (.ints xs)) (ha : θ[i]? = some a) : ∃ vs, s.heap.IsList a vs ∧ IntsAre vs.toList xs := by
  refine El_eaaeea (S.ar.objs i _ a hi ha) fun ob h1 c vs n d r => ?_
  exact ⟨vs, ⟨ob, h1, c, n, d⟩, r⟩
theorem getD_some {xs : List Int} {k : Nat} (h : k < xs.length) : xs[k]? = some (xs.getD k 0) := by
  rw [List.getD_eq_getElem?_getD, List.getElem?_eq_getElem h]; rfl
theorem item_ok {o k : AV} {ov kv : Value} {Q : Value → Shared → Prop} {P : AV → Prop} (O : ClsOK D K h₀) (S : St T h₀ g₀ os₀ θ as s) (e : itemW D o k as P) (ho : VR θ o ov) (hk : VR θ k kv)
    (h : ∀ av v, P av → VR θ av v → Q v s) : ∃ a, ov = .ref a ∧ s.TypeIs (.ref a) "list" ∧ wpAny (model prog w) A (getItem ov kv) Q E s := by
  unfold itemW at e
  split at e
  · rename_i k
    obtain ⟨t, rfl⟩ := hk
    split at e
    · rename_i i
      obtain ⟨a, ha, rfl⟩ := ho
      refine ⟨a, rfl, ?_⟩
      split at e
      · rename_i xs hi
        obtain ⟨⟨b1, b2, b3⟩, e⟩ := e
        obtain ⟨vs, hl, r⟩ := ints_of S hi ha
        have hn : k.toNat < xs.length := by lia
        obtain ⟨t', hv⟩ := r.get _ _ (getD_some hn)
        exact ⟨hl.typeIs, wpAny_getItem_list hl b1 b3 (by rw [← Array.getElem?_toList]; exact hv) (h _ _ e ⟨t', rfl⟩)⟩
      · rename_i xs hi
        obtain ⟨⟨b1, b2, b3⟩, e⟩ := e
        obtain ⟨vs, hl, r⟩ := intx_of S hi ha
        have hn : k.toNat < xs.length := by lia
        obtain ⟨t', hv⟩ := r.get _ _ (getD_some hn)
        exact ⟨hl.typeIs, wpAny_getItem_list hl b1 b3 (by rw [← Array.getElem?_toList]; exact hv) (h _ _ e ⟨t', rfl⟩)⟩
      · rename_i xs hi
        obtain ⟨⟨b1, b3⟩, e⟩ := e
        obtain ⟨vs, hl, r⟩ := list_of S hi ha
        split at e
        · rename_i v' hx
          obtain ⟨v, hv, rv⟩ := r.get hx
          exact ⟨hl.typeIs, wpAny_getItem_list hl b1 b3 (by rw [← Array.getElem?_toList]; exact hv) (h _ _ e rv)⟩
        · cases e
      · cases e
    · rename_i a
      cases ho
      refine ⟨a, rfl, ?_⟩
      split at e
      · rename_i xs hi
        obtain ⟨⟨b1, b3⟩, e⟩ := e
        obtain ⟨vs, hl, r⟩ := O.tabs a xs hi
        have hl := isList_keeps hl S.base
        split at e
        · rename_i v' hx
          obtain ⟨v, hv, rv⟩ := r.get hx
          exact ⟨hl.typeIs, wpAny_getItem_list hl b1 b3 (by rw [← Array.getElem?_toList]; exact hv) (h _ _ e (rv.mono List.nil_prefix))⟩
        · cases e
      · cases e
    · cases e
  · cases e
theorem put_ok {o k : AV} {ov kv : Value} {Q : Unit → Shared → Prop} {P : List AO → Prop} {v : Value} (S : St T h₀ g₀ os₀ θ as s) (e : putW o k av as P) (ho : VR θ o ov) (hk : VR θ k kv) (hv : VR θ av v)
    (h : ∀ as' s', P as' → St T h₀ g₀ os₀ θ as' s' → Ext (hidOf T) θ s.heap θ s'.heap → Q () s') : wpAny (model prog w) A (setItem ov kv v) Q E s := by
  unfold putW at e
  split at e
  · rename_i k i
    obtain ⟨t, rfl⟩ := hk
    obtain ⟨a, ha, rfl⟩ := ho
    split at e
    · rename_i xs j hi
      obtain ⟨⟨b1, b2, b3⟩, e⟩ := e
      obtain ⟨vs, hl, r⟩ := ints_of S hi ha
      have hsz : vs.size = xs.length := by rw [← Array.length_toList]; exact r.length
      refine wpAny_setItem_list hl b1 b3 (by lia) fun h' hl' sb => ?_
      obtain ⟨ob, g1, c, n, d⟩ := hl'
      have P := S.upd (o' := .ints (xs.set k.toNat j)) ha hi sb g1 ⟨c, _, n, d, by rw [Array.toList_setIfInBounds]; exact ints_set r _ hv⟩
      exact h _ _ e P.1 P.2
    · rename_i xs j hi
      obtain ⟨⟨b1, b2, b3⟩, e⟩ := e
      obtain ⟨vs, hl, r⟩ := intx_of S hi ha
      have hsz : vs.size = xs.length := by rw [← Array.length_toList]; exact r.length
      refine wpAny_setItem_list hl b1 b3 (by lia) fun h' hl' sb => ?_
      obtain ⟨ob, g1, c, n, d⟩ := hl'
      have P := S.upd (o' := .ints (xs.set k.toNat j)) ha hi sb g1 ⟨c, _, n, d, by rw [Array.toList_setIfInBounds]; exact ints_set r _ hv⟩
      exact h _ _ e P.1 P.2
    · cases e
  · cases e
end
section
variable {X : Cx} {dp : Nat} {f : Fm} {as : List AO} {D : Cls} {K : Frag}
theorem ev_attr {x a : Str} {p pos : Pos} {Q : PV} (O : ClsOK D K X.h₀) (h : EvS X dp f (.Name x p) as fun o as₁ => ∃ i, o = .obj i ∧ attrW D i a as₁ Q) : EvS X dp f (.Attribute (.Name x p) a pos) as Q := by
  intro A θ s L env post E R F S c
  refine Attribute_Name_ (h A θ s L env _ E R F S fun o as₁ θ₁ s₁ v q S₁ X₁ V₁ => ?_)
  obtain ⟨i, rfl, q⟩ := q
  obtain ⟨b, hb, rfl⟩ := V₁
  exact attr_ok O S₁ q hb fun av as' θ' s' v q' S' X' V' => c av as' θ' s' v q' S' (X₁.trans X') V'
noncomputable def noSlice : Expr → Bool
  | .Slice .. => false
  | _ => true
theorem sub_eq {e : Expr} (h : noSlice e = true) (o i : Value) : subscripted e false o i = operate [o, i] (getItem o i) := by
  cases e <;> first | rfl | cases h
theorem ev_sub {v i : Expr} {pos : Pos} {Q : PV} (O : ClsOK D K X.h₀) (hn : noSlice i = true) (h : EvS X dp f v as fun o as₁ => EvS X dp f i as₁ fun k as₂ => itemW D o k as₂ fun r => Q r as₂) : EvS X dp f (.Subscript v i pos) as Q := by
  intro A θ s L env post E R F S c
  refine Subscript_ (h A θ s L env _ E R F S fun o as₁ θ₁ s₁ ov q S₁ X₁ V₁ => q A θ₁ s₁ L env _ E R (F.ext X₁) S₁ fun k as₂ θ₂ s₂ kv q₂ S₂ X₂ V₂ => ?_)
  obtain ⟨a, rfl, ht, hw⟩ := item_ok (prog := X.prog) (w := X.w) (A := A) (E := E) (Q := post) O S₂ q₂ (V₁.mono X₂.pre) V₂ fun av v q' V' => c av as₂ θ₂ s₂ v q' S₂ (X₁.trans X₂) V'
  exact tail_any ht slot_list_getitem.lookup hw (sub_eq hn _ _)
theorem evs_nil {Q : PVs} (h : Q [] as) : EvsS X dp f [] as Q := fun _ θ s _ _ _ _ _ _ S c => Calls.spliced_nil (c _ _ θ s _ h S (Ext.refl _ _) .nil)
theorem evs_cons {e : Expr} {r : List Expr} {Q : PVs} (h : EvS X dp f e as fun a as₁ => EvsS X dp f r as₁ fun l as₂ => Q (a :: l) as₂) : EvsS X dp f (e :: r) as Q := by
  intro A θ s L env post E R F S c
  refine Calls.spliced_cons (h A θ s L env _ E R F S fun o as₁ θ₁ s₁ ov q S₁ X₁ V₁ => q A θ₁ s₁ L env _ E R (F.ext X₁) S₁ fun k as₂ θ₂ s₂ kv q₂ S₂ X₂ V₂ => ?_)
  exact c _ _ θ₂ s₂ _ q₂ S₂ (X₁.trans X₂) (.cons (V₁.mono X₂.pre) V₂)
theorem back_eq (pos : Pos) (env : Env) : ∀ (args : List Expr), noStar args = true → backTo pos (starEach args env) = args.map fun e => (false, eval e env)
  | [], _ => rfl
  | e :: r, h => by
    have ih := fun h => back_eq pos env r h
    unfold backTo at ih ⊢
    cases e <;> first | (cases h) | (rw [show ∀ t, starEach (t :: r) env = starEach (t :: r) env from fun _ => rfl]; exact congrArg (_ :: ·) (ih h))
theorem plain_any {α : Type} (g : α → Bool × Sem Value) (hg : ∀ a, (g a).1 = false) : ∀ l : List α, (l.map g).any (·.1) = false
  | [] => rfl
  | a :: r => by rw [List.map_cons, List.any_cons, hg, plain_any g hg r]; rfl
theorem args_ok {M : Model} {A : Around} {E : Value → Shared → Prop} {s : Shared} {env : Env} {fv : Value} {args : List Expr} {Q : Args → Shared → Prop}
    (h : wpAny M A (spliced (args.map fun e => (false, eval e env))) (fun vs s' => Q ⟨vs, []⟩ s') E s) : wpAny M A (evalArgs fv true (args.map fun e => (false, eval e env)) []) Q E s := by
  cases args with
  | nil =>
    unfold evalArgs
    show wpAny M A (spliced [] >>= _) Q E s
    refine wpAny_bind (wpAny_mono h (fun vs s' h' => ?_) fun _ _ x => x)
    refine wpAny_holding ?_
    exact wpAny_bind (wpAny_pure (wpAny_bind (wpAny_pure (wpAny_pure h'))))
  | cons e r => exact Calls.evalArgs_plain h
end
end Mine

end
section
open PySem PySem.W PyProof.Rows
namespace Mine
theorem VRs.app {θ : List Addr} {as bs : List AV} {us vs : List Value} (h : VRs θ as us) (g : VRs θ bs vs) : VRs θ (as ++ bs) (us ++ vs) := by
  induction h with
  | nil => exact g
  | cons a _ ih => exact .cons a ih
structure FnOK (h₀ : Heap) (fa : Addr) (d : FD) : Prop where
  ex : ∃ o fd, h₀.get? fa = some o ∧ o.data = .func fd ∧ h₀.CodeRec fd.code fd.qualname ∧ fd.body = .stmts d.body ∧ fd.scope = d.scope ∧ fd.globals = 3 ∧ fd.builtins = 0 ∧ fd.code = d.code ∧ fd.qualname ++ ".<locals>." = d.qual ∧
    (∀ vals : List Value, vals.length = d.names.length → bindArgs fd ⟨vals, []⟩ = pure (d.names.zip vals))
  cell : ∀ x ∈ d.scope.names, x.2 ≠ .cell
  loc : ∀ x ∈ d.names, d.scope.names.lookup x = some .local
  co : d.scope.isCoroutine = false
  gen : d.scope.isGenerator = false
  kind : d.scope.kind = .function
theorem St.keeps {T : Hid} {h₀ : Heap} {g₀ : Array GenState} {os₀ : OsState} {θ : List Addr} {as : List AO} {s : Shared} (S : St T h₀ g₀ os₀ θ as s) {h' : Heap} {k : Nat} (hk : ∀ b o, s.heap.get? b = some o → h'.get? b = some o) : St T h₀ g₀ os₀ θ as { s with heap := h', toks := k } :=
  ⟨⟨S.ar.len, S.ar.nodup, fun i o a e1 e2 => let ⟨ob, x, y⟩ := S.ar.objs i o a e1 e2; ⟨ob, hk _ _ x, y⟩⟩, fun b o e => hk _ _ (S.base b o e), S.apart, S.gens, S.os, fun e he => (S.tabs e he).to (fun o x => hk _ _ x) (fun c o _ x _ _ _ => hk _ _ x) fun _ _ _ n => n, S.hnin, S.hbase, S.pin⟩
theorem St.lt {T : Hid} {h₀ : Heap} {g₀ : Array GenState} {os₀ : OsState} {θ : List Addr} {as : List AO} {s : Shared} (S : St T h₀ g₀ os₀ θ as s) {a : Addr} (m : a ∈ θ) : a < s.heap.objs.size := by
  obtain ⟨i, hi, e⟩ := List.getElem_of_mem m
  have e' : θ[i]? = some a := by rw [List.getElem?_eq_getElem hi, e]
  have hi' : i < as.length := by rw [S.ar.len]; exact hi
  obtain ⟨ob, h, _⟩ := S.ar.objs i as[i] _ (List.getElem?_eq_getElem hi') e'
  exact Heap.lt_size h
theorem size_none (h : Heap) : h.get? h.objs.size = none := by
  cases q : h.get? h.objs.size with
  | none => rfl
  | some o => exact absurd (Heap.lt_size q) (Nat.lt_irrefl _)
theorem St.fresh {T : Hid} {h₀ : Heap} {g₀ : Array GenState} {os₀ : OsState} {θ : List Addr} {as : List AO} {s : Shared} (S : St T h₀ g₀ os₀ θ as s) : h₀.get? s.heap.objs.size = none := by
  cases q : h₀.get? s.heap.objs.size with
  | none => rfl
  | some o => have := S.base _ _ q; rw [size_none] at this; cases this
theorem St.freshH {T : Hid} {h₀ : Heap} {g₀ : Array GenState} {os₀ : OsState} {θ : List Addr} {as : List AO} {s : Shared} (S : St T h₀ g₀ os₀ θ as s) : s.heap.objs.size ∉ hidOf T := fun m => by
  obtain ⟨e, he, q⟩ := List.mem_map.mp m
  obtain ⟨ps, x⟩ := (S.tabs e he).is
  rw [q, size_none] at x; cases x
theorem St.tabKeep {T : Hid} {h₀ : Heap} {g₀ : Array GenState} {os₀ : OsState} {θ : List Addr} {as : List AO} {s : Shared} (S : St T h₀ g₀ os₀ θ as s) {h' : Heap} (hk : ∀ b o, s.heap.get? b = some o → h'.get? b = some o) :
    ∀ P ∈ hidOf T, h'.get? P = s.heap.get? P ∨ ∃ l k c, h'.get? P = some (tabObj #[l, k, .ref c]) ∧ s.heap.get? c = none := fun P m => .inl (by
  obtain ⟨e, he, rfl⟩ := List.mem_map.mp m
  obtain ⟨ps, x⟩ := (S.tabs e he).is
  rw [x]; exact hk _ _ x)
inductive LRs (θ : List Addr) : List (Str × AV) → List (Str × Value) → Prop
  | nil : LRs θ [] []
  | cons {x a v l m} : VR θ a v → LRs θ l m → LRs θ ((x, a) :: l) ((x, v) :: m)
theorem LRs.zip {θ : List Addr} {vs : List AV} {us : List Value} (h : VRs θ vs us) : ∀ ns : List Str, LRs θ (ns.zip vs) (ns.zip us) := by
  induction h with
  | nil => intro ns; cases ns <;> exact .nil
  | cons r _ ih =>
    intro ns
    cases ns with
    | nil => exact .nil
    | cons n ns => exact .cons r (ih ns)
theorem LRs.snoc {θ : List Addr} {l : List (Str × AV)} {m : List (Str × Value)} (h : LRs θ l m) {x : Str} {a : AV} {v : Value} (r : VR θ a v) : LRs θ (l ++ [(x, a)]) (m ++ [(x, v)]) := by
  induction h with
  | nil => exact .cons r .nil
  | cons q _ ih => exact .cons q ih
theorem LRs.rev {θ : List Addr} {l : List (Str × AV)} {m : List (Str × Value)} (h : LRs θ l m) : LRs θ l.reverse m.reverse := by
  induction h with
  | nil => exact .nil
  | cons q _ ih => rw [List.reverse_cons, List.reverse_cons]; exact ih.snoc q
theorem LRs.look {θ : List Addr} {l : List (Str × AV)} {m : List (Str × Value)} (h : LRs θ l m) (x : Str) (av : AV) (e : lk l x = some av) : ∃ v, m.lookup x = some v ∧ VR θ av v := by
  rw [lk_lookup] at e
  induction h with
  | nil => cases e
  | @cons y a v l m q _ ih =>
    rw [List.lookup_cons] at e ⊢
    cases hb : x == y with
    | true => rw [hb] at e; cases e; exact ⟨v, rfl, q⟩
    | false => rw [hb] at e; exact ih e
theorem lk_pt {α : Type} (x : Str) (v : α) (y : Str) : ∀ l : List (Str × α), lk (pt l x v) y = if y = x then some v else lk l y
  | [] => by
    unfold pt lk
    by_cases h : y = x
    · subst h; rw [seq_iff.mpr rfl]; simp
    · rw [if_neg h]
      cases q : seq x y with
      | true => exact absurd (seq_iff.mp q).symm h
      | false => rfl
  | (z, u) :: r => by
    unfold pt
    cases q : seq z x with
    | true =>
      have e := seq_iff.mp q; subst e
      show lk ((z, v) :: r) y = _
      unfold lk
      by_cases h : y = z
      · subst h; rw [seq_iff.mpr rfl]; simp
      · rw [if_neg h]
        cases q' : seq z y with
        | true => exact absurd (seq_iff.mp q').symm h
        | false => rfl
    | false =>
      show lk ((z, u) :: pt r x v) y = _
      unfold lk
      cases q' : seq z y with
      | true =>
        have e := seq_iff.mp q'; subst e
        by_cases h : z = x
        · subst h; rw [seq_iff.mpr rfl] at q; cases q
        · rw [if_neg h]
      | false => exact lk_pt x v y r
noncomputable def storeW (f : Fm) (x : Str) (v : AV) (as : List AO) (Q : Loc → List AO → Prop) : Prop := match isKind .local f.sc x with
  | true => Q (pt f.loc x v) as
  | false => match isKind .cell f.sc x, lk f.cells x with
    | true, some i => (match as[i]? with | some (.cell _) => Q f.loc (as.set i (.cell (some v))) | _ => False)
    | _, _ => False
section
variable {X : Cx} {dp : Nat} {f : Fm} {as : List AO} {D : Cls} {K : Frag}
theorem cl_def {fa : Addr} {d : FD} {vs : List AV} {Q : PV} (O : FnOK X.h₀ fa d) (lim : X.h₀.NoLimit) (hl : vs.length = d.names.length)
    (h : ExsS X dp ⟨d.scope, (d.names.zip vs).reverse, [], d.code, d.qual⟩ d.body as fun fl _ as' => match fl with | .ret v => Q v as' | .next => Q .none as' | _ => False) : ClS X (dp + 1) (.ref fa) vs as Q := by
  intro A θ s us post E R S V c
  refine El_eeaaaaaaaaa O.ex fun o fd ho hd hc hb hs hg hbl hcd hql hbind => ?_
  have hroom : A.depth < recursionLimit := by have := R.1; lia
  refine codeAny_call_def hroom (S.base _ _ ho) hd (lim.keeps S.base) (Heap.CodeRec.keeps hc S.base) hb (BindsTo.of_eq (hbind us (by rw [V.len, hl]))) (by rw [hs]; exact O.cell) (fun x hx => by rw [hs]; exact O.loc _ (List.of_mem_zip hx).1) (fun h₁ hn hk => ?_) (by rw [hs]; exact O.co) (by rw [hs]; exact O.gen) (by rw [hs]; exact O.kind)
  have S₁ : X.S θ as { s with heap := h₁, toks := s.toks + (d.names.zip us).length } := S.keeps hk
  refine h (A.deeper _) θ _ s.heap.objs.size _ _ _ ⟨?_, ?_, R.2.2⟩ ⟨hs, O.kind, rfl, fun m => Nat.lt_irrefl _ (S.lt m), S.fresh, S.freshH, ⟨_, hn, fun x av e => ((LRs.zip V d.names).rev).look x av e⟩, fun x i e => (by cases e), hg, hbl, hcd, hql⟩ S₁ fun fl loc' as' θ' s' g q S' X' F' G => ?_
  · have := R.1; show A.depth + 1 + dp < _; lia
  · have := R.2.1; show A.units + 3 + 4 * dp + 40 < _; lia
  · have X'' : Ext X.H θ s.heap θ' s'.heap := ⟨X'.pre, fun a m n => ⟨(by
        cases r : s.heap.get? a with
        | none => rfl
        | some o => have := (X'.fresh a m n).1; rw [hk a o r] at this; cases this), (X'.fresh a m n).2⟩,
      fun b o e n nh => X'.keep b o (hk b o e) n nh fun q => (by rw [q] at e; rw [size_none] at e; cases e), fun b o e => X'.ex b o (hk b o e), tab_trans (fun b o e => ⟨o, hk b o e⟩) (S.tabKeep hk) X'.tab⟩
    cases fl with
    | next => cases G; exact c _ _ θ' s' _ q S' X'' rfl
    | brk => exact q.elim
    | cont => exact q.elim
    | ret v => obtain ⟨u, rfl, hu⟩ := G; exact c _ _ θ' s' _ q S' X'' hu
theorem looks_fn {M : Model} {h : Heap} {fa : Addr} {o : Obj} {fd : FuncData} (ho : h.get? fa = some o) (hd : o.data = .func fd) : Looks M h (keeperOf (.ref fa)) .frame := by
  refine (Looks.ld (part := none) ho).andThen ?_
  rw [hd]; exact .now
theorem looks_bound {M : Model} {h : Heap} {q fa : Addr} {self : Value} {o : Obj} {fd : FuncData} (hq : h.get? q = some (methodObj (.ref fa) self)) (ho : h.get? fa = some o) (hd : o.data = .func fd) : Looks M h (keeperOf (.ref q)) .boundFrame := by
  refine (Looks.ld (part := none) hq).andThen ?_
  refine (Looks.ld (part := none) ho).andThen ?_
  rw [hd]; exact .now
noncomputable def FnAt (h₀ : Heap) (fa : Addr) : Prop := ∃ o fd, h₀.get? fa = some o ∧ o.data = .func fd
theorem FnOK.at {h₀ : Heap} {fa : Addr} {d : FD} (O : FnOK h₀ fa d) : FnAt h₀ fa := let ⟨o, fd, a, b, _⟩ := O.ex; ⟨o, fd, a, b⟩
theorem call_fn {fa : Addr} {args : List Expr} {first : List AV} {fv : List Value} {pos : Pos} {Q : PV} (hs : noStar args = true)
    {A : Around} {θ : List Addr} {s : Shared} {L : Addr} {env : Env} {post : Value → Shared → Prop} {E : Value → Shared → Prop} (R : Room A dp) (F : FrR X f L env θ s.heap) (S : X.S θ as s) (V : VRs θ first fv)
    (h : EvsS X dp f args as fun vs as₂ => FnAt X.h₀ fa ∧ ClS X dp (.ref fa) (first ++ vs) as₂ Q)
    (c : ∀ av as' θ' s' v, Q av as' → X.S θ' as' s' → Ext X.H θ s.heap θ' s'.heap → VR θ' av v → post v s') : wpAny X.M A (callWith pos (.ref fa) fv (backTo pos (starEach args env)) []) post E s := by
  rw [back_eq pos env args hs]
  refine callWith_of (P := fun h => FnAt h fa) (by rw [plain_any _ (fun _ => rfl)]; rfl) (fun h ⟨o, fd, hh, hd⟩ => ⟨_, .inl rfl, looks_fn hh hd⟩) (args_ok ?_)
  refine h A θ s L env _ E R F S fun vs as₂ θ₂ s₂ us q S₂ X₂ V₂ => ⟨let ⟨o, fd, ho, hd⟩ := q.1; ⟨o, fd, S₂.base _ _ ho, hd⟩, ?_⟩
  refine wpAny_call (q.2 A θ₂ s₂ (fv ++ us) post E R S₂ ?_ fun av as' θ' s' v q' S' X' V' => c av as' θ' s' v q' S' (X₂.trans X') V')
  have V := V.mono X₂.pre
  exact V.app V₂
theorem ev_callM {x name : Str} {p apos pos : Pos} {args : List Expr} {Q : PV} (O : ClsOK D K X.h₀) (hs : noStar args = true) (hl : args.length < 20) (hp : (apos.endLine == pos.line) = true)
    (h : EvS X dp f (.Name x p) as fun o as₁ => ∃ i fa, o = .obj i ∧ methA D i name as₁ = some fa ∧ EvsS X dp f args as₁ fun vs as₂ => FnAt X.h₀ fa ∧ ClS X dp (.ref fa) (.obj i :: vs) as₂ Q) :
    EvS X dp f (.Call (.Attribute (.Name x p) name apos) args [] pos) as Q := by
  intro A θ s L env post E R F S c
  rw [arm_eval_Call]
  refine wpAny_bind (m := attributeBase (.Name x p) name env (eval (.Name x p) env)) ?_
  show wpAny X.M A (eval (.Name x p) env) _ E s
  refine h A θ s L env _ E R F S fun o as₁ θ₁ s₁ ov q S₁ X₁ V₁ => ?_
  obtain ⟨i, fa, rfl, hm, q⟩ := q
  obtain ⟨a, ha, rfl⟩ := V₁
  refine wpAny_bind (wpAny_standAt ?_)
  have hfew : methodCallForm (args.length + ([] : List Keyword).length) (backTo pos (starEach args env)) (backToKw pos (keywordEach [] env)) = true := by
    unfold methodCallForm
    rw [back_eq pos env args hs]
    have : (args.map fun e => ((false, eval e env) : Bool × Sem Value)).all (!·.1) = true := by
      rw [List.all_eq_true]; intro y hy; obtain ⟨e, _, rfl⟩ := List.mem_map.mp hy; rfl
    rw [this]
    simp [backToKw, keywordEach]
    lia
  unfold methodCall
  rw [hfew]
  refine wpAny_bind (wpAny_holding ?_)
  show wpAny X.M A (getMethod (.ref a) name _) _ E s₁
  refine meth_ok O S₁ hm ha ?_
  refine wpAny_bind ?_
  unfold methodCallPos
  rw [hp]
  refine wpAny_pure ?_
  exact call_fn hs R (F.ext X₁) S₁ (first := [.obj i]) (.cons (show VR _ (.obj i) _ from ⟨a, ha, rfl⟩) .nil) q fun av as' θ' s' v q' S' X' V' => c av as' θ' s' v q' S' (X₁.trans X') V'
theorem St.meth {T : Hid} {h₀ : Heap} {g₀ : Array GenState} {os₀ : OsState} {θ : List Addr} {s : Shared} (S : St T h₀ g₀ os₀ θ as s) {m : Nat} {q fa : Addr} {i : Nat} (hi : as[m]? = some (.meth fa i)) (ha : θ[m]? = some q) : ∃ a, θ[i]? = some a ∧ s.heap.get? q = some (methodObj (.ref fa) (.ref a)) := by
  refine El_eaea (S.ar.objs m _ q hi ha) fun ob h1 a h2 hr4 => ?_; obtain rfl := hr4
  exact ⟨a, h2, h1⟩
theorem ev_callB {x : Str} {p pos : Pos} {Q : PV}
    (h : EvS X dp f (.Name x p) as fun o as₁ => ∃ m fa i, o = .obj m ∧ as₁[m]? = some (.meth fa i) ∧ FnAt X.h₀ fa ∧ ClS X dp (.ref fa) [.obj i] as₁ Q) : EvS X dp f (.Call (.Name x p) [] [] pos) as Q := by
  intro A θ s L env post E R F S c
  refine wpAny_Call_Name_kw (h A θ s L env _ E R F S fun o as₁ θ₁ s₁ ov q S₁ X₁ V₁ => ?_)
  obtain ⟨m, fa, i, rfl, hm, ⟨o, fd, ho, hd⟩, q⟩ := q
  obtain ⟨a, ha, rfl⟩ := V₁
  obtain ⟨b, hb, hq⟩ := S₁.meth hm ha
  refine callWith_of (P := fun h => h.get? a = some (methodObj (.ref fa) (.ref b)) ∧ h.get? fa = some o) rfl (fun h hh => ⟨_, .inr (.inr rfl), looks_bound hh.1 hh.2 hd⟩) (evalArgs_nil3 ⟨⟨hq, S₁.base _ _ ho⟩, ?_⟩)
  exact wpAny_call (method_call hq (q A θ₁ s₁ [.ref b] post E R S₁ (.cons ⟨b, hb, rfl⟩ .nil) fun av as' θ' s' v q' S' X' V' => c av as' θ' s' v q' S' (X₁.trans X') V'))
theorem ev_callS {v i : Expr} {p pos : Pos} {args : List Expr} {Q : PV} (hs : noStar args = true)
    (h : EvS X dp f (.Subscript v i p) as fun o as₁ => ∃ fa, o = .addr fa ∧ EvsS X dp f args as₁ fun vs as₂ => FnAt X.h₀ fa ∧ ClS X dp (.ref fa) vs as₂ Q) : EvS X dp f (.Call (.Subscript v i p) args [] pos) as Q := by
  intro A θ s L env post E R F S c
  show wpAny X.M A (eval (.Subscript v i p) env >>= fun fv => callWith pos fv [] (backTo pos (starEach args env)) []) post E s
  refine wpAny_bind (h A θ s L env _ E R F S fun o as₁ θ₁ s₁ ov q S₁ X₁ V₁ => ?_)
  obtain ⟨fa, rfl, q⟩ := q
  cases V₁
  exact call_fn hs R (F.ext X₁) S₁ .nil q fun av as' θ' s' v q' S' X' V' => c av as' θ' s' v q' S' (X₁.trans X') V'
theorem ts_cmp {l r : Expr} {op : CmpOp} {pos : Pos} {Q : PB} (hm : behindInMarks op r = false) (h : EvS X dp f l as fun a as₁ => EvS X dp f r as₁ fun b as₂ => ∃ v, cmpA op a b = some v ∧ Q v as₂) : TsS X dp f (.Compare l [op] [r] pos) as Q := by
  intro A θ s L env post E R F S c
  refine wpAny_isTrue_Compare1 (h A θ s L env _ E R F S fun a as₁ θ₁ s₁ v q S₁ X₁ V₁ => q A θ₁ s₁ L env _ E R (F.ext X₁) S₁ fun b as₂ θ₂ s₂ u q₂ S₂ X₂ V₂ => ?_) hm
  obtain ⟨y, e, q₃⟩ := q₂
  exact cmp_av e (V₁.mono X₂.pre) V₂ (wpAny_truthy_bool (c _ _ θ₂ s₂ q₃ S₂ (X₁.trans X₂)))
noncomputable def plainTest : Expr → Bool
  | .Name .. | .Attribute .. | .BinOp .. | .Call .. | .Subscript .. => true
  | _ => false
theorem ts_val {e : Expr} {Q : PB} (hp : plainTest e = true) (h : EvS X dp f e as fun a as₁ => ∃ v, truA a = some v ∧ Q v as₁) : TsS X dp f e as Q := by
  intro A θ s L env post E R F S c
  have fin : wpAny X.M A (eval e env) (fun v s₁ => wpAny X.M A (truthy v) post E s₁) E s := h A θ s L env _ E R F S fun a as₁ θ₁ s₁ v q S₁ X₁ V₁ => by
    obtain ⟨y, e, q⟩ := q
    exact tru_av e V₁ (c _ _ θ₁ s₁ q S₁ X₁)
  cases e <;> first | (cases hp; done) | exact isTrue_plain fin
end
end Mine

end
section
open PySem PySem.W PyProof.Rows
namespace Mine
section
variable {X : Cx} {dp : Nat} {f : Fm} {as : List AO} {D : Cls} {K : Frag}
theorem swaps_no {e : Expr} (h : noComp e = true) (t : Option Expr) (n : Nat) (env : Env) : swapsWith e t n env = pure false := by
  cases e <;> first | rfl | cases h
theorem store_ok {x : Str} {av : AV} {v : Value} {P : Loc → List AO → Prop} {A : Around} {θ : List Addr} {s : Shared} {L : Addr} {env : Env} {post : Unit → Shared → Prop} {E : Value → Shared → Prop}
    (e : storeW f x av as P) (F : FrR X f L env θ s.heap) (S : X.S θ as s) (V : VR θ av v)
    (c : ∀ loc' as' s', P loc' as' → X.S θ as' s' → ExtL X.H L θ s.heap θ s'.heap → FrR X { f with loc := loc' } L env θ s'.heap → post () s') : wpAny X.M A (storeName env x v) post E s := by
  obtain ⟨m, hm, r⟩ := F.ns
  have kf : env.scope.kind = .function := by rw [F.scope]; exact F.kind
  unfold storeW at e
  split at e
  · rename_i hk
    have hm' : s.heap.Ns env.locals m := F.loc ▸ hm
    refine wpAny_storeName_local (F.kindOf hk) hm' (fun h' hn hs => ?_) (by rw [kf]; rfl)
    rw [F.loc] at hn hs
    have ne : ∀ a ∈ θ, a ≠ L := fun a m q => F.nin (q ▸ m)
    have nb : ∀ b o, X.h₀.get? b = some o → b ≠ L := fun b o e q => by rw [q, F.apart] at e; cases e
    refine c _ _ _ e ⟨⟨S.ar.len, S.ar.nodup, fun i o a e1 e2 => let ⟨ob, x, y⟩ := S.ar.objs i o a e1 e2; ⟨ob, (hs.2 a (ne a (List.mem_of_getElem? e2))).trans x, y⟩⟩, fun b o e => (hs.2 b (nb b o e)).trans (S.base b o e), S.apart, S.gens, S.os, fun e he => ?_, S.hnin, S.hbase, S.pin⟩
      ⟨List.prefix_refl θ, fun _ x y => absurd x y, fun b o e _ _ n => (hs.2 b n).trans e, fun b o e => (if q : b = L then (let ⟨o', _, _, z, _⟩ := hn; ⟨o', q ▸ z⟩) else ⟨o, (hs.2 b q).trans e⟩), fun P m => .inl (hs.2 P fun q => F.nhid (q ▸ m))⟩ ⟨F.scope, F.kind, F.loc, F.nin, F.apart, F.nhid, ⟨_, hn, fun y av' q => ?_⟩, F.cells, F.glob, F.blt, F.code, F.qual⟩
    · refine (S.tabs e he).to (fun o x => (hs.2 e.P fun q => F.nhid (q ▸ List.mem_map_of_mem he)).trans x) (fun c o vs x d _ _ => (hs.2 c fun q => ?_).trans x) fun _ _ _ n => n
      obtain ⟨oL, es, ep, hoL, hdL, _⟩ := hm
      rw [q, hoL] at x; cases x; rw [hdL] at d; cases d
    rw [show lk (pt f.loc x av) y = _ from lk_pt x av y f.loc] at q
    by_cases hy : y = x
    · subst hy; simp at q; subst q; exact ⟨v, by simp, V⟩
    · rw [if_neg hy] at q; simp only [hy, if_false]; exact r y av' q
  · split at e
    · rename_i i hk hc
      split at e
      · rename_i u hi
        obtain ⟨a, ha, hl⟩ := F.cells x i hc
        obtain ⟨u', hu, _⟩ := S.cell hi ha
        refine wpAny_storeName_cell kf (F.kindOf hk) hl hu fun h' hc' hs => ?_
        obtain ⟨ob, g1, g2⟩ := hc'
        have P := S.upd (o' := .cell (some av)) ha hi hs g1 ⟨_, g2, v, rfl, V⟩
        exact c _ _ _ e P.1 P.2.toL (F.ext P.2)
      · cases e
    · cases e
theorem st_pass {pos : Pos} {Q : PF} (h : Q .next f.loc as) : ExS X dp f (.Pass pos) as Q :=
  fun _ θ s L _ _ _ _ F S c => wpAny_Pass (c _ _ _ θ s _ h S (ExtL.refl L θ _) F rfl)
theorem st_expr {e : Expr} {pos : Pos} {Q : PF} (hn : noComp e = true) (h : EvS X dp f e as fun _ as₁ => Q .next f.loc as₁) : ExS X dp f (.Expr e pos) as Q := by
  intro A θ s L env post E R F S c
  have kf : env.scope.kind = .function := by rw [F.scope]; exact F.kind
  exact wpAny_Expr_any (h A θ s L env _ E R F S fun av as₁ θ₁ s₁ v q S₁ X₁ V₁ => c _ _ _ θ₁ s₁ _ q S₁ X₁.toL (F.ext X₁) rfl) (by unfold interactive; rw [kf]; rfl) (swaps_no hn _ _ _)
theorem st_ret {e : Expr} {pos : Pos} {Q : PF} (h : EvS X dp f e as fun v as₁ => Q (.ret v) f.loc as₁) : ExS X dp f (.Return (some e) pos) as Q := by
  intro A θ s L env post E R F S c
  exact wpAny_Return_some (h A θ s L env _ E R F S fun av as₁ θ₁ s₁ v q S₁ X₁ V₁ => c _ _ _ θ₁ s₁ _ q S₁ X₁.toL (F.ext X₁) ⟨v, rfl, V₁⟩)
theorem st_name {x : Str} {e : Expr} {p pos : Pos} {Q : PF} (hn : noComp e = true) (h : EvS X dp f e as fun v as₁ => storeW f x v as₁ (Q .next)) : ExS X dp f (.Assign [.Name x p] e pos) as Q := by
  intro A θ s L env post E R F S c
  refine wpAny_Assign_Name (h A θ s L env _ E R F S fun av as₁ θ₁ s₁ v q S₁ X₁ V₁ => ?_) (swaps_no hn _ _ _)
  exact store_ok q (F.ext X₁) S₁ V₁ fun loc' as' s' q' S' X' F' => c _ _ _ θ₁ s' _ q' S' (X₁.toL.trans F.there F.nin (F.ext X₁).there X') F' rfl
theorem st_attr {o e : Expr} {a : Str} {p pos : Pos} {Q : PF} (O : ClsOK D K X.h₀) (hn : noComp e = true) (h : EvS X dp f e as fun v as₁ => EvS X dp f o as₁ fun ov as₂ => ∃ i, ov = .obj i ∧ setW D i a v as₂ fun as₃ => Q .next f.loc as₃) : ExS X dp f (.Assign [.Attribute o a p] e pos) as Q := by
  intro A θ s L env post E R F S c
  refine plainObj_wpAny_Assign_Attribute (h A θ s L env _ E R F S fun av as₁ θ₁ s₁ v q S₁ X₁ V₁ => q A θ₁ s₁ L env _ E R (F.ext X₁) S₁ fun b as₂ θ₂ s₂ u q₂ S₂ X₂ V₂ => ?_) (swaps_no hn _ _ _)
  obtain ⟨i, rfl, q⟩ := q₂
  obtain ⟨b, hb, rfl⟩ := V₂
  exact set_ok O S₂ q hb (V₁.mono X₂.pre) fun as' s' q' S' X' => c _ _ _ θ₂ s' _ q' S' ((X₁.trans X₂).trans X').toL (F.ext ((X₁.trans X₂).trans X')) rfl
theorem st_sub {o k e : Expr} {p pos : Pos} {Q : PF} (hn : noComp e = true) (h : EvS X dp f e as fun v as₁ => EvS X dp f o as₁ fun ov as₂ => EvS X dp f k as₂ fun kv as₃ => putW ov kv v as₃ fun as₄ => Q .next f.loc as₄) : ExS X dp f (.Assign [.Subscript o k p] e pos) as Q := by
  intro A θ s L env post E R F S c
  refine wpAny_Assign_Subscript (h A θ s L env _ E R F S fun av as₁ θ₁ s₁ v q S₁ X₁ V₁ => q A θ₁ s₁ L env _ E R (F.ext X₁) S₁ fun b as₂ θ₂ s₂ u q₂ S₂ X₂ V₂ => q₂ A θ₂ s₂ L env _ E R (F.ext (X₁.trans X₂)) S₂ fun b' as₃ θ₃ s₃ u' q₃ S₃ X₃ V₃ => ?_) (swaps_no hn _ _ _)
  exact put_ok S₃ q₃ (V₂.mono X₃.pre) V₃ (V₁.mono (X₂.pre.trans X₃.pre)) fun as' s' q' S' X' => c _ _ _ θ₃ s' _ q' S' (((X₁.trans X₂).trans X₃).trans X').toL (F.ext (((X₁.trans X₂).trans X₃).trans X')) rfl
noncomputable def isMod : Operator → Bool
  | .Mod => true
  | _ => false
theorem not_mod {op : Operator} (h : isMod op = false) : op ≠ .Mod := by rintro rfl; cases h
theorem st_augN {x : Str} {op : Operator} {e : Expr} {i : Int} {p pos : Pos} {Q : PF} (hop : isMod op = false) (hx : isKind .local f.sc x = true) (hv : lk f.loc x = some (.int i))
    (h : EvS X dp f e as fun b as₂ => ∃ j k, b = .int j ∧ intA op i j = some k ∧ storeW f x (.int k) as₂ (Q .next)) : ExS X dp f (.AugAssign (.Name x p) op e pos) as Q := by
  intro A θ s L env post E R F S c
  obtain ⟨m, hm, r⟩ := F.ns
  obtain ⟨v, a, t, rfl⟩ := r x _ hv
  refine wpAny_AugAssign_Name (wpAny_loadName_local (by rw [F.scope]; exact F.kind) (F.kindOf hx) (F.loc ▸ hm) a ?_)
  refine h A θ s L env _ E R F S fun b as₂ θ₂ s₂ u q₂ S₂ X₂ V₂ => ?_
  obtain ⟨j, k, rfl, e, q₃⟩ := q₂
  obtain ⟨t', rfl⟩ := V₂
  exact inp_int e (store_ok (s := { s₂ with toks := s₂.toks + 1 }) q₃ (F.ext X₂) (S₂.toks _) ⟨_, rfl⟩ fun loc' as' s' q' S' X' F' => c _ _ _ θ₂ s' _ q' S' (X₂.toL.trans F.there F.nin (F.ext X₂).there X') F' rfl) (not_mod hop)
theorem st_augA {o e : Expr} {op : Operator} {a : Str} {p pos : Pos} {Q : PF} (O : ClsOK D K X.h₀) (hop : isMod op = false)
    (h : EvS X dp f o as fun ov as₁ => ∃ n, ov = .obj n ∧ attrW D n a as₁ fun old as₂ => EvS X dp f e as₂ fun b as₃ => ∃ i j k, old = .int i ∧ b = .int j ∧ intA op i j = some k ∧ setW D n a (.int k) as₃ fun as₄ => Q .next f.loc as₄) : ExS X dp f (.AugAssign (.Attribute o a p) op e pos) as Q := by
  intro A θ s L env post E R F S c
  refine wpAny_AugAssign_AttributeAny (h A θ s L env _ E R F S fun ov as₁ θ₁ s₁ v q S₁ X₁ V₁ => ?_)
  obtain ⟨n, rfl, q⟩ := q
  obtain ⟨b, hb, rfl⟩ := V₁
  refine attr_ok O S₁ q hb fun old as₂ θ₂ s₂ u q₂ S₂ X₂ V₂ => q₂ A θ₂ s₂ L env _ E R (F.ext (X₁.trans X₂)) S₂ fun b' as₃ θ₃ s₃ u' q₃ S₃ X₃ V₃ => ?_
  obtain ⟨i, j, k, rfl, rfl, e, q₃⟩ := q₃
  obtain ⟨t, rfl⟩ := V₂
  obtain ⟨t', rfl⟩ := V₃
  have X₁₃ := (X₁.trans X₂).trans X₃
  exact inp_int e (set_ok (s := { s₃ with toks := s₃.toks + 1 }) O (S₃.toks _) q₃ (get_pre (X₂.pre.trans X₃.pre) hb) ⟨_, rfl⟩ fun as' s' q' S' X' => c _ _ _ θ₃ s' _ q' S' (X₁₃.trans X').toL (F.ext (X₁₃.trans X')) rfl) (not_mod hop)
theorem exs_nil {Q : PF} (h : Q .next f.loc as) : ExsS X dp f [] as Q := fun _ θ s L _ _ _ _ F S c => wpAny_execs_nil (c _ _ _ θ s _ h S (ExtL.refl L θ _) F rfl)
theorem exs_cons {st : Stmt} {r : List Stmt} {Q : PF} (h : ExS X dp f st as fun fl loc as₁ => match fl with | .next => ExsS X dp { f with loc := loc } r as₁ Q | fl => Q fl loc as₁) : ExsS X dp f (st :: r) as Q := by
  intro A θ s L env post E R F S c
  refine wpAny_execs_cons (h A θ s L env _ E R F S fun fl loc as₁ θ₁ s₁ g q S₁ X₁ F₁ G₁ => ?_)
  cases fl with
  | next =>
    cases G₁
    exact q A θ₁ s₁ L env _ E R F₁ S₁ fun fl loc as₂ θ₂ s₂ g q₂ S₂ X₂ F₂ G₂ => c _ _ _ θ₂ s₂ _ q₂ S₂ (X₁.trans F.there F.nin F₁.there X₂) F₂ G₂
  | brk => cases G₁; exact c _ _ _ θ₁ s₁ _ q S₁ X₁ F₁ rfl
  | cont => cases G₁; exact c _ _ _ θ₁ s₁ _ q S₁ X₁ F₁ rfl
  | ret v => obtain ⟨u, rfl, hu⟩ := G₁; exact c _ _ _ θ₁ s₁ _ q S₁ X₁ F₁ ⟨u, rfl, hu⟩
noncomputable def ifB (b : Bool) (P Q : Prop) : Prop := match b with
  | true => P
  | false => Q
theorem st_if {t : Expr} {b o : List Stmt} {pos : Pos} {Q : PF} (h : TsS X dp f t as fun c as₁ => ifB c (ExsS X dp f b as₁ Q) (ExsS X dp f o as₁ Q)) : ExS X dp f (.If t b o pos) as Q := by
  intro A θ s L env post E R F S c
  refine wpAny_If (h A θ s L env _ E R F S fun bb as₁ θ₁ s₁ q S₁ X₁ => ?_)
  have fin : ∀ fl loc' as' θ' s' g, Q fl loc' as' → X.S θ' as' s' → ExtL X.H L θ₁ s₁.heap θ' s'.heap → FrR X { f with loc := loc' } L env θ' s'.heap → FlR θ' fl g → post g s' :=
    fun fl loc' as' θ' s' g q S' X' F' G' => c _ _ _ θ' s' _ q S' (X₁.toL.trans F.there F.nin (F.ext X₁).there X') F' G'
  cases bb with
  | true => exact q A θ₁ s₁ L env _ E R (F.ext X₁) S₁ fin
  | false => exact q A θ₁ s₁ L env _ E R (F.ext X₁) S₁ fin
end
end Mine

end
section
open PySem PySem.W PyProof.Rows
namespace Mine
noncomputable def binW : Operator → Int → Int → (Int → Prop) → Prop
  | .Add, a, b, K => K (a + b)
  | .Sub, a, b, K => K (a - b)
  | .BitAnd, a, b, K => K (Builtin.bitAnd a b)
  | .BitOr, a, b, K => K (Builtin.bitOr a b)
  | .BitXor, a, b, K => K (Builtin.bitXor a b)
  | .LShift, a, b, K => (0 ≤ b ∧ b ≤ 1000000 ∧ a.natAbs < 2 ^ 64) ∧ K (a * 2 ^ b.toNat)
  | .RShift, a, b, K => 0 ≤ b ∧ K (a.fdiv (2 ^ b.toNat))
  | .FloorDiv, a, b, K => (b ≠ 0 ∧ Builtin.divisionGoesByPylong a b = false) ∧ K (a.fdiv b)
  | .Mod, a, b, K => b ≠ 0 ∧ K (a.fmod b)
  | .Mult, a, b, K => (Builtin.Int.intBits a ≤ 64 ∨ Builtin.Int.intBits b ≤ 64) ∧ K (a * b)
  | _, _, _, _ => False
theorem binW_ok {op : Operator} {a b : Int} {K : Int → Prop} (h : binW op a b K) : ∃ k, intA op a b = some k ∧ K k := by
  cases op with
  | Add => exact ⟨_, rfl, h⟩
  | Sub => exact ⟨_, rfl, h⟩
  | BitAnd => exact ⟨_, rfl, h⟩
  | BitOr => exact ⟨_, rfl, h⟩
  | BitXor => exact ⟨_, rfl, h⟩
  | LShift => exact ⟨_, if_pos h.1, h.2⟩
  | RShift => exact ⟨_, if_pos h.1, h.2⟩
  | FloorDiv => exact ⟨_, if_pos h.1, h.2⟩
  | Mod => exact ⟨_, if_pos h.1, h.2⟩
  | Mult => exact ⟨_, if_pos h.1, h.2⟩
  | _ => exact h.elim
noncomputable abbrev Prim := List AV → List AO → PV → Prop
noncomputable abbrev Prims := Addr → Option (Nat × Prim)
noncomputable def nameW (f : Fm) (x : Str) (as : List AO) (Q : PV) : Prop := match isKind .local f.sc x with
  | true => (match lk f.loc x with | some v => Q v as | none => False)
  | false => match isKind .cell f.sc x || isKind .free f.sc x, seq x "__classdict__", lk f.cells x with
    | true, false, some i => (match as[i]? with | some (.cell (some v)) => Q v as | _ => False)
    | _, _, _ => False
structure RecW where
  ev : Nat → Fm → Expr → List AO → PV → Prop
  evs : Nat → Fm → List Expr → List AO → PVs → Prop
  ts : Nat → Fm → Expr → List AO → PB → Prop
  ex : Nat → Fm → Stmt → List AO → PF → Prop
  exs : Nat → Fm → List Stmt → List AO → PF → Prop
  cl : Nat → Addr → List AV → List AO → PV → Prop
noncomputable def constW (c : Const) (as : List AO) (Q : PV) : Prop := match c with
  | .int i => Q (.int i) as
  | .none => Q .none as
  | .bool b => Q (.bool b) as
  | .str b => Q (.str b) as
  | _ => False
noncomputable def cmpOf : Expr → Option (Expr × CmpOp × Expr × Pos)
  | .Compare l [op] [r] p => some (l, op, r, p)
  | _ => none
noncomputable def jAttr (D : Cls) (f : Fm) (o : Expr) (a : Str) (as : List AO) (Q : PV) : Prop := match o with
  | .Name x _ => nameW f x as fun o as₁ => (match o with | .obj i => attrW D i a as₁ Q | _ => False)
  | _ => False
noncomputable def jBin (R : RecW) (dp : Nat) (f : Fm) (l : Expr) (op : Operator) (r : Expr) (as : List AO) (Q : PV) : Prop :=
  R.ev dp f l as fun a as₁ => R.ev dp f r as₁ fun b as₂ => (match a, b with | .int i, .int j => binW op i j fun k => Q (.int k) as₂ | _, _ => False)
noncomputable def jInv (R : RecW) (dp : Nat) (f : Fm) (op : UnaryOp) (x : Expr) (as : List AO) (Q : PV) : Prop := match op with
  | .Invert => R.ev dp f x as fun a as₁ => (match a with | .int i => Q (.int (Builtin.bitNot i)) as₁ | _ => False)
  | _ => False
noncomputable def jSub (D : Cls) (R : RecW) (dp : Nat) (f : Fm) (v i : Expr) (as : List AO) (Q : PV) : Prop := match noSlice i with
  | true => R.ev dp f v as fun o as₁ => R.ev dp f i as₁ fun k as₂ => itemW D o k as₂ fun r => Q r as₂
  | false => False
noncomputable def jMeth (D : Cls) (R : RecW) (dp : Nat) (f : Fm) (o : Expr) (name : Str) (apos : Pos) (args : List Expr) (pos : Pos) (as : List AO) (Q : PV) : Prop := match o with
  | .Name x _ => (match noStar args && Nat.blt args.length 20 && Nat.beq apos.endLine pos.line with
    | true => nameW f x as fun o as₁ => (match o with
      | .obj i => (match methA D i name as₁ with
        | some fa => R.evs dp f args as₁ fun vs as₂ => R.cl dp fa (.obj i :: vs) as₂ Q
        | none => False)
      | _ => False)
    | false => False)
  | _ => False
noncomputable def jObj (R : RecW) (dp : Nat) (f : Fm) (x : Str) (args : List Expr) (as : List AO) (Q : PV) : Prop := match args with
  | [] => nameW f x as fun o as₁ => (match o with
    | .obj m => (match as₁[m]? with | some (.meth fa i) => R.cl dp fa [.obj i] as₁ Q | _ => False)
    | _ => False)
  | _ => False
noncomputable def jTab (R : RecW) (dp : Nat) (f : Fm) (v i : Expr) (p : Pos) (args : List Expr) (as : List AO) (Q : PV) : Prop := match noStar args with
  | true => R.ev dp f (.Subscript v i p) as fun o as₁ => (match o with
    | .addr fa => R.evs dp f args as₁ fun vs as₂ => R.cl dp fa vs as₂ Q
    | _ => False)
  | false => False
noncomputable def jCall (D : Cls) (R : RecW) (dp : Nat) (f : Fm) (fn : Expr) (args : List Expr) (kws : List Keyword) (pos : Pos) (as : List AO) (Q : PV) : Prop := match kws with
  | [] => (match fn with
    | .Attribute o name apos => jMeth D R dp f o name apos args pos as Q
    | .Name x _ => jObj R dp f x args as Q
    | .Subscript v i p => jTab R dp f v i p args as Q
    | _ => False)
  | _ => False
noncomputable def evF (D : Cls) (P : Prims) (R : RecW) (dp : Nat) (f : Fm) (e : Expr) (as : List AO) (Q : PV) : Prop := match e with
  | .Constant c _ _ => constW c as Q
  | .Name x _ => nameW f x as Q
  | .Attribute o a _ => jAttr D f o a as Q
  | .BinOp l op r _ => jBin R dp f l op r as Q
  | .UnaryOp op x _ => jInv R dp f op x as Q
  | .Subscript v i _ => jSub D R dp f v i as Q
  | .Call fn args kws pos => jCall D R dp f fn args kws pos as Q
  | _ => False
noncomputable def evsF (R : RecW) (dp : Nat) (f : Fm) (es : List Expr) (as : List AO) (Q : PVs) : Prop := match es with
    | [] => Q [] as
    | e :: r => R.ev dp f e as fun a as₁ => R.evs dp f r as₁ fun l as₂ => Q (a :: l) as₂
noncomputable def jCmp (R : RecW) (dp : Nat) (f : Fm) (l : Expr) (op : CmpOp) (r : Expr) (as : List AO) (Q : PB) : Prop := match behindInMarks op r with
  | false => R.ev dp f l as fun a as₁ => R.ev dp f r as₁ fun b as₂ => (match cmpA op a b with | some v => Q v as₂ | none => False)
  | true => False
noncomputable def jPlain (R : RecW) (dp : Nat) (f : Fm) (e : Expr) (as : List AO) (Q : PB) : Prop := match plainTest e with
  | true => R.ev dp f e as fun a as₁ => (match truA a with | some v => Q v as₁ | none => False)
  | false => False
noncomputable def tsF (R : RecW) (dp : Nat) (f : Fm) (e : Expr) (as : List AO) (Q : PB) : Prop := match cmpOf e with
  | some (l, op, r, _) => jCmp R dp f l op r as Q
  | none => jPlain R dp f e as Q
noncomputable def jE (R : RecW) (dp : Nat) (f : Fm) (e : Expr) (as : List AO) (K : PV) : Prop := match noComp e with
  | true => R.ev dp f e as K
  | false => False
noncomputable def jAsgn (D : Cls) (R : RecW) (dp : Nat) (f : Fm) (t e : Expr) (as : List AO) (Q : PF) : Prop := match t with
  | .Name x _ => jE R dp f e as fun v as₁ => storeW f x v as₁ (Q .next)
  | .Attribute o a _ => jE R dp f e as fun v as₁ => R.ev dp f o as₁ fun ov as₂ => (match ov with | .obj i => setW D i a v as₂ fun as₃ => Q .next f.loc as₃ | _ => False)
  | .Subscript o k _ => jE R dp f e as fun v as₁ => R.ev dp f o as₁ fun ov as₂ => R.ev dp f k as₂ fun kv as₃ => putW ov kv v as₃ fun as₄ => Q .next f.loc as₄
  | _ => False
noncomputable def jAugN (R : RecW) (dp : Nat) (f : Fm) (x : Str) (op : Operator) (e : Expr) (as : List AO) (Q : PF) : Prop := match isKind .local f.sc x, isMod op, lk f.loc x with
  | true, false, some (.int i) => R.ev dp f e as fun b as₁ => (match b with | .int j => binW op i j fun k => storeW f x (.int k) as₁ (Q .next) | _ => False)
  | _, _, _ => False
noncomputable def jAugA (D : Cls) (R : RecW) (dp : Nat) (f : Fm) (o : Expr) (a : Str) (op : Operator) (e : Expr) (as : List AO) (Q : PF) : Prop := match isMod op with
  | false => R.ev dp f o as fun ov as₁ => (match ov with
    | .obj i => attrW D i a as₁ fun old as₂ => R.ev dp f e as₂ fun b as₃ => (match old, b with
      | .int x, .int y => binW op x y fun k => setW D i a (.int k) as₃ fun as₄ => Q .next f.loc as₄
      | _, _ => False)
    | _ => False)
  | true => False
noncomputable def jAug (D : Cls) (R : RecW) (dp : Nat) (f : Fm) (t : Expr) (op : Operator) (e : Expr) (as : List AO) (Q : PF) : Prop := match t with
  | .Name x _ => jAugN R dp f x op e as Q
  | .Attribute o a _ => jAugA D R dp f o a op e as Q
  | _ => False
noncomputable def exF (D : Cls) (R : RecW) (dp : Nat) (f : Fm) (st : Stmt) (as : List AO) (Q : PF) : Prop := match st with
  | .Pass _ => Q .next f.loc as
  | .Expr e _ => jE R dp f e as fun _ as₁ => Q .next f.loc as₁
  | .Return v _ => (match v with | some e => R.ev dp f e as fun v as₁ => Q (.ret v) f.loc as₁ | none => False)
  | .Assign ts e _ => (match ts with | [t] => jAsgn D R dp f t e as Q | _ => False)
  | .AugAssign t op e _ => jAug D R dp f t op e as Q
  | .If t b o _ => R.ts dp f t as fun c as₁ => ifB c (R.exs dp f b as₁ Q) (R.exs dp f o as₁ Q)
  | _ => False
noncomputable def exsF (R : RecW) (dp : Nat) (f : Fm) (ss : List Stmt) (as : List AO) (Q : PF) : Prop := match ss with
    | [] => Q .next f.loc as
    | st :: r => R.ex dp f st as fun fl loc as₁ => (match fl with | .next => R.exs dp { f with loc := loc } r as₁ Q | fl => Q fl loc as₁)
noncomputable def clF (D : Cls) (P : Prims) (R : RecW) (dp : Nat) (fa : Addr) (vs : List AV) (as : List AO) (Q : PV) : Prop := match P fa with
    | some (t, g) => (match Nat.ble t dp with | true => g vs as Q | false => False)
    | none => match dp with
      | 0 => False
      | dp + 1 => match D.fn fa with
        | some d => (match Nat.beq vs.length d.names.length with
          | true => R.exs dp ⟨d.scope, (d.names.zip vs).reverse, [], d.code, d.qual⟩ d.body as fun fl _ as' => (match fl with | .ret v => Q v as' | .next => Q .none as' | _ => False)
          | false => False)
        | none => False
noncomputable def recW (D : Cls) (P : Prims) : Nat → RecW
  | 0 => ⟨fun _ _ _ _ _ => False, fun _ _ _ _ _ => False, fun _ _ _ _ _ => False, fun _ _ _ _ _ => False, fun _ _ _ _ _ => False, fun _ _ _ _ _ => False⟩
  | n + 1 => ⟨evF D P (recW D P n), evsF (recW D P n), tsF (recW D P n), exF D (recW D P n), exsF (recW D P n), clF D P (recW D P n)⟩
noncomputable abbrev evW (D : Cls) (P : Prims) (n : Nat) := (recW D P n).ev
noncomputable abbrev evsW (D : Cls) (P : Prims) (n : Nat) := (recW D P n).evs
noncomputable abbrev tsW (D : Cls) (P : Prims) (n : Nat) := (recW D P n).ts
noncomputable abbrev exW (D : Cls) (P : Prims) (n : Nat) := (recW D P n).ex
noncomputable abbrev exsW (D : Cls) (P : Prims) (n : Nat) := (recW D P n).exs
noncomputable abbrev clW (D : Cls) (P : Prims) (n : Nat) := (recW D P n).cl
end Mine

end
section
open PySem PySem.W PyProof.Rows
namespace Mine
structure ClassOK (X : Cx) (D : Cls) (P : Prims) : Prop where
  cls : ∃ K, ClsOK D K X.h₀
  fns : ∀ fa d, D.fn fa = some d → FnOK X.h₀ fa d
  prims : ∀ fa t g, P fa = some (t, g) → FnAt X.h₀ fa ∧ ∀ dp vs as Q, t ≤ dp → g vs as Q → ClS X dp (.ref fa) vs as Q
section
variable {X : Cx} {D : Cls} {P : Prims}
theorem nameW_ok {dp : Nat} {f : Fm} {as : List AO} {x : Str} {p : Pos} {Q : PV} (h : nameW f x as Q) : EvS X dp f (.Name x p) as Q := by
  unfold nameW at h
  split at h
  · rename_i hk
    split at h
    · rename_i v hv; exact ev_local hk hv h
    · cases h
  · split at h
    · rename_i i hk hn hc
      split at h
      · rename_i v hv; exact ev_cell hk hn hc hv h
      · cases h
    · cases h
theorem attrW_mono {D : Cls} {i : Nat} {a : Str} {as : List AO} {Q Q' : PV} (h : attrW D i a as Q) (k : ∀ a b, Q a b → Q' a b) : attrW D i a as Q' := by
  unfold attrW at h ⊢
  split at h
  · split at h
    · split at h
      · split at h
        · exact k _ _ h
        · cases h
      · split at h
        · exact k _ _ h
        · exact k _ _ h
        · exact k _ _ h
        · cases h
    · cases h
  · cases h
structure Spec (X : Cx) (D : Cls) (P : Prims) (n : Nat) : Prop where
  ev : ∀ dp f e as Q, evW D P n dp f e as Q → EvS X dp f e as Q
  evs : ∀ dp f es as Q, evsW D P n dp f es as Q → EvsS X dp f es as Q
  ts : ∀ dp f e as Q, tsW D P n dp f e as Q → TsS X dp f e as Q
  ex : ∀ dp f st as Q, exW D P n dp f st as Q → ExS X dp f st as Q
  exs : ∀ dp f ss as Q, exsW D P n dp f ss as Q → ExsS X dp f ss as Q
  cl : ∀ dp fa vs as Q, clW D P n dp fa vs as Q → FnAt X.h₀ fa ∧ ClS X dp (.ref fa) vs as Q
structure SpecW (X : Cx) (R : RecW) : Prop where
  ev : ∀ dp f e as Q, R.ev dp f e as Q → EvS X dp f e as Q
  evs : ∀ dp f es as Q, R.evs dp f es as Q → EvsS X dp f es as Q
  ts : ∀ dp f e as Q, R.ts dp f e as Q → TsS X dp f e as Q
  ex : ∀ dp f st as Q, R.ex dp f st as Q → ExS X dp f st as Q
  exs : ∀ dp f ss as Q, R.exs dp f ss as Q → ExsS X dp f ss as Q
  cl : ∀ dp fa vs as Q, R.cl dp fa vs as Q → FnAt X.h₀ fa ∧ ClS X dp (.ref fa) vs as Q
theorem nosome {α : Type _} {a : α} {P : Prop} (h : none = some a) : P := nomatch h
theorem cmpOf_ok {e l r : Expr} {op : CmpOp} {p : Pos} (h : cmpOf e = some (l, op, r, p)) : e = .Compare l [op] [r] p := by
  cases e with
  | Compare a ops rs q => cases ops with
    | nil => exact nosome h
    | cons o ops => cases ops with
      | cons _ _ => exact nosome h
      | nil => cases rs with
        | nil => exact nosome h
        | cons r rs => cases rs with
          | cons _ _ => exact nosome h
          | nil => cases h; rfl
  | _ => exact nosome h
section
variable {R : RecW} {K : Frag} {dp : Nat} {f : Fm} {as : List AO} {Q : PV}
theorem constW_ok {c : Const} {k : Nat} {p : Pos} (h : constW c as Q) : EvS X dp f (.Constant c k p) as Q := by
  cases c with
  | int i => exact ev_int h
  | none => exact ev_none h
  | bool b => exact ev_bool h
  | str b => exact ev_str h
  | _ => exact False.elim h
theorem jAttr_ok (OK : ClsOK D K X.h₀) {o : Expr} {a : Str} {p : Pos} (h : jAttr D f o a as Q) : EvS X dp f (.Attribute o a p) as Q := by
  cases o with
  | Name x p' =>
    unfold jAttr at h
    dsimp only at h
    refine ev_attr OK ((nameW_ok h).mono fun o as₁ q => ?_)
    split at q
    · exact ⟨_, rfl, q⟩
    · cases q
  | _ => exact False.elim h
theorem jBin_ok (ih : SpecW X R) {l r : Expr} {op : Operator} {p : Pos} (h : jBin R dp f l op r as Q) : EvS X dp f (.BinOp l op r p) as Q := by
  refine ev_bin ((ih.ev _ _ _ _ _ h).mono fun a as₁ q => (ih.ev _ _ _ _ _ q).mono fun b as₂ q => ?_)
  split at q
  · obtain ⟨k, e, q⟩ := binW_ok q; exact ⟨_, _, k, rfl, rfl, e, q⟩
  · cases q
theorem jInv_ok (ih : SpecW X R) {op : UnaryOp} {x : Expr} {p : Pos} (h : jInv R dp f op x as Q) : EvS X dp f (.UnaryOp op x p) as Q := by
  cases op with
  | Invert =>
    refine ev_inv ((ih.ev _ _ _ _ _ h).mono fun a as₁ q => ?_)
    split at q
    · exact ⟨_, rfl, q⟩
    · cases q
  | _ => exact False.elim h
theorem jSub_ok (OK : ClsOK D K X.h₀) (ih : SpecW X R) {v i : Expr} {p : Pos} (h : jSub D R dp f v i as Q) : EvS X dp f (.Subscript v i p) as Q := by
  unfold jSub at h
  split at h
  · rename_i hn; exact ev_sub OK hn ((ih.ev _ _ _ _ _ h).mono fun a as₁ q => ih.ev _ _ _ _ _ q)
  · cases h
theorem jMeth_ok (OK : ClsOK D K X.h₀) (ih : SpecW X R) {o : Expr} {name : Str} {apos pos : Pos} {args : List Expr} (h : jMeth D R dp f o name apos args pos as Q) : EvS X dp f (.Call (.Attribute o name apos) args [] pos) as Q := by
  cases o with
  | Name x p =>
    change (match noStar args && Nat.blt args.length 20 && Nat.beq apos.endLine pos.line with | true => _ | false => _) at h
    split at h
    · rename_i hc
      simp only [Bool.and_eq_true] at hc
      obtain ⟨⟨h1, h2⟩, h3⟩ := hc
      refine ev_callM OK h1 (by simpa using h2) (by simpa using h3) ((nameW_ok h).mono fun o as₁ q => ?_)
      split at q
      · split at q
        · rename_i fa hm; exact ⟨_, fa, rfl, hm, (ih.evs _ _ _ _ _ q).mono fun vs as₂ q => ih.cl _ _ _ _ _ q⟩
        · cases q
      · cases q
    · cases h
  | _ => exact False.elim h
theorem jObj_ok (ih : SpecW X R) {x : Str} {p pos : Pos} {args : List Expr} (h : jObj R dp f x args as Q) : EvS X dp f (.Call (.Name x p) args [] pos) as Q := by
  cases args with
  | nil =>
    unfold jObj at h
    dsimp only at h
    refine ev_callB ((nameW_ok h).mono fun o as₁ q => ?_)
    split at q
    · split at q
      · rename_i fa i hm; exact ⟨_, fa, i, rfl, hm, ih.cl _ _ _ _ _ q⟩
      · cases q
    · cases q
  | cons _ _ => exact False.elim h
theorem jTab_ok (ih : SpecW X R) {v i : Expr} {p pos : Pos} {args : List Expr} (h : jTab R dp f v i p args as Q) : EvS X dp f (.Call (.Subscript v i p) args [] pos) as Q := by
  unfold jTab at h
  split at h
  · rename_i hs
    refine ev_callS hs ((ih.ev _ _ _ _ _ h).mono fun o as₁ q => ?_)
    split at q
    · exact ⟨_, rfl, (ih.evs _ _ _ _ _ q).mono fun vs as₂ q => ih.cl _ _ _ _ _ q⟩
    · cases q
  · cases h
theorem jCall_ok (OK : ClsOK D K X.h₀) (ih : SpecW X R) {fn : Expr} {args : List Expr} {kws : List Keyword} {pos : Pos} (h : jCall D R dp f fn args kws pos as Q) : EvS X dp f (.Call fn args kws pos) as Q := by
  cases kws with
  | cons _ _ => exact False.elim h
  | nil => cases fn with
    | Attribute o name apos => exact jMeth_ok OK ih h
    | Name x p => exact jObj_ok ih h
    | Subscript v i p => exact jTab_ok ih h
    | _ => exact False.elim h
theorem evF_ok (OK : ClsOK D K X.h₀) (ih : SpecW X R) {e : Expr} (h : evF D P R dp f e as Q) : EvS X dp f e as Q := by
  cases e with
  | Constant c k p => exact constW_ok h
  | Name x p => exact nameW_ok h
  | Attribute o a p => exact jAttr_ok OK h
  | BinOp l op r p => exact jBin_ok ih h
  | UnaryOp op x p => exact jInv_ok ih h
  | Subscript v i p => exact jSub_ok OK ih h
  | Call fn args kws pos => exact jCall_ok OK ih h
  | _ => exact False.elim h
end
section
variable {R : RecW} {K : Frag} {dp : Nat} {f : Fm} {as : List AO} {Q : PF}
theorem jCmp_ok (ih : SpecW X R) {l r : Expr} {op : CmpOp} {p : Pos} {Q : PB} (h : jCmp R dp f l op r as Q) : TsS X dp f (.Compare l [op] [r] p) as Q := by
  unfold jCmp at h
  split at h
  · rename_i hm
    refine ts_cmp hm ((ih.ev _ _ _ _ _ h).mono fun a as₁ q => (ih.ev _ _ _ _ _ q).mono fun b as₂ q => ?_)
    split at q
    · rename_i v hv; exact ⟨v, hv, q⟩
    · cases q
  · cases h
theorem jPlain_ok (ih : SpecW X R) {e : Expr} {Q : PB} (h : jPlain R dp f e as Q) : TsS X dp f e as Q := by
  unfold jPlain at h
  split at h
  · rename_i hp
    refine ts_val hp ((ih.ev _ _ _ _ _ h).mono fun a as₁ q => ?_)
    split at q
    · rename_i v hv; exact ⟨v, hv, q⟩
    · cases q
  · cases h
theorem tsF_ok (ih : SpecW X R) {e : Expr} {Q : PB} (h : tsF R dp f e as Q) : TsS X dp f e as Q := by
  unfold tsF at h
  split at h
  · rename_i hc; rw [cmpOf_ok hc]; exact jCmp_ok ih h
  · exact jPlain_ok ih h
theorem jE_ok (ih : SpecW X R) {e : Expr} {Q : PV} (h : jE R dp f e as Q) : noComp e = true ∧ EvS X dp f e as Q := by
  unfold jE at h
  split at h
  · rename_i hn; exact ⟨hn, ih.ev _ _ _ _ _ h⟩
  · cases h
theorem jAsgn_ok (OK : ClsOK D K X.h₀) (ih : SpecW X R) {t e : Expr} {pos : Pos} (h : jAsgn D R dp f t e as Q) : ExS X dp f (.Assign [t] e pos) as Q := by
  cases t with
  | Name x p' => have z := jE_ok ih h; exact st_name z.1 z.2
  | Attribute o a p' =>
    have z := jE_ok ih h
    refine st_attr OK z.1 (z.2.mono fun a as₁ q => (ih.ev _ _ _ _ _ q).mono fun b as₂ q => ?_)
    split at q
    · exact ⟨_, rfl, q⟩
    · cases q
  | Subscript o k p' => have z := jE_ok ih h; exact st_sub z.1 (z.2.mono fun a as₁ q => (ih.ev _ _ _ _ _ q).mono fun b as₂ q => ih.ev _ _ _ _ _ q)
  | _ => exact False.elim h
theorem jAugN_ok (ih : SpecW X R) {x : Str} {op : Operator} {e : Expr} {p pos : Pos} (h : jAugN R dp f x op e as Q) : ExS X dp f (.AugAssign (.Name x p) op e pos) as Q := by
  unfold jAugN at h
  split at h
  · rename_i hk hm hv
    refine st_augN hm hk hv ((ih.ev _ _ _ _ _ h).mono fun a as₁ q => ?_)
    split at q
    · obtain ⟨k, e, q⟩ := binW_ok q; exact ⟨_, k, rfl, e, q⟩
    · cases q
  · cases h
theorem jAugA_ok (OK : ClsOK D K X.h₀) (ih : SpecW X R) {o : Expr} {a : Str} {op : Operator} {e : Expr} {p pos : Pos} (h : jAugA D R dp f o a op e as Q) : ExS X dp f (.AugAssign (.Attribute o a p) op e pos) as Q := by
  unfold jAugA at h
  split at h
  · rename_i hm
    refine st_augA OK hm ((ih.ev _ _ _ _ _ h).mono fun a as₁ q => ?_)
    split at q
    · refine ⟨_, rfl, attrW_mono q fun old as₂ q => (ih.ev _ _ _ _ _ q).mono fun b as₃ q => ?_⟩
      split at q
      · refine El_ea (binW_ok q) fun k e q => ?_; exact ⟨_, _, k, rfl, rfl, e, q⟩
      · cases q
    · cases q
  · cases h
theorem exF_ok (OK : ClsOK D K X.h₀) (ih : SpecW X R) {st : Stmt} (h : exF D R dp f st as Q) : ExS X dp f st as Q := by
  cases st with
  | Pass p => exact st_pass h
  | Expr e p => have z := jE_ok ih h; exact st_expr z.1 z.2
  | Return v p => cases v with
    | some e => exact st_ret (ih.ev _ _ _ _ _ h)
    | none => exact False.elim h
  | Assign ts e p => cases ts with
    | nil => exact False.elim h
    | cons t ts => cases ts with
      | cons _ _ => exact False.elim h
      | nil => exact jAsgn_ok OK ih h
  | AugAssign t op e p => cases t with
    | Name x p' => exact jAugN_ok ih h
    | Attribute o a p' => exact jAugA_ok OK ih h
    | _ => exact False.elim h
  | If t b o p =>
    refine st_if ((ih.ts _ _ _ _ _ h).mono fun c as₁ q => ?_)
    cases c with
    | true => exact ih.exs _ _ _ _ _ q
    | false => exact ih.exs _ _ _ _ _ q
  | _ => exact False.elim h
theorem clF_ok (O : ClassOK X D P) (OK : ClsOK D K X.h₀) (ih : SpecW X R) {fa : Addr} {vs : List AV} {Q : PV} (h : clF D P R dp fa vs as Q) : FnAt X.h₀ fa ∧ ClS X dp (.ref fa) vs as Q := by
  unfold clF at h
  split at h
  · rename_i t g hg
    split at h
    · rename_i hb; exact ⟨(O.prims fa t g hg).1, (O.prims fa t g hg).2 dp vs as Q (Nat.le_of_ble_eq_true hb) h⟩
    · cases h
  · split at h
    · cases h
    · split at h
      · rename_i d hd
        split at h
        · rename_i hl
          exact ⟨(O.fns fa d hd).at, cl_def (O.fns fa d hd) OK.lim (Nat.eq_of_beq_eq_true hl) (ih.exs _ _ _ _ _ h)⟩
        · cases h
      · cases h
end
theorem spec0 (O : ClassOK X D P) : ∀ n, SpecW X (recW D P n)
  | 0 => ⟨fun _ _ _ _ _ h => False.elim h, fun _ _ _ _ _ h => False.elim h, fun _ _ _ _ _ h => False.elim h, fun _ _ _ _ _ h => False.elim h, fun _ _ _ _ _ h => False.elim h, fun _ _ _ _ _ h => False.elim h⟩
  | n + 1 => by
    have ih := spec0 O n
    obtain ⟨K, OK⟩ := O.cls
    refine ⟨fun dp f e as Q h => evF_ok (P := P) OK ih h, fun dp f es as Q h => ?_, fun dp f e as Q h => tsF_ok ih h, fun dp f st as Q h => exF_ok OK ih h, fun dp f ss as Q h => ?_, fun dp fa vs as Q h => clF_ok O OK ih h⟩
    · cases es with
      | nil => exact evs_nil h
      | cons e r => exact evs_cons ((ih.ev _ _ _ _ _ h).mono fun a as₁ q => ih.evs _ _ _ _ _ q)
    · cases ss with
      | nil => exact exs_nil h
      | cons st r =>
        refine exs_cons ((ih.ex _ _ _ _ _ h).mono fun fl loc as₁ q => ?_)
        cases fl with
        | next => exact ih.exs _ _ _ _ _ q
        | brk => exact q
        | cont => exact q
        | ret v => exact q
theorem spec (O : ClassOK X D P) (n : Nat) : Spec X D P n := let z := spec0 O n; ⟨z.ev, z.evs, z.ts, z.ex, z.exs, z.cl⟩
end
end Mine

end
section
open PySem PySem.W PyProof.Rows
namespace Mine
noncomputable def Cx.re (X : Cx) (L : Addr) (θ : List Addr) (h : Heap) : Cx := { X with h₀ := hideAll h (L :: (θ ++ X.H)), T := ⟨X.T.tabs, θ⟩ }
section
variable {X : Cx} {dp : Nat} {f : Fm} {as as' : List AO} {θ θ' : List Addr} {s s' : Shared} {L : Addr} {env : Env}
theorem re_S (S : X.S θ as s) : (X.re L θ s.heap).S θ as s :=
  ⟨S.ar, fun b o e => of_hideAll _ e, fun a m => hideAll_none _ (.tail _ (List.mem_append_left _ m)), S.gens, S.os, S.tabs, S.hnin, fun e he => hideAll_none _ (.tail _ (List.mem_append_right _ (List.mem_map_of_mem he))), List.prefix_refl _⟩
theorem re_F {h : Heap} (F : FrR X f L env θ h) : FrR (X.re L θ h) f L env θ h := ⟨F.scope, F.kind, F.loc, F.nin, hideAll_none _ (.head _), F.nhid, F.ns, F.cells, F.glob, F.blt, F.code, F.qual⟩
theorem re_base (S : X.S θ as s) (hL : X.h₀.get? L = none) : ∀ b o, X.h₀.get? b = some o → (X.re L θ s.heap).h₀.get? b = some o := fun b o e => by
  refine hideAll_get _ (S.base b o e) fun m => ?_
  rcases List.mem_cons.mp m with q | m
  · rw [q, hL] at e; cases e
  · rcases List.mem_append.mp m with m | m
    · rw [S.apart b m] at e; cases e
    · obtain ⟨t, ht, q⟩ := List.mem_map.mp m
      rw [← q, S.hbase t ht] at e; cases e
theorem re_at {b : Addr} {o : Obj} (e : s.heap.get? b = some o) (h1 : b ≠ L) (h2 : b ∉ θ) (h3 : b ∉ X.H) : (X.re L θ s.heap).h₀.get? b = some o :=
  hideAll_get _ e fun m => by
    rcases List.mem_cons.mp m with q | m
    · exact h1 q
    · rcases List.mem_append.mp m with m | m
      · exact h2 m
      · exact h3 m
theorem re_back (S : X.S θ as s) (hL : X.h₀.get? L = none) (S' : (X.re L θ s.heap).S θ' as' s') : X.S θ' as' s' :=
  ⟨S'.ar, fun b o e => S'.base b o (re_base S hL b o e), fun a m => (by
    cases q : X.h₀.get? a with
    | none => rfl
    | some o => have := S'.apart a m; rw [re_base S hL a o q] at this; cases this), S'.gens, S'.os, S'.tabs, S'.hnin, S.hbase, S.pin.trans S'.pin⟩
theorem use_re {A : Around} {e : Expr} {Q : PV} {post : Value → Shared → Prop} {E : Value → Shared → Prop} (h : EvS (X.re L θ s.heap) dp f e as Q) (R : Room A dp) (F : FrR X f L env θ s.heap) (S : X.S θ as s)
    (c : ∀ av as' θ' s' v, Q av as' → X.S θ' as' s' → Ext X.H θ s.heap θ' s'.heap → VR θ' av v → post v s') : wpAny X.M A (eval e env) post E s :=
  h A θ s L env post E R (re_F F) (re_S S) fun av as' θ' s' v q S' => c av as' θ' s' v q (re_back S F.apart S')
end
structure LamOK (X : Cx) (q : Addr) (d : FD) (body : Expr) (cells : List (Str × Nat)) : Prop where
  ex : ∃ o fd, X.h₀.get? q = some o ∧ o.data = .func fd ∧ X.h₀.CodeRec fd.code fd.qualname ∧ fd.body = .expr body ∧ fd.scope = d.scope ∧ fd.globals = 3 ∧ fd.builtins = 0 ∧ fd.code = d.code ∧ fd.qualname ++ ".<locals>." = d.qual ∧
    (∀ vals : List Value, vals.length = d.names.length → bindArgs fd ⟨vals, []⟩ = pure (d.names.zip vals)) ∧ (∀ x i, lk cells x = some i → ∃ a, X.T.pin[i]? = some a ∧ fd.closure.lookup x = some a)
  cell : ∀ x ∈ d.scope.names, x.2 ≠ .cell
  loc : ∀ x ∈ d.names, d.scope.names.lookup x = some .local
  co : d.scope.isCoroutine = false
  gen : d.scope.isGenerator = false
  kind : d.scope.kind = .function
section
variable {X : Cx} {dp : Nat} {f : Fm} {as : List AO}
theorem cl_lam {fa : Addr} {d : FD} {body : Expr} {cells : List (Str × Nat)} {vs : List AV} {Q : PV} (O : LamOK X fa d body cells) (lim : X.h₀.NoLimit) (hl : vs.length = d.names.length)
    (h : EvS X dp ⟨d.scope, (d.names.zip vs).reverse, cells, d.code, d.qual⟩ body as Q) : ClS X (dp + 1) (.ref fa) vs as Q := by
  intro A θ s us post E R S V c
  refine El_eeaaaaaaaaaa O.ex fun o fd ho hd hc hb hs hg hbl hcd hql hbind hclo => ?_
  have hroom : A.depth < recursionLimit := by have := R.1; lia
  refine kla_callFunE hroom (S.base _ _ ho) hd (by rw [hs]; exact O.co) (by rw [hs]; exact O.gen) hb (Heap.CodeRec.keeps hc S.base) ?_
  rw [hbind us (by rw [V.len, hl])]
  refine wpAny_pure (wpAny_newFunctionEnv (by rw [hs]; exact O.cell) (fun x hx => by rw [hs]; exact O.loc _ (List.of_mem_zip hx).1) (fun h₁ hn hsb => ⟨(lim.keeps S.base).fresh _ hsb, kla_codeExpr ?_⟩) (by rw [hs]; exact O.kind))
  have hk : ∀ b o, s.heap.get? b = some o → h₁.get? b = some o := fun b o e => hsb.extBut b o (Nat.ne_of_lt (Heap.lt_size e)) (Heap.get?_push_of_some _ e)
  have S₁ : X.S θ as { s with heap := h₁, toks := s.toks + (d.names.zip us).length } := S.keeps hk
  refine h (A.deeper _) θ _ s.heap.objs.size _ _ _ ⟨?_, ?_, R.2.2⟩ ⟨hs, O.kind, rfl, fun m => Nat.lt_irrefl _ (S.lt m), S.fresh, S.freshH, ⟨_, hn, fun x av e => ((LRs.zip V d.names).rev).look x av e⟩, fun x i e => ?_, hg, hbl, hcd, hql⟩ S₁ fun av as' θ' s' v q S' X' V' => ?_
  · have := R.1; show A.depth + 1 + dp < _; lia
  · have := R.2.1; show A.units + 3 + 4 * dp + 40 < _; lia
  · refine El_ea (hclo x i e) fun a h1 h2 => ?_; exact ⟨a, get_pre S.pin h1, h2⟩
  · have X'' : Ext X.H θ s.heap θ' s'.heap := ⟨X'.pre, fun a m n => ⟨(by
        cases r : s.heap.get? a with
        | none => rfl
        | some o => have := (X'.fresh a m n).1; rw [hk a o r] at this; cases this), (X'.fresh a m n).2⟩,
      fun b o e n nh => X'.keep b o (hk b o e) n nh, fun b o e => X'.ex b o (hk b o e), tab_trans (fun b o e => ⟨o, hk b o e⟩) (S.tabKeep hk) X'.tab⟩
    exact c _ _ θ' s' _ q S' X'' V'
end
noncomputable def cellNs : List (Str × NameKind) → List Str
  | [] => []
  | (x, k) :: r => match k == .cell with | true => x :: cellNs r | false => cellNs r
theorem cells_names : ∀ (names : List (Str × NameKind)) (n : Nat) (acc : List (Str × Addr)), (cellsFrom n names acc).map (·.1) = (cellNs names).reverse ++ acc.map (·.1)
  | [], _, _ => rfl
  | (x, k) :: r, n, acc => by
    unfold cellsFrom cellNs
    cases h : k == NameKind.cell with
    | true => simp only [if_true]; rw [cells_names r]; simp
    | false => simp only [Bool.false_eq_true, if_false]; rw [cells_names r]
noncomputable def isLocK (sc : Scope) (x : Str) : Bool := match lk sc.names x with
  | some .local => true
  | _ => false
noncomputable def locA (sc : Scope) : List (Str × AV) → Loc → Loc
  | [], l => l
  | (n, v) :: r, l => locA sc r (match isLocK sc n with | true => pt l n v | false => l)
noncomputable def celA (sc : Scope) : List (Str × AV) → Loc → Loc
  | [], l => l
  | (n, v) :: r, l => celA sc r (match isLocK sc n with | true => l | false => pt l n v)
noncomputable def RelL (θ : List Addr) (l : Loc) (m : Str → Option Value) : Prop := ∀ x av, lk l x = some av → ∃ v, m x = some v ∧ VR θ av v
noncomputable def RelC (θ : List Addr) (l : Loc) (m : Str → Option Value) : Prop := ∀ x, CR θ (lk l x) (m x)
theorem RelL.put {θ : List Addr} {l : Loc} {m : Str → Option Value} (h : RelL θ l m) (n : Str) {a : AV} {v : Value} (r : VR θ a v) : RelL θ (pt l n a) fun y => if y = n then some v else m y := fun x av e => by
  rw [lk_pt] at e
  by_cases q : x = n
  · subst q; simp at e; subst e; exact ⟨v, by simp, r⟩
  · simp only [q, if_false] at e ⊢; exact h x av e
theorem RelC.put {θ : List Addr} {l : Loc} {m : Str → Option Value} (h : RelC θ l m) (n : Str) {a : AV} {v : Value} (r : VR θ a v) : RelC θ (pt l n a) fun y => if y = n then some v else m y := fun x => by
  rw [lk_pt]
  by_cases q : x = n
  · subst q; simp only [if_true]; exact ⟨v, rfl, r⟩
  · simp only [q, if_false]; exact h x
theorem isLocK_iff {sc : Scope} {x : Str} : isLocK sc x = true ↔ sc.names.lookup x = some .local := by
  unfold isLocK
  rw [lk_lookup]
  split
  · rename_i h; simp [h]
  · rename_i h; simp; exact h
theorem locA_rel {θ : List Addr} {sc : Scope} {kf : Str → Option NameKind} (hk : ∀ x, kf x = sc.names.lookup x) {ab : List (Str × AV)} {b : List (Str × Value)} (h : LRs θ ab b) : ∀ {l : Loc} {m : Str → Option Value}, RelL θ l m → RelL θ (locA sc ab l) (bindL kf b m) := by
  induction h with
  | nil => intro l m r; exact r
  | @cons n a v l' m' q _ ih =>
    intro l m r
    unfold locA bindL
    refine ih ?_
    cases e : isLocK sc n with
    | true => rw [if_pos (by rw [hk]; exact isLocK_iff.mp e)]; exact r.put n q
    | false => rw [if_neg (by rw [hk]; intro q; rw [isLocK_iff.mpr q] at e; cases e)]; exact r
theorem celA_rel {θ : List Addr} {sc : Scope} {kf : Str → Option NameKind} (hk : ∀ x, kf x = sc.names.lookup x) {ab : List (Str × AV)} {b : List (Str × Value)} (h : LRs θ ab b) : ∀ {l : Loc} {m : Str → Option Value}, RelC θ l m → RelC θ (celA sc ab l) (bindC kf b m) := by
  induction h with
  | nil => intro l m r; exact r
  | @cons n a v l' m' q _ ih =>
    intro l m r
    unfold celA bindC
    refine ih ?_
    cases e : isLocK sc n with
    | true => rw [if_pos (by rw [hk]; exact isLocK_iff.mp e)]; exact r
    | false => rw [if_neg (by rw [hk]; intro q; rw [isLocK_iff.mpr q] at e; cases e)]; exact r.put n q
noncomputable def idxs : List Str → Nat → List (Str × Nat)
  | [], _ => []
  | x :: r, n => (x, n) :: idxs r (n + 1)
theorem idxs_look : ∀ (cl : List (Str × Addr)) (θ : List Addr) (x : Str) (i : Nat), lk (idxs (cl.map (·.1)) θ.length) x = some i → ∃ a, (θ ++ cl.map (·.2))[i]? = some a ∧ cl.lookup x = some a
  | [], _, _, _, e => by cases e
  | (y, c) :: r, θ, x, i, e => by
    unfold List.map idxs lk at e
    rw [List.lookup_cons]
    cases q : seq y x with
    | true =>
      rw [q] at e; cases e
      have := seq_iff.mp q; subst this
      exact ⟨c, by simp, by simp⟩
    | false =>
      rw [q] at e
      have hn : (x == y) = false := by
        cases h : x == y with
        | false => rfl
        | true => have := eq_of_beq h; subst this; rw [seq_iff.mpr rfl] at q; cases q
      rw [hn]
      have ih := idxs_look r (θ ++ [c]) x i (by rw [List.length_append]; exact e)
      simpa using ih
theorem lookup_mem : ∀ {cl : List (Str × Addr)} {n : Str} {c : Addr}, (cl.map (·.1)).Nodup → (n, c) ∈ cl → cl.lookup n = some c
  | (y, d) :: r, n, c, hn, hm => by
    rw [List.lookup_cons]
    rcases List.mem_cons.mp hm with e | hm
    · cases e; simp
    · have h := List.nodup_cons.mp hn
      have : n ≠ y := fun q => h.1 (q ▸ List.mem_map_of_mem (f := (·.1)) hm)
      rw [beq_false_of_ne this]; exact lookup_mem h.2 hm
structure FnOKC (h₀ : Heap) (fa : Addr) (d : FD) : Prop where
  ex : ∃ o fd, h₀.get? fa = some o ∧ o.data = .func fd ∧ h₀.CodeRec fd.code fd.qualname ∧ fd.body = .stmts d.body ∧ fd.scope = d.scope ∧ fd.globals = 3 ∧ fd.builtins = 0 ∧ fd.code = d.code ∧ fd.qualname ++ ".<locals>." = d.qual ∧ fd.closure = [] ∧
    (∀ vals : List Value, vals.length = d.names.length → bindArgs fd ⟨vals, []⟩ = pure (d.names.zip vals))
  nd : (cellNs d.scope.names).Nodup
  loc : ∀ x ∈ d.names, d.scope.names.lookup x = some .local ∨ (d.scope.names.lookup x = some .cell ∧ x ∈ cellNs d.scope.names)
  co : d.scope.isCoroutine = false
  gen : d.scope.isGenerator = false
  kind : d.scope.kind = .function
theorem lookup_isSome : ∀ {cl : List (Str × Addr)} {x : Str}, x ∈ cl.map (·.1) → (cl.lookup x).isSome = true
  | (y, d) :: r, x, h => by
    rw [List.lookup_cons]
    cases q : x == y with
    | true => rfl
    | false =>
      rcases List.mem_cons.mp h with e | h
      · subst e; simp at q
      · exact lookup_isSome h
noncomputable def cellFm (d : FD) (vs : List AV) (n : Nat) : Fm := ⟨d.scope, locA d.scope (d.names.zip vs) [], idxs (cellNs d.scope.names).reverse n, d.code, d.qual⟩
noncomputable def cellAs (d : FD) (vs : List AV) : List AO := (cellNs d.scope.names).reverse.map fun x => .cell (lk (celA d.scope (d.names.zip vs) []) x)
theorem St.cells {T : Hid} {h₀ : Heap} {g₀ : Array GenState} {os₀ : OsState} {θ : List Addr} {as : List AO} {s : Shared} (S : St T h₀ g₀ os₀ θ as s) {h' : Heap} {k : Nat} (hk : ∀ b o, s.heap.get? b = some o → h'.get? b = some o) {cl : List (Str × Addr)}
    (hc : ∀ p ∈ cl, s.heap.objs.size < p.2) (hp : cl.Pairwise fun x y => x.2 ≠ y.2) {av : Str → Option AV} (ho : ∀ p ∈ cl, ∃ u, h'.IsCell p.2 u ∧ CR θ (av p.1) u) :
    St T h₀ g₀ os₀ (θ ++ cl.map (·.2)) (as ++ cl.map fun p => .cell (av p.1)) { s with heap := h', toks := k } ∧ Ext (hidOf T) θ s.heap (θ ++ cl.map (·.2)) h' := by
  have S₁ : St T h₀ g₀ os₀ θ as { s with heap := h', toks := k } := S.keeps hk
  have big : ∀ a ∈ cl.map (·.2), s.heap.objs.size < a := fun a m => by obtain ⟨p, hp, rfl⟩ := List.mem_map.mp m; exact hc p hp
  have nn : ∀ a ∈ cl.map (·.2), s.heap.get? a = none := fun a m => by
    cases q : s.heap.get? a with
    | none => rfl
    | some o => exact absurd (Heap.lt_size q) (Nat.not_lt.mpr (Nat.le_of_lt (big a m)))
  have nH : ∀ a ∈ cl.map (·.2), a ∉ hidOf T := fun a m q => by
    obtain ⟨e, he, rfl⟩ := List.mem_map.mp q
    obtain ⟨ps, x⟩ := (S.tabs e he).is
    rw [nn _ m] at x; cases x
  refine ⟨⟨⟨?_, ?_, ?_⟩, S₁.base, ?_, S.gens, S.os, fun e he => ?_, fun e he m => ?_, S.hbase, S.pin.trans ⟨_, rfl⟩⟩, ⟨⟨_, rfl⟩, ?_, fun b o e _ _ => hk b o e, fun b o e => ⟨o, hk b o e⟩, S.tabKeep hk⟩⟩
  · simp [S.ar.len]
  · refine List.nodup_append.mpr ⟨S.ar.nodup, ?_, fun a ha b hb e => ?_⟩
    · exact List.pairwise_map.mpr hp
    · subst e; exact absurd (S.lt ha) (Nat.not_lt.mpr (Nat.le_of_lt (big a hb)))
  · intro i o a e1 e2
    by_cases q : i < as.length
    · rw [List.getElem?_append_left q] at e1
      rw [List.getElem?_append_left (by rw [← S.ar.len]; exact q)] at e2
      refine El_ea (S₁.ar.objs i o a e1 e2) fun ob x y => ?_
      exact ⟨ob, x, y.mono ⟨_, rfl⟩⟩
    · have q := Nat.le_of_not_lt q
      rw [List.getElem?_append_right q, List.getElem?_map] at e1
      rw [List.getElem?_append_right (by rw [← S.ar.len]; exact q), ← S.ar.len, List.getElem?_map] at e2
      refine El_ea (Option.map_eq_some_iff.mp e1) fun p hp hr2 => ?_; obtain rfl := hr2
      rw [hp] at e2; cases e2
      obtain ⟨u, ⟨ob, g1, g2⟩, g3⟩ := ho p (List.mem_of_getElem? hp)
      exact ⟨ob, g1, u, g2, g3.mono ⟨_, rfl⟩⟩
  · intro a ha
    rcases List.mem_append.mp ha with m | m
    · exact S.apart a m
    · cases q : h₀.get? a with
      | none => rfl
      | some o => have := S.base _ _ q; rw [nn a m] at this; cases this
  · refine (S.tabs e he).to (fun _ x => hk _ _ x) (fun _ _ _ x _ _ _ => hk _ _ x) fun c o x n m => ?_
    rcases List.mem_append.mp m with m | m
    · exact n m
    · rw [nn c m] at x; cases x
  · rcases List.mem_append.mp m with m | m
    · exact S.hnin e he m
    · exact nH _ m (List.mem_map_of_mem he)
  · intro a ha na
    rcases List.mem_append.mp ha with m | m
    · exact absurd m na
    · exact ⟨nn a m, nH a m⟩
section
variable {X : Cx} {dp : Nat} {f : Fm} {as : List AO}
theorem cl_defC {fa : Addr} {d : FD} {vs : List AV} {Q : PV} (O : FnOKC X.h₀ fa d) (lim : X.h₀.NoLimit) (hl : vs.length = d.names.length)
    (h : ExsS X dp (cellFm d vs as.length) d.body (as ++ cellAs d vs) fun fl _ as' => match fl with | .ret v => Q v as' | .next => Q .none as' | _ => False) : ClS X (dp + 1) (.ref fa) vs as Q := by
  intro A θ s us post E R S V c
  refine El_eeaaaaaaaaaa O.ex fun o fd ho hd hc hb hs hg hbl hcd hql hclo hbind => ?_
  have hroom : A.depth < recursionLimit := by have := R.1; lia
  have hnm : ∀ n, (cellsFrom n fd.scope.names []).map (·.1) = (cellNs d.scope.names).reverse := fun n => by rw [hs, cells_names]; simp
  refine codeAny_call_cells hroom (S.base _ _ ho) hd (lim.keeps S.base) (Heap.CodeRec.keeps hc S.base) hb (hbind us (by rw [V.len, hl])) hclo (fun x hx => ?_) (fun s₁ I => ?_) (by rw [hs]; exact O.co) (by rw [hs]; exact O.gen) (by rw [hs]; exact O.kind)
  · rw [hs]
    refine (O.loc _ (List.of_mem_zip hx).1).imp id fun q => ⟨q.1, lookup_isSome ?_⟩
    rw [cells_names]; simpa using q.2
  · have LR := LRs.zip V d.names
    have kf : ∀ x, (callEnvC fd s.heap.objs.size fa).kindOf x = d.scope.names.lookup x := fun x => by rw [← hs]; rfl
    refine El_ee I.toInCall.same fun h₁ tk e₁ => ?_
    subst e₁
    have hcl : (callEnvC fd s.heap.objs.size fa).cells = cellsFrom (s.heap.objs.size + 1) fd.scope.names [] := rfl
    have nd : ((cellsFrom (s.heap.objs.size + 1) fd.scope.names []).map (·.1)).Nodup := by rw [hnm]; exact List.pairwise_reverse.mpr (O.nd.imp fun h => h.symm)
    obtain ⟨S₁, X₁⟩ := S.cells (h' := h₁) (k := tk) I.toInCall.keep (cl := cellsFrom (s.heap.objs.size + 1) fd.scope.names []) (av := fun x => lk (celA d.scope (d.names.zip vs) []) x) (fun p hp => I.above p.1 p.2 hp) I.apart fun p hp =>
      ⟨_, I.cell p.1 p.2 (lookup_mem nd hp), celA_rel kf LR (l := []) (m := fun _ => none) (fun x => rfl) p.1⟩
    have eas : (cellsFrom (s.heap.objs.size + 1) fd.scope.names []).map (fun p => AO.cell (lk (celA d.scope (d.names.zip vs) []) p.1)) = cellAs d vs := by
      unfold cellAs; rw [← hnm (s.heap.objs.size + 1), List.map_map]; rfl
    rw [eas] at S₁
    have nL : s.heap.objs.size ∉ θ ++ (cellsFrom (s.heap.objs.size + 1) fd.scope.names []).map (·.2) := fun m => by
      rcases List.mem_append.mp m with m | m
      · exact Nat.lt_irrefl _ (S.lt m)
      · obtain ⟨p, hp, e⟩ := List.mem_map.mp m
        have := I.above p.1 p.2 hp
        exact absurd e (Nat.ne_of_gt this)
    refine h (A.deeper _) _ _ s.heap.objs.size _ _ _ ⟨?_, ?_, R.2.2⟩ ⟨hs, O.kind, rfl, nL, S.fresh, S.freshH, ⟨_, I.toInCall.ns, fun x av e => ?_⟩, fun x i e => ?_, hg, hbl, hcd, hql⟩ S₁ fun fl loc' as' θ' s' g q S' X' F' G => ?_
    · have := R.1; show A.depth + 1 + dp < _; lia
    · have := R.2.1; show A.units + 3 + 4 * dp + 40 < _; lia
    · refine El_ea (locA_rel kf LR (l := []) (m := fun _ => none) (fun x av e => by cases e) x av e) fun v a b => ?_
      exact ⟨v, a, b.mono X₁.pre⟩
    · have e : lk (idxs (cellNs d.scope.names).reverse as.length) x = some i := e
      rw [← hnm (s.heap.objs.size + 1), S.ar.len] at e
      exact idxs_look _ θ x i e
    · have X'' : Ext X.H θ s.heap θ' s'.heap := by
        refine ⟨X₁.pre.trans X'.pre, fun a m n => ?_, fun b o e n nh => ?_, fun b o e => (let ⟨o', e'⟩ := X₁.ex b o e; X'.ex b o' e'), tab_trans X₁.ex X₁.tab X'.tab⟩
        · by_cases q : a ∈ θ ++ (cellsFrom (s.heap.objs.size + 1) fd.scope.names []).map (·.2)
          · exact X₁.fresh a q n
          · refine ⟨?_, (X'.fresh a m q).2⟩
            cases r : s.heap.get? a with
            | none => rfl
            | some o => have := (X'.fresh a m q).1; rw [I.toInCall.keep a o r] at this; cases this
        · have nb : b ∉ θ ++ (cellsFrom (s.heap.objs.size + 1) fd.scope.names []).map (·.2) := fun m => by
            have := (X₁.fresh b m n).1; rw [e] at this; cases this
          exact X'.keep b o (I.toInCall.keep b o e) nb nh fun q => by rw [q, size_none] at e; cases e
      cases fl with
      | next => cases G; exact c _ _ θ' s' _ q S' X'' rfl
      | brk => exact q.elim
      | cont => exact q.elim
      | ret v => obtain ⟨u, rfl, hu⟩ := G; exact c _ _ θ' s' _ q S' X'' hu
end
end Mine

end
section
open PySem PySem.W PyProof.Rows
namespace Mine
noncomputable def clo (cl : List (Str × Addr)) : List (Str × NameKind) → List (Str × Addr) → Option (List (Str × Addr))
  | [], acc => some acc
  | (n, k) :: r, acc => match k == .free with
    | true => (match cl.lookup n with | some a => clo cl r ((n, a) :: acc) | none => none)
    | false => clo cl r acc
theorem closure_eq {env : Env} {scope : Scope} {cs : List (Str × Addr)} (h : clo env.cells scope.names [] = some cs) : closureFor scope env = pure cs := by
  unfold closureFor
  have gen : ∀ (names : List (Str × NameKind)) (acc : List (Str × Addr)), clo env.cells names acc = some cs →
      (forIn names acc (fun (x : Str × NameKind) (cs : List (Str × Addr)) => (do
        if x.2 == .free then
          let c ← cellOf env x.1
          pure (.yield ((x.1, c) :: cs))
        else pure (.yield cs) : Sem (ForInStep (List (Str × Addr)))))) = (pure cs : Sem _) := by
    intro names
    induction names with
    | nil => intro acc h; cases h; rfl
    | cons x r ih =>
      intro acc h
      obtain ⟨n, k⟩ := x
      unfold clo at h
      rw [List.forIn_cons]
      cases hk : k == NameKind.free with
      | true =>
        rw [hk] at h
        simp only at h
        cases hl : env.cells.lookup n with
        | none => rw [hl] at h; cases h
        | some a =>
          rw [hl] at h
          simp only [hk, if_true, cellOf, hl]
          exact ih _ h
      | false =>
        rw [hk] at h
        simp only [hk]
        exact ih _ h
  exact (congrArg (· >>= fun r => pure r) (gen scope.names [] h)).trans rfl
section
variable {X : Cx} {dp : Nat} {f : Fm} {as : List AO}
theorem none_ge {h : Heap} {c : Addr} (g : h.objs.size ≤ c) : h.get? c = none := by
  cases q : h.get? c with
  | none => rfl
  | some o => exact absurd (Heap.lt_size q) (Nat.not_lt.mpr g)
theorem St.extBut {T : Hid} {h₀ : Heap} {g₀ : Array GenState} {os₀ : OsState} {θ : List Addr} {as : List AO} {s : Shared} (S : St T h₀ g₀ os₀ θ as s) {h' : Heap} {k : Nat} {e : TabE} (he : e ∈ T.tabs) (hu : ∀ e' ∈ T.tabs, e'.P = e.P → e' = e)
    (hk : ∀ b o, b ≠ e.P → s.heap.get? b = some o → h'.get? b = some o) (htn : h'.get? e.P = s.heap.get? e.P ∨ ∃ l k c, h'.get? e.P = some (tabObj #[l, k, .ref c]) ∧ s.heap.get? c = none) (ht : TabAt (hidOf T) e θ h') : St T h₀ g₀ os₀ θ as { s with heap := h', toks := k } ∧ Ext (hidOf T) θ s.heap θ h' := by
  have nP : ∀ a ∈ θ, a ≠ e.P := fun a m q => S.hnin e he (q ▸ m)
  refine ⟨⟨⟨S.ar.len, S.ar.nodup, fun i o a e1 e2 => let ⟨ob, x, y⟩ := S.ar.objs i o a e1 e2; ⟨ob, hk _ _ (nP a (List.mem_of_getElem? e2)) x, y⟩⟩, fun b o q => hk _ _ (fun r => ?_) (S.base b o q), S.apart, S.gens, S.os, fun e' he' => ?_, S.hnin, S.hbase, S.pin⟩,
    ⟨List.prefix_refl θ, fun _ x y => absurd x y, fun b o q _ nh => hk _ _ (fun r => nh (r ▸ List.mem_map_of_mem he)) q, fun b o q => (if r : b = e.P then (let ⟨ps, z⟩ := ht.is; ⟨_, r ▸ z⟩) else ⟨o, hk b o r q⟩), fun P m => by
      by_cases q : P = e.P
      · subst q; exact htn
      · refine El_ea (List.mem_map.mp m) fun e' he' hr2 => ?_; obtain rfl := hr2
        obtain ⟨ps, x⟩ := (S.tabs e' he').is
        exact .inl (by rw [x]; exact hk _ _ q x)⟩⟩
  · rw [r, S.hbase e he] at q; cases q
  · by_cases q : e'.P = e.P
    · rw [hu e' he' q]; exact ht
    · exact (S.tabs e' he').to (fun o x => hk _ _ q x) (fun c o vs x _ _ nh => hk _ _ (fun r => nh (r ▸ List.mem_map_of_mem he)) x) fun _ _ _ n => n
theorem lam_ok {A : Around} {θ : List Addr} {s : Shared} {L : Addr} {env : Env} {post : Value → Shared → Prop} {E : Value → Shared → Prop} {params : Arguments} {body : Expr} {scope : Scope} {pos : Pos} {e : TabE} {c : Addr} {mg : Str → Option Value} {clos : List (Str × Addr)}
    (F : FrR X f L env θ s.heap) (S : X.S θ as s) (hc : f.code = .ref c) (C : CodeHd X.h₀ c e.P) (he : e ∈ X.T.tabs) (hu : ∀ e' ∈ X.T.tabs, e'.P = e.P → e' = e) (hpos : e.pos = pos) (hq : e.qual = f.qual ++ "<lambda>")
    (hg : X.h₀.Ns 3 mg) (hb : X.h₀.BuiltinsAt mg e.P) (hdef : defaultsOf params env = ([], [])) (hcl : clo env.cells scope.names [] = some clos)
    (k : ∀ q c' pm ctv s', X.S θ as s' → Ext X.H θ s.heap θ s'.heap → s'.heap.get? q = some (kla_obj "<lambda>" e.qual params body scope clos pm c' ctv) → s'.heap.CodeRec (.ref c') e.qual → (c' ≠ L ∧ c' ∉ θ ∧ c' ∉ X.H) → (q ≠ L ∧ q ∉ θ ∧ q ∉ X.H) → post (.ref q) s') :
    wpAny X.M A (eval (.Lambda params body scope pos) env) post E s := by
  have hcode : env.code = .ref c := F.code.trans hc
  have hqe : env.qual ++ "<lambda>" = e.qual := by rw [F.qual, hq]
  have hgs : s.heap.Ns 3 mg := hg.keeps S.base
  refine El_eeaaaaaaa hb fun bm ob b1 b2 b3 b4 b5 b6 b7 b8 => ?_; try clear hb
  have hbs : s.heap.BuiltinsAt mg e.P := ⟨bm, ob, b1, b2, b3, b4, S.base _ _ b5, b6, b7, b8⟩
  have hgP : (3 : Addr) ≠ e.P := fun q => by
    obtain ⟨o, es, ep, e1, _⟩ := hg
    rw [q, S.hbase e he] at e1; cases e1
  have Cs := C.keeps S.base
  have Hlt : ∀ a ∈ X.H, a < s.heap.objs.size := fun a m => by
    obtain ⟨t, ht, rfl⟩ := List.mem_map.mp m
    obtain ⟨ps, x⟩ := (S.tabs t ht).is
    exact Heap.lt_size x
  obtain ⟨oL, hoL⟩ := F.there
  have big : ∀ a, s.heap.objs.size ≤ a → a ≠ L ∧ a ∉ θ ∧ a ∉ X.H := fun a ha =>
    ⟨fun q => absurd (Heap.lt_size hoL) (Nat.not_lt.mpr (q ▸ ha)), fun m => absurd (S.lt m) (Nat.not_lt.mpr ha), fun m => absurd (Hlt a m) (Nat.not_lt.mpr ha)⟩
  refine kla_eval hdef ?_
  rw [hqe]
  rcases S.tabs e he with t | ⟨c', t1, t2, t3, t4⟩
  · refine kla_makeFunction (closure_eq hcl) F.glob hgs hcode Cs t trivial rfl hgP hbs fun c' ctv h' tk hx hge hlt hrec htb => ?_
    have gb := big c' hge
    have P := S.extBut (k := tk) he hu (h' := h'.push (kla_obj "<lambda>" e.qual params body scope clos ((mg "__name__").getD .none) c' ctv)) (fun b o n q => Heap.get?_push_of_some _ (hx b o n q)) (.inr ⟨_, _, c', Heap.get?_push_of_some _ (by rw [htb]; rfl), none_ge hge⟩)
      (.inr ⟨c', Heap.get?_push_of_some _ (by rw [htb, hpos]; rfl), Heap.CodeRec.push hrec _, gb.2.1, gb.2.2⟩)
    exact k _ c' _ ctv _ P.1 P.2 (Heap.get?_push_size _ rfl) (Heap.CodeRec.push hrec _) gb (big _ (Nat.le_trans hge (Nat.le_of_lt hlt)))
  · have hf : codeAmong pos #[rawInt e.pos.line, rawInt e.pos.col, Value.ref c'].toList = some (.ref c') := by
      rw [hpos]; show codeAmong pos [.int _ 0, .int _ 0, .ref c'] = _; unfold codeAmong; simp
    refine kla_makeFunctionHit (closure_eq hcl) F.glob hgs hcode Cs t1 trivial hf hbs fun ctv h' tk hk hsz => ?_
    have hk' := fun b o (q : s.heap.get? b = some o) => Heap.get?_push_of_some (kla_obj "<lambda>" e.qual params body scope clos ((mg "__name__").getD .none) c' ctv) (hk b o q)
    have P := S.extBut (k := tk) he hu (h' := h'.push (kla_obj "<lambda>" e.qual params body scope clos ((mg "__name__").getD .none) c' ctv)) (fun b o n q => hk' b o q) (.inl (by rw [t1]; exact hk' _ _ t1))
      (.inr ⟨c', hk' _ _ t1, Heap.CodeRec.keeps t2 hk', t3, t4⟩)
    refine k _ c' _ ctv _ P.1 P.2 (Heap.get?_push_size _ rfl) (Heap.CodeRec.keeps t2 hk') ⟨fun q => ?_, t3, t4⟩ (big _ hsz)
    obtain ⟨c'', o, vs, t, e1, e2, e3, _⟩ := t2
    cases e1
    obtain ⟨m, ⟨oL', es, ep, ho', hd', _⟩, _⟩ := F.ns
    rw [q, ho'] at e2; cases e2; rw [hd'] at e3; cases e3
theorem ev_callF {x : Str} {p pos : Pos} {args : List Expr} {Q : PV} (hs : noStar args = true)
    (h : EvS X dp f (.Name x p) as fun o as₁ => ∃ fa, o = .addr fa ∧ EvsS X dp f args as₁ fun vs as₂ => FnAt X.h₀ fa ∧ ClS X dp (.ref fa) vs as₂ Q) : EvS X dp f (.Call (.Name x p) args [] pos) as Q := by
  intro A θ s L env post E R F S c
  refine wpAny_Call_Name_kw (h A θ s L env _ E R F S fun o as₁ θ₁ s₁ ov q S₁ X₁ V₁ => ?_)
  obtain ⟨fa, rfl, q⟩ := q
  cases V₁
  exact call_fn hs R (F.ext X₁) S₁ .nil q fun av as' θ' s' v q' S' X' V' => c av as' θ' s' v q' S' (X₁.trans X') V'
end
theorem FnOK.keeps {h h' : Heap} {fa : Addr} {d : FD} (O : FnOK h fa d) (k : ∀ b o, h.get? b = some o → h'.get? b = some o) : FnOK h' fa d :=
  ⟨let ⟨o, fd, a, b, c, r⟩ := O.ex; ⟨o, fd, k _ _ a, b, Heap.CodeRec.keeps c k, r⟩, O.cell, O.loc, O.co, O.gen, O.kind⟩
theorem ClsOK.keeps {D : Cls} {K : Frag} {h h' : Heap} (O : ClsOK D K h) (k : ∀ b o, h.get? b = some o → h'.get? b = some o) : ClsOK D K h' :=
  ⟨O.X.keeps k, O.cf, O.lim.keeps k, O.inst, O.int, O.fn, O.tab, fun a xs e => let ⟨vs, l, r⟩ := O.tabs a xs e; ⟨vs, isList_keeps l k, r⟩⟩
end Mine

end
section
open PySem PySem.W PyProof.Rows
namespace Mine
noncomputable section
noncomputable def fdOf (j a : Nat) : Option Stmt → Option FD
  | some (.FunctionDef _ args body _ _ _ scope _ _ _) => some ⟨args.args.map (·.arg), body, scope, .ref (a - 1), fQual j ++ ".<locals>."⟩
  | _ => none
noncomputable def fnAt : List (Str × Nat × Nat) → Addr → Option Nat
  | [], _ => none
  | (_, j, a) :: r, b => match Nat.beq a b with | true => some j | false => fnAt r b
noncomputable def hasN : List Str → Str → Bool
  | [], _ => false
  | y :: r, x => match seq y x with | true => true | false => hasN r x
noncomputable def attNames : List Str := [⟨⟨[110, 97, 109, 101]⟩⟩, ⟨⟨[98, 121, 116, 101, 77, 97, 115, 107]⟩⟩, ⟨⟨[97, 100, 100, 114, 77, 97, 115, 107]⟩⟩, ⟨⟨[97, 100, 100, 114, 72, 105, 103, 104, 77, 97, 115, 107]⟩⟩, ⟨⟨[115, 112, 66, 97, 115, 101]⟩⟩, ⟨⟨[101, 120, 99, 121, 99, 108, 101, 115]⟩⟩, ⟨⟨[97, 100, 100, 99, 121, 99, 108, 101, 115]⟩⟩, ⟨⟨[112, 114, 111, 99, 101, 115, 115, 111, 114, 67, 121, 99, 108, 101, 115]⟩⟩, ⟨⟨[109, 101, 109, 111, 114, 121]⟩⟩, ⟨⟨[115, 116, 97, 114, 116, 95, 112, 99]⟩⟩, ⟨⟨[112, 99]⟩⟩, ⟨⟨[115, 112]⟩⟩, ⟨⟨[97]⟩⟩, ⟨⟨[120]⟩⟩, ⟨⟨[121]⟩⟩, ⟨⟨[112]⟩⟩]
noncomputable def mAttr (x : Str) : CA := match lk cstNames x with
  | some i => .int i
  | none => match lk methNames x with
    | some (_, a) => .fn a
    | none => match lk tabNames x with
      | some a => .tab a
      | none => match hasN attNames x with
        | true => .inst
        | false => .no
noncomputable def mTab (a : Addr) : Option (List AV) := match Nat.beq a 1423, Nat.beq a 1424, Nat.beq a 1425 with
  | true, _, _ => some (instrL.map .addr)
  | _, true, _ => some (cycL.map .int)
  | _, _, true => some (extL.map .int)
  | _, _, _ => none
noncomputable def mFn (a : Addr) : Option FD := match (Nat.beq a 85 || Nat.beq a 36), fnAt metNames a with
  | false, some j => fdOf j a clsB[j]?
  | _, _ => none
noncomputable def mD : Cls := ⟨1428, mAttr, mFn, mTab⟩
structure MS where
  a : Int
  x : Int
  y : Int
  p : Int
  pc : Int
  sp : Int
  ex : Int
  cyc : Int
  ad : AV
  st : AV
  mem : List Int
noncomputable def nS (s : List Nat) : Str := ⟨⟨s⟩⟩
noncomputable def esOf (m : MS) : List (Str × AV) :=
  [(nS [110, 97, 109, 101], .str (nS [54, 53, 48, 50])), (nS [98, 121, 116, 101, 77, 97, 115, 107], .int 255), (nS [97, 100, 100, 114, 77, 97, 115, 107], .int 65535),
   (nS [97, 100, 100, 114, 72, 105, 103, 104, 77, 97, 115, 107], .int 65280), (nS [115, 112, 66, 97, 115, 101], .int 256), (nS [101, 120, 99, 121, 99, 108, 101, 115], .int m.ex),
   (nS [97, 100, 100, 99, 121, 99, 108, 101, 115], m.ad), (nS [112, 114, 111, 99, 101, 115, 115, 111, 114, 67, 121, 99, 108, 101, 115], .int m.cyc), (nS [109, 101, 109, 111, 114, 121], .obj 2),
   (nS [115, 116, 97, 114, 116, 95, 112, 99], m.st), (nS [112, 99], .int m.pc), (nS [115, 112], .int m.sp), (nS [97], .int m.a), (nS [120], .int m.x), (nS [121], .int m.y), (nS [112], .int m.p)]
noncomputable def stA (m : MS) (j : List AO) : List AO := .inst 1428 1 :: .dict (esOf m) :: .ints m.mem :: j
noncomputable def rdW (xs : List Int) (k : Int) (K : Int → Prop) : Prop := (0 ≤ k ∧ k < xs.length ∧ k < 2 ^ 63) ∧ K (xs.getD k.toNat 0)
noncomputable def noP : Prims := fun _ => none
noncomputable def dW : FD := (fdOf 22 85 clsB[22]?).getD ⟨[], [], clsSc, .none, nS []⟩
structure WB where
  (w s1 s2 s3 a1 a2 ba1 ba2 w2 bw : Str)
  (la : Arguments)
  (lb : Expr)
  (ls : Scope)
  (lp pw pa p1 p2 p3 p4 p5 p6 p7 p8 p9 ap1 ap2 cp1 cp2 cp3 pr : Pos)
noncomputable def WB.ret (b : WB) : Expr := .BinOp (.Call (.Attribute (.Name b.s1 b.p1) b.ba1 b.ap1) [.Name b.a1 b.p2] [] b.cp1) .Add
  (.BinOp (.Call (.Attribute (.Name b.s2 b.p3) b.ba2 b.ap2) [.Call (.Name b.w2 b.p4) [.Name b.a2 b.p5] [] b.cp3] [] b.cp2) .LShift (.Attribute (.Name b.s3 b.p6) b.bw b.p7) b.p8) b.p9
noncomputable def WB.stmts (b : WB) : List Stmt := [.Assign [.Name b.w b.pw] (.Lambda b.la b.lb b.ls b.lp) b.pa, .Return (some b.ret) b.pr]
noncomputable def wbOf : List Stmt → WB
  | [.Assign [.Name w pw] (.Lambda la lb ls lp) pa, .Return (some (.BinOp (.Call (.Attribute (.Name s1 p1) ba1 ap1) [.Name a1 p2] [] cp1) .Add (.BinOp (.Call (.Attribute (.Name s2 p3) ba2 ap2) [.Call (.Name w2 p4) [.Name a2 p5] [] cp3] [] cp2) .LShift (.Attribute (.Name s3 p6) bw p7) p8) p9)) pr] =>
    ⟨w, s1, s2, s3, a1, a2, ba1, ba2, w2, bw, la, lb, ls, lp, pw, pa, p1, p2, p3, p4, p5, p6, p7, p8, p9, ap1, ap2, cp1, cp2, cp3, pr⟩
  | _ => ⟨nS [], nS [], nS [], nS [], nS [], nS [], nS [], nS [], nS [], nS [], ⟨[], [], none, [], [], none, []⟩, .Tuple [] 0 default, clsSc, default, default, default, default, default, default, default, default, default, default, default, default, default, default, default, default, default, default⟩
noncomputable def wb : WB := wbOf dW.body
theorem wb_eq : dW.body = wb.stmts := by kernel_rfl
noncomputable abbrev nSelf : Str := nS [115, 101, 108, 102]
noncomputable abbrev nAddr : Str := nS [97, 100, 100, 114]
noncomputable abbrev nWrap : Str := nS [119, 114, 97, 112]
noncomputable abbrev nByte : Str := nS [66, 121, 116, 101, 65, 116]
noncomputable abbrev nBw : Str := nS [66, 89, 84, 69, 95, 87, 73, 68, 84, 72]
theorem wb_names : (wb.w, wb.s1, wb.s2, wb.s3, wb.a1, wb.a2, wb.ba1, wb.ba2, wb.w2, wb.bw) = (nWrap, nSelf, nSelf, nSelf, nAddr, nAddr, nByte, nByte, nWrap, nBw) := by kernel_rfl
theorem wb_flags : ((wb.ap1.endLine == wb.cp1.line) && (wb.ap2.endLine == wb.cp2.line)) = true := by kernel_rfl
theorem wb_fm (i : Nat) (a : Int) (n : Nat) : cellFm dW [.obj i, .int a] n = ⟨dW.scope, [(nAddr, .int a)], [(nSelf, n)], .ref 84, dW.qual⟩ := by kernel_rfl
theorem wb_as (i : Nat) (a : Int) : cellAs dW [.obj i, .int a] = [.cell (some (.obj i))] := by kernel_rfl
theorem wb_store (a : Int) (n : Nat) (q : Addr) (as : List AO) (P : Loc → List AO → Prop) : storeW ⟨dW.scope, [(nAddr, .int a)], [(nSelf, n)], .ref 84, dW.qual⟩ nWrap (.addr q) as P = P [(nAddr, .int a), (nWrap, .addr q)] as := by kernel_rfl
noncomputable def wFm (a : Int) (n : Nat) (q : Addr) : Fm := ⟨dW.scope, [(nAddr, .int a), (nWrap, .addr q)], [(nSelf, n)], .ref 84, dW.qual⟩
theorem wb_kinds : (isKind .cell dW.scope nSelf, isKind .local dW.scope nAddr, isKind .local dW.scope nWrap) = (true, true, true) := by kernel_rfl
noncomputable def cellV (as : List AO) (n : Nat) (K : AV → Prop) : Prop := match as[n]? with
  | some (.cell (some v)) => K v
  | _ => False
noncomputable def objV (v : AV) (K : Nat → Prop) : Prop := match v with
  | .obj i => K i
  | _ => False
noncomputable def intV (v : AV) (K : Int → Prop) : Prop := match v with
  | .int i => K i
  | _ => False
noncomputable def dL (c : Addr) : FD := ⟨wb.la.args.map (·.arg), [], wb.ls, .ref c, dW.qual ++ "<lambda>" ++ ".<locals>."⟩
end
end Mine

end
section
open PySem PySem.W PyProof.Rows
namespace Mine
noncomputable section
theorem Room.le {A : Around} {m n : Nat} (h : Room A n) (k : m ≤ n) : Room A m := ⟨by have := h.1; lia, by have := h.2.1; lia, h.2.2⟩
theorem EvS.le {X : Cx} {m n : Nat} {f : Fm} {e : Expr} {as : List AO} {Q : PV} (h : EvS X m f e as Q) (k : m ≤ n) : EvS X n f e as Q := fun A θ s L env post E R F S c => h A θ s L env post E (R.le k) F S c
noncomputable def WB.c1 (b : WB) : Expr := .Call (.Attribute (.Name b.s1 b.p1) b.ba1 b.ap1) [.Name b.a1 b.p2] [] b.cp1
noncomputable def WB.at (b : WB) : Expr := .Attribute (.Name b.s3 b.p6) b.bw b.p7
noncomputable def lFm (a : Int) (n : Nat) (c : Addr) : Fm := ⟨(dL c).scope, ((dL c).names.zip [.int a]).reverse, [(nSelf, n)], (dL c).code, (dL c).qual⟩
noncomputable def methV (i : Nat) (as : List AO) (K : Addr → Prop) : Prop := match methA mD i nByte as with
  | some fa => K fa
  | none => False
noncomputable def wrapP : Prim := fun vs as Q => match vs with
  | [.obj i, .int a] => cellV (as ++ [.cell (some (.obj i))]) as.length fun o => objV o fun i => methV i (as ++ [.cell (some (.obj i))]) fun fa => clW mD noP 12 4 fa [.obj i, .int a] (as ++ [.cell (some (.obj i))]) fun v as₁ => intV v fun v =>
      cellV as₁ as.length fun o => objV o fun i => methV i as₁ fun fa => evW mD noP 9 3 (lFm a as.length 0) wb.lb as₁ fun r as₂ => clW mD noP 12 4 fa [.obj i, r] as₂ fun u as₃ => intV u fun u =>
        cellV as₃ as.length fun o => objV o fun i => attrW mD i nBw as₃ fun w as₄ => intV w fun w => binW .LShift u w fun k => Q (.int (v + k)) as₄
  | _ => False
theorem wq3 (a : Int) (n : Nat) (c : Addr) (as : List AO) (Q : PV) : evW mD noP 9 3 (lFm a n c) wb.lb as Q = evW mD noP 9 3 (lFm a n 0) wb.lb as Q := by kernel_rfl
structure WOK (X : Cx) : Prop where
  cls : ∃ K, ClsOK mD K X.h₀
  fns : ∀ fa d, mFn fa = some d → FnOK X.h₀ fa d
  fnW : FnOKC X.h₀ 85 dW
  code : CodeHd X.h₀ 84 80
  glob : ∃ mg, X.h₀.Ns 3 mg ∧ X.h₀.BuiltinsAt mg 80
  tab : (⟨80, wb.lp, dW.qual ++ "<lambda>"⟩ : TabE) ∈ X.T.tabs
  uniq : ∀ e ∈ X.T.tabs, e.P = 80 → e = ⟨80, wb.lp, dW.qual ++ "<lambda>"⟩
theorem intV_ok {v : AV} {K : Int → Prop} (h : intV v K) : ∃ i, v = .int i ∧ K i := by
  unfold intV at h; split at h
  · exact ⟨_, rfl, h⟩
  · cases h
theorem objV_ok {v : AV} {K : Nat → Prop} (h : objV v K) : ∃ i, v = .obj i ∧ K i := by
  unfold objV at h; split at h
  · exact ⟨_, rfl, h⟩
  · cases h
theorem cellV_ok {as : List AO} {n : Nat} {K : AV → Prop} (h : cellV as n K) : ∃ v, as[n]? = some (.cell (some v)) ∧ K v := by
  unfold cellV at h; split at h
  · rename_i v e; exact ⟨v, e, h⟩
  · cases h
theorem methV_ok {i : Nat} {as : List AO} {K : Addr → Prop} (h : methV i as K) : ∃ fa, methA mD i nByte as = some fa ∧ K fa := by
  unfold methV at h; split at h
  · rename_i v e; exact ⟨v, e, h⟩
  · cases h
theorem lam_facts : ((∀ env, defaultsOf wb.la env = ([], []))) ∧ (dL 0).names.length = 1 := ⟨fun env => by kernel_rfl, by kernel_rfl⟩
theorem lam_clo (cells : List (Str × Addr)) (a : Addr) (h : cells.lookup nSelf = some a) : clo cells wb.ls.names [] = some [(nSelf, a)] := by
  have : clo cells wb.ls.names [] = (match cells.lookup nSelf with | some a => some [(nSelf, a)] | none => none) := by kernel_rfl
  rw [this, h]
theorem lam_sc : (wb.ls.isCoroutine, wb.ls.isGenerator, wb.ls.kind, wb.ls.names.map (fun x => x.2 == .cell), ((dL 0).names.map fun x => wb.ls.names.lookup x)) = (false, false, .function, [false, false], [some .local]) := by kernel_rfl
theorem lam_bind (qual : Str) (clos : List (Str × Addr)) (pm ctv : Value) (c : Addr) (v : Value) : bindArgs (kla_fn "<lambda>" qual wb.la wb.lb wb.ls clos pm (.ref c) ctv) ⟨[v], []⟩ = pure ((dL c).names.zip [v]) := by kernel_rfl
theorem cls_re {X : Cx} {θ : List Addr} {as : List AO} {s : Shared} {L : Addr} (W : WOK X) (S : X.S θ as s) (hL : X.h₀.get? L = none) : ClassOK (X.re L θ s.heap) mD noP := by
  obtain ⟨K, hK⟩ := W.cls
  exact ⟨⟨K, hK.keeps (re_base S hL)⟩, fun fa d e => (W.fns fa d e).keeps (re_base S hL), fun fa t g e => by cases e⟩
theorem lam_cell {x : Str × NameKind} (h : x ∈ wb.ls.names) : x.2 ≠ .cell := by
  have e := congrArg (fun t => t.2.2.2.1) lam_sc
  have m : (x.2 == NameKind.cell) ∈ wb.ls.names.map (fun x => x.2 == .cell) := List.mem_map_of_mem (f := fun x : Str × NameKind => x.2 == .cell) h
  rw [show wb.ls.names.map (fun x => x.2 == .cell) = [false, false] from e] at m
  intro q
  rw [q] at m
  simp at m
theorem lam_loc {x : Str} (h : x ∈ (dL 0).names) : wb.ls.names.lookup x = some .local := by
  have e := congrArg (fun t => t.2.2.2.2) lam_sc
  have m : wb.ls.names.lookup x ∈ (dL 0).names.map (fun x => wb.ls.names.lookup x) := List.mem_map_of_mem (f := fun x => wb.ls.names.lookup x) h
  rw [show (dL 0).names.map (fun x => wb.ls.names.lookup x) = [some .local] from e] at m
  simpa using m
theorem wrap_ok {X : Cx} (W : WOK X) {vs : List AV} {as : List AO} {Q : PV} {dp : Nat} (hdp : 5 ≤ dp) (h : wrapP vs as Q) : ClS X dp (.ref 85) vs as Q := by
  unfold wrapP at h
  split at h
  case h_2 => cases h
  rename_i i a
  obtain ⟨dp, rfl⟩ : ∃ d, dp = d + 1 := ⟨dp - 1, by lia⟩
  have h4 : 4 ≤ dp := by lia
  obtain ⟨K, hK⟩ := W.cls
  refine cl_defC W.fnW hK.lim (by kernel_rfl) ?_
  rw [wb_fm, wb_as, wb_eq]
  intro A θ s L env post E R F S c
  obtain ⟨mg, hg, hb⟩ := W.glob
  obtain ⟨ca, hca, hlk⟩ := F.cells nSelf as.length (by kernel_rfl)
  refine wpAny_execs_cons (wpAny_Assign_Name (lam_ok (e := ⟨80, wb.lp, dW.qual ++ "<lambda>"⟩) F S rfl W.code W.tab W.uniq rfl rfl hg hb (lam_facts.1 env) (lam_clo _ _ hlk) fun q c' pm ctv s₁ S₁ X₁ hq hc' nc nq => ?_) rfl)
  have F₁ := F.ext X₁
  have nm := wb_names
  simp only [Prod.mk.injEq] at nm
  refine El_aaaaaaaaa nm fun n1 n2 n3 n4 n5 n6 n7 n8 n9 n10 => ?_; try clear nm
  rw [n1]
  refine store_ok (av := .addr q) (P := fun loc as' => loc = [(nAddr, .int a), (nWrap, .addr q)] ∧ as' = as ++ [.cell (some (.obj i))]) (by rw [wb_store]; exact ⟨rfl, rfl⟩) F₁ S₁ rfl fun loc' as' s₂ q' S₂ X₂ F₂ => ?_
  obtain ⟨rfl, rfl⟩ := q'
  have F₂ : FrR X (wFm a as.length q) L env θ s₂.heap := F₂
  show wpAny _ _ (execs [.Return (some wb.ret) wb.pr] env) _ _ _
  have hL := F.apart
  have hX : ExtL X.H L θ s.heap θ s₂.heap := X₁.toL.trans F.there F.nin F₁.there X₂
  have hq₂ : s₂.heap.get? q = some (kla_obj "<lambda>" (dW.qual ++ "<lambda>") wb.la wb.lb wb.ls [(nSelf, ca)] pm c' ctv) := X₂.keep _ _ hq nq.2.1 nq.2.2 nq.1
  have hc₂ : s₂.heap.CodeRec (.ref c') (dW.qual ++ "<lambda>") := by
    refine El_eeeeaa hc' fun c'' o vs t e1 e2 r => ?_; try clear hc'
    cases e1
    exact ⟨c', o, vs, t, rfl, X₂.keep _ _ e2 nc.2.1 nc.2.2 nc.1, r⟩
  refine wpAny_execs_cons (wpAny_Return_some (use_re (Q := Q) (dp := dp) ?_ R F₂ S₂ fun av as' θ' s' v q' S' X' V' => c (.ret av) _ as' θ' s' (.ret v) q' S' (hX.trans F.there F.nin F₂.there X'.toL) (F₂.ext X') ⟨v, rfl, V'⟩))
  have CO := cls_re W S₂ hL
  obtain ⟨K', hK'⟩ := CO.cls
  have sp := spec CO
  have LO : LamOK (X.re L θ s₂.heap) q (dL c') wb.lb [(nSelf, as.length)] := by
    refine ⟨⟨_, _, re_at hq₂ nq.1 nq.2.1 nq.2.2, rfl, ?_, rfl, rfl, rfl, rfl, rfl, rfl, fun vals hv => ?_, fun x j e => ?_⟩, fun x hx => lam_cell hx, fun x hx => lam_loc hx, (congrArg (·.1) lam_sc), (congrArg (·.2.1) lam_sc), (congrArg (·.2.2.1) lam_sc)⟩
    · refine El_eeeeaa hc₂ fun c'' o vs t e1 e2 r => ?_; try clear hc₂
      cases e1
      exact ⟨c', o, vs, t, rfl, re_at e2 nc.1 nc.2.1 nc.2.2, r⟩
    · have hv : vals.length = 1 := hv.trans lam_facts.2
      match vals, hv with
      | [v], _ => exact lam_bind _ _ _ _ _ _
    · unfold lk at e
      split at e
      · rename_i hs
        have := seq_iff.mp hs; subst this
        cases e
        exact ⟨ca, hca, by simp⟩
      · cases e
  show EvS (X.re L θ s₂.heap) dp (wFm a as.length q) wb.ret (as ++ [.cell (some (.obj i))]) Q
  have kd := wb_kinds
  simp only [Prod.mk.injEq] at kd
  have fl := wb_flags
  simp only [Bool.and_eq_true] at fl
  have sc : (wFm a as.length q).sc = dW.scope := rfl
  have hself : ∀ {as' : List AO} {v : AV} {p : Pos} {Q : PV}, as'[as.length]? = some (.cell (some v)) → Q v as' → EvS (X.re L θ s₂.heap) dp (wFm a as.length q) (.Name nSelf p) as' Q := fun ho hq =>
    ev_cell (by rw [sc, kd.1]; rfl) (by kernel_rfl) (i := as.length) (by kernel_rfl) ho hq
  have hcl : ∀ {fa : Addr} {vs : List AV} {as' : List AO} {Q : PV}, clW mD noP 12 4 fa vs as' Q → FnAt (X.re L θ s₂.heap).h₀ fa ∧ ClS (X.re L θ s₂.heap) dp (.ref fa) vs as' Q := fun {fa vs as' Q} h => by
    have g := (sp 12).cl 4 fa vs as' _ h
    exact ⟨g.1, fun A θ s us post E R S V c => g.2 A θ s us post E (R.le h4) S V c⟩
  refine El_ea (cellV_ok h) fun o ho h0 => ?_
  refine El_ea (objV_ok h0) fun i' hr1 h0 => ?_; obtain rfl := hr1
  refine El_ea (methV_ok h0) fun fa hm h0 => ?_
  have ei : i' = i := by
    rw [List.getElem?_append_right (Nat.le_refl _), Nat.sub_self] at ho
    cases ho; rfl
  subst ei
  unfold WB.ret
  rw [n2, n3, n4, n5, n6, n7, n8, n9, n10]
  refine ev_bin (ev_callM hK' rfl (by decide) fl.1 (hself ho ⟨i', fa, rfl, hm, evs_cons (ev_local kd.2.1 (av := .int a) (by kernel_rfl) (evs_nil ?_))⟩))
  obtain ⟨g1, g2⟩ := hcl h0
  refine ⟨g1, g2.mono fun v as₁ h₁ => ?_⟩
  refine El_ea (intV_ok h₁) fun v hr1 h1a => ?_; obtain rfl := hr1
  refine El_ea (cellV_ok h1a) fun o ho h1b => ?_
  refine El_ea (objV_ok h1b) fun i₂ hr1 h1c => ?_; obtain rfl := hr1
  refine El_ea (methV_ok h1c) fun fa₂ hm h1d => ?_
  refine ev_bin (ev_callM hK' rfl (by decide) fl.2 (hself ho ⟨i₂, fa₂, rfl, hm, ?_⟩))
  refine evs_cons (ev_callF rfl (ev_local kd.2.2 (av := .addr q) (by kernel_rfl) ⟨q, rfl, evs_cons (ev_local kd.2.1 (av := .int a) (by kernel_rfl) (evs_nil ⟨⟨_, _, re_at hq₂ nq.1 nq.2.1 nq.2.2, rfl⟩, ?_⟩))⟩))
  obtain ⟨dp, rfl⟩ : ∃ d, dp = d + 1 := ⟨dp - 1, by lia⟩
  refine cl_lam LO hK'.lim (by kernel_rfl) (EvS.mono (((sp 9).ev 3 _ wb.lb as₁ _ (by rw [show (⟨(dL c').scope, ((dL c').names.zip [AV.int a]).reverse, [(nSelf, as.length)], (dL c').code, (dL c').qual⟩ : Fm) = lFm a as.length c' from rfl, wq3]; exact h1d)).le (by lia)) fun r as₂ h₂ => evs_nil ?_)
  obtain ⟨g1, g2⟩ := hcl h₂
  refine ⟨g1, g2.mono fun u as₃ h₃ => ?_⟩
  refine El_ea (intV_ok h₃) fun u hr1 h5 => ?_; obtain rfl := hr1
  refine El_ea (cellV_ok h5) fun o ho h6 => ?_
  refine El_ea (objV_ok h6) fun i₃ hr1 h7 => ?_; obtain rfl := hr1
  refine ev_attr hK' (hself ho ⟨i₃, rfl, attrW_mono h7 fun w as₄ h₄ => ?_⟩)
  refine El_ea (intV_ok h₄) fun w hr1 h8 => ?_; obtain rfl := hr1
  refine El_ea (binW_ok h8) fun k e h9 => ?_
  exact ⟨u, w, k, rfl, rfl, e, v, k, v + k, rfl, rfl, rfl, h9⟩
end
end Mine

end
section
open PySem PySem.W PyProof.Rows
namespace Mine
noncomputable section
noncomputable def mP : Prims := fun a => match Nat.beq a 85 with
  | true => some (5, wrapP)
  | false => none
noncomputable abbrev JJ := List AO
noncomputable abbrev KM := MS → JJ → Prop
noncomputable abbrev Mode := MS → JJ → (Int → MS → JJ → Prop) → Prop
noncomputable def okk (k : Int) : Prop := 0 ≤ k ∧ k < 2 ^ 63
noncomputable def shl (u : Int) (K : Int → Prop) : Prop := (0 ≤ (8 : Int) ∧ (8 : Int) ≤ 1000000 ∧ u.natAbs < 2 ^ 64) ∧ K (u * 2 ^ (8 : Int).toNat)
noncomputable def wrapW (m : MS) (j : JJ) (a : Int) (K : Int → JJ → Prop) : Prop := rdW m.mem a fun v => rdW m.mem (Builtin.bitAnd a 65280 + Builtin.bitAnd (a + 1) 255) fun u => shl u fun k => K (v + k) (j ++ [.cell (some (.obj 0))])
noncomputable def mPC : Mode := fun m j K => K m.pc m j
noncomputable def mZP : Mode := fun m j K => rdW m.mem m.pc fun z => K z m j
noncomputable def mIY0 : Mode := fun m j K => rdW m.mem m.pc fun z => wrapW m j z fun w j => K (Builtin.bitAnd (w + m.y) 65535) m j
noncomputable def mIY1 : Mode := fun m j K => rdW m.mem m.pc fun z => wrapW m j z fun w j =>
  ifB (Builtin.bitAnd w 65280 != Builtin.bitAnd (Builtin.bitAnd (w + m.y) 65535) 65280) (K (Builtin.bitAnd (w + m.y) 65535) { m with ex := m.ex + 1 } j) (K (Builtin.bitAnd (w + m.y) 65535) m j)
noncomputable def flags (m : MS) (v : Int) (K : MS → Prop) : Prop := ifB (v == 0) (K { m with p := Builtin.bitOr (Builtin.bitAnd m.p (Builtin.bitNot (Builtin.bitOr 2 128))) 2 })
  (K { m with p := Builtin.bitOr (Builtin.bitAnd m.p (Builtin.bitNot (Builtin.bitOr 2 128))) (Builtin.bitAnd v 128) })
noncomputable def wrW (m : MS) (a v : Int) (K : MS → Prop) : Prop := (0 ≤ a ∧ a < m.mem.length ∧ a < 2 ^ 63) ∧ K { m with mem := m.mem.set a.toNat v }
noncomputable def inc (n : Int) (K : KM) : KM := fun m j => K { m with pc := m.pc + n } j
noncomputable def oLDA (o : Mode) (m : MS) (j : JJ) (K : KM) : Prop := o m j fun a m j => rdW m.mem a fun v => flags { m with a := v } v fun m => K m j
noncomputable def oLDX (o : Mode) (m : MS) (j : JJ) (K : KM) : Prop := o m j fun a m j => rdW m.mem a fun v => flags { m with x := v } v fun m => K m j
noncomputable def oLDY (o : Mode) (m : MS) (j : JJ) (K : KM) : Prop := o m j fun a m j => rdW m.mem a fun v => flags { m with y := v } v fun m => K m j
noncomputable def oORA (o : Mode) (m : MS) (j : JJ) (K : KM) : Prop := o m j fun a m j => rdW m.mem a fun v => flags { m with a := Builtin.bitOr m.a v } (Builtin.bitOr m.a v) fun m => K m j
noncomputable def oSTA (o : Mode) (m : MS) (j : JJ) (K : KM) : Prop := o m j fun a m j => wrW m a m.a fun m => K m j
noncomputable def oSTX (o : Mode) (m : MS) (j : JJ) (K : KM) : Prop := o m j fun a m j => wrW m a m.x fun m => K m j
noncomputable def lS (op : Int) : Loc := [(nS [115, 101, 108, 102], .obj 0), (nS [105, 110, 115, 116, 114, 117, 99, 116, 67, 111, 100, 101], .int op)]
noncomputable def fmS (op : Int) : Fm := ⟨((mFn 43).getD dW).scope, lS op, [], .ref 42, ((mFn 43).getD dW).qual⟩
noncomputable def tailS : List Stmt := ((mFn 43).getD dW).body.drop 1
noncomputable abbrev RetQ (Q : PV) : PF := fun fl _ as' => match fl with | .ret v => Q v as' | .next => Q .none as' | _ => False
noncomputable def pre (m : MS) (e : Int) : MS := { m with pc := Builtin.bitAnd (m.pc + 1) 65535, ex := 0, ad := .int e }
noncomputable def pst (m : MS) (c : Int) : MS := { m with pc := Builtin.bitAnd m.pc 65535, cyc := m.cyc + (c + m.ex) }
noncomputable abbrev stp (op : Int) (m : MS) (Q : PV) : Prop := exsW mD mP 39 11 (fmS op) tailS (stA m []) (RetQ Q)
noncomputable abbrev fin (op c : Int) (Q : PV) : KM := fun m j => okk op ∧ Q (.obj 0) (stA (pst m c) j)
noncomputable abbrev frm (op : Int) (P : Prop) : Prop := okk op ∧ okk op ∧ P
theorem o_a0 (m : MS) (Q : PV) : stp 0xa0 m Q = frm 0xa0 (oLDY mPC (pre m 0) [.meth 92 0] (inc 1 (fin 0xa0 2 Q))) := by kernel_rfl
theorem o_b1 (m : MS) (Q : PV) : stp 0xb1 m Q = frm 0xb1 (oLDA mIY1 (pre m 1) [.meth 134 0] (inc 1 (fin 0xb1 5 Q))) := by kernel_rfl
theorem o_11 (m : MS) (Q : PV) : stp 0x11 m Q = frm 0x11 (oORA mIY1 (pre m 1) [.meth 134 0] (inc 1 (fin 0x11 5 Q))) := by kernel_rfl
theorem o_a5 (m : MS) (Q : PV) : stp 0xa5 m Q = frm 0xa5 (oLDA mZP (pre m 0) [.meth 106 0] (inc 1 (fin 0xa5 3 Q))) := by kernel_rfl
theorem o_a6 (m : MS) (Q : PV) : stp 0xa6 m Q = frm 0xa6 (oLDX mZP (pre m 0) [.meth 106 0] (inc 1 (fin 0xa6 3 Q))) := by kernel_rfl
theorem o_85 (m : MS) (Q : PV) : stp 0x85 m Q = frm 0x85 (oSTA mZP (pre m 0) [.meth 106 0] (inc 1 (fin 0x85 3 Q))) := by kernel_rfl
theorem o_86 (m : MS) (Q : PV) : stp 0x86 m Q = frm 0x86 (oSTX mZP (pre m 0) [.meth 106 0] (inc 1 (fin 0x86 3 Q))) := by kernel_rfl
theorem o_91 (m : MS) (Q : PV) : stp 0x91 m Q = frm 0x91 (oSTA mIY0 (pre m 0) [.meth 134 0] (inc 1 (fin 0x91 6 Q))) := by kernel_rfl
noncomputable def dS : FD := (mFn 43).getD dW
noncomputable def fm0 : Fm := ⟨dS.scope, [(nS [115, 101, 108, 102], .obj 0)], [], .ref 42, dS.qual⟩
theorem clW_def {D : Cls} {P : Prims} {n dp : Nat} {fa : Addr} {vs : List AV} {as : List AO} {Q : PV} {d : FD} (hP : P fa = none) (hd : D.fn fa = some d) (hl : Nat.beq vs.length d.names.length = true) :
    clW D P (n + 1) (dp + 1) fa vs as Q = exsW D P n dp ⟨d.scope, (d.names.zip vs).reverse, [], d.code, d.qual⟩ d.body as (RetQ Q) := by
  show clF D P (recW D P n) (dp + 1) fa vs as Q = _
  unfold clF; simp only [hP, hd, hl]; try rfl
theorem dS_eq : mD.fn 43 = some dS := by kernel_rfl
theorem fm0_eq : (⟨dS.scope, (dS.names.zip [.obj 0]).reverse, [], dS.code, dS.qual⟩ : Fm) = fm0 := by kernel_rfl
theorem sh1 (Q : PV) (as : List AO) : clW mD mP 41 12 43 [.obj 0] as Q = exsW mD mP 40 11 fm0 dS.body as (RetQ Q) := by
  rw [clW_def (d := dS) (by kernel_rfl) dS_eq (by kernel_rfl), fm0_eq]
noncomputable def st1 : Stmt := match dS.body with | s :: _ => s | [] => .Pass default
theorem sh2 : dS.body = st1 :: tailS := by kernel_rfl
theorem sh3 (m : MS) (K : PF) : exW mD mP 39 11 fm0 st1 (stA m []) K = rdW m.mem m.pc fun op => K .next (lS op) (stA m []) := by kernel_rfl
theorem exsW_cons {D : Cls} {P : Prims} {n dp : Nat} {f : Fm} {st : Stmt} {r : List Stmt} {as : List AO} {Q : PF} : exsW D P (n + 1) dp f (st :: r) as Q = exW D P n dp f st as fun fl loc as₁ => (match fl with | .next => exsW D P n dp { f with loc := loc } r as₁ Q | fl => Q fl loc as₁) := rfl
theorem step_head (m : MS) (Q : PV) : clW mD mP 41 12 43 [.obj 0] (stA m []) Q = rdW m.mem m.pc fun op => stp op m Q := by
  rw [sh1, sh2, exsW_cons, sh3]
  rfl
noncomputable def brT (m : MS) (a : Int) (K : MS → Prop) : Prop := ifB (Builtin.bitAnd m.pc 65280 != Builtin.bitAnd a 65280) (K { m with ex := m.ex + 1, pc := Builtin.bitAnd a 65535 }) (K { m with pc := Builtin.bitAnd a 65535 })
noncomputable def brW (m : MS) (K : MS → Prop) : Prop := rdW m.mem m.pc fun z => ifB (Builtin.bitAnd z 128 != 0) (brT { m with ex := m.ex + 1, pc := m.pc + 1 } (m.pc + 1 - Builtin.bitXor z 255 - 1) K) (brT { m with ex := m.ex + 1, pc := m.pc + 1 } (m.pc + 1 + z) K)
noncomputable def wordW (m : MS) (a : Int) (K : Int → Prop) : Prop := rdW m.mem a fun v => rdW m.mem (a + 1) fun u => shl u fun k => K (v + k)
noncomputable def pushW (m : MS) (v : Int) (K : MS → Prop) : Prop := wrW m (m.sp + 256) (Builtin.bitAnd v 255) fun m => K { m with sp := Builtin.bitAnd (m.sp - 1) 255 }
noncomputable def popW (m : MS) (K : Int → MS → Prop) : Prop := rdW m.mem (Builtin.bitAnd (m.sp + 1) 255 + 256) fun v => K v { m with sp := Builtin.bitAnd (m.sp + 1) 255 }
noncomputable def flagT (m : MS) (t : Int) (K : MS → Prop) : Prop := ifB (t != 0) (K { m with p := Builtin.bitOr (Builtin.bitAnd m.p (Builtin.bitNot (Builtin.bitOr 2 128))) (Builtin.bitAnd t 128) })
  (K { m with p := Builtin.bitOr (Builtin.bitAnd m.p (Builtin.bitNot (Builtin.bitOr 2 128))) 2 })
noncomputable def oINC (o : Mode) (m : MS) (j : JJ) (K : KM) : Prop := o m j fun a m j => rdW m.mem a fun v => flagT m (Builtin.bitAnd (v + 1) 255) fun m => wrW m a (Builtin.bitAnd (v + 1) 255) fun m => K m j
noncomputable def pOf (n v z c : Bool) : Int := 48 + (cond n 128 0) + (cond v 64 0) + (cond z 2 0) + (cond c 1 0)
noncomputable def sbZ (m : MS) (p d : Int) (K : MS → Prop) : Prop := K { m with p := Builtin.bitOr p (Builtin.bitAnd d 128), a := d }
noncomputable def sbY (m : MS) (p d r : Int) (K : MS → Prop) : Prop := ifB (decide (255 < r)) (sbZ m (Builtin.bitOr p 1) d K) (sbZ m p d K)
noncomputable def sbX (m : MS) (p d r : Int) (K : MS → Prop) : Prop := ifB (d == 0) (sbY m (Builtin.bitOr p 2) d r K) (sbY m p d r K)
noncomputable def sbR (m : MS) (v : Int) : Int := m.a + Builtin.bitAnd (Builtin.bitNot v) 255 + Builtin.bitAnd m.p 1
noncomputable def sbP (m : MS) : Int := Builtin.bitAnd m.p (Builtin.bitNot (Builtin.bitOr (Builtin.bitOr (Builtin.bitOr 1 2) 64) 128))
noncomputable def sbW (m : MS) (v : Int) (K : MS → Prop) : Prop := ifB (Builtin.bitAnd (Builtin.bitAnd (Builtin.bitXor m.a v) (Builtin.bitXor m.a (sbR m v))) 128 != 0)
  (sbX m (Builtin.bitOr (sbP m) 64) (Builtin.bitAnd (sbR m v) 255) (sbR m v) K) (sbX m (sbP m) (Builtin.bitAnd (sbR m v) 255) (sbR m v) K)
noncomputable def oSBC (o : Mode) (m : MS) (j : JJ) (K : KM) : Prop := o m j fun a m j => rdW m.mem a fun v => sbW m v fun m => K m j
theorem o_c8 (m : MS) (Q : PV) : stp 0xc8 m Q = frm 0xc8 (flags { pre m 0 with y := Builtin.bitAnd (m.y + 1) 255 } (Builtin.bitAnd (m.y + 1) 255) fun m => fin 0xc8 2 Q m []) := by kernel_rfl
theorem o_38 (m : MS) (Q : PV) : stp 0x38 m Q = frm 0x38 (fin 0x38 2 Q { pre m 0 with p := Builtin.bitOr m.p 1 } []) := by kernel_rfl
theorem o_d0 (m : MS) (Q : PV) : stp 0xd0 m Q = frm 0xd0 (ifB (Builtin.bitAnd m.p 2 != 0) (inc 1 (fin 0xd0 2 Q) (pre m 2) []) (brW (pre m 2) fun m => fin 0xd0 2 Q m [])) := by kernel_rfl
theorem o_b0 (m : MS) (Q : PV) : stp 0xb0 m Q = frm 0xb0 (ifB (Builtin.bitAnd m.p 1 != 0) (brW (pre m 2) fun m => fin 0xb0 2 Q m []) (inc 1 (fin 0xb0 2 Q) (pre m 2) [])) := by kernel_rfl
theorem o_4c (m : MS) (Q : PV) : stp 0x4c m Q = frm 0x4c (wordW (pre m 0) (pre m 0).pc fun w => fin 0x4c 3 Q { pre m 0 with pc := w } []) := by kernel_rfl
theorem o_20 (m : MS) (Q : PV) : stp 0x20 m Q = frm 0x20 (0 ≤ (8 : Int) ∧ pushW (pre m 0) (Builtin.bitAnd ((Builtin.bitAnd ((pre m 0).pc + 1) 65535).fdiv (2 ^ (8 : Int).toNat)) 255) fun m₁ => pushW m₁ (Builtin.bitAnd (Builtin.bitAnd ((pre m 0).pc + 1) 65535) 255) fun m₂ => wordW m₂ m₂.pc fun w => fin 0x20 6 Q { m₂ with pc := w } []) := by kernel_rfl
theorem o_60 (m : MS) (Q : PV) : stp 0x60 m Q = frm 0x60 (popW (pre m 0) fun z m₁ => popW m₁ fun u m₂ => shl u fun k => fin 0x60 6 Q { m₂ with pc := z + k + 1 } []) := by kernel_rfl
theorem o_e6 (m : MS) (Q : PV) : stp 0xe6 m Q = frm 0xe6 (oINC mZP (pre m 0) [.meth 106 0] (inc 1 (fin 0xe6 5 Q))) := by kernel_rfl
theorem o_f1 (m : MS) (Q : PV) (n v z c : Bool) : stp 0xf1 { m with p := pOf n v z c } Q = frm 0xf1 (oSBC mIY1 (pre { m with p := pOf n v z c } 1) [.meth 134 0] (inc 1 (fin 0xf1 5 Q))) := by
  cases n <;> cases v <;> cases z <;> cases c <;> kernel_rfl
end
end Mine

end
section
open PySem PySem.W PyProof.Rows
namespace Mine
noncomputable section
noncomputable def esL (m : MS) (q : Nat) : List (Str × AV) :=
  [(nS [110, 97, 109, 101], .str (nS [54, 53, 48, 50])), (nS [98, 121, 116, 101, 77, 97, 115, 107], .int 255), (nS [97, 100, 100, 114, 77, 97, 115, 107], .int 65535),
   (nS [97, 100, 100, 114, 72, 105, 103, 104, 77, 97, 115, 107], .int 65280), (nS [115, 112, 66, 97, 115, 101], .int 256), (nS [101, 120, 99, 121, 99, 108, 101, 115], .int m.ex),
   (nS [97, 100, 100, 99, 121, 99, 108, 101, 115], m.ad), (nS [112, 114, 111, 99, 101, 115, 115, 111, 114, 67, 121, 99, 108, 101, 115], .int m.cyc), (nS [109, 101, 109, 111, 114, 121], .obj q),
   (nS [115, 116, 97, 114, 116, 95, 112, 99], m.st), (nS [112, 99], .int m.pc), (nS [115, 112], .int m.sp), (nS [97], .int m.a), (nS [120], .int m.x), (nS [121], .int m.y), (nS [112], .int m.p)]
noncomputable def flat : AV → Prop
  | .obj _ => False
  | _ => True
theorem VR.flat {θ θ' : List Addr} : ∀ {a : AV} {v : Value}, Mine.flat a → VR θ a v → VR θ' a v
  | .none, _, _, h | .bool _, _, _, h | .int _, _, _, h | .str _, _, _, h | .addr _, _, _, h | .bi _, _, _, h | .ty _, _, _, h => h
noncomputable def toObj (q : Nat) : AV → AV
  | .obj _ => .obj q
  | a => a
theorem toObj_flat {q : Nat} : ∀ {a : AV}, Mine.flat a → toObj q a = a
  | .none, _ | .bool _, _ | .int _, _ | .str _, _ | .addr _, _ | .bi _, _ | .ty _, _ => rfl
theorem DRs.via {θ θ' : List Addr} (g : AV → AV) {es : List (Str × AV)} {l : List DictEntry} (h : DRs θ es l) (hg : ∀ x ∈ es, ∀ v, VR θ x.2 v → VR θ' (g x.2) v) : DRs θ' (es.map fun p => (p.1, g p.2)) l := by
  induction h with
  | nil => exact .nil
  | cons k v _ ih => exact .cons k (hg _ (.head _) _ v) (ih fun x hx => hg x (.tail _ hx))
theorem esL_map {m : MS} (h1 : Mine.flat m.ad) (h2 : Mine.flat m.st) (q q' : Nat) : (esL m q).map (fun p => (p.1, toObj q' p.2)) = esL m q' := by
  unfold esL
  simp only [List.map_cons, List.map_nil, toObj_flat h1, toObj_flat h2]
  rfl
theorem DRs.swap {θ θ' : List Addr} {q q' : Nat} (e : ∀ a, θ[q]? = some a → θ'[q']? = some a) {m : MS} (h1 : Mine.flat m.ad) (h2 : Mine.flat m.st) {l : List DictEntry} (h : DRs θ (esL m q) l) : DRs θ' (esL m q') l := by
  rw [← esL_map h1 h2 q q']
  refine h.via _ fun x hx v hv => ?_
  by_cases f : Mine.flat x.2
  · rw [toObj_flat f]; exact hv.flat f
  · have : x.2 = .obj q := by
      unfold esL at hx
      simp only [List.mem_cons, List.not_mem_nil, or_false] at hx
      rcases hx with rfl | rfl | rfl | rfl | rfl | rfl | rfl | rfl | rfl | rfl | rfl | rfl | rfl | rfl | rfl | rfl <;> first | rfl | exact absurd trivial f | exact absurd h1 f | exact absurd h2 f
    rw [this] at hv ⊢
    obtain ⟨a, ha, rfl⟩ := hv
    exact ⟨a, e a ha, rfl⟩
theorem esOf_eq (m : MS) : esOf m = esL m 2 := rfl
noncomputable def Stp (m m' : MS) : Prop := ∀ Q : PV, (∀ j, Q (.obj 0) (stA m' j)) → clW mD mP 41 12 43 [.obj 0] (stA m []) Q
theorem WOK.all {X : Cx} (W : WOK X) : ClassOK X mD mP := by
  refine ⟨W.cls, W.fns, fun fa t g e => ?_⟩
  unfold mP at e
  split at e
  · rename_i hb
    cases e
    have := Nat.eq_of_beq_eq_true hb; subst this
    refine ⟨?_, fun dp vs as Q hd h => wrap_ok W hd h⟩
    obtain ⟨o, fd, a, b, _⟩ := W.fnW.ex
    exact ⟨o, fd, a, b⟩
  · cases e
theorem St.someAt {T : Hid} {h₀ : Heap} {g₀ : Array GenState} {os₀ : OsState} {θ : List Addr} {as : List AO} {s : Shared} (S : St T h₀ g₀ os₀ θ as s) {a : Addr} (m : a ∈ θ) : ∃ o, s.heap.get? a = Option.some o := by
  obtain ⟨i, hi, e⟩ := List.getElem_of_mem m
  have e' : θ[i]? = Option.some a := by rw [List.getElem?_eq_getElem hi, e]
  have hi' : i < as.length := by rw [S.ar.len]; exact hi
  obtain ⟨ob, h, _⟩ := S.ar.objs i as[i] _ (List.getElem?_eq_getElem hi') e'
  exact ⟨ob, h⟩
noncomputable def Cx.sub (X : Cx) : Cx := { X with T := ⟨X.T.tabs, []⟩ }
theorem WOK.sub {X : Cx} (W : WOK X) : WOK X.sub := ⟨W.cls, W.fns, W.fnW, W.code, W.glob, W.tab, W.uniq⟩
theorem step_cl {X : Cx} (W : WOK X) {m m' : MS} (h : Stp m m') (f1 : Mine.flat m.ad) (f2 : Mine.flat m.st) (f3 : Mine.flat m'.ad) (f4 : Mine.flat m'.st) {as : List AO} {i d q : Nat} {dp : Nat} (hdp : 12 ≤ dp) {Q : PV}
    (hi : as[i]? = some (.inst 1428 d)) (hd : as[d]? = some (.dict (esL m q))) (hq : as[q]? = some (.ints m.mem)) (hQ : Q (.obj i) ((as.set d (.dict (esL m' q))).set q (.ints m'.mem))) : ClS X dp (.ref 43) [.obj i] as Q := by
  intro A θ s us post E R S V c
  obtain ⟨us', rfl, V0⟩ : ∃ v, us = [v] ∧ VR θ (.obj i) v := by
    cases V with | cons a b => cases b with | nil => exact ⟨_, rfl, a⟩
  refine El_ea V0 fun x hx hr2 => ?_; obtain rfl := hr2; try clear V0
  have lt : ∀ {k : Nat} {o : AO}, as[k]? = some o → ∃ a, θ[k]? = some a := fun {k o} e => by
    have : k < θ.length := by rw [← S.ar.len]; exact (List.getElem?_eq_some_iff.mp e).1
    exact ⟨_, List.getElem?_eq_getElem this⟩
  obtain ⟨xd, hxd⟩ := lt hd
  obtain ⟨xq, hxq⟩ := lt hq
  have nid : i ≠ d := fun e => by rw [e, hd] at hi; cases hi
  have niq : i ≠ q := fun e => by rw [e, hq] at hi; cases hi
  have ndq : d ≠ q := fun e => by rw [e, hq] at hd; cases hd
  have inj : ∀ {a b : Nat} {y : Addr}, θ[a]? = some y → θ[b]? = some y → a = b := fun {a b y} e1 e2 => by
    obtain ⟨l1, h1⟩ := List.getElem?_eq_some_iff.mp e1
    obtain ⟨l2, h2⟩ := List.getElem?_eq_some_iff.mp e2
    have nd := List.pairwise_iff_getElem.mp S.ar.nodup
    rcases Nat.lt_trichotomy a b with r | r | r
    · exact absurd (h1.trans h2.symm) (nd a b l1 l2 r)
    · exact r
    · exact absurd (h2.trans h1.symm) (nd b a l2 l1 r)
  have sub : ∀ a ∈ [x, xd, xq], a ∈ θ := fun a ha => by
    simp only [List.mem_cons, List.not_mem_nil, or_false] at ha
    rcases ha with rfl | rfl | rfl
    · exact List.mem_of_getElem? hx
    · exact List.mem_of_getElem? hxd
    · exact List.mem_of_getElem? hxq
  have O1 := S.ar.objs i _ x hi hx
  have O2 := S.ar.objs d _ xd hd hxd
  have O3 := S.ar.objs q _ xq hq hxq
  have S0 : X.sub.S [x, xd, xq] (stA m []) s := by
    refine ⟨⟨rfl, ?_, ?_⟩, S.base, fun a ha => S.apart a (sub a ha), S.gens, S.os, fun e he => ?_, fun e he ha => S.hnin e he (sub _ ha), S.hbase, List.nil_prefix⟩
    · refine List.nodup_cons.mpr ⟨fun hm => ?_, List.nodup_cons.mpr ⟨fun hm => ?_, List.nodup_cons.mpr ⟨fun hm => (by cases hm), List.nodup_nil⟩⟩⟩
      · simp only [List.mem_cons, List.not_mem_nil, or_false] at hm
        rcases hm with rfl | rfl
        · exact nid (inj hx hxd)
        · exact niq (inj hx hxq)
      · simp only [List.mem_cons, List.not_mem_nil, or_false] at hm
        subst hm; exact ndq (inj hxd hxq)
    · intro k o a e1 e2
      match k, e1, e2 with
      | 0, e1, e2 =>
        cases e1; cases e2
        refine El_eaeea O1 fun ob g a' sl g1 g2 => ?_; try clear O1
        rw [hxd] at g1; cases g1
        exact ⟨ob, g, _, sl, rfl, g2⟩
      | 1, e1, e2 =>
        cases e1; cases e2
        refine El_eaeea O2 fun ob g l n g1 g2 => ?_; try clear O2
        refine ⟨ob, g, l, n, g1, ?_⟩
        rw [esOf_eq]
        exact g2.swap (fun a ha => by rw [hxq] at ha; cases ha; rfl) f1 f2
      | 2, e1, e2 => cases e1; cases e2; exact O3
      | k + 3, e1, e2 => simp [stA] at e1
    · exact (S.tabs e he).to (fun _ x => x) (fun _ _ _ y _ _ _ => y) fun c o hc n hm => n (sub c hm)
  have sp := (spec (WOK.sub W).all 41).cl 12 43 [.obj 0] (stA m []) _ (h (fun v as' => v = .obj 0 ∧ ∃ j, as' = stA m' j) fun j => ⟨rfl, j, rfl⟩)
  refine sp.2 A [x, xd, xq] s [.ref x] post E (R.le hdp) S0 (.cons ⟨x, rfl, rfl⟩ .nil) fun av as' θ' s' v hv S' X' V' => ?_
  obtain ⟨rfl, j, rfl⟩ := hv
  obtain ⟨y, hy, rfl⟩ := V'
  have p0 : θ'[0]? = some x := get_pre X'.pre rfl
  have p1 : θ'[1]? = some xd := get_pre X'.pre rfl
  have p2 : θ'[2]? = some xq := get_pre X'.pre rfl
  rw [p0] at hy; cases hy
  have R1 := S'.ar.objs 0 _ x rfl p0
  have R2 := S'.ar.objs 1 _ xd rfl p1
  have R3 := S'.ar.objs 2 _ xq rfl p2
  have keep : ∀ b o, s.heap.get? b = some o → b ∉ [x, xd, xq] → b ∉ X.H → s'.heap.get? b = some o := X'.keep
  refine c _ _ θ s' _ hQ ⟨⟨?_, S.ar.nodup, ?_⟩, S'.base, S.apart, S'.gens, S'.os, fun e he => ?_, S.hnin, S.hbase, S.pin⟩ ⟨List.prefix_refl θ, fun _ a b => absurd a b, fun b o e n nh => keep b o e (fun hm => n (sub b hm)) nh, X'.ex, X'.tab⟩ ⟨x, hx, rfl⟩
  · simp [S.ar.len]
  · intro k o a e1 e2
    by_cases kq : k = q
    · subst kq
      rw [hxq] at e2; cases e2
      rw [List.getElem?_set_self (by simp; rw [S.ar.len]; exact (List.getElem?_eq_some_iff.mp hxq).1)] at e1
      cases e1
      exact R3
    · rw [List.getElem?_set_ne (Ne.symm kq)] at e1
      by_cases kd : k = d
      · subst kd
        rw [hxd] at e2; cases e2
        rw [List.getElem?_set_self (by rw [S.ar.len]; exact (List.getElem?_eq_some_iff.mp hxd).1)] at e1
        cases e1
        refine El_eaeea R2 fun ob g l n g1 g2 => ?_; try clear R2
        refine ⟨ob, g, l, n, g1, ?_⟩
        rw [esOf_eq] at g2
        exact g2.swap (fun a ha => by rw [p2] at ha; cases ha; exact hxq) f3 f4
      · rw [List.getElem?_set_ne (Ne.symm kd)] at e1
        by_cases ki : k = i
        · subst ki
          rw [hx] at e2; cases e2
          rw [hi] at e1; cases e1
          refine El_eaeea R1 fun ob g a' sl g1 g2 => ?_; try clear R1
          rw [p1] at g1; cases g1
          exact ⟨ob, g, _, sl, hxd, g2⟩
        · obtain ⟨ob, g, g1⟩ := S.ar.objs k o a e1 e2
          refine ⟨ob, keep a ob g (fun hm => ?_) (fun hm => ?_), g1⟩
          · simp only [List.mem_cons, List.not_mem_nil, or_false] at hm
            rcases hm with rfl | rfl | rfl
            · exact ki (inj e2 hx)
            · exact kd (inj e2 hxd)
            · exact kq (inj e2 hxq)
          · obtain ⟨e, he, rfl⟩ := List.mem_map.mp hm
            exact S.hnin e he (List.mem_of_getElem? e2)
  · have hm : e.P ∈ hidOf X.T := List.mem_map_of_mem he
    rcases X'.tab e.P hm with eq | ⟨l, k, c', e1, e2⟩
    · refine (S.tabs e he).to (fun o ho => by rw [eq]; exact ho) (fun c'' o vs g g1 n nh => keep _ _ g (fun hm => n (sub _ hm)) nh) fun _ _ _ n => n
    · rcases S'.tabs e he with t | ⟨c'', t1, t2, t3, t4⟩
      · exact .inl t
      · refine .inr ⟨c'', t1, t2, fun hm => ?_, t4⟩
        rw [t1] at e1
        have : c'' = c' := by
          injection e1 with e1; injection e1 with _ _ e1 _; injection e1 with e1
          have := congrArg (fun v : Array Value => v[2]?) e1
          simpa using this
        subst this
        obtain ⟨ob, g⟩ := S.someAt hm
        rw [e2] at g; cases g
end
end Mine

end
section
open PySem PySem.W PyProof.Rows
namespace Mine
structure Free (X : Cx) (θ : List Addr) (h : Heap) (b : Addr) : Prop where
  nin : b ∉ θ
  nhid : b ∉ X.H
  nbase : X.h₀.get? b = none
  ncode : ∀ e ∈ X.T.tabs, ∀ l k c, h.get? e.P = some (tabObj #[l, k, .ref c]) → c ≠ b
  there : ∃ o, h.get? b = some o
section
variable {X : Cx} {dp : Nat} {f : Fm} {as as' : List AO} {θ θ' : List Addr} {s s' : Shared} {L b : Addr} {env : Env}
theorem tab_inj {l k l' k' : Value} {c c' : Addr} (h : tabObj #[l, k, .ref c] = tabObj #[l', k', .ref c']) : c = c' := by
  injection h with _ _ h _; injection h with h
  have := congrArg (fun v : Array Value => v[2]?) h
  simpa using this
theorem St.codeLt (S : X.S θ as s) {e : TabE} (he : e ∈ X.T.tabs) {l k : Value} {c : Addr} (h : s.heap.get? e.P = some (tabObj #[l, k, .ref c])) : c < s.heap.objs.size := by
  rcases S.tabs e he with t | ⟨c', t1, ⟨c'', o, vs, tt, e1, e2, _⟩, _⟩
  · rw [t] at h; injection h with h; injection h with _ _ h _; injection h with h; have := congrArg Array.size h; simp at this
  · cases e1
    rw [t1] at h; injection h with h
    rw [← tab_inj h]; exact Heap.lt_size e2
theorem Free.new (S : X.S θ as s) {h' : Heap} (hb : s.heap.objs.size ≤ b) (hk : ∀ a o, s.heap.get? a = some o → h'.get? a = some o) (ht : ∃ o, h'.get? b = some o) : Free X θ h' b := by
  refine ⟨fun m => absurd (S.lt m) (Nat.not_lt.mpr hb), fun m => ?_, ?_, fun e he l k c q r => ?_, ht⟩
  · obtain ⟨e, he, rfl⟩ := List.mem_map.mp m
    obtain ⟨ps, x⟩ := (S.tabs e he).is
    exact absurd (Heap.lt_size x) (Nat.not_lt.mpr hb)
  · cases q : X.h₀.get? b with
    | none => rfl
    | some o => exact absurd (Heap.lt_size (S.base _ _ q)) (Nat.not_lt.mpr hb)
  · obtain ⟨ps, x⟩ := (S.tabs e he).is
    have y := hk _ _ x
    rw [y] at q; injection q with q
    rw [q] at x
    exact absurd (S.codeLt he x) (Nat.not_lt.mpr (r ▸ hb))
theorem Free.extL (F : Free X θ s.heap b) (e : ExtL X.H L θ s.heap θ' s'.heap) (hL : b ≠ L) : Free X θ' s'.heap b := by
  obtain ⟨o, ho⟩ := F.there
  refine ⟨fun m => ?_, F.nhid, F.nbase, fun t ht l k c q => ?_, ⟨o, e.keep _ _ ho F.nin F.nhid hL⟩⟩
  · have := (e.fresh b m F.nin).1; rw [ho] at this; cases this
  · rcases e.tab t.P (List.mem_map_of_mem ht) with q' | ⟨l', k', c', q', r⟩
    · rw [q'] at q; exact F.ncode t ht l k c q
    · rw [q] at q'; injection q' with q'
      rw [tab_inj q']
      exact fun z => by rw [z, ho] at r; cases r
theorem Free.same {h h' : Heap} (F : Free X θ h b) (hk : ∀ a ∈ X.H, h'.get? a = h.get? a) (ht : ∃ o, h'.get? b = some o) : Free X θ h' b :=
  ⟨F.nin, F.nhid, F.nbase, fun e he l k c q => F.ncode e he l k c (by rw [← hk e.P (List.mem_map_of_mem he)]; exact q), ht⟩
theorem St.free (S : X.S θ as s) {fs : List Addr} (F : ∀ b ∈ fs, Free X θ s.heap b) {h' : Heap} {k : Nat} (hk : ∀ a o, a ∉ fs → s.heap.get? a = some o → h'.get? a = some o) : X.S θ as { s with heap := h', toks := k } := by
  refine ⟨⟨S.ar.len, S.ar.nodup, fun i o a e1 e2 => ?_⟩, fun a o e => ?_, S.apart, S.gens, S.os, fun e he => ?_, S.hnin, S.hbase, S.pin⟩
  · obtain ⟨ob, x, y⟩ := S.ar.objs i o a e1 e2
    exact ⟨ob, hk _ _ (fun m => (F a m).nin (List.mem_of_getElem? e2)) x, y⟩
  · exact hk _ _ (fun m => by rw [(F a m).nbase] at e; cases e) (S.base a o e)
  · have nP : e.P ∉ fs := fun m => (F _ m).nhid (List.mem_map_of_mem he)
    rcases S.tabs e he with t | ⟨c, t1, ⟨c', o, vs, tt, e1, e2, e3⟩, t3, t4⟩
    · exact .inl (hk _ _ nP t)
    · cases e1
      exact .inr ⟨c, hk _ _ nP t1, ⟨c, o, vs, tt, rfl, hk _ _ (fun m => (F _ m).ncode e he _ _ c t1 rfl) e2, e3⟩, t3, t4⟩
theorem FrR.free (F : FrR X f L env θ s.heap) {fs : List Addr} (hL : L ∉ fs) {h' : Heap} (hk : ∀ a o, a ∉ fs → s.heap.get? a = some o → h'.get? a = some o) : FrR X f L env θ h' := by
  obtain ⟨m, ⟨o, es, ep, ho, hd, hx, hf⟩, r⟩ := F.ns
  exact ⟨F.scope, F.kind, F.loc, F.nin, F.apart, F.nhid, ⟨m, ⟨o, es, ep, hk _ _ hL ho, hd, hx, hf⟩, r⟩, F.cells, F.glob, F.blt, F.code, F.qual⟩
noncomputable def GlobV (X : Cx) (x : Str) (v : Value) : Prop := ∃ mg mb, X.h₀.Ns 3 mg ∧ X.h₀.Ns 0 mb ∧ (mg x = some v ∨ (mg x = none ∧ mb x = some v))
theorem ev_glob {x : Str} {p : Pos} {av : AV} {v : Value} {Q : PV} (hk : isKind .globalImplicit f.sc x = true) (G : GlobV X x v) (hv : VR [] av v) (h : Q av as) : EvS X dp f (.Name x p) as Q := by
  intro A θ s L env post E R F S c
  refine El_eeaa G fun mg mb hg hb q => ?_; try clear G
  have fin := c av as θ s v h S (Ext.refl _ _) (hv.mono List.nil_prefix)
  refine Calls.Name_function_global (by rw [F.scope]; exact F.kind) (F.kindOf hk) ?_ (isKind_of hk).2
  rcases q with q | ⟨q1, q2⟩
  · exact Calls.loadGlobal_global (F.glob ▸ hg.keeps S.base) q fin
  · exact Calls.loadGlobal_builtin (F.glob ▸ hg.keeps S.base) q1 (F.blt ▸ hb.keeps S.base) q2 fin
structure LoopAt (X : Cx) (f : Fm) (L : Addr) (env : Env) (θ₀ : List Addr) (h₀ : Heap) (fs : List Addr) (J : Heap → Prop) (I : Loc → List AO → Prop) (s : Shared) : Prop where
  ex : ∃ θ as loc, I loc as ∧ X.S θ as s ∧ FrR X { f with loc := loc } L env θ s.heap ∧ ExtL X.H L θ₀ h₀ θ s.heap ∧ J s.heap ∧ ∀ b ∈ fs, Free X θ s.heap b
theorem for_core {target : Expr} {it : Value} {body : List Stmt} {A : Around} {θ₀ : List Addr} {h₀ : Heap} {fs : List Addr} {N : Nat} {J : Nat → Heap → Prop} {Inv Bd : Nat → Loc → List AO → Prop} {Q : PF} {post : Flow → Shared → Prop} {E : Value → Shared → Prop}
    (R : Room A dp) (hf : ∀ b ∈ fs, b ≠ L ∧ h₀.get? b = none) (hL : ∃ o, h₀.get? L = some o) (nL : L ∉ θ₀) (hJ : ∀ k h h', J k h → (∀ b ∈ fs, ∀ o, h.get? b = some o → h'.get? b = some o) → J k h')
    (nxt : ∀ k s (E' : Value → Shared → Prop), k < N → LoopAt X f L env θ₀ h₀ fs (J k) (Inv k) s → wpAny X.M A (pyNext it) (fun r s₁ => ∃ v, r = some v ∧ wpAny X.M A (letOwnedTupleGo target it v) (fun _ s₂ => wpAny X.M A (assign target env v) (fun _ s₃ => LoopAt X f L env θ₀ h₀ fs (J (k + 1)) (Bd k) s₃) E' s₂) E' s₁) E' s)
    (stop : ∀ s (E' : Value → Shared → Prop), LoopAt X f L env θ₀ h₀ fs (J N) (Inv N) s → wpAny X.M A (pyNext it) (fun r s₁ => r = none ∧ LoopAt X f L env θ₀ h₀ [] (fun _ => True) (Q .next) s₁) E' s)
    (run : ∀ k loc as, Bd k loc as → ExsS X dp { f with loc := loc } body as fun fl loc' as' => match fl with | .next | .cont => Inv (k + 1) loc' as' | .brk => Q .next loc' as' | .ret v => Q (.ret v) loc' as')
    (c : ∀ fl loc' as' θ' s' g, Q fl loc' as' → X.S θ' as' s' → ExtL X.H L θ₀ h₀ θ' s'.heap → FrR X { f with loc := loc' } L env θ' s'.heap → FlR θ' fl g → post g s')
    (h : LoopAt X f L env θ₀ h₀ fs (J 0) (Inv 0) s) :
    codeAny X.M A (.forLoop target it body [] env) (fun r s' => match r with | .ok g => post g s' | .error e => cameBackBy X.M A env E e s') s := by
  refine codeAny_forLoop_any (fun n s => ∃ k, k ≤ N ∧ n = N - k ∧ LoopAt X f L env θ₀ h₀ fs (J k) (Inv k) s) ?_ N ⟨0, Nat.zero_le _, rfl, h⟩
  rintro n s ⟨k, hk, rfl, hI⟩
  by_cases q : k = N
  · subst q
    refine wpAny_mono (stop s _ hI) (fun r s₁ ⟨e, h₁⟩ => ?_) fun _ _ x => x
    subst e
    refine El_eeeaaaa h₁.ex fun θ as loc q1 q2 q3 q4 _ => ?_
    exact wpAny_execs_nil (c .next loc as θ s₁ .next q1 q2 q4 q3 rfl)
  · refine wpAny_mono (nxt k s _ (by lia) hI) (fun r s₁ ⟨v, e, h₁⟩ => ?_) fun _ _ x => x
    subst e
    refine wpAny_mono h₁ (fun _ s₂ h₂ => wpAny_mono h₂ (fun _ s₃ h₃ => ?_) fun _ _ x => x) fun _ _ x => x
    refine El_eeeaaaaa h₃.ex fun θ as loc q1 q2 q3 q4 q5 q6 => ?_
    refine run k loc as q1 A θ s₃ L env _ _ R q3 q2 fun fl loc' as' θ' s' g p1 p2 p3 p4 p5 => ?_
    have X₄ : ExtL X.H L θ₀ h₀ θ' s'.heap := q4.trans hL nL q3.there p3
    cases fl with
    | next =>
      cases p5
      exact ⟨N - (k + 1), by lia, k + 1, by lia, rfl, ⟨θ', as', loc', p1, p2, p4, X₄, hJ _ _ _ q5 fun b hb o ho => p3.keep _ _ ho (q6 b hb).nin (q6 b hb).nhid (hf b hb).1, fun b hb => (q6 b hb).extL p3 (hf b hb).1⟩⟩
    | cont =>
      cases p5
      exact ⟨N - (k + 1), by lia, k + 1, by lia, rfl, ⟨θ', as', loc', p1, p2, p4, X₄, hJ _ _ _ q5 fun b hb o ho => p3.keep _ _ ho (q6 b hb).nin (q6 b hb).nhid (hf b hb).1, fun b hb => (q6 b hb).extL p3 (hf b hb).1⟩⟩
    | brk => cases p5; exact c _ _ _ θ' s' .next p1 p2 X₄ p4 rfl
    | ret v => refine El_ea p5 fun u hr1 hu => ?_; obtain rfl := hr1; try clear p5; exact c _ _ _ θ' s' _ p1 p2 X₄ p4 ⟨u, rfl, hu⟩
end
end Mine

end
section
open PySem PySem.W PyProof.Rows
namespace Mine
section
variable {X : Cx} {dp : Nat} {f : Fm} {as as' : List AO} {θ θ' : List Addr} {s s' : Shared} {L b : Addr} {env : Env}
theorem ExtL.free {H : List Addr} {θ₀ : List Addr} {h₀ h h' : Heap} (e : ExtL H L θ₀ h₀ θ h) {fs : List Addr} (hf : ∀ b ∈ fs, h₀.get? b = none) (hk : ∀ a o, a ∉ fs → h.get? a = some o → h'.get? a = some o) (ht : ∀ P ∈ H, h'.get? P = h.get? P) : ExtL H L θ₀ h₀ θ h' :=
  ⟨e.pre, e.fresh, fun b o q n1 n2 n3 => hk _ _ (fun m => by rw [hf b m] at q; cases q) (e.keep b o q n1 n2 n3), fun b o q => (let ⟨o', z⟩ := e.ex b o q; ⟨o', hk _ _ (fun m => by rw [hf b m] at q; cases q) z⟩), tab_trans e.ex e.tab fun P m => .inl (ht P m)⟩
theorem St.tabSame (S : X.S θ as s) {fs : List Addr} (F : ∀ b ∈ fs, Free X θ s.heap b) {h' : Heap} (hk : ∀ a o, a ∉ fs → s.heap.get? a = some o → h'.get? a = some o) : ∀ P ∈ X.H, h'.get? P = s.heap.get? P := fun P m => by
  obtain ⟨e, he, rfl⟩ := List.mem_map.mp m
  obtain ⟨ps, x⟩ := (S.tabs e he).is
  rw [x]; exact hk _ _ (fun q => (F _ q).nhid (List.mem_map_of_mem he)) x
theorem LoopAt.free {θ₀ : List Addr} {h₀ : Heap} {fs fs' : List Addr} {J J' : Heap → Prop} {I : Loc → List AO → Prop} (h : LoopAt X f L env θ₀ h₀ fs J I s) (hf : ∀ b ∈ fs, b ≠ L ∧ h₀.get? b = none) (hsub : ∀ b ∈ fs', b ∈ fs) {h' : Heap} {k : Nat}
    (hk : ∀ a o, a ∉ fs → s.heap.get? a = some o → h'.get? a = some o) (ht : ∀ b ∈ fs', ∃ o, h'.get? b = some o) (hJ : J' h') : LoopAt X f L env θ₀ h₀ fs' J' I { s with heap := h', toks := k } := by
  refine El_eeeaaaaa h.ex fun θ as loc q1 q2 q3 q4 q5 q6 => ?_
  have tS := q2.tabSame q6 hk
  exact ⟨θ, as, loc, q1, q2.free q6 hk, q3.free (fun m => (hf L m).1 rfl) hk, q4.free (fun b m => (hf b m).2) hk tS, hJ, fun b m => (q6 b (hsub b m)).same tS (ht b m)⟩
theorem LoopAt.store {θ₀ : List Addr} {h₀ : Heap} {fs : List Addr} {J : Heap → Prop} {I I' : Loc → List AO → Prop} {x : Str} {av : AV} {v : Value} {A : Around} {E : Value → Shared → Prop} (h : LoopAt X f L env θ₀ h₀ fs J I s) (hf : ∀ b ∈ fs, b ≠ L ∧ h₀.get? b = none) 
    (hJ : ∀ h h', J h → (∀ b ∈ fs, ∀ o, h.get? b = some o → h'.get? b = some o) → J h') (hv : ∀ θ, VR θ av v)
    (hI : ∀ loc as, I loc as → storeW { f with loc := loc } x av as fun loc' as' => I' loc' as') : wpAny X.M A (storeName env x v) (fun _ s₃ => LoopAt X f L env θ₀ h₀ fs J I' s₃) E s := by
  refine El_eeeaaaaa h.ex fun θ as loc q1 q2 q3 q4 q5 q6 => ?_
  refine store_ok (hI loc as q1) q3 q2 (hv θ) fun loc' as' s' p1 p2 p3 p4 => ?_
  exact ⟨θ, as', loc', p1, p2, p4, q4.thru q3.there p3, hJ _ _ q5 fun b hb o ho => p3.keep _ _ ho (q6 b hb).nin (q6 b hb).nhid (hf b hb).1, fun b hb => (q6 b hb).extL p3 (hf b hb).1⟩
theorem St.junk (S : X.S θ as s) (o : Obj) : X.S θ as { s with heap := s.heap.push o } ∧ Ext X.H θ s.heap θ (s.heap.push o) :=
  ⟨S.keeps (k := s.toks) fun b o e => Heap.get?_push_of_some _ e, ⟨List.prefix_refl _, fun _ a b => absurd a b, fun b o e _ _ => Heap.get?_push_of_some _ e, fun b o e => ⟨o, Heap.get?_push_of_some _ e⟩, S.tabKeep fun b o e => Heap.get?_push_of_some _ e⟩⟩
inductive RngArgs : List AV → Int → Int → Prop
  | one (b : Int) : RngArgs [.int b] 0 b
  | two (a b : Int) : RngArgs [.int a, .int b] a b
noncomputable def Small (a : Int) : Prop := -(2 ^ 62) ≤ a ∧ a < 2 ^ 62
theorem call_rng {vs : List AV} {us : List Value} {a b : Int} (V : VRs θ vs us) (h : RngArgs vs a b) {A : Around} {E : Value → Shared → Prop} {Q : Value → Shared → Prop}
    (c : ∀ t u v k, Q (.ref s.heap.objs.size) { s with heap := s.heap.push { cls := .type "range", data := .fields #[.int a t, .int b u, .int 1 v] }, toks := k }) : wpAny X.M A (call (.type "range") us) Q E s := by
  cases h with
  | one b =>
    cases V with | cons x r => cases r with | nil =>
      obtain ⟨t, rfl⟩ := x
      exact call_range_1 (c _ _ _ _)
  | two a b =>
    cases V with | cons x r => cases r with | cons y r => cases r with | nil =>
      obtain ⟨t, rfl⟩ := x
      obtain ⟨u, rfl⟩ := y
      exact call_range_2 (c _ _ _ _)
theorem one_mem {P : Addr → Prop} {it : Addr} (h : P it) : ∀ b ∈ [it], P b := fun b m => by
  have e : b = it := by simpa using m
  exact e ▸ h
theorem st_forR {x r : Str} {px pr pc pos : Pos} {args : List Expr} {body : List Stmt} {Q : PF} (hr : isKind .globalImplicit f.sc r = true) (G : GlobV X r (.type "range")) (hs : noStar args = true)
    (h : EvsS X dp f args as fun vs as₁ => ∃ a b, RngArgs vs a b ∧ (Small a ∧ Small b) ∧ ∃ Inv Bd : Nat → Loc → List AO → Prop, Inv 0 f.loc as₁ ∧
      (∀ (k : Nat) loc as₂, a + k < b → Inv k loc as₂ → storeW { f with loc := loc } x (.int (a + k)) as₂ fun loc' as' => Bd k loc' as') ∧
      (∀ (k : Nat) loc as₂, Bd k loc as₂ → ExsS X dp { f with loc := loc } body as₂ fun fl loc' as' => match fl with | .next | .cont => Inv (k + 1) loc' as' | .brk => Q .next loc' as' | .ret v => Q (.ret v) loc' as') ∧
      (∀ loc as₂, Inv (b - a).toNat loc as₂ → Q .next loc as₂)) : ExS X dp f (.For (.Name x px) (.Call (.Name r pr) args [] pc) body [] pos) as Q := by
  intro A θ s L env post E R F S c
  refine wpAny_For ?_
  refine wpAny_Call_Name_kw (ev_glob (av := .ty "range") (Q := fun av as₁ => av = .ty "range" ∧ as₁ = as) hr G rfl ⟨rfl, rfl⟩ A θ s L env _ E R F S fun av as₁ θ₁ s₁ v q S₁ X₁ V₁ => ?_)
  obtain ⟨rfl, rfl⟩ := q
  cases V₁
  rw [back_eq pc env args hs]
  refine PyProof.Rows.callWith_type (by rw [plain_any _ (fun _ => rfl)]) (args_ok ?_)
  refine h A θ₁ s₁ L env _ E R (F.ext X₁) S₁ fun vs as₂ θ₂ s₂ us q S₂ X₂ V₂ => ?_
  refine El_eeaaeeaaa q fun a b hab hc3 Inv Bd h0 hst hrun hend => ?_; obtain ⟨sa, sb⟩ := hc3; try clear q
  have X₁₂ := X₁.trans X₂
  refine call_rng (X := X) V₂ hab fun t u v k => ?_
  refine wpAny_pyIter_range (IsRange.new _ a b 1 t u v) (small_one sa.1 sa.2 sb.1 sb.2) ?_
  obtain ⟨S₃, X₃⟩ := S₂.junk { cls := .type "range", data := .fields #[.int a t, .int b u, .int 1 v] }
  obtain ⟨S₄, X₄⟩ := S₃.junk { cls := .type "range_iterator", data := .fields #[rawInt a, rawInt (Builtin.Range.rangeSize a b 1), rawInt 1] }
  have X₅ : Ext X.H θ s.heap θ₂ _ := (X₁₂.trans X₃).trans X₄
  have hN : Builtin.Range.rangeSize a b 1 = ((b - a).toNat : Int) := by rw [rangeSize_one]; split <;> lia
  have hnew : ∃ o, ((s₂.heap.push { cls := .type "range", data := .fields #[.int a t, .int b u, .int 1 v] }).push { cls := .type "range_iterator", data := .fields #[rawInt a, rawInt (Builtin.Range.rangeSize a b 1), rawInt 1] }).get? (s₂.heap.push { cls := .type "range", data := .fields #[.int a t, .int b u, .int 1 v] }).objs.size = some o := ⟨_, Heap.get?_push_size _ rfl⟩
  have Fr0 := Free.new S₃ (b := (s₂.heap.push { cls := .type "range", data := .fields #[.int a t, .int b u, .int 1 v] }).objs.size) (Nat.le_refl _) (fun a' o e => Heap.get?_push_of_some _ e) hnew
  have J0 : IsRangeIter ((s₂.heap.push { cls := .type "range", data := .fields #[.int a t, .int b u, .int 1 v] }).push { cls := .type "range_iterator", data := .fields #[rawInt a, rawInt (Builtin.Range.rangeSize a b 1), rawInt 1] }) (s₂.heap.push { cls := .type "range", data := .fields #[.int a t, .int b u, .int 1 v] }).objs.size (a + (0 : Nat)) ((b - a).toNat - (0 : Nat)) 1 := by
    show Heap.get? _ _ = _
    rw [Heap.get?_push_size _ rfl, hN]
    simp
  have nb : s.heap.get? (s₂.heap.push { cls := .type "range", data := .fields #[.int a t, .int b u, .int 1 v] }).objs.size = none := by
    cases q : s.heap.get? (s₂.heap.push { cls := .type "range", data := .fields #[.int a t, .int b u, .int 1 v] }).objs.size with
    | none => rfl
    | some o => obtain ⟨o', z⟩ := (X₁₂.trans X₃).ex _ _ q; exact absurd (Heap.lt_size z) (Nat.lt_irrefl _)
  have ite : (s₂.heap.push { cls := .type "range", data := .fields #[.int a t, .int b u, .int 1 v] }).objs.size = (s₂.heap.push { cls := .type "range", data := .fields #[.int a t, .int b u, .int 1 v] }).objs.size := rfl
  revert Fr0 J0 nb
  show ∀ (_ : Free X θ₂ _ (s₂.heap.push { cls := .type "range", data := .fields #[.int a t, .int b u, .int 1 v] }).objs.size) _ _, codeAny X.M A (.forLoop _ (.ref (s₂.heap.push { cls := .type "range", data := .fields #[.int a t, .int b u, .int 1 v] }).objs.size) _ _ _) _ _
  generalize (s₂.heap.push { cls := .type "range", data := .fields #[.int a t, .int b u, .int 1 v] }).objs.size = it
  intro Fr0 J0 nb
  have hf : ∀ b' ∈ [it], b' ≠ L ∧ s.heap.get? b' = none := one_mem ⟨fun q => (by
    obtain ⟨o, ho⟩ := F.there
    rw [q, ho] at nb; cases nb), nb⟩
  have J1 : ∀ (k : Nat) (h h' : Heap), IsRangeIter h it (a + k) ((b - a).toNat - k) 1 → (∀ b' ∈ [it], ∀ o, h.get? b' = some o → h'.get? b' = some o) → IsRangeIter h' it (a + k) ((b - a).toNat - k) 1 := fun k h h' x y => y _ (List.mem_singleton.mpr rfl) _ x
  refine for_core (dp := dp) (f := f) (L := L) (θ₀ := θ) (h₀ := s.heap) (fs := [it]) (N := (b - a).toNat) (J := fun k h => IsRangeIter h it (a + k) ((b - a).toNat - k) 1) (Inv := Inv) (Bd := Bd) (Q := Q) R hf F.there F.nin J1 ?_ ?_ hrun c ?_
  · intro k s₆ E' hk hI
    refine El_eeeaaaaa (id hI.ex) fun θ' as' loc q1 q2 q3 q4 q5 q6 => ?_
    refine wpAny_pyNext_range_item q5 (by lia) fun h' hi hs' => ⟨_, rfl, wpAny_pure (wpAny_assign_Name ?_)⟩
    have e1 : a + (k : Int) + 1 = a + ((k + 1 : Nat) : Int) := by lia
    have e2 : ((b - a).toNat : Int) - k - 1 = (b - a).toNat - ((k + 1 : Nat) : Int) := by lia
    rw [e1, e2] at hi
    have hI' := hI.free (k := s₆.toks + 1) (J' := fun h => IsRangeIter h it (a + (k + 1 : Nat)) ((b - a).toNat - (k + 1 : Nat)) 1) hf (fun _ m => m) (fun a' o m e => (hs'.2 a' (by simpa using m)).trans e) (one_mem ⟨_, hi⟩) hi
    exact hI'.store (av := .int (a + k)) hf (J1 (k + 1)) (fun θ => ⟨_, rfl⟩) fun loc as₂ q => hst k loc as₂ (by lia) q
  · intro s₆ E' hI
    refine El_eeeaaaaa (id hI.ex) fun θ' as' loc q1 q2 q3 q4 q5 q6 => ?_
    refine wpAny_pyNext_range_end R.2.2 q5 (by lia) fun h' hx => ⟨rfl, ?_⟩
    have hI' := hI.free (k := s₆.toks) (fs' := []) (J' := fun _ => True) hf (fun _ m => by cases m) (fun a' o m e => hx a' o (by simpa using m) e) (fun _ m => by cases m) trivial
    refine El_eeeaaaaa hI'.ex fun θ' as' loc q1 q2 q3 q4 q5 q6 => ?_
    exact ⟨θ', as', loc, hend loc as' q1, q2, q3, q4, q5, q6⟩
  · exact ⟨θ₂, as₂, f.loc, h0, S₄.toks k, F.ext X₅, X₅.toL, J0, one_mem Fr0⟩
end
end Mine

end
section
open PySem PySem.W PyProof.Rows
namespace Mine
section
variable {X : Cx} {dp : Nat} {f : Fm} {as as' : List AO} {θ θ' : List Addr} {s s' : Shared} {L b : Addr} {env : Env}
theorem st_brk {pos : Pos} {Q : PF} (h : Q .brk f.loc as) : ExS X dp f (.Break pos) as Q := fun _ θ s L _ _ _ _ F S c => wpAny_Break (c _ _ _ θ s _ h S (ExtL.refl L θ _) F rfl)
theorem st_cont {pos : Pos} {Q : PF} (h : Q .cont f.loc as) : ExS X dp f (.Continue pos) as Q := fun _ θ s L _ _ _ _ F S c => wpAny_Continue (c _ _ _ θ s _ h S (ExtL.refl L θ _) F rfl)
theorem st_while {t : Expr} {body : List Stmt} {pos : Pos} {Q : PF} (Inv : Nat → Loc → List AO → Prop) {N : Nat} (h0 : Inv N f.loc as)
    (turn : ∀ n loc as, Inv n loc as → TsS X dp { f with loc := loc } t as fun b as₁ => ifB b (ExsS X dp { f with loc := loc } body as₁ fun fl loc' as' => match fl with | .next | .cont => ∃ m, m < n ∧ Inv m loc' as' | .brk => Q .next loc' as' | .ret v => Q (.ret v) loc' as') (Q .next loc as₁)) :
    ExS X dp f (.While t body [] pos) as Q := by
  intro A θ s L env post E R F S c
  refine wpAny_While (codeAny_whileLoop (fun n s' => LoopAt X f L env θ s.heap [] (fun _ => True) (Inv n) s') (fun n s' hI => ?_) N ⟨θ, as, f.loc, h0, S, F, ExtL.refl L θ _, trivial, fun _ m => by cases m⟩)
  refine El_eeeaaaaa hI.ex fun θ₁ as₁ loc q1 q2 q3 q4 hc7 hc8 => ?_; obtain - := hc7; obtain - := hc8
  refine turn n loc as₁ q1 A θ₁ s' L env _ _ R q3 q2 fun bb as₂ θ₂ s₂ q S₂ X₂ => ?_
  have X₂' := q4.trans F.there F.nin q3.there X₂.toL
  cases bb with
  | true =>
    refine q A θ₂ s₂ L env _ _ R (q3.ext X₂) S₂ fun fl loc' as' θ' s₃ g p1 p2 p3 p4 p5 => ?_
    have X₃ := X₂'.trans F.there F.nin (q3.ext X₂).there p3
    cases fl with
    | next => cases p5; refine El_ea p1 fun m hm p1 => ?_; exact ⟨m, hm, θ', as', loc', p1, p2, p4, X₃, trivial, fun _ m => by cases m⟩
    | cont => cases p5; refine El_ea p1 fun m hm p1 => ?_; exact ⟨m, hm, θ', as', loc', p1, p2, p4, X₃, trivial, fun _ m => by cases m⟩
    | brk => cases p5; exact c _ _ _ θ' s₃ .next p1 p2 X₃ p4 rfl
    | ret v => refine El_ea p5 fun u hr1 hu => ?_; obtain rfl := hr1; try clear p5; exact c _ _ _ θ' s₃ _ p1 p2 X₃ p4 ⟨u, rfl, hu⟩
  | false => exact wpAny_execs_nil (c .next loc as₂ θ₂ s₂ .next q S₂ X₂' (q3.ext X₂) rfl)
noncomputable def storesW (f : Fm) : List Str → List AV → List AO → (Loc → List AO → Prop) → Prop
  | [], [], as, Q => Q f.loc as
  | x :: xs, v :: vs, as, Q => storeW f x v as fun loc as₁ => storesW { f with loc := loc } xs vs as₁ Q
  | _, _, _, _ => False
noncomputable def namesOf : List Expr → Option (List Str)
  | [] => some []
  | .Name x _ :: r => (namesOf r).map (x :: ·)
  | _ :: _ => none
theorem names_each {elts : List Expr} : ∀ {ns : List Str}, namesOf elts = some ns → ∀ env, ∃ ps : List Pos, ps.length = ns.length ∧ assignEach elts env = (ns.zip ps).map fun x => (false, assign (.Name x.1 x.2) env) := by
  induction elts with
  | nil => intro ns h env; cases h; exact ⟨[], rfl, rfl⟩
  | cons e r ih =>
    intro ns h env
    cases e with
    | Name x p =>
      refine El_ea (Option.map_eq_some_iff.mp (show (namesOf r).map (x :: ·) = some ns from h)) fun ns' e hr2 => ?_; obtain rfl := hr2
      refine El_ea (ih e env) fun ps hl he => ?_
      exact ⟨p :: ps, by simp [hl], by show _ :: assignEach r env = _; rw [he]; rfl⟩
    | _ => cases h
theorem stores_ok {A : Around} {E : Value → Shared → Prop} {P : Loc → List AO → Prop} {post : Unit → Shared → Prop} (ns : List Str) : ∀ (ps : List Pos) (vs : List AV) (us : List Value) (f : Fm) (as : List AO) (s : Shared),
    ps.length = ns.length → storesW f ns vs as P → FrR X f L env θ s.heap → X.S θ as s → VRs θ vs us →
    (∀ loc' as' s', P loc' as' → X.S θ as' s' → ExtL X.H L θ s.heap θ s'.heap → FrR X { f with loc := loc' } L env θ s'.heap → post () s') →
    wpAny X.M A (assignInOrder ((ns.zip ps).map fun x => assign (.Name x.1 x.2) env) us) post E s := by
  induction ns with
  | nil =>
    intro ps vs us f as s hl h F S V c
    cases V with
    | nil => exact wpAny_pure (c _ _ s h S (ExtL.refl _ _ _) F)
    | cons _ _ => exact h.elim
  | cons x ns ih =>
    intro ps vs us f as s hl h F S V c
    cases V with
    | nil => exact h.elim
    | @cons v u vs us V Vs =>
      cases ps with
      | nil => cases hl
      | cons p ps =>
        show wpAny X.M A (holding us (assign (.Name x p) env u) >>= fun _ => assignInOrder _ us) post E s
        refine wpAny_bind (wpAny_holding (wpAny_assign_Name (store_ok (f := f) h F S V fun loc' as' s' q S' X' F' => ?_)))
        exact ih ps vs us { f with loc := loc' } as' s' (by simpa using hl) q F' S' Vs fun loc₂ as₂ s₂ q₂ S₂ X₂ F₂ => c loc₂ as₂ s₂ q₂ S₂ (X'.trans F.there F.nin F'.there X₂) F₂
noncomputable def seqOfA : AO → Option (List AV)
  | .ints xs => some (xs.map .int)
  | .intx xs => some (xs.map .int)
  | .list xs => some xs
  | .tuple xs => some xs
  | _ => none
theorem ints_vrs : ∀ {vs : List Value} {xs : List Int}, IntsAre vs xs → VRs θ (xs.map .int) vs
  | _, _, .nil => .nil
  | _, _, .cons n t h => .cons ⟨t, rfl⟩ (ints_vrs h)
theorem seq_of (S : X.S θ as s) {i : Nat} {a : Addr} {o : AO} {xs : List AV} (hi : as[i]? = some o) (ha : θ[i]? = some a) (h : seqOfA o = some xs) : ∃ vs, (s.heap.IsList a vs ∨ s.heap.IsTuple a vs) ∧ VRs θ xs vs.toList := by
  rcases o with ys | ys | v | ob | ys | ys | ⟨C, d⟩ | es | ⟨fa, i⟩
  · obtain rfl := Option.some.inj (show some (ys.map AV.int) = some xs from h); obtain ⟨vs, l, r⟩ := ints_of S hi ha; exact ⟨vs, .inl l, ints_vrs r⟩
  · obtain rfl := Option.some.inj (show some (ys.map AV.int) = some xs from h); obtain ⟨vs, l, r⟩ := intx_of S hi ha; exact ⟨vs, .inl l, ints_vrs r⟩
  · exact absurd (show none = some xs from h) (by simp)
  · exact absurd (show none = some xs from h) (by simp)
  · obtain rfl := Option.some.inj (show some ys = some xs from h); obtain ⟨vs, l, r⟩ := list_of S hi ha; exact ⟨vs, .inl l, r⟩
  · obtain rfl := Option.some.inj (show some ys = some xs from h)
    refine El_eaeea (S.ar.objs i _ a hi ha) fun ob h1 vs n hr4 r => ?_; obtain rfl := hr4
    exact ⟨vs, .inr ⟨_, h1, rfl, n, rfl⟩, r⟩
  · exact absurd (show none = some xs from h) (by simp)
  · exact absurd (show none = some xs from h) (by simp)
  · exact absurd (show none = some xs from h) (by simp)
noncomputable def bindW (f : Fm) (t : Expr) (v : AV) (as : List AO) (Q : Loc → List AO → Prop) : Prop := match t with
  | .Name x _ => storeW f x v as Q
  | .Tuple elts _ _ => (match namesOf elts, v with
    | some ns, .obj j => (match as[j]? with
      | some o => (match seqOfA o with | some xs => xs.length = ns.length ∧ storesW f ns xs as Q | none => False)
      | none => False)
    | _, _ => False)
  | _ => False
theorem bind_ok {t : Expr} {av : AV} {v : Value} {P : Loc → List AO → Prop} {A : Around} {E : Value → Shared → Prop} {post : Unit → Shared → Prop} (hh : A.handled = none)
    (e : bindW f t av as P) (F : FrR X f L env θ s.heap) (S : X.S θ as s) (V : VR θ av v)
    (c : ∀ loc' as' s', P loc' as' → X.S θ as' s' → ExtL X.H L θ s.heap θ s'.heap → FrR X { f with loc := loc' } L env θ s'.heap → post () s') : wpAny X.M A (assign t env v) post E s := by
  unfold bindW at e
  split at e
  · exact wpAny_assign_Name (store_ok e F S V c)
  · rename_i elts k0 p0
    split at e
    · rename_i ns j hn
      obtain ⟨a, ha, rfl⟩ := V
      split at e
      · rename_i o hj
        split at e
        · rename_i xs hx
          obtain ⟨vs, hl, r⟩ := seq_of S hj ha hx
          obtain ⟨ps, hp, he⟩ := names_each hn env
          have hlen : (assignEach elts env).length = vs.size := by
            rw [he, List.length_map, List.length_zip, hp, Nat.min_self, ← Array.length_toList, r.len, e.1]
          have hst : (assignEach elts env).findIdx? (·.1) = none := by
            rw [he, List.findIdx?_eq_none_iff]
            intro y hy; obtain ⟨z, _, rfl⟩ := List.mem_map.mp hy; rfl
          have fin : ∀ h', Heap.ExtBut s.heap.objs.size s.heap h' → wpAny X.M A (assignInOrder ((assignEach elts env).map (·.2)) vs.toList) post E { s with heap := h' } := fun h' hx => by
            have hk : ∀ b o, s.heap.get? b = some o → h'.get? b = some o := fun b o q => hx b o (Nat.ne_of_lt (Heap.lt_size q)) q
            have S' : X.S θ as { s with heap := h' } := S.keeps (k := s.toks) hk
            have Y : Ext X.H θ s.heap θ h' := ⟨List.prefix_refl _, fun _ a b => absurd a b, fun b o q _ _ => hk b o q, fun b o q => ⟨o, hk b o q⟩, S.tabKeep hk⟩
            rw [he, List.map_map]
            refine stores_ok ns ps xs vs.toList f as _ hp e.2 (F.ext Y) S' r fun loc' as' s' q S₂ X₂ F₂ => c loc' as' s' q S₂ (Y.toL.trans F.there F.nin (F.ext Y).there X₂) F₂
          rw [arm_assign_Tuple]
          refine wpAny_bind (wpAny_standAt ?_)
          unfold unpack
          rw [hlen, hst]
          rcases hl with hl | hl
          · exact wpAny_bind (wpAny_holding (kun_itemsOf hh hl fin))
          · exact wpAny_bind (wpAny_holding (wpAny_unpackItems_tuple hh hl fin))
        · cases e
      · cases e
    · cases e
  · cases e
end
end Mine

end
section
open PySem PySem.W PyProof.Rows
namespace Mine
section
variable {X : Cx} {dp : Nat} {f : Fm} {as as' : List AO} {θ θ' : List Addr} {s s' : Shared} {L b : Addr} {env : Env}
theorem St.at (S : X.S θ as s) {i : Nat} {a : Addr} (ha : θ[i]? = some a) : ∃ o, s.heap.get? a = some o := by
  have hi' : i < as.length := by rw [S.ar.len]; exact (List.getElem?_eq_some_iff.mp ha).1
  obtain ⟨ob, h, _⟩ := S.ar.objs i as[i] _ (List.getElem?_eq_getElem hi') ha
  exact ⟨ob, h⟩
noncomputable def listA : AO → Option (List AV)
  | .tuple _ => none
  | o => seqOfA o
noncomputable def FixI (o : Obj) (xs : List Int) : Prop := o.cls = .type "list" ∧ ∃ vs n, o.data = .seq vs n ∧ IntsAre vs.toList xs
theorem fix_of (S : X.S θ as s) {i : Nat} {a : Addr} {o : Obj} {xs : List Int} (hi : as[i]? = some (.fix o)) (ha : θ[i]? = some a) (h : FixI o xs) : ∃ vs, s.heap.IsList a vs ∧ IntsAre vs.toList xs := by
  obtain ⟨ob, h1, rfl⟩ := S.ar.objs i _ a hi ha
  refine El_aeea h fun c vs n d r => ?_; try clear h
  exact ⟨vs, ⟨_, h1, c, n, d⟩, r⟩
theorem listA_of (S : X.S θ as s) {i : Nat} {a : Addr} {o : AO} {xs : List AV} (hi : as[i]? = some o) (ha : θ[i]? = some a) (h : listA o = some xs) : ∃ vs, s.heap.IsList a vs ∧ VRs θ xs vs.toList := by
  rcases o with ys | ys | v | ob | ys | ys | ⟨C, d⟩ | es | ⟨fa, i⟩
  · obtain rfl := Option.some.inj (show some (ys.map AV.int) = some xs from h); obtain ⟨vs, l, r⟩ := ints_of S hi ha; exact ⟨vs, l, ints_vrs r⟩
  · obtain rfl := Option.some.inj (show some (ys.map AV.int) = some xs from h); obtain ⟨vs, l, r⟩ := intx_of S hi ha; exact ⟨vs, l, ints_vrs r⟩
  · exact absurd (show none = some xs from h) (by simp)
  · exact absurd (show none = some xs from h) (by simp)
  · obtain rfl := Option.some.inj (show some ys = some xs from h); obtain ⟨vs, l, r⟩ := list_of S hi ha; exact ⟨vs, l, r⟩
  · exact absurd (show none = some xs from h) (by simp)
  · exact absurd (show none = some xs from h) (by simp)
  · exact absurd (show none = some xs from h) (by simp)
  · exact absurd (show none = some xs from h) (by simp)
theorem letOwned_list {A : Around} {E : Value → Shared → Prop} {t : Expr} {it l : Addr} {k : Nat} {v : Value} {Q : Unit → Shared → Prop} (hi : s.heap.IsListIter it l k) (h : Q () s) : wpAny X.M A (letOwnedTupleGo t (.ref it) v) Q E s := by
  obtain ⟨o, ho, hc, hd⟩ := hi
  unfold letOwnedTupleGo
  split
  · cases v <;> first | exact wpAny_pure h | (refine wpAny_bind (wpAny_load ho ?_); rw [hc, hd]; exact wpAny_pure h)
  · cases v <;> first | exact wpAny_pure h | (refine wpAny_bind (wpAny_load ho ?_); rw [hc, hd]; exact wpAny_pure h)
  · exact wpAny_pure h
theorem LoopAt.keep {θ₀ : List Addr} {h₀ : Heap} {fs : List Addr} {J : Heap → Prop} {I : Loc → List AO → Prop} (h : LoopAt X f L env θ₀ h₀ fs J I s) (hJ : ∀ h h', J h → (∀ b ∈ fs, ∀ o, h.get? b = some o → h'.get? b = some o) → J h') {h' : Heap} {k : Nat}
    (hk : ∀ a o, s.heap.get? a = some o → h'.get? a = some o) : LoopAt X f L env θ₀ h₀ fs J I { s with heap := h', toks := k } := by
  refine El_eeeaaaaa h.ex fun θ as loc q1 q2 q3 q4 q5 q6 => ?_
  have Y : Ext X.H θ s.heap θ h' := ⟨List.prefix_refl _, fun _ a b => absurd a b, fun b o q _ _ => hk b o q, fun b o q => ⟨o, hk b o q⟩, q2.tabKeep hk⟩
  exact ⟨θ, as, loc, q1, q2.keeps hk, q3.ext Y, ⟨q4.pre, q4.fresh, fun b o q a c d => hk _ _ (q4.keep b o q a c d), fun b o q => (let ⟨o', z⟩ := q4.ex b o q; ⟨o', hk _ _ z⟩), tab_trans q4.ex q4.tab Y.tab⟩, hJ _ _ q5 fun b _ o q => hk b o q,
    fun b m => (q6 b m).same (fun a m => by
      obtain ⟨e, he, rfl⟩ := List.mem_map.mp m
      obtain ⟨ps, x⟩ := (q2.tabs e he).is
      rw [x]; exact hk _ _ x) (let ⟨o, z⟩ := (q6 b m).there; ⟨o, hk _ _ z⟩)⟩
theorem LoopAt.stores {θ₀ : List Addr} {h₀ : Heap} {fs : List Addr} {J : Heap → Prop} {I I' : Loc → List AO → Prop} {ns : List Str} {ps : List Pos} {vs : List AV} {us : List Value} {A : Around} {E : Value → Shared → Prop} (h : LoopAt X f L env θ₀ h₀ fs J I s) (hf : ∀ b ∈ fs, b ≠ L ∧ h₀.get? b = none) 
    (hJ : ∀ h h', J h → (∀ b ∈ fs, ∀ o, h.get? b = some o → h'.get? b = some o) → J h') (hp : ps.length = ns.length) (hv : ∀ θ, VRs θ vs us)
    (hI : ∀ loc as, I loc as → storesW { f with loc := loc } ns vs as fun loc' as' => I' loc' as') : wpAny X.M A (assignInOrder ((ns.zip ps).map fun x => assign (.Name x.1 x.2) env) us) (fun _ s₃ => LoopAt X f L env θ₀ h₀ fs J I' s₃) E s := by
  refine El_eeeaaaaa h.ex fun θ as loc q1 q2 q3 q4 q5 q6 => ?_
  refine stores_ok ns ps vs us _ as s hp (hI loc as q1) q3 q2 (hv θ) fun loc' as' s' p1 p2 p3 p4 => ?_
  exact ⟨θ, as', loc', p1, p2, p4, q4.thru q3.there p3, hJ _ _ q5 fun b hb o ho => p3.keep _ _ ho (q6 b hb).nin (q6 b hb).nhid (hf b hb).1, fun b hb => (q6 b hb).extL p3 (hf b hb).1⟩
theorem LoopAt.bind {θ₀ : List Addr} {h₀ : Heap} {fs : List Addr} {J : Heap → Prop} {I I' : Loc → List AO → Prop} {t : Expr} {av : AV} {v : Value} {A : Around} {E : Value → Shared → Prop} (hh : A.handled = none) (h : LoopAt X f L env θ₀ h₀ fs J I s) (hf : ∀ b ∈ fs, b ≠ L ∧ h₀.get? b = none) 
    (hJ : ∀ h h', J h → (∀ b ∈ fs, ∀ o, h.get? b = some o → h'.get? b = some o) → J h') (hI : ∀ loc as θ, I loc as → X.S θ as s → θ₀ <+: θ → VR θ av v ∧ bindW { f with loc := loc } t av as fun loc' as' => I' loc' as') : wpAny X.M A (assign t env v) (fun _ s₃ => LoopAt X f L env θ₀ h₀ fs J I' s₃) E s := by
  refine El_eeeaaaaa h.ex fun θ as loc q1 q2 q3 q4 q5 q6 => ?_
  have z := hI loc as θ q1 q2 q4.pre
  refine bind_ok hh z.2 q3 q2 z.1 fun loc' as' s' p1 p2 p3 p4 => ?_
  exact ⟨θ, as', loc', p1, p2, p4, q4.thru q3.there p3, hJ _ _ q5 fun b hb o ho => p3.keep _ _ ho (q6 b hb).nin (q6 b hb).nhid (hf b hb).1, fun b hb => (q6 b hb).extL p3 (hf b hb).1⟩
theorem st_forL {target iter : Expr} {pos : Pos} {body : List Stmt} {Q : PF} (hfold : ∀ env x, foldedSetIterable iter env x = pure x)
    (h : EvS X dp f iter as fun o as₁ => ∃ i xs, o = .obj i ∧ ∃ Inv Bd : Nat → Loc → List AO → Prop, Inv 0 f.loc as₁ ∧
      (∀ (k : Nat) loc as₂, Inv k loc as₂ → ∃ ob, as₂[i]? = some ob ∧ listA ob = some xs) ∧
      (∀ (k : Nat) loc as₂ av, xs[k]? = some av → Inv k loc as₂ → bindW { f with loc := loc } target av as₂ fun loc' as' => Bd k loc' as') ∧
      (∀ (k : Nat) loc as₂, Bd k loc as₂ → ExsS X dp { f with loc := loc } body as₂ fun fl loc' as' => match fl with | .next | .cont => Inv (k + 1) loc' as' | .brk => Q .next loc' as' | .ret v => Q (.ret v) loc' as') ∧
      (∀ loc as₂, Inv xs.length loc as₂ → Q .next loc as₂)) : ExS X dp f (.For target iter body [] pos) as Q := by
  intro A θ s L env post E R F S c
  refine wpAny_For (h A θ s L env _ E R F S fun o as₁ θ₁ s₁ v q S₁ X₁ V₁ => ?_) (hfold env)
  refine El_eeaeeaaaa q fun i xs hr2 Inv Bd h0 hls hst hrun hend => ?_; obtain rfl := hr2; try clear q
  refine El_ea V₁ fun l hl hr2 => ?_; obtain rfl := hr2; try clear V₁
  refine El_ea (hls 0 _ _ h0) fun ob hob hxs => ?_
  refine El_ea (listA_of S₁ hob hl hxs) fun vs il _ => ?_
  refine wpAny_pyIter_list il ?_
  have F₁ := F.ext X₁
  obtain ⟨S₂, X₂⟩ := S₁.junk { cls := .type "list_iterator", data := .fields #[.ref l, .int 0 0] }
  have hnew : ∃ o, (s₁.heap.push { cls := .type "list_iterator", data := .fields #[.ref l, .int 0 0] }).get? s₁.heap.objs.size = some o := ⟨_, Heap.get?_push_size _ rfl⟩
  have Fr0 := Free.new S₁ (b := s₁.heap.objs.size) (Nat.le_refl _) (fun a' o e => Heap.get?_push_of_some _ e) hnew
  have J0 : (s₁.heap.push { cls := .type "list_iterator", data := .fields #[.ref l, .int 0 0] }).IsListIter s₁.heap.objs.size l 0 := ⟨_, Heap.get?_push_size _ rfl, rfl, rfl⟩
  have nb := size_none s₁.heap
  revert Fr0 J0 nb
  show ∀ (_ : Free X θ₁ _ s₁.heap.objs.size) _ _, codeAny X.M A (.forLoop _ (.ref s₁.heap.objs.size) _ _ _) _ _
  generalize s₁.heap.objs.size = it
  intro Fr0 J0 nb
  have hf : ∀ b' ∈ [it], b' ≠ L ∧ s₁.heap.get? b' = none := one_mem ⟨fun q => (by
    obtain ⟨o, ho⟩ := F₁.there
    rw [q, ho] at nb; cases nb), nb⟩
  have J1 : ∀ (k : Nat) (h h' : Heap), h.IsListIter it l k → (∀ b' ∈ [it], ∀ o, h.get? b' = some o → h'.get? b' = some o) → h'.IsListIter it l k := fun k h h' ⟨o, x, r⟩ y => ⟨o, y _ (List.mem_singleton.mpr rfl) _ x, r⟩
  refine for_core (dp := dp) (f := f) (L := L) (θ₀ := θ₁) (h₀ := s₁.heap) (fs := [it]) (N := xs.length) (J := fun k h => h.IsListIter it l k) (Inv := Inv) (Bd := Bd) (Q := Q) R hf F₁.there F₁.nin J1 ?_ ?_ hrun
    (fun fl loc' as' θ' s' g p1 p2 p3 p4 p5 => c fl loc' as' θ' s' g p1 p2 (X₁.toL.trans F.there F.nin F₁.there p3) p4 p5) ?_
  · intro k s₆ E' hk hI
    refine El_eeeaaaaa (id hI.ex) fun θ' as' loc q1 q2 q3 q4 q5 q6 => ?_
    refine El_ea (hls k _ _ q1) fun ob hob hxs => ?_
    refine El_ea (listA_of q2 hob (get_pre q4.pre hl) hxs) fun vs' il' r' => ?_
    have hav : xs[k]? = some xs[k] := List.getElem?_eq_getElem hk
    refine El_ea (r'.get hav) fun v hv rv => ?_
    refine wpAny_pyNext_list_item q5 il' (by rw [← Array.getElem?_toList]; exact hv) fun h' hi hs' => ⟨_, rfl, letOwned_list (s := { s₆ with heap := h' }) hi ?_⟩
    have hI' := hI.free (k := s₆.toks) (J' := fun h => h.IsListIter it l (k + 1)) hf (fun _ m => m) (fun a' o m e => (hs'.2 a' (by simpa using m)).trans e) (one_mem (let ⟨o, x, _⟩ := hi; ⟨o, x⟩)) hi
    refine hI'.bind R.2.2 hf (J1 (k + 1)) fun loc₂ as₂ θ₂ q S' pre => ⟨?_, hst k loc₂ as₂ _ hav q⟩
    obtain ⟨ob, hob, hxs⟩ := hls k _ _ q
    obtain ⟨vs'', ⟨o2, e2, _, n2, d2⟩, r''⟩ := listA_of S' hob (get_pre pre hl) hxs
    obtain ⟨v', hv', rv'⟩ := r''.get hav
    refine El_eaae il' fun o1 e1 _ n1 d1 => ?_; try clear il'
    have nl : l ≠ it := fun e => by rw [← e, (St.at S₁ hl).choose_spec] at nb; cases nb
    rw [show ({ s₆ with heap := h' } : Shared).heap.get? l = _ from hs'.2 l nl, e1] at e2
    cases e2
    rw [d1] at d2; cases d2
    rw [hv] at hv'; cases hv'
    exact rv'
  · intro s₆ E' hI
    refine El_eeeaaaaa (id hI.ex) fun θ' as' loc q1 q2 q3 q4 q5 q6 => ?_
    refine El_ea (hls _ _ _ q1) fun ob hob hxs => ?_
    refine El_ea (listA_of q2 hob (get_pre q4.pre hl) hxs) fun vs' il' r' => ?_
    refine wpAny_pyNext_list_end R.2.2 q5 il' (by rw [← Array.getElem?_toList, List.getElem?_eq_none_iff, r'.len]; exact Nat.le_refl _) fun h' hx => ⟨rfl, ?_⟩
    have hI' := hI.free (k := s₆.toks) (fs' := []) (J' := fun _ => True) hf (fun _ m => by cases m) (fun a' o m e => hx a' o (by simpa using m) e) (fun _ m => by cases m) trivial
    refine El_eeeaaaaa hI'.ex fun θ' as' loc q1 q2 q3 q4 q5 q6 => ?_
    exact ⟨θ', as', loc, hend loc as' q1, q2, q3, q4, q5, q6⟩
  · exact ⟨θ₁, as₁, f.loc, h0, S₂, F₁.ext X₂, X₂.toL, J0, one_mem Fr0⟩
end
end Mine

end
section
open PySem PySem.W PyProof.Rows
namespace Mine
section
variable {X : Cx} {dp : Nat} {f : Fm} {as as' : List AO} {θ θ' : List Addr} {s s' : Shared} {L b : Addr} {env : Env}
theorem two_mem {P : Addr → Prop} {a b : Addr} (h1 : P a) (h2 : P b) : ∀ x ∈ [a, b], P x := fun x m => by
  simp only [List.mem_cons, List.not_mem_nil, or_false] at m
  rcases m with rfl | rfl
  · exact h1
  · exact h2
theorem st_forE {xi xv en : Str} {pi pv pt pe pc pos : Pos} {tk0 : Nat} {arg : Expr} {body : List Stmt} {Q : PF} (he : isKind .globalImplicit f.sc en = true) (G : GlobV X en (.type "enumerate")) (hs : noStar [arg] = true)
    (h : EvS X dp f arg as fun o as₁ => ∃ i, ∃ xs : List Int, o = .obj i ∧ ∃ Inv Bd : Nat → Loc → List AO → Prop, Inv 0 f.loc as₁ ∧
      (∀ (k : Nat) loc as₂, Inv k loc as₂ → ∃ ob, as₂[i]? = some ob ∧ listA ob = some (xs.map .int)) ∧
      (∀ (k : Nat) loc as₂ y, xs[k]? = some y → Inv k loc as₂ → storesW { f with loc := loc } [xi, xv] [.int k, .int y] as₂ fun loc' as' => Bd k loc' as') ∧
      (∀ (k : Nat) loc as₂, Bd k loc as₂ → ExsS X dp { f with loc := loc } body as₂ fun fl loc' as' => match fl with | .next | .cont => Inv (k + 1) loc' as' | .brk => Q .next loc' as' | .ret v => Q (.ret v) loc' as') ∧
      (∀ loc as₂, Inv xs.length loc as₂ → Q .next loc as₂)) : ExS X dp f (.For (.Tuple [.Name xi pi, .Name xv pv] tk0 pt) (.Call (.Name en pe) [arg] [] pc) body [] pos) as Q := by
  intro A θ s L env post E R F S c
  refine wpAny_For ?_
  refine wpAny_Call_Name_kw (ev_glob (av := .ty "enumerate") (Q := fun av as₁ => av = .ty "enumerate" ∧ as₁ = as) he G rfl ⟨rfl, rfl⟩ A θ s L env _ E R F S fun av as₁ θ₁ s₁ v q S₁ X₁ V₁ => ?_)
  obtain ⟨rfl, rfl⟩ := q
  cases V₁
  rw [back_eq pc env [arg] hs]
  refine PyProof.Rows.callWith_type (by rw [plain_any _ (fun _ => rfl)]) (args_ok ?_)
  refine (evs_cons (Q := fun vs as₂ => ∃ o, vs = [o] ∧ ∃ i, ∃ xs : List Int, o = .obj i ∧ ∃ Inv Bd : Nat → Loc → List AO → Prop, Inv 0 f.loc as₂ ∧
      (∀ (k : Nat) loc as₂, Inv k loc as₂ → ∃ ob, as₂[i]? = some ob ∧ listA ob = some (xs.map .int)) ∧
      (∀ (k : Nat) loc as₂ y, xs[k]? = some y → Inv k loc as₂ → storesW { f with loc := loc } [xi, xv] [.int k, .int y] as₂ fun loc' as' => Bd k loc' as') ∧
      (∀ (k : Nat) loc as₂, Bd k loc as₂ → ExsS X dp { f with loc := loc } body as₂ fun fl loc' as' => match fl with | .next | .cont => Inv (k + 1) loc' as' | .brk => Q .next loc' as' | .ret v => Q (.ret v) loc' as') ∧
      (∀ loc as₂, Inv xs.length loc as₂ → Q .next loc as₂)) (h.mono fun o as₂ q => evs_nil ⟨o, rfl, q⟩)) A θ₁ s₁ L env _ E R (F.ext X₁) S₁ fun vs as₂ θ₂ s₂ us q S₂ X₂ V₂ => ?_
  refine El_eaeeaeeaaaa q fun o hr1 i xs hr4 Inv Bd h0 hls hst hrun hend => ?_; obtain rfl := hr1; obtain rfl := hr4; try clear q
  obtain ⟨l, hl, rfl⟩ : ∃ l, θ₂[i]? = some l ∧ us = [.ref l] := by
    cases V₂ with
    | cons a r => cases r with | nil => refine El_ea a fun l hl hr2 => ?_; obtain rfl := hr2; try clear a; exact ⟨l, hl, rfl⟩
  refine El_ea (hls 0 _ _ h0) fun ob hob hxs => ?_
  refine El_ea (listA_of S₂ hob hl hxs) fun vs il _ => ?_
  refine call_enumerate_list il fun h' E0 J0 hz hk => ?_
  have F₂ := F.ext (X₁.trans X₂)
  have S₃ : X.S θ₂ as₂ { s₂ with heap := h' } := S₂.keeps (k := s₂.toks) hk
  have X₃ : Ext X.H θ₂ s₂.heap θ₂ h' := ⟨List.prefix_refl _, fun _ a b => absurd a b, fun b o q _ _ => hk b o q, fun b o q => ⟨o, hk b o q⟩, S₂.tabKeep hk⟩
  have Fe := Free.new S₂ (b := s₂.heap.objs.size + 1) (Nat.le_succ _) hk ⟨_, E0⟩
  have Fi := Free.new S₂ (b := s₂.heap.objs.size) (Nat.le_refl _) hk (let ⟨o, x, _⟩ := J0; ⟨o, x⟩)
  have ne := none_ge (h := s₂.heap) (c := s₂.heap.objs.size + 1) (Nat.le_succ _)
  have ni := size_none s₂.heap
  have nei : s₂.heap.objs.size + 1 ≠ s₂.heap.objs.size := by lia
  refine wpAny_pyIter_enum (s := { s₂ with heap := h' }) E0 ?_
  revert E0 J0 Fe Fi ne ni nei
  generalize s₂.heap.objs.size + 1 = e
  generalize s₂.heap.objs.size = it
  intro E0 J0 Fe Fi ne ni nei
  have hf : ∀ b' ∈ [e, it], b' ≠ L ∧ s₂.heap.get? b' = none := by
    obtain ⟨o, ho⟩ := F₂.there
    exact two_mem ⟨fun q => (by rw [q, ho] at ne; cases ne), ne⟩ ⟨fun q => (by rw [q, ho] at ni; cases ni), ni⟩
  have nl : l ≠ e ∧ l ≠ it := by
    obtain ⟨o, ho⟩ := S₂.at hl
    exact ⟨fun q => (by rw [q, ne] at ho; cases ho), fun q => (by rw [q, ni] at ho; cases ho)⟩
  have J1 : ∀ (k : Nat) (h h' : Heap), (∃ old, IsEnum h e it (k : Int) old) ∧ h.IsListIter it l k → (∀ b' ∈ [e, it], ∀ o, h.get? b' = some o → h'.get? b' = some o) → (∃ old, IsEnum h' e it (k : Int) old) ∧ h'.IsListIter it l k :=
    fun k h h' ⟨⟨old, x⟩, o, z, r⟩ y => ⟨⟨old, y _ (.head _) _ x⟩, o, y _ (.tail _ (.head _)) _ z, r⟩
  refine for_core (dp := dp) (f := f) (L := L) (θ₀ := θ₂) (h₀ := s₂.heap) (fs := [e, it]) (N := xs.length) (J := fun k h => (∃ old, IsEnum h e it (k : Int) old) ∧ h.IsListIter it l k) (Inv := Inv) (Bd := Bd) (Q := Q) R hf F₂.there F₂.nin J1 ?_ ?_ hrun
    (fun fl loc' as' θ' s' g p1 p2 p3 p4 p5 => c fl loc' as' θ' s' g p1 p2 ((X₁.trans X₂).toL.trans F.there F.nin F₂.there p3) p4 p5) ?_
  · intro k s₆ E' hk' hI
    refine El_eeeaaaaa (id hI.ex) fun θ' as' loc q1 q2 q3 q4 hc7 q6 => ?_; obtain ⟨⟨old, q5⟩, q5'⟩ := hc7
    refine El_ea (hls k _ _ q1) fun ob hob hxs => ?_
    refine El_ea (listA_of q2 hob (get_pre q4.pre hl) hxs) fun vs' il' r' => ?_
    have hav : xs[k]? = some xs[k] := List.getElem?_eq_getElem hk'
    obtain ⟨v, hv, t, rv⟩ := r'.get (k := k) (a := .int xs[k]) (by rw [List.getElem?_map, hav]; rfl)
    subst rv
    refine wpAny_pyNext_enum_item q5 q5' il' (by rw [← Array.getElem?_toList]; exact hv) nei fun h₁ e1 e2 e3 e4 e5 => ⟨_, rfl, ?_⟩
    refine wpAny_letOwnedTupleGo_enum (s := { s₆ with heap := h₁, toks := s₆.toks + 1 }) e1 fun h₂ e6 e7 => ?_
    have e7 : Heap.SameBut e h₁ h₂ := e7
    have g1 : e < s₆.heap.objs.size := Heap.lt_size q5
    have hkeep : ∀ a' o, a' ∉ [e, it] → s₆.heap.get? a' = some o → h₂.get? a' = some o := fun a' o m z => by
      have m1 : a' ≠ e := fun q => m (q ▸ .head _)
      have m2 : a' ≠ it := fun q => m (q ▸ .tail _ (.head _))
      exact (e7.2 a' m1).trans (e5 a' o m1 m2 z)
    have eI : IsEnum h₂ e it ((k + 1 : Nat) : Int) (.int xs[k] t) := by
      have : ((k + 1 : Nat) : Int) = (k : Int) + 1 := by lia
      rw [this]; exact e6
    have eL : h₂.IsListIter it l (k + 1) := by
      obtain ⟨o, z, r⟩ := e2
      exact ⟨o, (e7.2 it (Ne.symm nei)).trans z, r⟩
    have eT : h₂.IsTuple s₆.heap.objs.size #[.int (k : Int) s₆.toks, .int xs[k] t] := ⟨_, (e7.2 _ (Nat.ne_of_gt g1)).trans e3, rfl, _, rfl⟩
    have hI' := hI.free (k := s₆.toks + 1) (h' := h₂) (J' := fun h => (∃ old, IsEnum h e it ((k + 1 : Nat) : Int) old) ∧ h.IsListIter it l (k + 1)) hf (fun _ m => m) hkeep (two_mem ⟨_, eI⟩ (let ⟨o, z, _⟩ := eL; ⟨o, z⟩)) ⟨⟨_, eI⟩, eL⟩
    refine wpAny_assign_Tuple (s := { s₆ with heap := h₂, toks := s₆.toks + 1 }) R.2.2 eT rfl rfl fun h₃ hx₃ => ?_
    have hI'' := hI'.keep (k := s₆.toks + 1) (J1 (k + 1)) (h' := h₃) fun a' o z => hx₃ a' o (Nat.ne_of_lt (Heap.lt_size z)) z
    exact hI''.stores (ns := [xi, xv]) (ps := [pi, pv]) (vs := [.int k, .int xs[k]]) (us := [.int (k : Int) s₆.toks, .int xs[k] t]) hf (J1 (k + 1)) rfl (fun θ => .cons ⟨_, rfl⟩ (.cons ⟨_, rfl⟩ .nil)) fun loc₂ as₂ q => hst k loc₂ as₂ _ hav q
  · intro s₆ E' hI
    refine El_eeeaaaaa (id hI.ex) fun θ' as' loc q1 q2 q3 q4 hc7 q6 => ?_; obtain ⟨⟨old, q5⟩, q5'⟩ := hc7
    refine El_ea (hls _ _ _ q1) fun ob hob hxs => ?_
    refine El_ea (listA_of q2 hob (get_pre q4.pre hl) hxs) fun vs' il' r' => ?_
    refine wpAny_pyNext_enum_end R.2.2 q5 q5' il' (by rw [← Array.getElem?_toList, List.getElem?_eq_none_iff, r'.len, List.length_map]; exact Nat.le_refl _) fun h' hx => ⟨rfl, ?_⟩
    have hI' := hI.free (k := s₆.toks) (fs' := []) (J' := fun _ => True) hf (fun _ m => by cases m) (fun a' o m z => hx a' o (fun q => m (q ▸ .tail _ (.head _))) z) (fun _ m => by cases m) trivial
    refine El_eeeaaaaa hI'.ex fun θ' as' loc q1 q2 q3 q4 q5 q6 => ?_
    exact ⟨θ', as', loc, hend loc as' q1, q2, q3, q4, q5, q6⟩
  · exact ⟨θ₂, as₂, f.loc, h0, S₃, F₂.ext X₃, X₃.toL, ⟨⟨_, E0⟩, J0⟩, two_mem Fe Fi⟩
end
end Mine

end
section
open PySem PySem.W PyProof.Rows
namespace Mine
noncomputable def intsOf : List AV → Option (List Int)
  | [] => some []
  | .int i :: r => (match intsOf r with | some xs => some (i :: xs) | none => none)
  | _ => none
noncomputable def mkL (vs : List AV) : AO := match intsOf vs with
  | some xs => .intx xs
  | none => .list vs
section
variable {X : Cx} {dp : Nat} {f : Fm} {as as' : List AO} {θ θ' : List Addr} {s s' : Shared} {L b : Addr} {env : Env}
theorem intsOf_ok : ∀ {vs : List AV} {us : List Value} {xs : List Int}, VRs θ vs us → intsOf vs = some xs → IntsAre us xs
  | [], _, _, .nil, h => by cases h; exact .nil
  | .int i :: r, _, _, .cons ⟨t, e⟩ V, h => by
    subst e
    unfold intsOf at h
    split at h
    · rename_i ys hy; cases h; exact .cons i t (intsOf_ok V hy)
    · cases h
theorem mkL_ok {vs : List AV} {us : List Value} (V : VRs θ vs us) : OR θ (mkL vs) { cls := .type "list", data := .seq us.toArray } := by
  unfold mkL
  split
  · rename_i xs h; exact ⟨us.toArray, 0, rfl, intsOf_ok V h⟩
  · exact ⟨us.toArray, 0, rfl, V⟩
theorem OR.pre {o : AO} {ob : Obj} (h : OR θ o ob) (a : Addr) : OR (θ ++ [a]) o ob := h.mono ⟨_, rfl⟩
theorem obj_new (S : X.S θ as s) {a : Addr} : VR (θ ++ [a]) (.obj as.length) (.ref a) := ⟨a, by rw [S.ar.len]; simp, rfl⟩
theorem ev_list {elts : List Expr} {pos : Pos} {Q : PV} (hs : noStar elts = true) (h : EvsS X dp f elts as fun vs as₁ => vs.length ≤ 100000 ∧ Q (.obj as₁.length) (as₁ ++ [mkL vs])) : EvS X dp f (.List elts pos) as Q := by
  intro A θ s L env post E R F S c
  refine wpAny_List ?_
  rw [back_eq pos env elts hs]
  refine h A θ s L env _ E R F S fun vs as₁ θ₁ s₁ us q S₁ X₁ V₁ => ⟨by rw [V₁.len, sizeLine_eq]; lia, ?_⟩
  have P := S₁.push (ob := { cls := .type "list", data := .seq us.toArray }) rfl (OR.pre (mkL_ok V₁) _)
  exact c _ _ _ _ _ q.2 P.1 (X₁.trans P.2) (obj_new S₁)
theorem ev_tuple {elts : List Expr} {k : Nat} {pos : Pos} {Q : PV} (hs : noStar elts = true) (h : EvsS X dp f elts as fun vs as₁ => vs.length ≤ 100000 ∧ Q (.obj as₁.length) (as₁ ++ [.tuple vs])) : EvS X dp f (.Tuple elts k pos) as Q := by
  intro A θ s L env post E R F S c
  refine wpAny_Tuple ?_
  rw [back_eq pos env elts hs]
  refine h A θ s L env _ E R F S fun vs as₁ θ₁ s₁ us q S₁ X₁ V₁ => ⟨by rw [V₁.len, sizeLine_eq]; lia, ?_⟩
  have P := S₁.push (o := .tuple vs) (ob := { cls := .type "tuple", data := .seq us.toArray }) rfl (OR.pre (o := .tuple vs) ⟨us.toArray, 0, rfl, V₁⟩ _)
  exact c _ _ _ _ _ q.2 P.1 (X₁.trans P.2) (obj_new S₁)
theorem ev_ifexp {t a e : Expr} {pos : Pos} {Q : PV} (h : TsS X dp f t as fun b as₁ => ifB b (EvS X dp f a as₁ Q) (EvS X dp f e as₁ Q)) : EvS X dp f (.IfExp t a e pos) as Q := by
  intro A θ s L env post E R F S c
  refine wpAny_IfExp (h A θ s L env _ E R F S fun bb as₁ θ₁ s₁ q S₁ X₁ => ?_)
  cases bb with
  | true => exact q A θ₁ s₁ L env _ E R (F.ext X₁) S₁ fun av as' θ' s' v q' S' X' V' => c _ _ _ _ _ q' S' (X₁.trans X') V'
  | false => exact q A θ₁ s₁ L env _ E R (F.ext X₁) S₁ fun av as' θ' s' v q' S' X' V' => c _ _ _ _ _ q' S' (X₁.trans X') V'
theorem ev_and {x y : Expr} {pos : Pos} {Q : PV} (h : EvS X dp f x as fun v as₁ => ∃ t, truA v = some t ∧ ifB t (EvS X dp f y as₁ Q) (Q v as₁)) : EvS X dp f (.BoolOp .And [x, y] pos) as Q := by
  intro A θ s L env post E R F S c
  refine wpAny_And2 (h A θ s L env _ E R F S fun v as₁ θ₁ s₁ u q S₁ X₁ V₁ => ?_)
  obtain ⟨t, e, q⟩ := q
  refine tru_av e V₁ ?_
  cases t with
  | true => exact q A θ₁ s₁ L env _ E R (F.ext X₁) S₁ fun av as' θ' s' v q' S' X' V' => c _ _ _ _ _ q' S' (X₁.trans X') V'
  | false => exact c _ _ _ _ _ q S₁ X₁ V₁
noncomputable def AndS (X : Cx) (dp : Nat) (f : Fm) (es : List Expr) (as : List AO) (Q : PB) : Prop :=
  ∀ (A : Around) (θ : List Addr) (s : Shared) (L : Addr) (env : Env) (post : Bool → Shared → Prop) (E : Value → Shared → Prop), Room A dp → FrR X f L env θ s.heap → X.S θ as s →
    (∀ b as' θ' s', Q b as' → X.S θ' as' s' → Ext X.H θ s.heap θ' s'.heap → post b s') → wpAny X.M A (allTrue .And es env) post E s
theorem and_nil {Q : PB} (h : Q true as) : AndS X dp f [] as Q := fun A θ s L env post E R F S c => wpAny_allTrue_And_nil (c _ _ θ s h S (Ext.refl _ _))
theorem and_cons {e : Expr} {r : List Expr} {Q : PB} (h : TsS X dp f e as fun b as₁ => ifB b (AndS X dp f r as₁ Q) (Q false as₁)) : AndS X dp f (e :: r) as Q := by
  intro A θ s L env post E R F S c
  refine wpAny_allTrue_And_cons (h A θ s L env _ E R F S fun bb as₁ θ₁ s₁ q S₁ X₁ => ?_)
  cases bb with
  | true => exact q A θ₁ s₁ L env _ E R (F.ext X₁) S₁ fun b as' θ' s' q' S' X' => c _ _ _ _ q' S' (X₁.trans X')
  | false => exact c _ _ _ _ q S₁ X₁
theorem ts_and {es : List Expr} {pos : Pos} {Q : PB} (h : AndS X dp f es as Q) : TsS X dp f (.BoolOp .And es pos) as Q :=
  fun A θ s L env post E R F S c => wpAny_isTrue_BoolOp (h A θ s L env post E R F S c)
noncomputable def LenI (ob : AO) (n : Nat) : Prop := (∃ xs, listA ob = some xs ∧ n = xs.length) ∨ ∃ o xs, ob = .fix o ∧ FixI o xs ∧ n = xs.length
theorem lenI_of (S : X.S θ as s) {i : Nat} {a : Addr} {ob : AO} {n : Nat} (hi : as[i]? = some ob) (ha : θ[i]? = some a) (h : LenI ob n) : ∃ vs, s.heap.IsList a vs ∧ vs.size = n := by
  rcases h with ⟨xs, e, rfl⟩ | ⟨o, xs, rfl, e, rfl⟩
  · obtain ⟨vs, il, r⟩ := listA_of S hi ha e
    exact ⟨vs, il, by rw [← Array.length_toList]; exact r.len⟩
  · obtain ⟨vs, il, r⟩ := fix_of S hi ha e
    exact ⟨vs, il, by rw [← Array.length_toList]; exact r.length⟩
theorem ev_len {x : Str} {p pos : Pos} {arg : Expr} {Q : PV} (hk : isKind .globalImplicit f.sc x = true) (G : GlobV X x (.builtin "len")) (hs : noStar [arg] = true)
    (h : EvS X dp f arg as fun o as₁ => ∃ i ob n, o = .obj i ∧ as₁[i]? = some ob ∧ LenI ob n ∧ n ≤ 1000000 ∧ Q (.int n) as₁) : EvS X dp f (.Call (.Name x p) [arg] [] pos) as Q := by
  intro A θ s L env post E R F S c
  refine wpAny_Call_Name_kw (ev_glob (av := .bi "len") (Q := fun av as₁ => av = .bi "len" ∧ as₁ = as) hk G rfl ⟨rfl, rfl⟩ A θ s L env _ E R F S fun av as₁ θ₁ s₁ v q S₁ X₁ V₁ => ?_)
  obtain ⟨rfl, rfl⟩ := q
  cases V₁
  rw [back_eq pos env [arg] hs]
  refine Calls.callWith_builtin (by rw [plain_any _ (fun _ => rfl)]) (args_ok ?_)
  refine (evs_cons (Q := fun vs as₂ => ∃ o, vs = [o] ∧ ∃ i ob n, o = .obj i ∧ as₂[i]? = some ob ∧ LenI ob n ∧ n ≤ 1000000 ∧ Q (.int n) as₂) (h.mono fun o as₂ q => evs_nil ⟨o, rfl, q⟩)) A θ₁ s₁ L env _ E R (F.ext X₁) S₁ fun vs as₂ θ₂ s₂ us q S₂ X₂ V₂ => ?_
  obtain ⟨o, rfl, i, ob, n, rfl, hob, hxs, hz, q⟩ := q
  obtain ⟨l, hl, rfl⟩ : ∃ l, θ₂[i]? = some l ∧ us = [.ref l] := by
    cases V₂ with
    | cons a r => cases r with | nil => obtain ⟨l, hl, rfl⟩ := a; exact ⟨l, hl, rfl⟩
  obtain ⟨vs, il, hn⟩ := lenI_of S₂ hob hl hxs
  refine len_list il (by rw [hn]; lia) ?_
  rw [hn]
  exact c _ _ θ₂ _ _ q (S₂.toks _) (X₁.trans X₂) ⟨_, rfl⟩
end
end Mine

end
section
open PySem PySem.W PyProof.Rows
namespace Mine
noncomputable def intsA : AO → Option (List Int)
  | .ints xs => some xs
  | .intx xs => some xs
  | _ => none
noncomputable def addA (a b : AO) : Option AO := match intsA a, intsA b with
  | some xs, some ys => some (.intx (xs ++ ys))
  | _, _ => match listA a, listA b with
    | some xs, some ys => some (.list (xs ++ ys))
    | _, _ => none
noncomputable def lenA (a : AO) : Nat := match a with
  | .ints xs => xs.length
  | .intx xs => xs.length
  | .list xs => xs.length
  | _ => 0
noncomputable def repL (xs : List Int) (k : Nat) : List Int := (List.replicate k xs).flatten
section
variable {X : Cx} {dp : Nat} {f : Fm} {as as' : List AO} {θ θ' : List Addr} {s s' : Shared} {L b : Addr} {env : Env} {D : Cls} {K : Frag}
theorem intsA_of (S : X.S θ as s) {i : Nat} {a : Addr} {o : AO} {xs : List Int} (hi : as[i]? = some o) (ha : θ[i]? = some a) (h : intsA o = some xs) : ∃ vs, s.heap.IsList a vs ∧ IntsAre vs.toList xs := by
  rcases o with ys | ys | v | ob | ys | ys | ⟨C, d⟩ | es | ⟨fa, i⟩
  · obtain rfl := Option.some.inj (show some ys = some xs from h); exact ints_of S hi ha
  · obtain rfl := Option.some.inj (show some ys = some xs from h); exact intx_of S hi ha
  all_goals exact absurd (show none = some xs from h) (by simp)
noncomputable def ReadI (ob : AO) (xs : List Int) : Prop := intsA ob = some xs ∨ ∃ o, ob = .fix o ∧ FixI o xs
theorem readI_of (S : X.S θ as s) {i : Nat} {a : Addr} {o : AO} {xs : List Int} (hi : as[i]? = some o) (ha : θ[i]? = some a) (h : ReadI o xs) : ∃ vs, s.heap.IsList a vs ∧ IntsAre vs.toList xs := by
  rcases h with h | ⟨o, rfl, h⟩
  · exact intsA_of S hi ha h
  · exact fix_of S hi ha h
theorem intsA_len {o : AO} {xs : List Int} (h : intsA o = some xs) : lenA o = xs.length := by
  rcases o with ys | ys | v | ob | ys | ys | ⟨C, d⟩ | es | ⟨fa, i⟩
  · obtain rfl := Option.some.inj (show some ys = some xs from h); rfl
  · obtain rfl := Option.some.inj (show some ys = some xs from h); rfl
  all_goals exact absurd (show none = some xs from h) (by simp)
theorem listA_len {o : AO} {xs : List AV} (h : listA o = some xs) : lenA o = xs.length := by
  rcases o with ys | ys | v | ob | ys | ys | ⟨C, d⟩ | es | ⟨fa, i⟩
  · obtain rfl := Option.some.inj (show some (ys.map AV.int) = some xs from h); simp [lenA]
  · obtain rfl := Option.some.inj (show some (ys.map AV.int) = some xs from h); simp [lenA]
  · exact absurd (show none = some xs from h) (by simp)
  · exact absurd (show none = some xs from h) (by simp)
  · obtain rfl := Option.some.inj (show some ys = some xs from h); rfl
  all_goals exact absurd (show none = some xs from h) (by simp)
theorem add_objs {A : Around} {E : Value → Shared → Prop} {Q : Value → Shared → Prop} {i j : Nat} {oa ob r : AO} {a b : Addr} (S : X.S θ as s) (hi : as[i]? = some oa) (hj : as[j]? = some ob) (ha : θ[i]? = some a) (hb : θ[j]? = some b) (h : addA oa ob = some r) (hz : lenA oa + lenA ob ≤ 100000)
    (c : ∀ θ' s' v, X.S θ' (as ++ [r]) s' → Ext X.H θ s.heap θ' s'.heap → VR θ' (.obj as.length) v → Q v s') : wpAny X.M A (binaryOp .Add (.ref a) (.ref b)) Q E s := by
  have go : ∀ (vs ws : Array Value), s.heap.IsList a vs → s.heap.IsList b ws → vs.size + ws.size ≤ 100000 → OR θ r { cls := .type "list", data := .seq (vs ++ ws) } → wpAny X.M A (binaryOp .Add (.ref a) (.ref b)) Q E s := by
    intro vs ws hl hb hz ho
    refine El_eaae (id hl) fun hc0 h1 hc n hd => ?_; obtain ⟨cls, dd, data, sl⟩ := hc0
    refine El_eaae (id hb) fun hc0 h2 hc2 n2 hd2 => ?_; obtain ⟨cls2, dd2, data2, sl2⟩ := hc0
    simp only at hc hd hc2 hd2
    subst hc hd hc2 hd2
    refine concat_meets ⟨_, h1, rfl⟩ ⟨_, h2, rfl⟩ noFill_list_add seq_list_add PySem.F.slot_list_add PySem.F.entry_list_add (PySem.F.args_list_add_2 _ _) (list_addW a b vs ws n n2 dd dd2 sl sl2 (by rw [sizeLine_eq]; lia)) ⟨h1, h2, ?_⟩
    have P := S.push (o := r) (ob := { cls := .type "list", data := .seq (vs ++ ws) }) rfl (OR.pre ho _)
    exact c _ _ _ P.1 P.2 (obj_new S)
  unfold addA at h
  split at h
  · rename_i xs ys e1 e2
    cases h
    obtain ⟨vs, l1, r1⟩ := intsA_of S hi ha e1
    obtain ⟨ws, l2, r2⟩ := intsA_of S hj hb e2
    have z1 := r1.length; have z2 := r2.length
    rw [intsA_len e1, intsA_len e2] at hz
    exact go vs ws l1 l2 (by rw [← Array.length_toList, ← Array.length_toList]; lia) ⟨_, _, rfl, by rw [Array.toList_append]; exact IntsAre.append r1 r2⟩
  · split at h
    · rename_i xs ys e1 e2
      cases h
      obtain ⟨vs, l1, r1⟩ := listA_of S hi ha e1
      obtain ⟨ws, l2, r2⟩ := listA_of S hj hb e2
      have z1 := r1.len; have z2 := r2.len
      rw [listA_len e1, listA_len e2] at hz
      exact go vs ws l1 l2 (by rw [← Array.length_toList, ← Array.length_toList]; lia) ⟨_, _, rfl, by rw [Array.toList_append]; exact r1.app r2⟩
    · cases h
theorem fold_rep (items : Array Value) : ∀ (n : Nat) (acc : Array Value), (List.foldl (fun x1 x2 => x1 ++ x2) acc (List.replicate n items)).toList = acc.toList ++ (List.replicate n items.toList).flatten
  | 0, acc => by simp
  | n + 1, acc => by rw [List.replicate_succ, List.foldl_cons, fold_rep items n]; simp [List.replicate_succ, List.append_assoc]
theorem rep_ints {vs : List Value} {xs : List Int} (h : IntsAre vs xs) : ∀ n, IntsAre (List.replicate n vs).flatten (repL xs n)
  | 0 => .nil
  | n + 1 => by unfold repL; rw [List.replicate_succ, List.replicate_succ, List.flatten_cons, List.flatten_cons]; exact IntsAre.append h (rep_ints h n)
theorem mul_obj {A : Around} {E : Value → Shared → Prop} {Q : Value → Shared → Prop} {i : Nat} {xs : List Int} {x : Int} {t : Tok} {a : Addr} (S : X.S θ as s) (e1 : as[i]? = some (.intx xs)) (ha : θ[i]? = some a) (z : 0 < xs.length ∧ 0 ≤ x ∧ x < 2 ^ 62 ∧ xs.length * x.toNat ≤ 100000)
    (c : ∀ θ' s' v, X.S θ' (as ++ [.intx (repL xs x.toNat)]) s' → Ext X.H θ s.heap θ' s'.heap → VR θ' (.obj as.length) v → Q v s') : wpAny X.M A (binaryOp .Mult (.ref a) (.int x t)) Q E s := by
  obtain ⟨z0, z1, z2, z3⟩ := z
  refine El_eaeea (S.ar.objs i _ a e1 ha) fun ob hl items k hr4 r => ?_; obtain rfl := hr4
  have hsz : items.size = xs.length := by rw [← Array.length_toList]; exact r.length
  rw [← hsz] at z3
  refine wpAny_binaryOp_repeat_ref (T := "list") (U := "int") (by decide) ⟨_, hl, rfl⟩ (fun s' => typeIs_int s' x t) noFill_list_mul PySem.F.fills_int_mul PySem.F.slot_int_rmul repeat_list PySem.F.slot_int_index.lookup
    (call_meets PySem.F.slot_int_rmul (typeIs_int s x t) PySem.F.entry_int_rmul (PySem.F.args_int_rmul_2 _ _) (int___rmul___int_list x t a items k)
      ⟨hl, rfl, ⟨_, hl, rfl⟩, call_meets PySem.F.slot_list_mul ⟨_, hl, rfl⟩ PySem.F.entry_list_mul (PySem.F.args_list_mul_2 _ _)
        (AutoListH.list___mul___list_int_3 a items k x t (by simp [Builtin.List.listFitsIndex]; lia) (by lia) (by simp [Builtin.List.listTooLong, sizeLine]; lia))
        ⟨hl, ?_⟩⟩)
  have hne : items.isEmpty = false := by
    cases q : items.isEmpty with
    | false => rfl
    | true => have : items.size = 0 := by simpa [Array.isEmpty] using q
              lia
  rw [hne]
  have P := S.push (o := .intx (repL xs x.toNat)) (ob := { cls := .type "list", data := .seq (List.foldl (fun x1 x2 => x1 ++ x2) #[] (List.replicate (if false = true then 0 else x.toNat) items)) }) rfl
    ⟨_, _, rfl, by rw [fold_rep]; simpa using rep_ints r x.toNat⟩
  exact c _ _ _ P.1 P.2 (obj_new S)
end
end Mine

end
section
open PySem PySem.W PyProof.Rows
namespace Mine
noncomputable def sliceR (xs : List Int) : Option Int → Option Int → (List Int → Prop) → Prop
  | none, none, K => K xs
  | none, some y, K => 0 ≤ y ∧ K (xs.take y.toNat)
  | some x, none, K => 0 ≤ x ∧ K (xs.drop x.toNat)
  | some x, some y, K => (0 ≤ x ∧ 0 ≤ y) ∧ K ((xs.drop x.toNat).take (min y.toNat xs.length - x.toNat))
theorem slice_ints {vs : List Value} {xs : List Int} (h : IntsAre vs xs) : ∀ {lo hi : Option Int} {K : List Int → Prop}, sliceR xs lo hi K → ∃ ys, IntsAre (slicePick vs.toArray lo hi none).toList ys ∧ K ys
  | none, none, K, k => by
    refine ⟨xs, ?_, k⟩
    have e : sliceBounds none none none vs.toArray.size = (((0 : Nat) : Int), ((vs.toArray.size : Nat) : Int), 1) := by
      simp only [sliceBounds, Option.getD_none, show (1 : Int) > 0 by decide, if_true]; rfl
    rw [kmk_pick_nat _ e]
    simpa using h
  | none, some y, K, k => ⟨_, kmk_upto h k.1, k.2⟩
  | some x, none, K, k => ⟨_, kmk_from h k.1, k.2⟩
  | some x, some y, K, k => ⟨_, kmk_run h k.1.1 k.1.2, k.2⟩
section
variable {X : Cx} {dp : Nat} {f : Fm} {as as' : List AO} {θ θ' : List Addr} {s s' : Shared} {L b : Addr} {env : Env} {D : Cls} {K : Frag}
noncomputable def PtS (X : Cx) (dp : Nat) (f : Fm) (e : Option Expr) (as : List AO) (Q : Option Int → List AO → Prop) : Prop := match e with
  | none => Q none as
  | some e => EvS X dp f e as fun v as₁ => ∃ i, v = .int i ∧ Q (some i) as₁
theorem part_ok {e : Option Expr} {Q : Option Int → List AO → Prop} {A : Around} {E : Value → Shared → Prop} {post : Value → Shared → Prop} (h : PtS X dp f e as Q) (R : Room A dp) (F : FrR X f L env θ s.heap) (S : X.S θ as s)
    (c : ∀ i as' θ' s' v, Q i as' → X.S θ' as' s' → Ext X.H θ s.heap θ' s'.heap → IsPart v i → post v s') : wpAny X.M A (evalPart e env) post E s := by
  cases e with
  | none => exact wpAny_pure (c none as θ s .none h S (Ext.refl _ _) .none)
  | some e =>
    rw [evalPart_some]
    refine h A θ s L env _ E R F S fun v as₁ θ₁ s₁ u q S₁ X₁ V₁ => ?_
    obtain ⟨i, rfl, q⟩ := q
    obtain ⟨t, rfl⟩ := V₁
    exact c _ _ _ _ _ q S₁ X₁ (.int i t)
theorem ev_slice {v : Expr} {lo hi : Option Expr} {p pos : Pos} {Q : PV}
    (h : EvS X dp f v as fun o as₁ => PtS X dp f lo as₁ fun x as₂ => PtS X dp f hi as₂ fun y as₃ => ∃ i ob xs, o = .obj i ∧ as₃[i]? = some ob ∧ ReadI ob xs ∧ xs.length ≤ 100000 ∧ sliceR xs x y fun ys => Q (.obj as₃.length) (as₃ ++ [.intx ys])) :
    EvS X dp f (.Subscript v (.Slice lo hi none p) pos) as Q := by
  intro A θ s L env post E R F S c
  refine Subscript_ (h A θ s L env _ E R F S fun o as₁ θ₁ s₁ ov q S₁ X₁ V₁ => ?_)
  refine wpAny_Slice (part_ok q R (F.ext X₁) S₁ fun x as₂ θ₂ s₂ vl q₂ S₂ X₂ P₂ => part_ok q₂ R (F.ext (X₁.trans X₂)) S₂ fun y as₃ θ₃ s₃ vu q₃ S₃ X₃ P₃ => ?_)
  rw [evalPart_none]
  refine wpAny_pure ?_
  refine El_eeeaaaa q₃ fun i ob xs hr3 e1 e2 e3 q₄ => ?_; obtain rfl := hr3; try clear q₃
  refine El_ea (V₁.mono (X₂.trans X₃).pre) fun a ha hr2 => ?_; obtain rfl := hr2
  refine El_ea (readI_of S₃ e1 ha e2) fun vs hl r => ?_
  have hz : vs.size = xs.length := by rw [← Array.length_toList]; exact r.length
  refine El_ea (slice_ints r q₄) fun ys r' q₅ => ?_
  obtain ⟨S₄, X₄⟩ := S₃.junk { cls := .type "slice", data := .fields #[vl, vu, .none] }
  refine tail_any (ops := [.ref s₃.heap.objs.size, .ref a]) (s := { s₃ with heap := s₃.heap.push { cls := .type "slice", data := .fields #[vl, vu, .none] } }) (Heap.IsList.typeIs (s := { s₃ with heap := s₃.heap.push { cls := .type "slice", data := .fields #[vl, vu, .none] } }) (hl.push _)) slot_list_getitem.lookup ?_ rfl
  refine wpAny_getItem_list_slice (hl.push _) (Heap.IsSliceOf.new ..) P₂ P₃ .none (by simp) ?_ (by rw [hz, sizeLine_eq]; lia)
  have P := S₄.push (o := .intx ys) (ob := { cls := .type "list", data := .seq (slicePick vs x y none) }) rfl ⟨_, _, rfl, by simpa using r'⟩
  exact c _ _ _ _ _ q₅ P.1 ((((X₁.trans X₂).trans X₃).trans X₄).trans P.2) (obj_new S₄)
noncomputable def itemL (D : Cls) (o k : AV) (as : List AO) (Q : AV → Prop) : Prop := match o, k with
  | .obj i, .int j => (match as[i]? with
    | some (.tuple xs) => (0 ≤ j ∧ j < 2 ^ 63) ∧ (match xs[j.toNat]? with | some v => Q v | none => False)
    | _ => itemW D o k as Q)
  | _, _ => itemW D o k as Q
theorem ev_subL {v i : Expr} {pos : Pos} {Q : PV} (O : ClsOK D K X.h₀) (hn : noSlice i = true) (h : EvS X dp f v as fun o as₁ => EvS X dp f i as₁ fun k as₂ => itemL D o k as₂ fun r => Q r as₂) : EvS X dp f (.Subscript v i pos) as Q := by
  intro A θ s L env post E R F S c
  refine Subscript_ (h A θ s L env _ E R F S fun o as₁ θ₁ s₁ ov q S₁ X₁ V₁ => q A θ₁ s₁ L env _ E R (F.ext X₁) S₁ fun k as₂ θ₂ s₂ kv q₂ S₂ X₂ V₂ => ?_)
  have gen : itemW D o k as₂ (fun r => Q r as₂) → wpAny X.M A (subscriptTail v i ov kv) post E s₂ := fun q₂ => by
    obtain ⟨a, rfl, ht, hw⟩ := item_ok (prog := X.prog) (w := X.w) (A := A) (E := E) (Q := post) O S₂ q₂ (V₁.mono X₂.pre) V₂ fun av v q' V' => c av as₂ θ₂ s₂ v q' S₂ (X₁.trans X₂) V'
    exact tail_any ht slot_list_getitem.lookup hw (sub_eq hn _ _)
  have q₂ : itemL D o k as₂ (fun r => Q r as₂) := q₂
  unfold itemL at q₂
  split at q₂
  · rename_i i' j _
    split at q₂
    · rename_i xs hx
      obtain ⟨⟨b1, b2⟩, q₂⟩ := q₂
      obtain ⟨a, ha, rfl⟩ := V₁.mono X₂.pre
      obtain ⟨t, rfl⟩ := V₂
      refine El_eaeea (S₂.ar.objs i' _ a hx ha) fun ob h1 vs n hr4 r => ?_; obtain rfl := hr4
      split at q₂
      · rename_i w hw
        obtain ⟨u, hu, ru⟩ := r.get hw
        have hj : j.toNat < vs.size := by
          have := (List.getElem?_eq_some_iff.mp hu).1
          simpa using this
        have ht : IsTup s₂.heap a vs := ⟨_, h1, rfl, n, rfl⟩
        refine tail_any ht.typeIs slot_tuple_getitem.lookup (getItem_tuple ht (by lia) b2 (j := j.toNat) ?_ (by rw [← Array.getElem?_toList]; exact hu) (c _ _ _ _ _ q₂ S₂ (X₁.trans X₂) ru)) (sub_eq hn _ _)
        unfold seqIndex?
        simp only [show ¬ (j < 0) by lia, if_false]
        rw [if_pos (by simp; lia)]
      · cases q₂
    · exact gen q₂
  · exact gen q₂
theorem st_augS {o e : Expr} {x : Str} {px p pos : Pos} {op : Operator} {Q : PF} (O : ClsOK D K X.h₀) (hop : isMod op = false)
    (h : EvS X dp f o as fun ov as₁ => EvS X dp f (.Name x px) as₁ fun iv as₂ => itemW D ov iv as₂ fun old => EvS X dp f e as₂ fun b as₃ => ∃ i j k, old = .int i ∧ b = .int j ∧ intA op i j = some k ∧ putW ov iv (.int k) as₃ fun as₄ => Q .next f.loc as₄) :
    ExS X dp f (.AugAssign (.Subscript o (.Name x px) p) op e pos) as Q := by
  intro A θ s L env post E R F S c
  refine wpAny_AugAssign_Subscript (h A θ s L env _ E R F S fun ov as₁ θ₁ s₁ v q S₁ X₁ V₁ => q A θ₁ s₁ L env _ E R (F.ext X₁) S₁ fun iv as₂ θ₂ s₂ u q₂ S₂ X₂ V₂ => ?_)
  have X₁₂ := X₁.trans X₂
  have side : ∀ old v', (EvS X dp f e as₂ fun b as₃ => ∃ i j k, old = .int i ∧ b = .int j ∧ intA op i j = some k ∧ putW ov iv (.int k) as₃ fun as₄ => Q .next f.loc as₄) → VR θ₂ old v' →
      wpAny X.M A (eval e env) (fun v'' s₄ => wpAny X.M A (inplaceOp op v' v'') (fun new s₅ => wpAny X.M A (setItem v u new) (fun _ => post .next) E s₅) E s₄) E s₂ := fun old v' q₃ V₃ => by
    refine q₃ A θ₂ s₂ L env _ E R (F.ext X₁₂) S₂ fun b' as₃ θ₃ s₃ u' q₄ S₃ X₃ V₄ => ?_
    refine El_eeeaaa q₄ fun i j k hr3 hr4 ek q₅ => ?_; obtain rfl := hr3; obtain rfl := hr4; try clear q₄
    obtain ⟨t, rfl⟩ := V₃
    obtain ⟨t', rfl⟩ := V₄
    have X₁₃ := X₁₂.trans X₃
    refine inp_int ek ?_ (not_mod hop)
    exact put_ok (s := { s₃ with toks := s₃.toks + 1 }) (S₃.toks _) q₅ (V₁.mono (X₂.trans X₃).pre) (V₂.mono X₃.pre) ⟨_, rfl⟩ fun as' s' q' S' X' => c _ _ _ θ₃ s' _ q' S' (X₁₃.trans X').toL (F.ext (X₁₃.trans X')) rfl
  refine El_eaa (item_ok (prog := X.prog) (w := X.w) (A := A) (E := E) (Q := fun old s₃ => wpAny X.M A (eval e env) (fun v' s₄ => wpAny X.M A (inplaceOp op old v') (fun new s₅ => wpAny X.M A (setItem v u new) (fun _ => post .next) E s₅) E s₄) E s₃) O S₂ q₂ (V₁.mono X₂.pre) V₂ side) fun a ea ht hw => ?_
  exact hw
end
end Mine

end
section
open PySem PySem.W PyProof.Rows PySem.SeqAt
namespace Mine
noncomputable def intSeq : AO → Option (Bool × List Int)
  | .ints xs => some (true, xs)
  | .intx xs => some (true, xs)
  | .tuple vs => (match intsOf vs with | some xs => some (false, xs) | none => none)
  | _ => none
noncomputable def cmpV (op : CmpOp) (a b : AV) (as : List AO) (K : Bool → Prop) : Prop := match a, b with
  | .obj i, .obj j => (match as[i]?, as[j]? with
    | some oa, some ob => (match intSeq oa, intSeq ob with
      | some (true, xs), some (true, ys) => (match op with | .Eq => K (decide (xs = ys)) | .NotEq => K (!decide (xs = ys)) | _ => False)
      | some (false, xs), some (false, ys) => (match op with | .Eq => K (decide (xs = ys)) | _ => False)
      | _, _ => False)
    | _, _ => False)
  | _, _ => (match cmpA op a b with | some v => K v | none => False)
theorem all_eq (e : Nat → Bool) : ∀ (xs ys : List Int), xs.length = ys.length → (∀ j, (h1 : j < xs.length) → (h2 : j < ys.length) → e j = (xs[j] == ys[j])) → (List.range xs.length).all e = decide (xs = ys) := by
  intro xs ys hl he
  rw [Bool.eq_iff_iff, List.all_eq_true, decide_eq_true_iff]
  constructor
  · intro h
    refine List.ext_getElem hl fun j h1 h2 => ?_
    have := h j (List.mem_range.mpr h1)
    rw [he j h1 h2] at this
    simpa using this
  · rintro rfl j hj
    rw [he j (List.mem_range.mp hj) (List.mem_range.mp hj)]
    simp
theorem ints_at {vs : Array Value} {xs : List Int} (h : IntsAre vs.toList xs) (j : Nat) (h1 : j < vs.size) : ∃ (h2 : j < xs.length) (t : Tok), vs[j] = .int xs[j] t := by
  have hl := h.length
  rw [Array.length_toList] at hl
  have h2 : j < xs.length := by lia
  obtain ⟨t, ht⟩ := h.get j xs[j] (List.getElem?_eq_getElem h2)
  refine ⟨h2, t, ?_⟩
  rw [Array.getElem?_toList, Array.getElem?_eq_getElem h1] at ht
  exact Option.some.inj ht
section
variable {X : Cx} {dp : Nat} {f : Fm} {as as' : List AO} {θ θ' : List Addr} {s s' : Shared} {L b : Addr} {env : Env} {D : Cls} {K : Frag}
theorem seq_at (S : X.S θ as s) {i : Nat} {a : Addr} {o : AO} {t : Bool} {xs : List Int} (hi : as[i]? = some o) (ha : θ[i]? = some a) (h : intSeq o = some (t, xs)) : ∃ vs : Array Value, (if t then s.heap.IsList a vs else s.heap.IsTuple a vs) ∧ IntsAre vs.toList xs := by
  rcases o with ys | ys | v | ob | ys | ys | ⟨C, d⟩ | es | ⟨fa, i⟩
  · cases Option.some.inj (show some (true, ys) = some (t, xs) from h); exact ints_of S hi ha
  · cases Option.some.inj (show some (true, ys) = some (t, xs) from h); exact intx_of S hi ha
  · exact absurd (show none = some (t, xs) from h) (by simp)
  · exact absurd (show none = some (t, xs) from h) (by simp)
  · exact absurd (show none = some (t, xs) from h) (by simp)
  · have h : (match intsOf ys with | some xs => some (false, xs) | none => none) = some (t, xs) := h
    split at h
    · rename_i zs hz
      cases h
      refine El_eaeea (S.ar.objs i _ a hi ha) fun ob h1 vs n hr4 r => ?_; obtain rfl := hr4
      exact ⟨vs, ⟨_, h1, rfl, n, rfl⟩, intsOf_ok r hz⟩
    · cases h
  all_goals exact absurd (show none = some (t, xs) from h) (by simp)
theorem eq_at {A : Around} {vs ws : Array Value} {xs ys : List Int} (r1 : IntsAre vs.toList xs) (r2 : IntsAre ws.toList ys) : ∀ j (h1 : j < vs.size) (h2 : j < ws.size), EqAt A s vs[j] ws[j] (xs.getD j 0 == ys.getD j 0) := fun j h1 h2 => by
  refine El_ee (ints_at r1 j h1) fun l1 t1 e1 => ?_
  refine El_ee (ints_at r2 j h2) fun l2 t2 e2 => ?_
  rw [e1, e2, List.getD_eq_getElem?_getD, List.getD_eq_getElem?_getD, List.getElem?_eq_getElem l1, List.getElem?_eq_getElem l2]
  exact EqAt.int_int _ _ _ _
theorem cmp_vals {op : CmpOp} {a b : AV} {x y : Value} {P : Bool → Prop} {A : Around} {E : Value → Shared → Prop} {Q : Value → Shared → Prop} (hu : A.units < cLine) (S : X.S θ as s) (h : cmpV op a b as P) (ha : VR θ a x) (hb : VR θ b y)
    (c : ∀ r, P r → Q (.bool r) s) : wpAny X.M A (compareOp op x y) Q E s := by
  unfold cmpV at h
  split at h
  · rename_i i j
    obtain ⟨p, hp, rfl⟩ := ha
    obtain ⟨q, hq, rfl⟩ := hb
    split at h
    · rename_i oa ob ea eb
      split at h
      · rename_i xs ys e1 e2
        obtain ⟨vs, l1, r1⟩ := seq_at S ea hp e1
        obtain ⟨ws, l2, r2⟩ := seq_at S eb hq e2
        have l1 : s.heap.IsList p vs := l1
        have l2 : s.heap.IsList q ws := l2
        have z1 : vs.size = xs.length := by rw [← Array.length_toList]; exact r1.length
        have z2 : ws.size = ys.length := by rw [← Array.length_toList]; exact r2.length
        by_cases hz : xs.length = ys.length
        · have he : (List.range vs.size).all (fun j => xs.getD j 0 == ys.getD j 0) = decide (xs = ys) := by
            rw [z1]
            exact all_eq _ xs ys hz fun j h1 h2 => by rw [List.getD_eq_getElem?_getD, List.getD_eq_getElem?_getD, List.getElem?_eq_getElem h1, List.getElem?_eq_getElem h2]; rfl
          split at h
          · exact cmp_ofEq (RcAt.lists l1 l2 (by lia) hu (eq_at r1 r2) _ _ _ _ (by rw [he]; exact c _ h))
          · exact cmp_ofNotEq (RcNeAt.lists l1 l2 (by lia) hu (eq_at r1 r2) _ _ _ _ (by rw [he]; exact c _ h))
          · cases h
        · have hd : decide (xs = ys) = false := decide_eq_false fun e => hz (by rw [e])
          rw [hd] at h
          split at h
          · exact cmp_ofEq (RcAt.lists_lengths l1 l2 (by simp; lia) hu _ _ _ _ (c _ h))
          · exact cmp_ofNotEq (RcNeAt.lists_lengths l1 l2 (by simp; lia) hu _ _ _ _ (c _ h))
          · cases h
      · rename_i xs ys e1 e2
        obtain ⟨vs, l1, r1⟩ := seq_at S ea hp e1
        obtain ⟨ws, l2, r2⟩ := seq_at S eb hq e2
        have l1 : s.heap.IsTuple p vs := l1
        have l2 : s.heap.IsTuple q ws := l2
        have z1 : vs.size = xs.length := by rw [← Array.length_toList]; exact r1.length
        have z2 : ws.size = ys.length := by rw [← Array.length_toList]; exact r2.length
        split at h
        · refine cmp_ofEq (RcAt.tuples l1 l2 hu (eq_at r1 r2) _ _ _ _ ?_)
          by_cases hz : xs.length = ys.length
          · have he : ((List.range (min vs.size ws.size)).all (fun j => xs.getD j 0 == ys.getD j 0) && vs.size == ws.size) = decide (xs = ys) := by
              rw [z1, z2, hz, Nat.min_self, beq_self_eq_true, Bool.and_true, ← hz]
              exact all_eq _ xs ys hz fun j h1 h2 => by rw [List.getD_eq_getElem?_getD, List.getD_eq_getElem?_getD, List.getElem?_eq_getElem h1, List.getElem?_eq_getElem h2]; rfl
            rw [he]; exact c _ h
          · have hd : decide (xs = ys) = false := decide_eq_false fun e => hz (by rw [e])
            rw [hd] at h
            have : (vs.size == ws.size) = false := by simp; lia
            rw [this, Bool.and_false]; exact c _ h
        · cases h
      · cases h
    · cases h
  · split at h
    · rename_i v hv; exact cmp_av hv ha hb (c v h)
    · cases h
theorem ts_cmpV {l r : Expr} {op : CmpOp} {pos : Pos} {Q : PB} (hm : behindInMarks op r = false) (h : EvS X dp f l as fun a as₁ => EvS X dp f r as₁ fun b as₂ => cmpV op a b as₂ fun v => Q v as₂) : TsS X dp f (.Compare l [op] [r] pos) as Q := by
  intro A θ s L env post E R F S c
  refine wpAny_isTrue_Compare1 (h A θ s L env _ E R F S fun a as₁ θ₁ s₁ v q S₁ X₁ V₁ => q A θ₁ s₁ L env _ E R (F.ext X₁) S₁ fun b as₂ θ₂ s₂ u q₂ S₂ X₂ V₂ => ?_) hm
  exact cmp_vals (by have := R.2.1; lia) S₂ q₂ (V₁.mono X₂.pre) V₂ fun y q₃ => wpAny_truthy_bool (c _ _ θ₂ s₂ q₃ S₂ (X₁.trans X₂))
theorem ev_cmpV {l r : Expr} {op : CmpOp} {pos : Pos} {Q : PV} (hm : behindInMarks op r = false) (h : EvS X dp f l as fun a as₁ => EvS X dp f r as₁ fun b as₂ => cmpV op a b as₂ fun v => Q (.bool v) as₂) : EvS X dp f (.Compare l [op] [r] pos) as Q := by
  intro A θ s L env post E R F S c
  refine wpAny_Compare1 (h A θ s L env _ E R F S fun a as₁ θ₁ s₁ v q S₁ X₁ V₁ => q A θ₁ s₁ L env _ E R (F.ext X₁) S₁ fun b as₂ θ₂ s₂ u q₂ S₂ X₂ V₂ => ?_) hm
  exact cmp_vals (by have := R.2.1; lia) S₂ q₂ (V₁.mono X₂.pre) V₂ fun y q₃ => c _ _ θ₂ s₂ _ q₃ S₂ (X₁.trans X₂) rfl
end
end Mine

end
section
open PySem PySem.W PyProof.Rows PySem.SeqAt
namespace Mine
noncomputable def relN (sc : Scope) : List (Str × NameKind) → List (Str × NameKind)
  | [] => []
  | (n, k) :: r => (match k == .free, isKind .cell sc n with | true, true => (n, .cell) | _, _ => (n, k)) :: relN sc r
noncomputable def relS (scope sc : Scope) : Scope := { scope with names := relN sc scope.names }
noncomputable def cloA (cells : List (Str × Nat)) : List (Str × NameKind) → List (Str × Nat) → Option (List (Str × Nat))
  | [], acc => some acc
  | (n, k) :: r, acc => match k == .free with
    | true => (match lk cells n with | some i => cloA cells r ((n, i) :: acc) | none => none)
    | false => cloA cells r acc
section
variable {X : Cx} {dp : Nat} {f : Fm} {as as' : List AO} {θ θ' : List Addr} {s s' : Shared} {L b : Addr} {env : Env} {D : Cls} {K : Frag}
noncomputable def notDbg : List (Str × NameKind) → Bool
  | [] => true
  | (n, _) :: r => !seq n dbg && notDbg r
theorem relN_eq (F : FrR X f L env θ s.heap) : ∀ (names : List (Str × NameKind)), notDbg names = true → (names.map fun (n, k) => if (k == .free && env.scope.kind == .function && env.kindOf n == some .cell) then (n, NameKind.cell) else (n, k)) = relN f.sc names
  | [], _ => rfl
  | (n, k) :: r, h => by
    unfold notDbg at h
    simp only [Bool.and_eq_true, Bool.not_eq_true'] at h
    rw [List.map_cons, relN_eq F r h.2, show relN f.sc ((n, k) :: r) = (match k == .free, isKind .cell f.sc n with | true, true => (n, .cell) | _, _ => (n, k)) :: relN f.sc r from rfl]
    congr 1
    have kf : (env.scope.kind == ScopeKind.function) = true := by rw [F.scope, F.kind]; rfl
    have hk : (env.kindOf n == some NameKind.cell) = isKind .cell f.sc n := by
      unfold Env.kindOf isKind
      rw [F.scope, lk_lookup, h.1]
      cases f.sc.names.lookup n with
      | none => rfl
      | some j => cases j <;> rfl
    simp only [kf, Bool.and_true, hk]
    cases k == NameKind.free <;> cases isKind .cell f.sc n <;> rfl
theorem clo_rel (F : FrR X f L env θ s.heap) : ∀ (names : List (Str × NameKind)) (accA : List (Str × Nat)) (acc : List (Str × Addr)) {cA : List (Str × Nat)}, cloA f.cells names accA = some cA →
    (∀ x i, lk accA x = some i → ∃ a, θ[i]? = some a ∧ acc.lookup x = some a) → ∃ cs, clo env.cells names acc = some cs ∧ ∀ x i, lk cA x = some i → ∃ a, θ[i]? = some a ∧ cs.lookup x = some a
  | [], accA, acc, cA, h, r => by cases h; exact ⟨acc, rfl, r⟩
  | (n, k) :: rest, accA, acc, cA, h, r => by
    unfold cloA at h
    unfold clo
    cases hk : k == NameKind.free with
    | false => rw [hk] at h; exact clo_rel F rest accA acc h r
    | true =>
      rw [hk] at h
      simp only at h ⊢
      cases hl : lk f.cells n with
      | none => rw [hl] at h; cases h
      | some i =>
        rw [hl] at h
        refine El_ea (F.cells n i hl) fun a ha he => ?_
        rw [he]
        refine clo_rel F rest _ _ h fun x j q => ?_
        unfold lk at q
        rw [List.lookup_cons]
        cases hs : seq n x with
        | true =>
          rw [hs] at q; cases q
          have := seq_iff.mp hs; subst this
          exact ⟨a, ha, by simp⟩
        | false =>
          rw [hs] at q
          have hn : (x == n) = false := by
            cases h' : x == n with
            | false => rfl
            | true => have := eq_of_beq h'; subst this; rw [seq_iff.mpr rfl] at hs; cases hs
          rw [hn]; exact r x j q
theorem St.retype (S : X.S θ as s) {d : Nat} {o o' : AO} (hd : as[d]? = some o) (h : ∀ ob, OR θ o ob → OR θ o' ob) : X.S θ (as.set d o') s := by
  refine ⟨⟨by rw [List.length_set]; exact S.ar.len, S.ar.nodup, fun i oi a e1 e2 => ?_⟩, S.base, S.apart, S.gens, S.os, S.tabs, S.hnin, S.hbase, S.pin⟩
  by_cases q : i = d
  · subst q
    have hl : i < as.length := (List.getElem?_eq_some_iff.mp hd).1
    rw [List.getElem?_set_self hl] at e1
    cases e1
    obtain ⟨ob, x, y⟩ := S.ar.objs i o a hd e2
    exact ⟨ob, x, h ob y⟩
  · rw [List.getElem?_set_ne (Ne.symm q)] at e1
    exact S.ar.objs i oi a e1 e2
theorem list_mkL {vs : List AV} {ob : Obj} (h : OR θ (.list vs) ob) : OR θ (mkL vs) ob := by
  obtain ⟨us, n, rfl, r⟩ := h
  unfold mkL
  split
  · rename_i xs hx; exact ⟨us, n, rfl, intsOf_ok r hx⟩
  · exact ⟨us, n, rfl, r⟩
noncomputable def compFm (f : Fm) (scope : Scope) (cA : List (Str × Nat)) (loc : Loc) : Fm := ⟨relS scope f.sc, loc, cA, f.code, f.qual⟩
theorem ev_compR {elt : Expr} {x r : Str} {px pr pc pos : Pos} {args : List Expr} {scope : Scope} {cA : List (Str × Nat)} {Q : PV} (hr : isKind .globalImplicit f.sc r = true) (G : GlobV X r (.type "range")) (hs : noStar args = true)
    (hcA : cloA f.cells scope.names [] = some cA) (hdbg : notDbg scope.names = true) (hkind : scope.kind = .function) (hnames : ∀ y ∈ scope.names, y.2 = .local → scope.names.lookup y.1 = some .local) (hcell : ∀ y ∈ scope.names, y.2 ≠ .cell)
    (h : EvsS X dp f args as fun vs as₁ => ∃ a b, RngArgs vs a b ∧ (Small a ∧ Small b) ∧ ∃ Inv Bd : Nat → Loc → List AO → Prop, Inv 0 [] (as₁ ++ [.list []]) ∧
      (∀ (k : Nat) loc as₂, Inv k loc as₂ → ∃ ys, as₂[as₁.length]? = some (.list ys) ∧ ys.length ≤ k) ∧
      (∀ (k : Nat) loc as₂, a + k < b → Inv k loc as₂ → storeW (compFm f scope cA loc) x (.int (a + k)) as₂ fun loc' as' => Bd k loc' as') ∧
      (∀ (k : Nat) loc as₂, a + k < b → Bd k loc as₂ → EvS X dp (compFm f scope cA loc) elt as₂ fun y as₃ => ∃ ys, as₃[as₁.length]? = some (.list ys) ∧ ys.length ≤ k ∧ Inv (k + 1) loc (as₃.set as₁.length (.list (ys ++ [y])))) ∧
      b - a ≤ 100000 ∧ (∀ loc as₂, Inv (b - a).toNat loc as₂ → ∃ ys, as₂[as₁.length]? = some (.list ys) ∧ Q (.obj as₁.length) (as₂.set as₁.length (mkL ys)))) :
    EvS X dp f (.ListComp elt [⟨.Name x px, .Call (.Name r pr) args [] pc, [], 0⟩] scope pos) as Q := by
  intro A θ s L env post E R F S c
  refine El_ea (clo_rel F scope.names [] [] hcA (fun x i q => by cases q)) fun cs hclo hcs => ?_
  rw [eval_ListComp]
  refine wpAny_comprehension_free (g := ⟨.Name x px, .Call (.Name r pr) args [] pc, [], 0⟩) (gs := []) rfl (fun _ => rfl) (closure_eq hclo) hkind hnames ?_
  refine wpAny_Call_Name_kw (ev_glob (av := .ty "range") (Q := fun av as₁ => av = .ty "range" ∧ as₁ = as) hr G rfl ⟨rfl, rfl⟩ A θ s L env _ E R F S fun av as₁ θ₁ s₁ v q S₁ X₁ V₁ => ?_)
  obtain ⟨rfl, rfl⟩ := q
  cases V₁
  rw [back_eq pc env args hs]
  refine PyProof.Rows.callWith_type (by rw [plain_any _ (fun _ => rfl)]) (args_ok ?_)
  refine h A θ₁ s₁ L env _ E R (F.ext X₁) S₁ fun vs as₂ θ₂ s₂ us q S₂ X₂ V₂ => ?_
  refine El_eeaaeeaaaaa q fun a b hab hc3 Inv Bd h0 hac hst hel hbd hend => ?_; obtain ⟨sa, sb⟩ := hc3; try clear q
  have X₁₂ := X₁.trans X₂
  refine call_rng (X := X) V₂ hab fun t u v k => ?_
  refine wpAny_pyIter_range (IsRange.new _ a b 1 t u v) (small_one sa.1 sa.2 sb.1 sb.2) ?_
  have G3 := S₂.junk { cls := .type "range", data := .fields #[.int a t, .int b u, .int 1 v] }
  have G4 := G3.1.junk { cls := .type "range_iterator", data := .fields #[rawInt a, rawInt (Builtin.Range.rangeSize a b 1), rawInt 1] }
  have hN : Builtin.Range.rangeSize a b 1 = ((b - a).toNat : Int) := by rw [rangeSize_one]; split <;> lia
  have J0 : IsRangeIter ((s₂.heap.push { cls := .type "range", data := .fields #[.int a t, .int b u, .int 1 v] }).push { cls := .type "range_iterator", data := .fields #[rawInt a, rawInt (Builtin.Range.rangeSize a b 1), rawInt 1] }) (s₂.heap.push { cls := .type "range", data := .fields #[.int a t, .int b u, .int 1 v] }).objs.size (a + (0 : Nat)) ((b - a).toNat - (0 : Nat)) 1 := by
    show Heap.get? _ _ = _
    rw [Heap.get?_push_size _ rfl, hN]
    simp
  have ni : s₂.heap.get? (s₂.heap.push { cls := .type "range", data := .fields #[.int a t, .int b u, .int 1 v] }).objs.size = none := none_ge (by rw [Heap.size_push]; lia)
  have Fi := Free.new G3.1 (b := (s₂.heap.push { cls := .type "range", data := .fields #[.int a t, .int b u, .int 1 v] }).objs.size) (h' := (s₂.heap.push { cls := .type "range", data := .fields #[.int a t, .int b u, .int 1 v] }).push { cls := .type "range_iterator", data := .fields #[rawInt a, rawInt (Builtin.Range.rangeSize a b 1), rawInt 1] }) (Nat.le_refl _) (fun a' o e => Heap.get?_push_of_some _ e) ⟨_, J0⟩
  have X34 := G3.2.trans G4.2
  have S4 := G4.1
  revert J0 ni Fi X34 S4
  show ∀ (_ : IsRangeIter _ (s₂.heap.push { cls := .type "range", data := .fields #[.int a t, .int b u, .int 1 v] }).objs.size _ _ _) (_ : _) (_ : Free X θ₂ _ (s₂.heap.push { cls := .type "range", data := .fields #[.int a t, .int b u, .int 1 v] }).objs.size) _ _, wpAny X.M A (newList []) (fun acc s₃ => wpAny X.M A (newFunctionEnv _ _ _ _ _ _ _ _) (fun cenv s₄ => codeAny X.M A (.compStart _ 0 (.ref (s₂.heap.push { cls := .type "range", data := .fields #[.int a t, .int b u, .int 1 v] }).objs.size) _ _) _ s₄) E s₃) E _
  generalize (s₂.heap.push { cls := .type "range", data := .fields #[.int a t, .int b u, .int 1 v] }).objs.size = it
  generalize (s₂.heap.push { cls := .type "range", data := .fields #[.int a t, .int b u, .int 1 v] }).push { cls := .type "range_iterator", data := .fields #[rawInt a, rawInt (Builtin.Range.rangeSize a b 1), rawInt 1] } = h4
  intro J0 ni Fi X34 S4
  have S4 : X.S θ₂ as₂ { s₂ with heap := h4, toks := k } := S4.toks k
  refine wpAny_newObj_type ?_ (by size_fits)
  obtain ⟨S5, X5⟩ := S4.push (o := .list []) (ob := { cls := .type "list", data := .seq #[] }) rfl ⟨#[], 0, rfl, .nil⟩
  have Fi5 : Free X (θ₂ ++ [h4.objs.size]) (h4.push { cls := .type "list", data := .seq #[] }) it := Fi.extL (s := { s₂ with heap := h4, toks := k }) (s' := { s₂ with heap := h4.push { cls := .type "list", data := .seq #[] }, toks := k }) (L := it + 1) X5.toL (Nat.ne_of_lt (Nat.lt_succ_self _))
  have J5 : IsRangeIter (h4.push { cls := .type "list", data := .seq #[] }) it (a + (0 : Nat)) ((b - a).toNat - (0 : Nat)) 1 := Heap.get?_push_of_some _ J0
  have hD : (θ₂ ++ [h4.objs.size])[as₂.length]? = some h4.objs.size := by rw [S₂.ar.len]; simp
  have X25 : Ext X.H θ₂ s₂.heap (θ₂ ++ [h4.objs.size]) (h4.push { cls := .type "list", data := .seq #[] }) := X34.trans X5
  have F5 : FrR X f L env (θ₂ ++ [h4.objs.size]) (h4.push { cls := .type "list", data := .seq #[] }) := (F.ext X₁₂).ext X25
  revert S5 Fi5 J5 hD X25 F5
  show ∀ (_ : X.S (θ₂ ++ [h4.objs.size]) (as₂ ++ [.list []]) { s₂ with heap := h4.push { cls := .type "list", data := .seq #[] }, toks := k }) _ _ _ _ _, wpAny X.M A (newFunctionEnv _ _ _ _ _ _ _ _) (fun cenv s₄ => codeAny X.M A (.compStart _ 0 _ (.ref h4.objs.size) _) (compPost X.M A E none post (.ref h4.objs.size) _) s₄) E { s₂ with heap := h4.push { cls := .type "list", data := .seq #[] }, toks := k }
  generalize h4.push { cls := .type "list", data := .seq #[] } = h5
  generalize h4.objs.size = dd
  intro S5 Fi5 J5 hD X25 F5
  refine wpAny_newFunctionEnv hcell (fun y hy => by cases hy) (fun h6 hns hsb => ?_) hkind
  have hsb : Heap.SameBut h5.objs.size (h5.push { cls := .type "dict", data := .dict #[] }) h6 := hsb
  have hns : h6.Ns h5.objs.size (fun y => ([] : List (Str × Value)).reverse.lookup y) := hns
  have hk6 : ∀ b' o, h5.get? b' = some o → h6.get? b' = some o := fun b' o e => hsb.extBut b' o (Nat.ne_of_lt (Heap.lt_size e)) (Heap.get?_push_of_some _ e)
  have S6 : X.S (θ₂ ++ [dd]) (as₂ ++ [.list []]) { s₂ with heap := h6, toks := k + 0 } := S5.keeps (k := k + 0) hk6
  have X6 : Ext X.H (θ₂ ++ [dd]) h5 (θ₂ ++ [dd]) h6 := ⟨List.prefix_refl _, fun _ a b => absurd a b, fun b o q _ _ => hk6 b o q, fun b o q => ⟨o, hk6 b o q⟩, S5.tabKeep hk6⟩
  have Fi6 : Free X (θ₂ ++ [dd]) h6 it := Fi5.extL (s := { s₂ with heap := h5, toks := k }) (s' := { s₂ with heap := h6, toks := k }) (L := it + 1) X6.toL (Nat.ne_of_lt (Nat.lt_succ_self _))
  have J6 : IsRangeIter h6 it (a + (0 : Nat)) ((b - a).toNat - (0 : Nat)) 1 := hk6 _ _ J5
  have nC : h5.objs.size ∉ θ₂ ++ [dd] := fun m => Nat.lt_irrefl _ (S5.lt m)
  have nC2 : s₂.heap.get? h5.objs.size = none := by
    cases q : s₂.heap.get? h5.objs.size with
    | none => rfl
    | some o => obtain ⟨o', z⟩ := X25.ex _ _ q; exact absurd (Heap.lt_size z) (Nat.lt_irrefl _)
  have itC : it ≠ h5.objs.size := fun q => by rw [q] at J5; exact absurd (Heap.lt_size J5) (Nat.lt_irrefl _)
  have FC : FrR X (compFm f scope cA []) h5.objs.size { newEnv scope h5.objs.size env.globals cs env.qual none .none (some env) 0 with scope := relabel scope env } (θ₂ ++ [dd]) h6 := by
    refine ⟨?_, hkind, rfl, nC, S5.fresh, S5.freshH, ⟨_, hns, fun y av e => by cases e⟩, fun y i q => ?_, F.glob, F.blt, F.code, F.qual⟩
    · show relabel scope env = relS scope f.sc
      unfold relabel relS
      rw [relN_eq F scope.names hdbg]
    · refine El_ea (hcs y i q) fun a' h1 h2 => ?_
      exact ⟨a', get_pre ((X₁₂.pre.trans X25.pre)) h1, h2⟩
  revert FC
  show ∀ (_ : FrR X (compFm f scope cA []) h5.objs.size _ (θ₂ ++ [dd]) h6), codeAny X.M A (.compStart _ 0 (.ref it) (.ref dd) { newEnv scope h5.objs.size env.globals cs env.qual none .none (some env) 0 with scope := relabel scope env }) (compPost X.M A E none post (.ref dd) h5.objs.size) { s₂ with heap := h6, toks := k + 0 }
  generalize ({ newEnv scope h5.objs.size env.globals cs env.qual none .none (some env) 0 with scope := relabel scope env } : Env) = cenv
  generalize h5.objs.size = C at nC nC2 itC hsb hns ⊢
  intro FC
  have hf : ∀ b' ∈ [it], b' ≠ C ∧ s₂.heap.get? b' = none := one_mem ⟨itC, ni⟩
  have J1 : ∀ (k : Nat) (h h' : Heap), IsRangeIter h it (a + k) ((b - a).toNat - k) 1 → (∀ b' ∈ [it], ∀ o, h.get? b' = some o → h'.get? b' = some o) → IsRangeIter h' it (a + k) ((b - a).toNat - k) 1 := fun k h h' x y => y _ (List.mem_singleton.mpr rfl) _ x
  have hdn : s₂.heap.get? dd = none ∧ dd ∉ X.H := X25.fresh dd (by simp) (fun m => by
    have h1 := S5.ar.nodup
    rw [List.nodup_append] at h1
    exact h1.2.2 dd m dd (by simp) rfl)
  have X26 := X25.trans X6
  have E0 : ExtL X.H C (θ₂ ++ [dd]) s₂.heap (θ₂ ++ [dd]) h6 := ⟨List.prefix_refl _, fun _ x y => absurd x y, fun b' o e n nh nC' => X26.keep b' o e (fun m => n (List.mem_append_left _ m)) nh, X26.ex, X26.tab⟩
  have L0 : LoopAt X (compFm f scope cA []) C cenv (θ₂ ++ [dd]) s₂.heap [it] (fun h => IsRangeIter h it (a + (0 : Nat)) ((b - a).toNat - (0 : Nat)) 1) (Inv 0) { s₂ with heap := h6, toks := k + 0 } :=
    ⟨θ₂ ++ [dd], as₂ ++ [.list []], [], h0, S6, FC, E0, J6, one_mem Fi6⟩
  have go : codeAny X.M A (.compLoop (.ListComp elt [⟨.Name x px, .Call (.Name r pr) args [] pc, [], 0⟩] scope pos) 0 (.ref it) (.ref dd) cenv) (compPost X.M A E none post (.ref dd) C) { s₂ with heap := h6, toks := k + 0 } := by
    refine codeAny_compLoop_list (fun n s' => ∃ k, k ≤ (b - a).toNat ∧ n = (b - a).toNat - k ∧ LoopAt X (compFm f scope cA []) C cenv (θ₂ ++ [dd]) s₂.heap [it] (fun h => IsRangeIter h it (a + k) ((b - a).toNat - k) 1) (Inv k) s') ?_ (b - a).toNat ⟨0, Nat.zero_le _, rfl, L0⟩
    rintro n s' ⟨k, hk, rfl, hI⟩
    refine El_eeeaaaaa (id hI.ex) fun θ' as' loc q1 q2 q3 q4 q5 q6 => ?_
    by_cases hq : k = (b - a).toNat
    · refine wpAny_pyNext_range_end R.2.2 q5 (by lia) fun h' hx => ?_
      have hI' := hI.free (k := s'.toks) (fs' := []) (J' := fun _ => True) hf (fun _ m => by cases m) (fun a' o m e => hx a' o (by simpa using m) e) (fun _ m => by cases m) trivial
      refine El_eeeaaaaa hI'.ex fun θ' as' loc q1 q2 q3 q4 q5 q6 => ?_
      refine El_ea q3.ns fun m hm _ => ?_
      refine ⟨m, hm, fun h'' hs'' => ?_⟩
      rw [hq] at q1
      obtain ⟨ys, hys, hQ⟩ := hend loc as' q1
      have S7 := q2.retype hys (o' := mkL ys) fun ob => list_mkL
      have hz : ∀ b' o, b' ≠ C → h'.get? b' = some o → h''.get? b' = some o := fun b' o n e => (hs''.2 b' n).trans e
      have FrC : Free X θ' h' C := by
        obtain ⟨o, ho⟩ := q3.there
        refine ⟨q3.nin, q3.nhid, q3.apart, fun e he l kk c' q r' => ?_, ⟨o, ho⟩⟩
        obtain ⟨mm, ⟨oL, es, ep, hoL, hdL, _⟩, _⟩ := q3.ns
        rcases q2.tabs e he with t' | ⟨c'', t1, ⟨c3, oc, vs', tt, e1, e2, e3, _⟩, _⟩
        · rw [show h'.get? e.P = _ from t'] at q; injection q with q; injection q with _ _ q _; injection q with q; have := congrArg Array.size q; simp at this
        · cases e1
          rw [show h'.get? e.P = _ from t1] at q; injection q with q
          have hc := tab_inj q
          rw [hc, r', show ({ s' with heap := h', toks := s'.toks } : Shared).heap.get? C = _ from hoL] at e2
          cases e2; rw [hdL] at e3; cases e3
      have S8 := S7.free (fs := [C]) (one_mem FrC) (h' := h'') (k := s'.toks) fun a' o m e => hz a' o (by simpa using m) e
      refine c _ _ θ' _ _ hQ S8 ⟨X₁₂.pre.trans (List.IsPrefix.trans ⟨_, rfl⟩ q4.pre), fun a' m' n' => ?_, fun b' o e' n' nh' => ?_, fun b' o e' => ?_, ?_⟩ ?_
      · by_cases z : a' ∈ θ₂
        · exact X₁₂.fresh a' z n'
        · obtain ⟨z1, z2⟩ : s₂.heap.get? a' = none ∧ a' ∉ X.H := by
            by_cases zd : a' = dd
            · rw [zd]; exact hdn
            · exact q4.fresh a' m' (fun mm => by
                rcases List.mem_append.mp mm with mm | mm
                · exact z mm
                · exact zd (by simpa using mm))
          refine ⟨?_, z2⟩
          cases rr : s.heap.get? a' with
          | none => rfl
          | some o => obtain ⟨o', zz⟩ := X₁₂.ex _ _ rr; rw [z1] at zz; cases zz
      · have e2 := X₁₂.keep b' o e' n' nh'
        have n2 : b' ∉ θ₂ := fun m' => by have := (X₁₂.fresh b' m' n').1; rw [e'] at this; cases this
        have n3 : b' ≠ C := fun z => by rw [z, nC2] at e2; cases e2
        have n4 : b' ∉ θ₂ ++ [dd] := fun mm => by
          rcases List.mem_append.mp mm with mm | mm
          · exact n2 mm
          · have : b' = dd := by simpa using mm
            rw [this, hdn.1] at e2; cases e2
        exact hz b' o n3 (q4.keep b' o e2 n4 nh' n3)
      · obtain ⟨o2, e2⟩ := X₁₂.ex b' o e'
        have n3 : b' ≠ C := fun z => by rw [z, nC2] at e2; cases e2
        obtain ⟨o3, e3⟩ := q4.ex b' o2 e2
        exact ⟨o3, hz b' o3 n3 e3⟩
      · refine tab_trans X₁₂.ex X₁₂.tab (tab_trans q4.ex q4.tab fun P m' => .inl (hs''.2 P fun z => q3.nhid (z ▸ m')))
      · exact ⟨dd, get_pre q4.pre hD, rfl⟩
    · refine wpAny_pyNext_range_item q5 (by lia) fun h' hi hs' => ?_
      have e1 : a + (k : Int) + 1 = a + ((k + 1 : Nat) : Int) := by lia
      have e2 : ((b - a).toNat : Int) - k - 1 = (b - a).toNat - ((k + 1 : Nat) : Int) := by lia
      rw [e1, e2] at hi
      have hI' := hI.free (k := s'.toks + 1) (J' := fun h => IsRangeIter h it (a + (k + 1 : Nat)) ((b - a).toNat - (k + 1 : Nat)) 1) hf (fun _ m => m) (fun a' o m e => (hs'.2 a' (by simpa using m)).trans e) (one_mem ⟨_, hi⟩) hi
      refine wpAny_assign_Name (wpAny_mono (hI'.store (av := .int (a + k)) hf (J1 (k + 1)) (fun θ => ⟨_, rfl⟩) fun loc as₂ q => hst k loc as₂ (by lia) q) (fun _ s₄ h₄ => ?_) fun _ _ z => z)
      refine El_eeeaaaaa h₄.ex fun θ₄ as₄ loc₄ p1 p2 p3 p4 p5 p6 => ?_
      refine hel k loc₄ as₄ (by lia) p1 A θ₄ s₄ C cenv _ _ R p3 p2 fun y as₅ θ₅ s₅ vy q₅ S₅ X₅ V₅ => ?_
      refine El_eaa q₅ fun ys hys hyl hInv => ?_; try clear q₅
      have pd : θ₅[as₂.length]? = some dd := get_pre (p4.pre.trans X₅.pre) hD
      refine El_eaeea (S₅.ar.objs as₂.length _ dd hys pd) fun ob g1 items nn hr4 gr => ?_; obtain rfl := hr4
      refine wpAny_list_append_plain (items := items) ⟨nn, g1⟩ (fun h₆ hpl hsb₆ => ?_) (by
        have := gr.len
        rw [← Array.length_toList, this, sizeLine_eq]; lia)
      obtain ⟨n6, g6⟩ := hpl
      have PU := S₅.upd (o' := .list (ys ++ [y])) pd hys hsb₆ g6 ⟨_, _, rfl, by rw [Array.toList_push]; exact gr.app (.cons V₅ .nil)⟩
      have X₄₆ := X₅.trans PU.2
      refine ⟨(b - a).toNat - (k + 1), by lia, k + 1, by lia, rfl, ⟨θ₅, _, loc₄, hInv, PU.1, p3.ext X₄₆, p4.thru p3.there X₄₆.toL, ?_, fun b' m' => (p6 b' m').extL (s' := { s₅ with heap := h₆ }) X₄₆.toL (hf b' m').1⟩⟩
      exact X₄₆.keep _ _ p5 (p6 it (.head _)).nin (p6 it (.head _)).nhid
  exact codeAny_compStart_list go (wpAny_pyIter_rangeiter J6 go)
end
end Mine

end
section
open PySem PySem.W PyProof.Rows PySem.SeqAt
namespace Mine
section
variable {X : Cx} {dp : Nat} {f : Fm} {as as' : List AO} {θ θ' : List Addr} {s s' : Shared} {L b : Addr} {env : Env} {D : Cls} {K : Frag}
theorem seq_list_iadd : seqSlot? (.type "list") (dunderI "add") = pure (some (.builtin "list.__iadd__")) := PySem.seqSlot_of PySem.F.slot_list_iadd.lookup (by decide +kernel)
theorem iadd_list {A : Around} {E : Value → Shared → Prop} {Q : Value → Shared → Prop} {a b : Addr} {vs ws : Array Value} {n n2 : Nat} (h1 : s.heap.get? a = some ⟨.type "list", none, .seq vs n, #[]⟩) (h2 : s.heap.get? b = some ⟨.type "list", none, .seq ws n2, #[]⟩) (hz : vs.size + ws.size ≤ 100000)
    (h : ∀ h' n', Heap.SameBut a s.heap h' → h'.get? a = some ⟨.type "list", none, .seq (vs ++ ws) n', #[]⟩ → Q (.ref a) { s with heap := h' }) : wpAny X.M A (inplaceOp .Add (.ref a) (.ref b)) Q E s := by
  have ta : s.TypeIs (.ref a) "list" := ⟨_, h1, rfl⟩
  have tb : s.TypeIs (.ref b) "list" := ⟨_, h2, rfl⟩
  unfold inplaceOp
  refine wpAny_holding ?_
  have hfi : fillsInplaceSlot (.type "list") "add" (Operator.Add == .Add) = pure false := by
    unfold fillsInplaceSlot
    show (typeLookup (.type "list") (dunderI "add") >>= fun fi => pure (fi.isSome && !isSeqSlot fi)) = pure false
    rw [PySem.F.slot_list_iadd.lookup]
    show (pure (true && !isSeqSlot (some (.builtin "list.__iadd__"))) : Sem Bool) = pure false
    rw [show isSeqSlot (some (.builtin "list.__iadd__")) = true by decide +kernel]; rfl
  refine wpAny_bind (wpAny_typeOf ta (wpAny_bind (wpAny_of_eq hfi ?_)))
  show wpAny X.M A (if false = true then _ else _) Q E s
  rw [if_neg Bool.false_ne_true]
  refine wpAny_bind (wpAny_binaryOp1_none (nm := "add") ta tb noFill_list_add ?_)
  refine wpAny_bind (wpAny_of_eq seq_list_iadd ?_)
  refine wpAny_bind (wpAny_rule ?_)
  refine call_meets PySem.F.slot_list_iadd ta PySem.F.entry_list_iadd (PySem.F.args_list_iadd_2 _ _) (PySem.AutoSeq1.list___iadd___list_list_0 a vs n b ws n2 ?_ ?_ ?_) ⟨h1, h2, ?_⟩
  · simp [Builtin.List.listTooLong, sizeLine]; lia
  · rw [sizeLine_eq]; lia
  · rw [sizeLine_eq]; lia
  · exact h _ _ (Heap.SameBut.update ..) (Heap.get?_update_self _ h1 rfl)
theorem st_augL {x : Str} {e : Expr} {i : Nat} {p pos : Pos} {Q : PF} (hx : isKind .local f.sc x = true) (hv : lk f.loc x = some (.obj i))
    (h : EvS X dp f e as fun b as₂ => ∃ j xs ys, b = .obj j ∧ as₂[i]? = some (.intx xs) ∧ as₂[j]? = some (.intx ys) ∧ xs.length + ys.length ≤ 100000 ∧ storeW f x (.obj i) (as₂.set i (.intx (xs ++ ys))) (Q .next)) : ExS X dp f (.AugAssign (.Name x p) .Add e pos) as Q := by
  intro A θ s L env post E R F S c
  obtain ⟨m, hm, r⟩ := F.ns
  refine El_eaea (r x _ hv) fun v hmx a ha hr4 => ?_; obtain rfl := hr4
  refine wpAny_AugAssign_Name (wpAny_loadName_local (by rw [F.scope]; exact F.kind) (F.kindOf hx) (F.loc ▸ hm) hmx ?_)
  refine h A θ s L env _ E R F S fun b as₂ θ₂ s₂ u q₂ S₂ X₂ V₂ => ?_
  refine El_eeeaaaa q₂ fun j xs ys hr3 e1 e2 e3 q₃ => ?_; obtain rfl := hr3; try clear q₂
  obtain ⟨b, hb, rfl⟩ := V₂
  have ha := get_pre X₂.pre ha
  refine El_eaeea (S₂.ar.objs i _ a e1 ha) fun ob g1 vs n hr4 r1 => ?_; obtain rfl := hr4
  refine El_eaeea (S₂.ar.objs j _ b e2 hb) fun ob g2 ws n2 hr4 r2 => ?_; obtain rfl := hr4
  have z1 : vs.size = xs.length := by rw [← Array.length_toList]; exact r1.length
  have z2 : ws.size = ys.length := by rw [← Array.length_toList]; exact r2.length
  refine iadd_list g1 g2 (by lia) fun h' n' hs hg => ?_
  have P := S₂.upd (o' := .intx (xs ++ ys)) ha e1 hs hg ⟨_, _, rfl, by rw [Array.toList_append]; exact IntsAre.append r1 r2⟩
  have X₃ := X₂.trans P.2
  exact store_ok (s := { s₂ with heap := h' }) q₃ (F.ext X₃) P.1 ⟨a, ha, rfl⟩ fun loc' as' s' q' S' X' F' => c _ _ _ θ₂ s' _ q' S' (X₃.toL.thru (F.ext X₃).there X') F' rfl
end
end Mine

end
section
open PySem PySem.W PyProof.Rows PySem.SeqAt
namespace Mine
structure MakeOK (X : Cx) (C fI : Addr) (d : FD) (n1 n2 : Str) : Prop where
  cls : ∃ K : Frag, K.In X.h₀ ∧ makesIn K C = true ∧ keepIn K (.ref C) = true ∧ findIn K (.ref C) "__init__" = some (some (.ref fI)) ∧ typeIn K (.ref fI) = some (.type "function")
  ex : ∃ o fd, X.h₀.get? fI = some o ∧ o.data = .func fd ∧ X.h₀.CodeRec fd.code fd.qualname ∧ fd.body = .stmts d.body ∧ fd.scope = d.scope ∧ fd.globals = 3 ∧ fd.builtins = 0 ∧ fd.code = d.code ∧ fd.qualname ++ ".<locals>." = d.qual ∧
    (∀ s : Shared, (∀ b o, X.h₀.get? b = some o → s.heap.get? b = some o) → ∀ x v1 v2, BindsTo s fd ⟨[x], [(n1, v1), (n2, v2)]⟩ (d.names.zip [x, v1, v2]))
  names : d.names.length = 3
  cell : ∀ x ∈ d.scope.names, x.2 ≠ .cell
  loc : ∀ x ∈ d.names, d.scope.names.lookup x = some .local
  co : d.scope.isCoroutine = false
  gen : d.scope.isGenerator = false
  kind : d.scope.kind = .function
  lim : X.h₀.NoLimit
section
variable {X : Cx} {dp : Nat} {f : Fm} {as as' : List AO} {θ θ' : List Addr} {s s' : Shared} {L b : Addr} {env : Env} {D : Cls} {K : Frag}
theorem call_make {C fI : Addr} {d : FD} {n1 n2 : Str} {v1 v2 : AV} {u1 u2 : Value} {Q : PV} (O : MakeOK X C fI d n1 n2) {A : Around} (R : Room A (dp + 2)) (S : X.S θ as s) (V1 : VR θ v1 u1) (V2 : VR θ v2 u2)
    (h : ExsS X dp ⟨d.scope, (d.names.zip [.obj (as.length + 1), v1, v2]).reverse, [], d.code, d.qual⟩ d.body (as ++ [.dict []] ++ [.inst C as.length]) fun fl _ as' => match fl with | .next => Q (.obj (as.length + 1)) as' | _ => False)
    {post : Value → Shared → Prop} {E : Value → Shared → Prop} (c : ∀ av as' θ' s' v, Q av as' → X.S θ' as' s' → Ext X.H θ s.heap θ' s'.heap → VR θ' av v → post v s') :
    wpAny X.M A (call (.ref C) [] [(n1, u1), (n2, u2)]) post E s := by
  refine El_eaaaa O.cls fun K hK hm hk hi hf => ?_
  have KS : K.In s.heap := hK.keeps S.base
  refine El_eeaaaaaaaaa O.ex fun o fd ho hd hc hb hs hg hbl hcd hql hbind => ?_
  have P1 := S.push (o := .dict []) (ob := emptyDict) rfl ⟨[], 0, rfl, .nil⟩
  have P2 := P1.1.push (o := .inst C as.length) (ob := instObj C s.heap.objs.size) rfl ⟨s.heap.objs.size, #[], by
    rw [S.ar.len, List.append_assoc, List.getElem?_append_right (Nat.le_refl _), Nat.sub_self]; rfl, rfl⟩
  refine wpAny_call ?_
  obtain ⟨hh, g, dr, t, os⟩ := s
  refine make_core (makes_of KS hm) (looks_findIn KS hi) (fun self => bind_fn KS self hf) (.inl rfl) ?_
  have e1 : ((hh.push emptyDict).objs.size) = hh.objs.size + 1 := Heap.size_push ..
  have S2 : X.S (θ ++ [hh.objs.size] ++ [hh.objs.size + 1]) (as ++ [.dict []] ++ [.inst C as.length]) ⟨(hh.push emptyDict).push (instObj C hh.objs.size), g, dr, t, os⟩ := by
    have := P2.1; rw [show ({ heap := hh, gens := g, drawn := dr, toks := t, os := os } : Shared).heap = hh from rfl] at this
    rw [← e1]; exact this
  have X2 : Ext X.H θ hh (θ ++ [hh.objs.size] ++ [hh.objs.size + 1]) ((hh.push emptyDict).push (instObj C hh.objs.size)) := by
    have := P1.2.trans P2.2; rw [← e1]; exact this
  have hw : (Code.builtin "type.__call__" ⟨[.ref C], [(n1, u1), (n2, u2)]⟩).weight = 1 := by kernel_rfl
  have hu : (Code.builtin "type.__call__" ⟨[.ref C], [(n1, u1), (n2, u2)]⟩).cUnits ≤ 4 := by
    have : (Code.builtin "type.__call__" ⟨[.ref C], [(n1, u1), (n2, u2)]⟩).cUnits = 1 := by kernel_rfl
    lia
  have hS : ∀ b o, X.h₀.get? b = some o → (⟨(hh.push emptyDict).push (instObj C hh.objs.size), g, dr, t, os⟩ : Shared).heap.get? b = some o := S2.base
  have hroom : (A.under (.builtin "type.__call__" ⟨[.ref C], [(n1, u1), (n2, u2)]⟩)).depth < recursionLimit := by
    show A.depth + _ < _; rw [hw]; have := R.1; lia
  refine codeAny_call_def hroom (hS _ _ ho) hd (O.lim.keeps hS) (Heap.CodeRec.keeps hc hS) hb (hbind _ hS (.ref (hh.objs.size + 1)) u1 u2) (by rw [hs]; exact O.cell) (fun x hx => by rw [hs]; exact O.loc _ (List.of_mem_zip hx).1) (fun h₁ hn hk => ?_) (by rw [hs]; exact O.co) (by rw [hs]; exact O.gen) (by rw [hs]; exact O.kind)
  have V : VRs (θ ++ [hh.objs.size] ++ [hh.objs.size + 1]) [.obj (as.length + 1), v1, v2] [.ref (hh.objs.size + 1), u1, u2] := by
    refine .cons ⟨hh.objs.size + 1, ?_, rfl⟩ (.cons (V1.mono X2.pre) (.cons (V2.mono X2.pre) .nil))
    rw [S.ar.len, List.getElem?_append_right (by simp)]
    simp
  revert hn hk
  generalize e3 : (⟨(hh.push emptyDict).push (instObj C hh.objs.size), g, dr, t, os⟩ : Shared) = s2 at S2 ⊢
  have X2' : Ext X.H θ hh (θ ++ [hh.objs.size] ++ [hh.objs.size + 1]) s2.heap := by rw [← e3]; exact X2
  intro hn hk
  have S₁ : X.S _ _ { s2 with heap := h₁, toks := s2.toks + (d.names.zip [.ref (hh.objs.size + 1), u1, u2]).length } := S2.keeps hk
  refine h (Around.deeper _ _) _ _ s2.heap.objs.size _ _ _ ⟨?_, ?_, R.2.2⟩ ⟨hs, O.kind, rfl, fun m => Nat.lt_irrefl _ (S2.lt m), S2.fresh, S2.freshH, ⟨_, hn, fun x av e => ((LRs.zip V d.names).rev).look x av e⟩, fun x i e => (by cases e), hg, hbl, hcd, hql⟩ S₁ fun fl loc' as' θ' s' g' q S' X' F' G => ?_
  · have := R.1; show A.depth + _ + 1 + dp < _; rw [hw]; lia
  · have := R.2.1; show A.units + _ + 3 + 4 * dp + 40 < _; lia
  · have X'' : Ext X.H (θ ++ [hh.objs.size] ++ [hh.objs.size + 1]) s2.heap θ' s'.heap := ⟨X'.pre, fun a m n => ⟨(by
        cases r : s2.heap.get? a with
        | none => rfl
        | some o => have := (X'.fresh a m n).1; rw [hk a o r] at this; cases this), (X'.fresh a m n).2⟩,
      fun b o e n nh => X'.keep b o (hk b o e) n nh fun q => (by rw [q] at e; rw [size_none] at e; cases e), fun b o e => X'.ex b o (hk b o e), tab_trans (fun b o e => ⟨o, hk b o e⟩) (S2.tabKeep hk) X'.tab⟩
    cases fl with
    | next =>
      cases G
      refine ⟨rfl, c _ _ θ' s' _ q S' (X2'.trans X'') ⟨_, get_pre X'.pre ?_, rfl⟩⟩
      rw [S.ar.len, List.getElem?_append_right (by simp)]
      simp
    | brk => exact q.elim
    | cont => exact q.elim
    | ret v => exact q.elim
theorem ev_make {C fI : Addr} {d : FD} {n1 n2 x : Str} {e1 e2 : Expr} {p p1 p2 pos : Pos} {Q : PV} (O : MakeOK X C fI d n1 n2) (hk : isKind .globalImplicit f.sc x = true) (G : GlobV X x (.ref C)) (hdp : 2 ≤ dp)
    (h : EvS X dp f e1 as fun v1 as₁ => EvS X dp f e2 as₁ fun v2 as₂ => ExsS X (dp - 2) ⟨d.scope, (d.names.zip [.obj (as₂.length + 1), v1, v2]).reverse, [], d.code, d.qual⟩ d.body (as₂ ++ [.dict []] ++ [.inst C as₂.length]) fun fl _ as' => match fl with | .next => Q (.obj (as₂.length + 1)) as' | _ => False) :
    EvS X dp f (.Call (.Name x p) [] [⟨some n1, e1, p1⟩, ⟨some n2, e2, p2⟩] pos) as Q := by
  intro A θ s L env post E R F S c
  refine wpAny_Call_Name_kw (ev_glob (av := .addr C) (Q := fun av as₁ => av = .addr C ∧ as₁ = as) hk G rfl ⟨rfl, rfl⟩ A θ s L env _ E R F S fun av as₁ θ₁ s₁ v q S₁ X₁ V₁ => ?_)
  obtain ⟨rfl, rfl⟩ := q
  cases V₁
  refine El_eaaaa O.cls fun K hK hm hkp hi hf => ?_
  refine callWith_of (P := fun h => K.In h) rfl (keeps_K hkp) (evalArgs_kw2_nil rfl ?_)
  refine kwAll_cons (h A θ₁ s₁ L env _ E R (F.ext X₁) S₁ fun v1 as₂ θ₂ s₂ u1 q S₂ X₂ V₂ => kwAll_cons (q A θ₂ s₂ L env _ E R (F.ext (X₁.trans X₂)) S₂ fun v2 as₃ θ₃ s₃ u2 q₂ S₃ X₃ V₃ => kwAll_nil ⟨hK.keeps S₃.base, ?_⟩))
  have R' : Room A (dp - 2 + 2) := by rw [Nat.sub_add_cancel hdp]; exact R
  exact call_make O R' S₃ (V₂.mono X₃.pre) V₃ q₂ fun av as' θ' s' v q' S' X' V' => c _ _ _ _ _ q' S' (((X₁.trans X₂).trans X₃).trans X') V'
end
end Mine

end
section
open PySem PySem.W PyProof.Rows PySem.SeqAt
namespace Mine
structure Ken where
  D : Cls
  P : Prims
  gv : Str → Option AV
  made : Option (Addr × Addr × FD × Str × Str)
noncomputable def binA (op : Operator) (i j : Int) (as : List AO) (Q : PV) : Prop := match op with
  | .Pow => (0 ≤ j ∧ (Builtin.Int.intBits i : Int) * j ≤ 2 ^ 27) ∧ Q (.int (i ^ j.toNat)) as
  | op => binW op i j fun k => Q (.int k) as
noncomputable def addV (op : Operator) (i j : Nat) (as : List AO) (Q : PV) : Prop := match op with
  | .Add => (match as[i]? with
    | some oa => (match as[j]? with
      | some ob => (match addA oa ob with | some rr => lenA oa + lenA ob ≤ 100000 ∧ Q (.obj as.length) (as ++ [rr]) | none => False)
      | none => False)
    | none => False)
  | _ => False
noncomputable def mulV (op : Operator) (i : Nat) (k : Int) (as : List AO) (Q : PV) : Prop := match op with
  | .Mult => (match as[i]? with
    | some (.intx xs) => (0 < xs.length ∧ 0 ≤ k ∧ k < 2 ^ 62 ∧ xs.length * k.toNat ≤ 100000) ∧ Q (.obj as.length) (as ++ [.intx (repL xs k.toNat)])
    | _ => False)
  | _ => False
noncomputable def binV (op : Operator) (a b : AV) (as : List AO) (Q : PV) : Prop := match a with
  | .int i => (match b with | .int j => binA op i j as Q | _ => False)
  | .obj i => (match b with | .obj j => addV op i j as Q | .int k => mulV op i k as Q | _ => False)
  | _ => False
noncomputable def nameG (N : Ken) (f : Fm) (x : Str) (as : List AO) (Q : PV) : Prop := match isKind .globalImplicit f.sc x with
  | true => (match N.gv x with | some v => Q v as | none => False)
  | false => nameW f x as Q
noncomputable def rngW (vs : List AV) (Q : Int → Int → Prop) : Prop := match vs with
  | [.int b] => Q 0 b
  | [.int a, .int b] => Q a b
  | _ => False
noncomputable def loopW (B : Nat → Loc → List AO → PF → Prop) : Nat → Nat → Loc → List AO → PF → Prop
  | 0, _, loc, as, Q => Q .next loc as
  | c + 1, k, loc, as, Q => B k loc as fun fl loc' as' => match fl with
    | .next => loopW B c (k + 1) loc' as' Q
    | .cont => loopW B c (k + 1) loc' as' Q
    | .brk => Q .next loc' as'
    | .ret v => Q (.ret v) loc' as'
noncomputable def compW (d : Nat) (B : Nat → Loc → List AO → (Loc → AV → List AO → Prop) → Prop) : Nat → Nat → Loc → List AO → PV → Prop
  | 0, _, loc, as, Q => (match as[d]? with | some (.list ys) => Q (.obj d) (as.set d (mkL ys)) | _ => False)
  | c + 1, k, loc, as, Q => B k loc as fun loc' y as' => (match as'[d]? with | some (.list ys) => (match Nat.ble ys.length k with | true => compW d B c (k + 1) loc' (as'.set d (.list (ys ++ [y]))) Q | false => False) | _ => False)
noncomputable def compOk (scope : Scope) : Bool := notDbg scope.names && (scope.kind == .function) && scope.names.all fun y => (match y.2 with
  | .cell => false
  | .local => (match lk scope.names y.1 with | some .local => true | _ => false)
  | _ => true)
noncomputable def intsF (ob : AO) (K : List Int → Prop) : Prop := match ob with
  | .fix o => ∃ xs, FixI o xs ∧ K xs
  | ob => (match intsA ob with | some xs => K xs | none => False)
noncomputable def lenF (ob : AO) (K : Nat → Prop) : Prop := match ob with
  | .fix o => ∃ xs, FixI o xs ∧ K xs.length
  | ob => (match listA ob with | some _ => K (lenA ob) | none => False)
structure RecL where
  ev : Nat → Fm → Expr → List AO → PV → Prop
  evs : Nat → Fm → List Expr → List AO → PVs → Prop
  pt : Nat → Fm → Option Expr → List AO → (Option Int → List AO → Prop) → Prop
  ts : Nat → Fm → Expr → List AO → PB → Prop
  an : Nat → Fm → List Expr → List AO → PB → Prop
structure RecX where
  ex : Nat → Fm → Stmt → List AO → PF → Prop
  exs : Nat → Fm → List Stmt → List AO → PF → Prop
noncomputable def attrLW (N : Ken) (f : Fm) (o : Expr) (a : Str) (as : List AO) (Q : PV) : Prop := match o with
  | .Name x _ => nameG N f x as fun o as₁ => (match o with | .obj i => attrW N.D i a as₁ Q | _ => False)
  | _ => False
noncomputable def sliceLW (R : RecL) (dp : Nat) (f : Fm) (v : Expr) (lo hi : Option Expr) (as : List AO) (Q : PV) : Prop := R.ev dp f v as fun o as₁ => R.pt dp f lo as₁ fun x as₂ => R.pt dp f hi as₂ fun y as₃ => (match o with
  | .obj i => (match as₃[i]? with
    | some ob => intsF ob fun xs => xs.length ≤ 100000 ∧ sliceR xs x y fun ys => Q (.obj as₃.length) (as₃ ++ [.intx ys])
    | none => False)
  | _ => False)
noncomputable def itemLW (N : Ken) (R : RecL) (dp : Nat) (f : Fm) (v i : Expr) (as : List AO) (Q : PV) : Prop := match noSlice i with
  | true => R.ev dp f v as fun o as₁ => R.ev dp f i as₁ fun k as₂ => itemL N.D o k as₂ fun r => Q r as₂
  | false => False
noncomputable def sliceOf : Expr → Option (Option Expr × Option Expr × Option Expr)
  | .Slice lo hi st _ => some (lo, hi, st)
  | _ => none
noncomputable def subLW (N : Ken) (R : RecL) (dp : Nat) (f : Fm) (v i : Expr) (as : List AO) (Q : PV) : Prop := match sliceOf i with
  | some (lo, hi, none) => sliceLW R dp f v lo hi as Q
  | some _ => False
  | none => itemLW N R dp f v i as Q
noncomputable def listLW (R : RecL) (dp : Nat) (f : Fm) (elts : List Expr) (mk : List AV → AO) (as : List AO) (Q : PV) : Prop := match noStar elts with
  | true => R.evs dp f elts as fun vs as₁ => (match Nat.ble vs.length 100000 with | true => Q (.obj as₁.length) (as₁ ++ [mk vs]) | false => False)
  | false => False
noncomputable def boolLW (R : RecL) (dp : Nat) (f : Fm) (op : BoolOp) (es : List Expr) (as : List AO) (Q : PV) : Prop := match op, es with
  | .And, [x, y] => R.ev dp f x as fun v as₁ => (match truA v with | some t => ifB t (R.ev dp f y as₁ Q) (Q v as₁) | none => False)
  | _, _ => False
noncomputable def cmpLW (R : RecL) (dp : Nat) (f : Fm) (l : Expr) (op : CmpOp) (r : Expr) (as : List AO) (Q : PB) : Prop := match behindInMarks op r with
  | false => R.ev dp f l as fun a as₁ => R.ev dp f r as₁ fun b as₂ => cmpV op a b as₂ fun v => Q v as₂
  | true => False
noncomputable def cmpELW (R : RecL) (dp : Nat) (f : Fm) (l : Expr) (ops : List CmpOp) (rs : List Expr) (as : List AO) (Q : PV) : Prop := match ops, rs with
  | [op], [r] => cmpLW R dp f l op r as fun v as₁ => Q (.bool v) as₁
  | _, _ => False
noncomputable def lenLW (R : RecL) (dp : Nat) (f : Fm) (arg : Expr) (as : List AO) (Q : PV) : Prop := R.ev dp f arg as fun o as₁ => (match o with
  | .obj i => (match as₁[i]? with
    | some ob => lenF ob fun n => n ≤ 1000000 ∧ Q (.int n) as₁
    | none => False)
  | _ => False)
noncomputable def bi1LW (N : Ken) (R : RecL) (dp : Nat) (f : Fm) (x : Str) (arg : Expr) (as : List AO) (Q : PV) : Prop := match noStar [arg], isKind .globalImplicit f.sc x, N.gv x with
  | true, true, some (.bi s) => (match s == "len" with
    | true => lenLW R dp f arg as Q
    | false => False)
  | _, _, _ => False
noncomputable def kw2 (kws : List Keyword) : Option ((Str × Expr × Pos) × (Str × Expr × Pos)) := match kws with
  | [a, b] => (match a with
    | ⟨k1, e1, p1⟩ => (match k1 with
      | some k1 => (match b with
        | ⟨k2, e2, p2⟩ => (match k2 with
          | some k2 => some ((k1, e1, p1), (k2, e2, p2))
          | none => none))
      | none => none))
  | _ => none
noncomputable def adrOf (v : Option AV) : Option Addr := match v with
  | some v => (match v with | .addr C => some C | _ => none)
  | none => none
noncomputable def makeLW (N : Ken) (n : Nat) (R : RecL) (dp : Nat) (f : Fm) (x : Str) (kws : List Keyword) (as : List AO) (Q : PV) : Prop := match isKind .globalImplicit f.sc x && Nat.ble 2 dp with
  | true => (match kw2 kws with
    | some ((k1, e1, _), (k2, e2, _)) => (match adrOf (N.gv x) with
      | some C => (match N.made with
        | some (C', fI, d, n1, n2) => (match Nat.beq C C' && seq k1 n1 && seq k2 n2 with
          | true => R.ev dp f e1 as fun v1 as₁ => R.ev dp f e2 as₁ fun v2 as₂ => exsW N.D N.P n (dp - 2) ⟨d.scope, (d.names.zip [.obj (as₂.length + 1), v1, v2]).reverse, [], d.code, d.qual⟩ d.body (as₂ ++ [.dict []] ++ [.inst C as₂.length]) fun fl _ as' => (match fl with | .next => Q (.obj (as₂.length + 1)) as' | _ => False)
          | false => False)
        | none => False)
      | none => False)
    | none => False)
  | false => False
noncomputable def methLW (N : Ken) (n dp : Nat) (f : Fm) (o : Expr) (name : Str) (apos pos : Pos) (as : List AO) (Q : PV) : Prop := match o with
  | .Name x _ => (match Nat.beq apos.endLine pos.line with
    | true => nameG N f x as fun o as₁ => (match o with
      | .obj i => (match methA N.D i name as₁ with | some fa => clW N.D N.P n dp fa [.obj i] as₁ Q | none => False)
      | _ => False)
    | false => False)
  | _ => False
noncomputable def callLW (N : Ken) (n : Nat) (R : RecL) (dp : Nat) (f : Fm) (fn : Expr) (args : List Expr) (kws : List Keyword) (pos : Pos) (as : List AO) (Q : PV) : Prop := match fn with
  | .Name x _ => (match args with
    | [] => makeLW N n R dp f x kws as Q
    | [arg] => (match kws with | [] => bi1LW N R dp f x arg as Q | _ => False)
    | _ => False)
  | .Attribute o name apos => (match args, kws with
    | [], [] => methLW N n dp f o name apos pos as Q
    | _, _ => False)
  | _ => False
noncomputable def compRW (N : Ken) (R : RecL) (dp : Nat) (f : Fm) (elt : Expr) (x r : Str) (args : List Expr) (scope : Scope) (as : List AO) (Q : PV) : Prop := match isKind .globalImplicit f.sc r, N.gv r, noStar args, compOk scope, cloA f.cells scope.names [] with
  | true, some (.ty t), true, true, some cA => (match t == "range" with
    | true => R.evs dp f args as fun vs as₁ => rngW vs fun a b => ((Small a ∧ Small b) ∧ b - a ≤ 100000) ∧
      compW as₁.length (fun k loc as₂ K => storeW (compFm f scope cA loc) x (.int (a + k)) as₂ fun loc' as₃ => R.ev dp (compFm f scope cA loc') elt as₃ fun y as₄ => K loc' y as₄) (b - a).toNat 0 [] (as₁ ++ [.list []]) Q
    | false => False)
  | _, _, _, _, _ => False
noncomputable def rngOf : Expr → Option (Str × Pos × List Expr × Pos)
  | .Call (.Name r p) args [] pc => some (r, p, args, pc)
  | _ => none
noncomputable def nmOf : Expr → Option (Str × Pos)
  | .Name x p => some (x, p)
  | _ => none
noncomputable def comp1LW (N : Ken) (R : RecL) (dp : Nat) (f : Fm) (elt tg iter : Expr) (ifs : List Expr) (scope : Scope) (as : List AO) (Q : PV) : Prop := match rngOf iter with
  | some (r, _, args, _) => (match nmOf tg, ifs with
    | some (x, _), [] => compRW N R dp f elt x r args scope as Q
    | _, _ => False)
  | none => False
noncomputable def compELW (N : Ken) (R : RecL) (dp : Nat) (f : Fm) (elt : Expr) (gens : List Comprehension) (scope : Scope) (as : List AO) (Q : PV) : Prop := match gens with
  | [⟨tg, iter, ifs, 0⟩] => comp1LW N R dp f elt tg iter ifs scope as Q
  | _ => False
noncomputable def lvF (N : Ken) (n : Nat) (R : RecL) (dp : Nat) (f : Fm) (e : Expr) (as : List AO) (Q : PV) : Prop := match e with
  | .Constant c _ _ => constW c as Q
  | .Name x _ => nameG N f x as Q
  | .Attribute o a _ => attrLW N f o a as Q
  | .BinOp l op r _ => R.ev dp f l as fun a as₁ => R.ev dp f r as₁ fun b as₂ => binV op a b as₂ Q
  | .Subscript v i _ => subLW N R dp f v i as Q
  | .List elts _ => listLW R dp f elts mkL as Q
  | .Tuple elts _ _ => listLW R dp f elts .tuple as Q
  | .IfExp t a b _ => R.ts dp f t as fun c as₁ => ifB c (R.ev dp f a as₁ Q) (R.ev dp f b as₁ Q)
  | .BoolOp op es _ => boolLW R dp f op es as Q
  | .Compare l ops rs _ => cmpELW R dp f l ops rs as Q
  | .Call fn args kws pos => callLW N n R dp f fn args kws pos as Q
  | .ListComp elt gens scope _ => compELW N R dp f elt gens scope as Q
  | _ => False
noncomputable def lvsF (R : RecL) (dp : Nat) (f : Fm) (es : List Expr) (as : List AO) (Q : PVs) : Prop := match es with
  | [] => Q [] as
  | e :: r => R.ev dp f e as fun a as₁ => R.evs dp f r as₁ fun l as₂ => Q (a :: l) as₂
noncomputable def lpF (R : RecL) (dp : Nat) (f : Fm) (e : Option Expr) (as : List AO) (Q : Option Int → List AO → Prop) : Prop := match e with
  | none => Q none as
  | some e => R.ev dp f e as fun v as₁ => (match v with | .int i => Q (some i) as₁ | _ => False)
noncomputable def plainLW (R : RecL) (dp : Nat) (f : Fm) (e : Expr) (as : List AO) (Q : PB) : Prop := match plainTest e with
  | true => R.ev dp f e as fun a as₁ => (match truA a with | some v => Q v as₁ | none => False)
  | false => False
noncomputable def andOf : Expr → Option (List Expr × Pos)
  | .BoolOp .And es p => some (es, p)
  | _ => none
noncomputable def ltF (R : RecL) (dp : Nat) (f : Fm) (e : Expr) (as : List AO) (Q : PB) : Prop := match cmpOf e with
  | some (l, op, r, _) => cmpLW R dp f l op r as Q
  | none => (match andOf e with
    | some (es, _) => R.an dp f es as Q
    | none => plainLW R dp f e as Q)
noncomputable def laF (R : RecL) (dp : Nat) (f : Fm) (es : List Expr) (as : List AO) (Q : PB) : Prop := match es with
  | [] => Q true as
  | e :: r => R.ts dp f e as fun b as₁ => ifB b (R.an dp f r as₁ Q) (Q false as₁)
noncomputable def recL (N : Ken) : Nat → RecL
  | 0 => ⟨fun _ _ _ _ _ => False, fun _ _ _ _ _ => False, fun _ _ _ _ _ => False, fun _ _ _ _ _ => False, fun _ _ _ _ _ => False⟩
  | n + 1 => ⟨lvF N n (recL N n), lvsF (recL N n), lpF (recL N n), ltF (recL N n), laF (recL N n)⟩
noncomputable abbrev lv (N : Ken) (n : Nat) := (recL N n).ev
noncomputable abbrev lvs (N : Ken) (n : Nat) := (recL N n).evs
noncomputable abbrev lp (N : Ken) (n : Nat) := (recL N n).pt
noncomputable abbrev lt (N : Ken) (n : Nat) := (recL N n).ts
noncomputable abbrev la (N : Ken) (n : Nat) := (recL N n).an
noncomputable def isLC : Expr → Bool
  | .ListComp .. => true
  | _ => false
noncomputable def asgnLW (R : RecL) (dp : Nat) (f : Fm) (t e : Expr) (as : List AO) (Q : PF) : Prop := match t with
  | .Name x _ => (match noComp e with | true => R.ev dp f e as fun v as₁ => storeW f x v as₁ (Q .next) | false => False)
  | .Subscript o k _ => (match noComp e with
    | true => R.ev dp f e as fun v as₁ => R.ev dp f o as₁ fun ov as₂ => R.ev dp f k as₂ fun kv as₃ => putW ov kv v as₃ fun as₄ => Q .next f.loc as₄
    | false => False)
  | .Tuple elts k p => (match isLC e with | true => R.ev dp f e as fun v as₁ => bindW f (.Tuple elts k p) v as₁ (Q .next) | false => False)
  | _ => False
noncomputable def augNLW (R : RecL) (dp : Nat) (f : Fm) (x : Str) (op : Operator) (e : Expr) (as : List AO) (Q : PF) : Prop := match isKind .local f.sc x, isMod op with
  | true, false => (match lk f.loc x with
    | some (.int i) => R.ev dp f e as fun b as₁ => (match b with | .int j => binW op i j fun k => storeW f x (.int k) as₁ (Q .next) | _ => False)
    | some (.obj i) => (match op with
      | .Add => R.ev dp f e as fun b as₁ => (match b with
        | .obj j => (match as₁[i]?, as₁[j]? with
          | some (.intx xs), some (.intx ys) => xs.length + ys.length ≤ 100000 ∧ storeW f x (.obj i) (as₁.set i (.intx (xs ++ ys))) (Q .next)
          | _, _ => False)
        | _ => False)
      | _ => False)
    | _ => False)
  | _, _ => False
noncomputable def augSLW (N : Ken) (R : RecL) (dp : Nat) (f : Fm) (o i : Expr) (op : Operator) (e : Expr) (as : List AO) (Q : PF) : Prop := match nmOf i, isMod op with
  | some (x, _), false => R.ev dp f o as fun ov as₁ => nameG N f x as₁ fun iv as₂ => itemW N.D ov iv as₂ fun old => R.ev dp f e as₂ fun b as₃ => (match old, b with
    | .int i, .int j => binW op i j fun k => putW ov iv (.int k) as₃ fun as₄ => Q .next f.loc as₄
    | _, _ => False)
  | _, _ => False
noncomputable def augLW (N : Ken) (R : RecL) (dp : Nat) (f : Fm) (t : Expr) (op : Operator) (e : Expr) (as : List AO) (Q : PF) : Prop := match t with
  | .Name x _ => augNLW R dp f x op e as Q
  | .Subscript o i _ => augSLW N R dp f o i op e as Q
  | _ => False
noncomputable def forRLW (R : RecL) (T : RecX) (dp : Nat) (f : Fm) (x : Str) (args : List Expr) (body : List Stmt) (as : List AO) (Q : PF) : Prop := R.evs dp f args as fun vs as₁ => rngW vs fun a b => (Small a ∧ Small b) ∧
  loopW (fun k loc as₂ K => storeW { f with loc := loc } x (.int (a + k)) as₂ fun loc' as₃ => T.exs dp { f with loc := loc' } body as₃ K) (b - a).toNat 0 f.loc as₁ Q
noncomputable def forCLW (N : Ken) (R : RecL) (T : RecX) (dp : Nat) (f : Fm) (tg : Expr) (r : Str) (args : List Expr) (body : List Stmt) (as : List AO) (Q : PF) : Prop := match isKind .globalImplicit f.sc r, N.gv r, noStar args with
  | true, some (.ty t), true => (match t == "range" with
    | true => (match nmOf tg with | some (x, _) => forRLW R T dp f x args body as Q | none => False)
    | false => False)
  | _, _, _ => False
noncomputable def forLW (N : Ken) (R : RecL) (T : RecX) (dp : Nat) (f : Fm) (tg iter : Expr) (body : List Stmt) (as : List AO) (Q : PF) : Prop := match rngOf iter with
  | some (r, _, args, _) => forCLW N R T dp f tg r args body as Q
  | none => False
noncomputable def lxF (N : Ken) (R : RecL) (T : RecX) (dp : Nat) (f : Fm) (st : Stmt) (as : List AO) (Q : PF) : Prop := match st with
  | .Pass _ => Q .next f.loc as
  | .Break _ => Q .brk f.loc as
  | .Continue _ => Q .cont f.loc as
  | .Expr e _ => (match noComp e with | true => R.ev dp f e as fun _ as₁ => Q .next f.loc as₁ | false => False)
  | .Return v _ => (match v with | some e => R.ev dp f e as fun v as₁ => Q (.ret v) f.loc as₁ | none => False)
  | .Assign ts e _ => (match ts with | [t] => asgnLW R dp f t e as Q | _ => False)
  | .AugAssign t op e _ => augLW N R dp f t op e as Q
  | .If t b o _ => R.ts dp f t as fun c as₁ => ifB c (T.exs dp f b as₁ Q) (T.exs dp f o as₁ Q)
  | .For tg iter body els _ => (match els with | [] => forLW N R T dp f tg iter body as Q | _ => False)
  | _ => False
noncomputable def lxsF (T : RecX) (dp : Nat) (f : Fm) (ss : List Stmt) (as : List AO) (Q : PF) : Prop := match ss with
  | [] => Q .next f.loc as
  | st :: r => T.ex dp f st as fun fl loc as₁ => (match fl with | .next => T.exs dp { f with loc := loc } r as₁ Q | fl => Q fl loc as₁)
noncomputable def recX (N : Ken) : Nat → RecX
  | 0 => ⟨fun _ _ _ _ _ => False, fun _ _ _ _ _ => False⟩
  | n + 1 => ⟨lxF N (recL N n) (recX N n), lxsF (recX N n)⟩
noncomputable abbrev lx (N : Ken) (n : Nat) := (recX N n).ex
noncomputable abbrev lxs (N : Ken) (n : Nat) := (recX N n).exs
end Mine

end
section
open PySem PySem.W PyProof.Rows PySem.SeqAt
namespace Mine
structure KenOK (X : Cx) (N : Ken) : Prop where
  cls : ClassOK X N.D N.P
  gvs : ∀ x av, N.gv x = some av → ∃ v, GlobV X x v ∧ VR [] av v
  mades : ∀ C fI d n1 n2, N.made = some (C, fI, d, n1, n2) → MakeOK X C fI d n1 n2
section
variable {X : Cx} {N : Ken}
theorem storeW_mono {f : Fm} {x : Str} {v : AV} {as : List AO} {P P' : Loc → List AO → Prop} (h : storeW f x v as P) (k : ∀ a b, P a b → P' a b) : storeW f x v as P' := by
  unfold storeW at h ⊢
  split at h
  · exact k _ _ h
  · split at h
    · split at h
      · exact k _ _ h
      · cases h
    · cases h
theorem itemW_mono {D : Cls} {o k : AV} {as : List AO} {P P' : AV → Prop} (h : itemW D o k as P) (m : ∀ a, P a → P' a) : itemW D o k as P' := by
  unfold itemW at h ⊢
  split at h
  · split at h
    · split at h
      · exact ⟨h.1, m _ h.2⟩
      · exact ⟨h.1, m _ h.2⟩
      · refine ⟨h.1, ?_⟩
        have h2 := h.2
        split at h2
        · exact m _ h2
        · cases h2
      · cases h
    · split at h
      · refine ⟨h.1, ?_⟩
        have h2 := h.2
        split at h2
        · exact m _ h2
        · cases h2
      · cases h
    · cases h
  · cases h
theorem nameG_ok (O : KenOK X N) {dp : Nat} {f : Fm} {as : List AO} {x : Str} {p : Pos} {Q : PV} (h : nameG N f x as Q) : EvS X dp f (.Name x p) as Q := by
  unfold nameG at h
  split at h
  · rename_i hk
    split at h
    · rename_i v hv
      obtain ⟨u, G, V⟩ := O.gvs x v hv
      exact ev_glob hk G V h
    · cases h
  · exact nameW_ok h
theorem rngW_ok {vs : List AV} {Q : Int → Int → Prop} (h : rngW vs Q) : ∃ a b, RngArgs vs a b ∧ Q a b := by
  unfold rngW at h
  split at h
  · exact ⟨_, _, .one _, h⟩
  · exact ⟨_, _, .two _ _, h⟩
  · cases h
theorem addV_ok {op : Operator} {i j : Nat} {as : List AO} {Q : PV} (h : addV op i j as Q) : ∃ oa ob rr, as[i]? = some oa ∧ as[j]? = some ob ∧ addA oa ob = some rr ∧ lenA oa + lenA ob ≤ 100000 ∧ Q (.obj as.length) (as ++ [rr]) := by
  unfold addV at h
  split at h
  · split at h
    · split at h
      · split at h
        · exact ⟨_, _, _, by assumption, by assumption, by assumption, h⟩
        · cases h
      · cases h
    · cases h
  · cases h
theorem mulV_ok {op : Operator} {i : Nat} {k : Int} {as : List AO} {Q : PV} (h : mulV op i k as Q) : ∃ xs, as[i]? = some (.intx xs) ∧ (0 < xs.length ∧ 0 ≤ k ∧ k < 2 ^ 62 ∧ xs.length * k.toNat ≤ 100000) ∧ Q (.obj as.length) (as ++ [.intx (repL xs k.toNat)]) := by
  unfold mulV at h
  split at h
  · split at h
    · exact ⟨_, by assumption, h⟩
    · cases h
  · cases h
theorem kw2_ok {kws : List Keyword} {k1 k2 : Str} {e1 e2 : Expr} {p1 p2 : Pos} (h : kw2 kws = some ((k1, e1, p1), (k2, e2, p2))) : kws = [⟨some k1, e1, p1⟩, ⟨some k2, e2, p2⟩] := by
  cases kws with
  | nil => exact nosome h
  | cons a r => cases r with
    | nil => exact nosome h
    | cons b r => cases r with
      | cons _ _ => exact nosome h
      | nil => cases a with | mk n1 _ _ => cases n1 with
        | none => exact nosome h
        | some _ => cases b with | mk n2 _ _ => cases n2 with
          | none => exact nosome h
          | some _ => cases h; rfl
theorem adrOf_ok {v : Option AV} {C : Addr} (h : adrOf v = some C) : v = some (.addr C) := by
  cases v with
  | none => exact nosome h
  | some v => cases v with
    | addr _ => cases h; rfl
    | _ => exact nosome h
theorem binV_ok {dp : Nat} {f : Fm} {l r : Expr} {op : Operator} {pos : Pos} {as : List AO} {Q : PV} (h : EvS X dp f l as fun a as₁ => EvS X dp f r as₁ fun b as₂ => binV op a b as₂ Q) : EvS X dp f (.BinOp l op r pos) as Q := by
  intro A θ s L env post E R F S c
  refine wpAny_BinOp (h A θ s L env _ E R F S fun a as₁ θ₁ s₁ v q S₁ X₁ V₁ => q A θ₁ s₁ L env _ E R (F.ext X₁) S₁ fun b as₂ θ₂ s₂ u q₂ S₂ X₂ V₂ => ?_)
  have V₁ := V₁.mono X₂.pre
  have X₁₂ := X₁.trans X₂
  have q₂ : binV op a b as₂ Q := q₂
  cases a with
  | int i => cases b with
    | int j =>
      obtain ⟨t, rfl⟩ := V₁
      obtain ⟨t', rfl⟩ := V₂
      have q₂ : binA op i j as₂ Q := q₂
      unfold binA at q₂
      split at q₂
      · exact pow_int q₂.1.1 q₂.1.2 (c _ _ θ₂ { s₂ with toks := s₂.toks + 1 } _ q₂.2 (S₂.toks _) X₁₂ ⟨_, rfl⟩)
      · obtain ⟨k, e, q₃⟩ := binW_ok q₂
        exact bin_int e (c _ _ θ₂ { s₂ with toks := s₂.toks + 1 } _ q₃ (S₂.toks _) X₁₂ ⟨_, rfl⟩)
    | _ => exact False.elim q₂
  | obj i => cases b with
    | obj j =>
      obtain ⟨a, ha, rfl⟩ := V₁
      obtain ⟨b, hb, rfl⟩ := V₂
      cases op with
      | Add =>
        obtain ⟨oa, ob, rr, e1, e2, e3, q₂⟩ := addV_ok (op := .Add) q₂
        exact add_objs S₂ e1 e2 ha hb e3 q₂.1 fun θ' s' v S' X' V' => c _ _ θ' s' v q₂.2 S' (X₁₂.trans X') V'
      | _ => exact False.elim q₂
    | int k =>
      obtain ⟨a, ha, rfl⟩ := V₁
      obtain ⟨t, rfl⟩ := V₂
      cases op with
      | Mult =>
        obtain ⟨xs, e1, q₂⟩ := mulV_ok (op := .Mult) q₂
        exact mul_obj S₂ e1 ha q₂.1 fun θ' s' v S' X' V' => c _ _ θ' s' v q₂.2 S' (X₁₂.trans X') V'
      | _ => exact False.elim q₂
    | _ => exact False.elim q₂
  | _ => exact False.elim q₂
end
end Mine

end
section
open PySem PySem.W PyProof.Rows PySem.SeqAt
namespace Mine
section
variable {X : Cx} {N : Ken}
theorem range_of (O : KenOK X N) {r : Str} {t : String} (h : N.gv r = some (.ty t)) (e : (t == "range") = true) : GlobV X r (.type "range") := by
  obtain ⟨v, G, V⟩ := O.gvs r _ h
  have := eq_of_beq e; subst this
  cases V; exact G
theorem compOk_of {scope : Scope} (h : compOk scope = true) : notDbg scope.names = true ∧ scope.kind = .function ∧ (∀ y ∈ scope.names, y.2 = .local → scope.names.lookup y.1 = some .local) ∧ (∀ y ∈ scope.names, y.2 ≠ .cell) := by
  unfold compOk at h
  simp only [Bool.and_eq_true, List.all_eq_true, beq_iff_eq] at h
  obtain ⟨⟨h1, h2⟩, h3⟩ := h
  refine ⟨h1, h2, fun y hy e => ?_, fun y hy e => ?_⟩
  · have := h3 y hy
    rw [e] at this
    simp only at this
    rw [lk_lookup] at this
    split at this
    · assumption
    · cases this
  · have := h3 y hy
    rw [e] at this
    cases this
theorem intsF_ok {ob : AO} {K : List Int → Prop} (h : intsF ob K) : ∃ xs, ReadI ob xs ∧ K xs := by
  unfold intsF at h
  split at h
  · obtain ⟨xs, e, h⟩ := h; exact ⟨xs, .inr ⟨_, rfl, e⟩, h⟩
  · split at h
    · rename_i xs e; exact ⟨xs, .inl e, h⟩
    · cases h
theorem lenF_ok {ob : AO} {K : Nat → Prop} (h : lenF ob K) : ∃ n, LenI ob n ∧ K n := by
  unfold lenF at h
  split at h
  · obtain ⟨xs, e, h⟩ := h; exact ⟨_, .inr ⟨_, xs, rfl, e, rfl⟩, h⟩
  · split at h
    · rename_i xs e
      have l := listA_len e
      exact ⟨_, .inl ⟨xs, e, l⟩, h⟩
    · cases h
structure SpecL (X : Cx) (R : RecL) : Prop where
  ev : ∀ dp f e as Q, R.ev dp f e as Q → EvS X dp f e as Q
  evs : ∀ dp f es as Q, R.evs dp f es as Q → EvsS X dp f es as Q
  pt : ∀ dp f e as Q, R.pt dp f e as Q → PtS X dp f e as Q
  ts : ∀ dp f e as Q, R.ts dp f e as Q → TsS X dp f e as Q
  an : ∀ dp f es as Q, R.an dp f es as Q → AndS X dp f es as Q
theorem PtS.mono {dp : Nat} {f : Fm} {e : Option Expr} {as : List AO} {Q Q' : Option Int → List AO → Prop} (h : PtS X dp f e as Q) (k : ∀ a b, Q a b → Q' a b) : PtS X dp f e as Q' := by
  cases e with
  | none => exact k _ _ h
  | some e => exact EvS.mono h fun v as₁ ⟨i, a, b⟩ => ⟨i, a, k _ _ b⟩
theorem compW_ok {R : RecL} {dp : Nat} {f : Fm} {elt : Expr} {x : Str} {scope : Scope} {cA : List (Str × Nat)} {as₁ : List AO} {a b : Int} {Q : PV} (ev : ∀ f e as Q, R.ev dp f e as Q → EvS X dp f e as Q) (hbd : b - a ≤ 100000)
    (q : compW as₁.length (fun k loc as₂ K => storeW (compFm f scope cA loc) x (.int (a + k)) as₂ fun loc' as₃ => R.ev dp (compFm f scope cA loc') elt as₃ fun y as₄ => K loc' y as₄) (b - a).toNat 0 [] (as₁ ++ [.list []]) Q) :
    ∃ Inv Bd : Nat → Loc → List AO → Prop, Inv 0 [] (as₁ ++ [.list []]) ∧
      (∀ (k : Nat) loc as₂, Inv k loc as₂ → ∃ ys, as₂[as₁.length]? = some (.list ys) ∧ ys.length ≤ k) ∧
      (∀ (k : Nat) loc as₂, a + k < b → Inv k loc as₂ → storeW (compFm f scope cA loc) x (.int (a + k)) as₂ fun loc' as' => Bd k loc' as') ∧
      (∀ (k : Nat) loc as₂, a + k < b → Bd k loc as₂ → EvS X dp (compFm f scope cA loc) elt as₂ fun y as₃ => ∃ ys, as₃[as₁.length]? = some (.list ys) ∧ ys.length ≤ k ∧ Inv (k + 1) loc (as₃.set as₁.length (.list (ys ++ [y])))) ∧
      b - a ≤ 100000 ∧ (∀ loc as₂, Inv (b - a).toNat loc as₂ → ∃ ys, as₂[as₁.length]? = some (.list ys) ∧ Q (.obj as₁.length) (as₂.set as₁.length (mkL ys))) := by
  refine ⟨fun k loc as₂ => k ≤ (b - a).toNat ∧ (∃ ys, as₂[as₁.length]? = some (.list ys) ∧ ys.length ≤ k) ∧ compW as₁.length (fun k loc as₂ K => storeW (compFm f scope cA loc) x (.int (a + k)) as₂ fun loc' as₃ => R.ev dp (compFm f scope cA loc') elt as₃ fun y as₄ => K loc' y as₄) ((b - a).toNat - k) k loc as₂ Q,
    fun k loc as₂ => k < (b - a).toNat ∧ R.ev dp (compFm f scope cA loc) elt as₂ fun y as₄ => (match as₄[as₁.length]? with | some (.list ys) => (match Nat.ble ys.length k with | true => compW as₁.length (fun k loc as₂ K => storeW (compFm f scope cA loc) x (.int (a + k)) as₂ fun loc' as₃ => R.ev dp (compFm f scope cA loc') elt as₃ fun y as₄ => K loc' y as₄) ((b - a).toNat - (k + 1)) (k + 1) loc (as₄.set as₁.length (.list (ys ++ [y]))) Q | false => False) | _ => False),
    ⟨Nat.zero_le _, ⟨[], by simp, Nat.le_refl _⟩, q⟩, fun k loc as₂ hI => hI.2.1, fun k loc as₂ hlt hI => ?_, fun k loc as₂ hlt hB => ?_, hbd, fun loc as₂ hI => ?_⟩
  · refine El_aa hI fun h1 h2 h3 => ?_; try clear hI
    have hk : k < (b - a).toNat := by lia
    rw [show (b - a).toNat - k = ((b - a).toNat - (k + 1)) + 1 by lia] at h3
    unfold compW at h3
    exact storeW_mono h3 fun loc' as' q => ⟨hk, q⟩
  · obtain ⟨h1, h2⟩ := hB
    refine (ev _ _ _ _ h2).mono fun y as₃ q => ?_
    split at q
    · rename_i ys hys
      split at q
      · rename_i hbl
        have hyl := Nat.le_of_ble_eq_true hbl
        refine ⟨ys, hys, hyl, by lia, ⟨ys ++ [y], ?_, by simp; lia⟩, q⟩
        rw [List.getElem?_set_self ((List.getElem?_eq_some_iff.mp hys).1)]
      · cases q
    · cases q
  · refine El_aa hI fun h1 h2 h3 => ?_; try clear hI
    rw [Nat.sub_self] at h3
    unfold compW at h3
    split at h3
    · rename_i ys hys; exact ⟨ys, hys, h3⟩
    · cases h3
section
variable {R : RecL} {dp : Nat} {f : Fm} {as : List AO} {Q : PV}
theorem attrLW_ok (O : KenOK X N) {o : Expr} {a : Str} {p : Pos} (h : attrLW N f o a as Q) : EvS X dp f (.Attribute o a p) as Q := by
  obtain ⟨K, OK⟩ := O.cls.cls
  cases o with
  | Name x p' =>
    unfold attrLW at h
    dsimp only at h
    refine ev_attr OK ((nameG_ok O h).mono fun o as₁ q => ?_)
    split at q
    · exact ⟨_, rfl, q⟩
    · cases q
  | _ => exact False.elim h
theorem sliceLW_ok (ih : SpecL X R) {v : Expr} {lo hi : Option Expr} {p p' : Pos} (h : sliceLW R dp f v lo hi as Q) : EvS X dp f (.Subscript v (.Slice lo hi none p') p) as Q := by
  refine ev_slice ((ih.ev _ _ _ _ _ h).mono fun o as₁ q => (ih.pt _ _ _ _ _ q).mono fun x as₂ q => (ih.pt _ _ _ _ _ q).mono fun y as₃ q => ?_)
  split at q
  · split at q
    · rename_i ob hob
      refine El_ea (intsF_ok q) fun xs hxs q => ?_
      exact ⟨_, ob, xs, rfl, hob, hxs, q.1, q.2⟩
    · cases q
  · cases q
theorem itemLW_ok (O : KenOK X N) (ih : SpecL X R) {v i : Expr} {p : Pos} (h : itemLW N R dp f v i as Q) : EvS X dp f (.Subscript v i p) as Q := by
  obtain ⟨K, OK⟩ := O.cls.cls
  unfold itemLW at h
  split at h
  · rename_i hn; exact ev_subL OK hn ((ih.ev _ _ _ _ _ h).mono fun a as₁ q => ih.ev _ _ _ _ _ q)
  · cases h
theorem sliceOf_ok {e : Expr} {lo hi st : Option Expr} (h : sliceOf e = some (lo, hi, st)) : ∃ p, e = .Slice lo hi st p := by
  cases e with
  | Slice a b c p => cases h; exact ⟨p, rfl⟩
  | _ => exact nosome h
theorem subLW_ok (O : KenOK X N) (ih : SpecL X R) {v i : Expr} {p : Pos} (h : subLW N R dp f v i as Q) : EvS X dp f (.Subscript v i p) as Q := by
  unfold subLW at h
  split at h
  · rename_i lo hi hs
    obtain ⟨p', rfl⟩ := sliceOf_ok hs
    exact sliceLW_ok ih h
  · cases h
  · exact itemLW_ok O ih h
theorem listLW_ok (ih : SpecL X R) {elts : List Expr} {mk : List AV → AO} (h : listLW R dp f elts mk as Q) : noStar elts = true ∧ EvsS X dp f elts as fun vs as₁ => vs.length ≤ 100000 ∧ Q (.obj as₁.length) (as₁ ++ [mk vs]) := by
  unfold listLW at h
  split at h
  · rename_i hs
    refine ⟨hs, (ih.evs _ _ _ _ _ h).mono fun vs as₁ q => ?_⟩
    split at q
    · rename_i hb; exact ⟨Nat.le_of_ble_eq_true hb, q⟩
    · cases q
  · cases h
theorem boolLW_ok (ih : SpecL X R) {op : BoolOp} {es : List Expr} {p : Pos} (h : boolLW R dp f op es as Q) : EvS X dp f (.BoolOp op es p) as Q := by
  unfold boolLW at h
  split at h
  · refine ev_and ((ih.ev _ _ _ _ _ h).mono fun v as₁ q => ?_)
    split at q
    · rename_i t ht
      refine ⟨t, ht, ?_⟩
      cases t with
      | true => exact ih.ev _ _ _ _ _ q
      | false => exact q
    · cases q
  · cases h
theorem cmpELW_ok (ih : SpecL X R) {l : Expr} {ops : List CmpOp} {rs : List Expr} {p : Pos} (h : cmpELW R dp f l ops rs as Q) : EvS X dp f (.Compare l ops rs p) as Q := by
  unfold cmpELW at h
  split at h
  · unfold cmpLW at h
    split at h
    · rename_i hm; exact ev_cmpV hm ((ih.ev _ _ _ _ _ h).mono fun a as₁ q => ih.ev _ _ _ _ _ q)
    · cases h
  · cases h
theorem lenLW_ok (ih : SpecL X R) {x : Str} {arg : Expr} {p pos : Pos} (hk : isKind .globalImplicit f.sc x = true) (G : GlobV X x (.builtin "len")) (hs : noStar [arg] = true) (h : lenLW R dp f arg as Q) : EvS X dp f (.Call (.Name x p) [arg] [] pos) as Q := by
  refine ev_len hk G hs ((ih.ev _ _ _ _ _ h).mono fun o as₁ q => ?_)
  split at q
  · split at q
    · rename_i ob hob
      refine El_ea (lenF_ok q) fun n hn q => ?_
      exact ⟨_, ob, n, rfl, hob, hn, q.1, q.2⟩
    · cases q
  · cases q
theorem bi1LW_ok (O : KenOK X N) (ih : SpecL X R) {x : Str} {arg : Expr} {p pos : Pos} (h : bi1LW N R dp f x arg as Q) : EvS X dp f (.Call (.Name x p) [arg] [] pos) as Q := by
  unfold bi1LW at h
  split at h
  · rename_i s hs hk hg
    obtain ⟨v, G, V⟩ := O.gvs _ _ hg
    cases V
    split at h
    · rename_i hb; have := eq_of_beq hb; subst this; exact lenLW_ok ih hk G hs h
    · cases h
  · cases h
theorem makeLW_ok (O : KenOK X N) {n : Nat} (ih : SpecL X R) {x : Str} {kws : List Keyword} {p pos : Pos} (h : makeLW N n R dp f x kws as Q) : EvS X dp f (.Call (.Name x p) [] kws pos) as Q := by
  unfold makeLW at h
  split at h
  · rename_i hkd
    have hkd := Bool.and_eq_true_iff.mp hkd
    split at h
    · rename_i k1 e1 _ k2 e2 _ hkw
      rw [kw2_ok hkw]
      split at h
      · rename_i C hg
        split at h
        · rename_i C' fI d n1 n2 hm
          split at h
          · rename_i hb
            have hb := Bool.and_eq_true_iff.mp hb
            have b1 := Bool.and_eq_true_iff.mp hb.1
            have := Nat.eq_of_beq_eq_true b1.1; subst this
            have := seq_iff.mp b1.2; subst this
            have := seq_iff.mp hb.2; subst this
            obtain ⟨v, G, V⟩ := O.gvs _ _ (adrOf_ok hg)
            cases V
            exact ev_make (O.mades _ _ _ _ _ hm) hkd.1 G (Nat.le_of_ble_eq_true hkd.2) ((ih.ev _ _ _ _ _ h).mono fun v1 as₁ q => (ih.ev _ _ _ _ _ q).mono fun v2 as₂ q => (spec O.cls n).exs _ _ _ _ _ q)
          · cases h
        · cases h
      · cases h
    · cases h
  · cases h
theorem methLW_ok (O : KenOK X N) {n : Nat} {o : Expr} {name : Str} {apos pos : Pos} (h : methLW N n dp f o name apos pos as Q) : EvS X dp f (.Call (.Attribute o name apos) [] [] pos) as Q := by
  obtain ⟨K, OK⟩ := O.cls.cls
  cases o with
  | Name x p =>
    change (match Nat.beq apos.endLine pos.line with | true => _ | false => _) at h
    split at h
    · rename_i hl
      refine ev_callM OK rfl (by decide) (by simpa using hl) ((nameG_ok O h).mono fun o as₁ q => ?_)
      split at q
      · split at q
        · rename_i fa hm; exact ⟨_, fa, rfl, hm, evs_nil ((spec O.cls n).cl _ _ _ _ _ q)⟩
        · cases q
      · cases q
    · cases h
  | _ => exact False.elim h
theorem callLW_ok (O : KenOK X N) {n : Nat} (ih : SpecL X R) {fn : Expr} {args : List Expr} {kws : List Keyword} {pos : Pos} (h : callLW N n R dp f fn args kws pos as Q) : EvS X dp f (.Call fn args kws pos) as Q := by
  cases fn with
  | Name x p => cases args with
    | nil => exact makeLW_ok O ih h
    | cons a r => cases r with
      | nil => cases kws with
        | nil => exact bi1LW_ok O ih h
        | cons _ _ => exact False.elim h
      | cons _ _ => exact False.elim h
  | Attribute o name apos => cases args with
    | nil => cases kws with
      | nil => exact methLW_ok O h
      | cons _ _ => exact False.elim h
    | cons _ _ => exact False.elim h
  | _ => exact False.elim h
theorem compRW_ok (O : KenOK X N) (ih : SpecL X R) {elt : Expr} {x r : Str} {args : List Expr} {scope : Scope} {px pr pc pos : Pos} (h : compRW N R dp f elt x r args scope as Q) : EvS X dp f (.ListComp elt [⟨.Name x px, .Call (.Name r pr) args [] pc, [], 0⟩] scope pos) as Q := by
  unfold compRW at h
  split at h
  · rename_i t cA hk hg hs hc hcl
    split at h
    · rename_i hb
      refine El_aaa (compOk_of hc) fun c1 c2 c3 c4 => ?_
      refine ev_compR hk (range_of O hg hb) hs hcl c1 c2 c3 c4 ((ih.evs _ _ _ _ _ h).mono fun vs as₁ q => ?_)
      refine El_eeaa (rngW_ok q) fun a b hab hc3 q => ?_; obtain ⟨hsm, hbd⟩ := hc3
      exact ⟨a, b, hab, hsm, compW_ok (ih.ev dp) hbd q⟩
    · cases h
  · cases h
theorem rngOf_ok {e : Expr} {r : Str} {p pc : Pos} {args : List Expr} (h : rngOf e = some (r, p, args, pc)) : e = .Call (.Name r p) args [] pc := by
  cases e with
  | Call fn as kws pos => cases fn with
    | Name x q => cases kws with
      | nil => cases h; rfl
      | cons _ _ => exact nosome h
    | _ => exact nosome h
  | _ => exact nosome h
theorem nmOf_ok {e : Expr} {x : Str} {p : Pos} (h : nmOf e = some (x, p)) : e = .Name x p := by
  cases e with
  | Name y q => cases h; rfl
  | _ => exact nosome h
theorem comp1LW_ok (O : KenOK X N) (ih : SpecL X R) {elt tg iter : Expr} {ifs : List Expr} {scope : Scope} {pos : Pos} (h : comp1LW N R dp f elt tg iter ifs scope as Q) : EvS X dp f (.ListComp elt [⟨tg, iter, ifs, 0⟩] scope pos) as Q := by
  unfold comp1LW at h
  split at h
  · rename_i hr
    split at h
    · rename_i hn
      rw [rngOf_ok hr, nmOf_ok hn]
      exact compRW_ok O ih h
    · cases h
  · cases h
theorem compELW_ok (O : KenOK X N) (ih : SpecL X R) {elt : Expr} {gens : List Comprehension} {scope : Scope} {pos : Pos} (h : compELW N R dp f elt gens scope as Q) : EvS X dp f (.ListComp elt gens scope pos) as Q := by
  unfold compELW at h
  split at h
  · exact comp1LW_ok O ih h
  · cases h
theorem plainLW_ok (ih : SpecL X R) {e : Expr} {Q : PB} (h : plainLW R dp f e as Q) : TsS X dp f e as Q := by
  unfold plainLW at h
  split at h
  · rename_i hp
    refine ts_val hp ((ih.ev _ _ _ _ _ h).mono fun a as₁ q => ?_)
    split at q
    · rename_i v hv; exact ⟨v, hv, q⟩
    · cases q
  · cases h
theorem cmpLW_ok (ih : SpecL X R) {l r : Expr} {op : CmpOp} {p : Pos} {Q : PB} (h : cmpLW R dp f l op r as Q) : TsS X dp f (.Compare l [op] [r] p) as Q := by
  unfold cmpLW at h
  split at h
  · rename_i hm; exact ts_cmpV hm ((ih.ev _ _ _ _ _ h).mono fun a as₁ q => ih.ev _ _ _ _ _ q)
  · cases h
theorem andOf_ok {e : Expr} {es : List Expr} {p : Pos} (h : andOf e = some (es, p)) : e = .BoolOp .And es p := by
  cases e with
  | BoolOp op vs q => cases op with
    | And => cases h; rfl
    | _ => exact nosome h
  | _ => exact nosome h
theorem ltF_ok (ih : SpecL X R) {e : Expr} {Q : PB} (h : ltF R dp f e as Q) : TsS X dp f e as Q := by
  unfold ltF at h
  split at h
  · rename_i hc; rw [cmpOf_ok hc]; exact cmpLW_ok ih h
  · split at h
    · rename_i ha; rw [andOf_ok ha]; exact ts_and (ih.an _ _ _ _ _ h)
    · exact plainLW_ok ih h
theorem lvF_ok (O : KenOK X N) {n : Nat} (ih : SpecL X R) {e : Expr} (h : lvF N n R dp f e as Q) : EvS X dp f e as Q := by
  cases e with
  | Constant c k p => exact constW_ok h
  | Name x p => exact nameG_ok O h
  | Attribute o a p => exact attrLW_ok O h
  | BinOp l op r p => exact binV_ok ((ih.ev _ _ _ _ _ h).mono fun a as₁ q => ih.ev _ _ _ _ _ q)
  | Subscript v i p => exact subLW_ok O ih h
  | List elts p => have z := listLW_ok ih h; exact ev_list z.1 z.2
  | Tuple elts k p => have z := listLW_ok ih h; exact ev_tuple z.1 z.2
  | IfExp t a b p =>
    refine ev_ifexp ((ih.ts _ _ _ _ _ h).mono fun c as₁ q => ?_)
    cases c with
    | true => exact ih.ev _ _ _ _ _ q
    | false => exact ih.ev _ _ _ _ _ q
  | BoolOp op es p => exact boolLW_ok ih h
  | Compare l ops rs p => exact cmpELW_ok ih h
  | Call fn args kws pos => exact callLW_ok O ih h
  | ListComp elt gens scope p => exact compELW_ok O ih h
  | _ => exact False.elim h
end
theorem specL0 (O : KenOK X N) : ∀ n, SpecL X (recL N n)
  | 0 => ⟨fun _ _ _ _ _ h => False.elim h, fun _ _ _ _ _ h => False.elim h, fun _ _ _ _ _ h => False.elim h, fun _ _ _ _ _ h => False.elim h, fun _ _ _ _ _ h => False.elim h⟩
  | n + 1 => by
    have ih := specL0 O n
    refine ⟨fun dp f e as Q h => lvF_ok O ih h, fun dp f es as Q h => ?_, fun dp f e as Q h => ?_, fun dp f e as Q h => ltF_ok ih h, fun dp f es as Q h => ?_⟩
    · cases es with
      | nil => exact evs_nil h
      | cons e r => exact evs_cons ((ih.ev _ _ _ _ _ h).mono fun a as₁ q => ih.evs _ _ _ _ _ q)
    · cases e with
      | none => exact h
      | some e =>
        refine (ih.ev _ _ _ _ _ h).mono fun v as₁ q => ?_
        split at q
        · exact ⟨_, rfl, q⟩
        · cases q
    · cases es with
      | nil => exact and_nil h
      | cons e r =>
        refine and_cons ((ih.ts _ _ _ _ _ h).mono fun b as₁ q => ?_)
        cases b with
        | true => exact ih.an _ _ _ _ _ q
        | false => exact q
structure SpecLN (X : Cx) (N : Ken) (n : Nat) : Prop where
  ev : ∀ dp f e as Q, lv N n dp f e as Q → EvS X dp f e as Q
  evs : ∀ dp f es as Q, lvs N n dp f es as Q → EvsS X dp f es as Q
  pt : ∀ dp f e as Q, lp N n dp f e as Q → PtS X dp f e as Q
  ts : ∀ dp f e as Q, lt N n dp f e as Q → TsS X dp f e as Q
  an : ∀ dp f es as Q, la N n dp f es as Q → AndS X dp f es as Q
theorem specL (O : KenOK X N) (n : Nat) : SpecLN X N n := let z := specL0 O n; ⟨z.ev, z.evs, z.pt, z.ts, z.an⟩
end
end Mine

end
section
open PySem PySem.W PyProof.Rows PySem.SeqAt
namespace Mine
section
variable {X : Cx} {N : Ken}
theorem st_unpack {dp : Nat} {f : Fm} {as : List AO} {elts : List Expr} {k : Nat} {p pos : Pos} {a : Expr} {b : List Comprehension} {c : Scope} {d : Pos} {Q : PF} (h : EvS X dp f (.ListComp a b c d) as fun v as₁ => bindW f (.Tuple elts k p) v as₁ (Q .next)) :
    ExS X dp f (.Assign [.Tuple elts k p] (.ListComp a b c d) pos) as Q := by
  intro A θ s L env post E R F S cc
  rw [arm_exec_Assign]
  refine wpAny_bind (wpAny_standAt (wpAny_bind (m := swapsWithSole [.Tuple elts k p] (.ListComp a b c d) pos.line env) (wpAny_of_eq (a := false) rfl ?_)))
  show wpAny X.M A (eval (.ListComp a b c d) env >>= fun v => _) post E s
  refine wpAny_bind (h A θ s L env _ E R F S fun v as₁ θ₁ s₁ u q S₁ X₁ V₁ => ?_)
  refine wpAny_bind (m := swappedStores [.Tuple elts k p] (.ListComp a b c d) env) (wpAny_of_eq (a := none) rfl ?_)
  show wpAny X.M A (assignAll u [assign (.Tuple elts k p) env] >>= fun _ => pure Flow.next) post E s₁
  refine wpAny_bind ?_
  show wpAny X.M A (assign (.Tuple elts k p) env u) _ E s₁
  exact bind_ok R.2.2 q (F.ext X₁) S₁ V₁ fun loc' as' s' q' S' X' F' => wpAny_pure (cc _ _ _ θ₁ s' .next q' S' (X₁.toL.thru (F.ext X₁).there X') F' rfl)
theorem loopW_ok {T : RecX} {dp : Nat} {f : Fm} {x : Str} {body : List Stmt} {as₁ : List AO} {a b : Int} {Q : PF} (exs : ∀ f ss as Q, T.exs dp f ss as Q → ExsS X dp f ss as Q)
    (q : loopW (fun k loc as₂ K => storeW { f with loc := loc } x (.int (a + k)) as₂ fun loc' as₃ => T.exs dp { f with loc := loc' } body as₃ K) (b - a).toNat 0 f.loc as₁ Q) :
    ∃ Inv Bd : Nat → Loc → List AO → Prop, Inv 0 f.loc as₁ ∧
      (∀ (k : Nat) loc as₂, a + k < b → Inv k loc as₂ → storeW { f with loc := loc } x (.int (a + k)) as₂ fun loc' as' => Bd k loc' as') ∧
      (∀ (k : Nat) loc as₂, Bd k loc as₂ → ExsS X dp { f with loc := loc } body as₂ fun fl loc' as' => match fl with | .next | .cont => Inv (k + 1) loc' as' | .brk => Q .next loc' as' | .ret v => Q (.ret v) loc' as') ∧
      (∀ loc as₂, Inv (b - a).toNat loc as₂ → Q .next loc as₂) := by
  refine ⟨fun k loc as₂ => k ≤ (b - a).toNat ∧ loopW (fun k loc as₂ K => storeW { f with loc := loc } x (.int (a + k)) as₂ fun loc' as₃ => T.exs dp { f with loc := loc' } body as₃ K) ((b - a).toNat - k) k loc as₂ Q,
    fun k loc as₂ => k < (b - a).toNat ∧ T.exs dp { f with loc := loc } body as₂ fun fl loc' as' => (match fl with
      | .next => loopW (fun k loc as₂ K => storeW { f with loc := loc } x (.int (a + k)) as₂ fun loc' as₃ => T.exs dp { f with loc := loc' } body as₃ K) ((b - a).toNat - (k + 1)) (k + 1) loc' as' Q
      | .cont => loopW (fun k loc as₂ K => storeW { f with loc := loc } x (.int (a + k)) as₂ fun loc' as₃ => T.exs dp { f with loc := loc' } body as₃ K) ((b - a).toNat - (k + 1)) (k + 1) loc' as' Q
      | .brk => Q .next loc' as'
      | .ret v => Q (.ret v) loc' as'), ⟨Nat.zero_le _, q⟩, fun k loc as₂ hlt hI => ?_, fun k loc as₂ hB => ?_, fun loc as₂ hI => ?_⟩
  · obtain ⟨h1, h3⟩ := hI
    have hk : k < (b - a).toNat := by lia
    rw [show (b - a).toNat - k = ((b - a).toNat - (k + 1)) + 1 by lia] at h3
    unfold loopW at h3
    exact storeW_mono h3 fun loc' as' q => ⟨hk, q⟩
  · obtain ⟨h1, h2⟩ := hB
    refine (exs _ _ _ _ h2).mono fun fl loc' as' q => ?_
    cases fl with
    | next => exact ⟨by lia, q⟩
    | cont => exact ⟨by lia, q⟩
    | brk => exact q
    | ret v => exact q
  · obtain ⟨h1, h3⟩ := hI
    rw [Nat.sub_self] at h3
    exact h3
structure SpecX (X : Cx) (T : RecX) : Prop where
  ex : ∀ dp f st as Q, T.ex dp f st as Q → ExS X dp f st as Q
  exs : ∀ dp f ss as Q, T.exs dp f ss as Q → ExsS X dp f ss as Q
section
variable {R : RecL} {T : RecX} {dp : Nat} {f : Fm} {as : List AO} {Q : PF}
theorem asgnLW_ok (ih : SpecL X R) {t e : Expr} {pos : Pos} (h : asgnLW R dp f t e as Q) : ExS X dp f (.Assign [t] e pos) as Q := by
  cases t with
  | Name x p =>
    unfold asgnLW at h
    dsimp only at h
    split at h
    · rename_i hn; exact st_name hn (ih.ev _ _ _ _ _ h)
    · cases h
  | Subscript o k p =>
    unfold asgnLW at h
    dsimp only at h
    split at h
    · rename_i hn
      exact st_sub hn ((ih.ev _ _ _ _ _ h).mono fun a as₁ q => (ih.ev _ _ _ _ _ q).mono fun b as₂ q => ih.ev _ _ _ _ _ q)
    · cases h
  | Tuple elts k p =>
    unfold asgnLW at h
    dsimp only at h
    split at h
    · rename_i hn
      cases e with
      | ListComp a b c d => exact st_unpack (ih.ev _ _ _ _ _ h)
      | _ => cases hn
    · cases h
  | _ => exact False.elim h
theorem augNLW_ok (ih : SpecL X R) {x : Str} {op : Operator} {e : Expr} {px pos : Pos} (h : augNLW R dp f x op e as Q) : ExS X dp f (.AugAssign (.Name x px) op e pos) as Q := by
  unfold augNLW at h
  split at h
  · rename_i hk hm
    split at h
    · rename_i i hv
      refine st_augN hm hk hv ((ih.ev _ _ _ _ _ h).mono fun a as₁ q => ?_)
      split at q
      · obtain ⟨k, e, q⟩ := binW_ok q; exact ⟨_, k, rfl, e, q⟩
      · cases q
    · rename_i i hv
      cases op with
      | Add =>
        refine st_augL hk hv ((ih.ev _ _ _ _ _ h).mono fun a as₁ q => ?_)
        split at q
        · split at q
          · rename_i xs ys e1 e2; exact ⟨_, xs, ys, rfl, e1, e2, q.1, q.2⟩
          · cases q
        · cases q
      | _ => exact False.elim h
    · cases h
  · cases h
theorem augSLW_ok (O : KenOK X N) (ih : SpecL X R) {o i : Expr} {op : Operator} {e : Expr} {p pos : Pos} (h : augSLW N R dp f o i op e as Q) : ExS X dp f (.AugAssign (.Subscript o i p) op e pos) as Q := by
  obtain ⟨K, OK⟩ := O.cls.cls
  unfold augSLW at h
  split at h
  · rename_i hn hm
    rw [nmOf_ok hn]
    refine st_augS OK hm ((ih.ev _ _ _ _ _ h).mono fun ov as₁ q => (nameG_ok O q).mono fun iv as₂ q => itemW_mono q fun old q => (ih.ev _ _ _ _ _ q).mono fun b as₃ q => ?_)
    split at q
    · refine El_ea (binW_ok q) fun k e q => ?_; exact ⟨_, _, k, rfl, rfl, e, q⟩
    · cases q
  · cases h
theorem augLW_ok (O : KenOK X N) (ih : SpecL X R) {t : Expr} {op : Operator} {e : Expr} {pos : Pos} (h : augLW N R dp f t op e as Q) : ExS X dp f (.AugAssign t op e pos) as Q := by
  cases t with
  | Name x p => exact augNLW_ok ih h
  | Subscript o i p => exact augSLW_ok O ih h
  | _ => exact False.elim h
theorem forCLW_ok (O : KenOK X N) (ih : SpecL X R) (it : SpecX X T) {tg : Expr} {r : Str} {args : List Expr} {body : List Stmt} {pr pc pos : Pos} (h : forCLW N R T dp f tg r args body as Q) : ExS X dp f (.For tg (.Call (.Name r pr) args [] pc) body [] pos) as Q := by
  unfold forCLW at h
  split at h
  · rename_i t hk hg hs
    split at h
    · rename_i hb
      split at h
      · rename_i hn
        rw [nmOf_ok hn]
        refine st_forR hk (range_of O hg hb) hs ((ih.evs _ _ _ _ _ h).mono fun vs as₁ q => ?_)
        refine El_eeaa (rngW_ok q) fun a b hab hsm q => ?_
        exact ⟨a, b, hab, hsm, loopW_ok (it.exs dp) q⟩
      · cases h
    · cases h
  · cases h
theorem forLW_ok (O : KenOK X N) (ih : SpecL X R) (it : SpecX X T) {tg iter : Expr} {body : List Stmt} {pos : Pos} (h : forLW N R T dp f tg iter body as Q) : ExS X dp f (.For tg iter body [] pos) as Q := by
  unfold forLW at h
  split at h
  · rename_i hr; rw [rngOf_ok hr]; exact forCLW_ok O ih it h
  · cases h
theorem lxF_ok (O : KenOK X N) (ih : SpecL X R) (it : SpecX X T) {st : Stmt} (h : lxF N R T dp f st as Q) : ExS X dp f st as Q := by
  cases st with
  | Pass p => exact st_pass h
  | Break p => exact st_brk h
  | Continue p => exact st_cont h
  | Expr e p =>
    unfold lxF at h
    dsimp only at h
    split at h
    · rename_i hn; exact st_expr hn (ih.ev _ _ _ _ _ h)
    · cases h
  | Return v p => cases v with
    | some e => exact st_ret (ih.ev _ _ _ _ _ h)
    | none => exact False.elim h
  | Assign ts e p => cases ts with
    | nil => exact False.elim h
    | cons t ts => cases ts with
      | nil => exact asgnLW_ok ih h
      | cons _ _ => exact False.elim h
  | AugAssign t op e p => exact augLW_ok O ih h
  | If t b o p =>
    refine st_if ((ih.ts _ _ _ _ _ h).mono fun c as₁ q => ?_)
    cases c with
    | true => exact it.exs _ _ _ _ _ q
    | false => exact it.exs _ _ _ _ _ q
  | For tg iter body els p => cases els with
    | nil => exact forLW_ok O ih it h
    | cons _ _ => exact False.elim h
  | _ => exact False.elim h
end
theorem specX0 (O : KenOK X N) : ∀ n, SpecX X (recX N n)
  | 0 => ⟨fun _ _ _ _ _ h => False.elim h, fun _ _ _ _ _ h => False.elim h⟩
  | n + 1 => by
    have ih := specL0 O n
    have it := specX0 O n
    refine ⟨fun dp f st as Q h => lxF_ok O ih it h, fun dp f ss as Q h => ?_⟩
    cases ss with
    | nil => exact exs_nil h
    | cons st r =>
      refine exs_cons ((it.ex _ _ _ _ _ h).mono fun fl loc as₁ q => ?_)
      cases fl with
      | next => exact it.exs _ _ _ _ _ q
      | brk => exact q
      | cont => exact q
      | ret v => exact q
structure SpecXN (X : Cx) (N : Ken) (n : Nat) : Prop where
  ex : ∀ dp f st as Q, lx N n dp f st as Q → ExS X dp f st as Q
  exs : ∀ dp f ss as Q, lxs N n dp f ss as Q → ExsS X dp f ss as Q
theorem specX (O : KenOK X N) (n : Nat) : SpecXN X N n := let z := specX0 O n; ⟨z.ex, z.exs⟩
end
end Mine

end
section
open PySem PySem.W PyProof.Rows
namespace Mine
noncomputable section
noncomputable def stepP : Prim := fun vs as Q => ∃ i d q m m', vs = [.obj i] ∧ as[i]? = some (.inst 1428 d) ∧ as[d]? = some (.dict (esL m q)) ∧ as[q]? = some (.ints m.mem) ∧ (Mine.flat m.ad ∧ Mine.flat m.st ∧ Mine.flat m'.ad ∧ Mine.flat m'.st) ∧ Stp m m' ∧ Q (.obj i) ((as.set d (.dict (esL m' q))).set q (.ints m'.mem))
noncomputable def lP : Prims := fun a => match Nat.beq a 85, Nat.beq a 43 with
  | true, _ => some (5, wrapP)
  | _, true => some (12, stepP)
  | _, _ => none
noncomputable def dI : FD := (fdOf 15 36 clsB[15]?).getD dW
noncomputable def lGv (x : Str) : Option AV := match seq x (nS [108, 101, 110]), seq x (nS [114, 97, 110, 103, 101]), seq x (nS [101, 110, 117, 109, 101, 114, 97, 116, 101]), seq x (nS [77, 80, 85]) with
  | true, _, _, _ => some (.bi "len")
  | _, true, _, _ => some (.ty "range")
  | _, _, true, _ => some (.ty "enumerate")
  | _, _, _, true => some (.addr 1428)
  | _, _, _, _ => none
noncomputable def nMem : Str := nS [109, 101, 109, 111, 114, 121]
noncomputable def nPc : Str := nS [112, 99]
noncomputable def kN : Ken := ⟨mD, lP, lGv, some (1428, 36, dI, nMem, nPc)⟩
noncomputable def lF (cd : Value) : FD := ⟨lawD.params.args.map (·.arg), lawD.body, lawD.scope, cd, lawD.name ++ ".<locals>."⟩
theorem l_fm (cd : Value) : cellFm (lF cd) [.obj 0] 1 = ⟨lawD.scope, [(nS [115, 99, 114, 105, 112, 116], .obj 0)], [(nS [99, 101, 108, 108], 1)], cd, (lF cd).qual⟩ := by kernel_rfl
theorem l_as (cd : Value) : cellAs (lF cd) [.obj 0] = [.cell none] := by kernel_rfl
noncomputable def stL (i : Nat) : Stmt := match lawD.body[i]? with | some s => s | none => .Pass default
noncomputable abbrev F0 (cd : Value) (loc : Loc) : Fm := ⟨lawD.scope, loc, [(nS [99, 101, 108, 108], 1)], cd, (lF cd).qual⟩
noncomputable def lsc : Loc := [(nS [115, 99, 114, 105, 112, 116], .obj 0)]
noncomputable def nDrawn : Str := nS [100, 114, 97, 119, 110]
end
end Mine

end
section
open PySem PySem.W PyProof.Rows
namespace Mine
noncomputable section
structure MpuB (h : Heap) (es : Array DictEntry) (n : Nat) : Prop where
  cls : h.get? 1428 = some clsO
  nso : h.get? 1427 = some ⟨.type "dict", none, .dict es n, #[]⟩
  look : allNames.map (fun x => (lookIn x ⟨.type "dict", none, .dict es n, #[]⟩).map (Option.map bare)) = allVals
  fns : ∀ x ∈ metNames, h.get? x.2.2 = some (fObj x.2.1 x.2.2)
  codes : ∀ x ∈ metNames, ∃ o, h.get? (x.2.2 - 1) = some o ∧ codeQ o = some (fQual x.2.1)
  tabs : ∀ (i : Nat) (x : Str × Addr), tabNames[i]? = some x → ∃ o, h.get? x.2 = some o ∧ some (seqOf o) = tabVals[i]?
  dflt : ∃ o, h.get? 29 = some o ∧ seqOf o = some (.type "tuple", [.none, .int 0 0])
  code : ∃ o, h.get? 84 = some o ∧ codeHd o = some (.type "code", [some (.int 3 0), some (.bool true), some (.int 181 0), some (.ref 80), some (.str fileS 0)])
noncomputable def KF (es : Array DictEntry) (n : Nat) (o1 o2 o3 : Obj) : Frag :=
  (1428, clsO) :: (1427, ⟨.type "dict", none, .dict es n, #[]⟩) :: (1423, o1) :: (1424, o2) :: (1425, o3) :: methNames.map fun x => (x.2.2, fObj x.2.1 x.2.2)
theorem lookup_in {K : Frag} : ∀ {a : Addr} {o : Obj}, K.lookup a = some o → (a, o) ∈ K := by
  intro a o e
  induction K with
  | nil => cases e
  | cons p r ih =>
    obtain ⟨b, x⟩ := p
    rw [List.lookup_cons] at e
    cases q : a == b with
    | true => rw [q] at e; cases e; rw [eq_of_beq q]; exact .head _
    | false => rw [q] at e; exact .tail _ (ih e)
theorem KF_in {h : Heap} {es : Array DictEntry} {n : Nat} (M : MpuB h es n) {o1 o2 o3 : Obj} (h1 : h.get? 1423 = some o1) (h2 : h.get? 1424 = some o2) (h3 : h.get? 1425 = some o3) : (KF es n o1 o2 o3).In h := by
  intro a o e
  have m := lookup_in e
  unfold KF at m
  simp only [List.mem_cons, Prod.mk.injEq, List.mem_map] at m
  rcases m with ⟨rfl, rfl⟩ | ⟨rfl, rfl⟩ | ⟨rfl, rfl⟩ | ⟨rfl, rfl⟩ | ⟨rfl, rfl⟩ | ⟨x, hx, rfl, rfl⟩
  · exact M.cls
  · exact M.nso
  · exact h1
  · exact h2
  · exact h3
  · exact M.fns x (List.mem_append_left _ hx)
theorem KF_fn (es : Array DictEntry) (n : Nat) (o1 o2 o3 : Obj) : methNames.map (fun x => (KF es n o1 o2 o3).lookup x.2.2) = methNames.map fun x => some (fObj x.2.1 x.2.2) := by kernel_rfl
theorem fObj_cls : methNames.map (fun x => (fObj x.2.1 x.2.2).cls) = methNames.map fun _ => Value.type "function" := by kernel_rfl
section
variable {es : Array DictEntry} {n : Nat} {o1 o2 o3 : Obj}
noncomputable abbrev nsD (es : Array DictEntry) (n : Nat) : Obj := ⟨.type "dict", none, .dict es n, #[]⟩
theorem fnd (x : Str) : findIn (KF es n o1 o2 o3) (.ref 1428) x = match lookIn x (nsD es n) with
    | some (some v) => some (some v)
    | some none => (match fastBuiltinOwn "object" x with | some v => some (some v) | none => some none)
    | none => none := by
  have e1 : findIn (KF es n o1 o2 o3) (.ref 1428) x = alongIn (KF es n o1 o2 o3) x [.ref 1428, .type "object"] := rfl
  have e2 : ownIn (KF es n o1 o2 o3) x (.ref 1428) = lookIn x (nsD es n) := rfl
  rw [e1]
  unfold alongIn
  rw [e2]
  rcases lookIn x (nsD es n) with _ | _ | v
  · rfl
  · unfold alongIn
    have e3 : ownIn (KF es n o1 o2 o3) x (.type "object") = some (fastBuiltinOwn "object" x) := rfl
    rw [e3]
    cases fastBuiltinOwn "object" x <;> rfl
  · rfl
theorem bare_int {v : Value} {i : Int} (h : bare v = .int i 0) : ∃ t, v = .int i t := by
  cases v <;> simp [bare] at h
  rename_i j t; exact ⟨t, by rw [h]⟩
theorem bare_ref {v : Value} {a : Addr} (h : bare v = .ref a) : v = .ref a := by
  cases v <;> simp [bare] at h
  rw [h]
theorem lk_mem {α : Type} : ∀ {l : List (Str × α)} {x : Str} {a : α}, lk l x = some a → (x, a) ∈ l
  | (y, v) :: r, x, a, h => by
    unfold lk at h
    split at h
    · rename_i q; cases h; rw [seq_iff.mp q]; exact .head _
    · exact .tail _ (lk_mem h)
theorem hasN_mem : ∀ {l : List Str} {x : Str}, hasN l x = true → x ∈ l
  | y :: r, x, h => by
    unfold hasN at h
    split at h
    · rename_i q; rw [seq_iff.mp q]; exact .head _
    · exact .tail _ (hasN_mem h)
theorem looks4 {h : Heap} (M : MpuB h es n) : (∀ p ∈ cstNames, (lookIn p.1 (nsD es n)).map (Option.map bare) = some (some (.int p.2 0))) ∧ (∀ p ∈ methNames, (lookIn p.1 (nsD es n)).map (Option.map bare) = some (some (.ref p.2.2))) ∧
    (∀ p ∈ tabNames, (lookIn p.1 (nsD es n)).map (Option.map bare) = some (some (.ref p.2))) ∧ (∀ p ∈ absNames, (lookIn p (nsD es n)).map (Option.map bare) = some none) := by
  have L := M.look
  unfold allNames allVals at L
  simp only [List.map_append, List.map_map] at L
  obtain ⟨L, L4⟩ := List.append_inj' L (by simp)
  obtain ⟨L, L3⟩ := List.append_inj' L (by simp)
  obtain ⟨L1, L2⟩ := List.append_inj' L (by simp)
  exact ⟨fun p hp => map_all L1 p hp, fun p hp => map_all L2 p hp, fun p hp => map_all L3 p hp, fun p hp => map_all L4 p hp⟩
theorem look_some {x : Str} {b : Value} (h : (lookIn x (nsD es n)).map (Option.map bare) = some (some b)) : ∃ v, lookIn x (nsD es n) = some (some v) ∧ bare v = b := by
  cases q : lookIn x (nsD es n) with
  | none => rw [q] at h; cases h
  | some r =>
    rw [q] at h
    cases r with
    | none => cases h
    | some v => exact ⟨v, rfl, by simpa using h⟩
theorem look_none {x : Str} (h : (lookIn x (nsD es n)).map (Option.map bare) = some none) : lookIn x (nsD es n) = some none := by
  cases q : lookIn x (nsD es n) with
  | none => rw [q] at h; cases h
  | some r =>
    rw [q] at h
    cases r with
    | none => rfl
    | some v => cases h
theorem att_abs : attNames.all (fun x => hasN absNames x) = true := by kernel_rfl
theorem att_obj : attNames.map (fastBuiltinOwn "object") = attNames.map fun _ => none := by kernel_rfl
theorem fnd_abs {h : Heap} (M : MpuB h es n) {x : Str} (hx : x ∈ absNames) : findIn (KF es n o1 o2 o3) (.ref 1428) x = (match fastBuiltinOwn "object" x with | some v => some (some v) | none => some none) := by
  rw [fnd, look_none ((looks4 M).2.2.2 x hx)]
theorem sp_int (K : Frag) (i : Int) (t : Tok) : specialIn K (.int i t) "__get__" = some none := by kernel_rfl
theorem sp_fn (K : Frag) : findIn K (.type "function") "__get__" = some (some (.builtin "function.__get__")) ∧ findIn K (.type "function") "__set__" = some none ∧ findIn K (.type "function") "__delete__" = some none ∧ findIn K (.type "list") "__get__" = some none := ⟨by kernel_rfl, by kernel_rfl, by kernel_rfl, by kernel_rfl⟩
theorem cop_c : cstNames.all (fun p => !copiedNames.contains p.1) = true := by kernel_rfl
theorem cop_m : methNames.all (fun p => !copiedNames.contains p.1) = true := by kernel_rfl
theorem cop_t : tabNames.all (fun p => !copiedNames.contains p.1) = true := by kernel_rfl
theorem ns_all {α : Type} {l : List α} {f : α → Bool} (h : l.all (fun p => !f p) = true) {p : α} (hp : p ∈ l) : f p = false := by
  have := List.all_eq_true.mp h p hp
  simpa using this
theorem ty_fn {x : Str × Nat × Nat} (hx : x ∈ methNames) : typeIn (KF es n o1 o2 o3) (.ref x.2.2) = some (.type "function") := by
  show ((KF es n o1 o2 o3).lookup x.2.2).map (·.cls) = _
  rw [map_all (KF_fn es n o1 o2 o3) x hx]
  show some (fObj x.2.1 x.2.2).cls = _
  rw [map_all fObj_cls x hx]
theorem dunders : hasN absNames "__getattribute__" = true ∧ hasN absNames "__getattr__" = true ∧ hasN absNames "__setattr__" = true ∧ hasN absNames "__call__" = true := ⟨by kernel_rfl, by kernel_rfl, by kernel_rfl, by kernel_rfl⟩
theorem dobj : fastBuiltinOwn "object" "__getattribute__" = some (.builtin "object.__getattribute__") ∧ fastBuiltinOwn "object" "__getattr__" = none ∧ fastBuiltinOwn "object" "__setattr__" = some (.builtin "object.__setattr__") := ⟨by kernel_rfl, by kernel_rfl, by kernel_rfl⟩
theorem cf_ok {h : Heap} (M : MpuB h es n) : CF (KF es n o1 o2 o3) 1428 := by
  refine ⟨?_, rfl, ?_, by kernel_rfl⟩
  · unfold plainGet
    rw [fnd_abs M (hasN_mem dunders.1), fnd_abs M (hasN_mem dunders.2.1), dobj.1, dobj.2.1]; rfl
  · rw [fnd_abs M (hasN_mem dunders.2.2.1), dobj.2.2]
theorem seq_is {o : Obj} {c : Value} {vs : List Value} (h : seqOf o = some (c, vs)) : o.cls = c ∧ ∃ xs m, o.data = .seq xs m ∧ xs.toList.map bare = vs := by
  unfold seqOf at h
  split at h
  · rename_i xs m e
    simp only [Option.some.injEq, Prod.mk.injEq] at h
    exact ⟨h.1, xs, m, e, h.2⟩
  · cases h
theorem vrs_ref : ∀ {l : List Addr} {vs : List Value}, vs.map bare = l.map Value.ref → VRs [] (l.map AV.addr) vs
  | [], [], _ => .nil
  | [], _ :: _, h => by cases h
  | _ :: _, [], h => by cases h
  | a :: l, v :: vs, h => by
    simp only [List.map_cons, List.cons.injEq] at h
    exact .cons (show v = .ref a from bare_ref h.1) (vrs_ref h.2)
theorem vrs_int : ∀ {l : List Int} {vs : List Value}, vs.map bare = l.map (fun i => Value.int i 0) → VRs [] (l.map AV.int) vs
  | [], [], _ => .nil
  | [], _ :: _, h => by cases h
  | _ :: _, [], h => by cases h
  | a :: l, v :: vs, h => by
    simp only [List.map_cons, List.cons.injEq] at h
    exact .cons (show ∃ t, v = .int a t from bare_int h.1) (vrs_int h.2)
structure ClsM (K : Frag) (h : Heap) : Prop where
  ok : ClsOK mD K h
  mks : makesIn K 1428 = true
  kp : keepIn K (.ref 1428) = true
  ini : findIn K (.ref 1428) "__init__" = some (some (.ref 36))
  ty : typeIn K (.ref 36) = some (.type "function")
theorem ini_mem : lk methNames "__init__" = some (15, 36) := by kernel_rfl
theorem cls_ok {h : Heap} (M : MpuB h es n) (hl : h.NoLimit) : ∃ K, ClsM K h := by
  obtain ⟨o1, g1, e1⟩ := M.tabs 0 (_, 1423) rfl
  obtain ⟨o2, g2, e2⟩ := M.tabs 1 (_, 1424) rfl
  obtain ⟨o3, g3, e3⟩ := M.tabs 2 (_, 1425) rfl
  obtain ⟨c1, xs1, m1, d1, b1⟩ := seq_is (Option.some.inj e1)
  obtain ⟨c2, xs2, m2, d2, b2⟩ := seq_is (Option.some.inj e2)
  obtain ⟨c3, xs3, m3, d3, b3⟩ := seq_is (Option.some.inj e3)
  have IN := KF_in M g1 g2 g3
  have LK := looks4 M
  have fnM : ∀ p ∈ methNames, findIn (KF es n o1 o2 o3) (.ref 1428) p.1 = some (some (.ref p.2.2)) := fun p hp => by
    obtain ⟨v, ev, bv⟩ := look_some (LK.2.1 p hp)
    rw [fnd, ev, bare_ref bv]
  refine ⟨KF es n o1 o2 o3, ⟨IN, cf_ok M, hl, fun x hx => ?_, fun x i hx => ?_, fun x f hx => ?_, fun x a hx => ?_, fun a xs hx => ?_⟩, by kernel_rfl, by kernel_rfl, ?_, ?_⟩
  · have hx : mAttr x = .inst := hx
    unfold mAttr at hx
    split at hx
    · cases hx
    · split at hx
      · cases hx
      · split at hx
        · cases hx
        · split at hx
          · rename_i q
            have ha := hasN_mem q
            have hb := hasN_mem (List.all_eq_true.mp att_abs x ha)
            have hf : findIn (KF es n o1 o2 o3) (.ref 1428) x = some none := by rw [fnd_abs M hb, map_all att_obj x ha]
            exact ⟨hf, (by show takerIn _ 1428 x = _; unfold takerIn; rw [hf]; rfl)⟩
          · cases hx
  · have hx : mAttr x = .int i := hx
    unfold mAttr at hx
    split at hx
    · rename_i j q
      cases hx
      have hm := lk_mem q
      refine El_ea (look_some (LK.1 _ hm)) fun v ev bv => ?_
      obtain ⟨t, rfl⟩ := bare_int bv
      exact ⟨t, (fnd x).trans (by rw [ev]), sp_int _ _ _, ns_all cop_c hm⟩
    · split at hx
      · cases hx
      · split at hx
        · cases hx
        · split at hx <;> cases hx
  · have hx : mAttr x = .fn f := hx
    unfold mAttr at hx
    split at hx
    · cases hx
    · split at hx
      · rename_i j a q
        cases hx
        have hm := lk_mem q
        have ht := ty_fn (es := es) (n := n) (o1 := o1) (o2 := o2) (o3 := o3) hm
        refine ⟨fnM _ hm, ?_, ?_, ?_, ns_all cop_m hm⟩
        · unfold isFn; rw [ht]; rfl
        · unfold specialIn; rw [ht]; exact (sp_fn (KF es n o1 o2 o3)).1
        · unfold takesIn specialIn; rw [ht]
          show (match findIn (KF es n o1 o2 o3) (.type "function") "__set__" with | some (some _) => some true | some none => (findIn (KF es n o1 o2 o3) (.type "function") "__delete__").map Option.isSome | none => none) = _
          rw [(sp_fn (KF es n o1 o2 o3)).2.1, (sp_fn (KF es n o1 o2 o3)).2.2.1]; rfl
      · split at hx
        · cases hx
        · split at hx <;> cases hx
  · have hx : mAttr x = .tab a := hx
    unfold mAttr at hx
    split at hx
    · cases hx
    · split at hx
      · cases hx
      · split at hx
        · rename_i q
          cases hx
          have hm := lk_mem q
          refine El_ea (look_some (LK.2.2.1 _ hm)) fun v ev bv => ?_
          refine ⟨(fnd x).trans (by rw [ev, bare_ref bv]), ?_, ns_all cop_t hm⟩
          have ty : typeIn (KF es n o1 o2 o3) (.ref a) = some (.type "list") := by
            unfold tabNames at hm
            simp only [List.mem_cons, Prod.mk.injEq, List.not_mem_nil, or_false] at hm
            rcases hm with ⟨_, rfl⟩ | ⟨_, rfl⟩ | ⟨_, rfl⟩
            · show some o1.cls = _; rw [c1]
            · show some o2.cls = _; rw [c2]
            · show some o3.cls = _; rw [c3]
          unfold specialIn; rw [ty]; exact (sp_fn (KF es n o1 o2 o3)).2.2.2
        · split at hx <;> cases hx
  · have hx : mTab a = some xs := hx
    unfold mTab at hx
    cases q1 : Nat.beq a 1423 with
    | true =>
      rw [q1] at hx; cases hx; have := Nat.eq_of_beq_eq_true q1; subst this
      exact ⟨xs1, ⟨o1, g1, c1, m1, d1⟩, vrs_ref b1⟩
    | false =>
      rw [q1] at hx
      cases q2 : Nat.beq a 1424 with
      | true =>
        rw [q2] at hx; cases hx; have := Nat.eq_of_beq_eq_true q2; subst this
        exact ⟨xs2, ⟨o2, g2, c2, m2, d2⟩, vrs_int (by rw [b2])⟩
      | false =>
        rw [q2] at hx
        cases q3 : Nat.beq a 1425 with
        | true =>
          rw [q3] at hx; cases hx; have := Nat.eq_of_beq_eq_true q3; subst this
          exact ⟨xs3, ⟨o3, g3, c3, m3, d3⟩, vrs_int (by rw [b3])⟩
        | false => rw [q3] at hx; cases hx
  · exact fnM _ (lk_mem ini_mem)
  · exact ty_fn (lk_mem ini_mem)
theorem fnAt_mem : ∀ {l : List (Str × Nat × Nat)} {b : Addr} {j : Nat}, fnAt l b = some j → ∃ x, (x, j, b) ∈ l
  | (x, j', a) :: r, b, j, h => by
    unfold fnAt at h
    split at h
    · rename_i q; cases h; have := Nat.eq_of_beq_eq_true q; subst this; exact ⟨x, .head _⟩
    · obtain ⟨y, hy⟩ := fnAt_mem h; exact ⟨y, .tail _ hy⟩
noncomputable def defOk (j : Nat) : Bool := match clsB[j]? with
  | some (.FunctionDef _ args _ _ _ _ sc _ _ _) => sc.names.all (fun x => match x.2 with | .cell => false | _ => true) && (args.args.map (·.arg)).all (fun x => match lk sc.names x with | some .local => true | _ => false) &&
      (!sc.isCoroutine) && (!sc.isGenerator) && (match sc.kind with | .function => true | _ => false) && Nat.ble args.args.length 3 && Nat.ble 1 args.args.length
  | _ => false
theorem defs_ok : metNames.all (fun x => (Nat.beq x.2.2 85 || Nat.beq x.2.2 36) || defOk x.2.1) = true := by kernel_rfl
noncomputable def bindA (j a : Nat) (vs : List Value) : Option (Sem (List (Str × Value))) := match (fObj j a).data with
  | .func fd => some (bindArgs fd ⟨vs.take fd.params.args.length, []⟩)
  | _ => none
noncomputable def zipA (j : Nat) (vs : List Value) : Option (Sem (List (Str × Value))) := match clsB[j]? with
  | some (.FunctionDef _ args _ _ _ _ _ _ _ _) => some (pure ((args.args.map (·.arg)).zip (vs.take args.args.length)))
  | _ => none
theorem binds_all (a b c : Value) : metNames.tail.map (fun x => bindA x.2.1 x.2.2 [a, b, c]) = metNames.tail.map fun x => zipA x.2.1 [a, b, c] := by kernel_rfl
theorem met_tail : metNames = (⟨⟨[95, 95, 105, 110, 105, 116, 95, 95]⟩⟩, 15, 36) :: metNames.tail := by kernel_rfl
theorem mem_tail {x : Str} {j a : Nat} (h : (x, j, a) ∈ metNames) (n : a ≠ 36) : (x, j, a) ∈ metNames.tail := by
  rw [met_tail] at h
  rcases List.mem_cons.mp h with e | h
  · simp only [Prod.mk.injEq] at e; exact absurd e.2.2 n
  · exact h
theorem codeQ_of {o : Obj} {q : Str} (h : codeQ o = some q) : ∃ vs t, o.data = .fields vs ∧ vs[1]? = some (.str q t) := by
  unfold codeQ at h
  split at h
  · rename_i vs e
    split at h
    · rename_i t r ee
      cases h
      exact ⟨vs, t, e, by rw [← Array.getElem?_toList, ee]; rfl⟩
    · cases h
  · cases h
theorem code_rec {h : Heap} (M : MpuB h es n) {x : Str × Nat × Nat} (hx : x ∈ metNames) : h.CodeRec (.ref (x.2.2 - 1)) (fQual x.2.1) := by
  obtain ⟨o, g, e⟩ := M.codes x hx
  refine El_eea (codeQ_of e) fun vs t e1 e2 => ?_
  exact ⟨_, o, vs, t, rfl, g, e1, e2⟩
theorem take3 {vals : List Value} {k : Nat} (hk : k ≤ 3) (hv : vals.length = k) : ∃ a b c, vals = [a, b, c].take k := by
  match vals, hv with
  | [], rfl => exact ⟨.none, .none, .none, rfl⟩
  | [a], rfl => exact ⟨a, .none, .none, rfl⟩
  | [a, b], rfl => exact ⟨a, b, .none, rfl⟩
  | [a, b, c], rfl => exact ⟨a, b, c, rfl⟩
  | _ :: _ :: _ :: _ :: r, hv => simp at hv; lia
theorem fns_ok {h : Heap} (M : MpuB h es n) : ∀ fa d, mFn fa = some d → FnOK h fa d := by
  intro fa d hd
  unfold mFn at hd
  split at hd
  · rename_i j q hj
    obtain ⟨x, hx⟩ := fnAt_mem hj
    have h85 : (Nat.beq fa 85 || Nat.beq fa 36) = false := q
    have n36 : fa ≠ 36 := fun e => by subst e; cases h85
    have ok := List.all_eq_true.mp defs_ok _ hx
    dsimp only at ok
    rw [h85, Bool.false_or] at ok
    unfold defOk at ok
    split at ok
    · rename_i name args body _ _ _ sc _ _ _ hcl
      simp only [Bool.and_eq_true, Bool.not_eq_true', List.all_eq_true] at ok
      obtain ⟨⟨⟨⟨⟨⟨k1, k2⟩, k3⟩, k4⟩, k5⟩, k6⟩, k7⟩ := ok
      rw [hcl] at hd
      simp only [fdOf, Option.some.injEq] at hd
      subst hd
      have F := M.fns _ hx
      have C := code_rec M hx
      have B := fun a b c => map_all (binds_all a b c) _ (mem_tail hx n36)
      dsimp only at F C B
      unfold fQual at C
      unfold fObj at F
      unfold bindA fObj zipA at B
      rw [hcl] at F C B
      have kd : sc.kind = .function := by
        split at k5
        · assumption
        · cases k5
      refine ⟨⟨_, _, F, rfl, C, rfl, rfl, rfl, rfl, rfl, ?_, fun vals hv => ?_⟩, fun y hy e => ?_, fun y hy => ?_, k3, k4, kd⟩
      · show _ = fQual j ++ ".<locals>."
        unfold fQual; rw [hcl]
      · have hv : vals.length = args.args.length := by simpa using hv
        refine El_eee (take3 (Nat.le_of_ble_eq_true k6) hv) fun a b c hr3 => ?_; obtain rfl := hr3
        exact Option.some.inj (B a b c)
      · have := k1 y hy; rw [e] at this; cases this
      · have := k2 y hy
        rw [lk_lookup] at this
        split at this
        · assumption
        · cases this
    · cases ok
  · cases hd
theorem w_mem : ∃ x, (x, 22, 85) ∈ metNames := by
  obtain ⟨x, hx⟩ := fnAt_mem (show fnAt metNames 85 = some 22 by kernel_rfl)
  exact ⟨x, hx⟩
theorem w_bind (a b c : Value) : bindA 22 85 [a, b, c] = zipA 22 [a, b, c] := by kernel_rfl
theorem w_def : (match clsB[22]? with | some (.FunctionDef _ _ _ _ _ _ _ _ _ _) => true | _ => false) = true := by kernel_rfl
noncomputable def wLoc (x : Str) : Bool := match lk dW.scope.names x with | some .local => true | some .cell => hasN (cellNs dW.scope.names) x | _ => false
theorem w_facts : ((cellNs dW.scope.names) = [nSelf]) ∧ dW.names.all wLoc = true ∧ dW.scope.isCoroutine = false ∧ dW.scope.isGenerator = false ∧ dW.scope.kind = .function ∧ dW.names.length = 2 := ⟨by kernel_rfl, by kernel_rfl, by kernel_rfl, by kernel_rfl, by kernel_rfl, by kernel_rfl⟩
theorem fnW_ok {h : Heap} (M : MpuB h es n) : FnOKC h 85 dW := by
  obtain ⟨x, hx⟩ := w_mem
  have F := M.fns _ hx
  have C := code_rec M hx
  have hd := w_def
  have W := w_facts
  have B := w_bind
  split at hd
  · rename_i name args body _ _ _ sc _ _ _ hcl
    have e : dW = ⟨args.args.map (·.arg), body, sc, .ref 84, fQual 22 ++ ".<locals>."⟩ := by unfold dW; rw [hcl]; rfl
    dsimp only at F C
    unfold fQual at C
    unfold fObj at F
    unfold bindA fObj zipA at B
    rw [hcl] at F C B
    have hn : args.args.length = 2 := by have := W.2.2.2.2.2; rw [e] at this; simpa using this
    refine ⟨⟨_, _, F, rfl, C, by rw [e], by rw [e], rfl, rfl, by rw [e], ?_, rfl, fun vals hv => ?_⟩, by rw [W.1]; exact List.nodup_cons.mpr ⟨fun h => (by cases h), List.nodup_nil⟩, fun y hy => ?_, W.2.2.1, W.2.2.2.1, W.2.2.2.2.1⟩
    · rw [e]; show _ = fQual 22 ++ ".<locals>."
      unfold fQual; rw [hcl]
    · rw [W.2.2.2.2.2] at hv
      match vals, hv with
      | [a, b], _ =>
        have := B a b .none
        simp only [hn, List.take] at this
        have := Option.some.inj this
        rw [e]
        exact this
    · have := List.all_eq_true.mp W.2.1 y hy
      unfold wLoc at this
      rw [lk_lookup] at this
      split at this
      · rename_i q; exact .inl q
      · rename_i q; exact .inr ⟨q, hasN_mem this⟩
      · cases this
  · cases hd
theorem codeHd_ok {h : Heap} (M : MpuB h es n) : CodeHd h 84 80 := by
  obtain ⟨o, g, e⟩ := M.code
  unfold codeHd at e
  split at e
  · rename_i vs d
    simp only [Option.some.injEq, Prod.mk.injEq, List.map_cons, List.map_nil, List.cons.injEq, and_true] at e
    refine El_aaaaa e fun e0 e7 e9 e10 e11 e18 => ?_; try clear e
    have bm : ∀ {k : Nat} {b : Value}, (vs.toList[k]?).map bare = some b → ∃ v, vs[k]? = some v ∧ bare v = b := fun {k b} h => by
      rw [Array.getElem?_toList] at h
      obtain ⟨v, a, b⟩ := Option.map_eq_some_iff.mp h
      exact ⟨v, a, b⟩
    obtain ⟨v7, a7, b7⟩ := bm e7
    obtain ⟨v9, a9, b9⟩ := bm e9
    obtain ⟨v10, a10, b10⟩ := bm e10
    obtain ⟨v11, a11, b11⟩ := bm e11
    obtain ⟨v18, a18, b18⟩ := bm e18
    obtain ⟨t7, rfl⟩ := bare_int b7
    obtain ⟨t10, rfl⟩ := bare_int b10
    have := bare_ref b11; subst this
    have : v9 = .bool true := by cases v9 <;> simp [bare] at b9; rw [b9]
    subst this
    obtain ⟨t18, rfl⟩ : ∃ t, v18 = .str fileS t := by cases v18 <;> simp [bare] at b18; rename_i t; exact ⟨t, by rw [b18]⟩
    have gd : ∀ {k : Nat} {v : Value}, vs[k]? = some v → vs.getD k .none = v := fun h => by rw [Array.getD_eq_getD_getElem?, h]; rfl
    exact ⟨o, vs, fileS, t18, 3, t7, true, 181, t10, g, e0, d, a11, gd a11, gd a18, gd a7, gd a9, gd a10, by decide⟩
  · cases e
end
end
end Mine

end
section
open PySem PySem.W PyProof.Rows
namespace Mine
noncomputable section
noncomputable abbrev v_large : Str := nS [108, 97, 114, 103, 101]
noncomputable abbrev v_small : Str := nS [115, 109, 97, 108, 108]
noncomputable abbrev v_y : Str := nS [121]
noncomputable abbrev v_first : Str := nS [102, 105, 114, 115, 116]
noncomputable abbrev v_first_high : Str := nS [102, 105, 114, 115, 116, 95, 104, 105, 103, 104]
noncomputable abbrev v_second : Str := nS [115, 101, 99, 111, 110, 100]
noncomputable abbrev v_second_high : Str := nS [115, 101, 99, 111, 110, 100, 95, 104, 105, 103, 104]
noncomputable abbrev v_count : Str := nS [99, 111, 117, 110, 116]
noncomputable abbrev v_tests : Str := nS [116, 101, 115, 116, 115]
noncomputable abbrev v_looks : Str := nS [108, 111, 111, 107, 115]
noncomputable abbrev v_swaps : Str := nS [115, 119, 97, 112, 115]
noncomputable abbrev v_takes : Str := nS [116, 97, 107, 101, 115]
noncomputable abbrev v_code : Str := nS [99, 111, 100, 101]
noncomputable abbrev v_start : Str := nS [115, 116, 97, 114, 116]
noncomputable abbrev v_back : Str := nS [98, 97, 99, 107]
noncomputable abbrev v_end : Str := nS [101, 110, 100]
noncomputable abbrev v_memory : Str := nS [109, 101, 109, 111, 114, 121]
noncomputable abbrev v_place : Str := nS [112, 108, 97, 99, 101]
noncomputable abbrev v_octet : Str := nS [111, 99, 116, 101, 116]
noncomputable abbrev v_places : Str := nS [112, 108, 97, 99, 101, 115]
noncomputable abbrev v_numbers : Str := nS [110, 117, 109, 98, 101, 114, 115]
noncomputable abbrev v_which : Str := nS [119, 104, 105, 99, 104]
noncomputable abbrev v_plain : Str := nS [112, 108, 97, 105, 110]
noncomputable abbrev v_pointers : Str := nS [112, 111, 105, 110, 116, 101, 114, 115]
noncomputable abbrev v_pointer : Str := nS [112, 111, 105, 110, 116, 101, 114]
noncomputable abbrev v_cell_low : Str := nS [99, 101, 108, 108, 95, 108, 111, 119]
noncomputable abbrev v_cell_high : Str := nS [99, 101, 108, 108, 95, 104, 105, 103, 104]
noncomputable abbrev v_divisor : Str := nS [100, 105, 118, 105, 115, 111, 114]
noncomputable abbrev v_one : Str := nS [111, 110, 101]
noncomputable abbrev v_counted : Str := nS [99, 111, 117, 110, 116, 101, 100]
noncomputable abbrev v_here : Str := nS [104, 101, 114, 101]
noncomputable abbrev v_held : Str := nS [104, 101, 108, 100]
noncomputable abbrev v_depth : Str := nS [100, 101, 112, 116, 104]
noncomputable abbrev v_address : Str := nS [97, 100, 100, 114, 101, 115, 115]
noncomputable abbrev v_mpu : Str := nS [109, 112, 117]
noncomputable abbrev v_turn : Str := nS [116, 117, 114, 110]
noncomputable abbrev dfl5 : List Int := [44, 0, 0, 3, 5]
theorem ls0 (cd : Value) (o : Obj) (Q : PF) : lx kN 30 40 (F0 cd lsc) (stL 0) [.fix o, .cell none] Q =
   (∃ ns, FixI o ns ∧ ns.length ≤ 100000 ∧ (0 : Int) ≤ 5 ∧ ∃ ms, FixI o ms ∧ ms.length ≤ 1000000 ∧ dfl5.length ≤ 100000 ∧ (0 : Int) ≤ ms.length ∧ (ns.take 5).length + (dfl5.drop ms.length).length ≤ 100000 ∧
     Q .next (lsc ++ [(nDrawn, .obj 5)]) [.fix o, .cell none, .intx (ns.take 5), .intx dfl5, .intx (dfl5.drop ms.length), .intx (ns.take 5 ++ dfl5.drop ms.length)]) := by kernel_rfl
noncomputable abbrev Z2 (ns : List Int) : List AO := [.intx (ns.take 5), .intx dfl5, .intx (dfl5.drop ns.length)]
noncomputable abbrev rd5 (k : Int) : Prop := 0 ≤ k ∧ k < (5 : Nat) ∧ k < 2 ^ 63
noncomputable def vLarge (d3 d4 : Int) : Int := (2654435761 * d3 + d4 + 1).fmod 613566756
noncomputable def cl (d1 k : Int) : Int := (d1.fmod 256 + k).fmod 256
noncomputable def stG (i j : Nat) : List Stmt := (lawD.body.drop i).take (j - i)
noncomputable abbrev LA (d0 d1 d2 d3 d4 : Int) : Loc := lsc ++ [(nDrawn, .obj 5), (v_large, .int (vLarge d3 d4)), (v_small, .obj 6), (v_y, .int (d2.fmod 253)), (v_first, .int (cl d1 0)), (v_first_high, .int (cl d1 1)), (v_second, .int (cl d1 2)), (v_second_high, .int (cl d1 3)), (v_count, .int (cl d1 4))]
noncomputable abbrev ZA (o : Obj) (ns : List Int) (d0 d1 d2 d3 d4 : Int) : List AO := [.fix o, .cell (some (.int (d1.fmod 256)))] ++ Z2 ns ++ [.intx [d0, d1, d2, d3, d4], .intx [d0.fmod 8, (d0.fdiv 8).fmod 8], .intx [cl d1 0, cl d1 1, cl d1 2, cl d1 3, cl d1 4]]
noncomputable abbrev dpy (a b : Int) : Prop := b ≠ 0 ∧ Builtin.divisionGoesByPylong a b = false
noncomputable abbrev mul64 (a b : Int) : Prop := Builtin.Int.intBits a ≤ 64 ∨ Builtin.Int.intBits b ≤ 64
theorem lsA (cd : Value) (o : Obj) (ns : List Int) (d0 d1 d2 d3 d4 : Int) (Q : PF) : lxs kN 40 40 (F0 cd (lsc ++ [(nDrawn, .obj 5)])) (stG 1 6) ([.fix o, .cell none] ++ Z2 ns ++ [.intx [d0, d1, d2, d3, d4]]) Q =
   (rd5 3 ∧ mul64 2654435761 d3 ∧ rd5 4 ∧ (613566756 : Int) ≠ 0 ∧ rd5 0 ∧ (8 : Int) ≠ 0 ∧ rd5 0 ∧ dpy d0 8 ∧ (8 : Int) ≠ 0 ∧ rd5 1 ∧ (256 : Int) ≠ 0 ∧ rd5 2 ∧ (253 : Int) ≠ 0 ∧
    ((Small 0 ∧ Small 5) ∧ (5 - 0 : Int) ≤ 100000) ∧ (256 : Int) ≠ 0 ∧ (256 : Int) ≠ 0 ∧ (256 : Int) ≠ 0 ∧ (256 : Int) ≠ 0 ∧ (256 : Int) ≠ 0 ∧ (5 : Nat) = 5 ∧ Q .next (LA d0 d1 d2 d3 d4) (ZA o ns d0 d1 d2 d3 d4)) := by kernel_rfl
end
end Mine

end
section
open PySem PySem.W PyProof.Rows
namespace Mine
noncomputable section
section
variable (y f fh s sh ct : Int)
noncomputable abbrev tTests : List Int := [160, y, 177, s, 200, 17, s, 200, 17, s, 200, 17, s, 208, 1, 96]
noncomputable abbrev tLook1 : List Int := [160, y, 56, 177, f, 241, s]
noncomputable abbrev tLook2 : List Int := [200, 177, f, 241, s]
noncomputable abbrev tSwap1 : List Int := [165, f, 166, s, 133, s, 134, f]
noncomputable abbrev tSwap2 : List Int := [165, fh, 166, sh, 133, sh, 134, fh, 76, 0, 2]
noncomputable abbrev tTake1 : List Int := [160, y, 177, f, 241, s, 145, f]
noncomputable abbrev tTake2 : List Int := [200, 177, f, 241, s, 145, f]
noncomputable abbrev tTake3 : List Int := [32, 16, 2, 230, ct, 96]
noncomputable abbrev tLooks : List Int := tLook1 y f s ++ repL (tLook2 f s) 3
noncomputable abbrev tSwaps : List Int := tSwap1 f s ++ tSwap2 fh sh
noncomputable abbrev tTakes : List Int := (tTake1 y f s ++ repL (tTake2 f s) 3) ++ tTake3 ct
noncomputable abbrev LB (loc : Loc) : Loc := loc ++ [(v_tests, .obj 8), (v_looks, .obj 12), (v_swaps, .obj 13), (v_takes, .obj 18)]
noncomputable abbrev ZB (as : List AO) : List AO := as ++ [.intx (tTests y s), .intx (tLook1 y f s), .intx (tLook2 f s), .intx (repL (tLook2 f s) 3), .intx (tLooks y f s), .intx (tSwaps f fh s sh), .intx (tSwap2 fh sh),
  .intx (tTake1 y f s), .intx (tTake2 f s), .intx (repL (tTake2 f s) 3), .intx (tTakes y f s ct), .intx (tTake3 ct)]
end
noncomputable abbrev LL (lg y f fh s sh ct : Int) : Loc := lsc ++ [(nDrawn, .obj 5), (v_large, .int lg), (v_small, .obj 6), (v_y, .int y), (v_first, .int f), (v_first_high, .int fh), (v_second, .int s), (v_second_high, .int sh), (v_count, .int ct)]
noncomputable abbrev mulk (n : Nat) (k : Int) : Prop := 0 < n ∧ 0 ≤ k ∧ k < 2 ^ 62 ∧ n * k.toNat ≤ 100000
theorem lsB (cd : Value) (a0 a1 a2 a3 a4 a5 a6 a7 : AO) (lg y f fh s sh ct : Int) (Q : PF) : lxs kN 60 40 (F0 cd (LL lg y f fh s sh ct)) (stG 6 12) [a0, a1, a2, a3, a4, a5, a6, a7] Q =
   (mulk 5 3 ∧ (7 + 15 : Nat) ≤ 100000 ∧ (8 + 11 : Nat) ≤ 100000 ∧ mulk 7 3 ∧ (8 + 21 : Nat) ≤ 100000 ∧ (16 : Nat) ≤ 1000000 ∧ (29 + 6 : Nat) ≤ 100000 ∧ Q .next (LB (LL lg y f fh s sh ct)) (ZB y f fh s sh ct [a0, a1, a2, a3, a4, a5, a6, a7])) := by kernel_rfl
section
variable (y f fh s sh ct : Int)
noncomputable abbrev tCode0 : List Int := (((tTests y s ++ tLooks y f s) ++ [176, 19]) ++ tSwaps f fh s sh) ++ tTakes y f s ct
noncomputable abbrev tCode : List Int := tCode0 y f fh s sh ct ++ [32, 0, 2]
noncomputable abbrev LC (loc : Loc) : Loc := loc ++ [(v_code, .obj 24), (v_start, .int 606), (v_back, .int 602), (v_end, .int 609), (v_memory, .obj 27)]
noncomputable abbrev ZC (as : List AO) : List AO := as ++ [.intx (tTests y s ++ tLooks y f s), .intx [176, 19], .intx ((tTests y s ++ tLooks y f s) ++ [176, 19]), .intx (((tTests y s ++ tLooks y f s) ++ [176, 19]) ++ tSwaps f fh s sh), .intx (tCode y f fh s sh ct), .intx [32, 0, 2], .intx [170], .intx (repL [170] 1024)]
end
theorem lsC (cd : Value) (a0 a1 a2 a3 a4 a5 a6 a7 : AO) (lg y f fh s sh ct : Int) (Q : PF) : lxs kN 60 40 (F0 cd (LB (LL lg y f fh s sh ct))) (stG 12 18) (ZB y f fh s sh ct [a0, a1, a2, a3, a4, a5, a6, a7]) Q =
   ((16 + 22 : Nat) ≤ 100000 ∧ (19 : Nat) ≤ 1000000 ∧ (38 + 2 : Nat) ≤ 100000 ∧ (40 + 19 : Nat) ≤ 100000 ∧ (59 + 35 : Nat) ≤ 100000 ∧ (94 : Nat) ≤ 1000000 ∧ (94 + 3 : Nat) ≤ 100000 ∧ mulk 1 1024 ∧ Q .next (LC (LB (LL lg y f fh s sh ct))) (ZC y f fh s sh ct (ZB y f fh s sh ct [a0, a1, a2, a3, a4, a5, a6, a7]))) := by kernel_rfl
end
end Mine

end
section
open PySem PySem.W PyProof.Rows
namespace Mine
noncomputable section
noncomputable def forOf : Stmt → Option (Expr × Expr × List Stmt × Pos)
  | .For t i b [] p => some (t, i, b, p)
  | _ => none
noncomputable def forBody (i : Nat) : List Stmt := match forOf (stL i) with
  | some (_, _, b, _) => b
  | none => []
structure EnumB where
  (xi xv en cn : Str)
  (pi pv pt pe pc pa pos : Pos)
  (k : Nat)
noncomputable def enumOf : Stmt → EnumB
  | .For (.Tuple [.Name xi pi, .Name xv pv] k pt) (.Call (.Name en pe) [.Name cn pa] [] pc) _ [] pos => ⟨xi, xv, en, cn, pi, pv, pt, pe, pc, pa, pos, k⟩
  | _ => ⟨nS [], nS [], nS [], nS [], default, default, default, default, default, default, default, 0⟩
noncomputable def EnumB.stmt (b : EnumB) (body : List Stmt) : Stmt := .For (.Tuple [.Name b.xi b.pi, .Name b.xv b.pv] b.k b.pt) (.Call (.Name b.en b.pe) [.Name b.cn b.pa] [] b.pc) body [] b.pos
theorem e18 : stL 18 = (enumOf (stL 18)).stmt (forBody 18) := by kernel_rfl
theorem e18n : ((enumOf (stL 18)).xi, (enumOf (stL 18)).xv, (enumOf (stL 18)).en, (enumOf (stL 18)).cn) = (v_place, v_octet, nS [101, 110, 117, 109, 101, 114, 97, 116, 101], v_code) := by kernel_rfl
theorem e18k : (isKind .globalImplicit lawD.scope (nS [101, 110, 117, 109, 101, 114, 97, 116, 101]), isKind .local lawD.scope v_code, isKind .local lawD.scope v_place, isKind .local lawD.scope v_octet) = (true, true, true, true) := by kernel_rfl
noncomputable abbrev LD (lg y f fh s sh ct : Int) : Loc := LC (LB (LL lg y f fh s sh ct))
noncomputable abbrev LP (loc : Loc) (p o : Int) : Loc := loc ++ [(v_place, .int p), (v_octet, .int o)]
theorem l18b (cd : Value) (as24 : AO) (a0 a1 a2 a3 a4 a5 a6 a7 a8 a9 a10 a11 a12 a13 a14 a15 a16 a17 a18 a19 a20 a21 a22 a23 a25 a26 : AO) (m : List Int) (lg y f fh s sh ct p o : Int) (Q : PF) :
    lxs kN 20 40 (F0 cd (LP (LD lg y f fh s sh ct) p o)) (forBody 18) [a0, a1, a2, a3, a4, a5, a6, a7, a8, a9, a10, a11, a12, a13, a14, a15, a16, a17, a18, a19, a20, a21, a22, a23, as24, a25, a26, .ints m] Q =
    ((0 ≤ 512 + p ∧ 512 + p < m.length ∧ 512 + p < 2 ^ 63) ∧ Q .next (LP (LD lg y f fh s sh ct) p o) [a0, a1, a2, a3, a4, a5, a6, a7, a8, a9, a10, a11, a12, a13, a14, a15, a16, a17, a18, a19, a20, a21, a22, a23, as24, a25, a26, .ints (m.set (512 + p).toNat o)]) := by kernel_rfl
theorem l18x (cd : Value) (as24 : AO) (a0 a1 a2 a3 a4 a5 a6 a7 a8 a9 a10 a11 a12 a13 a14 a15 a16 a17 a18 a19 a20 a21 a22 a23 a25 a26 : AO) (m : List Int) (lg y f fh s sh ct p o : Int) (Q : PF) :
    lxs kN 20 40 (F0 cd (LP (LD lg y f fh s sh ct) p o)) (forBody 18) [a0, a1, a2, a3, a4, a5, a6, a7, a8, a9, a10, a11, a12, a13, a14, a15, a16, a17, a18, a19, a20, a21, a22, a23, as24, a25, a26, .intx m] Q =
    ((0 ≤ 512 + p ∧ 512 + p < m.length ∧ 512 + p < 2 ^ 63) ∧ Q .next (LP (LD lg y f fh s sh ct) p o) [a0, a1, a2, a3, a4, a5, a6, a7, a8, a9, a10, a11, a12, a13, a14, a15, a16, a17, a18, a19, a20, a21, a22, a23, as24, a25, a26, .ints (m.set (512 + p).toNat o)]) := by kernel_rfl
theorem l18s0 (cd : Value) (lg y f fh s sh ct p o : Int) (as : List AO) (Q : Loc → List AO → Prop) : storesW (F0 cd (LD lg y f fh s sh ct)) [v_place, v_octet] [.int p, .int o] as Q = Q (LP (LD lg y f fh s sh ct) p o) as := by kernel_rfl
theorem l18s1 (cd : Value) (lg y f fh s sh ct p o p' o' : Int) (as : List AO) (Q : Loc → List AO → Prop) : storesW (F0 cd (LP (LD lg y f fh s sh ct) p' o')) [v_place, v_octet] [.int p, .int o] as Q = Q (LP (LD lg y f fh s sh ct) p o) as := by kernel_rfl
noncomputable def memE (c : List Int) : Nat → List Int
  | 0 => repL [170] 1024
  | k + 1 => (memE c k).set (512 + k) (c.getD k 0)
theorem repL_len (k : Nat) : (repL [170] k).length = k := by unfold repL; simp
theorem memE_len (c : List Int) : ∀ k, (memE c k).length = 1024
  | 0 => repL_len 1024
  | k + 1 => by unfold memE; rw [List.length_set]; exact memE_len c k
theorem st18 {X : Cx} (O : KenOK X kN) (cd : Value) (a0 a1 a2 a3 a4 a5 a6 a7 a8 a9 a10 a11 a12 a13 a14 a15 a16 a17 a18 a19 a20 a21 a22 a23 a25 a26 : AO) (c : List Int) (lg y f fh s sh ct : Int) (Q : PF) (hc : 0 < c.length) (hc' : c.length ≤ 512)
    (h : Q .next (LP (LD lg y f fh s sh ct) (c.length - 1 : Nat) (c.getD (c.length - 1) 0)) [a0, a1, a2, a3, a4, a5, a6, a7, a8, a9, a10, a11, a12, a13, a14, a15, a16, a17, a18, a19, a20, a21, a22, a23, .intx c, a25, a26, .ints (memE c c.length)]) :
    ExS X 40 (F0 cd (LD lg y f fh s sh ct)) (stL 18) [a0, a1, a2, a3, a4, a5, a6, a7, a8, a9, a10, a11, a12, a13, a14, a15, a16, a17, a18, a19, a20, a21, a22, a23, .intx c, a25, a26, .intx (repL [170] 1024)] Q := by
  have en := e18n
  have ek := e18k
  simp only [Prod.mk.injEq] at en ek
  rw [e18]
  unfold EnumB.stmt
  rw [en.1, en.2.1, en.2.2.1, en.2.2.2]
  refine El_ea (O.gvs (nS [101, 110, 117, 109, 101, 114, 97, 116, 101]) (.ty "enumerate") (by kernel_rfl)) fun v G V => ?_
  cases V
  refine st_forE ek.1 G rfl (ev_local ek.2.1 (av := .obj 24) (by kernel_rfl) ⟨24, c, rfl,
    fun k loc as => (k = 0 ∧ loc = LD lg y f fh s sh ct ∧ as = [a0, a1, a2, a3, a4, a5, a6, a7, a8, a9, a10, a11, a12, a13, a14, a15, a16, a17, a18, a19, a20, a21, a22, a23, .intx c, a25, a26, .intx (repL [170] 1024)]) ∨
      (0 < k ∧ k ≤ c.length ∧ loc = LP (LD lg y f fh s sh ct) (k - 1 : Nat) (c.getD (k - 1) 0) ∧ as = [a0, a1, a2, a3, a4, a5, a6, a7, a8, a9, a10, a11, a12, a13, a14, a15, a16, a17, a18, a19, a20, a21, a22, a23, .intx c, a25, a26, .ints (memE c k)]),
    fun k loc as => k < c.length ∧ loc = LP (LD lg y f fh s sh ct) k (c.getD k 0) ∧ ((k = 0 ∧ as = [a0, a1, a2, a3, a4, a5, a6, a7, a8, a9, a10, a11, a12, a13, a14, a15, a16, a17, a18, a19, a20, a21, a22, a23, .intx c, a25, a26, .intx (repL [170] 1024)]) ∨ as = [a0, a1, a2, a3, a4, a5, a6, a7, a8, a9, a10, a11, a12, a13, a14, a15, a16, a17, a18, a19, a20, a21, a22, a23, .intx c, a25, a26, .ints (memE c k)]),
    .inl ⟨rfl, rfl, rfl⟩, ?_, ?_, ?_, ?_⟩)
  · rintro k loc as (⟨_, _, rfl⟩ | ⟨_, _, _, rfl⟩) <;> exact ⟨.intx c, rfl, rfl⟩
  · intro k loc as yv hy hI
    have hk : k < c.length := (List.getElem?_eq_some_iff.mp hy).1
    have ey : yv = c.getD k 0 := by rw [List.getD_eq_getElem?_getD, hy]; rfl
    subst ey
    rcases hI with ⟨rfl, rfl, rfl⟩ | ⟨h1, h2, rfl, rfl⟩
    · show storesW (F0 cd (LD lg y f fh s sh ct)) [v_place, v_octet] _ _ _
      rw [l18s0]; exact ⟨hk, rfl, .inl ⟨rfl, rfl⟩⟩
    · show storesW (F0 cd (LP (LD lg y f fh s sh ct) _ _)) [v_place, v_octet] _ _ _
      rw [l18s1]; exact ⟨hk, rfl, .inr rfl⟩
  · rintro k loc as ⟨hk, rfl, has⟩
    refine (specX O 20).exs 40 (F0 cd (LP (LD lg y f fh s sh ct) k (c.getD k 0))) (forBody 18) as _ ?_
    have hlen := memE_len c k
    rcases has with ⟨rfl, rfl⟩ | rfl
    · rw [l18x]
      refine ⟨⟨by lia, by rw [repL_len]; lia, by lia⟩, .inr ⟨by lia, by lia, ?_, ?_⟩⟩
      · rfl
      · rfl
    · rw [l18b]
      refine ⟨⟨by lia, by rw [hlen]; lia, by lia⟩, .inr ⟨by lia, by lia, ?_, ?_⟩⟩
      · rw [Nat.add_sub_cancel]
      · rw [show (512 + (k : Int)).toNat = 512 + k by lia]; rfl
  · intro loc as hI
    rcases hI with ⟨h1, _⟩ | ⟨_, _, rfl, rfl⟩
    · lia
    · exact h
end
end Mine

end
section
open PySem PySem.W PyProof.Rows
namespace Mine
noncomputable section
noncomputable abbrev it (n : Nat) (k : Int) : Prop := 0 ≤ k ∧ k < n ∧ k < 2 ^ 63
noncomputable abbrev LE (lg y f fh s sh ct p o : Int) : Loc := LP (LD lg y f fh s sh ct) p o
noncomputable abbrev LF (loc : Loc) : Loc := loc ++ [(v_places, .obj 28), (v_numbers, .obj 29)]
theorem l19 (cd : Value) (a0 a1 a2 a3 a4 a7 a8 a9 a10 a11 a12 a13 a14 a15 a16 a17 a18 a19 a20 a21 a22 a23 a25 a26 code mem : AO) (d0 d1 d2 d3 d4 s0 s1 lg y f fh s sh ct p o : Int) (Q : PF) :
    lxs kN 30 40 (F0 cd (LE lg y f fh s sh ct p o)) (stG 19 21) [a0, a1, a2, a3, a4, .intx [d0, d1, d2, d3, d4], .intx [s0, s1], a7, a8, a9, a10, a11, a12, a13, a14, a15, a16, a17, a18, a19, a20, a21, a22, a23, code, a25, a26, mem] Q =
    (rd5 1 ∧ rd5 2 ∧ (120 : Int) ≠ 0 ∧ rd5 1 ∧ mul64 3 d1 ∧ rd5 2 ∧ (120 : Int) ≠ 0 ∧ it 2 0 ∧ mul64 lg s0 ∧ it 2 1 ∧ mul64 lg s1 ∧
      Q .next (LF (LE lg y f fh s sh ct p o)) [a0, a1, a2, a3, a4, .intx [d0, d1, d2, d3, d4], .intx [s0, s1], a7, a8, a9, a10, a11, a12, a13, a14, a15, a16, a17, a18, a19, a20, a21, a22, a23, code, a25, a26, mem,
        .intx [768 + (d1 + d2).fmod 120, 896 + (3 * d1 + d2).fmod 120], .intx [lg * s0, lg * s1]]) := by kernel_rfl
noncomputable def layV (w : Int) (n pl k : Int) (m : List Int) (K : List Int → Prop) : Prop := it 2 w ∧ (0 ≤ k ∧ (Builtin.Int.intBits 256 : Int) * k ≤ 2 ^ 27) ∧ dpy n (256 ^ k.toNat) ∧ (256 : Int) ≠ 0 ∧ it 2 w ∧ it m.length (pl + k) ∧ K (m.set (pl + k).toNat ((n.fdiv (256 ^ k.toNat)).fmod 256))
noncomputable abbrev LG (lg y f fh s sh ct p o w : Int) : Loc := LF (LE lg y f fh s sh ct p o) ++ [(v_which, .int w)]
theorem l21 (cd : Value) (a0 a1 a2 a3 a4 a5 a6 a7 a8 a9 a10 a11 a12 a13 a14 a15 a16 a17 a18 a19 a20 a21 a22 a23 a24 a25 a26 : AO) (m : List Int) (p0 p1 n0 n1 lg y f fh s sh ct p o : Int) (Q : PF) :
    lx kN 45 40 (F0 cd (LF (LE lg y f fh s sh ct p o))) (stL 21) [a0, a1, a2, a3, a4, a5, a6, a7, a8, a9, a10, a11, a12, a13, a14, a15, a16, a17, a18, a19, a20, a21, a22, a23, a24, a25, a26, .ints m, .intx [p0, p1], .intx [n0, n1]] Q =
    ((Small 0 ∧ Small 2) ∧ (Small 0 ∧ Small 4) ∧ layV 0 n0 p0 0 m fun m => layV 0 n0 p0 1 m fun m => layV 0 n0 p0 2 m fun m => layV 0 n0 p0 3 m fun m => (Small 0 ∧ Small 4) ∧ layV 1 n1 p1 0 m fun m => layV 1 n1 p1 1 m fun m => layV 1 n1 p1 2 m fun m => layV 1 n1 p1 3 m fun m =>
      Q .next (LG lg y f fh s sh ct 3 o 1) [a0, a1, a2, a3, a4, a5, a6, a7, a8, a9, a10, a11, a12, a13, a14, a15, a16, a17, a18, a19, a20, a21, a22, a23, a24, a25, a26, .ints m, .intx [p0, p1], .intx [n0, n1]]) := by kernel_rfl
noncomputable abbrev LH (lg y f fh s sh ct o : Int) : Loc := LG lg y f fh s sh ct 3 o 1 ++ [(v_plain, .obj 30), (v_pointers, .obj 33)]
theorem l22 (cd : Value) (a0 a1 a2 a3 a4 a5 a6 a7 a8 a9 a10 a11 a12 a13 a14 a15 a16 a17 a18 a19 a20 a21 a22 a23 a24 a25 a26 : AO) (m : List Int) (p0 p1 n0 n1 lg y f fh s sh ct o : Int) (Q : PF) :
    lxs kN 45 40 (F0 cd (LG lg y f fh s sh ct 3 o 1)) (stG 22 24) [a0, a1, a2, a3, a4, a5, a6, a7, a8, a9, a10, a11, a12, a13, a14, a15, a16, a17, a18, a19, a20, a21, a22, a23, a24, a25, a26, .ints m, .intx [p0, p1], .intx [n0, n1]] Q =
    (m.length ≤ 100000 ∧ it 2 0 ∧ it 2 1 ∧ Q .next (LH lg y f fh s sh ct o) [a0, a1, a2, a3, a4, a5, a6, a7, a8, a9, a10, a11, a12, a13, a14, a15, a16, a17, a18, a19, a20, a21, a22, a23, a24, a25, a26, .ints m, .intx [p0, p1], .intx [n0, n1],
       .intx m, .tuple [.int (p0 - y), .int f, .int fh], .tuple [.int (p1 - y), .int s, .int sh], .list [.obj 31, .obj 32]]) := by kernel_rfl
end
end Mine

end
section
open PySem PySem.W PyProof.Rows
namespace Mine
noncomputable section
structure ForB where
  (t : Expr)
  (x : Str)
  (px pos : Pos)
noncomputable def forNOf : Stmt → ForB
  | .For t (.Name x px) _ [] pos => ⟨t, x, px, pos⟩
  | _ => ⟨.Tuple [] 0 default, nS [], default, default⟩
theorem e24 : stL 24 = .For (forNOf (stL 24)).t (.Name (forNOf (stL 24)).x (forNOf (stL 24)).px) (forBody 24) [] (forNOf (stL 24)).pos := by kernel_rfl
theorem e24x : (forNOf (stL 24)).x = v_pointers := by kernel_rfl
theorem e24k : isKind .local lawD.scope v_pointers = true := by kernel_rfl
noncomputable abbrev LI (lg y f fh s sh ct o a b c : Int) : Loc := LH lg y f fh s sh ct o ++ [(v_pointer, .int a), (v_cell_low, .int b), (v_cell_high, .int c)]
section
variable (a0 a1 a2 a3 a4 a5 a6 a7 a8 a9 a10 a11 a12 a13 a14 a15 a16 a17 a18 a19 a20 a21 a22 a23 a24 a25 a26 : AO) (m : List Int) (pl nu pn : AO) (p0 f fh p1 s sh : Int)
noncomputable abbrev ZG : List AO := [a0, a1, a2, a3, a4, a5, a6, a7, a8, a9, a10, a11, a12, a13, a14, a15, a16, a17, a18, a19, a20, a21, a22, a23, a24, a25, a26, .ints m, pl, nu, pn, .tuple [.int p0, .int f, .int fh], .tuple [.int p1, .int s, .int sh], .list [.obj 31, .obj 32]]
end
theorem l24w (cd : Value) (a0 a1 a2 a3 a4 a5 a6 a7 a8 a9 a10 a11 a12 a13 a14 a15 a16 a17 a18 a19 a20 a21 a22 a23 a24 a25 a26 pl nu pn : AO) (m : List Int) (q0 q1 lg y f fh s sh ct o : Int) (Q : Loc → List AO → Prop) :
    bindW (F0 cd (LH lg y f fh s sh ct o)) (forNOf (stL 24)).t (.obj 31) (ZG a0 a1 a2 a3 a4 a5 a6 a7 a8 a9 a10 a11 a12 a13 a14 a15 a16 a17 a18 a19 a20 a21 a22 a23 a24 a25 a26 m pl nu pn q0 f fh q1 s sh) Q =
    ((3 : Nat) = 3 ∧ Q (LI lg y f fh s sh ct o q0 f fh) (ZG a0 a1 a2 a3 a4 a5 a6 a7 a8 a9 a10 a11 a12 a13 a14 a15 a16 a17 a18 a19 a20 a21 a22 a23 a24 a25 a26 m pl nu pn q0 f fh q1 s sh)) := by kernel_rfl
theorem l24w2 (cd : Value) (a0 a1 a2 a3 a4 a5 a6 a7 a8 a9 a10 a11 a12 a13 a14 a15 a16 a17 a18 a19 a20 a21 a22 a23 a24 a25 a26 pl nu pn : AO) (m : List Int) (q0 q1 lg y f fh s sh ct o b0 b1 b2 : Int) (Q : Loc → List AO → Prop) :
    bindW (F0 cd (LI lg y f fh s sh ct o b0 b1 b2)) (forNOf (stL 24)).t (.obj 32) (ZG a0 a1 a2 a3 a4 a5 a6 a7 a8 a9 a10 a11 a12 a13 a14 a15 a16 a17 a18 a19 a20 a21 a22 a23 a24 a25 a26 m pl nu pn q0 f fh q1 s sh) Q =
    ((3 : Nat) = 3 ∧ Q (LI lg y f fh s sh ct o q1 s sh) (ZG a0 a1 a2 a3 a4 a5 a6 a7 a8 a9 a10 a11 a12 a13 a14 a15 a16 a17 a18 a19 a20 a21 a22 a23 a24 a25 a26 m pl nu pn q0 f fh q1 s sh)) := by kernel_rfl
theorem l24b (cd : Value) (a0 a1 a2 a3 a4 a5 a6 a7 a8 a9 a10 a11 a12 a13 a14 a15 a16 a17 a18 a19 a20 a21 a22 a23 a24 a25 a26 pl nu pn : AO) (m : List Int) (q0 q1 lg y f fh s sh ct o b0 b1 b2 : Int) (Q : PF) :
    lxs kN 20 40 (F0 cd (LI lg y f fh s sh ct o b0 b1 b2)) (forBody 24) (ZG a0 a1 a2 a3 a4 a5 a6 a7 a8 a9 a10 a11 a12 a13 a14 a15 a16 a17 a18 a19 a20 a21 a22 a23 a24 a25 a26 m pl nu pn q0 f fh q1 s sh) Q =
    ((256 : Int) ≠ 0 ∧ it m.length b1 ∧ dpy b0 256 ∧ it (m.set b1.toNat (b0.fmod 256)).length b2 ∧
      Q .next (LI lg y f fh s sh ct o b0 b1 b2) (ZG a0 a1 a2 a3 a4 a5 a6 a7 a8 a9 a10 a11 a12 a13 a14 a15 a16 a17 a18 a19 a20 a21 a22 a23 a24 a25 a26 ((m.set b1.toNat (b0.fmod 256)).set b2.toNat (b0.fdiv 256)) pl nu pn q0 f fh q1 s sh)) := by kernel_rfl
noncomputable def ptrL (m : List Int) (q b c : Int) : List Int := (m.set b.toNat (q.fmod 256)).set c.toNat (q.fdiv 256)
theorem dpy256 (a : Int) : dpy a 256 := ⟨by decide, PyProof.noPylong_small (by decide)⟩
theorem st24 {X : Cx} (O : KenOK X kN) (cd : Value) (a0 a1 a2 a3 a4 a5 a6 a7 a8 a9 a10 a11 a12 a13 a14 a15 a16 a17 a18 a19 a20 a21 a22 a23 a24 a25 a26 pl nu pn : AO) (m : List Int) (q0 q1 lg y f fh s sh ct o : Int) (Q : PF)
    (hm : m.length = 1024) (hf : 0 ≤ f ∧ f < 256) (hfh : 0 ≤ fh ∧ fh < 256) (hs : 0 ≤ s ∧ s < 256) (hsh : 0 ≤ sh ∧ sh < 256)
    (h : Q .next (LI lg y f fh s sh ct o q1 s sh) (ZG a0 a1 a2 a3 a4 a5 a6 a7 a8 a9 a10 a11 a12 a13 a14 a15 a16 a17 a18 a19 a20 a21 a22 a23 a24 a25 a26 (ptrL (ptrL m q0 f fh) q1 s sh) pl nu pn q0 f fh q1 s sh)) :
    ExS X 40 (F0 cd (LH lg y f fh s sh ct o)) (stL 24) (ZG a0 a1 a2 a3 a4 a5 a6 a7 a8 a9 a10 a11 a12 a13 a14 a15 a16 a17 a18 a19 a20 a21 a22 a23 a24 a25 a26 m pl nu pn q0 f fh q1 s sh) Q := by
  rw [e24, e24x]
  refine st_forL (fun _ _ => rfl) (ev_local e24k (av := .obj 33) (by kernel_rfl) ⟨33, [.obj 31, .obj 32], rfl,
    fun k loc as => (k = 0 ∧ loc = LH lg y f fh s sh ct o ∧ as = ZG a0 a1 a2 a3 a4 a5 a6 a7 a8 a9 a10 a11 a12 a13 a14 a15 a16 a17 a18 a19 a20 a21 a22 a23 a24 a25 a26 m pl nu pn q0 f fh q1 s sh) ∨
      (k = 1 ∧ loc = LI lg y f fh s sh ct o q0 f fh ∧ as = ZG a0 a1 a2 a3 a4 a5 a6 a7 a8 a9 a10 a11 a12 a13 a14 a15 a16 a17 a18 a19 a20 a21 a22 a23 a24 a25 a26 (ptrL m q0 f fh) pl nu pn q0 f fh q1 s sh) ∨
      (k = 2 ∧ loc = LI lg y f fh s sh ct o q1 s sh ∧ as = ZG a0 a1 a2 a3 a4 a5 a6 a7 a8 a9 a10 a11 a12 a13 a14 a15 a16 a17 a18 a19 a20 a21 a22 a23 a24 a25 a26 (ptrL (ptrL m q0 f fh) q1 s sh) pl nu pn q0 f fh q1 s sh),
    fun k loc as => (k = 0 ∧ loc = LI lg y f fh s sh ct o q0 f fh ∧ as = ZG a0 a1 a2 a3 a4 a5 a6 a7 a8 a9 a10 a11 a12 a13 a14 a15 a16 a17 a18 a19 a20 a21 a22 a23 a24 a25 a26 m pl nu pn q0 f fh q1 s sh) ∨
      (k = 1 ∧ loc = LI lg y f fh s sh ct o q1 s sh ∧ as = ZG a0 a1 a2 a3 a4 a5 a6 a7 a8 a9 a10 a11 a12 a13 a14 a15 a16 a17 a18 a19 a20 a21 a22 a23 a24 a25 a26 (ptrL m q0 f fh) pl nu pn q0 f fh q1 s sh),
    .inl ⟨rfl, rfl, rfl⟩, ?_, ?_, ?_, ?_⟩)
  · rintro k loc as (⟨_, _, rfl⟩ | ⟨_, _, rfl⟩ | ⟨_, _, rfl⟩) <;> exact ⟨.list [.obj 31, .obj 32], rfl, rfl⟩
  · rintro k loc as av hav (⟨rfl, rfl, rfl⟩ | ⟨rfl, rfl, rfl⟩ | ⟨rfl, rfl, rfl⟩)
    · cases hav
      show bindW (F0 cd _) _ _ _ _
      rw [l24w]; exact ⟨rfl, .inl ⟨rfl, rfl, rfl⟩⟩
    · cases hav
      show bindW (F0 cd (LI _ _ _ _ _ _ _ _ _ _ _)) _ _ _ _
      rw [l24w2]; exact ⟨rfl, .inr ⟨rfl, rfl, rfl⟩⟩
    · cases hav
  · rintro k loc as (⟨rfl, rfl, rfl⟩ | ⟨rfl, rfl, rfl⟩)
    · refine (specX O 20).exs 40 (F0 cd _) (forBody 24) _ _ ?_
      rw [l24b]
      exact ⟨by decide, ⟨hf.1, by rw [hm]; lia, by lia⟩, dpy256 _, ⟨hfh.1, by rw [List.length_set, hm]; lia, by lia⟩, .inr (.inl ⟨rfl, rfl, rfl⟩)⟩
    · refine (specX O 20).exs 40 (F0 cd _) (forBody 24) _ _ ?_
      rw [l24b]
      have hm' : (ptrL m q0 f fh).length = 1024 := by unfold ptrL; rw [List.length_set, List.length_set, hm]
      exact ⟨by decide, ⟨hs.1, by rw [hm']; lia, by lia⟩, dpy256 _, ⟨hsh.1, by rw [List.length_set, hm']; lia, by lia⟩, .inr (.inr ⟨rfl, rfl, rfl⟩)⟩
  · rintro loc as (⟨h1, _⟩ | ⟨h1, _⟩ | ⟨_, rfl, rfl⟩)
    · cases h1
    · cases h1
    · exact h
end
end Mine

end
section
open PySem PySem.W PyProof.Rows PySem.SeqAt
namespace Mine
noncomputable def scV (n : Nat) : AV → Bool
  | .obj i => Nat.blt i n
  | _ => true
noncomputable def scVs (n : Nat) : List AV → Bool
  | [] => true
  | v :: r => scV n v && scVs n r
noncomputable def scL (n : Nat) : List (Str × AV) → Bool
  | [] => true
  | (_, v) :: r => scV n v && scL n r
noncomputable def scC (n : Nat) : List (Str × Nat) → Bool
  | [] => true
  | (_, i) :: r => Nat.blt i n && scC n r
noncomputable def scO (n : Nat) : AO → Bool
  | .list xs => scVs n xs
  | .tuple xs => scVs n xs
  | .inst _ d => Nat.blt d n
  | .dict es => scL n es
  | .meth _ i => Nat.blt i n
  | .cell (some v) => scV n v
  | _ => true
noncomputable def scOs (n : Nat) : List AO → Bool
  | [] => true
  | o :: r => scO n o && scOs n r
section
variable {X : Cx} {dp : Nat} {f : Fm} {as as' : List AO} {θ θ' : List Addr} {s s' : Shared} {L b : Addr} {env : Env} {n : Nat}
theorem take_get {i : Nat} {a : Addr} (h : θ[i]? = some a) (k : Nat.blt i n = true) : (θ.take n)[i]? = some a := by
  have k : i < n := by simpa using k
  rw [List.getElem?_take_of_lt k]; exact h
theorem VR.cut {a : AV} {v : Value} (h : VR θ a v) (k : scV n a = true) : VR (θ.take n) a v := by
  cases a with
  | obj i => obtain ⟨x, e, r⟩ := h; exact ⟨x, take_get e k, r⟩
  | _ => exact h
theorem VRs.cut {as : List AV} {vs : List Value} (h : VRs θ as vs) (k : scVs n as = true) : VRs (θ.take n) as vs := by
  induction h with
  | nil => exact .nil
  | cons a _ ih =>
    unfold scVs at k
    rw [Bool.and_eq_true] at k
    exact .cons (a.cut k.1) (ih k.2)
theorem DRs.cut {as : List (Str × AV)} {vs : List DictEntry} (h : DRs θ as vs) (k : scL n as = true) : DRs (θ.take n) as vs := by
  induction h with
  | nil => exact .nil
  | cons a b _ ih =>
    unfold scL at k
    rw [Bool.and_eq_true] at k
    exact .cons a (b.cut k.1) (ih k.2)
theorem OR.cut {o : AO} {ob : Obj} (h : OR θ o ob) (k : scO n o = true) : OR (θ.take n) o ob := by
  rcases o with xs | xs | v | ob' | xs | xs | ⟨C, d⟩ | es | ⟨fa, i⟩
  · exact h
  · exact h
  · obtain ⟨u, e, r⟩ := h
    refine ⟨u, e, ?_⟩
    cases v with
    | none => exact r
    | some v => obtain ⟨w, e2, r2⟩ := r; exact ⟨w, e2, r2.cut k⟩
  · exact h
  · obtain ⟨vs, m, e, r⟩ := h; exact ⟨vs, m, e, r.cut k⟩
  · obtain ⟨vs, m, e, r⟩ := h; exact ⟨vs, m, e, r.cut k⟩
  · obtain ⟨a, sl, e, r⟩ := h; exact ⟨a, sl, take_get e k, r⟩
  · obtain ⟨l, m, e, r⟩ := h; exact ⟨l, m, e, r.cut k⟩
  · obtain ⟨a, e, r⟩ := h; exact ⟨a, take_get e k, r⟩
theorem scOs_get {as : List AO} {o : AO} (h : scOs n as = true) {i : Nat} (e : as[i]? = some o) : scO n o = true := by
  induction as generalizing i with
  | nil => simp at e
  | cons o' r ih =>
    unfold scOs at h; rw [Bool.and_eq_true] at h
    cases i with
    | zero =>
      have : o' = o := by simpa using e
      rw [← this]; exact h.1
    | succ i => exact ih h.2 (by simpa using e)
theorem scL_get : ∀ {l : List (Str × AV)} {x : Str} {av : AV}, scL n l = true → lk l x = some av → scV n av = true
  | (y, v) :: r, x, av, h, e => by
    unfold scL at h; rw [Bool.and_eq_true] at h
    unfold lk at e
    split at e
    · cases e; exact h.1
    · exact scL_get h.2 e
theorem scC_get : ∀ {l : List (Str × Nat)} {x : Str} {i : Nat}, scC n l = true → lk l x = some i → Nat.blt i n = true
  | (y, v) :: r, x, av, h, e => by
    unfold scC at h; rw [Bool.and_eq_true] at h
    unfold lk at e
    split at e
    · cases e; exact h.1
    · exact scC_get h.2 e
theorem St.cut {bs : List AO} (S : X.S θ (as ++ bs) s) (k : scOs as.length as = true) (hp : X.T.pin.length ≤ as.length) : X.S (θ.take as.length) as s := by
  have hl : (θ.take as.length).length = as.length := by
    rw [List.length_take, ← S.ar.len, List.length_append]; lia
  refine ⟨⟨hl.symm, S.ar.nodup.sublist (List.take_sublist _ _), fun i o a e1 e2 => ?_⟩, S.base, fun a m => S.apart a (List.mem_of_mem_take m), S.gens, S.os, fun e he => ?_, fun e he m => S.hnin e he (List.mem_of_mem_take m), S.hbase, ?_⟩
  · have hi : i < as.length := (List.getElem?_eq_some_iff.mp e1).1
    rw [List.getElem?_take_of_lt hi] at e2
    obtain ⟨ob, x, y⟩ := S.ar.objs i o a (by rw [List.getElem?_append_left hi]; exact e1) e2
    exact ⟨ob, x, y.cut (scOs_get k e1)⟩
  · exact (S.tabs e he).to (fun _ x => x) (fun _ _ _ x _ _ _ => x) fun c o x nn m => nn (List.mem_of_mem_take m)
  · obtain ⟨t, ht⟩ := S.pin
    refine ⟨t.take (as.length - X.T.pin.length), ?_⟩
    rw [← ht, List.take_append, List.take_of_length_le hp]
theorem exs_cut {ss : List Stmt} {Q : PF} (hp : X.T.pin.length ≤ as.length) (hc : scC as.length f.cells = true)
    (h : ExsS X dp f ss as fun fl loc as' => ∃ base junk, as' = base ++ junk ∧ as.length ≤ base.length ∧ scOs base.length base = true ∧ scL base.length loc = true ∧ (match fl with | .ret v => scV base.length v = true | _ => True) ∧ Q fl loc base) : ExsS X dp f ss as Q := by
  intro A θ s L env post E R F S c
  refine h A θ s L env post E R F S fun fl loc' as' θ' s' g q S' X' F' G => ?_
  obtain ⟨base, junk, rfl, hl, h1, h2, h3, q⟩ := q
  have hθ : θ <+: θ'.take base.length := by
    obtain ⟨t, ht⟩ := X'.pre
    refine ⟨t.take (base.length - θ.length), ?_⟩
    rw [← ht, List.take_append, List.take_of_length_le (l := θ) (by rw [← S.ar.len]; exact hl)]
  refine c fl loc' base (θ'.take base.length) s' g q (S'.cut h1 (Nat.le_trans hp hl)) ⟨hθ, fun a m nn => X'.fresh a (List.mem_of_mem_take m) nn, X'.keep, X'.ex, X'.tab⟩ ?_ ?_
  · refine ⟨F'.scope, F'.kind, F'.loc, fun m => F'.nin (List.mem_of_mem_take m), F'.apart, F'.nhid, ?_, fun x i e => ?_, F'.glob, F'.blt, F'.code, F'.qual⟩
    · refine El_ea F'.ns fun m hm r => ?_
      refine ⟨m, hm, fun x av e => ?_⟩
      obtain ⟨v, e2, r2⟩ := r x av e
      exact ⟨v, e2, r2.cut (scL_get h2 e)⟩
    · refine El_ea (F'.cells x i e) fun a e1 e2 => ?_
      refine ⟨a, take_get e1 ?_, e2⟩
      have := scC_get hc e
      simp at this ⊢; lia
  · cases fl with
    | ret v => obtain ⟨u, rfl, hu⟩ := G; exact ⟨u, rfl, hu.cut h3⟩
    | _ => exact G
end
end Mine

end
section
open PySem PySem.W PyProof.Rows
namespace Mine
noncomputable section
noncomputable abbrev LJ (lg y f fh s sh ct o b0 b1 b2 dv : Int) : Loc := LI lg y f fh s sh ct o b0 b1 b2 ++ [(v_divisor, .int dv)]
theorem l25 (cd : Value) (a0 a1 a2 a3 a4 a5 a6 a7 a8 a9 a10 a11 a12 a13 a14 a15 a16 a17 a18 a19 a20 a21 a22 a23 a24 a25 a26 pl nu pn : AO) (m : List Int) (q0 q1 lg y f fh s sh ct o b0 b1 b2 : Int) (Q : PF) :
    lxs kN 20 40 (F0 cd (LI lg y f fh s sh ct o b0 b1 b2)) (stG 25 27) (ZG a0 a1 a2 a3 a4 a5 a6 a7 a8 a9 a10 a11 a12 a13 a14 a15 a16 a17 a18 a19 a20 a21 a22 a23 a24 a25 a26 m pl nu pn q0 f fh q1 s sh) Q =
    (it m.length ct ∧ Q .next (LJ lg y f fh s sh ct o b0 b1 b2 0) (ZG a0 a1 a2 a3 a4 a5 a6 a7 a8 a9 a10 a11 a12 a13 a14 a15 a16 a17 a18 a19 a20 a21 a22 a23 a24 a25 a26 (m.set ct.toNat 0) pl nu pn q0 f fh q1 s sh)) := by kernel_rfl
noncomputable abbrev LK (lg y f fh s sh ct o b0 b1 b2 dv one : Int) : Loc := LJ lg y f fh s sh ct o b0 b1 b2 dv ++ [(v_one, .int one)]
theorem l27b (cd : Value) (a0 a1 a2 a3 a4 a5 a7 a8 a9 a10 a11 a12 a13 a14 a15 a16 a17 a18 a19 a20 a21 a22 a23 a24 a25 a26 pl nu pn : AO) (m : List Int) (s0 s1 q0 q1 lg y f fh s sh ct o b0 b1 b2 dv one : Int) (Q : PF) :
    lxs kN 30 40 (F0 cd (LK lg y f fh s sh ct o b0 b1 b2 dv one)) (forBody 27) (ZG a0 a1 a2 a3 a4 a5 (.intx [s0, s1]) a7 a8 a9 a10 a11 a12 a13 a14 a15 a16 a17 a18 a19 a20 a21 a22 a23 a24 a25 a26 m pl nu pn q0 f fh q1 s sh) Q =
    (it 2 0 ∧ one ≠ 0 ∧ ifB (s0.fmod one == 0)
      (it 2 1 ∧ one ≠ 0 ∧ ifB (s1.fmod one == 0)
        (ifB (!decide ([s0, s1] = [0, 0]))
          (mul64 lg one ∧ Q .next (LK lg y f fh s sh ct o b0 b1 b2 (lg * one) one) (ZG a0 a1 a2 a3 a4 a5 (.intx [s0, s1]) a7 a8 a9 a10 a11 a12 a13 a14 a15 a16 a17 a18 a19 a20 a21 a22 a23 a24 a25 a26 m pl nu pn q0 f fh q1 s sh ++ [.intx [0, 0]]))
          (Q .next (LK lg y f fh s sh ct o b0 b1 b2 dv one) (ZG a0 a1 a2 a3 a4 a5 (.intx [s0, s1]) a7 a8 a9 a10 a11 a12 a13 a14 a15 a16 a17 a18 a19 a20 a21 a22 a23 a24 a25 a26 m pl nu pn q0 f fh q1 s sh ++ [.intx [0, 0]])))
        (Q .next (LK lg y f fh s sh ct o b0 b1 b2 dv one) (ZG a0 a1 a2 a3 a4 a5 (.intx [s0, s1]) a7 a8 a9 a10 a11 a12 a13 a14 a15 a16 a17 a18 a19 a20 a21 a22 a23 a24 a25 a26 m pl nu pn q0 f fh q1 s sh)))
      (Q .next (LK lg y f fh s sh ct o b0 b1 b2 dv one) (ZG a0 a1 a2 a3 a4 a5 (.intx [s0, s1]) a7 a8 a9 a10 a11 a12 a13 a14 a15 a16 a17 a18 a19 a20 a21 a22 a23 a24 a25 a26 m pl nu pn q0 f fh q1 s sh))) := by kernel_rfl
end
end Mine

end
section
open PySem PySem.W PyProof.Rows PySem.SeqAt
namespace Mine
theorem execs_two (env : Env) : ∀ (l1 l2 : List Stmt), execs (l1 ++ l2) env = (execs l1 env >>= fun g => match g with | .next => execs l2 env | g => pure g)
  | [], l2 => by
    show execs l2 env = (pure Flow.next >>= _)
    rw [pure_bind]
  | st :: r, l2 => by
    rw [List.cons_append, execs_cons, execs_cons, bind_assoc]
    refine congrArg _ (funext fun g => ?_)
    cases g with
    | next => exact execs_two env r l2
    | brk => rw [pure_bind]
    | cont => rw [pure_bind]
    | ret v => rw [pure_bind]
section
variable {X : Cx} {dp : Nat} {f : Fm} {as : List AO}
theorem exs_app {l1 l2 : List Stmt} {Q : PF} (h : ExsS X dp f l1 as fun fl loc as₁ => match fl with | .next => ExsS X dp { f with loc := loc } l2 as₁ Q | fl => Q fl loc as₁) : ExsS X dp f (l1 ++ l2) as Q := by
  intro A θ s L env post E R F S c
  rw [execs_two]
  refine wpAny_bind (h A θ s L env _ E R F S fun fl loc as₁ θ₁ s₁ g q S₁ X₁ F₁ G₁ => ?_)
  cases fl with
  | next =>
    cases G₁
    exact q A θ₁ s₁ L env _ E R F₁ S₁ fun fl loc as₂ θ₂ s₂ g q₂ S₂ X₂ F₂ G₂ => c _ _ _ θ₂ s₂ _ q₂ S₂ (X₁.thru F₁.there X₂) F₂ G₂
  | brk => cases G₁; exact wpAny_pure (c _ _ _ θ₁ s₁ _ q S₁ X₁ F₁ rfl)
  | cont => cases G₁; exact wpAny_pure (c _ _ _ θ₁ s₁ _ q S₁ X₁ F₁ rfl)
  | ret v => obtain ⟨u, rfl, hu⟩ := G₁; exact wpAny_pure (c _ _ _ θ₁ s₁ _ q S₁ X₁ F₁ ⟨u, rfl, hu⟩)
end
end Mine

end
section
open PySem PySem.W PyProof.Rows
namespace Mine
noncomputable section
structure ForR where
  (x r : Str)
  (px pr pc pos : Pos)
  (args : List Expr)
noncomputable def forROf : Stmt → ForR
  | .For (.Name x px) (.Call (.Name r pr) args [] pc) _ [] pos => ⟨x, r, px, pr, pc, pos, args⟩
  | _ => ⟨nS [], nS [], default, default, default, default, []⟩
noncomputable def ForR.stmt (b : ForR) (body : List Stmt) : Stmt := .For (.Name b.x b.px) (.Call (.Name b.r b.pr) b.args [] b.pc) body [] b.pos
noncomputable abbrev nRange : Str := nS [114, 97, 110, 103, 101]
theorem kRange : isKind .globalImplicit lawD.scope nRange = true := by kernel_rfl
theorem gRange {X : Cx} (O : KenOK X kN) : GlobV X nRange (.type "range") := by
  obtain ⟨v, G, V⟩ := O.gvs nRange (.ty "range") (by kernel_rfl)
  cases V; exact G
theorem e27 : stL 27 = (forROf (stL 27)).stmt (forBody 27) := by kernel_rfl
theorem e27n : ((forROf (stL 27)).x, (forROf (stL 27)).r, noStar (forROf (stL 27)).args) = (v_one, nRange, true) := by kernel_rfl
theorem e27a (f : Fm) (as : List AO) (Q : PVs) : lvs kN 5 40 f (forROf (stL 27)).args as Q = Q [.int 1, .int 8] as := by kernel_rfl
theorem l27s0 (cd : Value) (lg y f fh s sh ct o b0 b1 b2 dv one : Int) (as : List AO) (Q : Loc → List AO → Prop) : storeW (F0 cd (LJ lg y f fh s sh ct o b0 b1 b2 dv)) v_one (.int one) as Q = Q (LK lg y f fh s sh ct o b0 b1 b2 dv one) as := by kernel_rfl
theorem l27s1 (cd : Value) (lg y f fh s sh ct o b0 b1 b2 dv one one' : Int) (as : List AO) (Q : Loc → List AO → Prop) : storeW (F0 cd (LK lg y f fh s sh ct o b0 b1 b2 dv one')) v_one (.int one) as Q = Q (LK lg y f fh s sh ct o b0 b1 b2 dv one) as := by kernel_rfl
noncomputable def dvF (lg s0 s1 : Int) : Nat → Int
  | 0 => 0
  | k + 1 => if (s0.fmod (1 + k) == 0 && s1.fmod (1 + k) == 0 && !decide ([s0, s1] = [0, 0])) = true then lg * (1 + k) else dvF lg s0 s1 k
theorem dvF_succ (lg s0 s1 : Int) (k : Nat) : dvF lg s0 s1 (k + 1) = if (s0.fmod (1 + k) == 0 && s1.fmod (1 + k) == 0 && !decide ([s0, s1] = [0, 0])) = true then lg * (1 + k) else dvF lg s0 s1 k := rfl
theorem scLK (lg y f fh s sh ct o b0 b1 b2 dv one : Int) : scL 34 (LK lg y f fh s sh ct o b0 b1 b2 dv one) = true := by kernel_rfl
theorem st27 {X : Cx} (O : KenOK X kN) (hpin : X.T.pin = []) (cd : Value) (a0 a1 a2 a3 a4 a5 a7 a8 a9 a10 a11 a12 a13 a14 a15 a16 a17 a18 a19 a20 a21 a22 a23 a24 a25 a26 pl nu pn : AO) (m : List Int) (s0 s1 q0 q1 lg y f fh s sh ct o b0 b1 b2 : Int) (Q : PF)
    (hlg : 0 ≤ lg ∧ lg < 2 ^ 62) (hz : scOs 34 (ZG a0 a1 a2 a3 a4 a5 (.intx [s0, s1]) a7 a8 a9 a10 a11 a12 a13 a14 a15 a16 a17 a18 a19 a20 a21 a22 a23 a24 a25 a26 m pl nu pn q0 f fh q1 s sh) = true)
    (hmul : ∀ k : Nat, k < 7 → mul64 lg (1 + k))
    (h : Q .next (LK lg y f fh s sh ct o b0 b1 b2 (dvF lg s0 s1 7) 7) (ZG a0 a1 a2 a3 a4 a5 (.intx [s0, s1]) a7 a8 a9 a10 a11 a12 a13 a14 a15 a16 a17 a18 a19 a20 a21 a22 a23 a24 a25 a26 m pl nu pn q0 f fh q1 s sh)) :
    ExS X 40 (F0 cd (LJ lg y f fh s sh ct o b0 b1 b2 0)) (stL 27) (ZG a0 a1 a2 a3 a4 a5 (.intx [s0, s1]) a7 a8 a9 a10 a11 a12 a13 a14 a15 a16 a17 a18 a19 a20 a21 a22 a23 a24 a25 a26 m pl nu pn q0 f fh q1 s sh) Q := by
  have en := e27n
  simp only [Prod.mk.injEq] at en
  rw [e27]
  unfold ForR.stmt
  rw [en.1, en.2.1]
  generalize hZ : ZG a0 a1 a2 a3 a4 a5 (.intx [s0, s1]) a7 a8 a9 a10 a11 a12 a13 a14 a15 a16 a17 a18 a19 a20 a21 a22 a23 a24 a25 a26 m pl nu pn q0 f fh q1 s sh = Z at h hz ⊢
  have hZl : Z.length = 34 := by rw [← hZ]; rfl
  refine st_forR kRange (gRange O) en.2.2 ((specL O 5).evs 40 _ _ _ _ (by
    rw [e27a]
    refine ⟨1, 8, .two 1 8, ⟨⟨by decide, by decide⟩, ⟨by decide, by decide⟩⟩,
      fun k loc as => as = Z ∧ ((k = 0 ∧ loc = LJ lg y f fh s sh ct o b0 b1 b2 0) ∨ (0 < k ∧ k ≤ 7 ∧ loc = LK lg y f fh s sh ct o b0 b1 b2 (dvF lg s0 s1 k) (1 + (k - 1 : Nat)))),
      fun k loc as => as = Z ∧ k < 7 ∧ loc = LK lg y f fh s sh ct o b0 b1 b2 (dvF lg s0 s1 k) (1 + k), ⟨rfl, .inl ⟨rfl, rfl⟩⟩, ?_, ?_, ?_⟩
    · rintro k loc as hk ⟨rfl, (⟨rfl, rfl⟩ | ⟨h1, h2, rfl⟩)⟩
      · show storeW (F0 cd _) _ _ _ _
        rw [l27s0]; exact ⟨rfl, by lia, rfl⟩
      · show storeW (F0 cd (LK _ _ _ _ _ _ _ _ _ _ _ _ _)) _ _ _ _
        rw [l27s1]; exact ⟨rfl, by lia, rfl⟩
    · rintro k loc as ⟨rfl, hk, rfl⟩
      refine exs_cut (by rw [hpin]; exact Nat.zero_le _) (by rw [hZl]; kernel_rfl) ((specX O 30).exs 40 (F0 cd _) (forBody 27) as _ ?_)
      have fin : ∀ dv junk, dv = dvF lg s0 s1 (k + 1) → ∃ base junk', as ++ junk = base ++ junk' ∧ as.length ≤ base.length ∧ scOs base.length base = true ∧ scL base.length (LK lg y f fh s sh ct o b0 b1 b2 dv (1 + k)) = true ∧ True ∧
          (base = as ∧ ((k + 1 = 0 ∧ LK lg y f fh s sh ct o b0 b1 b2 dv (1 + k) = LJ lg y f fh s sh ct o b0 b1 b2 0) ∨ (0 < k + 1 ∧ k + 1 ≤ 7 ∧ LK lg y f fh s sh ct o b0 b1 b2 dv (1 + k) = LK lg y f fh s sh ct o b0 b1 b2 (dvF lg s0 s1 (k + 1)) (1 + (k + 1 - 1 : Nat))))) := by
        rintro dv junk rfl
        exact ⟨as, junk, rfl, Nat.le_refl _, by rw [hZl]; exact hz, by rw [hZl]; exact scLK .., trivial, rfl, .inr ⟨by lia, by lia, rfl⟩⟩
      rw [← hZ, l27b, hZ]
      have h1 : (1 + (k : Int)) ≠ 0 := by lia
      refine ⟨⟨by decide, by decide, by decide⟩, h1, ?_⟩
      cases c1 : s0.fmod (1 + (k : Int)) == 0 with
      | false => exact (fin _ [] (by rw [dvF_succ, c1, Bool.false_and, Bool.false_and, if_neg Bool.false_ne_true])) |> fun z => by rw [List.append_nil] at z; exact z
      | true =>
        refine ⟨⟨by decide, by decide, by decide⟩, h1, ?_⟩
        cases c2 : s1.fmod (1 + (k : Int)) == 0 with
        | false => exact (fin _ [] (by rw [dvF_succ, c1, c2, Bool.and_false, Bool.false_and, if_neg Bool.false_ne_true])) |> fun z => by rw [List.append_nil] at z; exact z
        | true =>
          cases c3 : decide ([s0, s1] = [0, 0]) with
          | true => exact fin _ [.intx [0, 0]] (by rw [dvF_succ, c1, c2, c3, Bool.not_true, Bool.and_false, if_neg Bool.false_ne_true])
          | false => exact ⟨hmul k hk, fin _ [.intx [0, 0]] (by rw [dvF_succ, c1, c2, c3]; rfl)⟩
    · rintro loc as ⟨rfl, (⟨h1, _⟩ | ⟨_, _, rfl⟩)⟩
      · cases h1
      · exact h))
end
end Mine

end
section
open PySem PySem.W PyProof.Rows
namespace Mine
noncomputable section
end
end Mine
end
section
open PySem PySem.W PyProof.Rows
namespace Mine
structure Co where
  (a x y sp pc : Nat)
  (n v z c : Bool)
  (m : Nat → Nat)
noncomputable def up (m : Nat → Nat) (k v : Nat) : Nat → Nat := fun i => if i = k then v else m i
noncomputable def memL (N : Nat) (m : Nat → Nat) : List Int := (List.range N).map fun i => (m i : Int)
structure Ee where
  (ex cyc : Int)
  (ad st : AV)
noncomputable def FE (e : Ee) : Prop := Mine.flat e.ad ∧ Mine.flat e.st
noncomputable section
noncomputable def ms (N : Nat) (c : Co) (e : Ee) : MS := ⟨c.a, c.x, c.y, pOf c.n c.v c.z c.c, c.pc, c.sp, e.ex, e.cyc, e.ad, e.st, memL N c.m⟩
structure WF (L : List Nat) (N : Nat) (c : Co) : Prop where
  a : c.a < 256
  x : c.x < 256
  y : c.y < 256
  sp : c.sp < 256
  m : ∀ i, c.m i < 256
  fit : ∀ i b, L[i]? = some b → c.m (512 + i) = b
  len : 512 + L.length ≤ N
  big : N ≤ 50000
  pc : c.pc ≤ 60000
theorem memL_len (N : Nat) (m : Nat → Nat) : (memL N m).length = N := by unfold memL; simp
theorem memL_get {N : Nat} {m : Nat → Nat} {a : Nat} (h : a < N) : (memL N m).getD a 0 = m a := by
  unfold memL
  rw [List.getD_eq_getElem?_getD, List.getElem?_map, List.getElem?_range h]; rfl
theorem memL_set {N : Nat} {m : Nat → Nat} {a v : Nat} (h : a < N) : (memL N m).set a (v : Int) = memL N (up m a v) := by
  unfold memL up
  refine List.ext_getElem? fun i => ?_
  rw [List.getElem?_set]
  by_cases hi : i < N
  · rw [List.getElem?_map, List.getElem?_map, List.getElem?_range hi]
    by_cases q : a = i
    · subst q; simp [hi]
    · simp [q, Ne.symm q]
  · have h1 : (List.range N)[i]? = none := List.getElem?_eq_none (by simp; lia)
    rw [List.getElem?_map, List.getElem?_map, h1, if_neg (by lia)]; rfl
theorem rd_ok {N : Nat} {m : Nat → Nat} {a : Nat} {i : Int} {K : Int → Prop} (e : i = a) (h : a < N) (hb : N ≤ 50000) (k : K (m a)) : rdW (memL N m) i K := by
  subst e
  refine ⟨⟨by lia, by rw [memL_len]; lia, by lia⟩, ?_⟩
  rw [Int.toNat_natCast, memL_get h]; exact k
theorem wr_ok {N : Nat} {c : Co} {e : Ee} {a v : Nat} {i u : Int} {K : MS → Prop} (ei : i = a) (eu : u = v) (h : a < N) (hb : N ≤ 50000) (k : K (ms N { c with m := up c.m a v } e)) : wrW (ms N c e) i u K := by
  subst ei eu
  refine ⟨⟨by lia, by show _ < ((memL N c.m).length : Int); rw [memL_len]; lia, by lia⟩, ?_⟩
  show K { ms N c e with mem := (memL N c.m).set (a : Int).toNat v }
  rw [Int.toNat_natCast, memL_set h]; exact k
theorem WF.put {L : List Nat} {N : Nat} {c : Co} (W : WF L N c) {a v : Nat} (hs : a < 512 ∨ 512 + L.length ≤ a) (hv : v < 256) : WF L N { c with m := Mine.up c.m a v } :=
  ⟨W.a, W.x, W.y, W.sp, fun i => by show Mine.up c.m a v i < 256; unfold Mine.up; split; exact hv; exact W.m i, fun i b h => by
    show Mine.up c.m a v (512 + i) = b
    unfold Mine.up
    have := (List.getElem?_eq_some_iff.mp h).1
    rw [if_neg (by lia)]; exact W.fit i b h, W.len, W.big, W.pc⟩
theorem b_255 (x : Int) : Builtin.bitAnd x 255 = x % 256 := bitAnd_m8 x
theorem b_65535 (x : Int) : Builtin.bitAnd x 65535 = x % 65536 := bitAnd_m16 x
theorem b_128n : ∀ t < 256, (t &&& 128 : Nat) = if 128 ≤ t then 128 else 0 := by decide +kernel
theorem b_128 {t : Nat} (h : t < 256) : Builtin.bitAnd (t : Int) 128 = if 128 ≤ t then 128 else 0 := by
  rw [bitAnd_pp (by lia) (by decide)]
  show ((t &&& 128 : Nat) : Int) = _
  rw [b_128n t h]; split <;> rfl
theorem b_65280n {t : Nat} (h : t < 256) : Builtin.bitAnd (t : Int) 65280 = 0 := by
  rw [bitAnd_pp (by lia) (by decide)]
  show ((t &&& 65280 : Nat) : Int) = 0
  have : t &&& 65280 = 0 := by
    have : ∀ t < 256, (t &&& 65280 : Nat) = 0 := by decide +kernel
    exact this t h
  rw [this]; rfl
theorem p_nz (n v z c : Bool) : Builtin.bitAnd (pOf n v z c) (Builtin.bitNot (Builtin.bitOr 2 128)) = pOf false v false c := by cases n <;> cases v <;> cases z <;> cases c <;> rfl
theorem p_z (n v z c : Bool) : Builtin.bitOr (pOf n v z c) 2 = pOf n v true c := by cases n <;> cases v <;> cases z <;> cases c <;> rfl
theorem p_128 (n v z c : Bool) : Builtin.bitOr (pOf n v z c) 128 = pOf true v z c := by cases n <;> cases v <;> cases z <;> cases c <;> rfl
theorem p_64 (n v z c : Bool) : Builtin.bitOr (pOf n v z c) 64 = pOf n true z c := by cases n <;> cases v <;> cases z <;> cases c <;> rfl
theorem p_1 (n v z c : Bool) : Builtin.bitOr (pOf n v z c) 1 = pOf n v z true := by cases n <;> cases v <;> cases z <;> cases c <;> rfl
theorem p_0 (n v z c : Bool) : Builtin.bitOr (pOf n v z c) 0 = pOf n v z c := by cases n <;> cases v <;> cases z <;> cases c <;> rfl
theorem p_sb (n v z c : Bool) : Builtin.bitAnd (pOf n v z c) (Builtin.bitNot (Builtin.bitOr (Builtin.bitOr (Builtin.bitOr 1 2) 64) 128)) = pOf false false false false := by cases n <;> cases v <;> cases z <;> cases c <;> rfl
theorem g_1 (n v z c : Bool) : (Builtin.bitAnd (pOf n v z c) 1 != 0) = c := by cases n <;> cases v <;> cases z <;> cases c <;> rfl
theorem g_1v (n v z c : Bool) : Builtin.bitAnd (pOf n v z c) 1 = (c.toNat : Int) := by cases n <;> cases v <;> cases z <;> cases c <;> rfl
theorem g_2 (n v z c : Bool) : (Builtin.bitAnd (pOf n v z c) 2 != 0) = z := by cases n <;> cases v <;> cases z <;> cases c <;> rfl
theorem p_or128 {t : Nat} (h : t < 256) (v z c : Bool) : Builtin.bitOr (pOf false v z c) (Builtin.bitAnd (t : Int) 128) = pOf (decide (128 ≤ t)) v z c := by
  rw [b_128 h]
  by_cases q : 128 ≤ t
  · rw [if_pos q, p_128, decide_eq_true q]
  · rw [if_neg q, p_0, decide_eq_false q]
theorem flags_ok {N : Nat} {c : Co} {e : Ee} {t : Nat} {i : Int} {K : MS → Prop} (ei : i = t) (h : t < 256) (k : K (ms N { c with n := decide (128 ≤ t), z := decide (t = 0) } e)) : flags (ms N c e) i K := by
  subst ei
  unfold flags
  have hp : (ms N c e).p = pOf c.n c.v c.z c.c := rfl
  rw [hp, p_nz, p_or128 h, p_z]
  by_cases q : t = 0
  · subst q; exact k
  · have : ((t : Int) == 0) = false := by simp; exact q
    rw [this]
    rw [decide_eq_false q] at k
    exact k

noncomputable def fe (L : List Nat) (i : Nat) (K : Nat → Prop) : Prop := match Nat.ble 512 i with
  | true => (match L[i - 512]? with | some b => K b | none => False)
  | false => False
theorem fe_ok {L : List Nat} {N : Nat} {c : Co} (W : WF L N c) {i : Nat} {K : Nat → Prop} (h : fe L i K) : 512 ≤ i ∧ i < N ∧ K (c.m i) := by
  unfold fe at h
  split at h
  · rename_i q
    have q := Nat.le_of_ble_eq_true q
    split at h
    · rename_i b e
      have l := (List.getElem?_eq_some_iff.mp e).1
      have f := W.fit _ _ e
      rw [show 512 + (i - 512) = i by omega] at f
      rw [f]
      exact ⟨q, by have := W.len; omega, h⟩
    · cases h
  · cases h
noncomputable def Go (L : List Nat) (N : Nat) (K : Co → Prop) (c : Co) (F : KM → Prop) : Prop := ∃ c' e', K c' ∧ WF L N c' ∧ c'.pc = c.pc ∧ FE e' ∧ ∀ Km : KM, (∀ j, Km (ms N c' e') j) → F Km
noncomputable abbrev RM := Co → (Nat → Prop) → Prop
noncomputable def RMok (L : List Nat) (N : Nat) (r : RM) (o : Mode) : Prop := ∀ c e (P : Nat → Prop), WF L N c → FE e → r c P → ∃ a e', a < N ∧ FE e' ∧ P (c.m a) ∧ ∀ j (Km : Int → MS → JJ → Prop), (∀ j', Km a (ms N c e') j') → o (ms N c e) j Km
noncomputable def AMok (L : List Nat) (N : Nat) (r : RM) (o : Mode) : Prop := ∀ c e (P : Nat → Prop), WF L N c → FE e → r c P → ∃ a e', a < N ∧ (a < 512 ∨ 512 + L.length ≤ a) ∧ FE e' ∧ P a ∧ ∀ j (Km : Int → MS → JJ → Prop), (∀ j', Km a (ms N c e') j') → o (ms N c e) j Km
noncomputable def rPC (L : List Nat) : RM := fun c P => fe L c.pc P
noncomputable def aZP (L : List Nat) : RM := fun c P => fe L c.pc P
noncomputable def aIY (L : List Nat) (N : Nat) : RM := fun c P => fe L c.pc fun z => (c.m z + 256 * c.m ((z + 1) % 256) + c.y < N) ∧ P (c.m z + 256 * c.m ((z + 1) % 256) + c.y)
noncomputable def rd (a : RM) : RM := fun c P => a c fun i => P (c.m i)
noncomputable def wr (L : List Nat) (a : RM) : RM := fun c P => a c fun i => (i < 512 ∨ 512 + L.length ≤ i) ∧ P i
section
variable {L : List Nat} {N : Nat}
theorem WF.n512 {c : Co} (W : WF L N c) : 512 ≤ N := by have := W.len; lia
theorem PC_ok : RMok L N (rPC L) mPC := fun c e P W f h => by
  refine El_aa (fe_ok W h) fun h1 h2 h3 => ?_
  exact ⟨c.pc, e, h2, f, h3, fun j Km k => k j⟩
theorem ZP_a : AMok L N (aZP L) mZP := fun c e P W f h => by
  refine El_aa (fe_ok W h) fun h1 h2 h3 => ?_
  have := W.m c.pc
  have := W.n512
  exact ⟨c.m c.pc, e, by (clear h1; lia), .inl (by lia), f, h3, fun j Km k => rd_ok rfl h2 W.big (k j)⟩
theorem ZP_ok : RMok L N (rd (aZP L)) mZP := fun c e P W f h => by
  refine El_eeaaaa (ZP_a c e _ W f h) fun a e' h1 _ h2 h3 h4 => ?_
  exact ⟨a, e', h1, h2, h3, h4⟩
theorem shl_ok {u : Nat} (hu : u < 256) {K : Int → Prop} (k : K ((256 * u : Nat) : Int)) : shl u K := by
  refine ⟨⟨by decide, by decide, ?_⟩, ?_⟩
  · have : (u : Int).natAbs = u := by simp
    rw [this]; lia
  · rw [show (u : Int) * 2 ^ (8 : Int).toNat = ((256 * u : Nat) : Int) by
      rw [show (2 : Int) ^ (8 : Int).toNat = 256 by rfl]; lia]
    exact k
theorem word_ok {c : Co} {e : Ee} {K : Int → Prop} (W : WF L N c) {a : Nat} {i : Int} (ei : i = a) (ha : a + 1 < N) (k : K ((c.m a + 256 * c.m (a + 1) : Nat) : Int)) : wordW (ms N c e) i K := by
  subst ei
  unfold wordW
  refine rd_ok rfl (by lia) W.big (rd_ok (a := a + 1) (by lia) ha W.big (shl_ok (W.m _) ?_))
  rw [show (c.m a : Int) + ((256 * c.m (a + 1) : Nat) : Int) = ((c.m a + 256 * c.m (a + 1) : Nat) : Int) by lia]
  exact k
theorem wrap_bit {z : Nat} (h : z < 256) : Builtin.bitAnd (z : Int) 65280 + Builtin.bitAnd ((z : Int) + 1) 255 = (((z + 1) % 256 : Nat) : Int) := by
  rw [b_65280n h, b_255]; lia
theorem wrapW_ok {c : Co} {e : Ee} {j : JJ} {K : Int → JJ → Prop} (W : WF L N c) {z : Nat} (hz : z < 256) (k : ∀ j, K ((c.m z + 256 * c.m ((z + 1) % 256) : Nat) : Int) j) : wrapW (ms N c e) j z K := by
  unfold wrapW
  have := W.n512
  refine rd_ok rfl (by lia) W.big (rd_ok (a := (z + 1) % 256) (wrap_bit hz) (by (clear hz; lia)) W.big (shl_ok (W.m _) ?_))
  rw [show (c.m z : Int) + ((256 * c.m ((z + 1) % 256) : Nat) : Int) = ((c.m z + 256 * c.m ((z + 1) % 256) : Nat) : Int) by lia]
  exact k _
theorem at16 {w k : Nat} (h : w + k < 50000) : Builtin.bitAnd ((w : Int) + (k : Int)) 65535 = ((w + k : Nat) : Int) := by rw [b_65535]; lia
theorem ifB_e {b : Bool} {K : Ee → Prop} {e1 e2 : Ee} (h : K (cond b e1 e2)) : ifB b (K e1) (K e2) := by cases b; exact h; exact h
theorem FE_cond {b : Bool} {e : Ee} (f : FE e) : FE (cond b { e with ex := e.ex + 1 } e) := by cases b; exact f; exact f
theorem IY1_ok : RMok L N (rd (aIY L N)) mIY1 := fun c e P W f h => by
  refine El_aaa (fe_ok W h) fun h1 h2 h3 h4 => ?_
  refine ⟨_, cond (Builtin.bitAnd ((c.m (c.m c.pc) + 256 * c.m ((c.m c.pc + 1) % 256) : Nat) : Int) 65280 != Builtin.bitAnd ((c.m (c.m c.pc) + 256 * c.m ((c.m c.pc + 1) % 256) + c.y : Nat) : Int) 65280) { e with ex := e.ex + 1 } e, h3, FE_cond f, h4, fun j Km k => rd_ok rfl h2 W.big (wrapW_ok W (W.m _) fun j => ?_)⟩
  have := W.big
  rw [show Builtin.bitAnd ((((c.m (c.m c.pc) + 256 * c.m ((c.m c.pc + 1) % 256)) : Nat) : Int) + (ms N c e).y) 65535 = _ from at16 (k := c.y) (by lia)]
  exact ifB_e (K := fun e => Km _ (ms N c e) j) (k j)
theorem IY0_a : AMok L N (wr L (aIY L N)) mIY0 := fun c e P W f h => by
  refine El_aaaa (fe_ok W h) fun h1 h2 h3 h5 h4 => ?_
  refine ⟨_, e, h3, h5, f, h4, fun j Km k => rd_ok rfl h2 W.big (wrapW_ok W (W.m _) fun j => ?_)⟩
  have := W.big
  rw [show Builtin.bitAnd ((((c.m (c.m c.pc) + 256 * c.m ((c.m c.pc + 1) % 256)) : Nat) : Int) + (ms N c e).y) 65535 = _ from at16 (k := c.y) (by lia)]
  exact k _
end
end
end Mine

end
section
open PySem PySem.W PyProof.Rows
namespace Mine
noncomputable section
theorem b_and (a b : Nat) : Builtin.bitAnd (a : Int) (b : Int) = ((a &&& b : Nat) : Int) := by
  rw [bitAnd_pp (by lia) (by lia)]; simp
theorem b_or (a b : Nat) : Builtin.bitOr (a : Int) (b : Int) = ((a ||| b : Nat) : Int) := by
  rw [bitOr_and, b_and]
  have := nat_or_add_and a b
  lia
section
variable {L : List Nat} {N : Nat} {c : Co} {e : Ee} {K : Co → Prop} {r : RM} {o : Mode}
noncomputable def qLDA (r : RM) (c : Co) (K : Co → Prop) : Prop := r c fun v => K { c with a := v, n := decide (128 ≤ v), z := decide (v = 0) }
noncomputable def qLDX (r : RM) (c : Co) (K : Co → Prop) : Prop := r c fun v => K { c with x := v, n := decide (128 ≤ v), z := decide (v = 0) }
noncomputable def qLDY (r : RM) (c : Co) (K : Co → Prop) : Prop := r c fun v => K { c with y := v, n := decide (128 ≤ v), z := decide (v = 0) }
noncomputable def qORA (r : RM) (c : Co) (K : Co → Prop) : Prop := r c fun v => K { c with a := c.a ||| v, n := decide (128 ≤ c.a ||| v), z := decide (c.a ||| v = 0) }
noncomputable def qSTA (r : RM) (c : Co) (K : Co → Prop) : Prop := r c fun i => K { c with m := up c.m i c.a }
noncomputable def qSTX (r : RM) (c : Co) (K : Co → Prop) : Prop := r c fun i => K { c with m := up c.m i c.x }
noncomputable def qINC (r : RM) (c : Co) (K : Co → Prop) : Prop := r c fun i => K { c with n := decide (128 ≤ (c.m i + 1) % 256), z := decide ((c.m i + 1) % 256 = 0), m := up c.m i ((c.m i + 1) % 256) }
theorem LDA_ok (h : RMok L N r o) (W : WF L N c) (f : FE e) (q : qLDA r c K) (j : JJ) : Go L N K c fun Km => oLDA o (ms N c e) j Km := by
  refine El_eeaaa (h c e _ W f q) fun a e' h1 h2 h3 h4 => ?_
  exact ⟨_, e', h3, ⟨W.m _, W.x, W.y, W.sp, W.m, W.fit, W.len, W.big, W.pc⟩, rfl, h2, fun Km k => h4 j _ fun j' => rd_ok rfl h1 W.big (flags_ok (c := { c with a := c.m a }) rfl (W.m _) (k j'))⟩
theorem LDX_ok (h : RMok L N r o) (W : WF L N c) (f : FE e) (q : qLDX r c K) (j : JJ) : Go L N K c fun Km => oLDX o (ms N c e) j Km := by
  refine El_eeaaa (h c e _ W f q) fun a e' h1 h2 h3 h4 => ?_
  exact ⟨_, e', h3, ⟨W.a, W.m _, W.y, W.sp, W.m, W.fit, W.len, W.big, W.pc⟩, rfl, h2, fun Km k => h4 j _ fun j' => rd_ok rfl h1 W.big (flags_ok (c := { c with x := c.m a }) rfl (W.m _) (k j'))⟩
theorem LDY_ok (h : RMok L N r o) (W : WF L N c) (f : FE e) (q : qLDY r c K) (j : JJ) : Go L N K c fun Km => oLDY o (ms N c e) j Km := by
  refine El_eeaaa (h c e _ W f q) fun a e' h1 h2 h3 h4 => ?_
  exact ⟨_, e', h3, ⟨W.a, W.x, W.m _, W.sp, W.m, W.fit, W.len, W.big, W.pc⟩, rfl, h2, fun Km k => h4 j _ fun j' => rd_ok rfl h1 W.big (flags_ok (c := { c with y := c.m a }) rfl (W.m _) (k j'))⟩
theorem ORA_ok (h : RMok L N r o) (W : WF L N c) (f : FE e) (q : qORA r c K) (j : JJ) : Go L N K c fun Km => oORA o (ms N c e) j Km := by
  refine El_eeaaa (h c e _ W f q) fun a e' h1 h2 h3 h4 => ?_
  have hb : c.a ||| c.m a < 256 := Nat.or_lt_two_pow (n := 8) W.a (W.m _)
  refine ⟨_, e', h3, ⟨hb, W.x, W.y, W.sp, W.m, W.fit, W.len, W.big, W.pc⟩, rfl, h2, fun Km k => h4 j _ fun j' => rd_ok rfl h1 W.big ?_⟩
  have eb : Builtin.bitOr (ms N c e').a (c.m a : Int) = ((c.a ||| c.m a : Nat) : Int) := b_or c.a (c.m a)
  rw [eb]
  exact flags_ok (c := { c with a := c.a ||| c.m a }) rfl hb (k j')
theorem STA_ok (h : AMok L N r o) (W : WF L N c) (f : FE e) (q : qSTA r c K) (j : JJ) : Go L N K c fun Km => oSTA o (ms N c e) j Km := by
  refine El_eeaaaa (h c e _ W f q) fun a e' h1 hs h2 h3 h4 => ?_
  exact ⟨_, e', h3, W.put hs W.a, rfl, h2, fun Km k => h4 j _ fun j' => wr_ok rfl rfl h1 W.big (k j')⟩
theorem STX_ok (h : AMok L N r o) (W : WF L N c) (f : FE e) (q : qSTX r c K) (j : JJ) : Go L N K c fun Km => oSTX o (ms N c e) j Km := by
  refine El_eeaaaa (h c e _ W f q) fun a e' h1 hs h2 h3 h4 => ?_
  exact ⟨_, e', h3, W.put hs W.x, rfl, h2, fun Km k => h4 j _ fun j' => wr_ok rfl rfl h1 W.big (k j')⟩
theorem flagT_ok {t : Nat} {i : Int} {K : MS → Prop} (ei : i = t) (h : t < 256) (k : K (ms N { c with n := decide (128 ≤ t), z := decide (t = 0) } e)) : flagT (ms N c e) i K := by
  subst ei
  unfold flagT
  have hp : (ms N c e).p = pOf c.n c.v c.z c.c := rfl
  rw [hp, p_nz, p_or128 h, p_z]
  by_cases q : t = 0
  · subst q; exact k
  · have : ((t : Int) != 0) = true := by simp; exact q
    rw [this]
    rw [decide_eq_false q] at k
    exact k
theorem m255 {v : Nat} : Builtin.bitAnd ((v : Int) + 1) 255 = (((v + 1) % 256 : Nat) : Int) := by rw [b_255]; lia
theorem d255 {v : Nat} : Builtin.bitAnd ((v : Int) - 1) 255 = (((v + 255) % 256 : Nat) : Int) := by rw [b_255]; lia
theorem WF.nz (W : WF L N c) (n z : Bool) : WF L N { c with n := n, z := z } := ⟨W.a, W.x, W.y, W.sp, W.m, W.fit, W.len, W.big, W.pc⟩
theorem INC_ok (h : AMok L N r o) (W : WF L N c) (f : FE e) (q : qINC r c K) (j : JJ) : Go L N K c fun Km => oINC o (ms N c e) j Km := by
  refine El_eeaaaa (h c e _ W f q) fun a e' h1 hs h2 h3 h4 => ?_
  have hb : (c.m a + 1) % 256 < 256 := by lia
  exact ⟨_, e', h3, (W.nz (decide (128 ≤ (c.m a + 1) % 256)) (decide ((c.m a + 1) % 256 = 0))).put hs hb, rfl, h2, fun Km k => h4 j _ fun j' => rd_ok rfl h1 W.big (flagT_ok m255 hb (wr_ok (c := { c with n := decide (128 ≤ (c.m a + 1) % 256), z := decide ((c.m a + 1) % 256 = 0) }) rfl m255 h1 W.big (k j')))⟩
end
end
end Mine

end
section
open PySem PySem.W PyProof.Rows
namespace Mine
noncomputable section
section
variable {L : List Nat} {N : Nat} {c : Co} {e : Ee} {K : Co → Prop} {r : RM} {o : Mode}
theorem WF.fl (W : WF L N c) (n v z cc : Bool) : WF L N { c with n := n, v := v, z := z, c := cc } := ⟨W.a, W.x, W.y, W.sp, W.m, W.fit, W.len, W.big, W.pc⟩
theorem g128 {t : Nat} (h : t < 256) : (Builtin.bitAnd (t : Int) 128 != 0) = decide (128 ≤ t) := by
  rw [b_128 h]; by_cases q : 128 ≤ t
  · rw [if_pos q, decide_eq_true q]; rfl
  · rw [if_neg q, decide_eq_false q]; rfl
theorem g1 (t : Nat) : (Builtin.bitAnd (t : Int) 1 != 0) = decide (t % 2 = 1) := by
  rw [bitAnd_m1]
  by_cases q : t % 2 = 1
  · rw [decide_eq_true q]; simp; lia
  · rw [decide_eq_false q]; simp; lia
noncomputable def sbV (a v r : Nat) : Bool := Builtin.bitAnd (Builtin.bitAnd (Builtin.bitXor a v) (Builtin.bitXor a r)) 128 != 0
noncomputable abbrev sbS (c : Co) (v : Nat) : Nat := c.a + (255 - v) + c.c.toNat
noncomputable def qSBC (r : RM) (c : Co) (K : Co → Prop) : Prop := r c fun v => K { c with a := sbS c v % 256, n := decide (128 ≤ sbS c v % 256), v := sbV c.a v (sbS c v), z := decide (sbS c v % 256 = 0), c := decide (256 ≤ sbS c v) }
theorem z_dec (d : Nat) : (((d : Nat) : Int) == 0) = decide (d = 0) := by
  by_cases q : d = 0
  · subst q; rfl
  · rw [decide_eq_false q]; simp; assumption
theorem c_dec (S : Nat) : decide ((255 : Int) < ((S : Nat) : Int)) = decide (256 ≤ S) := by
  by_cases q : 256 ≤ S
  · rw [decide_eq_true q]; simp; lia
  · rw [decide_eq_false q]; simp; lia
theorem m_255 (S : Nat) : Builtin.bitAnd ((S : Nat) : Int) 255 = ((S % 256 : Nat) : Int) := by rw [b_255]; lia
theorem sbW_ok {v : Nat} {K : MS → Prop} (hv : v < 256) (k : K (ms N { c with a := sbS c v % 256, n := decide (128 ≤ sbS c v % 256), v := sbV c.a v (sbS c v), z := decide (sbS c v % 256 = 0), c := decide (256 ≤ sbS c v) } e)) : sbW (ms N c e) v K := by
  have e1 : sbR (ms N c e) v = ((sbS c v : Nat) : Int) := by
    unfold sbR
    have hp : (ms N c e).p = pOf c.n c.v c.z c.c := rfl
    have ha : (ms N c e).a = (c.a : Int) := rfl
    rw [hp, ha, g_1v, b_255]
    unfold Builtin.bitNot sbS
    lia
  have e2 : sbP (ms N c e) = pOf false false false false := by unfold sbP; exact p_sb _ _ _ _
  have e3 : Builtin.bitAnd ((sbS c v : Nat) : Int) 255 = ((sbS c v % 256 : Nat) : Int) := m_255 _
  unfold sbW sbX sbY sbZ
  rw [e1, e2, e3, p_64]
  have ea : (ms N c e).a = (c.a : Int) := rfl
  rw [ea]
  have hv' : (Builtin.bitAnd (Builtin.bitAnd (Builtin.bitXor (c.a : Int) v) (Builtin.bitXor (c.a : Int) ((sbS c v : Nat) : Int))) 128 != 0) = sbV c.a v (sbS c v) := rfl
  rw [hv']
  rw [z_dec, c_dec]
  have hm : sbS c v % 256 < 256 := Nat.mod_lt _ (by decide)
  revert k hm
  generalize sbS c v % 256 = d
  generalize decide (256 ≤ sbS c v) = cc
  generalize sbV c.a v (sbS c v) = vv
  intro k hm
  revert k
  generalize decide (d = 0) = zz
  intro k
  cases vv <;> cases zz <;> cases cc <;> (show K _; simp only [p_z, p_1, p_or128 hm]; exact k)
theorem SBC_ok (h : RMok L N r o) (W : WF L N c) (f : FE e) (q : qSBC r c K) (j : JJ) : Go L N K c fun Km => oSBC o (ms N c e) j Km := by
  refine El_eeaaa (h c e _ W f q) fun a e' h1 h2 h3 h4 => ?_
  exact ⟨_, e', h3, ⟨Nat.mod_lt _ (by decide), W.x, W.y, W.sp, W.m, W.fit, W.len, W.big, W.pc⟩, rfl, h2, fun Km k => h4 j _ fun j' => rd_ok rfl h1 W.big (sbW_ok (W.m _) (k j'))⟩
end
end
end Mine

end
section
open PySem PySem.W PyProof.Rows
namespace Mine
noncomputable section
noncomputable def Done (L : List Nat) (N : Nat) (K : Co → Prop) (S : PV → Prop) : Prop := ∃ c' e', K c' ∧ WF L N c' ∧ FE e' ∧ ∀ Q : PV, (∀ j, Q (.obj 0) (stA (ms N c' e') j)) → S Q
noncomputable def inK (n : Nat) (K : Co → Prop) : Co → Prop := fun c => K { c with pc := c.pc + n }
section
variable {L : List Nat} {N : Nat} {c : Co} {e : Ee} {K : Co → Prop}
theorem pc16 {p n : Nat} (h : p + n < 65536) : Builtin.bitAnd ((p : Int) + (n : Int)) 65535 = ((p + n : Nat) : Int) := by rw [b_65535]; lia
theorem pcn {p : Nat} (h : p < 65536) : Builtin.bitAnd (p : Int) 65535 = (p : Int) := by rw [b_65535]; lia
theorem WF.at (W : WF L N c) {p : Nat} (h : p ≤ 60000) : WF L N { c with pc := p } := ⟨W.a, W.x, W.y, W.sp, W.m, W.fit, W.len, W.big, h⟩
theorem fin_ok {op : Nat} {cy : Int} {Q : PV} {c : Co} {e : Ee} (ho : op < 256) (h : c.pc ≤ 60000) (k : ∀ j, Q (.obj 0) (stA (ms N c { e with cyc := e.cyc + (cy + e.ex) }) j)) (j : JJ) : fin (op : Int) cy Q (ms N c e) j := by
  refine ⟨by unfold okk; lia, ?_⟩
  have hp : pst (ms N c e) cy = ms N c { e with cyc := e.cyc + (cy + e.ex) } := by
    unfold pst
    have : Builtin.bitAnd (ms N c e).pc 65535 = (c.pc : Int) := pcn (p := c.pc) (by lia)
    rw [this]; rfl
  rw [hp]; exact k j
theorem inc_ok {op n : Nat} {cy : Int} {Q : PV} {c : Co} {e : Ee} (ho : op < 256) (h : c.pc + n ≤ 60000) (k : ∀ j, Q (.obj 0) (stA (ms N { c with pc := c.pc + n } { e with cyc := e.cyc + (cy + e.ex) }) j)) (j : JJ) : inc (n : Int) (fin (op : Int) cy Q) (ms N c e) j := by
  unfold inc
  have hp : ({ ms N c e with pc := (ms N c e).pc + (n : Int) } : MS) = ms N { c with pc := c.pc + n } e := by
    unfold ms
    have : ((c.pc : Int) + (n : Int)) = ((c.pc + n : Nat) : Int) := by lia
    simp only [this]
  rw [hp]
  exact fin_ok (c := { c with pc := c.pc + n }) ho h k j
theorem done_inc {op n : Nat} {cy : Int} {F : KM → Prop} {S : PV → Prop} (g : Go L N (inK n K) c F) (ho : op < 256) (h : c.pc + n ≤ 60000) (hS : ∀ Q, S Q = frm (op : Int) (F (inc (n : Int) (fin (op : Int) cy Q)))) : Done L N K S := by
  obtain ⟨c', e', h1, h2, h3, h4, h5⟩ := g
  have hk : okk (op : Int) := by unfold okk; lia
  refine ⟨_, { e' with cyc := e'.cyc + (cy + e'.ex) }, h1, h2.at (by lia), h4, fun Q k => ?_⟩
  rw [hS]
  exact ⟨hk, hk, h5 _ fun j => inc_ok ho (by lia) k j⟩
theorem done_fin {op : Nat} {cy : Int} {F : KM → Prop} {S : PV → Prop} (g : Go L N K c F) (ho : op < 256) (h : c.pc ≤ 60000) (hS : ∀ Q, S Q = frm (op : Int) (F (fin (op : Int) cy Q))) : Done L N K S := by
  obtain ⟨c', e', h1, h2, h3, h4, h5⟩ := g
  have hk : okk (op : Int) := by unfold okk; lia
  refine ⟨_, { e' with cyc := e'.cyc + (cy + e'.ex) }, h1, h2, h4, fun Q k => ?_⟩
  rw [hS]
  exact ⟨hk, hk, h5 _ fun j => fin_ok ho (by lia) k j⟩
noncomputable abbrev ee (e : Ee) (k : Int) : Ee := ⟨0, e.cyc, .int k, e.st⟩
theorem ee_ok {e : Ee} {k : Int} (f : FE e) : FE (ee e k) := ⟨trivial, f.2⟩
theorem pre_eq {k : Int} (h : c.pc ≤ 60000) : pre (ms N c e) k = ms N { c with pc := c.pc + 1 } (ee e k) := by
  unfold pre
  have : Builtin.bitAnd ((ms N c e).pc + 1) 65535 = ((c.pc + 1 : Nat) : Int) := pc16 (p := c.pc) (n := 1) (by lia)
  rw [this]; rfl
noncomputable def qINY (c : Co) (K : Co → Prop) : Prop := K { c with y := (c.y + 1) % 256, n := decide (128 ≤ (c.y + 1) % 256), z := decide ((c.y + 1) % 256 = 0) }
theorem mod_lt (n : Nat) : n % 256 < 256 := Nat.mod_lt _ (by decide)
theorem INY_ok (W : WF L N c) (f : FE e) (q : qINY c K) : Go L N K c fun Km => flags { ms N c e with y := Builtin.bitAnd ((c.y : Int) + 1) 255 } (Builtin.bitAnd ((c.y : Int) + 1) 255) fun m => Km m [] := by
  rw [m255]
  exact ⟨_, e, q, ⟨W.a, W.x, mod_lt _, W.sp, W.m, W.fit, W.len, W.big, W.pc⟩, rfl, f, fun Km k => flags_ok (c := { c with y := (c.y + 1) % 256 }) rfl (mod_lt _) (k [])⟩
noncomputable def qSEC (c : Co) (K : Co → Prop) : Prop := K { c with c := true }
theorem SEC_ok (W : WF L N c) (f : FE e) (q : qSEC c K) : Go L N K c fun Km => Km { ms N c e with p := Builtin.bitOr (pOf c.n c.v c.z c.c) 1 } [] := by
  rw [p_1]
  exact ⟨_, e, q, W.fl c.n c.v c.z true, rfl, f, fun Km k => k []⟩
theorem push_wf (W : WF L N c) {v : Nat} (hv : v < 256) : WF L N { c with m := up c.m (256 + c.sp) v, sp := (c.sp + 255) % 256 } :=
  have W' := W.put (a := 256 + c.sp) (v := v) (.inl (by have := W.sp; lia)) hv
  ⟨W.a, W.x, W.y, mod_lt _, W'.m, W'.fit, W.len, W.big, W.pc⟩
theorem push_ok (W : WF L N c) {v : Nat} {i : Int} {K : MS → Prop} (ei : Builtin.bitAnd i 255 = v) (k : K (ms N { c with m := up c.m (256 + c.sp) v, sp := (c.sp + 255) % 256 } e)) : pushW (ms N c e) i K := by
  unfold pushW
  rw [ei]
  have h1 := W.n512
  have h2 := W.sp
  refine wr_ok (a := 256 + c.sp) (by show (c.sp : Int) + 256 = _; lia) rfl (by lia) W.big ?_
  have : Builtin.bitAnd ((ms N { c with m := up c.m (256 + c.sp) v } e).sp - 1) 255 = (((c.sp + 255) % 256 : Nat) : Int) := d255 (v := c.sp)
  rw [this]; exact k
theorem pop_ok (W : WF L N c) {K : Int → MS → Prop} (k : K (c.m (256 + (c.sp + 1) % 256)) (ms N { c with sp := (c.sp + 1) % 256 } e)) : popW (ms N c e) K := by
  unfold popW
  have h1 := W.n512
  have : Builtin.bitAnd ((ms N c e).sp + 1) 255 = (((c.sp + 1) % 256 : Nat) : Int) := m255 (v := c.sp)
  rw [this]
  exact rd_ok (a := 256 + (c.sp + 1) % 256) (by lia) (by lia) W.big k
noncomputable def tgt (p z : Nat) : Nat := match Nat.blt z 128 with | true => p + 1 + z | false => p + 1 + z - 256
noncomputable def qBR (L : List Nat) (b : Bool) (c : Co) (K : Co → Prop) : Prop := ifB b (fe L c.pc fun z => K { c with pc := tgt c.pc z }) (K { c with pc := c.pc + 1 })
theorem brT_ok {t : Nat} {i : Int} {K : MS → Prop} (ei : Builtin.bitAnd i 65535 = t) (k : K (ms N { c with pc := t } (cond (Builtin.bitAnd (c.pc : Int) 65280 != Builtin.bitAnd i 65280) { e with ex := e.ex + 1 } e))) : brT (ms N c e) i K := by
  unfold brT
  rw [ei]
  exact ifB_e (K := fun e => K (ms N { c with pc := t } e)) k
theorem br_ok (W : WF L N c) (f : FE e) (q : fe L c.pc fun z => K { c with pc := tgt c.pc z }) : ∃ c' e', K c' ∧ WF L N c' ∧ FE e' ∧ ∀ Km : MS → Prop, Km (ms N c' e') → brW (ms N c e) Km := by
  obtain ⟨h1, h2, h3⟩ := fe_ok W q
  have hz := W.m c.pc
  have hb := W.big
  by_cases g : c.m c.pc < 128
  · have ht : tgt c.pc (c.m c.pc) = c.pc + 1 + c.m c.pc := by unfold tgt; rw [show Nat.blt (c.m c.pc) 128 = true by simp; assumption]
    rw [ht] at h3
    refine ⟨_, cond (Builtin.bitAnd ((c.pc + 1 : Nat) : Int) 65280 != Builtin.bitAnd (((c.pc + 1 : Nat) : Int) + (c.m c.pc : Int)) 65280) { e with ex := e.ex + 1 + 1 } { e with ex := e.ex + 1 }, h3, W.at (by lia), ?_, fun Km k => ?_⟩
    · cases (Builtin.bitAnd ((c.pc + 1 : Nat) : Int) 65280 != Builtin.bitAnd (((c.pc + 1 : Nat) : Int) + (c.m c.pc : Int)) 65280) <;> exact f
    · unfold brW
      refine rd_ok rfl h2 W.big ?_
      rw [g128 hz, decide_eq_false (by lia)]
      exact brT_ok (c := { c with pc := c.pc + 1 }) (e := { e with ex := e.ex + 1 }) (i := ((c.pc + 1 : Nat) : Int) + (c.m c.pc : Int)) (by rw [b_65535]; lia) k
  · have ht : tgt c.pc (c.m c.pc) = c.pc + 1 + c.m c.pc - 256 := by unfold tgt; rw [show Nat.blt (c.m c.pc) 128 = false by rw [Bool.eq_false_iff]; simp; lia]
    rw [ht] at h3
    refine ⟨_, cond (Builtin.bitAnd ((c.pc + 1 : Nat) : Int) 65280 != Builtin.bitAnd (((c.pc + 1 : Nat) : Int) - Builtin.bitXor (c.m c.pc : Int) 255 - 1) 65280) { e with ex := e.ex + 1 + 1 } { e with ex := e.ex + 1 }, h3, W.at (by lia), ?_, fun Km k => ?_⟩
    · cases (Builtin.bitAnd ((c.pc + 1 : Nat) : Int) 65280 != Builtin.bitAnd (((c.pc + 1 : Nat) : Int) - Builtin.bitXor (c.m c.pc : Int) 255 - 1) 65280) <;> exact f
    · unfold brW
      refine rd_ok rfl h2 W.big ?_
      rw [g128 hz, decide_eq_true (by lia)]
      have hx : Builtin.bitXor (c.m c.pc : Int) 255 = 255 - (c.m c.pc : Int) := by rw [bitXor_and, b_255]; lia
      exact brT_ok (c := { c with pc := c.pc + 1 }) (e := { e with ex := e.ex + 1 }) (i := ((c.pc + 1 : Nat) : Int) - Builtin.bitXor (c.m c.pc : Int) 255 - 1) (by rw [hx, b_65535]; (clear g; lia)) k
theorem done_br {op : Nat} {cy : Int} {b : Bool} {S : PV → Prop} (W : WF L N c) (f : FE e) (hp : c.pc ≤ 50000) (q : qBR L b c K) (ho : op < 256) (hS : ∀ Q, S Q = frm (op : Int) (ifB b (brW (ms N c e) fun m => fin (op : Int) cy Q m []) (inc ((1 : Nat) : Int) (fin (op : Int) cy Q) (ms N c e) []))) : Done L N K S := by
  have hk : okk (op : Int) := by unfold okk; lia
  cases b with
  | true =>
    obtain ⟨c', e', h1, h2, h3, h4⟩ := br_ok W f q
    refine ⟨c', { e' with cyc := e'.cyc + (cy + e'.ex) }, h1, h2, h3, fun Q k => ?_⟩
    rw [hS]
    exact ⟨hk, hk, h4 _ (fin_ok ho h2.pc k [])⟩
  | false =>
    refine ⟨_, { e with cyc := e.cyc + (cy + e.ex) }, q, W.at (by lia), f, fun Q k => ?_⟩
    rw [hS]
    exact ⟨hk, hk, inc_ok ho (by lia) k []⟩
noncomputable def to16 (l h : Nat) (K : Nat → Prop) : Prop := match Nat.ble (l + 256 * h) 50000 with | true => K (l + 256 * h) | false => False
noncomputable def qJMP (L : List Nat) (c : Co) (K : Co → Prop) : Prop := fe L c.pc fun l => fe L (c.pc + 1) fun h => to16 l h fun t => K { c with pc := t }
theorem to16_ok {l h : Nat} {K : Nat → Prop} (q : to16 l h K) : l + 256 * h ≤ 50000 ∧ K (l + 256 * h) := by
  unfold to16 at q
  split at q
  · rename_i b; exact ⟨Nat.le_of_ble_eq_true b, q⟩
  · cases q
theorem done_jmp {op : Nat} {cy : Int} {S : PV → Prop} (W : WF L N c) (f : FE e) (q : qJMP L c K) (ho : op < 256) (hS : ∀ Q, S Q = frm (op : Int) (wordW (ms N c e) (ms N c e).pc fun w => fin (op : Int) cy Q { ms N c e with pc := w } [])) : Done L N K S := by
  have hk : okk (op : Int) := by unfold okk; lia
  obtain ⟨h1, h2, h3⟩ := fe_ok W q
  obtain ⟨h4, h5, h6⟩ := fe_ok W h3
  obtain ⟨h7, h8⟩ := to16_ok h6
  refine ⟨_, { e with cyc := e.cyc + (cy + e.ex) }, h8, W.at (by lia), f, fun Q k => ?_⟩
  rw [hS]
  exact ⟨hk, hk, word_ok W rfl h5 (fin_ok (c := { c with pc := c.m c.pc + 256 * c.m (c.pc + 1) }) ho (by dsimp only; lia) k [])⟩
noncomputable def qJSR (L : List Nat) (c : Co) (K : Co → Prop) : Prop := fe L c.pc fun l => fe L (c.pc + 1) fun h => to16 l h fun t => K { c with m := up (up c.m (256 + c.sp) ((c.pc + 1) / 256)) (256 + (c.sp + 255) % 256) ((c.pc + 1) % 256), sp := ((c.sp + 255) % 256 + 255) % 256, pc := t }
theorem done_jsr {op : Nat} {cy : Int} {S : PV → Prop} (W : WF L N c) (f : FE e) (q : qJSR L c K) (ho : op < 256) (hS : ∀ Q, S Q = frm (op : Int) (0 ≤ (8 : Int) ∧ pushW (ms N c e) (Builtin.bitAnd ((Builtin.bitAnd ((ms N c e).pc + 1) 65535).fdiv (2 ^ (8 : Int).toNat)) 255) fun m₁ => pushW m₁ (Builtin.bitAnd (Builtin.bitAnd ((ms N c e).pc + 1) 65535) 255) fun m₂ => wordW m₂ m₂.pc fun w => fin (op : Int) cy Q { m₂ with pc := w } [])) : Done L N K S := by
  have hk : okk (op : Int) := by unfold okk; lia
  obtain ⟨h1, h2, h3⟩ := fe_ok W q
  obtain ⟨h4, h5, h6⟩ := fe_ok W h3
  obtain ⟨h7, h8⟩ := to16_ok h6
  have hb := W.big
  have e1 : Builtin.bitAnd ((ms N c e).pc + 1) 65535 = ((c.pc + 1 : Nat) : Int) := pc16 (p := c.pc) (n := 1) (by (clear h5; lia))
  have e2 : ((c.pc + 1 : Nat) : Int).fdiv (2 ^ (8 : Int).toNat) = (((c.pc + 1) / 256 : Nat) : Int) := by
    rw [show (2 : Int) ^ (8 : Int).toNat = 256 by rfl, Int.fdiv_eq_ediv_of_nonneg _ (by decide)]; lia
  have l1 : (c.pc + 1) / 256 < 256 := by lia
  have W1 := push_wf W l1
  have W2 := push_wf W1 (v := (c.pc + 1) % 256) (mod_lt _)
  have s1 := W.sp
  refine ⟨_, { e with cyc := e.cyc + (cy + e.ex) }, h8, W2.at (p := c.m c.pc + 256 * c.m (c.pc + 1)) (by lia), f, fun Q k => ?_⟩
  rw [hS, e1, e2]
  refine ⟨hk, hk, by decide, push_ok W (by rw [m_255, m_255, Nat.mod_eq_of_lt l1, Nat.mod_eq_of_lt l1]) (push_ok W1 (v := (c.pc + 1) % 256) (by rw [m_255, m_255, Nat.mod_mod]) (word_ok W2 rfl h5 ?_))⟩
  have g1 : up (up c.m (256 + c.sp) ((c.pc + 1) / 256)) (256 + (c.sp + 255) % 256) ((c.pc + 1) % 256) c.pc = c.m c.pc := by unfold up; rw [if_neg (by (clear h4; lia)), if_neg (by (clear h4; lia))]
  have g2 : up (up c.m (256 + c.sp) ((c.pc + 1) / 256)) (256 + (c.sp + 255) % 256) ((c.pc + 1) % 256) (c.pc + 1) = c.m (c.pc + 1) := by unfold up; rw [if_neg (by lia), if_neg (by lia)]
  show fin _ _ _ { ms N { c with m := up (up c.m (256 + c.sp) ((c.pc + 1) / 256)) (256 + (c.sp + 255) % 256) ((c.pc + 1) % 256), sp := ((c.sp + 255) % 256 + 255) % 256 } e with pc := ((up (up c.m (256 + c.sp) ((c.pc + 1) / 256)) (256 + (c.sp + 255) % 256) ((c.pc + 1) % 256) c.pc + 256 * up (up c.m (256 + c.sp) ((c.pc + 1) / 256)) (256 + (c.sp + 255) % 256) ((c.pc + 1) % 256) (c.pc + 1) : Nat) : Int) } []
  rw [g1, g2]
  exact fin_ok (c := { c with m := up (up c.m (256 + c.sp) ((c.pc + 1) / 256)) (256 + (c.sp + 255) % 256) ((c.pc + 1) % 256), sp := ((c.sp + 255) % 256 + 255) % 256, pc := c.m c.pc + 256 * c.m (c.pc + 1) }) ho (by dsimp only; lia) k []
noncomputable def qRTS (N : Nat) (c : Co) (K : Co → Prop) : Prop := (c.m (256 + (c.sp + 1) % 256) + 256 * c.m (256 + ((c.sp + 1) % 256 + 1) % 256) + 1 < N) ∧ K { c with sp := ((c.sp + 1) % 256 + 1) % 256, pc := c.m (256 + (c.sp + 1) % 256) + 256 * c.m (256 + ((c.sp + 1) % 256 + 1) % 256) + 1 }
theorem done_rts {op : Nat} {cy : Int} {S : PV → Prop} (W : WF L N c) (f : FE e) (q : qRTS N c K) (ho : op < 256) (hS : ∀ Q, S Q = frm (op : Int) (popW (ms N c e) fun z m₁ => popW m₁ fun u m₂ => shl u fun k => fin (op : Int) cy Q { m₂ with pc := z + k + 1 } [])) : Done L N K S := by
  have hk : okk (op : Int) := by unfold okk; lia
  have hb := W.big
  have W1 : WF L N { c with sp := (c.sp + 1) % 256 } := ⟨W.a, W.x, W.y, mod_lt _, W.m, W.fit, W.len, W.big, W.pc⟩
  refine ⟨_, { e with cyc := e.cyc + (cy + e.ex) }, q.2, ⟨W.a, W.x, W.y, mod_lt _, W.m, W.fit, W.len, W.big, by have := q.1; dsimp only; lia⟩, f, fun Q k => ?_⟩
  rw [hS]
  refine ⟨hk, hk, pop_ok W (pop_ok W1 (shl_ok (W.m _) ?_))⟩
  have e1 : ∀ a b : Nat, (a : Int) + ((256 * b : Nat) : Int) + 1 = ((a + 256 * b + 1 : Nat) : Int) := fun a b => by lia
  rw [e1]
  exact fin_ok (c := { c with sp := ((c.sp + 1) % 256 + 1) % 256, pc := c.m (256 + (c.sp + 1) % 256) + 256 * c.m (256 + ((c.sp + 1) % 256 + 1) % 256) + 1 }) ho (by have := q.1; dsimp only; lia) k []

end
end
end Mine

end
section
open PySem PySem.W PyProof.Rows
namespace Mine
noncomputable section
section
variable {L : List Nat} {N : Nat} {c : Co} {e : Ee} {K : Co → Prop}
theorem gp_1 : (Builtin.bitAnd (ms N c e).p 1 != 0) = c.c := g_1 _ _ _ _
theorem gp_2 : (Builtin.bitAnd (ms N c e).p 2 != 0) = c.z := g_2 _ _ _ _
theorem msE : ({ ms N c e with p := pOf c.n c.v c.z c.c } : MS) = ms N c e := rfl
theorem ifB_not {b : Bool} {A B : Prop} : ifB b A B = ifB (!b) B A := by cases b <;> rfl
end
noncomputable def OpF : Type := List Nat → Nat → Co → (Co → Prop) → Prop
noncomputable def opT : List (Nat × OpF) := [
  (160, fun L N c K => qLDY (rPC L) c (inK 1 K)),
  (177, fun L N c K => qLDA (rd (aIY L N)) c (inK 1 K)),
  (200, fun L N c K => qINY c K),
  (17, fun L N c K => qORA (rd (aIY L N)) c (inK 1 K)),
  (208, fun L N c K => qBR L (!c.z) c K),
  (96, fun L N c K => qRTS N c K),
  (56, fun L N c K => qSEC c K),
  (241, fun L N c K => qSBC (rd (aIY L N)) c (inK 1 K)),
  (176, fun L N c K => qBR L c.c c K),
  (165, fun L N c K => qLDA (rd (aZP L)) c (inK 1 K)),
  (166, fun L N c K => qLDX (rd (aZP L)) c (inK 1 K)),
  (133, fun L N c K => qSTA (aZP L) c (inK 1 K)),
  (134, fun L N c K => qSTX (aZP L) c (inK 1 K)),
  (76, fun L N c K => qJMP L c K),
  (145, fun L N c K => qSTA (wr L (aIY L N)) c (inK 1 K)),
  (32, fun L N c K => qJSR L c K),
  (230, fun L N c K => qINC (aZP L) c (inK 1 K))]
noncomputable def opRun : List (Nat × OpF) → Nat → List Nat → Nat → Co → (Co → Prop) → Prop
  | [], _, _, _, _, _ => False
  | (k, f) :: r, n, L, N, c, K => match Nat.beq n k with
    | true => f L N c K
    | false => opRun r n L N c K
noncomputable def ox (L : List Nat) (N : Nat) (c : Co) (K : Co → Prop) (op : Nat) : Prop := opRun opT op L N c K
noncomputable def nx (L : List Nat) (N : Nat) (c : Co) (K : Co → Prop) : Prop := fe L c.pc fun op => ox L N { c with pc := c.pc + 1 } K op
section
variable {L : List Nat} {N : Nat} {b : Co} {e : Ee} {K : Co → Prop}
theorem d_a0 (W0 : WF L N b) (f : FE e) (hb : b.pc < N) (h : qLDY (rPC L) ({ b with pc := b.pc + 1 } : Co) (inK 1 K)) : Done L N K (fun Q => stp ((160 : Nat) : Int) (ms N b e) Q) := by
  have hB := W0.big
  have hp : b.pc ≤ 60000 := by lia
  have W := W0.at (p := b.pc + 1) (by lia)
  exact done_inc (op := 160) (cy := 2) (n := 1) (LDY_ok (e := ee e 0) PC_ok W (ee_ok f) h [.meth 92 0]) (by decide) (by dsimp only; lia) fun Q => (o_a0 (ms N b e) Q).trans (by rw [pre_eq hp]; rfl)
theorem d_b1 (W0 : WF L N b) (f : FE e) (hb : b.pc < N) (h : qLDA (rd (aIY L N)) ({ b with pc := b.pc + 1 } : Co) (inK 1 K)) : Done L N K (fun Q => stp ((177 : Nat) : Int) (ms N b e) Q) := by
  have hB := W0.big
  have hp : b.pc ≤ 60000 := by lia
  have W := W0.at (p := b.pc + 1) (by lia)
  exact done_inc (op := 177) (cy := 5) (n := 1) (LDA_ok (e := ee e 1) IY1_ok W (ee_ok f) h [.meth 134 0]) (by decide) (by dsimp only; lia) fun Q => (o_b1 (ms N b e) Q).trans (by rw [pre_eq hp]; rfl)
theorem d_c8 (W0 : WF L N b) (f : FE e) (hb : b.pc < N) (h : qINY ({ b with pc := b.pc + 1 } : Co) K) : Done L N K (fun Q => stp ((200 : Nat) : Int) (ms N b e) Q) := by
  have hB := W0.big
  have hp : b.pc ≤ 60000 := by lia
  have W := W0.at (p := b.pc + 1) (by lia)
  exact done_fin (op := 200) (cy := 2) (INY_ok (e := ee e 0) W (ee_ok f) h) (by decide) (by dsimp only; lia) fun Q => (o_c8 (ms N b e) Q).trans (by rw [pre_eq hp]; rfl)
theorem d_11 (W0 : WF L N b) (f : FE e) (hb : b.pc < N) (h : qORA (rd (aIY L N)) ({ b with pc := b.pc + 1 } : Co) (inK 1 K)) : Done L N K (fun Q => stp ((17 : Nat) : Int) (ms N b e) Q) := by
  have hB := W0.big
  have hp : b.pc ≤ 60000 := by lia
  have W := W0.at (p := b.pc + 1) (by lia)
  exact done_inc (op := 17) (cy := 5) (n := 1) (ORA_ok (e := ee e 1) IY1_ok W (ee_ok f) h [.meth 134 0]) (by decide) (by dsimp only; lia) fun Q => (o_11 (ms N b e) Q).trans (by rw [pre_eq hp]; rfl)
theorem d_d0 (W0 : WF L N b) (f : FE e) (hb : b.pc < N) (h : qBR L (!({ b with pc := b.pc + 1 } : Co).z) ({ b with pc := b.pc + 1 } : Co) K) : Done L N K (fun Q => stp ((208 : Nat) : Int) (ms N b e) Q) := by
  have hB := W0.big
  have hp : b.pc ≤ 60000 := by lia
  have W := W0.at (p := b.pc + 1) (by lia)
  exact done_br (op := 208) (cy := 2) (e := ee e 2) W (ee_ok f) (by dsimp only; lia) h (by decide) fun Q => (o_d0 (ms N b e) Q).trans (by rw [pre_eq hp, gp_2, ifB_not]; rfl)
theorem d_60 (W0 : WF L N b) (f : FE e) (hb : b.pc < N) (h : qRTS N ({ b with pc := b.pc + 1 } : Co) K) : Done L N K (fun Q => stp ((96 : Nat) : Int) (ms N b e) Q) := by
  have hB := W0.big
  have hp : b.pc ≤ 60000 := by lia
  have W := W0.at (p := b.pc + 1) (by lia)
  exact done_rts (op := 96) (cy := 6) (e := ee e 0) W (ee_ok f) h (by decide) fun Q => (o_60 (ms N b e) Q).trans (by rw [pre_eq hp]; rfl)
theorem d_38 (W0 : WF L N b) (f : FE e) (hb : b.pc < N) (h : qSEC ({ b with pc := b.pc + 1 } : Co) K) : Done L N K (fun Q => stp ((56 : Nat) : Int) (ms N b e) Q) := by
  have hB := W0.big
  have hp : b.pc ≤ 60000 := by lia
  have W := W0.at (p := b.pc + 1) (by lia)
  exact done_fin (op := 56) (cy := 2) (SEC_ok (e := ee e 0) W (ee_ok f) h) (by decide) (by dsimp only; lia) fun Q => (o_38 (ms N b e) Q).trans (by rw [pre_eq hp]; rfl)
theorem d_f1 (W0 : WF L N b) (f : FE e) (hb : b.pc < N) (h : qSBC (rd (aIY L N)) ({ b with pc := b.pc + 1 } : Co) (inK 1 K)) : Done L N K (fun Q => stp ((241 : Nat) : Int) (ms N b e) Q) := by
  have hB := W0.big
  have hp : b.pc ≤ 60000 := by lia
  have W := W0.at (p := b.pc + 1) (by lia)
  exact done_inc (op := 241) (cy := 5) (n := 1) (SBC_ok (e := ee e 1) IY1_ok W (ee_ok f) h [.meth 134 0]) (by decide) (by dsimp only; lia) fun Q => (o_f1 (ms N b e) Q b.n b.v b.z b.c).trans (by rw [msE, pre_eq hp]; rfl)
theorem d_b0 (W0 : WF L N b) (f : FE e) (hb : b.pc < N) (h : qBR L ({ b with pc := b.pc + 1 } : Co).c ({ b with pc := b.pc + 1 } : Co) K) : Done L N K (fun Q => stp ((176 : Nat) : Int) (ms N b e) Q) := by
  have hB := W0.big
  have hp : b.pc ≤ 60000 := by lia
  have W := W0.at (p := b.pc + 1) (by lia)
  exact done_br (op := 176) (cy := 2) (e := ee e 2) W (ee_ok f) (by dsimp only; lia) h (by decide) fun Q => (o_b0 (ms N b e) Q).trans (by rw [pre_eq hp, gp_1]; rfl)
theorem d_a5 (W0 : WF L N b) (f : FE e) (hb : b.pc < N) (h : qLDA (rd (aZP L)) ({ b with pc := b.pc + 1 } : Co) (inK 1 K)) : Done L N K (fun Q => stp ((165 : Nat) : Int) (ms N b e) Q) := by
  have hB := W0.big
  have hp : b.pc ≤ 60000 := by lia
  have W := W0.at (p := b.pc + 1) (by lia)
  exact done_inc (op := 165) (cy := 3) (n := 1) (LDA_ok (e := ee e 0) ZP_ok W (ee_ok f) h [.meth 106 0]) (by decide) (by dsimp only; lia) fun Q => (o_a5 (ms N b e) Q).trans (by rw [pre_eq hp]; rfl)
theorem d_a6 (W0 : WF L N b) (f : FE e) (hb : b.pc < N) (h : qLDX (rd (aZP L)) ({ b with pc := b.pc + 1 } : Co) (inK 1 K)) : Done L N K (fun Q => stp ((166 : Nat) : Int) (ms N b e) Q) := by
  have hB := W0.big
  have hp : b.pc ≤ 60000 := by lia
  have W := W0.at (p := b.pc + 1) (by lia)
  exact done_inc (op := 166) (cy := 3) (n := 1) (LDX_ok (e := ee e 0) ZP_ok W (ee_ok f) h [.meth 106 0]) (by decide) (by dsimp only; lia) fun Q => (o_a6 (ms N b e) Q).trans (by rw [pre_eq hp]; rfl)
theorem d_85 (W0 : WF L N b) (f : FE e) (hb : b.pc < N) (h : qSTA (aZP L) ({ b with pc := b.pc + 1 } : Co) (inK 1 K)) : Done L N K (fun Q => stp ((133 : Nat) : Int) (ms N b e) Q) := by
  have hB := W0.big
  have hp : b.pc ≤ 60000 := by lia
  have W := W0.at (p := b.pc + 1) (by lia)
  exact done_inc (op := 133) (cy := 3) (n := 1) (STA_ok (e := ee e 0) ZP_a W (ee_ok f) h [.meth 106 0]) (by decide) (by dsimp only; lia) fun Q => (o_85 (ms N b e) Q).trans (by rw [pre_eq hp]; rfl)
theorem d_86 (W0 : WF L N b) (f : FE e) (hb : b.pc < N) (h : qSTX (aZP L) ({ b with pc := b.pc + 1 } : Co) (inK 1 K)) : Done L N K (fun Q => stp ((134 : Nat) : Int) (ms N b e) Q) := by
  have hB := W0.big
  have hp : b.pc ≤ 60000 := by lia
  have W := W0.at (p := b.pc + 1) (by lia)
  exact done_inc (op := 134) (cy := 3) (n := 1) (STX_ok (e := ee e 0) ZP_a W (ee_ok f) h [.meth 106 0]) (by decide) (by dsimp only; lia) fun Q => (o_86 (ms N b e) Q).trans (by rw [pre_eq hp]; rfl)
theorem d_4c (W0 : WF L N b) (f : FE e) (hb : b.pc < N) (h : qJMP L ({ b with pc := b.pc + 1 } : Co) K) : Done L N K (fun Q => stp ((76 : Nat) : Int) (ms N b e) Q) := by
  have hB := W0.big
  have hp : b.pc ≤ 60000 := by lia
  have W := W0.at (p := b.pc + 1) (by lia)
  exact done_jmp (op := 76) (cy := 3) (e := ee e 0) W (ee_ok f) h (by decide) fun Q => (o_4c (ms N b e) Q).trans (by rw [pre_eq hp]; rfl)
theorem d_91 (W0 : WF L N b) (f : FE e) (hb : b.pc < N) (h : qSTA (wr L (aIY L N)) ({ b with pc := b.pc + 1 } : Co) (inK 1 K)) : Done L N K (fun Q => stp ((145 : Nat) : Int) (ms N b e) Q) := by
  have hB := W0.big
  have hp : b.pc ≤ 60000 := by lia
  have W := W0.at (p := b.pc + 1) (by lia)
  exact done_inc (op := 145) (cy := 6) (n := 1) (STA_ok (e := ee e 0) IY0_a W (ee_ok f) h [.meth 134 0]) (by decide) (by dsimp only; lia) fun Q => (o_91 (ms N b e) Q).trans (by rw [pre_eq hp]; rfl)
theorem d_20 (W0 : WF L N b) (f : FE e) (hb : b.pc < N) (h : qJSR L ({ b with pc := b.pc + 1 } : Co) K) : Done L N K (fun Q => stp ((32 : Nat) : Int) (ms N b e) Q) := by
  have hB := W0.big
  have hp : b.pc ≤ 60000 := by lia
  have W := W0.at (p := b.pc + 1) (by lia)
  exact done_jsr (op := 32) (cy := 6) (e := ee e 0) W (ee_ok f) h (by decide) fun Q => (o_20 (ms N b e) Q).trans (by rw [pre_eq hp]; rfl)
theorem d_e6 (W0 : WF L N b) (f : FE e) (hb : b.pc < N) (h : qINC (aZP L) ({ b with pc := b.pc + 1 } : Co) (inK 1 K)) : Done L N K (fun Q => stp ((230 : Nat) : Int) (ms N b e) Q) := by
  have hB := W0.big
  have hp : b.pc ≤ 60000 := by lia
  have W := W0.at (p := b.pc + 1) (by lia)
  exact done_inc (op := 230) (cy := 5) (n := 1) (INC_ok (e := ee e 0) ZP_a W (ee_ok f) h [.meth 106 0]) (by decide) (by dsimp only; lia) fun Q => (o_e6 (ms N b e) Q).trans (by rw [pre_eq hp]; rfl)
noncomputable def OpOk (k : Nat) (f : OpF) : Prop := ∀ {L : List Nat} {N : Nat} {b : Co} {e : Ee} {K : Co → Prop}, WF L N b → FE e → b.pc < N → f L N { b with pc := b.pc + 1 } K → Done L N K (fun Q => stp (k : Int) (ms N b e) Q)
noncomputable def OpsOk : List (Nat × OpF) → Prop
  | [] => True
  | (k, f) :: r => OpOk k f ∧ OpsOk r
theorem run_ok : ∀ {T : List (Nat × OpF)}, OpsOk T → ∀ {n : Nat}, OpOk n (opRun T n)
  | [], _, _ => fun _ _ _ h => h.elim
  | (k, f) :: r, h, n => fun W F l q => by
    unfold opRun at q
    cases g : Nat.beq n k with
    | true =>
      rw [g] at q
      obtain rfl := Nat.eq_of_beq_eq_true g
      exact h.1 W F l q
    | false =>
      rw [g] at q
      exact run_ok h.2 W F l q
theorem ops_ok : OpsOk opT := ⟨d_a0, d_b1, d_c8, d_11, d_d0, d_60, d_38, d_f1, d_b0, d_a5, d_a6, d_85, d_86, d_4c, d_91, d_20, d_e6, trivial⟩
theorem ox_ok (W : WF L N b) (f : FE e) (hb : b.pc < N) (op : Nat) (h : ox L N { b with pc := b.pc + 1 } K op) : Done L N K (fun Q => stp (op : Int) (ms N b e) Q) := run_ok ops_ok W f hb h
theorem nx_ok (W : WF L N b) (f : FE e) (h : nx L N b K) : 512 ≤ b.pc ∧ b.pc < 512 + L.length ∧ ∃ c' e', K c' ∧ WF L N c' ∧ FE e' ∧ Stp (ms N b e) (ms N c' e') := by
  have hin : 512 ≤ b.pc ∧ b.pc < 512 + L.length := by
    unfold nx fe at h
    split at h
    · rename_i q
      have q := Nat.le_of_ble_eq_true q
      split at h
      · rename_i x ex
        have := (List.getElem?_eq_some_iff.mp ex).1
        exact ⟨q, by lia⟩
      · cases h
    · cases h
  refine El_aa (fe_ok W h) fun h1 h2 h3 => ?_
  refine El_eeaaa (ox_ok W f h2 _ h3) fun c' e' k1 k2 k3 k4 => ?_
  refine ⟨hin.1, hin.2, c', e', k1, k2, k3, fun Q hQ => ?_⟩
  rw [step_head]
  exact rd_ok rfl h2 W.big (k4 Q hQ)
end
end
end Mine
end
section
open PySem PySem.W PyProof.Rows
namespace Mine
noncomputable section
inductive Runs (L : List Nat) (N : Nat) : Nat → Co → Ee → Co → Ee → Prop
  | nil {c e} : Runs L N 0 c e c e
  | cons {k c e c' e' c'' e''} : 512 ≤ c.pc → c.pc < 512 + L.length → FE e → FE e' → Stp (ms N c e) (ms N c' e') → Runs L N k c' e' c'' e'' → Runs L N (k + 1) c e c'' e''
theorem Runs.app {L : List Nat} {N : Nat} {k j : Nat} {c c' c'' : Co} {e e' e'' : Ee} (h : Runs L N k c e c' e') (g : Runs L N j c' e' c'' e'') : Runs L N (j + k) c e c'' e'' := by
  induction h with
  | nil => exact g
  | cons a b f1 f2 s _ ih => exact .cons a b f1 f2 s (ih g)
noncomputable def Wi (L : List Nat) (N : Nat) (n : Nat) (c : Co) (Q : Co → Prop) : Prop := ∀ e, WF L N c → FE e → ∃ k c' e', k ≤ n ∧ Runs L N k c e c' e' ∧ WF L N c' ∧ FE e' ∧ Q c'
section
variable {L : List Nat} {N : Nat} {c : Co} {Q Q' : Co → Prop} {n m : Nat}
theorem Wi.ret (h : Q c) : Wi L N 0 c Q := fun e W f => ⟨0, c, e, Nat.le_refl _, .nil, W, f, h⟩
theorem Wi.bind (h : Wi L N n c Q) (g : ∀ c', WF L N c' → Q c' → Wi L N m c' Q') : Wi L N (n + m) c Q' := fun e W f => by
  refine El_eeeaaaa (h e W f) fun k c' e' h1 h2 h3 h4 h5 => ?_
  refine El_eeeaaaa (g c' h3 h5 e' h3 h4) fun k' c'' e'' g1 g2 g3 g4 g5 => ?_
  exact ⟨k' + k, c'', e'', by lia, h2.app g2, g3, g4, g5⟩
theorem Wi.le (h : Wi L N n c Q) (l : n ≤ m) : Wi L N m c Q := fun e W f => by
  refine El_eeea (h e W f) fun k c' e' h1 h2 => ?_
  exact ⟨k, c', e', by lia, h2⟩
theorem Wi.mono (h : Wi L N n c Q) (g : ∀ c', Q c' → Q' c') : Wi L N n c Q' := fun e W f => by
  refine El_eeeaaaa (h e W f) fun k c' e' h1 h2 h3 h4 h5 => ?_
  exact ⟨k, c', e', h1, h2, h3, h4, g _ h5⟩
theorem Wi.wf (h : WF L N c → Wi L N n c Q) : Wi L N n c Q := fun e W f => h W e W f
end
noncomputable def gs (L : List Nat) (N : Nat) : Nat → Co → (Co → Prop) → Prop
  | 0, c, Q => Q c
  | k + 1, c, Q => nx L N c fun c' => gs L N k c' Q
theorem gs_ok {L : List Nat} {N : Nat} : ∀ {k : Nat} {c : Co} {Q : Co → Prop}, gs L N k c Q → Wi L N k c Q
  | 0, c, Q, h => Wi.ret h
  | k + 1, c, Q, h => fun e W f => by
    refine El_aaeeaaa (nx_ok W f h) fun h1 h2 c' e' h3 h4 h5 h6 => ?_
    refine El_eeeaaaa (gs_ok h3 e' h4 h5) fun k' c'' e'' g1 g2 g3 g4 g5 => ?_
    exact ⟨k' + 1, c'', e'', by lia, .cons h1 h2 f h5 h6 g2, g3, g4, g5⟩
end
end Mine

end
section
open PySem PySem.W PyProof.Rows
namespace Mine
noncomputable section
noncomputable abbrev c03 (y f fh s sh ct : Nat) : List Nat := [160, y, 177, s, 200, 17, s, 200, 17, s, 200, 17, s, 208, 1, 96, 160, y, 56, 177, f, 241, s, 200, 177, f, 241, s, 200, 177, f, 241, s, 200, 177, f, 241, s, 176, 19, 165, f, 166, s, 133, s, 134, f, 165, fh, 166, sh, 133, sh, 134, fh, 76, 0, 2, 160, y, 177, f, 241, s, 145, f, 200, 177, f, 241, s, 145, f, 200, 177, f, 241, s, 145, f, 200, 177, f, 241, s, 145, f, 32, 16, 2, 230, ct, 96, 32, 0, 2]
theorem b_T (y f fh s sh ct : Nat) (a x yy sp : Nat) (n v z cc : Bool) (m : Nat → Nat) (Q : Co → Prop) : gs (c03 y f fh s sh ct) 1024 9 ⟨a, x, yy, sp, 512, n, v, z, cc, m⟩ Q = ((m s + 256 * m ((s + 1) % 256) + y < 1024) ∧ (m s + 256 * m ((s + 1) % 256) + (y + 1) % 256 < 1024) ∧ (m s + 256 * m ((s + 1) % 256) + (((y + 1) % 256) + 1) % 256 < 1024) ∧ (m s + 256 * m ((s + 1) % 256) + (((((y + 1) % 256) + 1) % 256) + 1) % 256 < 1024) ∧ ifB (!(decide (((((((m (m s + 256 * m ((s + 1) % 256) + y)) ||| (m (m s + 256 * m ((s + 1) % 256) + (y + 1) % 256)))) ||| (m (m s + 256 * m ((s + 1) % 256) + (((y + 1) % 256) + 1) % 256)))) ||| (m (m s + 256 * m ((s + 1) % 256) + (((((y + 1) % 256) + 1) % 256) + 1) % 256))) = 0))) (Q ⟨((((((m (m s + 256 * m ((s + 1) % 256) + y)) ||| (m (m s + 256 * m ((s + 1) % 256) + (y + 1) % 256)))) ||| (m (m s + 256 * m ((s + 1) % 256) + (((y + 1) % 256) + 1) % 256)))) ||| (m (m s + 256 * m ((s + 1) % 256) + (((((y + 1) % 256) + 1) % 256) + 1) % 256))), x, (((((y + 1) % 256) + 1) % 256) + 1) % 256, sp, 528, decide (128 ≤ ((((((m (m s + 256 * m ((s + 1) % 256) + y)) ||| (m (m s + 256 * m ((s + 1) % 256) + (y + 1) % 256)))) ||| (m (m s + 256 * m ((s + 1) % 256) + (((y + 1) % 256) + 1) % 256)))) ||| (m (m s + 256 * m ((s + 1) % 256) + (((((y + 1) % 256) + 1) % 256) + 1) % 256)))), v, decide (((((((m (m s + 256 * m ((s + 1) % 256) + y)) ||| (m (m s + 256 * m ((s + 1) % 256) + (y + 1) % 256)))) ||| (m (m s + 256 * m ((s + 1) % 256) + (((y + 1) % 256) + 1) % 256)))) ||| (m (m s + 256 * m ((s + 1) % 256) + (((((y + 1) % 256) + 1) % 256) + 1) % 256))) = 0), cc, m⟩) (Q ⟨((((((m (m s + 256 * m ((s + 1) % 256) + y)) ||| (m (m s + 256 * m ((s + 1) % 256) + (y + 1) % 256)))) ||| (m (m s + 256 * m ((s + 1) % 256) + (((y + 1) % 256) + 1) % 256)))) ||| (m (m s + 256 * m ((s + 1) % 256) + (((((y + 1) % 256) + 1) % 256) + 1) % 256))), x, (((((y + 1) % 256) + 1) % 256) + 1) % 256, sp, 527, decide (128 ≤ ((((((m (m s + 256 * m ((s + 1) % 256) + y)) ||| (m (m s + 256 * m ((s + 1) % 256) + (y + 1) % 256)))) ||| (m (m s + 256 * m ((s + 1) % 256) + (((y + 1) % 256) + 1) % 256)))) ||| (m (m s + 256 * m ((s + 1) % 256) + (((((y + 1) % 256) + 1) % 256) + 1) % 256)))), v, decide (((((((m (m s + 256 * m ((s + 1) % 256) + y)) ||| (m (m s + 256 * m ((s + 1) % 256) + (y + 1) % 256)))) ||| (m (m s + 256 * m ((s + 1) % 256) + (((y + 1) % 256) + 1) % 256)))) ||| (m (m s + 256 * m ((s + 1) % 256) + (((((y + 1) % 256) + 1) % 256) + 1) % 256))) = 0), cc, m⟩)) := by kernel_rfl
theorem b_R (y f fh s sh ct : Nat) (a x yy sp : Nat) (n v z cc : Bool) (m : Nat → Nat) (Q : Co → Prop) : gs (c03 y f fh s sh ct) 1024 1 ⟨a, x, yy, sp, 527, n, v, z, cc, m⟩ Q = ((m (256 + (sp + 1) % 256) + 256 * m (256 + ((sp + 1) % 256 + 1) % 256) + 1 < 1024) ∧ Q ⟨a, x, yy, ((sp + 1) % 256 + 1) % 256, m (256 + (sp + 1) % 256) + 256 * m (256 + ((sp + 1) % 256 + 1) % 256) + 1, n, v, z, cc, m⟩) := by kernel_rfl
theorem b_K (y f fh s sh ct : Nat) (a x yy sp : Nat) (n v z cc : Bool) (m : Nat → Nat) (Q : Co → Prop) : gs (c03 y f fh s sh ct) 1024 14 ⟨a, x, yy, sp, 528, n, v, z, cc, m⟩ Q = ((m f + 256 * m ((f + 1) % 256) + y < 1024) ∧ (m s + 256 * m ((s + 1) % 256) + y < 1024) ∧ (m f + 256 * m ((f + 1) % 256) + (y + 1) % 256 < 1024) ∧ (m s + 256 * m ((s + 1) % 256) + (y + 1) % 256 < 1024) ∧ (m f + 256 * m ((f + 1) % 256) + (((y + 1) % 256) + 1) % 256 < 1024) ∧ (m s + 256 * m ((s + 1) % 256) + (((y + 1) % 256) + 1) % 256 < 1024) ∧ (m f + 256 * m ((f + 1) % 256) + (((((y + 1) % 256) + 1) % 256) + 1) % 256 < 1024) ∧ (m s + 256 * m ((s + 1) % 256) + (((((y + 1) % 256) + 1) % 256) + 1) % 256 < 1024) ∧ ifB (decide (256 ≤ ((m (m f + 256 * m ((f + 1) % 256) + (((((y + 1) % 256) + 1) % 256) + 1) % 256)) + (255 - (m (m s + 256 * m ((s + 1) % 256) + (((((y + 1) % 256) + 1) % 256) + 1) % 256))) + Bool.toNat (decide (256 ≤ ((m (m f + 256 * m ((f + 1) % 256) + (((y + 1) % 256) + 1) % 256)) + (255 - (m (m s + 256 * m ((s + 1) % 256) + (((y + 1) % 256) + 1) % 256))) + Bool.toNat (decide (256 ≤ ((m (m f + 256 * m ((f + 1) % 256) + (y + 1) % 256)) + (255 - (m (m s + 256 * m ((s + 1) % 256) + (y + 1) % 256))) + Bool.toNat (decide (256 ≤ ((m (m f + 256 * m ((f + 1) % 256) + y)) + (255 - (m (m s + 256 * m ((s + 1) % 256) + y))) + Bool.toNat true)))))))))))) (Q ⟨((m (m f + 256 * m ((f + 1) % 256) + (((((y + 1) % 256) + 1) % 256) + 1) % 256)) + (255 - (m (m s + 256 * m ((s + 1) % 256) + (((((y + 1) % 256) + 1) % 256) + 1) % 256))) + Bool.toNat (decide (256 ≤ ((m (m f + 256 * m ((f + 1) % 256) + (((y + 1) % 256) + 1) % 256)) + (255 - (m (m s + 256 * m ((s + 1) % 256) + (((y + 1) % 256) + 1) % 256))) + Bool.toNat (decide (256 ≤ ((m (m f + 256 * m ((f + 1) % 256) + (y + 1) % 256)) + (255 - (m (m s + 256 * m ((s + 1) % 256) + (y + 1) % 256))) + Bool.toNat (decide (256 ≤ ((m (m f + 256 * m ((f + 1) % 256) + y)) + (255 - (m (m s + 256 * m ((s + 1) % 256) + y))) + Bool.toNat true)))))))))) % 256, x, (((((y + 1) % 256) + 1) % 256) + 1) % 256, sp, 571, decide (128 ≤ ((m (m f + 256 * m ((f + 1) % 256) + (((((y + 1) % 256) + 1) % 256) + 1) % 256)) + (255 - (m (m s + 256 * m ((s + 1) % 256) + (((((y + 1) % 256) + 1) % 256) + 1) % 256))) + Bool.toNat (decide (256 ≤ ((m (m f + 256 * m ((f + 1) % 256) + (((y + 1) % 256) + 1) % 256)) + (255 - (m (m s + 256 * m ((s + 1) % 256) + (((y + 1) % 256) + 1) % 256))) + Bool.toNat (decide (256 ≤ ((m (m f + 256 * m ((f + 1) % 256) + (y + 1) % 256)) + (255 - (m (m s + 256 * m ((s + 1) % 256) + (y + 1) % 256))) + Bool.toNat (decide (256 ≤ ((m (m f + 256 * m ((f + 1) % 256) + y)) + (255 - (m (m s + 256 * m ((s + 1) % 256) + y))) + Bool.toNat true)))))))))) % 256), sbV (m (m f + 256 * m ((f + 1) % 256) + (((((y + 1) % 256) + 1) % 256) + 1) % 256)) (m (m s + 256 * m ((s + 1) % 256) + (((((y + 1) % 256) + 1) % 256) + 1) % 256)) ((m (m f + 256 * m ((f + 1) % 256) + (((((y + 1) % 256) + 1) % 256) + 1) % 256)) + (255 - (m (m s + 256 * m ((s + 1) % 256) + (((((y + 1) % 256) + 1) % 256) + 1) % 256))) + Bool.toNat (decide (256 ≤ ((m (m f + 256 * m ((f + 1) % 256) + (((y + 1) % 256) + 1) % 256)) + (255 - (m (m s + 256 * m ((s + 1) % 256) + (((y + 1) % 256) + 1) % 256))) + Bool.toNat (decide (256 ≤ ((m (m f + 256 * m ((f + 1) % 256) + (y + 1) % 256)) + (255 - (m (m s + 256 * m ((s + 1) % 256) + (y + 1) % 256))) + Bool.toNat (decide (256 ≤ ((m (m f + 256 * m ((f + 1) % 256) + y)) + (255 - (m (m s + 256 * m ((s + 1) % 256) + y))) + Bool.toNat true)))))))))), decide (((m (m f + 256 * m ((f + 1) % 256) + (((((y + 1) % 256) + 1) % 256) + 1) % 256)) + (255 - (m (m s + 256 * m ((s + 1) % 256) + (((((y + 1) % 256) + 1) % 256) + 1) % 256))) + Bool.toNat (decide (256 ≤ ((m (m f + 256 * m ((f + 1) % 256) + (((y + 1) % 256) + 1) % 256)) + (255 - (m (m s + 256 * m ((s + 1) % 256) + (((y + 1) % 256) + 1) % 256))) + Bool.toNat (decide (256 ≤ ((m (m f + 256 * m ((f + 1) % 256) + (y + 1) % 256)) + (255 - (m (m s + 256 * m ((s + 1) % 256) + (y + 1) % 256))) + Bool.toNat (decide (256 ≤ ((m (m f + 256 * m ((f + 1) % 256) + y)) + (255 - (m (m s + 256 * m ((s + 1) % 256) + y))) + Bool.toNat true)))))))))) % 256 = 0), decide (256 ≤ ((m (m f + 256 * m ((f + 1) % 256) + (((((y + 1) % 256) + 1) % 256) + 1) % 256)) + (255 - (m (m s + 256 * m ((s + 1) % 256) + (((((y + 1) % 256) + 1) % 256) + 1) % 256))) + Bool.toNat (decide (256 ≤ ((m (m f + 256 * m ((f + 1) % 256) + (((y + 1) % 256) + 1) % 256)) + (255 - (m (m s + 256 * m ((s + 1) % 256) + (((y + 1) % 256) + 1) % 256))) + Bool.toNat (decide (256 ≤ ((m (m f + 256 * m ((f + 1) % 256) + (y + 1) % 256)) + (255 - (m (m s + 256 * m ((s + 1) % 256) + (y + 1) % 256))) + Bool.toNat (decide (256 ≤ ((m (m f + 256 * m ((f + 1) % 256) + y)) + (255 - (m (m s + 256 * m ((s + 1) % 256) + y))) + Bool.toNat true))))))))))), m⟩) (Q ⟨((m (m f + 256 * m ((f + 1) % 256) + (((((y + 1) % 256) + 1) % 256) + 1) % 256)) + (255 - (m (m s + 256 * m ((s + 1) % 256) + (((((y + 1) % 256) + 1) % 256) + 1) % 256))) + Bool.toNat (decide (256 ≤ ((m (m f + 256 * m ((f + 1) % 256) + (((y + 1) % 256) + 1) % 256)) + (255 - (m (m s + 256 * m ((s + 1) % 256) + (((y + 1) % 256) + 1) % 256))) + Bool.toNat (decide (256 ≤ ((m (m f + 256 * m ((f + 1) % 256) + (y + 1) % 256)) + (255 - (m (m s + 256 * m ((s + 1) % 256) + (y + 1) % 256))) + Bool.toNat (decide (256 ≤ ((m (m f + 256 * m ((f + 1) % 256) + y)) + (255 - (m (m s + 256 * m ((s + 1) % 256) + y))) + Bool.toNat true)))))))))) % 256, x, (((((y + 1) % 256) + 1) % 256) + 1) % 256, sp, 552, decide (128 ≤ ((m (m f + 256 * m ((f + 1) % 256) + (((((y + 1) % 256) + 1) % 256) + 1) % 256)) + (255 - (m (m s + 256 * m ((s + 1) % 256) + (((((y + 1) % 256) + 1) % 256) + 1) % 256))) + Bool.toNat (decide (256 ≤ ((m (m f + 256 * m ((f + 1) % 256) + (((y + 1) % 256) + 1) % 256)) + (255 - (m (m s + 256 * m ((s + 1) % 256) + (((y + 1) % 256) + 1) % 256))) + Bool.toNat (decide (256 ≤ ((m (m f + 256 * m ((f + 1) % 256) + (y + 1) % 256)) + (255 - (m (m s + 256 * m ((s + 1) % 256) + (y + 1) % 256))) + Bool.toNat (decide (256 ≤ ((m (m f + 256 * m ((f + 1) % 256) + y)) + (255 - (m (m s + 256 * m ((s + 1) % 256) + y))) + Bool.toNat true)))))))))) % 256), sbV (m (m f + 256 * m ((f + 1) % 256) + (((((y + 1) % 256) + 1) % 256) + 1) % 256)) (m (m s + 256 * m ((s + 1) % 256) + (((((y + 1) % 256) + 1) % 256) + 1) % 256)) ((m (m f + 256 * m ((f + 1) % 256) + (((((y + 1) % 256) + 1) % 256) + 1) % 256)) + (255 - (m (m s + 256 * m ((s + 1) % 256) + (((((y + 1) % 256) + 1) % 256) + 1) % 256))) + Bool.toNat (decide (256 ≤ ((m (m f + 256 * m ((f + 1) % 256) + (((y + 1) % 256) + 1) % 256)) + (255 - (m (m s + 256 * m ((s + 1) % 256) + (((y + 1) % 256) + 1) % 256))) + Bool.toNat (decide (256 ≤ ((m (m f + 256 * m ((f + 1) % 256) + (y + 1) % 256)) + (255 - (m (m s + 256 * m ((s + 1) % 256) + (y + 1) % 256))) + Bool.toNat (decide (256 ≤ ((m (m f + 256 * m ((f + 1) % 256) + y)) + (255 - (m (m s + 256 * m ((s + 1) % 256) + y))) + Bool.toNat true)))))))))), decide (((m (m f + 256 * m ((f + 1) % 256) + (((((y + 1) % 256) + 1) % 256) + 1) % 256)) + (255 - (m (m s + 256 * m ((s + 1) % 256) + (((((y + 1) % 256) + 1) % 256) + 1) % 256))) + Bool.toNat (decide (256 ≤ ((m (m f + 256 * m ((f + 1) % 256) + (((y + 1) % 256) + 1) % 256)) + (255 - (m (m s + 256 * m ((s + 1) % 256) + (((y + 1) % 256) + 1) % 256))) + Bool.toNat (decide (256 ≤ ((m (m f + 256 * m ((f + 1) % 256) + (y + 1) % 256)) + (255 - (m (m s + 256 * m ((s + 1) % 256) + (y + 1) % 256))) + Bool.toNat (decide (256 ≤ ((m (m f + 256 * m ((f + 1) % 256) + y)) + (255 - (m (m s + 256 * m ((s + 1) % 256) + y))) + Bool.toNat true)))))))))) % 256 = 0), decide (256 ≤ ((m (m f + 256 * m ((f + 1) % 256) + (((((y + 1) % 256) + 1) % 256) + 1) % 256)) + (255 - (m (m s + 256 * m ((s + 1) % 256) + (((((y + 1) % 256) + 1) % 256) + 1) % 256))) + Bool.toNat (decide (256 ≤ ((m (m f + 256 * m ((f + 1) % 256) + (((y + 1) % 256) + 1) % 256)) + (255 - (m (m s + 256 * m ((s + 1) % 256) + (((y + 1) % 256) + 1) % 256))) + Bool.toNat (decide (256 ≤ ((m (m f + 256 * m ((f + 1) % 256) + (y + 1) % 256)) + (255 - (m (m s + 256 * m ((s + 1) % 256) + (y + 1) % 256))) + Bool.toNat (decide (256 ≤ ((m (m f + 256 * m ((f + 1) % 256) + y)) + (255 - (m (m s + 256 * m ((s + 1) % 256) + y))) + Bool.toNat true))))))))))), m⟩)) := by kernel_rfl
theorem b_S (y f fh s sh ct : Nat) (a x yy sp : Nat) (n v z cc : Bool) (m : Nat → Nat) (Q : Co → Prop) : gs (c03 y f fh s sh ct) 1024 9 ⟨a, x, yy, sp, 552, n, v, z, cc, m⟩ Q = (Q ⟨(up (up m s (m f)) f (m s)) fh, (up (up m s (m f)) f (m s)) sh, yy, sp, 512, decide (128 ≤ (up (up m s (m f)) f (m s)) sh), v, decide ((up (up m s (m f)) f (m s)) sh = 0), cc, (up (up (up (up m s (m f)) f (m s)) sh ((up (up m s (m f)) f (m s)) fh)) fh ((up (up m s (m f)) f (m s)) sh))⟩) := by kernel_rfl
theorem b_M1 (y f fh s sh ct : Nat) (a x yy sp : Nat) (n v z cc : Bool) (m : Nat → Nat) (Q : Co → Prop) : gs (c03 y f fh s sh ct) 1024 4 ⟨a, x, yy, sp, 571, n, v, z, cc, m⟩ Q = ((m f + 256 * m ((f + 1) % 256) + y < 1024) ∧ (m s + 256 * m ((s + 1) % 256) + y < 1024) ∧ (m f + 256 * m ((f + 1) % 256) + y < 1024) ∧ (m f + 256 * m ((f + 1) % 256) + y < 512 ∨ 512 + 97 ≤ m f + 256 * m ((f + 1) % 256) + y) ∧ Q ⟨((m (m f + 256 * m ((f + 1) % 256) + y)) + (255 - (m (m s + 256 * m ((s + 1) % 256) + y))) + Bool.toNat cc) % 256, x, y, sp, 579, decide (128 ≤ ((m (m f + 256 * m ((f + 1) % 256) + y)) + (255 - (m (m s + 256 * m ((s + 1) % 256) + y))) + Bool.toNat cc) % 256), sbV (m (m f + 256 * m ((f + 1) % 256) + y)) (m (m s + 256 * m ((s + 1) % 256) + y)) ((m (m f + 256 * m ((f + 1) % 256) + y)) + (255 - (m (m s + 256 * m ((s + 1) % 256) + y))) + Bool.toNat cc), decide (((m (m f + 256 * m ((f + 1) % 256) + y)) + (255 - (m (m s + 256 * m ((s + 1) % 256) + y))) + Bool.toNat cc) % 256 = 0), decide (256 ≤ ((m (m f + 256 * m ((f + 1) % 256) + y)) + (255 - (m (m s + 256 * m ((s + 1) % 256) + y))) + Bool.toNat cc)), (up m (m f + 256 * m ((f + 1) % 256) + y) (((m (m f + 256 * m ((f + 1) % 256) + y)) + (255 - (m (m s + 256 * m ((s + 1) % 256) + y))) + Bool.toNat cc) % 256))⟩) := by kernel_rfl
theorem b_M2 (y f fh s sh ct : Nat) (a x yy sp : Nat) (n v z cc : Bool) (m : Nat → Nat) (Q : Co → Prop) : gs (c03 y f fh s sh ct) 1024 4 ⟨a, x, yy, sp, 579, n, v, z, cc, m⟩ Q = ((m f + 256 * m ((f + 1) % 256) + (yy + 1) % 256 < 1024) ∧ (m s + 256 * m ((s + 1) % 256) + (yy + 1) % 256 < 1024) ∧ (m f + 256 * m ((f + 1) % 256) + (yy + 1) % 256 < 1024) ∧ (m f + 256 * m ((f + 1) % 256) + (yy + 1) % 256 < 512 ∨ 512 + 97 ≤ m f + 256 * m ((f + 1) % 256) + (yy + 1) % 256) ∧ Q ⟨((m (m f + 256 * m ((f + 1) % 256) + (yy + 1) % 256)) + (255 - (m (m s + 256 * m ((s + 1) % 256) + (yy + 1) % 256))) + Bool.toNat cc) % 256, x, (yy + 1) % 256, sp, 586, decide (128 ≤ ((m (m f + 256 * m ((f + 1) % 256) + (yy + 1) % 256)) + (255 - (m (m s + 256 * m ((s + 1) % 256) + (yy + 1) % 256))) + Bool.toNat cc) % 256), sbV (m (m f + 256 * m ((f + 1) % 256) + (yy + 1) % 256)) (m (m s + 256 * m ((s + 1) % 256) + (yy + 1) % 256)) ((m (m f + 256 * m ((f + 1) % 256) + (yy + 1) % 256)) + (255 - (m (m s + 256 * m ((s + 1) % 256) + (yy + 1) % 256))) + Bool.toNat cc), decide (((m (m f + 256 * m ((f + 1) % 256) + (yy + 1) % 256)) + (255 - (m (m s + 256 * m ((s + 1) % 256) + (yy + 1) % 256))) + Bool.toNat cc) % 256 = 0), decide (256 ≤ ((m (m f + 256 * m ((f + 1) % 256) + (yy + 1) % 256)) + (255 - (m (m s + 256 * m ((s + 1) % 256) + (yy + 1) % 256))) + Bool.toNat cc)), (up m (m f + 256 * m ((f + 1) % 256) + (yy + 1) % 256) (((m (m f + 256 * m ((f + 1) % 256) + (yy + 1) % 256)) + (255 - (m (m s + 256 * m ((s + 1) % 256) + (yy + 1) % 256))) + Bool.toNat cc) % 256))⟩) := by kernel_rfl
theorem b_M3 (y f fh s sh ct : Nat) (a x yy sp : Nat) (n v z cc : Bool) (m : Nat → Nat) (Q : Co → Prop) : gs (c03 y f fh s sh ct) 1024 4 ⟨a, x, yy, sp, 586, n, v, z, cc, m⟩ Q = ((m f + 256 * m ((f + 1) % 256) + (yy + 1) % 256 < 1024) ∧ (m s + 256 * m ((s + 1) % 256) + (yy + 1) % 256 < 1024) ∧ (m f + 256 * m ((f + 1) % 256) + (yy + 1) % 256 < 1024) ∧ (m f + 256 * m ((f + 1) % 256) + (yy + 1) % 256 < 512 ∨ 512 + 97 ≤ m f + 256 * m ((f + 1) % 256) + (yy + 1) % 256) ∧ Q ⟨((m (m f + 256 * m ((f + 1) % 256) + (yy + 1) % 256)) + (255 - (m (m s + 256 * m ((s + 1) % 256) + (yy + 1) % 256))) + Bool.toNat cc) % 256, x, (yy + 1) % 256, sp, 593, decide (128 ≤ ((m (m f + 256 * m ((f + 1) % 256) + (yy + 1) % 256)) + (255 - (m (m s + 256 * m ((s + 1) % 256) + (yy + 1) % 256))) + Bool.toNat cc) % 256), sbV (m (m f + 256 * m ((f + 1) % 256) + (yy + 1) % 256)) (m (m s + 256 * m ((s + 1) % 256) + (yy + 1) % 256)) ((m (m f + 256 * m ((f + 1) % 256) + (yy + 1) % 256)) + (255 - (m (m s + 256 * m ((s + 1) % 256) + (yy + 1) % 256))) + Bool.toNat cc), decide (((m (m f + 256 * m ((f + 1) % 256) + (yy + 1) % 256)) + (255 - (m (m s + 256 * m ((s + 1) % 256) + (yy + 1) % 256))) + Bool.toNat cc) % 256 = 0), decide (256 ≤ ((m (m f + 256 * m ((f + 1) % 256) + (yy + 1) % 256)) + (255 - (m (m s + 256 * m ((s + 1) % 256) + (yy + 1) % 256))) + Bool.toNat cc)), (up m (m f + 256 * m ((f + 1) % 256) + (yy + 1) % 256) (((m (m f + 256 * m ((f + 1) % 256) + (yy + 1) % 256)) + (255 - (m (m s + 256 * m ((s + 1) % 256) + (yy + 1) % 256))) + Bool.toNat cc) % 256))⟩) := by kernel_rfl
theorem b_M4 (y f fh s sh ct : Nat) (a x yy sp : Nat) (n v z cc : Bool) (m : Nat → Nat) (Q : Co → Prop) : gs (c03 y f fh s sh ct) 1024 4 ⟨a, x, yy, sp, 593, n, v, z, cc, m⟩ Q = ((m f + 256 * m ((f + 1) % 256) + (yy + 1) % 256 < 1024) ∧ (m s + 256 * m ((s + 1) % 256) + (yy + 1) % 256 < 1024) ∧ (m f + 256 * m ((f + 1) % 256) + (yy + 1) % 256 < 1024) ∧ (m f + 256 * m ((f + 1) % 256) + (yy + 1) % 256 < 512 ∨ 512 + 97 ≤ m f + 256 * m ((f + 1) % 256) + (yy + 1) % 256) ∧ Q ⟨((m (m f + 256 * m ((f + 1) % 256) + (yy + 1) % 256)) + (255 - (m (m s + 256 * m ((s + 1) % 256) + (yy + 1) % 256))) + Bool.toNat cc) % 256, x, (yy + 1) % 256, sp, 600, decide (128 ≤ ((m (m f + 256 * m ((f + 1) % 256) + (yy + 1) % 256)) + (255 - (m (m s + 256 * m ((s + 1) % 256) + (yy + 1) % 256))) + Bool.toNat cc) % 256), sbV (m (m f + 256 * m ((f + 1) % 256) + (yy + 1) % 256)) (m (m s + 256 * m ((s + 1) % 256) + (yy + 1) % 256)) ((m (m f + 256 * m ((f + 1) % 256) + (yy + 1) % 256)) + (255 - (m (m s + 256 * m ((s + 1) % 256) + (yy + 1) % 256))) + Bool.toNat cc), decide (((m (m f + 256 * m ((f + 1) % 256) + (yy + 1) % 256)) + (255 - (m (m s + 256 * m ((s + 1) % 256) + (yy + 1) % 256))) + Bool.toNat cc) % 256 = 0), decide (256 ≤ ((m (m f + 256 * m ((f + 1) % 256) + (yy + 1) % 256)) + (255 - (m (m s + 256 * m ((s + 1) % 256) + (yy + 1) % 256))) + Bool.toNat cc)), (up m (m f + 256 * m ((f + 1) % 256) + (yy + 1) % 256) (((m (m f + 256 * m ((f + 1) % 256) + (yy + 1) % 256)) + (255 - (m (m s + 256 * m ((s + 1) % 256) + (yy + 1) % 256))) + Bool.toNat cc) % 256))⟩) := by kernel_rfl
theorem b_J (y f fh s sh ct : Nat) (a x yy sp : Nat) (n v z cc : Bool) (m : Nat → Nat) (Q : Co → Prop) : gs (c03 y f fh s sh ct) 1024 1 ⟨a, x, yy, sp, 600, n, v, z, cc, m⟩ Q = (Q ⟨a, x, yy, ((sp + 255) % 256 + 255) % 256, 528, n, v, z, cc, (up (up m (256 + sp) 2) (256 + (sp + 255) % 256) 90)⟩) := by kernel_rfl
theorem b_E (y f fh s sh ct : Nat) (a x yy sp : Nat) (n v z cc : Bool) (m : Nat → Nat) (Q : Co → Prop) : gs (c03 y f fh s sh ct) 1024 2 ⟨a, x, yy, sp, 603, n, v, z, cc, m⟩ Q = (((up m ct ((m ct + 1) % 256)) (256 + (sp + 1) % 256) + 256 * (up m ct ((m ct + 1) % 256)) (256 + ((sp + 1) % 256 + 1) % 256) + 1 < 1024) ∧ Q ⟨a, x, yy, ((sp + 1) % 256 + 1) % 256, (up m ct ((m ct + 1) % 256)) (256 + (sp + 1) % 256) + 256 * (up m ct ((m ct + 1) % 256)) (256 + ((sp + 1) % 256 + 1) % 256) + 1, decide (128 ≤ (m ct + 1) % 256), v, decide ((m ct + 1) % 256 = 0), cc, (up m ct ((m ct + 1) % 256))⟩) := by kernel_rfl
theorem b_I (y f fh s sh ct : Nat) (a x yy sp : Nat) (n v z cc : Bool) (m : Nat → Nat) (Q : Co → Prop) : gs (c03 y f fh s sh ct) 1024 1 ⟨a, x, yy, sp, 606, n, v, z, cc, m⟩ Q = (Q ⟨a, x, yy, ((sp + 255) % 256 + 255) % 256, 512, n, v, z, cc, (up (up m (256 + sp) 2) (256 + (sp + 255) % 256) 96)⟩) := by kernel_rfl
end
end Mine
end
section
open PySem PySem.W PyProof.Rows
namespace Mine
noncomputable section
noncomputable def v4 (m : Nat → Nat) (p : Nat) : Nat := m p + 256 * m (p + 1) + 65536 * m (p + 2) + 16777216 * m (p + 3)
structure G3 (y f fh s sh ct : Nat) (pp : Bool → Nat) : Prop where
  hy : y ≤ 252
  hf : f < 256
  hfh : (f + 1) % 256 = fh
  hs : (f + 2) % 256 = s
  hsh : (f + 3) % 256 = sh
  hct : (f + 4) % 256 = ct
  hp0 : 768 ≤ pp false ∧ pp false + 4 ≤ 892
  hp1 : 896 ≤ pp true ∧ pp true + 4 ≤ 1020
structure Lay (y f fh s sh p q F S : Nat) (m : Nat → Nat) : Prop where
  pf : m f + 256 * m fh + y = p
  ps : m s + 256 * m sh + y = q
  vf : v4 m p = F
  vs : v4 m q = S
noncomputable def Fr (f fh s sh ct : Nat) (pp : Bool → Nat) (σ k : Nat) (m m' : Nat → Nat) : Prop := ∀ i, i ≠ f → i ≠ fh → i ≠ s → i ≠ sh → i ≠ ct → (i < pp false ∨ pp false + 4 ≤ i) → (i < pp true ∨ pp true + 4 ≤ i) → (i + 2 * k ≤ 256 + σ ∨ 256 + σ < i) → m' i = m i
noncomputable def rn : Nat → Nat → Nat → Bool → Option (Nat × Bool × Nat × Nat)
  | 0, _, _, _ => none
  | n + 1, a, b, h => if b ≤ a then (match rn n (a - b) b h with | some (c, h', d, t) => some (c + 1, h', d, t + 33) | none => none)
    else if a = 0 then some (0, !h, b, 33) else (match rn n b a (!h) with | some (c, h', d, t) => some (c, h', d, t + 32) | none => none)
theorem up_ne {m : Nat → Nat} {k v i : Nat} (h : i ≠ k) : up m k v i = m i := by unfold up; rw [if_neg h]
theorem up_eq {m : Nat → Nat} {k v i : Nat} (h : i = k) : up m k v i = v := by unfold up; rw [if_pos h]
theorem tn (p : Prop) [Decidable p] : (decide p).toNat = if p then 1 else 0 := by by_cases h : p <;> simp [h]
theorem digS (a b c : Nat) (h : a < 256) (g : b < 256) (hc : c ≤ 1) : (a + (255 - b) + c) % 256 + 256 * Bool.toNat (decide (256 ≤ a + (255 - b) + c)) + b = a + 255 + c ∧ (a + (255 - b) + c) % 256 < 256 ∧ Bool.toNat (decide (256 ≤ a + (255 - b) + c)) ≤ 1 := by
  rw [tn]
  split
  · exact ⟨by lia, by lia, by decide⟩
  · exact ⟨by lia, by lia, by decide⟩
theorem cmp4 {a0 a1 a2 a3 b0 b1 b2 b3 : Nat} (h0 : a0 < 256) (h1 : a1 < 256) (h2 : a2 < 256) (h3 : a3 < 256) (g0 : b0 < 256) (g1 : b1 < 256) (g2 : b2 < 256) (g3 : b3 < 256) :
    decide (256 ≤ (a3 + (255 - b3) + Bool.toNat (decide (256 ≤ (a2 + (255 - b2) + Bool.toNat (decide (256 ≤ (a1 + (255 - b1) + Bool.toNat (decide (256 ≤ (a0 + (255 - b0) + Bool.toNat true))))))))))) =
    decide (b0 + 256 * b1 + 65536 * b2 + 16777216 * b3 ≤ a0 + 256 * a1 + 65536 * a2 + 16777216 * a3) := by
  have d0 := digS a0 b0 1 h0 g0 (Nat.le_refl _)
  rw [Bool.toNat_true]
  generalize (a0 + (255 - b0) + 1) % 256 = r0 at *
  generalize Bool.toNat (decide (256 ≤ a0 + (255 - b0) + 1)) = c1 at *
  have d1 := digS a1 b1 c1 h1 g1 d0.2.2
  generalize (a1 + (255 - b1) + c1) % 256 = r1 at *
  generalize Bool.toNat (decide (256 ≤ a1 + (255 - b1) + c1)) = c2 at *
  have d2 := digS a2 b2 c2 h2 g2 d1.2.2
  generalize (a2 + (255 - b2) + c2) % 256 = r2 at *
  generalize Bool.toNat (decide (256 ≤ a2 + (255 - b2) + c2)) = c3 at *
  refine El_aa d0 fun e0 l0 hc2 => ?_; obtain - := hc2; try clear d0
  refine El_aa d1 fun e1 l1 hc2 => ?_; obtain - := hc2; try clear d1
  refine El_aa d2 fun e2 l2 k3 => ?_; try clear d2
  clear h0 h1 h2 g0 g1 g2
  refine decide_eq_decide.mpr ⟨fun q => ?_, fun q => ?_⟩ <;> lia
theorem or4 {a b c d : Nat} : (((a ||| b) ||| c) ||| d = 0) ↔ a + 256 * b + 65536 * c + 16777216 * d = 0 := by
  rw [Nat.or_eq_zero_iff, Nat.or_eq_zero_iff, Nat.or_eq_zero_iff]; lia
section
variable {y f fh s sh ct : Nat} {pp : Bool → Nat}
noncomputable abbrev W3 (y f fh s sh ct : Nat) := Wi (c03 y f fh s sh ct) 1024
theorem pq (G : G3 y f fh s sh ct pp) (h : Bool) : 768 ≤ pp h ∧ pp h + 4 ≤ 1020 ∧ (pp h + 4 ≤ pp !h ∨ pp (!h) + 4 ≤ pp h) := by
  have := G.hp0; have := G.hp1
  cases h <;> simp <;> lia
theorem tT (G : G3 y f fh s sh ct pp) {p q F S : Nat} {a x yy sp : Nat} {n v z cc : Bool} {m : Nat → Nat} {Q : Co → Prop} (A : Lay y f fh s sh p q F S m) (hq : q + 4 ≤ 1020)
    (k : ∀ a n v z, Q ⟨a, x, y + 3, sp, if S = 0 then 527 else 528, n, v, z, cc, m⟩) : W3 y f fh s sh ct 9 ⟨a, x, yy, sp, 512, n, v, z, cc, m⟩ Q := by
  have hy := G.hy; have g1 := G.hs; have g2 := G.hsh; have hps := A.ps; have hvs := A.vs
  refine gs_ok ?_
  rw [b_T]
  have e1 : (y + 1) % 256 = y + 1 := by lia
  have e2 : (y + 1 + 1) % 256 = y + 2 := by lia
  have e3 : (y + 2 + 1) % 256 = y + 3 := by lia
  have e4 : (s + 1) % 256 = sh := by lia
  have c1 : m s + 256 * m sh + (y + 1) = q + 1 := by lia
  have c2 : m s + 256 * m sh + (y + 2) = q + 2 := by lia
  have c3 : m s + 256 * m sh + (y + 3) = q + 3 := by lia
  simp only [e1, e2, e3, e4, hps, c1, c2, c3]
  refine ⟨by lia, by lia, by lia, by lia, ?_⟩
  have hz : decide (((m q ||| m (q + 1)) ||| m (q + 2)) ||| m (q + 3) = 0) = decide (S = 0) := by
    refine decide_eq_decide.mpr (or4.trans ?_)
    unfold v4 at hvs; lia
  by_cases h0 : S = 0
  · rw [hz, decide_eq_true h0]
    have := k (((m q ||| m (q + 1)) ||| m (q + 2)) ||| m (q + 3)) (decide (128 ≤ ((m q ||| m (q + 1)) ||| m (q + 2)) ||| m (q + 3))) v true
    rw [if_pos h0] at this
    exact this
  · rw [hz, decide_eq_false h0]
    have := k (((m q ||| m (q + 1)) ||| m (q + 2)) ||| m (q + 3)) (decide (128 ≤ ((m q ||| m (q + 1)) ||| m (q + 2)) ||| m (q + 3))) v false
    rw [if_neg h0] at this
    exact this
theorem tK (G : G3 y f fh s sh ct pp) {p q F S : Nat} {a x yy sp : Nat} {n v z cc : Bool} {m : Nat → Nat} {Q : Co → Prop} (A : Lay y f fh s sh p q F S m) (hp : p + 4 ≤ 1020) (hq : q + 4 ≤ 1020) (hm : ∀ i, m i < 256)
    (k : ∀ a n v z, Q ⟨a, x, y + 3, sp, if S ≤ F then 571 else 552, n, v, z, decide (S ≤ F), m⟩) : W3 y f fh s sh ct 14 ⟨a, x, yy, sp, 528, n, v, z, cc, m⟩ Q := by
  have hy := G.hy; have g0 := G.hfh; have g1 := G.hs; have g2 := G.hsh; have hps := A.ps; have hpf := A.pf; have hvs := A.vs; have hvf := A.vf
  refine gs_ok ?_
  rw [b_K]
  have e1 : (y + 1) % 256 = y + 1 := by lia
  have e2 : (y + 1 + 1) % 256 = y + 2 := by lia
  have e3 : (y + 2 + 1) % 256 = y + 3 := by lia
  have e4 : (s + 1) % 256 = sh := by lia
  have c1 : m s + 256 * m sh + (y + 1) = q + 1 := by lia
  have c2 : m s + 256 * m sh + (y + 2) = q + 2 := by lia
  have c3 : m s + 256 * m sh + (y + 3) = q + 3 := by lia
  have d1 : m f + 256 * m fh + (y + 1) = p + 1 := by lia
  have d2 : m f + 256 * m fh + (y + 2) = p + 2 := by lia
  have d3 : m f + 256 * m fh + (y + 3) = p + 3 := by lia
  simp only [e1, e2, e3, e4, g0, hps, hpf, c1, c2, c3, d1, d2, d3]
  rw [cmp4 (hm _) (hm _) (hm _) (hm _) (hm _) (hm _) (hm _) (hm _)]
  have hc : decide (m q + 256 * m (q + 1) + 65536 * m (q + 2) + 16777216 * m (q + 3) ≤ m p + 256 * m (p + 1) + 65536 * m (p + 2) + 16777216 * m (p + 3)) = decide (S ≤ F) := by
    unfold v4 at hvs hvf; rw [hvs, hvf]
  rw [hc]
  refine ⟨by lia, by lia, by lia, by lia, by lia, by lia, by lia, by lia, ?_⟩
  by_cases h0 : S ≤ F
  · rw [if_pos h0, decide_eq_true h0] at k
    rw [decide_eq_true h0]; exact k _ _ _ _
  · rw [if_neg h0, decide_eq_false h0] at k
    rw [decide_eq_false h0]; exact k _ _ _ _
theorem tS (G : G3 y f fh s sh ct pp) {p q F S : Nat} {a x yy sp : Nat} {n v z cc : Bool} {m : Nat → Nat} {Q : Co → Prop} (A : Lay y f fh s sh p q F S m) (hp : 768 ≤ p) (hq : 768 ≤ q)
    (k : ∀ a x n z m', Lay y f fh s sh q p S F m' → (∀ i, i ≠ f → i ≠ fh → i ≠ s → i ≠ sh → m' i = m i) → Q ⟨a, x, yy, sp, 512, n, v, z, cc, m'⟩) : W3 y f fh s sh ct 9 ⟨a, x, yy, sp, 552, n, v, z, cc, m⟩ Q := by
  have hy := G.hy; have g := G.hf; have g0 := G.hfh; have g1 := G.hs; have g2 := G.hsh; have hps := A.ps; have hpf := A.pf; have hvs := A.vs; have hvf := A.vf
  refine gs_ok ?_
  rw [b_S]
  refine k _ _ _ _ _ ⟨?_, ?_, ?_, ?_⟩ fun i h1 h2 h3 h4 => ?_
  · rw [up_ne (show f ≠ fh by lia), up_ne (show f ≠ sh by lia), up_eq rfl, up_eq rfl, up_ne (show sh ≠ f by lia), up_ne (show sh ≠ s by lia)]; exact hps
  · rw [up_ne (show s ≠ fh by lia), up_ne (show s ≠ sh by lia), up_ne (show s ≠ f by lia), up_eq rfl, up_ne (show sh ≠ fh by lia), up_eq rfl, up_ne (show fh ≠ f by lia), up_ne (show fh ≠ s by lia)]; exact hpf
  · rw [← hvs]; unfold v4
    simp only [up]
    repeat rw [if_neg (by lia)]
  · rw [← hvf]; unfold v4
    simp only [up]
    repeat rw [if_neg (by lia)]
  · rw [up_ne h2, up_ne h4, up_ne h1, up_ne h3]
end
end
end Mine

end
section
open PySem PySem.W PyProof.Rows
namespace Mine
noncomputable section
theorem sub4 {a0 a1 a2 a3 b0 b1 b2 b3 : Nat} (h0 : a0 < 256) (h1 : a1 < 256) (h2 : a2 < 256) (h3 : a3 < 256) (g0 : b0 < 256) (g1 : b1 < 256) (g2 : b2 < 256) (g3 : b3 < 256)
    (h : b0 + 256 * b1 + 65536 * b2 + 16777216 * b3 ≤ a0 + 256 * a1 + 65536 * a2 + 16777216 * a3) :
    (a0 + (255 - b0) + Bool.toNat true) % 256 + 256 * ((a1 + (255 - b1) + Bool.toNat (decide (256 ≤ a0 + (255 - b0) + Bool.toNat true))) % 256) + 65536 * ((a2 + (255 - b2) + Bool.toNat (decide (256 ≤ a1 + (255 - b1) + Bool.toNat (decide (256 ≤ a0 + (255 - b0) + Bool.toNat true))))) % 256) +
      16777216 * ((a3 + (255 - b3) + Bool.toNat (decide (256 ≤ a2 + (255 - b2) + Bool.toNat (decide (256 ≤ a1 + (255 - b1) + Bool.toNat (decide (256 ≤ a0 + (255 - b0) + Bool.toNat true))))))) % 256) =
    (a0 + 256 * a1 + 65536 * a2 + 16777216 * a3) - (b0 + 256 * b1 + 65536 * b2 + 16777216 * b3) := by
  have d0 := digS a0 b0 1 h0 g0
  rw [Bool.toNat_true]
  generalize (a0 + (255 - b0) + 1) % 256 = r0 at *
  generalize Bool.toNat (decide (256 ≤ a0 + (255 - b0) + 1)) = c1 at *
  have d1 := digS a1 b1 c1 h1 g1
  generalize (a1 + (255 - b1) + c1) % 256 = r1 at *
  generalize Bool.toNat (decide (256 ≤ a1 + (255 - b1) + c1)) = c2 at *
  have d2 := digS a2 b2 c2 h2 g2
  generalize (a2 + (255 - b2) + c2) % 256 = r2 at *
  generalize Bool.toNat (decide (256 ≤ a2 + (255 - b2) + c2)) = c3 at *
  have d3 := digS a3 b3 c3 h3 g3
  generalize (a3 + (255 - b3) + c3) % 256 = r3 at *
  generalize Bool.toNat (decide (256 ≤ a3 + (255 - b3) + c3)) = c4 at *
  refine El_aa (d0 (Nat.le_refl _)) fun e0 l0 k1 => ?_
  refine El_aa (d1 k1) fun e1 l1 k2 => ?_
  refine El_aa (d2 k2) fun e2 l2 k3 => ?_
  refine El_aa (d3 k3) fun e3 l3 k4 => ?_
  clear h0 h1 h2 h3 g0 g1 g2 g3 k1 k2 k3 d0 d1 d2 d3
  have : c4 = 0 ∨ c4 = 1 := by lia
  rcases this with rfl | rfl
  · lia
  · (clear h; lia)
section
variable {y f fh s sh ct : Nat} {pp : Bool → Nat}
theorem tM1 (G : G3 y f fh s sh ct pp) {p q : Nat} {a x yy sp : Nat} {n v z cc : Bool} {m : Nat → Nat} {Q : Co → Prop} (hpf : m f + 256 * m fh + y = p) (hps : m s + 256 * m sh + y = q) (hp : 768 ≤ p ∧ p + 4 ≤ 1020) (hq : q + 4 ≤ 1020)
    (k : ∀ a n v z, Q ⟨a, x, y, sp, 579, n, v, z, decide (256 ≤ m p + (255 - m q) + Bool.toNat cc), up m p ((m p + (255 - m q) + Bool.toNat cc) % 256)⟩) : W3 y f fh s sh ct 4 ⟨a, x, yy, sp, 571, n, v, z, cc, m⟩ Q := by
  have hy := G.hy; have g0 := G.hfh; have g1 := G.hs; have g2 := G.hsh
  refine gs_ok ?_
  rw [b_M1]
  have e4 : (s + 1) % 256 = sh := by lia
  simp only [e4, g0, hps, hpf]
  exact ⟨by omega, by omega, by omega, by omega, k _ _ _ _⟩
theorem tM2 (G : G3 y f fh s sh ct pp) {p q : Nat} {a x sp : Nat} {n v z cc : Bool} {m : Nat → Nat} {Q : Co → Prop} (hpf : m f + 256 * m fh + y = p) (hps : m s + 256 * m sh + y = q) (hp : 768 ≤ p ∧ p + 4 ≤ 1020) (hq : q + 4 ≤ 1020)
    (k : ∀ a n v z, Q ⟨a, x, y + 1, sp, 586, n, v, z, decide (256 ≤ m (p + 1) + (255 - m (q + 1)) + Bool.toNat cc), up m (p + 1) ((m (p + 1) + (255 - m (q + 1)) + Bool.toNat cc) % 256)⟩) : W3 y f fh s sh ct 4 ⟨a, x, y + 0, sp, 579, n, v, z, cc, m⟩ Q := by
  have hy := G.hy; have g0 := G.hfh; have g1 := G.hs; have g2 := G.hsh
  refine gs_ok ?_
  rw [b_M2]
  have e4 : (s + 1) % 256 = sh := by lia
  have e1 : (y + 0 + 1) % 256 = y + 1 := by lia
  have c1 : m s + 256 * m sh + (y + 1) = q + 1 := by lia
  have d1 : m f + 256 * m fh + (y + 1) = p + 1 := by lia
  simp only [e4, g0, e1, c1, d1]
  exact ⟨by (clear hpf; lia), by (clear hps; lia), by (clear hpf; lia), by (clear hpf; lia), k _ _ _ _⟩
theorem tM3 (G : G3 y f fh s sh ct pp) {p q : Nat} {a x sp : Nat} {n v z cc : Bool} {m : Nat → Nat} {Q : Co → Prop} (hpf : m f + 256 * m fh + y = p) (hps : m s + 256 * m sh + y = q) (hp : 768 ≤ p ∧ p + 4 ≤ 1020) (hq : q + 4 ≤ 1020)
    (k : ∀ a n v z, Q ⟨a, x, y + 2, sp, 593, n, v, z, decide (256 ≤ m (p + 2) + (255 - m (q + 2)) + Bool.toNat cc), up m (p + 2) ((m (p + 2) + (255 - m (q + 2)) + Bool.toNat cc) % 256)⟩) : W3 y f fh s sh ct 4 ⟨a, x, y + 1, sp, 586, n, v, z, cc, m⟩ Q := by
  have hy := G.hy; have g0 := G.hfh; have g1 := G.hs; have g2 := G.hsh
  refine gs_ok ?_
  rw [b_M3]
  have e4 : (s + 1) % 256 = sh := by lia
  have e1 : (y + 1 + 1) % 256 = y + 2 := by lia
  have c1 : m s + 256 * m sh + (y + 2) = q + 2 := by lia
  have d1 : m f + 256 * m fh + (y + 2) = p + 2 := by lia
  simp only [e4, g0, e1, c1, d1]
  exact ⟨by (clear hpf; lia), by (clear hps; lia), by (clear hpf; lia), by (clear hpf; lia), k _ _ _ _⟩
theorem tM4 (G : G3 y f fh s sh ct pp) {p q : Nat} {a x sp : Nat} {n v z cc : Bool} {m : Nat → Nat} {Q : Co → Prop} (hpf : m f + 256 * m fh + y = p) (hps : m s + 256 * m sh + y = q) (hp : 768 ≤ p ∧ p + 4 ≤ 1020) (hq : q + 4 ≤ 1020)
    (k : ∀ a n v z, Q ⟨a, x, y + 3, sp, 600, n, v, z, decide (256 ≤ m (p + 3) + (255 - m (q + 3)) + Bool.toNat cc), up m (p + 3) ((m (p + 3) + (255 - m (q + 3)) + Bool.toNat cc) % 256)⟩) : W3 y f fh s sh ct 4 ⟨a, x, y + 2, sp, 593, n, v, z, cc, m⟩ Q := by
  have hy := G.hy; have g0 := G.hfh; have g1 := G.hs; have g2 := G.hsh
  refine gs_ok ?_
  rw [b_M4]
  have e4 : (s + 1) % 256 = sh := by lia
  have e1 : (y + 2 + 1) % 256 = y + 3 := by lia
  have c1 : m s + 256 * m sh + (y + 3) = q + 3 := by lia
  have d1 : m f + 256 * m fh + (y + 3) = p + 3 := by lia
  simp only [e4, g0, e1, c1, d1]
  exact ⟨by (clear hpf; lia), by (clear hps; lia), by (clear hpf; lia), by (clear hpf; lia), k _ _ _ _⟩
theorem tM (G : G3 y f fh s sh ct pp) {p q F S : Nat} {a x yy sp : Nat} {n v z : Bool} {m : Nat → Nat} {Q : Co → Prop} (A : Lay y f fh s sh p q F S m) (hp : 768 ≤ p ∧ p + 4 ≤ 1020) (hq : 768 ≤ q ∧ q + 4 ≤ 1020) (hd : p + 4 ≤ q ∨ q + 4 ≤ p) (hm : ∀ i, m i < 256) (hle : S ≤ F)
    (k : ∀ a n v z c m', Lay y f fh s sh p q (F - S) S m' → (∀ i, i < p ∨ p + 4 ≤ i → m' i = m i) → Q ⟨a, x, y + 3, sp, 600, n, v, z, c, m'⟩) : W3 y f fh s sh ct 16 ⟨a, x, yy, sp, 571, n, v, z, true, m⟩ Q := by
  have hy := G.hy; have g := G.hf; have g0 := G.hfh; have g1 := G.hs; have g2 := G.hsh; have hps := A.ps; have hpf := A.pf; have hvs := A.vs; have hvf := A.vf
  have U : ∀ (m : Nat → Nat) (j v : Nat), m f + 256 * m fh + y = p → m s + 256 * m sh + y = q → j < 4 → up m (p + j) v f + 256 * up m (p + j) v fh + y = p ∧ up m (p + j) v s + 256 * up m (p + j) v sh + y = q := fun m j v h1 h2 hj => by
    rw [up_ne (show f ≠ p + j by lia), up_ne (show fh ≠ p + j by (clear g; lia)), up_ne (show s ≠ p + j by (clear g; lia)), up_ne (show sh ≠ p + j by (clear g; lia))]; exact ⟨h1, h2⟩
  refine (tM1 G hpf hps hp hq.2 fun a n v z => ?_ : W3 y f fh s sh ct 4 _ fun c => W3 y f fh s sh ct 12 c Q).bind (m := 12) fun c' _ h => h
  obtain ⟨u1, u2⟩ := U m 0 ((m p + (255 - m q) + Bool.toNat true) % 256) hpf hps (by decide)
  simp only [Nat.add_zero] at u1 u2
  refine (tM2 G u1 u2 hp hq.2 fun a n v z => ?_ : W3 y f fh s sh ct 4 _ fun c => W3 y f fh s sh ct 8 c Q).bind (m := 8) fun c' _ h => h
  obtain ⟨w1, w2⟩ := U _ 1 ((up m p ((m p + (255 - m q) + Bool.toNat true) % 256) (p + 1) + (255 - up m p ((m p + (255 - m q) + Bool.toNat true) % 256) (q + 1)) + Bool.toNat (decide (256 ≤ m p + (255 - m q) + Bool.toNat true))) % 256) u1 u2 (by decide)
  refine (tM3 G w1 w2 hp hq.2 fun a n v z => ?_ : W3 y f fh s sh ct 4 _ fun c => W3 y f fh s sh ct 4 c Q).bind (m := 4) fun c' _ h => h
  obtain ⟨x1, x2⟩ := U _ 2 _ w1 w2 (by decide)
  refine tM4 G x1 x2 hp hq.2 fun a n v z => ?_
  have r1 : up m p ((m p + (255 - m q) + Bool.toNat true) % 256) (p + 1) = m (p + 1) := up_ne (by lia)
  have r2 : up m p ((m p + (255 - m q) + Bool.toNat true) % 256) (q + 1) = m (q + 1) := up_ne (by lia)
  simp only [r1, r2]
  generalize hs1 : m p + (255 - m q) + Bool.toNat true = s1
  have r3 : ∀ s1 s2, up (up m p s1) (p + 1) s2 (p + 2) = m (p + 2) := fun s1 s2 => by rw [up_ne (by lia), up_ne (by lia)]
  have r4 : ∀ s1 s2, up (up m p s1) (p + 1) s2 (q + 2) = m (q + 2) := fun s1 s2 => by rw [up_ne (by lia), up_ne (by lia)]
  have r5 : ∀ s1 s2 s3, up (up (up m p s1) (p + 1) s2) (p + 2) s3 (p + 3) = m (p + 3) := fun s1 s2 s3 => by rw [up_ne (by lia), up_ne (by lia), up_ne (by lia)]
  have r6 : ∀ s1 s2 s3, up (up (up m p s1) (p + 1) s2) (p + 2) s3 (q + 3) = m (q + 3) := fun s1 s2 s3 => by rw [up_ne (by lia), up_ne (by lia), up_ne (by lia)]
  simp only [r3, r4, r5, r6]
  refine k _ _ _ _ _ _ ⟨?_, ?_, ?_, ?_⟩ fun i hi => ?_
  · rw [up_ne (show f ≠ p + 3 by lia), up_ne (show f ≠ p + 2 by lia), up_ne (show f ≠ p + 1 by lia), up_ne (show f ≠ p by lia), up_ne (show fh ≠ p + 3 by lia), up_ne (show fh ≠ p + 2 by lia), up_ne (show fh ≠ p + 1 by lia), up_ne (show fh ≠ p by lia)]; exact hpf
  · rw [up_ne (show s ≠ p + 3 by lia), up_ne (show s ≠ p + 2 by lia), up_ne (show s ≠ p + 1 by lia), up_ne (show s ≠ p by lia), up_ne (show sh ≠ p + 3 by lia), up_ne (show sh ≠ p + 2 by lia), up_ne (show sh ≠ p + 1 by lia), up_ne (show sh ≠ p by lia)]; exact hps
  · unfold v4
    rw [up_eq rfl, up_ne (show p ≠ p + 3 by lia), up_ne (show p ≠ p + 2 by lia), up_ne (show p ≠ p + 1 by lia), up_eq rfl, up_ne (show p + 1 ≠ p + 3 by lia), up_ne (show p + 1 ≠ p + 2 by lia), up_eq rfl, up_ne (show p + 2 ≠ p + 3 by lia), up_eq rfl]
    subst hs1
    rw [sub4 (hm _) (hm _) (hm _) (hm _) (hm _) (hm _) (hm _) (hm _) (by unfold v4 at hvs hvf; lia)]
    unfold v4 at hvs hvf; lia
  · rw [← hvs]; unfold v4
    simp only [up]
    repeat rw [if_neg (by lia)]
  · rw [up_ne (by lia), up_ne (by lia), up_ne (by lia), up_ne (by lia)]
end
end
end Mine
end
section
open PySem PySem.W PyProof.Rows
namespace Mine
noncomputable section
structure Post (y f fh s sh ct : Nat) (pp : Bool → Nat) (g cnt : Nat) (h' : Bool) (d r σ : Nat) (m : Nat → Nat) (c : Co) : Prop where
  hpc : c.pc = r + 1
  hsp : c.sp = σ + 2
  hy : c.y = y + 3
  lay : Lay y f fh s sh (pp h') (pp !h') (g * d) 0 c.m
  hct : c.m ct = m ct + cnt
  hst : ∀ j < cnt, c.m (256 + σ - 2 * j) = 2 ∧ c.m (255 + σ - 2 * j) = 90
  hfr : Fr f fh s sh ct pp σ cnt m c.m
section
variable {y f fh s sh ct : Nat} {pp : Bool → Nat}
theorem tR {a x yy sp r : Nat} {n v z cc : Bool} {m : Nat → Nat} {Q : Co → Prop} (hs : sp ≤ 253) (hr : m (256 + (sp + 1)) + 256 * m (256 + (sp + 2)) = r) (hr' : r + 1 < 1024) (k : Q ⟨a, x, yy, sp + 2, r + 1, n, v, z, cc, m⟩) :
    W3 y f fh s sh ct 1 ⟨a, x, yy, sp, 527, n, v, z, cc, m⟩ Q := by
  refine gs_ok ?_
  rw [b_R]
  have e1 : (sp + 1) % 256 = sp + 1 := by lia
  have e2 : (sp + 1 + 1) % 256 = sp + 2 := by lia
  simp only [e1, e2, hr]
  exact ⟨hr', k⟩
theorem bd (G : G3 y f fh s sh ct pp) : f < 256 ∧ fh < 256 ∧ s < 256 ∧ sh < 256 ∧ ct < 256 := by
  have hct := G.hct; have hf := G.hf; have hfh := G.hfh; have hs := G.hs; have hsh := G.hsh
  refine ⟨hf, ?_, ?_, ?_, ?_⟩ <;> lia
theorem nct (G : G3 y f fh s sh ct pp) : (f ≠ ct ∧ fh ≠ ct) ∧ s ≠ ct ∧ sh ≠ ct := by
  have hct := G.hct; have hf := G.hf; have hfh := G.hfh; have hs := G.hs; have hsh := G.hsh
  refine ⟨⟨?_, ?_⟩, ?_, ?_⟩ <;> lia
theorem Fr.stk (G : G3 y f fh s sh ct pp) {σ k : Nat} {m m' : Nat → Nat} (F : Fr f fh s sh ct pp σ k m m') {i : Nat} (h : 256 + σ < i) (g : i < 512) : m' i = m i := by
  obtain ⟨b1, b2, b3, b4, b5⟩ := bd G
  have G0 := G.hp0; have G1 := G.hp1
  exact F i (by lia) (by lia) (by lia) (by lia) (by lia) (by lia) (by lia) (.inr h)
theorem Lay.push (G : G3 y f fh s sh ct pp) {p q F S : Nat} {m : Nat → Nat} (A : Lay y f fh s sh p q F S m) (hp : 768 ≤ p) (hq : 768 ≤ q) {i v : Nat} (h : 256 ≤ i) (g : i < 768) : Lay y f fh s sh p q F S (up m i v) := by
  obtain ⟨b1, b2, b3, b4, b5⟩ := bd G
  refine ⟨?_, ?_, ?_, ?_⟩
  · rw [up_ne (Nat.ne_of_lt (Nat.lt_of_lt_of_le b1 h)), up_ne (Nat.ne_of_lt (Nat.lt_of_lt_of_le b2 h))]; exact A.pf
  · rw [up_ne (Nat.ne_of_lt (Nat.lt_of_lt_of_le b3 h)), up_ne (Nat.ne_of_lt (Nat.lt_of_lt_of_le b4 h))]; exact A.ps
  · unfold v4; rw [up_ne (by lia), up_ne (by lia), up_ne (by lia), up_ne (by lia)]; exact A.vf
  · unfold v4; rw [up_ne (by lia), up_ne (by lia), up_ne (by lia), up_ne (by lia)]; exact A.vs
theorem Lay.cnt (G : G3 y f fh s sh ct pp) {p q F S : Nat} {m : Nat → Nat} (A : Lay y f fh s sh p q F S m) (hp : 768 ≤ p) (hq : 768 ≤ q) {v : Nat} : Lay y f fh s sh p q F S (up m ct v) := by
  obtain ⟨b1, b2, b3, b4, b5⟩ := bd G
  obtain ⟨⟨n1, n2⟩, n3, n4⟩ := nct G
  refine ⟨?_, ?_, ?_, ?_⟩
  · rw [up_ne n1, up_ne n2]; exact A.pf
  · rw [up_ne n3, up_ne n4]; exact A.ps
  · unfold v4; rw [up_ne (by lia), up_ne (by lia), up_ne (by lia), up_ne (by lia)]; exact A.vf
  · unfold v4; rw [up_ne (by lia), up_ne (by lia), up_ne (by lia), up_ne (by lia)]; exact A.vs
theorem rec3 (G : G3 y f fh s sh ct pp) (g : Nat) (hg : 0 < g) : ∀ (n a b : Nat) (h : Bool) (cnt : Nat) (h' : Bool) (d t : Nat), rn n a b h = some (cnt, h', d, t) → 0 < b → ∀ (c : Co) (r : Nat), c.pc = 528 → Lay y f fh s sh (pp h) (pp !h) (g * a) (g * b) c.m → 2 * cnt + 2 ≤ c.sp → c.sp ≤ 253 →
    c.m (256 + (c.sp + 1)) + 256 * c.m (256 + (c.sp + 2)) = r → r + 1 < 1024 → c.m ct + cnt < 256 → W3 y f fh s sh ct t c (Post y f fh s sh ct pp g cnt h' d r c.sp c.m)
  | 0, a, b, h, cnt, h', d, t, e, hb => by cases e
  | n + 1, a, b, h, cnt, h', d, t, e, hb => fun c r hpc A h1 h2 h3 h4 h5 => by
    obtain ⟨ca, cx, cy, csp, cpc, cn, cv, cz, cc, m⟩ := c
    dsimp only at hpc A h1 h2 h3 h4 h5 ⊢
    subst hpc
    have P := pq G h
    obtain ⟨hf, hfh, hs, hsh, hct⟩ := bd G
    refine Wi.wf fun W => ?_
    have hm : ∀ i, m i < 256 := W.m
    clear W
    have P' := pq G !h
    unfold rn at e
    by_cases hab : b ≤ a
    · rw [if_pos hab] at e
      split at e
      · rename_i c0 h0 d0 t0 e0
        simp only [Option.some.injEq, Prod.mk.injEq] at e
        obtain ⟨rfl, rfl, rfl, rfl⟩ := e
        have hle : g * b ≤ g * a := Nat.mul_le_mul_left g hab
        obtain ⟨k, rfl⟩ : ∃ k, csp = k + 2 := ⟨csp - 2, by lia⟩
        refine Wi.le (n := 14 + (16 + (1 + (t0 + 2)))) ?_ (by lia)
        refine (tK G A P.2.1 P'.2.1 hm fun a1 n1 v1 z1 => ?_ : W3 y f fh s sh ct 14 _ fun c => W3 y f fh s sh ct (16 + (1 + (t0 + 2))) c _).bind fun c' _ h => h
        rw [if_pos hle, decide_eq_true hle]
        refine (tM G A ⟨P.1, P.2.1⟩ ⟨P'.1, P'.2.1⟩ P.2.2 hm hle fun a2 n2 v2 z2 c2 m2 A2 F2 => ?_ : W3 y f fh s sh ct 16 _ fun c => W3 y f fh s sh ct (1 + (t0 + 2)) c _).bind fun c' _ h => h
        have p0 := P.1
        have p1 := P'.1
        have F2' : ∀ i, i < 768 → m2 i = m i := fun i hi => F2 i (.inl (Nat.lt_of_lt_of_le hi p0))
        rw [← Nat.mul_sub] at A2
        clear P P' hm A hle
        have A3 := (A2.push G p0 p1 (i := 256 + (k + 2)) (v := 2) (Nat.le_add_right _ _) (by clear A2; lia)).push G p0 p1 (i := 256 + (k + 1)) (v := 90) (Nat.le_add_right _ _) (by clear A2; lia)
        clear A2
        have hct2 : up (up m2 (256 + (k + 2)) 2) (256 + (k + 1)) 90 ct = m ct := by
          rw [up_ne (Nat.ne_of_lt (Nat.lt_of_lt_of_le hct (Nat.le_add_right _ _))), up_ne (Nat.ne_of_lt (Nat.lt_of_lt_of_le hct (Nat.le_add_right _ _)))]; exact F2' ct (Nat.lt_trans hct (by decide))
        have jj : gs (c03 y f fh s sh ct) 1024 1 ⟨a2, cx, y + 3, k + 2, 600, n2, v2, z2, c2, m2⟩ fun c => W3 y f fh s sh ct (t0 + 2) c (Post y f fh s sh ct pp g (c0 + 1) h0 d0 r (k + 2) m) := by
          rw [b_J]
          have e1 : (k + 2 + 255) % 256 = k + 1 := by clear A3; lia
          have e2 : (k + 1 + 255) % 256 = k := by clear A3; lia
          simp only [e1, e2]
          clear e1 e2
          refine (rec3 G g hg n (a - b) b h c0 h0 d0 t0 e0 hb ⟨a2, cx, y + 3, k, 528, n2, v2, z2, c2, up (up m2 (256 + (k + 2)) 2) (256 + (k + 1)) 90⟩ 602 rfl A3 (by dsimp only; clear A3; lia) (by dsimp only; clear A3; lia) ?_ (by decide) (by dsimp only; rw [hct2]; clear A3; lia)).bind fun c' W' q => ?_
          · dsimp only
            rw [up_eq rfl, up_ne (show 256 + (k + 2) ≠ 256 + (k + 1) from Nat.ne_of_gt (Nat.lt_succ_self _)), up_eq rfl]
          · obtain ⟨k1, k2, k3, k4, k5, k6, k7⟩ := q
            obtain ⟨da, dx, dy, dsp, dpc, dn, dv, dz, dc, dm⟩ := c'
            dsimp only at k1 k2 k3 k4 k5 k6 k7
            subst k1 k2 k3
            refine gs_ok ?_
            rw [b_E]
            clear A3 W' e0
            rw [hct2] at k5
            have s1 : ∀ i, 256 + (k + 2) < i → i < 512 → dm i = m i := fun i q1 q2 => by
              rw [k7.stk G (Nat.lt_trans (Nat.lt_trans (Nat.lt_succ_self _) (Nat.lt_succ_self _)) q1) q2, up_ne (show i ≠ 256 + (k + 1) from Nat.ne_of_gt (Nat.lt_trans (Nat.lt_succ_self _) q1)), up_ne (show i ≠ 256 + (k + 2) from Nat.ne_of_gt q1)]
              exact F2' i (Nat.lt_trans q2 (by decide))
            have e3 : (k + 2 + 1) % 256 = k + 3 := by lia
            have e4 : (k + 3 + 1) % 256 = k + 4 := by lia
            have e5 : (dm ct + 1) % 256 = m ct + (c0 + 1) := by rw [k5]; lia
            have u3 : dm (256 + (k + 3)) = m (256 + (k + 2 + 1)) := s1 _ (Nat.lt_succ_self _) (by lia)
            have u4 : dm (256 + (k + 4)) = m (256 + (k + 2 + 2)) := s1 _ (Nat.lt_trans (Nat.lt_succ_self _) (Nat.lt_succ_self _)) (by lia)
            simp only [e3, e4, e5]
            rw [up_ne (show 256 + (k + 3) ≠ ct from Nat.ne_of_gt (Nat.lt_of_lt_of_le hct (Nat.le_add_right _ _))), up_ne (show 256 + (k + 4) ≠ ct from Nat.ne_of_gt (Nat.lt_of_lt_of_le hct (Nat.le_add_right _ _))), u3, u4, h3]
            clear e3 e4 e5 u3 u4
            refine ⟨h4, rfl, rfl, rfl, k4.cnt G (pq G h0).1 (pq G !h0).1, up_eq rfl, fun j hj => ?_, fun i i1 i2 i3 i4 i5 i6 i7 i8 => ?_⟩
            · dsimp only
              rw [up_ne (by lia), up_ne (by lia)]
              cases j with
              | zero =>
                show dm (256 + (k + 2)) = 2 ∧ dm (255 + (k + 2)) = 90
                rw [k7.stk G (show 256 + k < 256 + (k + 2) from Nat.lt_trans (Nat.lt_succ_self _) (Nat.lt_succ_self _)) (by lia), k7.stk G (show 256 + k < 255 + (k + 2) by lia) (by lia)]
                rw [up_ne (show 256 + (k + 2) ≠ 256 + (k + 1) from Nat.ne_of_gt (Nat.lt_succ_self _)), up_eq rfl, up_eq (show 255 + (k + 2) = 256 + (k + 1) by lia)]; exact ⟨rfl, rfl⟩
              | succ j =>
                have := k6 j (Nat.lt_of_succ_lt_succ hj)
                rw [show 256 + (k + 2) - 2 * (j + 1) = 256 + k - 2 * j from Nat.add_sub_add_right (256 + k) 2 (2 * j), show 255 + (k + 2) - 2 * (j + 1) = 255 + k - 2 * j from Nat.add_sub_add_right (255 + k) 2 (2 * j)]
                exact this
            · dsimp only
              rw [up_ne i5, k7 i i1 i2 i3 i4 i5 i6 i7 (by lia), up_ne (by lia), up_ne (by lia)]
              cases h
              · exact F2 i (by simpa using i6)
              · exact F2 i (by simpa using i7)
        exact (gs_ok jj).bind fun c' _ h => h
      · cases e
    · rw [if_neg hab] at e
      have hlt : ¬ g * b ≤ g * a := Nat.not_le.mpr (Nat.mul_lt_mul_of_pos_left (by lia) hg)
      have start : ∀ (T : Nat) (Q : Co → Prop), (∀ a1 x1 n1 v1 z1 m1, Lay y f fh s sh (pp !h) (pp h) (g * b) (g * a) m1 → (∀ i, i ≠ f → i ≠ fh → i ≠ s → i ≠ sh → m1 i = m i) → (∀ i, m1 i < 256) → W3 y f fh s sh ct T ⟨a1, x1, y + 3, csp, if g * a = 0 then 527 else 528, n1, v1, z1, false, m1⟩ Q) →
          W3 y f fh s sh ct (32 + T) ⟨ca, cx, cy, csp, 528, cn, cv, cz, cc, m⟩ Q := fun T Q k => by
        refine Wi.le (n := 14 + (9 + (9 + T))) ?_ (by lia)
        refine (tK G A P.2.1 P'.2.1 hm fun a1 n1 v1 z1 => ?_ : W3 y f fh s sh ct 14 _ fun c => W3 y f fh s sh ct (9 + (9 + T)) c Q).bind fun c' _ h => h
        rw [if_neg hlt, decide_eq_false hlt]
        refine (tS G A P.1 P'.1 fun a2 x2 n2 z2 m2 A2 F2 => ?_ : W3 y f fh s sh ct 9 _ fun c => W3 y f fh s sh ct (9 + T) c Q).bind fun c' _ h => h
        refine Wi.wf fun W2 => ?_
        exact (tT G A2 P.2.1 fun a3 n3 v3 z3 => k a3 x2 n3 v3 z3 m2 A2 F2 W2.m : W3 y f fh s sh ct 9 _ fun c => W3 y f fh s sh ct T c Q).bind fun c' _ h => h
      by_cases ha : a = 0
      · rw [if_pos ha] at e
        simp only [Option.some.injEq, Prod.mk.injEq] at e
        obtain ⟨rfl, rfl, rfl, rfl⟩ := e
        refine start 1 _ fun a1 x1 n1 v1 z1 m1 A1 F1 hm1 => ?_
        subst ha
        rw [Nat.mul_zero] at A1 ⊢
        rw [if_pos rfl]
        have F1' : ∀ i, 256 ≤ i → m1 i = m i := fun i hi => F1 i (Nat.ne_of_gt (Nat.lt_of_lt_of_le hf hi)) (Nat.ne_of_gt (Nat.lt_of_lt_of_le hfh hi)) (Nat.ne_of_gt (Nat.lt_of_lt_of_le hs hi)) (Nat.ne_of_gt (Nat.lt_of_lt_of_le hsh hi))
        obtain ⟨⟨g1, g2⟩, g3, g4⟩ := nct G
        refine tR h2 (r := r) (by rw [F1' _ (Nat.le_add_right _ _), F1' _ (Nat.le_add_right _ _)]; exact h3) h4 ⟨rfl, rfl, rfl, ?_, ?_, fun j hj => (by lia), fun i i1 i2 i3 i4 i5 i6 i7 i8 => ?_⟩
        · rw [Bool.not_not]; exact A1
        · exact F1 ct (Ne.symm g1) (Ne.symm g2) (Ne.symm g3) (Ne.symm g4)
        · exact F1 i i1 i2 i3 i4
      · rw [if_neg ha] at e
        split at e
        · rename_i c0 h0 d0 t0 e0
          simp only [Option.some.injEq, Prod.mk.injEq] at e
          obtain ⟨rfl, rfl, rfl, rfl⟩ := e
          refine Wi.le (n := 32 + t0) (start t0 _ fun a1 x1 n1 v1 z1 m1 A1 F1 hm1 => ?_) (by lia)
          have hga : ¬ g * a = 0 := fun q => by
            rcases Nat.mul_eq_zero.mp q with q | q
            · lia
            · exact ha q
          rw [if_neg hga]
          have F1' : ∀ i, 256 ≤ i → m1 i = m i := fun i hi => F1 i (Nat.ne_of_gt (Nat.lt_of_lt_of_le hf hi)) (Nat.ne_of_gt (Nat.lt_of_lt_of_le hfh hi)) (Nat.ne_of_gt (Nat.lt_of_lt_of_le hs hi)) (Nat.ne_of_gt (Nat.lt_of_lt_of_le hsh hi))
          obtain ⟨⟨g1, g2⟩, g3, g4⟩ := nct G
          have e1 : m1 ct = m ct := F1 ct (Ne.symm g1) (Ne.symm g2) (Ne.symm g3) (Ne.symm g4)
          have A1' : Lay y f fh s sh (pp !h) (pp !!h) (g * b) (g * a) m1 := by rw [Bool.not_not]; exact A1
          refine (rec3 G g hg n b a (!h) c0 h0 d0 t0 e0 (by lia) ⟨a1, x1, y + 3, csp, 528, n1, v1, z1, false, m1⟩ r rfl A1' h1 h2 (by dsimp only; rw [F1' _ (Nat.le_add_right _ _), F1' _ (Nat.le_add_right _ _)]; exact h3) h4 (by dsimp only; rw [e1]; exact h5)).mono fun c' q => ?_
          obtain ⟨k1, k2, k3, k4, k5, k6, k7⟩ := q
          exact ⟨k1, k2, k3, k4, by rw [← e1]; exact k5, k6, fun i i1 i2 i3 i4 i5 i6 i7 i8 => (k7 i i1 i2 i3 i4 i5 i6 i7 i8).trans (F1 i i1 i2 i3 i4)⟩
        · cases e
end
end
end Mine

end
section
open PySem PySem.W PyProof.Rows
namespace Mine
noncomputable section

noncomputable abbrev LM (lg y f fh s sh ct o b0 b1 b2 dv one c h : Int) : Loc := LK lg y f fh s sh ct o b0 b1 b2 dv one ++ [(v_counted, .int c), (v_here, .int h)]
theorem l28 (cd : Value) (a0 a1 a2 a3 a4 a5 a6 a7 a8 a9 a10 a11 a12 a13 a14 a15 a16 a17 a18 a19 a20 a21 a22 a23 a24 a25 a26 pl nu pn : AO) (m : List Int) (q0 q1 lg y f fh s sh ct o b0 b1 b2 dv one c h : Int) (Q : PF) : lxs kN 20 40 (F0 cd (LK lg y f fh s sh ct o b0 b1 b2 dv one)) (stG 28 30) (ZG a0 a1 a2 a3 a4 a5 a6 a7 a8 a9 a10 a11 a12 a13 a14 a15 a16 a17 a18 a19 a20 a21 a22 a23 a24 a25 a26 m pl nu pn q0 f fh q1 s sh) Q = Q .next (LM lg y f fh s sh ct o b0 b1 b2 dv one 0 0) (ZG a0 a1 a2 a3 a4 a5 a6 a7 a8 a9 a10 a11 a12 a13 a14 a15 a16 a17 a18 a19 a20 a21 a22 a23 a24 a25 a26 m pl nu pn q0 f fh q1 s sh) := by kernel_rfl
noncomputable def whT : Stmt → Expr
  | .While t _ _ _ => t
  | _ => .Tuple [] 0 default
noncomputable def whB : Stmt → List Stmt
  | .While _ b _ _ => b
  | _ => []
noncomputable def whP : Stmt → Pos
  | .While _ _ _ p => p
  | _ => default
theorem e30 : stL 30 = .While (whT (stL 30)) (whB (stL 30)) [] (whP (stL 30)) := by kernel_rfl
theorem l30tx (cd : Value) (a0 a1 a2 a3 a4 a5 a6 a7 a8 a9 a10 a11 a12 a13 a14 a15 a16 a17 a18 a19 a20 a21 a22 a23 a24 a25 a26 pl pn : AO) (m : List Int) (q0 q1 lg y f fh s sh ct o b0 b1 b2 dv one c h x0 x1 : Int) (Q : PB) : lt kN 20 40 (F0 cd (LM lg y f fh s sh ct o b0 b1 b2 dv one c h)) (whT (stL 30)) (ZG a0 a1 a2 a3 a4 a5 a6 a7 a8 a9 a10 a11 a12 a13 a14 a15 a16 a17 a18 a19 a20 a21 a22 a23 a24 a25 a26 m pl (.intx [x0, x1]) pn q0 f fh q1 s sh) Q = (it 2 (1 - h) ∧ Q (decide (0 < [x0, x1].getD (1 - h).toNat 0)) (ZG a0 a1 a2 a3 a4 a5 a6 a7 a8 a9 a10 a11 a12 a13 a14 a15 a16 a17 a18 a19 a20 a21 a22 a23 a24 a25 a26 m pl (.intx [x0, x1]) pn q0 f fh q1 s sh)) := by kernel_rfl
theorem l30bx (cd : Value) (a0 a1 a2 a3 a4 a5 a6 a7 a8 a9 a10 a11 a12 a13 a14 a15 a16 a17 a18 a19 a20 a21 a22 a23 a24 a25 a26 pl pn : AO) (m : List Int) (q0 q1 lg y f fh s sh ct o b0 b1 b2 dv one c h x0 x1 : Int) (Q : PF) : lxs kN 20 40 (F0 cd (LM lg y f fh s sh ct o b0 b1 b2 dv one c h)) (whB (stL 30)) (ZG a0 a1 a2 a3 a4 a5 a6 a7 a8 a9 a10 a11 a12 a13 a14 a15 a16 a17 a18 a19 a20 a21 a22 a23 a24 a25 a26 m pl (.intx [x0, x1]) pn q0 f fh q1 s sh) Q = (it 2 h ∧ it 2 (1 - h) ∧ ifB (decide ([x0, x1].getD h.toNat 0 < [x0, x1].getD (1 - h).toNat 0))
    (Q .next (LM lg y f fh s sh ct o b0 b1 b2 dv one c (1 - h)) (ZG a0 a1 a2 a3 a4 a5 a6 a7 a8 a9 a10 a11 a12 a13 a14 a15 a16 a17 a18 a19 a20 a21 a22 a23 a24 a25 a26 m pl (.intx [x0, x1]) pn q0 f fh q1 s sh))
    (it 2 h ∧ it 2 (1 - h) ∧ it 2 h ∧ Q .next (LM lg y f fh s sh ct o b0 b1 b2 dv one (c + 1) h) (ZG a0 a1 a2 a3 a4 a5 a6 a7 a8 a9 a10 a11 a12 a13 a14 a15 a16 a17 a18 a19 a20 a21 a22 a23 a24 a25 a26 m pl (.ints ([x0, x1].set h.toNat ([x0, x1].getD h.toNat 0 - [x0, x1].getD (1 - h).toNat 0))) pn q0 f fh q1 s sh))) := by kernel_rfl
theorem l30ts (cd : Value) (a0 a1 a2 a3 a4 a5 a6 a7 a8 a9 a10 a11 a12 a13 a14 a15 a16 a17 a18 a19 a20 a21 a22 a23 a24 a25 a26 pl pn : AO) (m : List Int) (q0 q1 lg y f fh s sh ct o b0 b1 b2 dv one c h x0 x1 : Int) (Q : PB) : lt kN 20 40 (F0 cd (LM lg y f fh s sh ct o b0 b1 b2 dv one c h)) (whT (stL 30)) (ZG a0 a1 a2 a3 a4 a5 a6 a7 a8 a9 a10 a11 a12 a13 a14 a15 a16 a17 a18 a19 a20 a21 a22 a23 a24 a25 a26 m pl (.ints [x0, x1]) pn q0 f fh q1 s sh) Q = (it 2 (1 - h) ∧ Q (decide (0 < [x0, x1].getD (1 - h).toNat 0)) (ZG a0 a1 a2 a3 a4 a5 a6 a7 a8 a9 a10 a11 a12 a13 a14 a15 a16 a17 a18 a19 a20 a21 a22 a23 a24 a25 a26 m pl (.ints [x0, x1]) pn q0 f fh q1 s sh)) := by kernel_rfl
theorem l30bs (cd : Value) (a0 a1 a2 a3 a4 a5 a6 a7 a8 a9 a10 a11 a12 a13 a14 a15 a16 a17 a18 a19 a20 a21 a22 a23 a24 a25 a26 pl pn : AO) (m : List Int) (q0 q1 lg y f fh s sh ct o b0 b1 b2 dv one c h x0 x1 : Int) (Q : PF) : lxs kN 20 40 (F0 cd (LM lg y f fh s sh ct o b0 b1 b2 dv one c h)) (whB (stL 30)) (ZG a0 a1 a2 a3 a4 a5 a6 a7 a8 a9 a10 a11 a12 a13 a14 a15 a16 a17 a18 a19 a20 a21 a22 a23 a24 a25 a26 m pl (.ints [x0, x1]) pn q0 f fh q1 s sh) Q = (it 2 h ∧ it 2 (1 - h) ∧ ifB (decide ([x0, x1].getD h.toNat 0 < [x0, x1].getD (1 - h).toNat 0))
    (Q .next (LM lg y f fh s sh ct o b0 b1 b2 dv one c (1 - h)) (ZG a0 a1 a2 a3 a4 a5 a6 a7 a8 a9 a10 a11 a12 a13 a14 a15 a16 a17 a18 a19 a20 a21 a22 a23 a24 a25 a26 m pl (.ints [x0, x1]) pn q0 f fh q1 s sh))
    (it 2 h ∧ it 2 (1 - h) ∧ it 2 h ∧ Q .next (LM lg y f fh s sh ct o b0 b1 b2 dv one (c + 1) h) (ZG a0 a1 a2 a3 a4 a5 a6 a7 a8 a9 a10 a11 a12 a13 a14 a15 a16 a17 a18 a19 a20 a21 a22 a23 a24 a25 a26 m pl (.ints ([x0, x1].set h.toNat ([x0, x1].getD h.toNat 0 - [x0, x1].getD (1 - h).toNat 0))) pn q0 f fh q1 s sh))) := by kernel_rfl
noncomputable def St30 (g CNT : Nat) (H : Bool) (n a b c : Nat) (hb : Bool) : Prop := (g * b = 0 ∧ c = CNT ∧ hb = H) ∨ (0 < g ∧ 0 < b ∧ ∃ k t d, rn n a b hb = some (k, H, d, t) ∧ c + k = CNT)
noncomputable abbrev bI (b : Bool) : Int := cond b 1 0
theorem st30_pos {g CNT n a b c : Nat} {H hb : Bool} (h : St30 g CNT H n a b c hb) (hp : 0 < g * b) : ∃ n', n = n' + 1 ∧ 0 < g ∧ 0 < b ∧ ((b ≤ a ∧ St30 g CNT H n' (a - b) b (c + 1) hb) ∨ (a < b ∧ St30 g CNT H n' b a c (!hb))) := by
  rcases h with ⟨h1, _⟩ | ⟨hg, hb', k, t, d, h2, h3⟩
  · lia
  · cases n with
    | zero => cases h2
    | succ n =>
      refine ⟨n, rfl, hg, hb', ?_⟩
      unfold rn at h2
      by_cases q : b ≤ a
      · rw [if_pos q] at h2
        refine .inl ⟨q, .inr ⟨hg, hb', ?_⟩⟩
        split at h2
        · rename_i c0 h0 d0 t0 e0
          simp only [Option.some.injEq, Prod.mk.injEq] at h2
          refine El_aaa h2 fun hr0 hr1 hr2 hr3 => ?_; obtain rfl := hr0; obtain rfl := hr1; obtain rfl := hr2; obtain rfl := hr3; try clear h2
          exact ⟨c0, t0, d0, e0, by lia⟩
        · cases h2
      · rw [if_neg q] at h2
        refine .inr ⟨by lia, ?_⟩
        by_cases q0 : a = 0
        · rw [if_pos q0] at h2
          simp only [Option.some.injEq, Prod.mk.injEq] at h2
          obtain ⟨rfl, rfl, rfl, rfl⟩ := h2
          exact .inl ⟨by rw [q0, Nat.mul_zero], by assumption, rfl⟩
        · rw [if_neg q0] at h2
          split at h2
          · rename_i c0 h0 d0 t0 e0
            simp only [Option.some.injEq, Prod.mk.injEq] at h2
            obtain ⟨rfl, rfl, rfl, rfl⟩ := h2
            exact .inr ⟨hg, by lia, c0, t0, d0, e0, h3⟩
          · cases h2
theorem st30_zero {g CNT n a b c : Nat} {H hb : Bool} (h : St30 g CNT H n a b c hb) (hp : ¬ 0 < g * b) : c = CNT ∧ hb = H := by
  rcases h with ⟨_, h⟩ | ⟨hg, hb', _⟩
  · exact h
  · exact absurd (Nat.mul_pos hg hb') hp
theorem st30 {X : Cx} (O : KenOK X kN) (cd : Value) (a0 a1 a2 a3 a4 a5 a6 a7 a8 a9 a10 a11 a12 a13 a14 a15 a16 a17 a18 a19 a20 a21 a22 a23 a24 a25 a26 pl pn : AO) (m : List Int) (q0 q1 lg y f fh s sh ct o b0 b1 b2 dv one : Int) (g u0 u1 CNT n : Nat) (H : Bool) (Q : PF) (hS : St30 g CNT H n u0 u1 0 false)
    (h : ∀ nu, Q .next (LM lg y f fh s sh ct o b0 b1 b2 dv one CNT (bI H)) (ZG a0 a1 a2 a3 a4 a5 a6 a7 a8 a9 a10 a11 a12 a13 a14 a15 a16 a17 a18 a19 a20 a21 a22 a23 a24 a25 a26 m pl nu pn q0 f fh q1 s sh)) :
    ExS X 40 (F0 cd (LM lg y f fh s sh ct o b0 b1 b2 dv one 0 0)) (stL 30) (ZG a0 a1 a2 a3 a4 a5 a6 a7 a8 a9 a10 a11 a12 a13 a14 a15 a16 a17 a18 a19 a20 a21 a22 a23 a24 a25 a26 m pl (.intx [((g * u0 : Nat) : Int), ((g * u1 : Nat) : Int)]) pn q0 f fh q1 s sh) Q := by
  rw [e30]
  refine st_while (N := n) (fun n loc as => ∃ (c : Nat) (hb : Bool) (u0 u1 : Nat) (nu : AO), loc = LM lg y f fh s sh ct o b0 b1 b2 dv one c (bI hb) ∧ as = (ZG a0 a1 a2 a3 a4 a5 a6 a7 a8 a9 a10 a11 a12 a13 a14 a15 a16 a17 a18 a19 a20 a21 a22 a23 a24 a25 a26 m pl nu pn q0 f fh q1 s sh) ∧ (nu = .intx [((g * u0 : Nat) : Int), ((g * u1 : Nat) : Int)] ∨ nu = .ints [((g * u0 : Nat) : Int), ((g * u1 : Nat) : Int)]) ∧ St30 g CNT H n (cond hb u1 u0) (cond hb u0 u1) c hb)
    ⟨0, false, u0, u1, _, rfl, rfl, .inl rfl, hS⟩ ?_
  rintro n loc as ⟨c, hb, u0, u1, nu, rfl, rfl, hnu, hs⟩
  have i1 : it 2 (1 - bI hb) := by cases hb <;> exact ⟨by decide, by decide, by decide⟩
  have i0 : it 2 (bI hb) := by cases hb <;> exact ⟨by decide, by decide, by decide⟩
  have g1 : [((g * u0 : Nat) : Int), ((g * u1 : Nat) : Int)].getD (1 - bI hb).toNat 0 = ((g * cond hb u0 u1 : Nat) : Int) := by cases hb <;> rfl
  have g0 : [((g * u0 : Nat) : Int), ((g * u1 : Nat) : Int)].getD (bI hb).toNat 0 = ((g * cond hb u1 u0 : Nat) : Int) := by cases hb <;> rfl
  have key : ∀ nu : AO, (nu = .intx [((g * u0 : Nat) : Int), ((g * u1 : Nat) : Int)] ∨ nu = .ints [((g * u0 : Nat) : Int), ((g * u1 : Nat) : Int)]) → 0 < g * cond hb u0 u1 → ExsS X 40 (F0 cd (LM lg y f fh s sh ct o b0 b1 b2 dv one c (bI hb))) (whB (stL 30)) (ZG a0 a1 a2 a3 a4 a5 a6 a7 a8 a9 a10 a11 a12 a13 a14 a15 a16 a17 a18 a19 a20 a21 a22 a23 a24 a25 a26 m pl nu pn q0 f fh q1 s sh) fun fl loc' as' => match fl with | .next | .cont => ∃ m', m' < n ∧ (∃ (c : Nat) (hb : Bool) (u0 u1 : Nat) (nu : AO), loc' = LM lg y f fh s sh ct o b0 b1 b2 dv one c (bI hb) ∧ as' = (ZG a0 a1 a2 a3 a4 a5 a6 a7 a8 a9 a10 a11 a12 a13 a14 a15 a16 a17 a18 a19 a20 a21 a22 a23 a24 a25 a26 m pl nu pn q0 f fh q1 s sh) ∧ (nu = .intx [((g * u0 : Nat) : Int), ((g * u1 : Nat) : Int)] ∨ nu = .ints [((g * u0 : Nat) : Int), ((g * u1 : Nat) : Int)]) ∧ St30 g CNT H m' (cond hb u1 u0) (cond hb u0 u1) c hb) | .brk => Q .next loc' as' | .ret v => Q (.ret v) loc' as' := by
    intro nu hnu hp
    refine El_eaaa (st30_pos hs hp) fun n' hr1 hg hbp hcase => ?_; obtain rfl := hr1
    refine (specX O 20).exs 40 (F0 cd (LM lg y f fh s sh ct o b0 b1 b2 dv one c (bI hb))) _ _ _ ?_
    rcases hnu with rfl | rfl

    · rw [l30bx, g1, g0]
      refine ⟨i0, i1, ?_⟩
      rcases hcase with ⟨hle, hst⟩ | ⟨hlt, hst⟩
      · rw [decide_eq_false (show ¬ ((g * cond hb u1 u0 : Nat) : Int) < ((g * cond hb u0 u1 : Nat) : Int) by have := Nat.mul_le_mul_left g hle; omega)]
        refine ⟨i0, i1, i0, n', Nat.lt_succ_self _, c + 1, hb, cond hb u0 (u0 - u1), cond hb (u1 - u0) u1, _, by rw [show ((c : Int) + 1) = ((c + 1 : Nat) : Int) by lia], rfl, .inr ?_, ?_⟩
        · have := Nat.mul_le_mul_left g hle
          have ms := Nat.mul_sub g (cond hb u1 u0) (cond hb u0 u1)
          cases hb
          · dsimp only [cond] at this ms ⊢
            show AO.ints [((g * u0 : Nat) : Int) - ((g * u1 : Nat) : Int), ((g * u1 : Nat) : Int)] = _
            rw [show ((g * u0 : Nat) : Int) - ((g * u1 : Nat) : Int) = ((g * (u0 - u1) : Nat) : Int) by omega]
          · dsimp only [cond] at this ms ⊢
            show AO.ints [((g * u0 : Nat) : Int), ((g * u1 : Nat) : Int) - ((g * u0 : Nat) : Int)] = _
            rw [show ((g * u1 : Nat) : Int) - ((g * u0 : Nat) : Int) = ((g * (u1 - u0) : Nat) : Int) by omega]
        · cases hb <;> exact hst
      · rw [decide_eq_true (show ((g * cond hb u1 u0 : Nat) : Int) < ((g * cond hb u0 u1 : Nat) : Int) by have := Nat.mul_lt_mul_of_pos_left hlt hg; omega)]
        refine ⟨n', Nat.lt_succ_self _, c, !hb, u0, u1, _, ?_, rfl, .inl rfl, ?_⟩
        · cases hb <;> rfl
        · cases hb <;> exact hst
    · rw [l30bs, g1, g0]
      refine ⟨i0, i1, ?_⟩
      rcases hcase with ⟨hle, hst⟩ | ⟨hlt, hst⟩
      · rw [decide_eq_false (show ¬ ((g * cond hb u1 u0 : Nat) : Int) < ((g * cond hb u0 u1 : Nat) : Int) by have := Nat.mul_le_mul_left g hle; omega)]
        refine ⟨i0, i1, i0, n', Nat.lt_succ_self _, c + 1, hb, cond hb u0 (u0 - u1), cond hb (u1 - u0) u1, _, by rw [show ((c : Int) + 1) = ((c + 1 : Nat) : Int) by lia], rfl, .inr ?_, ?_⟩
        · have := Nat.mul_le_mul_left g hle
          have ms := Nat.mul_sub g (cond hb u1 u0) (cond hb u0 u1)
          cases hb
          · dsimp only [cond] at this ms ⊢
            show AO.ints [((g * u0 : Nat) : Int) - ((g * u1 : Nat) : Int), ((g * u1 : Nat) : Int)] = _
            rw [show ((g * u0 : Nat) : Int) - ((g * u1 : Nat) : Int) = ((g * (u0 - u1) : Nat) : Int) by omega]
          · dsimp only [cond] at this ms ⊢
            show AO.ints [((g * u0 : Nat) : Int), ((g * u1 : Nat) : Int) - ((g * u0 : Nat) : Int)] = _
            rw [show ((g * u1 : Nat) : Int) - ((g * u0 : Nat) : Int) = ((g * (u1 - u0) : Nat) : Int) by omega]
        · cases hb <;> exact hst
      · rw [decide_eq_true (show ((g * cond hb u1 u0 : Nat) : Int) < ((g * cond hb u0 u1 : Nat) : Int) by have := Nat.mul_lt_mul_of_pos_left hlt hg; omega)]
        refine ⟨n', Nat.lt_succ_self _, c, !hb, u0, u1, _, ?_, rfl, .inr rfl, ?_⟩
        · cases hb <;> rfl
        · cases hb <;> exact hst
  refine (specL O 20).ts 40 (F0 cd (LM lg y f fh s sh ct o b0 b1 b2 dv one c (bI hb))) _ _ _ ?_
  by_cases hp : 0 < g * cond hb u0 u1
  · have kk := key nu hnu hp
    rcases hnu with rfl | rfl
    · rw [l30tx, g1, decide_eq_true (show (0 : Int) < ((g * cond hb u0 u1 : Nat) : Int) by omega)]; exact ⟨i1, kk⟩
    · rw [l30ts, g1, decide_eq_true (show (0 : Int) < ((g * cond hb u0 u1 : Nat) : Int) by omega)]; exact ⟨i1, kk⟩
  · obtain ⟨z1, z2⟩ := st30_zero hs hp
    subst z1 z2
    rcases hnu with rfl | rfl
    · rw [l30tx, g1, decide_eq_false (show ¬ (0 : Int) < ((g * cond hb u0 u1 : Nat) : Int) by omega)]; exact ⟨i1, h _⟩
    · rw [l30ts, g1, decide_eq_false (show ¬ (0 : Int) < ((g * cond hb u0 u1 : Nat) : Int) by omega)]; exact ⟨i1, h _⟩
end
end Mine
end
section
open PySem PySem.W PyProof.Rows
namespace Mine
noncomputable section

noncomputable def layP (held pl w k : Int) (m : List Int) (K : List Int → Prop) : Prop := (0 ≤ k ∧ (Builtin.Int.intBits 256 : Int) * k ≤ 2 ^ 27) ∧ dpy held (256 ^ k.toNat) ∧ (256 : Int) ≠ 0 ∧ it 2 w ∧ it m.length (pl + k) ∧ K (m.set (pl + k).toNat ((held.fdiv (256 ^ k.toNat)).fmod 256))
noncomputable abbrev LN (lg y f fh s sh ct o b0 b1 b2 dv one c h hd : Int) : Loc := LM lg y f fh s sh ct o b0 b1 b2 dv one c h ++ [(v_held, .int hd)]
theorem l31_0 (cd : Value) (a0 a1 a2 a3 a4 a5 a6 a7 a8 a9 a10 a11 a12 a13 a14 a15 a16 a17 a18 a19 a20 a21 a22 a23 a24 a25 a26 nu : AO) (m pn : List Int) (p0 p1 q0 q1 lg y f fh s sh ct o b0 b1 b2 dv one c : Int) (Q : PF) : lx kN 45 40 (F0 cd (LM lg y f fh s sh ct o b0 b1 b2 dv one c 0)) (stL 31) (ZG a0 a1 a2 a3 a4 a5 a6 a7 a8 a9 a10 a11 a12 a13 a14 a15 a16 a17 a18 a19 a20 a21 a22 a23 a24 a25 a26 m (.intx [p0, p1]) nu (.intx pn) q0 f fh q1 s sh) Q = ((Small 0 ∧ Small 2) ∧ (Small 0 ∧ Small 4) ∧ layP dv p0 0 0 pn fun pn => layP dv p0 0 1 pn fun pn => layP dv p0 0 2 pn fun pn => layP dv p0 0 3 pn fun pn => (Small 0 ∧ Small 4) ∧ layP 0 p1 1 0 pn fun pn => layP 0 p1 1 1 pn fun pn => layP 0 p1 1 2 pn fun pn => layP 0 p1 1 3 pn fun pn => Q .next (LN lg y f fh s sh ct o b0 b1 b2 dv one c 0 0) (ZG a0 a1 a2 a3 a4 a5 a6 a7 a8 a9 a10 a11 a12 a13 a14 a15 a16 a17 a18 a19 a20 a21 a22 a23 a24 a25 a26 m (.intx [p0, p1]) nu (.ints pn) q0 f fh q1 s sh)) := by kernel_rfl
theorem l31_1 (cd : Value) (a0 a1 a2 a3 a4 a5 a6 a7 a8 a9 a10 a11 a12 a13 a14 a15 a16 a17 a18 a19 a20 a21 a22 a23 a24 a25 a26 nu : AO) (m pn : List Int) (p0 p1 q0 q1 lg y f fh s sh ct o b0 b1 b2 dv one c : Int) (Q : PF) : lx kN 45 40 (F0 cd (LM lg y f fh s sh ct o b0 b1 b2 dv one c 1)) (stL 31) (ZG a0 a1 a2 a3 a4 a5 a6 a7 a8 a9 a10 a11 a12 a13 a14 a15 a16 a17 a18 a19 a20 a21 a22 a23 a24 a25 a26 m (.intx [p0, p1]) nu (.intx pn) q0 f fh q1 s sh) Q = ((Small 0 ∧ Small 2) ∧ (Small 0 ∧ Small 4) ∧ layP 0 p0 0 0 pn fun pn => layP 0 p0 0 1 pn fun pn => layP 0 p0 0 2 pn fun pn => layP 0 p0 0 3 pn fun pn => (Small 0 ∧ Small 4) ∧ layP dv p1 1 0 pn fun pn => layP dv p1 1 1 pn fun pn => layP dv p1 1 2 pn fun pn => layP dv p1 1 3 pn fun pn => Q .next (LN lg y f fh s sh ct o b0 b1 b2 dv one c 1 dv) (ZG a0 a1 a2 a3 a4 a5 a6 a7 a8 a9 a10 a11 a12 a13 a14 a15 a16 a17 a18 a19 a20 a21 a22 a23 a24 a25 a26 m (.intx [p0, p1]) nu (.ints pn) q0 f fh q1 s sh)) := by kernel_rfl
theorem l32_0 (cd : Value) (a0 a1 a2 a3 a4 a5 a6 a7 a8 a9 a10 a11 a12 a13 a14 a15 a16 a17 a18 a19 a20 a21 a22 a23 a24 a25 a26 nu : AO) (m pn : List Int) (p0 p1 q0 q1 lg y f fh s sh ct o b0 b1 b2 dv one c hd : Int) (Q : PF) : lxs kN 45 40 (F0 cd (LN lg y f fh s sh ct o b0 b1 b2 dv one c 0 hd)) (stG 32 37) (ZG a0 a1 a2 a3 a4 a5 a6 a7 a8 a9 a10 a11 a12 a13 a14 a15 a16 a17 a18 a19 a20 a21 a22 a23 a24 a25 a26 m (.intx [p0, p1]) nu (.ints pn) q0 f fh q1 s sh) Q = ((0 ≤ (0 : Int) ∧ (0 : Int) < 2 ^ 63) ∧ (0 ≤ (0 : Int) ∧ (0 : Int) < 2 ^ 63) ∧ (256 : Int) ≠ 0 ∧ it (pn).length f ∧ (0 ≤ (0 : Int) ∧ (0 : Int) < 2 ^ 63) ∧ (0 ≤ (0 : Int) ∧ (0 : Int) < 2 ^ 63) ∧ dpy q0 256 ∧ it ((pn).set f.toNat (q0.fmod 256)).length fh ∧ (0 ≤ (1 : Int) ∧ (1 : Int) < 2 ^ 63) ∧ (0 ≤ (0 : Int) ∧ (0 : Int) < 2 ^ 63) ∧ (256 : Int) ≠ 0 ∧ it (((pn).set f.toNat (q0.fmod 256)).set fh.toNat (q0.fdiv 256)).length s ∧ (0 ≤ (1 : Int) ∧ (1 : Int) < 2 ^ 63) ∧ (0 ≤ (0 : Int) ∧ (0 : Int) < 2 ^ 63) ∧ dpy q1 256 ∧ it ((((pn).set f.toNat (q0.fmod 256)).set fh.toNat (q0.fdiv 256)).set s.toNat (q1.fmod 256)).length sh ∧ it (((((pn).set f.toNat (q0.fmod 256)).set fh.toNat (q0.fdiv 256)).set s.toNat (q1.fmod 256)).set sh.toNat (q1.fdiv 256)).length ct ∧ Q .next (LN lg y f fh s sh ct o b0 b1 b2 dv one c 0 hd) (ZG a0 a1 a2 a3 a4 a5 a6 a7 a8 a9 a10 a11 a12 a13 a14 a15 a16 a17 a18 a19 a20 a21 a22 a23 a24 a25 a26 m (.intx [p0, p1]) nu (.ints ((((((pn).set f.toNat (q0.fmod 256)).set fh.toNat (q0.fdiv 256)).set s.toNat (q1.fmod 256)).set sh.toNat (q1.fdiv 256)).set ct.toNat c)) q0 f fh q1 s sh)) := by kernel_rfl
theorem l32_1 (cd : Value) (a0 a1 a2 a3 a4 a5 a6 a7 a8 a9 a10 a11 a12 a13 a14 a15 a16 a17 a18 a19 a20 a21 a22 a23 a24 a25 a26 nu : AO) (m pn : List Int) (p0 p1 q0 q1 lg y f fh s sh ct o b0 b1 b2 dv one c hd : Int) (Q : PF) : lxs kN 45 40 (F0 cd (LN lg y f fh s sh ct o b0 b1 b2 dv one c 1 hd)) (stG 32 37) (ZG a0 a1 a2 a3 a4 a5 a6 a7 a8 a9 a10 a11 a12 a13 a14 a15 a16 a17 a18 a19 a20 a21 a22 a23 a24 a25 a26 m (.intx [p0, p1]) nu (.ints pn) q0 f fh q1 s sh) Q = ((0 ≤ (1 : Int) ∧ (1 : Int) < 2 ^ 63) ∧ (0 ≤ (0 : Int) ∧ (0 : Int) < 2 ^ 63) ∧ (256 : Int) ≠ 0 ∧ it (pn).length f ∧ (0 ≤ (1 : Int) ∧ (1 : Int) < 2 ^ 63) ∧ (0 ≤ (0 : Int) ∧ (0 : Int) < 2 ^ 63) ∧ dpy q1 256 ∧ it ((pn).set f.toNat (q1.fmod 256)).length fh ∧ (0 ≤ (0 : Int) ∧ (0 : Int) < 2 ^ 63) ∧ (0 ≤ (0 : Int) ∧ (0 : Int) < 2 ^ 63) ∧ (256 : Int) ≠ 0 ∧ it (((pn).set f.toNat (q1.fmod 256)).set fh.toNat (q1.fdiv 256)).length s ∧ (0 ≤ (0 : Int) ∧ (0 : Int) < 2 ^ 63) ∧ (0 ≤ (0 : Int) ∧ (0 : Int) < 2 ^ 63) ∧ dpy q0 256 ∧ it ((((pn).set f.toNat (q1.fmod 256)).set fh.toNat (q1.fdiv 256)).set s.toNat (q0.fmod 256)).length sh ∧ it (((((pn).set f.toNat (q1.fmod 256)).set fh.toNat (q1.fdiv 256)).set s.toNat (q0.fmod 256)).set sh.toNat (q0.fdiv 256)).length ct ∧ Q .next (LN lg y f fh s sh ct o b0 b1 b2 dv one c 1 hd) (ZG a0 a1 a2 a3 a4 a5 a6 a7 a8 a9 a10 a11 a12 a13 a14 a15 a16 a17 a18 a19 a20 a21 a22 a23 a24 a25 a26 m (.intx [p0, p1]) nu (.ints ((((((pn).set f.toNat (q1.fmod 256)).set fh.toNat (q1.fdiv 256)).set s.toNat (q0.fmod 256)).set sh.toNat (q0.fdiv 256)).set ct.toNat c)) q0 f fh q1 s sh)) := by kernel_rfl
end
end Mine
end
section
open PySem PySem.W PyProof.Rows
namespace Mine
noncomputable section

noncomputable def wAd (ad d : Int) (m : List Int) (K : List Int → Prop) : Prop := dpy ad 256 ∧ mul64 2 d ∧ it m.length (511 - 2 * d) ∧ (256 : Int) ≠ 0 ∧ mul64 2 d ∧ it (m.set (511 - 2 * d).toNat (ad.fdiv 256)).length (510 - 2 * d) ∧ K ((m.set (511 - 2 * d).toNat (ad.fdiv 256)).set (510 - 2 * d).toNat (ad.fmod 256))
noncomputable abbrev LQ (lg y f fh s sh ct o b0 b1 b2 dv one c h hd d ad : Int) : Loc := LN lg y f fh s sh ct o b0 b1 b2 dv one c h hd ++ [(v_depth, .int d), (v_address, .int ad)]
theorem e37 : stL 37 = (forROf (stL 37)).stmt (forBody 37) := by kernel_rfl
theorem e37n : ((forROf (stL 37)).x, (forROf (stL 37)).r, noStar (forROf (stL 37)).args) = (v_depth, nRange, true) := by kernel_rfl
theorem e37a (cd : Value) (lg y f fh s sh ct o b0 b1 b2 dv one c h hd : Int) (as : List AO) (Q : PVs) : lvs kN 5 40 (F0 cd (LN lg y f fh s sh ct o b0 b1 b2 dv one c h hd)) (forROf (stL 37)).args as Q = Q [.int (c + 1)] as := by kernel_rfl
theorem l37s0 (cd : Value) (lg y f fh s sh ct o b0 b1 b2 dv one c h hd d ad : Int) (as : List AO) (Q : Loc → List AO → Prop) : storeW (F0 cd (LN lg y f fh s sh ct o b0 b1 b2 dv one c h hd)) v_depth (.int d) as Q = Q (LN lg y f fh s sh ct o b0 b1 b2 dv one c h hd ++ [(v_depth, .int d)]) as := by kernel_rfl
theorem l37s1 (cd : Value) (lg y f fh s sh ct o b0 b1 b2 dv one c h hd d ad : Int) (d' : Int) (as : List AO) (Q : Loc → List AO → Prop) : storeW (F0 cd (LQ lg y f fh s sh ct o b0 b1 b2 dv one c h hd d' ad)) v_depth (.int d) as Q = Q (LQ lg y f fh s sh ct o b0 b1 b2 dv one c h hd d ad) as := by kernel_rfl
theorem l37b0 (cd : Value) (a0 a1 a2 a3 a4 a5 a6 a7 a8 a9 a10 a11 a12 a13 a14 a15 a16 a17 a18 a19 a20 a21 a22 a23 a24 a25 a26 pl nu : AO) (m pn : List Int) (q0 q1 lg y f fh s sh ct o b0 b1 b2 dv one c h hd d ad : Int) (Q : PF) : lxs kN 30 40 (F0 cd (LN lg y f fh s sh ct o b0 b1 b2 dv one c h hd ++ [(v_depth, .int 0)])) (forBody 37) (ZG a0 a1 a2 a3 a4 a5 a6 a7 a8 a9 a10 a11 a12 a13 a14 a15 a16 a17 a18 a19 a20 a21 a22 a23 a24 a25 a26 m pl nu (.ints pn) q0 f fh q1 s sh) Q = wAd 608 0 pn fun pn => Q .next (LQ lg y f fh s sh ct o b0 b1 b2 dv one c h hd 0 608) (ZG a0 a1 a2 a3 a4 a5 a6 a7 a8 a9 a10 a11 a12 a13 a14 a15 a16 a17 a18 a19 a20 a21 a22 a23 a24 a25 a26 m pl nu (.ints pn) q0 f fh q1 s sh) := by kernel_rfl
theorem l37b1 (cd : Value) (a0 a1 a2 a3 a4 a5 a6 a7 a8 a9 a10 a11 a12 a13 a14 a15 a16 a17 a18 a19 a20 a21 a22 a23 a24 a25 a26 pl nu : AO) (m pn : List Int) (q0 q1 lg y f fh s sh ct o b0 b1 b2 dv one c h hd d ad : Int) (Q : PF) : lxs kN 30 40 (F0 cd (LQ lg y f fh s sh ct o b0 b1 b2 dv one c h hd d ad)) (forBody 37) (ZG a0 a1 a2 a3 a4 a5 a6 a7 a8 a9 a10 a11 a12 a13 a14 a15 a16 a17 a18 a19 a20 a21 a22 a23 a24 a25 a26 m pl nu (.ints pn) q0 f fh q1 s sh) Q = ifB (d == 0) (wAd 608 d pn fun pn => Q .next (LQ lg y f fh s sh ct o b0 b1 b2 dv one c h hd d 608) (ZG a0 a1 a2 a3 a4 a5 a6 a7 a8 a9 a10 a11 a12 a13 a14 a15 a16 a17 a18 a19 a20 a21 a22 a23 a24 a25 a26 m pl nu (.ints pn) q0 f fh q1 s sh)) (wAd 602 d pn fun pn => Q .next (LQ lg y f fh s sh ct o b0 b1 b2 dv one c h hd d 602) (ZG a0 a1 a2 a3 a4 a5 a6 a7 a8 a9 a10 a11 a12 a13 a14 a15 a16 a17 a18 a19 a20 a21 a22 a23 a24 a25 a26 m pl nu (.ints pn) q0 f fh q1 s sh)) := by kernel_rfl
noncomputable abbrev shl64 (a b : Int) : Prop := 0 ≤ b ∧ b ≤ 1000000 ∧ a.natAbs < 2 ^ 64
noncomputable def M0 (m : List Int) (pc : Int) : MS := ⟨0, 0, 0, 48, pc, 255, 0, 0, .bool false, .int pc, m⟩
noncomputable abbrev LS (lg y f fh s sh ct o b0 b1 b2 dv one c h hd d ad : Int) : Loc := LQ lg y f fh s sh ct o b0 b1 b2 dv one c h hd d ad ++ [(v_mpu, .obj 35)]
noncomputable abbrev LT (lg y f fh s sh ct o b0 b1 b2 dv one c h hd d ad t : Int) : Loc := LS lg y f fh s sh ct o b0 b1 b2 dv one c h hd d ad ++ [(v_turn, .int t)]
theorem l38 (cd : Value) (a0 a1 a2 a3 a4 a5 a6 a7 a8 a9 a10 a11 a12 a13 a14 a15 a16 a17 a18 a19 a20 a21 a22 a23 a24 a25 a26 pl nu : AO) (m pn : List Int) (q0 q1 lg y f fh s sh ct o b0 b1 b2 dv one c h hd d ad : Int) (Q : PF) : lx kN 60 40 (F0 cd (LQ lg y f fh s sh ct o b0 b1 b2 dv one c h hd d ad)) (stL 38) (ZG a0 a1 a2 a3 a4 a5 a6 a7 a8 a9 a10 a11 a12 a13 a14 a15 a16 a17 a18 a19 a20 a21 a22 a23 a24 a25 a26 m pl nu (.ints pn) q0 f fh q1 s sh) Q = (shl64 1 8 ∧ shl64 1 16 ∧ shl64 255 8 ∧ shl64 1 8 ∧ Q .next (LS lg y f fh s sh ct o b0 b1 b2 dv one c h hd d ad) ((ZG a0 a1 a2 a3 a4 a5 a6 a7 a8 a9 a10 a11 a12 a13 a14 a15 a16 a17 a18 a19 a20 a21 a22 a23 a24 a25 a26 m pl nu (.ints pn) q0 f fh q1 s sh) ++ [.dict (esL (M0 m 606) 27), .inst 1428 34])) := by kernel_rfl
theorem e39 : stL 39 = (forROf (stL 39)).stmt (forBody 39) := by kernel_rfl
theorem e39n : ((forROf (stL 39)).x, (forROf (stL 39)).r, noStar (forROf (stL 39)).args) = (v_turn, nRange, true) := by kernel_rfl
theorem e39a (f : Fm) (as : List AO) (Q : PVs) : lvs kN 5 40 f (forROf (stL 39)).args as Q = Q [.int 600] as := by kernel_rfl
theorem l39s0 (cd : Value) (lg y f fh s sh ct o b0 b1 b2 dv one c h hd d ad t : Int) (as : List AO) (Q : Loc → List AO → Prop) : storeW (F0 cd (LS lg y f fh s sh ct o b0 b1 b2 dv one c h hd d ad)) v_turn (.int t) as Q = Q (LT lg y f fh s sh ct o b0 b1 b2 dv one c h hd d ad t) as := by kernel_rfl
theorem l39s1 (cd : Value) (lg y f fh s sh ct o b0 b1 b2 dv one c h hd d ad t : Int) (t' : Int) (as : List AO) (Q : Loc → List AO → Prop) : storeW (F0 cd (LT lg y f fh s sh ct o b0 b1 b2 dv one c h hd d ad t')) v_turn (.int t) as Q = Q (LT lg y f fh s sh ct o b0 b1 b2 dv one c h hd d ad t) as := by kernel_rfl
theorem l39b (cd : Value) (a0 a1 a2 a3 a4 a5 a6 a7 a8 a9 a10 a11 a12 a13 a14 a15 a16 a17 a18 a19 a20 a21 a22 a23 a24 a25 a26 pl nu : AO) (M : MS) (pn : List Int) (q0 q1 lg y f fh s sh ct o b0 b1 b2 dv one c h hd d ad t : Int) (Q : PF) : lxs kN 30 40 (F0 cd (LT lg y f fh s sh ct o b0 b1 b2 dv one c h hd d ad t)) (forBody 39) (ZG a0 a1 a2 a3 a4 a5 a6 a7 a8 a9 a10 a11 a12 a13 a14 a15 a16 a17 a18 a19 a20 a21 a22 a23 a24 a25 a26 M.mem pl nu (.ints pn) q0 f fh q1 s sh ++ [.dict (esL M 27), .inst 1428 34]) Q = ifB (M.pc == 609) (Q .brk (LT lg y f fh s sh ct o b0 b1 b2 dv one c h hd d ad t) (ZG a0 a1 a2 a3 a4 a5 a6 a7 a8 a9 a10 a11 a12 a13 a14 a15 a16 a17 a18 a19 a20 a21 a22 a23 a24 a25 a26 M.mem pl nu (.ints pn) q0 f fh q1 s sh ++ [.dict (esL M 27), .inst 1428 34])) (stepP [.obj 35] (ZG a0 a1 a2 a3 a4 a5 a6 a7 a8 a9 a10 a11 a12 a13 a14 a15 a16 a17 a18 a19 a20 a21 a22 a23 a24 a25 a26 M.mem pl nu (.ints pn) q0 f fh q1 s sh ++ [.dict (esL M 27), .inst 1428 34]) fun _ as => Q .next (LT lg y f fh s sh ct o b0 b1 b2 dv one c h hd d ad t) as) := by kernel_rfl
theorem l40 (cd : Value) (a0 a1 a2 a3 a4 a5 a6 a7 a8 a9 a10 a11 a12 a13 a14 a15 a16 a17 a18 a19 a20 a21 a22 a23 a24 a25 a26 pl nu : AO) (M : MS) (pn : List Int) (q0 q1 lg y f fh s sh ct o b0 b1 b2 dv one c h hd d ad t : Int) (Q : PF) : lx kN 30 40 (F0 cd (LT lg y f fh s sh ct o b0 b1 b2 dv one c h hd d ad t)) (stL 40) (ZG a0 a1 a2 a3 a4 a5 a6 a7 a8 a9 a10 a11 a12 a13 a14 a15 a16 a17 a18 a19 a20 a21 a22 a23 a24 a25 a26 M.mem pl nu (.ints pn) q0 f fh q1 s sh ++ [.dict (esL M 27), .inst 1428 34]) Q = ifB (decide ([M.pc, M.y, M.sp] = [609, y + 3, 255])) (Q (.ret (.bool (decide (M.mem = pn)))) (LT lg y f fh s sh ct o b0 b1 b2 dv one c h hd d ad t) ((ZG a0 a1 a2 a3 a4 a5 a6 a7 a8 a9 a10 a11 a12 a13 a14 a15 a16 a17 a18 a19 a20 a21 a22 a23 a24 a25 a26 M.mem pl nu (.ints pn) q0 f fh q1 s sh ++ [.dict (esL M 27), .inst 1428 34]) ++ [.tuple [.int M.pc, .int M.y, .int M.sp]] ++ [.tuple [.int 609, .int (y + 3), .int 255]])) (Q (.ret (.bool (decide ([M.pc, M.y, M.sp] = [609, y + 3, 255])))) (LT lg y f fh s sh ct o b0 b1 b2 dv one c h hd d ad t) ((ZG a0 a1 a2 a3 a4 a5 a6 a7 a8 a9 a10 a11 a12 a13 a14 a15 a16 a17 a18 a19 a20 a21 a22 a23 a24 a25 a26 M.mem pl nu (.ints pn) q0 f fh q1 s sh ++ [.dict (esL M 27), .inst 1428 34]) ++ [.tuple [.int M.pc, .int M.y, .int M.sp]] ++ [.tuple [.int 609, .int (y + 3), .int 255]])) := by kernel_rfl
end
end Mine
end
section
open PySem PySem.W PyProof.Rows
namespace Mine
noncomputable section
noncomputable def rz (g a b : Nat) : Nat × Bool × Nat := if g * b = 0 then (0, false, a) else match rn 40 a b false with
  | some (c, h, d, _) => (c, h, d)
  | none => (0, false, 0)
noncomputable def dvn (a b : Nat) : Nat → Nat
  | 0 => 0
  | k + 1 => if a % (1 + k) = 0 ∧ b % (1 + k) = 0 ∧ ¬ (a = 0 ∧ b = 0) then 1 + k else dvn a b k
theorem rn_dec : ∀ a < 8, ∀ b < 8, 0 < b → (match rn 40 a b false with | some (c, _, d, t) => decide (c ≤ 20 ∧ t ≤ 580 ∧ d = dvn a b 7) | none => false) = true := by decide +kernel
theorem rn_some {a b : Nat} (ha : a < 8) (hb : b < 8) (h : 0 < b) : ∃ c h' d t, rn 40 a b false = some (c, h', d, t) ∧ c ≤ 20 ∧ t ≤ 580 ∧ d = dvn a b 7 := by
  have q := rn_dec a ha b hb h
  split at q
  · rename_i c h' d t e
    have := of_decide_eq_true q
    exact ⟨c, h', d, t, e, this⟩
  · cases q
theorem dv_a : ∀ a < 8, dvn a 0 7 = a := by decide +kernel
theorem rz_dv {g a b : Nat} (ha : a < 8) (hb : b < 8) : g * (rz g a b).2.2 = g * dvn a b 7 ∧ (rz g a b).1 ≤ 20 := by
  unfold rz
  by_cases q : g * b = 0
  · rw [if_pos q]
    rcases Nat.mul_eq_zero.mp q with q | q
    · subst q; exact ⟨by rw [Nat.zero_mul, Nat.zero_mul], Nat.zero_le _⟩
    · subst q; rw [dv_a a ha]; exact ⟨rfl, Nat.zero_le _⟩
  · rw [if_neg q]
    have : 0 < b := Nat.pos_of_ne_zero fun e => q (by rw [e, Nat.mul_zero])
    refine El_eeeeaaa (rn_some ha hb this) fun c h' d t e h1 h2 h3 => ?_
    rw [e]
    exact ⟨by rw [h3], h1⟩
section
variable {y f fh s sh ct : Nat} {pp : Bool → Nat}
structure End3 (y f fh s sh ct : Nat) (pp : Bool → Nat) (g CNT : Nat) (H : Bool) (D : Nat) (m : Nat → Nat) (c : Co) : Prop where
  hpc : c.pc = 609
  hsp : c.sp = 255
  hy : c.y = y + 3
  lay : Lay y f fh s sh (pp H) (pp !H) (g * D) 0 c.m
  hct : c.m ct = CNT
  h511 : c.m 511 = 2
  h510 : c.m 510 = 96
  hst : ∀ j < CNT, c.m (509 - 2 * j) = 2 ∧ c.m (508 - 2 * j) = 90
  hfr : Fr f fh s sh ct pp 255 (CNT + 1) m c.m
theorem start3 (G : G3 y f fh s sh ct pp) {g a b : Nat} (ha : a < 8) (hb : b < 8) {m : Nat → Nat} (A : Lay y f fh s sh (pp false) (pp true) (g * a) (g * b) m) (hct0 : m ct = 0) :
    W3 y f fh s sh ct 599 ⟨0, 0, 0, 255, 606, false, false, false, false, m⟩ (End3 y f fh s sh ct pp g (rz g a b).1 (rz g a b).2.1 (rz g a b).2.2 m) := by
  have hct := (bd G).2.2.2.2
  have p0 : 768 ≤ pp false := G.hp0.1
  have p1 : 768 ≤ pp true := Nat.le_trans (by decide) G.hp1.1
  have A3 : Lay y f fh s sh (pp false) (pp true) (g * a) (g * b) (up (up m 511 2) 510 96) := (A.push G p0 p1 (by decide) (by decide)).push G p0 p1 (by decide) (by decide)
  have c0 : up (up m 511 2) 510 96 ct = 0 := by rw [up_ne (Nat.ne_of_lt (Nat.lt_trans hct (by decide))), up_ne (Nat.ne_of_lt (Nat.lt_trans hct (by decide)))]; exact hct0
  have far : ∀ i, (i + 2 * 1 ≤ 256 + 255 ∨ 256 + 255 < i) → up (up m 511 2) 510 96 i = m i := fun i h => by rw [up_ne (by lia), up_ne (by lia)]
  have ji : gs (c03 y f fh s sh ct) 1024 1 ⟨0, 0, 0, 255, 606, false, false, false, false, m⟩ fun c => W3 y f fh s sh ct 598 c (End3 y f fh s sh ct pp g (rz g a b).1 (rz g a b).2.1 (rz g a b).2.2 m) := by
    rw [b_I]
    show W3 y f fh s sh ct 598 ⟨0, 0, 0, 253, 512, false, false, false, false, up (up m 511 2) 510 96⟩ _
    refine (tT G A3 (Nat.le_trans G.hp1.2 (by decide)) fun a1 n1 v1 z1 => ?_ : W3 y f fh s sh ct 9 _ fun c => W3 y f fh s sh ct 589 c _).bind fun c' _ h => h
    have e511 : up (up m 511 2) 510 96 511 = 2 := rfl
    have e510 : up (up m 511 2) 510 96 510 = 96 := rfl
    by_cases q : g * b = 0
    · rw [if_pos q]
      have er : rz g a b = (0, false, a) := by unfold rz; rw [if_pos q]
      rw [er]
      refine Wi.le (n := 1) (tR (r := 608) (by decide) (by rw [e510, e511]) (by decide) ⟨rfl, rfl, rfl, ?_, c0, e511, e510, fun j hj => absurd hj (Nat.not_lt_zero _), fun i i1 i2 i3 i4 i5 i6 i7 i8 => far i i8⟩) (by decide)
      rw [q] at A3; exact A3
    · rw [if_neg q]
      have hg : 0 < g := Nat.pos_of_ne_zero fun e => q (by rw [e, Nat.zero_mul])
      have hb0 : 0 < b := Nat.pos_of_ne_zero fun e => q (by rw [e, Nat.mul_zero])
      refine El_eeeeaaa (rn_some ha hb hb0) fun cn h' d t e l1 l2 l3 => ?_
      have er : rz g a b = (cn, h', d) := by unfold rz; rw [if_neg q, e]
      rw [er]
      refine Wi.le (n := t) ((rec3 G g hg 40 a b false cn h' d t e hb0 ⟨a1, 0, y + 3, 253, 528, n1, v1, z1, false, up (up m 511 2) 510 96⟩ 608 rfl A3 (show 2 * cn + 2 ≤ 253 from Nat.le_trans (Nat.add_le_add_right (Nat.mul_le_mul_left 2 l1) 2) (by decide)) (show (253 : Nat) ≤ 253 by decide) (by dsimp only; rw [e510, e511]) (by decide) (by dsimp only; rw [c0, Nat.zero_add]; exact Nat.lt_of_le_of_lt l1 (by decide))).mono fun c' P => ?_) (Nat.le_trans l2 (by decide))
      obtain ⟨k1, k2, k3, k4, k5, k6, k7⟩ := P
      refine ⟨k1, k2, k3, k4, ?_, ?_, ?_, fun j hj => ?_, fun i i1 i2 i3 i4 i5 i6 i7 i8 => ?_⟩
      · rw [k5]; dsimp only; rw [c0, Nat.zero_add]
      · exact (k7.stk G (show 256 + 253 < 511 by decide) (by decide)).trans rfl
      · exact (k7.stk G (show 256 + 253 < 510 by decide) (by decide)).trans rfl
      · exact k6 j hj
      · exact (k7 i i1 i2 i3 i4 i5 i6 i7 (by dsimp only; clear k1 k2 k3 k4 k5 k6 k7 e er A3; lia)).trans (far i (by clear k1 k2 k3 k4 k5 k6 k7 e er A3; lia))
  exact Wi.le (n := 1 + 598) ((gs_ok ji).bind fun c' _ h => h) (by decide)
end
end
end Mine

end
section
open PySem PySem.W PyProof.Rows
namespace Mine
noncomputable section

noncomputable def stkL (m : List Int) : Nat → List Int
  | 0 => m
  | k + 1 => ((stkL m k).set (511 - 2 * (k : Int)).toNat ((if k = 0 then 608 else 602 : Int).fdiv 256)).set (510 - 2 * (k : Int)).toNat ((if k = 0 then 608 else 602 : Int).fmod 256)
theorem stkL_succ (m : List Int) (k : Nat) : stkL m (k + 1) = ((stkL m k).set (511 - 2 * (k : Int)).toNat ((if k = 0 then 608 else 602 : Int).fdiv 256)).set (510 - 2 * (k : Int)).toNat ((if k = 0 then 608 else 602 : Int).fmod 256) := rfl
theorem stkL_len (m : List Int) : ∀ k, (stkL m k).length = m.length
  | 0 => rfl
  | k + 1 => by unfold stkL; rw [List.length_set, List.length_set]; exact stkL_len m k
theorem ifB_f {A B : Prop} (h : B) : ifB false A B := h
theorem ifB_t {A B : Prop} (h : A) : ifB true A B := h
theorem mul64_2 (d : Int) : mul64 2 d := .inl (by decide)
theorem wAd_ok {ad : Int} {k : Nat} {m : List Int} {K : List Int → Prop} (hm : m.length = 1024) (hk : k ≤ 200) (h : K ((m.set (511 - 2 * (k : Int)).toNat (ad.fdiv 256)).set (510 - 2 * (k : Int)).toNat (ad.fmod 256))) : wAd ad (k : Int) m K :=
  ⟨dpy256 _, mul64_2 _, ⟨by lia, by rw [hm]; lia, by lia⟩, by decide, mul64_2 _, ⟨by lia, by rw [List.length_set, hm]; lia, by lia⟩, h⟩
theorem st37 {X : Cx} (O : KenOK X kN) (cd : Value) (a0 a1 a2 a3 a4 a5 a6 a7 a8 a9 a10 a11 a12 a13 a14 a15 a16 a17 a18 a19 a20 a21 a22 a23 a24 a25 a26 pl nu : AO) (m pn : List Int) (q0 q1 lg y f fh s sh ct o b0 b1 b2 dv one h hd : Int) (c : Nat) (Q : PF) (hc : c ≤ 100) (hpn : pn.length = 1024)
    (hQ : ∀ ad, Q .next (LQ lg y f fh s sh ct o b0 b1 b2 dv one c h hd c ad) (ZG a0 a1 a2 a3 a4 a5 a6 a7 a8 a9 a10 a11 a12 a13 a14 a15 a16 a17 a18 a19 a20 a21 a22 a23 a24 a25 a26 m pl nu (.ints (stkL pn (c + 1))) q0 f fh q1 s sh)) :
    ExS X 40 (F0 cd (LN lg y f fh s sh ct o b0 b1 b2 dv one c h hd)) (stL 37) (ZG a0 a1 a2 a3 a4 a5 a6 a7 a8 a9 a10 a11 a12 a13 a14 a15 a16 a17 a18 a19 a20 a21 a22 a23 a24 a25 a26 m pl nu (.ints pn) q0 f fh q1 s sh) Q := by
  have en := e37n
  simp only [Prod.mk.injEq] at en
  rw [e37]
  unfold ForR.stmt
  rw [en.1, en.2.1]
  refine st_forR kRange (gRange O) en.2.2 ((specL O 5).evs 40 _ _ _ _ (by
    rw [e37a]
    refine ⟨0, c + 1, .one _, ⟨⟨by decide, by decide⟩, ⟨by lia, by lia⟩⟩,
      fun k loc as => (k = 0 ∧ loc = LN lg y f fh s sh ct o b0 b1 b2 dv one c h hd ∧ as = (ZG a0 a1 a2 a3 a4 a5 a6 a7 a8 a9 a10 a11 a12 a13 a14 a15 a16 a17 a18 a19 a20 a21 a22 a23 a24 a25 a26 m pl nu (.ints pn) q0 f fh q1 s sh)) ∨ (0 < k ∧ k ≤ c + 1 ∧ (∃ ad, loc = LQ lg y f fh s sh ct o b0 b1 b2 dv one c h hd (k - 1 : Nat) ad) ∧ as = (ZG a0 a1 a2 a3 a4 a5 a6 a7 a8 a9 a10 a11 a12 a13 a14 a15 a16 a17 a18 a19 a20 a21 a22 a23 a24 a25 a26 m pl nu (.ints (stkL pn k)) q0 f fh q1 s sh)),
      fun k loc as => k ≤ c ∧ ((k = 0 ∧ loc = LN lg y f fh s sh ct o b0 b1 b2 dv one c h hd ++ [(v_depth, .int 0)]) ∨ (0 < k ∧ ∃ ad, loc = LQ lg y f fh s sh ct o b0 b1 b2 dv one c h hd k ad)) ∧ as = (ZG a0 a1 a2 a3 a4 a5 a6 a7 a8 a9 a10 a11 a12 a13 a14 a15 a16 a17 a18 a19 a20 a21 a22 a23 a24 a25 a26 m pl nu (.ints (stkL pn k)) q0 f fh q1 s sh), .inl ⟨rfl, rfl, rfl⟩, ?_, ?_, ?_⟩
    · rintro k loc as hk (⟨rfl, rfl, rfl⟩ | ⟨h1, h2, ⟨ad, rfl⟩, rfl⟩)
      · show storeW (F0 cd (LN lg y f fh s sh ct o b0 b1 b2 dv one c h hd)) _ _ _ _
        rw [show (0 : Int) + ((0 : Nat) : Int) = 0 by rfl, l37s0 cd lg y f fh s sh ct o b0 b1 b2 dv one c h hd 0 0]; exact ⟨Nat.zero_le _, .inl ⟨rfl, rfl⟩, rfl⟩
      · show storeW (F0 cd (LQ lg y f fh s sh ct o b0 b1 b2 dv one c h hd _ _)) _ _ _ _
        rw [l37s1]; exact ⟨by (clear h2; lia), .inr ⟨h1, ad, by rw [Int.zero_add]⟩, rfl⟩
    · rintro k loc as ⟨hk, hl, rfl⟩
      have hlen : (stkL pn k).length = 1024 := (stkL_len _ _).trans hpn
      refine (specX O 30).exs 40 (F0 cd loc) (forBody 37) _ _ ?_
      rcases hl with ⟨rfl, rfl⟩ | ⟨h1, ad, rfl⟩
      · rw [l37b0 (d := 0) (ad := 0)]
        exact wAd_ok (k := 0) hlen (by decide) (.inr ⟨by decide, by lia, ⟨608, rfl⟩, rfl⟩)
      · rw [l37b1, show ((k : Int) == 0) = false by simp; lia]
        refine ifB_f (wAd_ok (k := k) hlen (by lia) (Or.inr ⟨by lia, by lia, ⟨602, by rw [Nat.add_sub_cancel]⟩, ?_⟩))
        rw [stkL_succ, if_neg (show ¬ k = 0 by lia)]
    · rintro loc as (⟨h1, _⟩ | ⟨h1, h2, ⟨ad, rfl⟩, rfl⟩)
      · lia
      · have e : ((c : Int) + 1 - 0).toNat = c + 1 := by lia
        rw [e]; exact hQ ad))

theorem st39 {X : Cx} (O : KenOK X kN) (cd : Value) (a0 a1 a2 a3 a4 a5 a6 a7 a8 a9 a10 a11 a12 a13 a14 a15 a16 a17 a18 a19 a20 a21 a22 a23 a24 a25 a26 pl nu : AO) (pn L : List _) (hL : L.length = 97) (q0 q1 lg y f fh s sh ct o b0 b1 b2 dv one c h hd d ad : Int) (c0 c' : Co) (e0 e' : Ee) (k : Nat) (hk : k ≤ 599) (hr : Runs L 1024 k c0 e0 c' e') (f0 : FE e0) (hpc : c'.pc = 609) (Q : PF)
    (hQ : ∀ t, Q .next (LT lg y f fh s sh ct o b0 b1 b2 dv one c h hd d ad t) (ZG a0 a1 a2 a3 a4 a5 a6 a7 a8 a9 a10 a11 a12 a13 a14 a15 a16 a17 a18 a19 a20 a21 a22 a23 a24 a25 a26 (memL 1024 c'.m) pl nu (.ints pn) q0 f fh q1 s sh ++ [.dict (esL (ms 1024 c' e') 27), .inst 1428 34])) :
    ExS X 40 (F0 cd (LS lg y f fh s sh ct o b0 b1 b2 dv one c h hd d ad)) (stL 39) (ZG a0 a1 a2 a3 a4 a5 a6 a7 a8 a9 a10 a11 a12 a13 a14 a15 a16 a17 a18 a19 a20 a21 a22 a23 a24 a25 a26 (memL 1024 c0.m) pl nu (.ints pn) q0 f fh q1 s sh ++ [.dict (esL (ms 1024 c0 e0) 27), .inst 1428 34]) Q := by
  have en := e39n
  simp only [Prod.mk.injEq] at en
  rw [e39]
  unfold ForR.stmt
  rw [en.1, en.2.1]
  refine st_forR kRange (gRange O) en.2.2 ((specL O 5).evs 40 _ _ _ _ (by
    rw [e39a]
    refine ⟨0, 600, .one _, ⟨⟨by decide, by decide⟩, ⟨by decide, by decide⟩⟩,
      fun j loc as => (loc = LS lg y f fh s sh ct o b0 b1 b2 dv one c h hd d ad ∨ ∃ t, loc = LT lg y f fh s sh ct o b0 b1 b2 dv one c h hd d ad t) ∧ ∃ cj ej i, FE ej ∧ Runs L 1024 i cj ej c' e' ∧ j + i = k ∧ as = (ZG a0 a1 a2 a3 a4 a5 a6 a7 a8 a9 a10 a11 a12 a13 a14 a15 a16 a17 a18 a19 a20 a21 a22 a23 a24 a25 a26 (memL 1024 cj.m) pl nu (.ints pn) q0 f fh q1 s sh ++ [.dict (esL (ms 1024 cj ej) 27), .inst 1428 34]),
      fun j loc as => (∃ t, loc = LT lg y f fh s sh ct o b0 b1 b2 dv one c h hd d ad t) ∧ ∃ cj ej i, FE ej ∧ Runs L 1024 i cj ej c' e' ∧ j + i = k ∧ as = (ZG a0 a1 a2 a3 a4 a5 a6 a7 a8 a9 a10 a11 a12 a13 a14 a15 a16 a17 a18 a19 a20 a21 a22 a23 a24 a25 a26 (memL 1024 cj.m) pl nu (.ints pn) q0 f fh q1 s sh ++ [.dict (esL (ms 1024 cj ej) 27), .inst 1428 34]), ⟨.inl rfl, c0, e0, k, f0, hr, Nat.zero_add _, rfl⟩, ?_, ?_, ?_⟩
    · rintro j loc as hj ⟨(rfl | ⟨t, rfl⟩), cj, ej, i, fj, rj, ij, rfl⟩
      · show storeW (F0 cd (LS lg y f fh s sh ct o b0 b1 b2 dv one c h hd d ad)) _ _ _ _
        rw [l39s0]; exact ⟨⟨_, rfl⟩, cj, ej, i, fj, rj, ij, rfl⟩
      · show storeW (F0 cd (LT lg y f fh s sh ct o b0 b1 b2 dv one c h hd d ad _)) _ _ _ _
        rw [l39s1]; exact ⟨⟨_, rfl⟩, cj, ej, i, fj, rj, ij, rfl⟩
    · rintro j loc as ⟨⟨t, rfl⟩, cj, ej, i, fj, rj, ij, rfl⟩
      refine (specX O 30).exs 40 (F0 cd (LT lg y f fh s sh ct o b0 b1 b2 dv one c h hd d ad t)) (forBody 39) _ _ ?_
      have bb := l39b cd a0 a1 a2 a3 a4 a5 a6 a7 a8 a9 a10 a11 a12 a13 a14 a15 a16 a17 a18 a19 a20 a21 a22 a23 a24 a25 a26 pl nu (ms 1024 cj ej) pn q0 q1 lg y f fh s sh ct o b0 b1 b2 dv one c h hd d ad t
      dsimp only [ms] at bb
      refine Eq.mpr (bb _) ?_
      cases rj with
      | nil =>
        rw [show ((c'.pc : Int) == 609) = true by rw [hpc]; rfl]
        exact ifB_t (hQ t)
      | @cons i _ _ c2 e2 _ _ h1 h2 f1 f2 sp rest =>
        have hne : ((cj.pc : Int) == 609) = false := by simp; lia
        rw [hne]
        exact ifB_f ⟨35, 34, 27, ms 1024 cj ej, ms 1024 c2 e2, rfl, rfl, rfl, rfl, ⟨f1.1, f1.2, f2.1, f2.2⟩, sp, .inr ⟨t, rfl⟩, c2, e2, i, f2, rest, by lia, rfl⟩
    · rintro loc as ⟨_, cj, ej, i, _, rj, ij, rfl⟩
      have e : ((600 : Int) - 0).toNat = 600 := rfl
      rw [e] at ij
      omega))

end
end Mine
end
section
open PySem PySem.W PyProof.Rows
namespace Mine
noncomputable section
noncomputable def lay4 (F : Nat → Nat) (p n : Nat) : Nat → Nat := up (up (up (up F p (n % 256)) (p + 1) (n / 256 % 256)) (p + 2) (n / 65536 % 256)) (p + 3) (n / 16777216 % 256)
noncomputable def stkF (F : Nat → Nat) : Nat → Nat → Nat
  | 0 => F
  | k + 1 => up (up (stkF F k) (511 - 2 * k) ((if k = 0 then 608 else 602) / 256)) (510 - 2 * k) ((if k = 0 then 608 else 602) % 256)
theorem stkF_succ (F : Nat → Nat) (k : Nat) : stkF F (k + 1) = up (up (stkF F k) (511 - 2 * k) ((if k = 0 then 608 else 602) / 256)) (510 - 2 * k) ((if k = 0 then 608 else 602) % 256) := rfl
theorem stkF_out (F : Nat → Nat) {i : Nat} : ∀ n, n ≤ 100 → (511 < i ∨ i + 2 * n < 512) → stkF F n i = F i
  | 0, _, _ => rfl
  | n + 1, h, g => by rw [stkF_succ, up_ne (by (clear h; omega)), up_ne (by (clear h; omega))]; exact stkF_out F n (by lia) (by lia)
theorem stkF_at (F : Nat → Nat) {j : Nat} : ∀ n, n ≤ 100 → j < n → stkF F n (511 - 2 * j) = (if j = 0 then 608 else 602) / 256 ∧ stkF F n (510 - 2 * j) = (if j = 0 then 608 else 602) % 256
  | n + 1, h, g => by
    rw [stkF_succ]
    by_cases q : j = n
    · subst q
      exact ⟨by rw [up_ne (by lia), up_eq rfl], by rw [up_eq rfl]⟩
    · rw [up_ne (show 511 - 2 * j ≠ 510 - 2 * n by omega), up_ne (show 511 - 2 * j ≠ 511 - 2 * n by omega), up_ne (show 510 - 2 * j ≠ 510 - 2 * n by lia), up_ne (show 510 - 2 * j ≠ 511 - 2 * n by omega)]
      exact stkF_at F n (by lia) (by lia)
theorem lay4_out {F : Nat → Nat} {p n i : Nat} (h : i < p ∨ p + 4 ≤ i) : lay4 F p n i = F i := by
  unfold lay4; rw [up_ne (by lia), up_ne (by lia), up_ne (by lia), up_ne (by lia)]
theorem dstep {a r n : Nat} (h : a + 256 * r = n) (ha : a < 256) : n % 256 = a ∧ n / 256 = r := ⟨by lia, by lia⟩
theorem dig {a b c d n : Nat} (h : a + 256 * b + 65536 * c + 16777216 * d = n) (ha : a < 256) (hb : b < 256) (hc : c < 256) (hd : d < 256) : a = n % 256 ∧ b = n / 256 % 256 ∧ c = n / 65536 % 256 ∧ d = n / 16777216 % 256 := by
  have s1 := dstep (r := b + 256 * (c + 256 * d)) (n := n) (a := a) (by rw [← h]; clear h ha hb hc hd; lia) ha
  have s2 := dstep (a := b) (r := c + 256 * d) rfl hb
  have s3 := dstep (a := c) (r := d) rfl hc
  have e2 : n / 65536 = c + 256 * d := by rw [show 65536 = 256 * 256 from rfl, ← Nat.div_div_eq_div_mul, s1.2, s2.2]
  have e3 : n / 16777216 = d := by rw [show 16777216 = 65536 * 256 from rfl, ← Nat.div_div_eq_div_mul, e2, s3.2]
  exact ⟨s1.1.symm, by rw [s1.2]; exact s2.1.symm, by rw [e2]; exact s3.1.symm, by rw [e3]; exact (Nat.mod_eq_of_lt hd).symm⟩
theorem lay4_in {F m : Nat → Nat} {p n i : Nat} (hv : v4 m p = n) (hm : ∀ i, m i < 256) (h : p ≤ i ∧ i < p + 4) : m i = lay4 F p n i := by
  obtain ⟨d0, d1, d2, d3⟩ := dig hv (hm _) (hm _) (hm _) (hm _)
  unfold lay4
  rw [← d0, ← d1, ← d2, ← d3]
  rcases (show i = p ∨ i = p + 1 ∨ i = p + 2 ∨ i = p + 3 by clear d0 d1 d2 d3 hv; lia) with q | q | q | q
  · subst q; rw [up_ne (by simp), up_ne (by simp), up_ne (by simp), up_eq rfl]
  · subst q; rw [up_ne (by simp), up_ne (by simp), up_eq rfl]
  · subst q; rw [up_ne (by simp), up_eq rfl]
  · subst q; rw [up_eq rfl]
theorem dig4 {n : Nat} (h : n < 4294967296) : n % 256 + 256 * (n / 256 % 256) + 65536 * (n / 65536 % 256) + 16777216 * (n / 16777216 % 256) = n := by
  have a1 := Nat.mod_add_div n 256
  have a2 := Nat.mod_add_div (n / 256) 256
  have a3 := Nat.mod_add_div (n / 65536) 256
  rw [Nat.div_div_eq_div_mul] at a2 a3
  rw [Nat.mod_eq_of_lt (show n / 16777216 < 256 from Nat.div_lt_of_lt_mul h)]
  simp only [show 256 * 256 = 65536 from rfl, show 65536 * 256 = 16777216 from rfl] at a2 a3
  revert a1 a2 a3
  generalize n % 256 = r0; generalize n / 256 % 256 = r1; generalize n / 65536 % 256 = r2
  generalize n / 256 = m1; generalize n / 65536 = m2; generalize n / 16777216 = m3
  clear h
  intro a1 a2 a3
  rw [← a1, ← a2, ← a3]; clear a1 a2 a3; lia
theorem v4l (F : Nat → Nat) (p n : Nat) (hn : n < 4294967296) : v4 (lay4 F p n) p = n := by
  unfold v4 lay4
  rw [up_ne (show p ≠ p + 3 by lia), up_ne (show p ≠ p + 2 by lia), up_ne (show p ≠ p + 1 by lia), up_eq rfl, up_ne (show p + 1 ≠ p + 3 by lia), up_ne (show p + 1 ≠ p + 2 by lia), up_eq rfl, up_ne (show p + 2 ≠ p + 3 by lia), up_eq rfl, up_eq rfl]
  exact dig4 hn
section
variable {y f fh s sh ct : Nat} {pp : Bool → Nat}
noncomputable def Fp3 (F1 : Nat → Nat) (y f fh s sh ct : Nat) (pp : Bool → Nat) (H : Bool) (hd CNT : Nat) : Nat → Nat :=
  stkF (up (up (up (up (up (lay4 (lay4 F1 (pp false) (cond H 0 hd)) (pp true) (cond H hd 0)) f ((pp H - y) % 256)) fh ((pp H - y) / 256)) s ((pp (!H) - y) % 256)) sh ((pp (!H) - y) / 256)) ct CNT) (CNT + 1)
theorem fin3 (G : G3 y f fh s sh ct pp) {g CNT D : Nat} {H : Bool} {m F1 : Nat → Nat} {c : Co} (E : End3 y f fh s sh ct pp g CNT H D m c) (hm : ∀ i, c.m i < 256) (hC : CNT ≤ 20)
    (hF : ∀ i, i ≠ f → i ≠ fh → i ≠ s → i ≠ sh → i ≠ ct → m i = F1 i) : ∀ i < 1024, c.m i = Fp3 F1 y f fh s sh ct pp H (g * D) CNT i := by
  intro i hi
  have hct := G.hct; have hf := G.hf; have hfh := G.hfh; have hs := G.hs; have hsh := G.hsh; have G0 := G.hp0; have G1 := G.hp1; have hy := G.hy
  have P := pq G H
  have P' := pq G !H
  have pf := E.lay.pf; have ps := E.lay.ps
  have b1 := hm f; have b2 := hm fh; have b3 := hm s; have b4 := hm sh
  unfold Fp3
  by_cases hs1 : i ≤ 511 ∧ 512 ≤ i + 2 * (CNT + 1)
  · refine El_ea (show ∃ j, j < CNT + 1 ∧ (i = 511 - 2 * j ∨ i = 510 - 2 * j) from ⟨(511 - i) / 2, by lia, by (clear hC; lia)⟩) fun j hj hij => ?_
    have q := stkF_at (up (up (up (up (up (lay4 (lay4 F1 (pp false) (cond H 0 (g * D))) (pp true) (cond H (g * D) 0)) f ((pp H - y) % 256)) fh ((pp H - y) / 256)) s ((pp (!H) - y) % 256)) sh ((pp (!H) - y) / 256)) ct CNT) (CNT + 1) (by lia) hj
    cases j with
    | zero =>
      rcases hij with e | e
      · rw [e, q.1]; exact E.h511
      · rw [e, q.2]; exact E.h510
    | succ j =>
      have r := E.hst j (by lia)
      rw [if_neg (by lia)] at q
      rcases hij with e | e
      · rw [e, q.1, show 511 - 2 * (j + 1) = 509 - 2 * j by lia]; exact r.1
      · rw [e, q.2, show 510 - 2 * (j + 1) = 508 - 2 * j by lia]; exact r.2
  · rw [stkF_out _ (CNT + 1) (by lia) (by lia)]
    by_cases h1 : i = ct
    · rw [up_eq h1, h1]; exact E.hct
    rw [up_ne h1]
    by_cases h2 : i = sh
    · rw [up_eq h2, h2]; lia
    rw [up_ne h2]
    by_cases h3 : i = s
    · rw [up_eq h3, h3]; lia
    rw [up_ne h3]
    by_cases h4 : i = fh
    · rw [up_eq h4, h4]; lia
    rw [up_ne h4]
    by_cases h5 : i = f
    · rw [up_eq h5, h5]; lia
    rw [up_ne h5]
    have vf := E.lay.vf; have vs := E.lay.vs
    have w0 : v4 c.m (pp false) = cond H 0 (g * D) := by cases H <;> assumption
    have w1 : v4 c.m (pp true) = cond H (g * D) 0 := by cases H <;> assumption
    by_cases r1 : pp true ≤ i ∧ i < pp true + 4
    · exact lay4_in w1 hm r1
    rw [lay4_out (by lia)]
    by_cases r0 : pp false ≤ i ∧ i < pp false + 4
    · exact lay4_in w0 hm r0
    rw [lay4_out (by lia)]
    exact (E.hfr i h5 h4 h3 h2 h1 (by lia) (by lia) (by lia)).trans (hF i h5 h4 h3 h2 h1)
end
theorem memL_congr {N : Nat} {F F' : Nat → Nat} (h : ∀ i < N, F i = F' i) : memL N F = memL N F' := by
  unfold memL
  refine List.map_congr_left fun i hi => ?_
  rw [h i (List.mem_range.mp hi)]
theorem memL_set' {N : Nat} {F : Nat → Nat} {k : Int} {v : Int} {a w : Nat} (hk : k = a) (hv : v = w) (h : a < N) : (memL N F).set k.toNat v = memL N (up F a w) := by
  subst hk hv; rw [Int.toNat_natCast]; exact memL_set h
theorem fdiv_c (a b : Nat) : (a : Int).fdiv (b : Int) = ((a / b : Nat) : Int) := by rw [Int.fdiv_eq_ediv_of_nonneg _ (by lia)]; lia
theorem fmod_c (a b : Nat) : (a : Int).fmod (b : Int) = ((a % b : Nat) : Int) := by rw [Int.fmod_eq_emod_of_nonneg _ (by lia)]; lia
theorem stkL_F (F : Nat → Nat) (sL : List Int → Nat → List Int) (h0 : ∀ m, sL m 0 = m) (h1 : ∀ m k, sL m (k + 1) = ((sL m k).set (511 - 2 * (k : Int)).toNat ((if k = 0 then 608 else 602 : Int).fdiv 256)).set (510 - 2 * (k : Int)).toNat ((if k = 0 then 608 else 602 : Int).fmod 256)) :
    ∀ k, k ≤ 100 → sL (memL 1024 F) k = memL 1024 (stkF F k)
  | 0, _ => h0 _
  | k + 1, hk => by
    rw [h1, stkL_F F sL h0 h1 k (by lia), stkF_succ]
    have e1 : ((if k = 0 then 608 else 602 : Int).fdiv 256) = (((if k = 0 then 608 else 602) / 256 : Nat) : Int) := by split <;> rfl
    have e2 : ((if k = 0 then 608 else 602 : Int).fmod 256) = (((if k = 0 then 608 else 602) % 256 : Nat) : Int) := by split <;> rfl
    rw [memL_set' (a := 511 - 2 * k) (by lia) e1 (by (clear hk; omega)), memL_set' (a := 510 - 2 * k) (by lia) e2 (by (clear hk; omega))]
end
end Mine

end
section
open PySem PySem.W PyProof.Rows
namespace Mine
noncomputable section

theorem fmod256 (a : Nat) : (a : Int).fmod 256 = ((a % 256 : Nat) : Int) := fmod_c a 256
theorem fdiv256 (a : Nat) : (a : Int).fdiv 256 = ((a / 256 : Nat) : Int) := fdiv_c a 256
theorem pow256 (k : Nat) : (256 : Int) ^ ((k : Nat) : Int).toNat = ((256 ^ k : Nat) : Int) := by rw [Int.toNat_natCast]; simp
theorem pw4 {k : Nat} (h : k < 4) : (0 ≤ (k : Int) ∧ (Builtin.Int.intBits 256 : Int) * (k : Int) ≤ 2 ^ 27) := by
  rcases (show k = 0 ∨ k = 1 ∨ k = 2 ∨ k = 3 by lia) with rfl | rfl | rfl | rfl <;> decide +kernel
theorem dp4 {k : Nat} (h : k < 4) (n : Int) : dpy n (256 ^ ((k : Nat) : Int).toNat) := by
  rw [pow256]
  rcases (show k = 0 ∨ k = 1 ∨ k = 2 ∨ k = 3 by lia) with rfl | rfl | rfl | rfl <;> exact ⟨by decide, PyProof.noPylong_small (by decide)⟩
theorem layP_ok {F : Nat → Nat} {n p : Nat} {w : Int} {K : List Int → Prop} (k : Nat) (hk : k < 4) (hw : it 2 w) (hp : p + k < 1024) (h : K (memL 1024 (up F (p + k) (n / 256 ^ k % 256)))) : layP (n : Int) (p : Int) w (k : Int) (memL 1024 F) K := by
  refine ⟨pw4 hk, dp4 hk _, by decide, hw, ⟨by lia, by rw [memL_len]; lia, by lia⟩, ?_⟩
  rw [memL_set' (a := p + k) (w := n / 256 ^ k % 256) (by lia) (by rw [pow256, fdiv_c, fmod256]) hp]
  exact h
theorem lay4_eq (F : Nat → Nat) (p n : Nat) : up (up (up (up F (p + 0) (n / 256 ^ 0 % 256)) (p + 1) (n / 256 ^ 1 % 256)) (p + 2) (n / 256 ^ 2 % 256)) (p + 3) (n / 256 ^ 3 % 256) = lay4 F p n := by
  unfold lay4; simp
theorem ifB_d {p : Prop} {d : Decidable p} {A B : Prop} (hp : p) (h : A) : ifB (@decide p d) A B := by rw [decide_eq_true hp]; exact h
theorem retQ {Q : PF} {p : Prop} {d : Decidable p} (hp : p) {a0 : AO} (hQ : ∀ loc as, as[0]? = some a0 → Q (.ret (.bool true)) loc as) (loc : Loc) (as : List AO) (h : as[0]? = some a0) : Q (.ret (.bool (@decide p d))) loc as := by rw [decide_eq_true hp]; exact hQ _ _ h
theorem i20 : it 2 0 := ⟨by decide, by decide, by decide⟩
theorem i21 : it 2 1 := ⟨by decide, by decide, by decide⟩
theorem body28 : lawD.body.drop 28 = stG 28 30 ++ (stL 30 :: stL 31 :: (stG 32 37 ++ [stL 37, stL 38, stL 39, stL 40])) := by kernel_rfl
theorem i1024 {F : Nat → Nat} {a : Nat} (h : a < 1024) : it (memL 1024 F).length (a : Int) := ⟨by lia, by rw [memL_len]; lia, by lia⟩
theorem it_len {m m' : List Int} {a : Int} (h : m'.length = m.length) (i : it m.length a) : it m'.length a := by rw [h]; exact i
theorem M0_ms (F : Nat → Nat) : M0 (memL 1024 F) 606 = ms 1024 ⟨0, 0, 0, 255, 606, false, false, false, false, F⟩ ⟨0, 0, .bool false, .int 606⟩ := rfl
theorem partC {X : Cx} (O : KenOK X kN) (cd : Value) (a0 a1 a2 a3 a4 a5 a6 a7 a8 a9 a10 a11 a12 a13 a14 a15 a16 a17 a18 a19 a20 a21 a22 a23 a24 a25 a26 : AO) {y f fh s sh ct g u0 u1 : Nat} {pp : Bool → Nat} (lg o b0 b1 b2 one : Int) {F1 Fm : Nat → Nat} (G : G3 y f fh s sh ct pp) (hu0 : u0 < 8) (hu1 : u1 < 8)
    (W0 : WF (c03 y f fh s sh ct) 1024 ⟨0, 0, 0, 255, 606, false, false, false, false, Fm⟩) (A : Lay y f fh s sh (pp false) (pp true) (g * u0) (g * u1) Fm) (hc0 : Fm ct = 0) (hF : ∀ i, i ≠ f → i ≠ fh → i ≠ s → i ≠ sh → i ≠ ct → Fm i = F1 i) (Q : PF)
    (hQ : ∀ loc as, as[0]? = some a0 → Q (.ret (.bool true)) loc as) :
    ExsS X 40 (F0 cd (LK lg (y : Int) (f : Int) (fh : Int) (s : Int) (sh : Int) (ct : Int) o b0 b1 b2 ((g * dvn u0 u1 7 : Nat) : Int) one)) (lawD.body.drop 28) (ZG a0 a1 a2 a3 a4 a5 a6 a7 a8 a9 a10 a11 a12 a13 a14 a15 a16 a17 a18 a19 a20 a21 a22 a23 a24 a25 a26 (memL 1024 Fm) (.intx [(pp false : Int), (pp true : Int)]) (.intx [((g * u0 : Nat) : Int), ((g * u1 : Nat) : Int)]) (.intx (memL 1024 F1)) ((pp false - y : Nat) : Int) f fh ((pp true - y : Nat) : Int) s sh) Q := by
  have hct := G.hct; have hf := G.hf; have hfh := G.hfh; have hs := G.hs; have hsh := G.hsh; have G0 := G.hp0; have G1 := G.hp1
  refine El_eeeaaaa (start3 G hu0 hu1 A hc0 ⟨0, 0, .bool false, .int 606⟩ W0 ⟨trivial, trivial⟩) fun k c' e' hk hr W' f' E => ?_
  have rzd := rz_dv (g := g) hu0 hu1
  have hS : ∃ n, St30 g (rz g u0 u1).1 (rz g u0 u1).2.1 n u0 u1 0 false := by
    unfold rz
    by_cases q : g * u1 = 0
    · rw [if_pos q]; exact ⟨0, .inl ⟨q, rfl, rfl⟩⟩
    · rw [if_neg q]
      have h1 : 0 < g := Nat.pos_of_ne_zero fun e => q (by rw [e, Nat.zero_mul])
      have h2 : 0 < u1 := Nat.pos_of_ne_zero fun e => q (by rw [e, Nat.mul_zero])
      refine El_eeeea (rn_some hu0 hu1 h2) fun cn h' d t e _ => ?_
      rw [e]; exact ⟨40, .inr ⟨h1, h2, cn, t, d, e, Nat.zero_add _⟩⟩
  obtain ⟨n, hS⟩ := hS
  revert E rzd hS
  generalize (rz g u0 u1).1 = CNT
  generalize (rz g u0 u1).2.1 = H
  generalize (rz g u0 u1).2.2 = D
  intro E rzd hS
  obtain ⟨hD, hC⟩ := rzd
  have fin := memL_congr (fin3 G E W'.m hC hF)
  rw [hD] at fin
  rw [body28]
  refine exs_app ((specX O 20).exs 40 (F0 cd (LK lg (y : Int) (f : Int) (fh : Int) (s : Int) (sh : Int) (ct : Int) o b0 b1 b2 ((g * dvn u0 u1 7 : Nat) : Int) one)) _ _ _ ?_)
  rw [l28 (c := 0) (h := 0)]
  refine exs_cons (st30 O cd a0 a1 a2 a3 a4 a5 a6 a7 a8 a9 a10 a11 a12 a13 a14 a15 a16 a17 a18 a19 a20 a21 a22 a23 a24 a25 a26 _ _ _ _ _ lg (y : Int) (f : Int) (fh : Int) (s : Int) (sh : Int) (ct : Int) o b0 b1 b2 ((g * dvn u0 u1 7 : Nat) : Int) one g u0 u1 CNT n H _ hS fun nu => ?_)
  have tail : ∀ hd : Int, ExsS X 40 (F0 cd (LN lg (y : Int) (f : Int) (fh : Int) (s : Int) (sh : Int) (ct : Int) o b0 b1 b2 ((g * dvn u0 u1 7 : Nat) : Int) one CNT (bI H) hd)) [stL 37, stL 38, stL 39, stL 40] (ZG a0 a1 a2 a3 a4 a5 a6 a7 a8 a9 a10 a11 a12 a13 a14 a15 a16 a17 a18 a19 a20 a21 a22 a23 a24 a25 a26 (memL 1024 Fm) (.intx [(pp false : Int), (pp true : Int)]) nu (.ints (memL 1024 (up (up (up (up (up (lay4 (lay4 F1 (pp false) (cond H 0 (g * dvn u0 u1 7))) (pp true) (cond H (g * dvn u0 u1 7) 0)) f ((pp H - y) % 256)) fh ((pp H - y) / 256)) s ((pp (!H) - y) % 256)) sh ((pp (!H) - y) / 256)) ct CNT))) ((pp false - y : Nat) : Int) f fh ((pp true - y : Nat) : Int) s sh) Q := fun hd => by
    refine exs_cons (st37 O cd a0 a1 a2 a3 a4 a5 a6 a7 a8 a9 a10 a11 a12 a13 a14 a15 a16 a17 a18 a19 a20 a21 a22 a23 a24 a25 a26 _ _ _ _ _ _ lg (y : Int) (f : Int) (fh : Int) (s : Int) (sh : Int) (ct : Int) o b0 b1 b2 ((g * dvn u0 u1 7 : Nat) : Int) one _ _ CNT _ (by lia) (memL_len _ _) fun ad => ?_)
    rw [stkL_F _ stkL (fun _ => rfl) stkL_succ (CNT + 1) (by lia)]
    refine exs_cons ((specX O 60).ex 40 (F0 cd (LQ lg (y : Int) (f : Int) (fh : Int) (s : Int) (sh : Int) (ct : Int) o b0 b1 b2 ((g * dvn u0 u1 7 : Nat) : Int) one CNT (bI H) hd CNT ad)) _ _ _ ?_)
    rw [l38]
    refine ⟨⟨by decide, by decide, by decide⟩, ⟨by decide, by decide, by decide⟩, ⟨by decide, by decide, by decide⟩, ⟨by decide, by decide, by decide⟩, ?_⟩
    rw [M0_ms]
    refine exs_cons (st39 O cd a0 a1 a2 a3 a4 a5 a6 a7 a8 a9 a10 a11 a12 a13 a14 a15 a16 a17 a18 a19 a20 a21 a22 a23 a24 a25 a26 _ _ _ (c03 y f fh s sh ct) rfl _ _ lg (y : Int) (f : Int) (fh : Int) (s : Int) (sh : Int) (ct : Int) o b0 b1 b2 ((g * dvn u0 u1 7 : Nat) : Int) one _ _ _ _ _ _ _ _ _ k hk hr ⟨trivial, trivial⟩ E.hpc _ fun t => ?_)
    refine exs_cons ((specX O 30).ex 40 (F0 cd (LT lg (y : Int) (f : Int) (fh : Int) (s : Int) (sh : Int) (ct : Int) o b0 b1 b2 ((g * dvn u0 u1 7 : Nat) : Int) one CNT (bI H) hd CNT ad t)) _ _ _ ?_)
    have bb := l40 cd a0 a1 a2 a3 a4 a5 a6 a7 a8 a9 a10 a11 a12 a13 a14 a15 a16 a17 a18 a19 a20 a21 a22 a23 a24 a25 a26 (.intx [(pp false : Int), (pp true : Int)]) nu (ms 1024 c' e') (memL 1024 (Fp3 F1 y f fh s sh ct pp H (g * dvn u0 u1 7) CNT)) ((pp false - y : Nat) : Int) ((pp true - y : Nat) : Int) lg (y : Int) (f : Int) (fh : Int) (s : Int) (sh : Int) (ct : Int) o b0 b1 b2 ((g * dvn u0 u1 7 : Nat) : Int) one CNT (bI H) hd CNT ad t
    dsimp only [ms] at bb
    refine Eq.mpr (bb _) ?_
    have e1 : [(c'.pc : Int), (c'.y : Int), (c'.sp : Int)] = [609, (y : Int) + 3, 255] := by
      rw [E.hpc, E.hy, E.hsp]; simp
    exact ifB_d e1 (retQ fin hQ _ _ rfl)
  cases H
  · refine exs_cons ((specX O 45).ex 40 (F0 cd (LM lg (y : Int) (f : Int) (fh : Int) (s : Int) (sh : Int) (ct : Int) o b0 b1 b2 ((g * dvn u0 u1 7 : Nat) : Int) one CNT 0)) _ _ _ ?_)
    rw [l31_0]
    refine ⟨⟨⟨by decide, by decide⟩, by decide, by decide⟩, ⟨⟨by decide, by decide⟩, by decide, by decide⟩, ?_⟩
    refine layP_ok (n := (g * dvn u0 u1 7)) 0 (by decide) i20 (by lia) (layP_ok (n := (g * dvn u0 u1 7)) 1 (by decide) i20 (by lia) (layP_ok (n := (g * dvn u0 u1 7)) 2 (by decide) i20 (by lia) (layP_ok (n := (g * dvn u0 u1 7)) 3 (by decide) i20 (by lia) ⟨⟨⟨by decide, by decide⟩, by decide, by decide⟩, ?_⟩)))
    refine layP_ok (n := 0) 0 (by decide) i21 (by lia) (layP_ok (n := 0) 1 (by decide) i21 (by lia) (layP_ok (n := 0) 2 (by decide) i21 (by lia) (layP_ok (n := 0) 3 (by decide) i21 (by lia) ?_)))
    rw [lay4_eq, lay4_eq]
    refine exs_app ((specX O 45).exs 40 (F0 cd (LN lg (y : Int) (f : Int) (fh : Int) (s : Int) (sh : Int) (ct : Int) o b0 b1 b2 ((g * dvn u0 u1 7 : Nat) : Int) one CNT 0 _)) _ _ _ ?_)
    rw [l32_0]
    refine ⟨⟨by decide, by decide⟩, ⟨by decide, by decide⟩, by decide, it_len (m := memL 1024 F1) (by simp only [List.length_set, memL_len]) (i1024 (by lia)), ⟨by decide, by decide⟩, ⟨by decide, by decide⟩, dpy256 _, it_len (m := memL 1024 F1) (by simp only [List.length_set, memL_len]) (i1024 (by (clear hf; lia))), ⟨by decide, by decide⟩, ⟨by decide, by decide⟩, by decide, it_len (m := memL 1024 F1) (by simp only [List.length_set, memL_len]) (i1024 (by (clear hf; lia))), ⟨by decide, by decide⟩, ⟨by decide, by decide⟩, dpy256 _, it_len (m := memL 1024 F1) (by simp only [List.length_set, memL_len]) (i1024 (by (clear hf; lia))), it_len (m := memL 1024 F1) (by simp only [List.length_set, memL_len]) (i1024 (by (clear hf; lia))), ?_⟩
    rw [memL_set' (a := f) rfl (fmod256 _) (by lia), memL_set' (a := fh) rfl (fdiv256 _) (by (clear hf; lia)), memL_set' (a := s) rfl (fmod256 _) (by (clear hf; lia)), memL_set' (a := sh) rfl (fdiv256 _) (by (clear hf; lia)), memL_set' (a := ct) (w := CNT) rfl rfl (by (clear hf; lia))]
    exact tail _
  · refine exs_cons ((specX O 45).ex 40 (F0 cd (LM lg (y : Int) (f : Int) (fh : Int) (s : Int) (sh : Int) (ct : Int) o b0 b1 b2 ((g * dvn u0 u1 7 : Nat) : Int) one CNT 1)) _ _ _ ?_)
    rw [l31_1]
    refine ⟨⟨⟨by decide, by decide⟩, by decide, by decide⟩, ⟨⟨by decide, by decide⟩, by decide, by decide⟩, ?_⟩
    refine layP_ok (n := 0) 0 (by decide) i20 (by lia) (layP_ok (n := 0) 1 (by decide) i20 (by lia) (layP_ok (n := 0) 2 (by decide) i20 (by lia) (layP_ok (n := 0) 3 (by decide) i20 (by lia) ⟨⟨⟨by decide, by decide⟩, by decide, by decide⟩, ?_⟩)))
    refine layP_ok (n := (g * dvn u0 u1 7)) 0 (by decide) i21 (by lia) (layP_ok (n := (g * dvn u0 u1 7)) 1 (by decide) i21 (by lia) (layP_ok (n := (g * dvn u0 u1 7)) 2 (by decide) i21 (by lia) (layP_ok (n := (g * dvn u0 u1 7)) 3 (by decide) i21 (by lia) ?_)))
    rw [lay4_eq, lay4_eq]
    refine exs_app ((specX O 45).exs 40 (F0 cd (LN lg (y : Int) (f : Int) (fh : Int) (s : Int) (sh : Int) (ct : Int) o b0 b1 b2 ((g * dvn u0 u1 7 : Nat) : Int) one CNT 1 _)) _ _ _ ?_)
    rw [l32_1]
    refine ⟨⟨by decide, by decide⟩, ⟨by decide, by decide⟩, by decide, it_len (m := memL 1024 F1) (by simp only [List.length_set, memL_len]) (i1024 (by lia)), ⟨by decide, by decide⟩, ⟨by decide, by decide⟩, dpy256 _, it_len (m := memL 1024 F1) (by simp only [List.length_set, memL_len]) (i1024 (by (clear hf; lia))), ⟨by decide, by decide⟩, ⟨by decide, by decide⟩, by decide, it_len (m := memL 1024 F1) (by simp only [List.length_set, memL_len]) (i1024 (by (clear hf; lia))), ⟨by decide, by decide⟩, ⟨by decide, by decide⟩, dpy256 _, it_len (m := memL 1024 F1) (by simp only [List.length_set, memL_len]) (i1024 (by (clear hf; lia))), it_len (m := memL 1024 F1) (by simp only [List.length_set, memL_len]) (i1024 (by (clear hf; lia))), ?_⟩
    rw [memL_set' (a := f) rfl (fmod256 _) (by lia), memL_set' (a := fh) rfl (fdiv256 _) (by (clear hf; lia)), memL_set' (a := s) rfl (fmod256 _) (by (clear hf; lia)), memL_set' (a := sh) rfl (fdiv256 _) (by (clear hf; lia)), memL_set' (a := ct) (w := CNT) rfl rfl (by (clear hf; lia))]
    exact tail _
end
end Mine
end
section
open PySem PySem.W PyProof.Rows
namespace Mine
noncomputable section

theorem layV_ok {F : Nat → Nat} {n p : Nat} {w : Int} {K : List Int → Prop} (k : Nat) (hk : k < 4) (hw : it 2 w) (hp : p + k < 1024) (h : K (memL 1024 (up F (p + k) (n / 256 ^ k % 256)))) : layV w (n : Int) (p : Int) (k : Int) (memL 1024 F) K := by
  refine ⟨hw, pw4 hk, dp4 hk _, by decide, hw, ⟨by lia, by rw [memL_len]; lia, by lia⟩, ?_⟩
  rw [memL_set' (a := p + k) (w := n / 256 ^ k % 256) (by lia) (by rw [pow256, fdiv_c, fmod256]) hp]
  exact h
noncomputable def cF (L : List Nat) (k : Nat) : Nat → Nat := fun i => if 512 ≤ i ∧ i < 512 + k then L.getD (i - 512) 0 else 170
theorem cF_zero (L : List Nat) : cF L 0 = fun _ => 170 := by funext i; unfold cF; rw [if_neg (by lia)]
theorem repL_n (n : Nat) : repL [170] n = memL n fun _ => 170 := by
  unfold repL memL
  refine List.ext_getElem (by simp) fun i h1 h2 => ?_
  have : ∀ x ∈ (List.replicate n [(170 : Int)]).flatten, x = 170 := fun x hx => by
    simp only [List.mem_flatten, List.mem_replicate] at hx
    obtain ⟨l, ⟨_, rfl⟩, hx⟩ := hx
    simpa using hx
  rw [this _ (List.getElem_mem h1)]
  simp
theorem repL_F : repL [170] 1024 = memL 1024 fun _ => 170 := repL_n 1024
theorem memE_F (L : List Nat) : ∀ k, k ≤ L.length → L.length ≤ 512 → memE (L.map fun (b : Nat) => (b : Int)) k = memL 1024 (cF L k)
  | 0, _, _ => by rw [cF_zero]; exact repL_F
  | k + 1, h, h2 => by
    unfold memE
    rw [memE_F L k (by lia) h2]
    have e : (L.map fun (b : Nat) => (b : Int)).getD k 0 = ((L.getD k 0 : Nat) : Int) := by
      rw [List.getD_eq_getElem?_getD, List.getElem?_map, List.getD_eq_getElem?_getD]
      cases L[k]? <;> rfl
    rw [e, memL_set (by lia)]
    refine memL_congr fun i hi => ?_
    unfold cF up
    by_cases q : i = 512 + k
    · subst q; rw [if_pos rfl, if_pos (by lia), show 512 + k - 512 = k by lia]
    · rw [if_neg q]
      show (if 512 ≤ i ∧ i < 512 + k then L.getD (i - 512) 0 else 170) = _
      by_cases q2 : 512 ≤ i ∧ i < 512 + k
      · rw [if_pos q2, if_pos (by lia)]
      · rw [if_neg q2, if_neg (by lia)]
theorem ptrL_F {F : Nat → Nat} {q b c : Nat} (hb : b < 1024) (hc : c < 1024) : ptrL (memL 1024 F) (q : Int) (b : Int) (c : Int) = memL 1024 (up (up F b (q % 256)) c (q / 256)) := by
  unfold ptrL
  rw [memL_set' rfl (fmod256 q) hb, memL_set' rfl (fdiv256 q) hc]
theorem memL_set0 {F : Nat → Nat} {a : Nat} (h : a < 1024) : (memL 1024 F).set (a : Int).toNat 0 = memL 1024 (up F a 0) := memL_set' rfl rfl h
theorem mul64s (lg : Int) : ∀ k : Nat, k < 7 → mul64 lg (1 + k) := fun k hk => .inr (by
  rcases (show k = 0 ∨ k = 1 ∨ k = 2 ∨ k = 3 ∨ k = 4 ∨ k = 5 ∨ k = 6 by lia) with rfl | rfl | rfl | rfl | rfl | rfl | rfl <;> decide +kernel)
theorem dvF_n (g u0 u1 : Nat) : ∀ k, dvF (g : Int) (u0 : Int) (u1 : Int) k = ((g * dvn u0 u1 k : Nat) : Int)
  | 0 => by unfold dvF dvn; simp
  | k + 1 => by
    rw [dvF_succ]
    have c0 : ∀ u : Nat, (((u : Int).fmod (1 + (k : Int))) == 0) = decide (u % (1 + k) = 0) := fun u => by
      rw [show (1 + (k : Int)) = ((1 + k : Nat) : Int) by lia, fmod_c, z_dec]
    have c1 : (!decide ([(u0 : Int), (u1 : Int)] = [0, 0])) = decide (¬ (u0 = 0 ∧ u1 = 0)) := by
      have : ([(u0 : Int), (u1 : Int)] = [0, 0]) ↔ (u0 = 0 ∧ u1 = 0) := by
        constructor
        · intro h; injection h with h1 h2; injection h2 with h2 _; exact ⟨by lia, by lia⟩
        · rintro ⟨rfl, rfl⟩; rfl
      by_cases q : u0 = 0 ∧ u1 = 0
      · rw [decide_eq_true (this.mpr q), decide_eq_false (not_not_intro q)]; rfl
      · rw [decide_eq_false (fun h => q (this.mp h)), decide_eq_true q]; rfl
    rw [c0, c0, c1]
    show _ = ((g * (if u0 % (1 + k) = 0 ∧ u1 % (1 + k) = 0 ∧ ¬ (u0 = 0 ∧ u1 = 0) then 1 + k else dvn u0 u1 k) : Nat) : Int)
    by_cases q : u0 % (1 + k) = 0 ∧ u1 % (1 + k) = 0 ∧ ¬ (u0 = 0 ∧ u1 = 0)
    · rw [if_pos q, if_pos (by rw [decide_eq_true q.1, decide_eq_true q.2.1, decide_eq_true q.2.2]; rfl)]
      rw [show (1 + (k : Int)) = ((1 + k : Nat) : Int) by lia]; simp
    · rw [if_neg q, dvF_n g u0 u1 k, if_neg]
      intro h
      simp only [Bool.and_eq_true, decide_eq_true_eq] at h
      exact q ⟨h.1.1, h.1.2, h.2⟩
theorem intBits_lt {u : Nat} (h : u < 8) : Builtin.Int.intBits (u : Int) ≤ 64 := by
  rcases (show u = 0 ∨ u = 1 ∨ u = 2 ∨ u = 3 ∨ u = 4 ∨ u = 5 ∨ u = 6 ∨ u = 7 by lia) with rfl | rfl | rfl | rfl | rfl | rfl | rfl | rfl <;> decide +kernel
theorem body18 : lawD.body.drop 18 = stL 18 :: (stG 19 21 ++ (stL 21 :: (stG 22 24 ++ (stL 24 :: (stG 25 27 ++ (stL 27 :: lawD.body.drop 28)))))) := by kernel_rfl
theorem body0 : lawD.body = stL 0 :: (stG 1 6 ++ (stG 6 12 ++ (stG 12 18 ++ lawD.body.drop 18))) := by kernel_rfl
theorem code_c (y f fh s sh ct : Nat) : tCode (y : Int) f fh s sh ct = (c03 y f fh s sh ct).map fun (b : Nat) => (b : Int) := by kernel_rfl
section
variable {y f fh s sh ct : Nat} {pp : Bool → Nat}
theorem ne5 (G : G3 y f fh s sh ct pp) : (f ≠ fh ∧ f ≠ s ∧ f ≠ sh) ∧ (fh ≠ s ∧ fh ≠ sh) ∧ s ≠ sh := by
  have hf := G.hf; have hfh := G.hfh; have hs := G.hs; have hsh := G.hsh
  refine ⟨⟨?_, ?_, ?_⟩, ⟨?_, ?_⟩, ?_⟩ <;> lia
noncomputable abbrev Fm5 (F : Nat → Nat) (f fh s sh ct w1 w2 w3 w4 : Nat) : Nat → Nat := up (up (up (up (up F f w1) fh w2) s w3) sh w4) ct 0
theorem hi5 (G : G3 y f fh s sh ct pp) {F : Nat → Nat} {w1 w2 w3 w4 i : Nat} (h : 256 ≤ i) : Fm5 F f fh s sh ct w1 w2 w3 w4 i = F i := by
  refine El_aaaa (bd G) fun b1 b2 b3 b4 b5 => ?_
  unfold Fm5
  rw [up_ne (Nat.ne_of_gt (Nat.lt_of_lt_of_le b5 h)), up_ne (Nat.ne_of_gt (Nat.lt_of_lt_of_le b4 h)), up_ne (Nat.ne_of_gt (Nat.lt_of_lt_of_le b3 h)), up_ne (Nat.ne_of_gt (Nat.lt_of_lt_of_le b2 h)), up_ne (Nat.ne_of_gt (Nat.lt_of_lt_of_le b1 h))]
theorem bound_up {F : Nat → Nat} {k v : Nat} (h1 : ∀ i, F i < 256) (h2 : v < 256) : ∀ i, up F k v i < 256 := fun i => by unfold up; split; exact h2; exact h1 i
theorem m256 (n : Nat) : n % 256 < 256 := Nat.mod_lt _ (by decide)
theorem bound_lay {F : Nat → Nat} (p n : Nat) (h : ∀ i, F i < 256) : ∀ i, lay4 F p n i < 256 := by
  unfold lay4; exact bound_up (bound_up (bound_up (bound_up h (m256 _)) (m256 _)) (m256 _)) (m256 _)
theorem hcode (G : G3 y f fh s sh ct pp) : ∀ x ∈ c03 y f fh s sh ct, x < 256 := by
  refine El_aaaa (bd G) fun b1 b2 b3 b4 b5 => ?_
  have b6 : y < 256 := Nat.lt_of_le_of_lt G.hy (by decide)
  unfold c03
  repeat first
    | exact fun x hx => absurd hx List.not_mem_nil
    | refine List.forall_mem_cons.mpr ⟨by first | assumption | decide, ?_⟩
theorem hcF (G : G3 y f fh s sh ct pp) : ∀ i, cF (c03 y f fh s sh ct) 97 i < 256 := fun i => by
  unfold cF; split
  · rename_i q
    have hl : i - 512 < (c03 y f fh s sh ct).length := by show _ < 97; lia
    rw [List.getD_eq_getElem?_getD, List.getElem?_eq_getElem hl]
    exact hcode G _ (List.getElem_mem hl)
  · decide
theorem ptr_at {p : Nat} (h : y ≤ p) : (p - y) % 256 + 256 * ((p - y) / 256) + y = p := by lia
theorem v4_out {F : Nat → Nat} {p n q : Nat} (h : q + 4 ≤ p ∨ p + 4 ≤ q) : v4 (lay4 F p n) q = v4 F q := by
  unfold v4; rw [lay4_out (by lia), lay4_out (by lia), lay4_out (by lia), lay4_out (by lia)]
theorem lay5 (G : G3 y f fh s sh ct pp) {F : Nat → Nat} {A B p q : Nat} (hp : 768 ≤ p) (hq : 768 ≤ q) (e1 : v4 F p = A) (e2 : v4 F q = B) :
    Lay y f fh s sh p q A B (Fm5 F f fh s sh ct ((p - y) % 256) ((p - y) / 256) ((q - y) % 256) ((q - y) / 256)) := by
  refine El_aa (ne5 G) fun hc0 hc1 n6 => ?_; obtain ⟨n1, n2, n3⟩ := hc0; obtain ⟨n4, n5⟩ := hc1
  refine El_aa (nct G) fun hc0 m3 m4 => ?_; obtain ⟨m1, m2⟩ := hc0
  have hy : y ≤ 768 := Nat.le_trans G.hy (by decide)
  refine ⟨?_, ?_, ?_, ?_⟩
  · unfold Fm5; rw [up_ne m1, up_ne n3, up_ne n2, up_ne n1, up_eq rfl, up_ne m2, up_ne n5, up_ne n4, up_eq rfl]; exact ptr_at (Nat.le_trans hy hp)
  · unfold Fm5; rw [up_ne m3, up_ne n6, up_eq rfl, up_ne m4, up_eq rfl]; exact ptr_at (Nat.le_trans hy hq)
  · unfold v4; rw [hi5 G (by lia), hi5 G (by lia), hi5 G (by lia), hi5 G (by lia)]; exact e1
  · unfold v4; rw [hi5 G (by lia), hi5 G (by lia), hi5 G (by lia), hi5 G (by lia)]; exact e2
theorem cod5 (G : G3 y f fh s sh ct pp) {n0 n1 w1 w2 w3 w4 i b : Nat} (h : (c03 y f fh s sh ct)[i]? = some b) : Fm5 (lay4 (lay4 (cF (c03 y f fh s sh ct) 97) (pp false) n0) (pp true) n1) f fh s sh ct w1 w2 w3 w4 (512 + i) = b := by
  have hl : i < 97 := (List.getElem?_eq_some_iff.mp h).1
  have G0 := G.hp0; have G1 := G.hp1
  rw [hi5 G (Nat.le_trans (by decide) (Nat.le_add_right 512 i)), lay4_out (.inl (by lia)), lay4_out (.inl (by lia))]
  unfold cF
  rw [if_pos ⟨Nat.le_add_right _ _, Nat.add_lt_add_left hl _⟩, Nat.add_sub_cancel_left, List.getD_eq_getElem?_getD, h]; rfl
theorem all5 (G : G3 y f fh s sh ct pp) {n0 n1 : Nat} : ∀ i, Fm5 (lay4 (lay4 (cF (c03 y f fh s sh ct) 97) (pp false) n0) (pp true) n1) f fh s sh ct ((pp false - y) % 256) ((pp false - y) / 256) ((pp true - y) % 256) ((pp true - y) / 256) i < 256 := by
  have G0 := G.hp0; have G1 := G.hp1
  exact bound_up (bound_up (bound_up (bound_up (bound_up (bound_lay _ _ (bound_lay _ _ (hcF G))) (m256 _)) (by lia)) (m256 _)) (by lia)) (by decide)
end
theorem partB {X : Cx} (O : KenOK X kN) (hpin : X.T.pin = []) (cd : Value) (a0 a1 a2 a3 a4 a7 a8 a9 a10 a11 a12 a13 a14 a15 a16 a17 a18 a19 a20 a21 a22 a23 a25 a26 : AO) {y f fh s sh ct g u0 u1 : Nat} {pp : Bool → Nat} (d0 d1 d2 d3 d4 : Int) (G : G3 y f fh s sh ct pp) (hg : g < 2 ^ 62) (hu0 : u0 < 8) (hu1 : u1 < 8) (hp0 : 768 + (d1 + d2).fmod 120 = ((pp false : Nat) : Int)) (hp1 : 896 + (3 * d1 + d2).fmod 120 = ((pp true : Nat) : Int))
    (hgb : g * 7 < 4294967296)
    (hz : ∀ (m xs ys zs : List Int) (q0 f1 fh1 q1 s1 sh1 : Int), scOs 34 (ZG a0 a1 a2 a3 a4 (.intx [d0, d1, d2, d3, d4]) (.intx [(u0 : Int), (u1 : Int)]) a7 a8 a9 a10 a11 a12 a13 a14 a15 a16 a17 a18 a19 a20 a21 a22 a23 (.intx (tCode (y : Int) f fh s sh ct)) a25 a26 m (.intx xs) (.intx ys) (.intx zs) q0 f1 fh1 q1 s1 sh1) = true) (Q : PF) (hQ : ∀ loc as, as[0]? = some a0 → Q (.ret (.bool true)) loc as) :
    ExsS X 40 (F0 cd (LD (g : Int) (y : Int) (f : Int) (fh : Int) (s : Int) (sh : Int) (ct : Int))) (lawD.body.drop 18) [a0, a1, a2, a3, a4, .intx [d0, d1, d2, d3, d4], .intx [(u0 : Int), (u1 : Int)], a7, a8, a9, a10, a11, a12, a13, a14, a15, a16, a17, a18, a19, a20, a21, a22, a23, .intx (tCode (y : Int) f fh s sh ct), a25, a26, .intx (repL [170] 1024)] Q := by
  have hct := G.hct; have hf := G.hf; have hfh := G.hfh; have hs := G.hs; have hsh := G.hsh; have G0 := G.hp0; have G1 := G.hp1; have hy := G.hy
  have hC : (tCode (y : Int) f fh s sh ct).length = 97 := by rw [code_c, List.length_map]; rfl
  have hM : memE (tCode (y : Int) f fh s sh ct) 97 = memL 1024 (cF (c03 y f fh s sh ct) 97) := by rw [code_c]; exact memE_F _ 97 (Nat.le_refl _) (by show (97 : Nat) ≤ 512; decide)
  rw [body18]
  refine exs_cons (st18 O cd a0 a1 a2 a3 a4 (.intx [d0, d1, d2, d3, d4]) (.intx [(u0 : Int), (u1 : Int)]) a7 a8 a9 a10 a11 a12 a13 a14 a15 a16 a17 a18 a19 a20 a21 a22 a23 a25 a26 _ (g : Int) (y : Int) (f : Int) (fh : Int) (s : Int) (sh : Int) (ct : Int) _ (by rw [hC]; decide) (by rw [hC]; decide) ?_)
  rw [hC, hM]
  refine exs_app ((specX O 30).exs 40 (F0 cd (LE (g : Int) (y : Int) (f : Int) (fh : Int) (s : Int) (sh : Int) (ct : Int) _ _)) _ _ _ ?_)
  rw [l19]
  have r5 : ∀ k : Nat, k < 5 → rd5 (k : Int) := fun k hk => ⟨by lia, by lia, by lia⟩
  refine ⟨r5 1 (by decide), r5 2 (by decide), by decide, r5 1 (by decide), .inl (by decide +kernel), r5 2 (by decide), by decide, i20, .inr (intBits_lt hu0), i21, .inr (intBits_lt hu1), ?_⟩
  rw [hp0, hp1, show (g : Int) * (u0 : Int) = ((g * u0 : Nat) : Int) by simp, show (g : Int) * (u1 : Int) = ((g * u1 : Nat) : Int) by simp]
  refine exs_cons ((specX O 45).ex 40 (F0 cd (LF (LE (g : Int) (y : Int) (f : Int) (fh : Int) (s : Int) (sh : Int) (ct : Int) _ _))) _ _ _ ?_)
  rw [l21]
  refine ⟨⟨⟨by decide, by decide⟩, by decide, by decide⟩, ⟨⟨by decide, by decide⟩, by decide, by decide⟩, ?_⟩
  refine layV_ok (n := g * u0) 0 (by decide) i20 (by lia) (layV_ok (n := g * u0) 1 (by decide) i20 (by lia) (layV_ok (n := g * u0) 2 (by decide) i20 (by lia) (layV_ok (n := g * u0) 3 (by decide) i20 (by lia) ⟨⟨⟨by decide, by decide⟩, by decide, by decide⟩, ?_⟩)))
  refine layV_ok (n := g * u1) 0 (by decide) i21 (by lia) (layV_ok (n := g * u1) 1 (by decide) i21 (by lia) (layV_ok (n := g * u1) 2 (by decide) i21 (by lia) (layV_ok (n := g * u1) 3 (by decide) i21 (by lia) ?_)))
  rw [lay4_eq, lay4_eq]
  refine exs_app ((specX O 45).exs 40 (F0 cd (LG (g : Int) (y : Int) (f : Int) (fh : Int) (s : Int) (sh : Int) (ct : Int) 3 _ 1)) _ _ _ ?_)
  rw [l22]
  refine ⟨by rw [memL_len]; decide, i20, i21, ?_⟩
  rw [show ((pp false : Nat) : Int) - (y : Int) = ((pp false - y : Nat) : Int) by lia, show ((pp true : Nat) : Int) - (y : Int) = ((pp true - y : Nat) : Int) by lia]
  refine exs_cons (st24 O cd a0 a1 a2 a3 a4 (.intx [d0, d1, d2, d3, d4]) (.intx [(u0 : Int), (u1 : Int)]) a7 a8 a9 a10 a11 a12 a13 a14 a15 a16 a17 a18 a19 a20 a21 a22 a23 (.intx (tCode (y : Int) f fh s sh ct)) a25 a26 _ _ _ _ _ _ (g : Int) (y : Int) (f : Int) (fh : Int) (s : Int) (sh : Int) (ct : Int) _ _ (memL_len _ _) (by lia) (by lia) (by lia) (by lia) ?_)
  rw [ptrL_F (by lia) (by lia), ptrL_F (by lia) (by lia)]
  refine exs_app ((specX O 20).exs 40 (F0 cd (LI (g : Int) (y : Int) (f : Int) (fh : Int) (s : Int) (sh : Int) (ct : Int) _ _ _ _)) _ _ _ ?_)
  rw [l25]
  refine ⟨i1024 (by lia), ?_⟩
  rw [memL_set0 (by lia)]
  refine exs_cons (st27 O hpin cd a0 a1 a2 a3 a4 (.intx [d0, d1, d2, d3, d4]) a7 a8 a9 a10 a11 a12 a13 a14 a15 a16 a17 a18 a19 a20 a21 a22 a23 (.intx (tCode (y : Int) f fh s sh ct)) a25 a26 _ _ _ _ (u0 : Int) (u1 : Int) _ _ (g : Int) (y : Int) (f : Int) (fh : Int) (s : Int) (sh : Int) (ct : Int) _ _ _ _ _ ⟨by lia, by lia⟩ (hz _ _ _ _ _ _ _ _ _ _) (mul64s _) ?_)
  rw [dvF_n]
  have nb0 : g * u0 < 4294967296 := by have := Nat.mul_le_mul_left g (show u0 ≤ 7 by lia); lia
  have nb1 : g * u1 < 4294967296 := by have := Nat.mul_le_mul_left g (show u1 ≤ 7 by lia); lia
  refine partC O cd a0 a1 a2 a3 a4 (.intx [d0, d1, d2, d3, d4]) (.intx [(u0 : Int), (u1 : Int)]) a7 a8 a9 a10 a11 a12 a13 a14 a15 a16 a17 a18 a19 a20 a21 a22 a23 (.intx (tCode (y : Int) f fh s sh ct)) a25 a26 (g : Int) _ _ _ _ _ (F1 := lay4 (lay4 (cF (c03 y f fh s sh ct) 97) (pp false) (g * u0)) (pp true) (g * u1)) G hu0 hu1 ⟨Nat.zero_lt_succ _, Nat.zero_lt_succ _, Nat.zero_lt_succ _, (by dsimp only; lia), ?_, fun i b hib => ?_, by show 512 + 97 ≤ 1024; decide, by decide, (by dsimp only; lia)⟩ ?_ ?_ (fun i i1 i2 i3 i4 i5 => ?_) Q hQ
  · exact all5 G
  · exact cod5 G hib
  · exact (lay5 G (F := lay4 (lay4 (cF (c03 y f fh s sh ct) 97) (pp false) (g * u0)) (pp true) (g * u1)) (Nat.le_trans (by decide) G0.1) (Nat.le_trans (by decide) G1.1) ((v4_out (.inl (by lia))).trans (v4l _ _ _ nb0)) (v4l _ _ _ nb1))
  · exact up_eq rfl
  · rw [up_ne i5, up_ne i4, up_ne i3, up_ne i2, up_ne i1]
end
end Mine
end
section
open PySem PySem.W PyProof.Rows
namespace Mine
noncomputable section
theorem nat_of {x : Int} (h : 0 ≤ x) : ∃ n : Nat, x = n := ⟨x.toNat, by lia⟩
theorem fm_pos (a : Int) {b : Int} (h : 0 < b) : 0 ≤ a.fmod b ∧ a.fmod b < b := ⟨Int.fmod_nonneg_of_pos a h, Int.fmod_lt_of_pos a h⟩
theorem five {l : List Int} (h : l.length = 5) : ∃ a b c d e, l = [a, b, c, d, e] := by
  match l, h with
  | [a, b, c, d, e], _ => exact ⟨a, b, c, d, e, rfl⟩
theorem drawn5 (ns : List Int) : (ns.take 5 ++ dfl5.drop ns.length).length = 5 := by
  rw [List.length_append, List.length_take, List.length_drop]
  show min 5 ns.length + (5 - ns.length) = 5
  omega
theorem law03 {X : Cx} (O : KenOK X kN) (hpin : X.T.pin = []) (cd : Value) (ob : Obj) (ns : List Int) (hI : FixI ob ns) (hl : ns.length ≤ 63) (Q : PF) (hQ : ∀ loc as, as[0]? = some (.fix ob) → Q (.ret (.bool true)) loc as) :
    ExsS X 40 (F0 cd lsc) lawD.body [.fix ob, .cell none] Q := by
  rw [body0]
  refine exs_cons ((specX O 30).ex 40 (F0 cd lsc) _ _ _ ?_)
  rw [ls0]
  refine ⟨ns, hI, by lia, by decide, ns, hI, by lia, by decide, by lia, ?_, ?_⟩
  · have := drawn5 ns
    rw [List.length_append] at this
    lia
  refine El_eeeee (five (drawn5 ns)) fun d0 d1 d2 d3 d4 hD => ?_
  rw [hD]
  refine exs_app ((specX O 40).exs 40 (F0 cd (lsc ++ [(nDrawn, .obj 5)])) _ ([.fix ob, .cell none] ++ Z2 ns ++ [.intx [d0, d1, d2, d3, d4]]) _ ?_)
  rw [lsA]
  have r5 : ∀ k : Nat, k < 5 → rd5 (k : Int) := fun k hk => ⟨by lia, by lia, by lia⟩
  refine ⟨r5 3 (by decide), .inl (by decide +kernel), r5 4 (by decide), by decide, r5 0 (by decide), by decide, r5 0 (by decide), ⟨by decide, PyProof.noPylong_small (by decide)⟩, by decide, r5 1 (by decide), by decide, r5 2 (by decide), by decide,
    ⟨⟨⟨by decide, by decide⟩, by decide, by decide⟩, by decide⟩, by decide, by decide, by decide, by decide, by decide, rfl, ?_⟩
  show ExsS X 40 (F0 cd (LL (vLarge d3 d4) (d2.fmod 253) (cl d1 0) (cl d1 1) (cl d1 2) (cl d1 3) (cl d1 4))) (stG 6 12 ++ (stG 12 18 ++ lawD.body.drop 18)) [.fix ob, .cell (some (.int (d1.fmod 256))), .intx (ns.take 5), .intx dfl5, .intx (dfl5.drop ns.length), .intx [d0, d1, d2, d3, d4], .intx [d0.fmod 8, (d0.fdiv 8).fmod 8], .intx [cl d1 0, cl d1 1, cl d1 2, cl d1 3, cl d1 4]] Q
  obtain ⟨g, hg⟩ := nat_of (show 0 ≤ vLarge d3 d4 from (fm_pos _ (by decide)).1)
  have hg2 : vLarge d3 d4 < 613566756 := (fm_pos _ (by decide)).2
  obtain ⟨y, hy⟩ := nat_of (fm_pos d2 (b := 253) (by decide)).1
  have hy2 := (fm_pos d2 (b := 253) (by decide)).2
  obtain ⟨c, hc⟩ := nat_of (fm_pos d1 (b := 256) (by decide)).1
  have hc2 := (fm_pos d1 (b := 256) (by decide)).2
  obtain ⟨u0, hu0⟩ := nat_of (fm_pos d0 (b := 8) (by decide)).1
  have hu0' := (fm_pos d0 (b := 8) (by decide)).2
  obtain ⟨u1, hu1⟩ := nat_of (fm_pos (d0.fdiv 8) (b := 8) (by decide)).1
  have hu1' := (fm_pos (d0.fdiv 8) (b := 8) (by decide)).2
  obtain ⟨P0, hP0⟩ := nat_of (show 0 ≤ 768 + (d1 + d2).fmod 120 by have := (fm_pos (d1 + d2) (b := 120) (by decide)).1; omega)
  have hP0' := (fm_pos (d1 + d2) (b := 120) (by decide))
  obtain ⟨P1, hP1⟩ := nat_of (show 0 ≤ 896 + (3 * d1 + d2).fmod 120 by have := (fm_pos (3 * d1 + d2) (b := 120) (by decide)).1; omega)
  have hP1' := (fm_pos (3 * d1 + d2) (b := 120) (by decide))
  have hcl : ∀ k : Nat, cl d1 (k : Int) = (((c + k) % 256 : Nat) : Int) := fun k => by
    unfold cl; rw [hc, show (c : Int) + (k : Int) = ((c + k : Nat) : Int) by lia]; exact fmod256 _
  have h0 : cl d1 0 = (((c + 0) % 256 : Nat) : Int) := hcl 0
  have h1 : cl d1 1 = (((c + 1) % 256 : Nat) : Int) := hcl 1
  have h2 : cl d1 2 = (((c + 2) % 256 : Nat) : Int) := hcl 2
  have h3 : cl d1 3 = (((c + 3) % 256 : Nat) : Int) := hcl 3
  have h4 : cl d1 4 = (((c + 4) % 256 : Nat) : Int) := hcl 4
  rw [hg] at hg2
  rw [hy] at hy2
  rw [hc] at hc2
  rw [hu0] at hu0'
  rw [hu1] at hu1'
  have G : G3 y ((c + 0) % 256) ((c + 1) % 256) ((c + 2) % 256) ((c + 3) % 256) ((c + 4) % 256) (fun b => cond b P1 P0) :=
    ⟨by (clear hy; lia), by (clear hc hc2; lia), by lia, by lia, by lia, by lia, by simp only [cond]; omega, by simp only [cond]; omega⟩
  have pB := fun Q hQ => partB O hpin cd (.fix ob) (.cell (some (.int (d1.fmod 256)))) (.intx (ns.take 5)) (.intx dfl5) (.intx (dfl5.drop ns.length)) (.intx [(((c + 0) % 256 : Nat) : Int), (((c + 1) % 256 : Nat) : Int), (((c + 2) % 256 : Nat) : Int), (((c + 3) % 256 : Nat) : Int), (((c + 4) % 256 : Nat) : Int)])
    (.intx (tTests (y : Int) ((c + 2) % 256 : Nat))) (.intx (tLook1 (y : Int) ((c + 0) % 256 : Nat) ((c + 2) % 256 : Nat))) (.intx (tLook2 ((c + 0) % 256 : Nat) ((c + 2) % 256 : Nat))) (.intx (repL (tLook2 ((c + 0) % 256 : Nat) ((c + 2) % 256 : Nat)) 3)) (.intx (tLooks (y : Int) ((c + 0) % 256 : Nat) ((c + 2) % 256 : Nat)))
    (.intx (tSwaps ((c + 0) % 256 : Nat) ((c + 1) % 256 : Nat) ((c + 2) % 256 : Nat) ((c + 3) % 256 : Nat))) (.intx (tSwap2 ((c + 1) % 256 : Nat) ((c + 3) % 256 : Nat))) (.intx (tTake1 (y : Int) ((c + 0) % 256 : Nat) ((c + 2) % 256 : Nat))) (.intx (tTake2 ((c + 0) % 256 : Nat) ((c + 2) % 256 : Nat))) (.intx (repL (tTake2 ((c + 0) % 256 : Nat) ((c + 2) % 256 : Nat)) 3))
    (.intx (tTakes (y : Int) ((c + 0) % 256 : Nat) ((c + 2) % 256 : Nat) ((c + 4) % 256 : Nat))) (.intx (tTake3 ((c + 4) % 256 : Nat))) (.intx (tTests (y : Int) ((c + 2) % 256 : Nat) ++ tLooks (y : Int) ((c + 0) % 256 : Nat) ((c + 2) % 256 : Nat))) (.intx [176, 19]) (.intx ((tTests (y : Int) ((c + 2) % 256 : Nat) ++ tLooks (y : Int) ((c + 0) % 256 : Nat) ((c + 2) % 256 : Nat)) ++ [176, 19]))
    (.intx (((tTests (y : Int) ((c + 2) % 256 : Nat) ++ tLooks (y : Int) ((c + 0) % 256 : Nat) ((c + 2) % 256 : Nat)) ++ [176, 19]) ++ tSwaps ((c + 0) % 256 : Nat) ((c + 1) % 256 : Nat) ((c + 2) % 256 : Nat) ((c + 3) % 256 : Nat))) (.intx [32, 0, 2]) (.intx [170]) (g := g) (u0 := u0) (u1 := u1) d0 d1 d2 d3 d4 G (by lia) (by (clear hu0; lia)) (by omega) hP0 hP1 (by lia)
    (fun m xs ys zs q0 f1 fh1 q1 s1 sh1 => by kernel_rfl) Q hQ
  rw [hg, hy, hc, hu0, hu1, h0, h1, h2, h3, h4]
  rw [hc] at pB
  clear hg hy hc hu0 hu1 h0 h1 h2 h3 h4 hcl
  revert G pB
  generalize (c + 0) % 256 = f
  generalize (c + 1) % 256 = fh
  generalize (c + 2) % 256 = s
  generalize (c + 3) % 256 = sh
  generalize (c + 4) % 256 = ct
  intro G pB
  refine exs_app ((specX O 60).exs 40 (F0 cd (LL (g : Int) (y : Int) f fh s sh ct)) _ _ _ ?_)
  rw [lsB]
  refine ⟨⟨by decide, by decide, by decide, by decide⟩, by decide, by decide, ⟨by decide, by decide, by decide, by decide⟩, by decide, by decide, by decide, ?_⟩
  refine exs_app ((specX O 60).exs 40 (F0 cd (LB (LL (g : Int) (y : Int) f fh s sh ct))) _ _ _ ?_)
  rw [lsC]
  refine ⟨by decide, by decide, by decide, by decide, by decide, by decide, by decide, ⟨by decide, by decide, by decide, by decide⟩, ?_⟩
  exact pB Q hQ
end
end Mine

end
section
open PySem PySem.W PyProof.Rows
namespace Mine
noncomputable section
theorem p2a (w : World) (os : OsState) (k : Result → Sem Fin) : piece w os k 1000 16 36 := by kernel_rfl
theorem p2b (w : World) (os : OsState) (k : Result → Sem Fin) : piece w os k 1000 36 56 := by kernel_rfl
theorem p2x (w : World) (os : OsState) (k : Result → Sem Fin) : Rn w os k 2000 16 56 := Rn_tr rfl (Rn_of rfl (p2a w os k)) (Rn_of rfl (p2b w os k))
theorem p3a (w : World) (os : OsState) (k : Result → Sem Fin) : piece w os k 1000 56 76 := by kernel_rfl
theorem p3b (w : World) (os : OsState) (k : Result → Sem Fin) : piece w os k 1000 76 96 := by kernel_rfl
theorem p3x (w : World) (os : OsState) (k : Result → Sem Fin) : Rn w os k 2000 56 96 := Rn_tr rfl (Rn_of rfl (p3a w os k)) (Rn_of rfl (p3b w os k))
theorem p4a (w : World) (os : OsState) (k : Result → Sem Fin) : piece w os k 1000 96 116 := by kernel_rfl
theorem p4b (w : World) (os : OsState) (k : Result → Sem Fin) : piece w os k 1000 116 136 := by kernel_rfl
theorem p4x (w : World) (os : OsState) (k : Result → Sem Fin) : Rn w os k 2000 96 136 := Rn_tr rfl (Rn_of rfl (p4a w os k)) (Rn_of rfl (p4b w os k))
theorem p5a (w : World) (os : OsState) (k : Result → Sem Fin) : piece w os k 1000 136 156 := by kernel_rfl
theorem p5b (w : World) (os : OsState) (k : Result → Sem Fin) : piece w os k 1000 156 176 := by kernel_rfl
theorem p5x (w : World) (os : OsState) (k : Result → Sem Fin) : Rn w os k 2000 136 176 := Rn_tr rfl (Rn_of rfl (p5a w os k)) (Rn_of rfl (p5b w os k))
theorem p6a (w : World) (os : OsState) (k : Result → Sem Fin) : piece w os k 1000 176 195 := by kernel_rfl
theorem p6b (w : World) (os : OsState) (k : Result → Sem Fin) : piece w os k 1000 195 214 := by kernel_rfl
theorem p6x (w : World) (os : OsState) (k : Result → Sem Fin) : Rn w os k 2000 176 214 := Rn_tr rfl (Rn_of rfl (p6a w os k)) (Rn_of rfl (p6b w os k))
theorem p7a (w : World) (os : OsState) (k : Result → Sem Fin) : piece w os k 2000 214 215 := by kernel_rfl
theorem p7x (w : World) (os : OsState) (k : Result → Sem Fin) : Rn w os k 2000 214 215 := Rn_of rfl (p7a w os k)
theorem p8a (w : World) (os : OsState) (k : Result → Sem Fin) : piece w os k 2000 215 217 := by kernel_rfl
theorem p8x (w : World) (os : OsState) (k : Result → Sem Fin) : Rn w os k 2000 215 217 := Rn_of rfl (p8a w os k)
end
end Mine

end
section
open PySem PySem.W PyProof.Rows
namespace Mine
noncomputable section
theorem reads_in {w : World} {s₀ s₁ : Shared} {args : List WData} {vals : List Value} {as : List Addr} (hpre : RW.row.toRowW.claim.pre args = true) (hlay : WData.layableAll args = true) (hrd : ReadsAllW RW.row.toRowW.records (classAt s₀.heap) s₁.heap vals args as) (hwl : WellAll w.params s₁.heap vals args) (hlo : ∀ a ∈ as, (a == sysModules) = false) :
    ∃ (ns : List Int) (a : Addr) (o : Obj), ns.length ≤ 63 ∧ vals = [.ref a] ∧ s₁.heap.get? a = some o ∧ FixI o ns := by
  wrow_args hpre hlay hrd hwl hlo
  rename_i ns _ _ _ _ _ _ _ a vs _ hL _ _ _ hI _ h63 _
  refine El_eaae hL fun o g c m d => ?_; try clear hL
  exact ⟨ns, a, o, by lia, rfl, g, c, _, m, d, by simpa using hI⟩
noncomputable def TB80 : TabE := ⟨80, wb.lp, dW.qual ++ "<lambda>"⟩
noncomputable def cx (w : World) (s : Shared) (a : Addr) : Cx := ⟨RW.row.toRowW.prog, w, hideAll s.heap [80, a], s.gens, s.os, ⟨[TB80], []⟩⟩
section
variable {w : World} {s : Shared} {es : Array DictEntry} {n : Nat} {a : Addr} {o : Obj} {ns : List Int}
theorem cx_keep (w : World) {b : Addr} {ob : Obj} (hb : s.heap.get? b = some ob) (n80 : b ≠ 80) (na : b ≠ a) : (cx w s a).h₀.get? b = some ob :=
  hideAll_get _ hb fun m => by
    simp only [List.mem_cons, List.not_mem_nil, or_false] at m
    rcases m with m | m
    · exact n80 m
    · exact na m
theorem neA_cls (ha : s.heap.get? a = some o) (hI : FixI o ns) {b : Addr} {ob : Obj} (hb : s.heap.get? b = some ob) (h : ob.cls ≠ .type "list") : b ≠ a := fun e => by
  subst e; rw [ha] at hb; cases hb; exact h hI.1
theorem neA_data (ha : s.heap.get? a = some o) (hI : FixI o ns) {b : Addr} {ob : Obj} (hb : s.heap.get? b = some ob) (h : ∀ vs m, ob.data ≠ .seq vs m) : b ≠ a := fun e => by
  subst e; rw [ha] at hb; cases hb
  obtain ⟨_, vs, m, d, _⟩ := hI
  exact h vs m d
theorem ne80_cls (M : MpuAt s.heap es n) {b : Addr} {ob : Obj} (hb : s.heap.get? b = some ob) (h : ob.cls ≠ .none) : b ≠ 80 := fun e => by
  subst e; rw [M.tab] at hb; cases hb; exact h rfl
theorem ne80_data (M : MpuAt s.heap es n) {b : Addr} {ob : Obj} (hb : s.heap.get? b = some ob) (h : ob.data ≠ .fields #[]) : b ≠ 80 := fun e => by
  subst e; rw [M.tab] at hb; cases hb; exact h rfl
theorem fObj_all : metNames.map (fun x => (fObj x.2.1 x.2.2).cls) = metNames.map fun _ => Value.type "function" := by kernel_rfl
theorem tab_len : ∀ (i : Nat) (c : Value) (vs : List Value), tabVals[i]? = some (some (c, vs)) → vs.length = 256 ∧ c = .type "list"
  | 0, c, vs, h => by
    have : some (some (Value.type "list", instrL.map Value.ref)) = some (some (c, vs)) := h
    simp only [Option.some.injEq, Prod.mk.injEq] at this
    obtain ⟨rfl, rfl⟩ := this
    exact ⟨by kernel_rfl, rfl⟩
  | 1, c, vs, h => by
    have : some (some (Value.type "list", cycL.map fun i => Value.int i 0)) = some (some (c, vs)) := h
    simp only [Option.some.injEq, Prod.mk.injEq] at this
    obtain ⟨rfl, rfl⟩ := this
    exact ⟨by kernel_rfl, rfl⟩
  | 2, c, vs, h => by
    have : some (some (Value.type "list", extL.map fun i => Value.int i 0)) = some (some (c, vs)) := h
    simp only [Option.some.injEq, Prod.mk.injEq] at this
    obtain ⟨rfl, rfl⟩ := this
    exact ⟨by kernel_rfl, rfl⟩
  | k + 3, c, vs, h => by cases h
theorem tab_some : ∀ (i : Nat) (x : Str × Addr), tabNames[i]? = some x → ∃ c vs, tabVals[i]? = some (some (c, vs))
  | 0, _, _ => ⟨_, _, rfl⟩
  | 1, _, _ => ⟨_, _, rfl⟩
  | 2, _, _ => ⟨_, _, rfl⟩
  | k + 3, x, h => by cases h
theorem mpuB (w : World) (M : MpuAt s.heap es n) (ha : s.heap.get? a = some o) (hI : FixI o ns) (hn : ns.length ≤ 63) : MpuB (cx w s a).h₀ es n := by
  refine ⟨cx_keep w M.cls (ne80_cls M M.cls (by nofun)) (neA_cls ha hI M.cls (by nofun)), cx_keep w M.nso (ne80_cls M M.nso (by nofun)) (neA_data ha hI M.nso (fun _ _ => by nofun)), M.look, fun x hx => ?_, fun x hx => ?_, fun i x hx => ?_, ?_, ?_⟩
  · have g := M.fns x hx
    have c : (fObj x.2.1 x.2.2).cls = .type "function" := map_all fObj_all x hx
    exact cx_keep w g (ne80_cls M g (by rw [c]; nofun)) (neA_cls ha hI g (by rw [c]; decide))
  · refine El_ea (M.codes x hx) fun ob g e => ?_
    refine El_eea (codeQ_of e) fun vs t e1 e2 => ?_
    refine ⟨ob, cx_keep w g (ne80_data M g ?_) (neA_data ha hI g (fun _ _ => by rw [e1]; nofun)), e⟩
    rw [e1]; intro q; injection q with q; subst q; cases e2
  · refine El_ea (M.tabs i x hx) fun ob g e => ?_
    refine El_ee (tab_some i x hx) fun c vs ev => ?_
    rw [ev] at e
    obtain ⟨l, rfl⟩ := tab_len i c vs ev
    refine El_aeea (seq_is (Option.some.inj e)) fun c1 xs m d b => ?_
    refine ⟨ob, cx_keep w g (ne80_cls M g (by rw [c1]; nofun)) fun q => ?_, by rw [ev]; exact e⟩
    rw [q, ha] at g; cases g
    obtain ⟨_, vs', m', d', r⟩ := hI
    rw [d] at d'; cases d'
    have h1 := r.length
    have h2 : xs.toList.length = 256 := by rw [← l, ← b, List.length_map]
    lia
  · refine El_ea M.dflt fun ob g e => ?_
    obtain ⟨c, _⟩ := seq_is e
    exact ⟨ob, cx_keep w g (ne80_cls M g (by rw [c]; nofun)) (neA_cls ha hI g (by rw [c]; decide)), e⟩
  · refine El_ea M.code fun ob g e => ?_
    have d : ∃ vs, ob.data = .fields vs ∧ ob.cls = .type "code" := by
      unfold codeHd at e
      split at e
      · rename_i vs d
        simp only [Option.some.injEq, Prod.mk.injEq] at e
        exact ⟨vs, d, e.1⟩
      · cases e
    refine El_ea d fun vs d c => ?_
    exact ⟨ob, cx_keep w g (ne80_cls M g (by rw [c]; nofun)) (neA_cls ha hI g (by rw [c]; decide)), e⟩
theorem ns_get (w : World) (M : MpuAt s.heap es n) (ha : s.heap.get? a = some o) (hI : FixI o ns) {b : Addr} {m : Str → Option Value} (h : s.heap.Ns b m) : (cx w s a).h₀.Ns b m := by
  obtain ⟨ob, e, ep, g, d, r⟩ := h
  exact ⟨ob, e, ep, cx_keep w g (ne80_data M g (by rw [d]; nofun)) (neA_data ha hI g (fun _ _ => by rw [d]; nofun)), d, r⟩
theorem lim_get (w : World) (M : MpuAt s.heap es n) (ha : s.heap.get? a = some o) (hI : FixI o ns) (h : s.heap.NoLimit) : (cx w s a).h₀.NoLimit := let ⟨m, x, y⟩ := h; ⟨m, ns_get w M ha hI x, y⟩
theorem start_S (w : World) (M : MpuAt s.heap es n) (ha : s.heap.get? a = some o) (hI : FixI o ns) : (cx w s a).S [a] [.fix o] s := by
  have n80 : a ≠ 80 := ne80_cls M ha (by rw [hI.1]; nofun)
  refine ⟨⟨rfl, by simp, fun i ob b h1 h2 => ?_⟩, fun b ob e => of_hideAll _ e, fun b hb => hideAll_none _ ?_, rfl, rfl, fun e he => ?_, fun e he => ?_, fun e he => ?_, List.nil_prefix⟩
  · cases i with
    | zero => cases h1; cases h2; exact ⟨o, ha, rfl⟩
    | succ i => cases h1
  · rw [List.mem_singleton] at hb; subst hb; exact .tail _ (.head _)
  · have : e = TB80 := List.mem_singleton.mp he
    subst this
    exact .inl M.tab
  · have : e = TB80 := List.mem_singleton.mp he
    subst this
    intro q; exact n80 (List.mem_singleton.mp q).symm
  · have : e = TB80 := List.mem_singleton.mp he
    subst this
    exact hideAll_none _ (.head _)
theorem wok (w : World) {mg : Str → Option Value} (M : MpuAt s.heap es n) (ha : s.heap.get? a = some o) (hI : FixI o ns) (hn : ns.length ≤ 63) (hl : s.heap.NoLimit) (hg : s.heap.Ns 3 mg)
    (hb : ∃ bm ob, mg "__builtins__" = some (.ref bm) ∧ bm ≠ builtinsNs ∧ s.heap.get? bm = some ob ∧ ob.cls = .type "module" ∧ ob.dict = some builtinsNs ∧ ob.data = .plain) : WOK (cx w s a) := by
  have B := mpuB w M ha hI hn
  obtain ⟨K, hK⟩ := cls_ok B (lim_get w M ha hI hl)
  refine ⟨⟨K, hK.ok⟩, fns_ok B, fnW_ok B, codeHd_ok B, ⟨mg, ns_get w M ha hI hg, ?_⟩, .head _, fun e he _ => List.mem_singleton.mp he⟩
  refine El_eeaaaaa hb fun bm ob e1 e2 e3 e4 e5 e6 => ?_; try clear hb
  have n80 := ne80_cls M e3 (by rw [e4]; nofun)
  refine ⟨bm, ob, e1, e2, fun q => ?_, n80, cx_keep w e3 n80 (neA_cls ha hI e3 (by rw [e4]; decide)), e4, e5, e6⟩
  obtain ⟨og, eg, ep, g, d, _⟩ := hg
  rw [show bm = 3 from q, g] at e3; cases e3
  rw [d] at e6; cases e6
end
end
end Mine

end
section
open PySem PySem.W PyProof.Rows
namespace Mine
noncomputable section
theorem hasN_not : ∀ {l : List Str} {x : Str}, hasN l x = false → x ∉ l
  | [], _, _, m => by cases m
  | y :: r, x, h, m => by
    unfold hasN at h
    split at h
    · cases h
    · rename_i q
      rcases List.mem_cons.mp m with e | m
      · subst e; rw [seq_iff.mpr rfl] at q; cases q
      · exact hasN_not h m
noncomputable def takenN : List Str := startupNames ++ (looseW qP looseL ++ ((recsOf qP).map (·.name) ++ ((litsOf qP).map (·.1) ++ (clssOf qP (looseW qP looseL)).map (·.name))))
theorem free_of {mean : ExcName → Option Value} {mg mb : Str → Option Value} {h : Heap} (T : Top qP (looseW qP looseL) mean mg mb h) {x : Str} (hx : hasN takenN x = false) : mg x = none := by
  have m := hasN_not hx
  unfold takenN at m
  simp only [List.mem_append, not_or] at m
  exact T.free x m.1 m.2.1 m.2.2.1 m.2.2.2.1 m.2.2.2.2
noncomputable abbrev sLen : Str := nS [108, 101, 110]
noncomputable abbrev sEnum : Str := nS [101, 110, 117, 109, 101, 114, 97, 116, 101]
noncomputable abbrev sMPU : Str := nS [77, 80, 85]
theorem fr_names : hasN takenN sLen = false ∧ hasN takenN (nS [114, 97, 110, 103, 101]) = false ∧ hasN takenN sEnum = false := ⟨by kernel_rfl, by kernel_rfl, by kernel_rfl⟩
theorem bb_names : bootBuiltins sLen = some (.builtin "len") ∧ bootBuiltins (nS [114, 97, 110, 103, 101]) = some (.type "range") ∧ bootBuiltins sEnum = some (.type "enumerate") := ⟨by kernel_rfl, by kernel_rfl, by kernel_rfl⟩
section
variable {w : World} {s : Shared} {es : Array DictEntry} {n : Nat} {a : Addr} {o : Obj} {ns : List Int} {mg mb : Str → Option Value} {mean : ExcName → Option Value}
theorem glob_b (w : World) (M : MpuAt s.heap es n) (ha : s.heap.get? a = some o) (hI : FixI o ns) (T : Top qP (looseW qP looseL) mean mg mb s.heap) {x : Str} {v : Value} (hx : hasN takenN x = false) (hb : bootBuiltins x = some v) (hn : x ≠ "__name__") : GlobV (cx w s a) x v :=
  ⟨mg, mb, ns_get w M ha hI T.g, ns_get w M ha hI T.b, .inr ⟨free_of T hx, by rw [T.builtins x hn, hb]⟩⟩
theorem find_look {e : Array DictEntry} {x : Str} {v : Value} {c : Value} {d : Option Addr} {m : Nat} {sl : Array (Option Value)} (h : lookIn x ⟨c, d, .dict e m, sl⟩ = some (some v)) : nsFind e x = some v := by
  unfold lookIn at h
  dsimp only at h
  split at h
  · rename_i en q
    simp only [Option.some.injEq] at h
    unfold nsFind findBy
    rw [← Array.find?_toList, q, ← h]; rfl
  · split at h <;> cases h
theorem glob_mpu (w : World) (M : MpuAt s.heap es n) (ha : s.heap.get? a = some o) (hI : FixI o ns) (T : Top qP (looseW qP looseL) mean mg mb s.heap) : GlobV (cx w s a) sMPU (.ref 1428) := by
  refine ⟨mg, mb, ns_get w M ha hI T.g, ns_get w M ha hI T.b, .inl ?_⟩
  obtain ⟨ob, g, e⟩ := M.glob
  refine El_eeeaaa T.g fun ob' e' ep g' d' _ r => ?_
  rw [show (mainGlobals : Addr) = 3 from rfl, g] at g'; cases g'
  obtain ⟨c, di, dt, sl⟩ := ob
  dsimp only at d'; subst d'
  rw [← r]; exact find_look e
noncomputable def initQ : Bool := match (clsB[15]? : Option Stmt) with
  | some (.FunctionDef _ args _ _ _ _ sc _ _ _) => (match args.defaults with | [] => false | _ => true) && sc.names.all (fun x => match x.2 with | .cell => false | _ => true) && (args.args.map (·.arg)).all (fun x => match lk sc.names x with | some .local => true | _ => false) &&
      (!sc.isCoroutine) && (!sc.isGenerator) && (match sc.kind with | .function => true | _ => false) && Nat.beq args.args.length 3
  | _ => false
theorem init_ok : initQ = true := by kernel_rfl
theorem init_mem : ∃ x, (x, 15, 36) ∈ metNames := by
  obtain ⟨x, hx⟩ := fnAt_mem (show fnAt metNames 36 = some 15 by kernel_rfl)
  exact ⟨x, hx⟩
noncomputable def initN : List Str := match (clsB[15]? : Option Stmt) with
  | some (.FunctionDef _ args _ _ _ _ _ _ _ _) => args.args.map (·.arg)
  | _ => []
theorem initN_eq : initN = [nS [115, 101, 108, 102], nMem, nPc] := by kernel_rfl
theorem init_peek (S : Setting) (x v1 v2 : Value) (dd : Option Addr) (m : Nat) (sl : Array (Option Value)) (t : Tok) :
    (match (fObj 15 36).data with | .func fd => peek [(29, ⟨.type "tuple", dd, .seq ⟨[.none, .int 0 t]⟩ m, sl⟩)] S (bindArgs fd ⟨[x], [(nMem, v1), (nPc, v2)]⟩) | _ => none) = some ([nS [115, 101, 108, 102], nMem, nPc].zip [x, v1, v2]) := by kernel_rfl
theorem two_bare : ∀ {l : List Value}, l.map bare = [.none, .int 0 0] → ∃ t, l = [.none, .int 0 t]
  | [], h => by cases h
  | [_], h => by simp at h
  | _ :: _ :: _ :: _, h => by simp at h
  | [u, v], h => by
    simp only [List.map_cons, List.map_nil, List.cons.injEq, and_true] at h
    obtain ⟨t, rfl⟩ := bare_int h.2
    have h1 := h.1
    have : u = .none := by cases u <;> simp [bare] at h1 <;> rfl
    subst this
    exact ⟨t, rfl⟩
theorem make_ok {h : Heap} (B : MpuB h es n) (hl : h.NoLimit) {X : Cx} (hX : X.h₀ = h) : MakeOK X 1428 36 dI nMem nPc := by
  obtain ⟨K, hK⟩ := cls_ok B hl
  obtain ⟨x, hx⟩ := init_mem
  have F := B.fns _ hx
  have C := code_rec B hx
  have ok := init_ok
  unfold initQ at ok
  split at ok
  · rename_i name args body _ _ _ sc _ _ _ hcl
    simp only [Bool.and_eq_true, Bool.not_eq_true', List.all_eq_true] at ok
    obtain ⟨⟨⟨⟨⟨⟨k0, k1⟩, k2⟩, k3⟩, k4⟩, k5⟩, k6⟩ := ok
    have e : dI = ⟨args.args.map (·.arg), body, sc, .ref 35, fQual 15 ++ ".<locals>."⟩ := by unfold dI; rw [hcl]; rfl
    have kd : sc.kind = .function := by
      split at k5
      · assumption
      · cases k5
    have hn : args.args.map (·.arg) = [nS [115, 101, 108, 102], nMem, nPc] := by
      have := initN_eq
      unfold initN at this
      rw [hcl] at this; exact this
    obtain ⟨od, g29, e29⟩ := B.dflt
    refine El_aeea (seq_is e29) fun c29 xs m d29 b29 => ?_
    have hxs : ∃ t, xs = ⟨[.none, .int 0 t]⟩ := by
      obtain ⟨l⟩ := xs
      obtain ⟨t, e⟩ := two_bare b29
      exact ⟨t, by have : l = _ := e; rw [this]⟩
    obtain ⟨t, rfl⟩ := hxs
    have PK := init_peek
    dsimp only at F C
    unfold fQual at C
    unfold fObj at F PK
    rw [hcl] at F C PK
    refine ⟨⟨K, hX ▸ hK.ok.X, hK.mks, hK.kp, hK.ini, hK.ty⟩, ⟨_, _, hX ▸ F, rfl, hX ▸ C, by rw [e], by rw [e], rfl, rfl, by rw [e], ?_, fun s hs y v1 v2 => ?_⟩, by rw [e]; dsimp only; rw [hn]; rfl, fun y hy q => ?_, fun y hy => ?_, by rw [e]; exact k3, by rw [e]; exact k4, by rw [e]; exact kd, hX ▸ hl⟩
    · rw [e]; show _ = fQual 15 ++ ".<locals>."
      unfold fQual; rw [hcl]
    · intro M A E Q hQ
      have KI : Frag.In [(29, od)] s.heap := by
        intro b ob hb
        have := lookup_in hb
        simp only [List.mem_cons, Prod.mk.injEq, List.not_mem_nil, or_false] at this
        obtain ⟨rfl, rfl⟩ := this
        exact hs _ _ (hX ▸ g29)
      obtain ⟨oc, oo, odt, osl⟩ := od
      dsimp only at c29 d29
      subst c29 d29
      have := Looks.of_peek (M := M) KI (PK ⟨M.prog, M.w.params⟩ y v1 v2 oo m osl t)
      exact this.here (by rw [e] at hQ; dsimp only at hQ; rw [hn] at hQ; exact hQ)
    · rw [e] at hy; have := k1 y hy; rw [q] at this; cases this
    · rw [e] at hy ⊢
      have := k2 y hy
      rw [lk_lookup] at this
      split at this
      · assumption
      · cases this
  · cases ok
theorem ken_ok (w : World) (M : MpuAt s.heap es n) (ha : s.heap.get? a = some o) (hI : FixI o ns) (hn : ns.length ≤ 63) (T : Top qP (looseW qP looseL) mean mg mb s.heap) : KenOK (cx w s a) kN := by
  have W := wok w M ha hI hn T.nolimit T.g T.bmain
  refine ⟨⟨W.cls, W.fns, fun fa t g e => ?_⟩, fun x av e => ?_, fun C fI d n1 n2 e => ?_⟩
  · have e : lP fa = some (t, g) := e
    unfold lP at e
    cases q1 : Nat.beq fa 85 with
    | true =>
      rw [q1] at e; cases e; have := Nat.eq_of_beq_eq_true q1; subst this
      refine ⟨?_, fun dp vs as Q hd h => wrap_ok W hd h⟩
      obtain ⟨o, fd, a, b, _⟩ := W.fnW.ex
      exact ⟨o, fd, a, b⟩
    | false =>
      rw [q1] at e
      cases q2 : Nat.beq fa 43 with
      | true =>
        rw [q2] at e; cases e; have := Nat.eq_of_beq_eq_true q2; subst this
        refine ⟨(W.fns 43 dS dS_eq).at, fun dp vs as Q hd h => ?_⟩
        refine El_eeeeeaaaaaa h fun i d q m m' hr5 h1 h2 h3 hc9 sp hQ => ?_; obtain rfl := hr5; obtain ⟨f1, f2, f3, f4⟩ := hc9; try clear h
        exact step_cl W sp f1 f2 f3 f4 hd h1 h2 h3 hQ
      | false => rw [q2] at e; cases e
  · have e : lGv x = some av := e
    unfold lGv at e
    have F := fr_names
    have B := bb_names
    cases c1 : seq x (nS [108, 101, 110]) with
    | true =>
      rw [c1] at e; cases e; have := seq_iff.mp c1; subst this
      exact ⟨_, glob_b w M ha hI T F.1 B.1 (by decide), rfl⟩
    | false =>
      rw [c1] at e
      cases c2 : seq x (nS [114, 97, 110, 103, 101]) with
      | true =>
        rw [c2] at e; cases e; have := seq_iff.mp c2; subst this
        exact ⟨_, glob_b w M ha hI T F.2.1 B.2.1 (by decide), rfl⟩
      | false =>
        rw [c2] at e
        cases c3 : seq x (nS [101, 110, 117, 109, 101, 114, 97, 116, 101]) with
        | true =>
          rw [c3] at e; cases e; have := seq_iff.mp c3; subst this
          exact ⟨_, glob_b w M ha hI T F.2.2 B.2.2 (by decide), rfl⟩
        | false =>
          rw [c3] at e
          cases c4 : seq x (nS [77, 80, 85]) with
          | true =>
            rw [c4] at e; cases e; have := seq_iff.mp c4; subst this
            exact ⟨_, glob_mpu w M ha hI T, rfl⟩
          | false => rw [c4] at e; cases e
  · have e : some ((1428 : Addr), (36 : Addr), dI, nMem, nPc) = some (C, fI, d, n1, n2) := e
    simp only [Option.some.injEq, Prod.mk.injEq] at e
    obtain ⟨rfl, rfl, rfl, rfl, rfl⟩ := e
    exact make_ok (mpuB w M ha hI hn) (lim_get w M ha hI T.nolimit) rfl
end
end
end Mine

end
section
open PySem PySem.W PyProof.Rows
namespace Mine
noncomputable section
theorem l_bind (pm cd doc kV : Value) (v : Value) : bindArgs { PySem.Calls.docDef lawD.name lawD.params lawD.body lawD.scope pm cd doc with defaults := .none, kwdefaults := kV } ⟨[v], []⟩ = pure ((lF cd).names.zip [v]) := by kernel_rfl
theorem l_facts (cd : Value) : (lF cd).names.length = 1 ∧ cellNs (lF cd).scope.names = [nS [99, 101, 108, 108]] ∧ (lF cd).names.all (fun x => match lk lawD.scope.names x with | some .local => true | _ => false) = true ∧ (lF cd).scope.isCoroutine = false ∧ (lF cd).scope.isGenerator = false ∧ (lF cd).scope.kind = .function := ⟨by kernel_rfl, by kernel_rfl, by kernel_rfl, by kernel_rfl, by kernel_rfl, by kernel_rfl⟩
theorem l_dflt : lawD.params.defaults = [] := by kernel_rfl
section
variable {w : World} {s : Shared} {es : Array DictEntry} {n : Nat} {a : Addr} {o : Obj} {ns : List Int}
theorem law_fn (w : World) (M : MpuAt s.heap es n) (ha : s.heap.get? a = some o) (hI : FixI o ns) {fa : Addr} {of : Obj} {pm cd doc kV : Value} (ho : s.heap.get? fa = some of) (hd : of.data = .func { PySem.Calls.docDef lawD.name lawD.params lawD.body lawD.scope pm cd doc with defaults := .none, kwdefaults := kV }) (hc : s.heap.CodeRec cd lawD.name) :
    FnOKC (cx w s a).h₀ fa (lF cd) := by
  have F := l_facts cd
  refine ⟨⟨of, _, cx_keep w ho (ne80_data M ho (by rw [hd]; nofun)) (neA_data ha hI ho (fun _ _ => by rw [hd]; nofun)), hd, ?_, rfl, rfl, rfl, rfl, rfl, rfl, rfl, fun vals hv => ?_⟩, by rw [F.2.1]; exact List.nodup_cons.mpr ⟨fun h => (by cases h), List.nodup_nil⟩, fun y hy => .inl ?_, F.2.2.2.1, F.2.2.2.2.1, F.2.2.2.2.2⟩
  · refine El_eeeeaaa hc fun c oc vs t hr4 g d e => ?_; obtain rfl := hr4; try clear hc
    refine ⟨c, oc, vs, t, rfl, cx_keep w g (ne80_data M g ?_) (neA_data ha hI g (fun _ _ => by rw [d]; nofun)), d, e⟩
    rw [d]; intro q; injection q with q; subst q; cases e
  · rw [F.1] at hv
    match vals, hv with
    | [v], _ => exact l_bind pm cd doc kV v
  · have := List.all_eq_true.mp F.2.2.1 y hy
    rw [lk_lookup] at this
    split at this
    · assumption
    · cases this
theorem room : Room callerA 41 := ⟨by decide +kernel, by decide +kernel, rfl⟩
theorem law_call : WalkO qP looseL (fun _ _ => True) (fun _ h => ∃ es n, MpuAt h es n) RW.row.toRowW lawD [] fun f vs => PySem.call f vs := by
  intro w s₀ s₁ mg mb G Y fa of pm cd doc dV kV ho hd hcd hD hmg hg args vals as hpre hlay hrd hwl hlo
  refine El_ee Y fun es n M => ?_; try clear Y
  have he := Dflts.none hD l_dflt
  subst he
  refine El_eeeaaa (reads_in hpre hlay hrd hwl hlo) fun ns a o hn hr4 ha hI => ?_; obtain rfl := hr4
  have T := G.T
  have KO := ken_ok w M ha hI hn T
  have S := start_S w M ha hI
  have F := law_fn w M ha hI ho hd hcd
  have L := law03 KO rfl cd o ns hI hn (fun fl _ as' => match fl with | .ret v => v = .bool true ∧ as'[0]? = some (.fix o) | .next => False | _ => False) (fun loc as h => ⟨rfl, h⟩)
  have C : ClS (cx w s₁ a) 41 (.ref fa) [.obj 0] [.fix o] fun v as' => v = .bool true ∧ as'[0]? = some (.fix o) := by
    refine cl_defC (dp := 40) (d := lF cd) F (lim_get w M ha hI T.nolimit) (l_facts cd).1.symm ?_
    rw [show ([.fix o] : List AO).length = 1 from rfl, l_fm, l_as]
    refine ExsS.mono L fun fl loc as' q => ?_
    cases fl with
    | ret v => exact q
    | next => exact q.elim
    | brk => exact q.elim
    | cont => exact q.elim
  refine wpAny_call (C callerA [a] s₁ [.ref a] _ _ room S (.cons ⟨a, rfl, rfl⟩ .nil) fun av as' θ' s' v q S' X' V' => ?_)
  obtain ⟨rfl, h0⟩ := q
  cases V'
  refine ⟨.inl ⟨.bool true, .bool true, [], rfl, raisesW_false (r := RW.row.toRowW) allW_false_nil, .bool _, postW_of (r := RW.row.toRowW) (by wrow_shape) (by wtm_val) (by rfl), fun _ => ⟨List.nodup_nil, fun b hb => by cases hb⟩⟩, ⟨fun b ob hb => ?_, X'.ex⟩, S'.os, AllBare.of_eq (S'.gens.trans hg)⟩
  by_cases q80 : b = 80
  · subst q80
    rw [M.tab] at hb; cases hb
    obtain ⟨oc, g, e⟩ := M.code
    have ct : isCodeTable s₁.heap 80 := by
      unfold codeHd at e
      split at e
      · rename_i vs d
        simp only [Option.some.injEq, Prod.mk.injEq, List.map_cons, List.map_nil, List.cons.injEq, and_true] at e
        obtain ⟨e0, e7, e9, e10, e11, e18⟩ := e
        rw [Array.getElem?_toList] at e11
        obtain ⟨v, a1, b1⟩ := Option.map_eq_some_iff.mp e11
        rw [bare_ref b1] at a1
        exact ⟨84, oc, vs, g, e0, d, a1⟩
      · cases e
    rcases S'.tabs TB80 (List.mem_singleton.mpr rfl) with t | ⟨c, t, _⟩
    · exact .inl t
    · exact .inr (.inl ⟨ct, rfl, #[], #[rawInt TB80.pos.line, rawInt TB80.pos.col, .ref c], rfl, by rw [Array.empty_append]; exact t⟩)
  · by_cases qa : b = a
    · subst qa
      rw [ha] at hb; cases hb
      have p0 : θ'[0]? = some b := get_pre X'.pre rfl
      obtain ⟨ob', g', e'⟩ := S'.ar.objs 0 _ b h0 p0
      have : ob' = o := e'
      rw [this] at g'
      exact .inl g'
    · exact .inl (S'.base b ob (cx_keep w hb q80 qa))
end
theorem done03 : PySem.Challenge.rw_lq0011_03.Holds := holds_of p2x p3x p4x p5x p6x p7x p8x law_call
end
end Mine

end
theorem PySem.Challenge.cw_lq0011_03_holds : PySem.Challenge.rw_lq0011_03.Holds :=
  Mine.done03

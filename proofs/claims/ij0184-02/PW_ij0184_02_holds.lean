import PyProof.Rows.All
import KE.KLam
import Wide.FinOn
import OpenK.AllK
import Wide.All
import Lean
import PySem.Challenge.RW_ij0184_02
set_option Elab.async false
set_option compiler.extract_closed false
set_option linter.unusedVariables false
section
set_option autoImplicit false
namespace PL
universe u1 u2 u3 u4 u5 u6 u7 u8
theorem m0_2  {P0 P1 P2 : Prop}  (h0 : P0) (h1 : P1) (h2 : P2) : P0 ∧ P1 ∧ P2 := ⟨h0, h1, h2⟩
theorem x0_2  {P0 P1 P2 : Prop} {g : Prop} (h : P0 ∧ P1 ∧ P2) (k : P0 → P1 → P2 → g) : g := k  h.1 h.2.1 h.2.2
theorem j0_2  {P0 P1 P2 : Prop} {g : Prop} (k : P0 → P1 → P2 → g) (h : P0 ∧ P1 ∧ P2) : g := x0_2 h k
theorem m0_3  {P0 P1 P2 P3 : Prop}  (h0 : P0) (h1 : P1) (h2 : P2) (h3 : P3) : P0 ∧ P1 ∧ P2 ∧ P3 := ⟨h0, h1, h2, h3⟩
theorem x0_3  {P0 P1 P2 P3 : Prop} {g : Prop} (h : P0 ∧ P1 ∧ P2 ∧ P3) (k : P0 → P1 → P2 → P3 → g) : g := k  h.1 h.2.1 h.2.2.1 h.2.2.2
theorem m0_5  {P0 P1 P2 P3 P4 P5 : Prop}  (h0 : P0) (h1 : P1) (h2 : P2) (h3 : P3) (h4 : P4) (h5 : P5) : P0 ∧ P1 ∧ P2 ∧ P3 ∧ P4 ∧ P5 := ⟨h0, h1, h2, h3, h4, h5⟩
theorem x0_5  {P0 P1 P2 P3 P4 P5 : Prop} {g : Prop} (h : P0 ∧ P1 ∧ P2 ∧ P3 ∧ P4 ∧ P5) (k : P0 → P1 → P2 → P3 → P4 → P5 → g) : g := k  h.1 h.2.1 h.2.2.1 h.2.2.2.1 h.2.2.2.2.1 h.2.2.2.2.2
theorem j0_5  {P0 P1 P2 P3 P4 P5 : Prop} {g : Prop} (k : P0 → P1 → P2 → P3 → P4 → P5 → g) (h : P0 ∧ P1 ∧ P2 ∧ P3 ∧ P4 ∧ P5) : g := x0_5 h k
theorem m1_1 {α1 : Sort u1} {P0 P1 : α1 → Prop} (v1 : α1) (h0 : P0 v1) (h1 : P1 v1) : ∃ v1, P0 v1 ∧ P1 v1 := ⟨v1, h0, h1⟩
theorem x1_1 {α1 : Sort u1} {P0 P1 : α1 → Prop} {g : Prop} (h : ∃ v1, P0 v1 ∧ P1 v1) (k : ∀ (v1 : α1), P0 v1 → P1 v1 → g) : g := h.elim fun v1 h => k v1 h.1 h.2
theorem j1_1 {α1 : Sort u1} {P0 P1 : α1 → Prop} {g : Prop} (k : ∀ (v1 : α1), P0 v1 → P1 v1 → g) (h : ∃ v1, P0 v1 ∧ P1 v1) : g := x1_1 h k
theorem m1_2 {α1 : Sort u1} {P0 P1 P2 : α1 → Prop} (v1 : α1) (h0 : P0 v1) (h1 : P1 v1) (h2 : P2 v1) : ∃ v1, P0 v1 ∧ P1 v1 ∧ P2 v1 := ⟨v1, h0, h1, h2⟩
theorem x1_2 {α1 : Sort u1} {P0 P1 P2 : α1 → Prop} {g : Prop} (h : ∃ v1, P0 v1 ∧ P1 v1 ∧ P2 v1) (k : ∀ (v1 : α1), P0 v1 → P1 v1 → P2 v1 → g) : g := h.elim fun v1 h => k v1 h.1 h.2.1 h.2.2
theorem j1_2 {α1 : Sort u1} {P0 P1 P2 : α1 → Prop} {g : Prop} (k : ∀ (v1 : α1), P0 v1 → P1 v1 → P2 v1 → g) (h : ∃ v1, P0 v1 ∧ P1 v1 ∧ P2 v1) : g := x1_2 h k
theorem m1_3 {α1 : Sort u1} {P0 P1 P2 P3 : α1 → Prop} (v1 : α1) (h0 : P0 v1) (h1 : P1 v1) (h2 : P2 v1) (h3 : P3 v1) : ∃ v1, P0 v1 ∧ P1 v1 ∧ P2 v1 ∧ P3 v1 := ⟨v1, h0, h1, h2, h3⟩
theorem x1_3 {α1 : Sort u1} {P0 P1 P2 P3 : α1 → Prop} {g : Prop} (h : ∃ v1, P0 v1 ∧ P1 v1 ∧ P2 v1 ∧ P3 v1) (k : ∀ (v1 : α1), P0 v1 → P1 v1 → P2 v1 → P3 v1 → g) : g := h.elim fun v1 h => k v1 h.1 h.2.1 h.2.2.1 h.2.2.2
theorem j1_3 {α1 : Sort u1} {P0 P1 P2 P3 : α1 → Prop} {g : Prop} (k : ∀ (v1 : α1), P0 v1 → P1 v1 → P2 v1 → P3 v1 → g) (h : ∃ v1, P0 v1 ∧ P1 v1 ∧ P2 v1 ∧ P3 v1) : g := x1_3 h k
theorem m1_4 {α1 : Sort u1} {P0 P1 P2 P3 P4 : α1 → Prop} (v1 : α1) (h0 : P0 v1) (h1 : P1 v1) (h2 : P2 v1) (h3 : P3 v1) (h4 : P4 v1) : ∃ v1, P0 v1 ∧ P1 v1 ∧ P2 v1 ∧ P3 v1 ∧ P4 v1 := ⟨v1, h0, h1, h2, h3, h4⟩
theorem x1_4 {α1 : Sort u1} {P0 P1 P2 P3 P4 : α1 → Prop} {g : Prop} (h : ∃ v1, P0 v1 ∧ P1 v1 ∧ P2 v1 ∧ P3 v1 ∧ P4 v1) (k : ∀ (v1 : α1), P0 v1 → P1 v1 → P2 v1 → P3 v1 → P4 v1 → g) : g := h.elim fun v1 h => k v1 h.1 h.2.1 h.2.2.1 h.2.2.2.1 h.2.2.2.2
theorem j1_4 {α1 : Sort u1} {P0 P1 P2 P3 P4 : α1 → Prop} {g : Prop} (k : ∀ (v1 : α1), P0 v1 → P1 v1 → P2 v1 → P3 v1 → P4 v1 → g) (h : ∃ v1, P0 v1 ∧ P1 v1 ∧ P2 v1 ∧ P3 v1 ∧ P4 v1) : g := x1_4 h k
theorem m2_0 {α1 : Sort u1} {α2 : Sort u2} {P0 : α1 → α2 → Prop} (v1 : α1) (v2 : α2) (h0 : P0 v1 v2) : ∃ v1 v2, P0 v1 v2 := ⟨v1, v2, h0⟩
theorem x2_0 {α1 : Sort u1} {α2 : Sort u2} {P0 : α1 → α2 → Prop} {g : Prop} (h : ∃ v1 v2, P0 v1 v2) (k : ∀ (v1 : α1) (v2 : α2), P0 v1 v2 → g) : g := h.elim fun v1 h => h.elim fun v2 h => k v1 v2 h
theorem m2_1 {α1 : Sort u1} {α2 : Sort u2} {P0 P1 : α1 → α2 → Prop} (v1 : α1) (v2 : α2) (h0 : P0 v1 v2) (h1 : P1 v1 v2) : ∃ v1 v2, P0 v1 v2 ∧ P1 v1 v2 := ⟨v1, v2, h0, h1⟩
theorem x2_1 {α1 : Sort u1} {α2 : Sort u2} {P0 P1 : α1 → α2 → Prop} {g : Prop} (h : ∃ v1 v2, P0 v1 v2 ∧ P1 v1 v2) (k : ∀ (v1 : α1) (v2 : α2), P0 v1 v2 → P1 v1 v2 → g) : g := h.elim fun v1 h => h.elim fun v2 h => k v1 v2 h.1 h.2
theorem j2_1 {α1 : Sort u1} {α2 : Sort u2} {P0 P1 : α1 → α2 → Prop} {g : Prop} (k : ∀ (v1 : α1) (v2 : α2), P0 v1 v2 → P1 v1 v2 → g) (h : ∃ v1 v2, P0 v1 v2 ∧ P1 v1 v2) : g := x2_1 h k
theorem m2_2 {α1 : Sort u1} {α2 : Sort u2} {P0 P1 P2 : α1 → α2 → Prop} (v1 : α1) (v2 : α2) (h0 : P0 v1 v2) (h1 : P1 v1 v2) (h2 : P2 v1 v2) : ∃ v1 v2, P0 v1 v2 ∧ P1 v1 v2 ∧ P2 v1 v2 := ⟨v1, v2, h0, h1, h2⟩
theorem x2_2 {α1 : Sort u1} {α2 : Sort u2} {P0 P1 P2 : α1 → α2 → Prop} {g : Prop} (h : ∃ v1 v2, P0 v1 v2 ∧ P1 v1 v2 ∧ P2 v1 v2) (k : ∀ (v1 : α1) (v2 : α2), P0 v1 v2 → P1 v1 v2 → P2 v1 v2 → g) : g := h.elim fun v1 h => h.elim fun v2 h => k v1 v2 h.1 h.2.1 h.2.2
theorem j2_2 {α1 : Sort u1} {α2 : Sort u2} {P0 P1 P2 : α1 → α2 → Prop} {g : Prop} (k : ∀ (v1 : α1) (v2 : α2), P0 v1 v2 → P1 v1 v2 → P2 v1 v2 → g) (h : ∃ v1 v2, P0 v1 v2 ∧ P1 v1 v2 ∧ P2 v1 v2) : g := x2_2 h k
theorem m2_3 {α1 : Sort u1} {α2 : Sort u2} {P0 P1 P2 P3 : α1 → α2 → Prop} (v1 : α1) (v2 : α2) (h0 : P0 v1 v2) (h1 : P1 v1 v2) (h2 : P2 v1 v2) (h3 : P3 v1 v2) : ∃ v1 v2, P0 v1 v2 ∧ P1 v1 v2 ∧ P2 v1 v2 ∧ P3 v1 v2 := ⟨v1, v2, h0, h1, h2, h3⟩
theorem x2_3 {α1 : Sort u1} {α2 : Sort u2} {P0 P1 P2 P3 : α1 → α2 → Prop} {g : Prop} (h : ∃ v1 v2, P0 v1 v2 ∧ P1 v1 v2 ∧ P2 v1 v2 ∧ P3 v1 v2) (k : ∀ (v1 : α1) (v2 : α2), P0 v1 v2 → P1 v1 v2 → P2 v1 v2 → P3 v1 v2 → g) : g := h.elim fun v1 h => h.elim fun v2 h => k v1 v2 h.1 h.2.1 h.2.2.1 h.2.2.2
theorem j2_3 {α1 : Sort u1} {α2 : Sort u2} {P0 P1 P2 P3 : α1 → α2 → Prop} {g : Prop} (k : ∀ (v1 : α1) (v2 : α2), P0 v1 v2 → P1 v1 v2 → P2 v1 v2 → P3 v1 v2 → g) (h : ∃ v1 v2, P0 v1 v2 ∧ P1 v1 v2 ∧ P2 v1 v2 ∧ P3 v1 v2) : g := x2_3 h k
theorem m2_4 {α1 : Sort u1} {α2 : Sort u2} {P0 P1 P2 P3 P4 : α1 → α2 → Prop} (v1 : α1) (v2 : α2) (h0 : P0 v1 v2) (h1 : P1 v1 v2) (h2 : P2 v1 v2) (h3 : P3 v1 v2) (h4 : P4 v1 v2) : ∃ v1 v2, P0 v1 v2 ∧ P1 v1 v2 ∧ P2 v1 v2 ∧ P3 v1 v2 ∧ P4 v1 v2 := ⟨v1, v2, h0, h1, h2, h3, h4⟩
theorem x2_4 {α1 : Sort u1} {α2 : Sort u2} {P0 P1 P2 P3 P4 : α1 → α2 → Prop} {g : Prop} (h : ∃ v1 v2, P0 v1 v2 ∧ P1 v1 v2 ∧ P2 v1 v2 ∧ P3 v1 v2 ∧ P4 v1 v2) (k : ∀ (v1 : α1) (v2 : α2), P0 v1 v2 → P1 v1 v2 → P2 v1 v2 → P3 v1 v2 → P4 v1 v2 → g) : g := h.elim fun v1 h => h.elim fun v2 h => k v1 v2 h.1 h.2.1 h.2.2.1 h.2.2.2.1 h.2.2.2.2
theorem j2_4 {α1 : Sort u1} {α2 : Sort u2} {P0 P1 P2 P3 P4 : α1 → α2 → Prop} {g : Prop} (k : ∀ (v1 : α1) (v2 : α2), P0 v1 v2 → P1 v1 v2 → P2 v1 v2 → P3 v1 v2 → P4 v1 v2 → g) (h : ∃ v1 v2, P0 v1 v2 ∧ P1 v1 v2 ∧ P2 v1 v2 ∧ P3 v1 v2 ∧ P4 v1 v2) : g := x2_4 h k
theorem m2_5 {α1 : Sort u1} {α2 : Sort u2} {P0 P1 P2 P3 P4 P5 : α1 → α2 → Prop} (v1 : α1) (v2 : α2) (h0 : P0 v1 v2) (h1 : P1 v1 v2) (h2 : P2 v1 v2) (h3 : P3 v1 v2) (h4 : P4 v1 v2) (h5 : P5 v1 v2) : ∃ v1 v2, P0 v1 v2 ∧ P1 v1 v2 ∧ P2 v1 v2 ∧ P3 v1 v2 ∧ P4 v1 v2 ∧ P5 v1 v2 := ⟨v1, v2, h0, h1, h2, h3, h4, h5⟩
theorem x2_5 {α1 : Sort u1} {α2 : Sort u2} {P0 P1 P2 P3 P4 P5 : α1 → α2 → Prop} {g : Prop} (h : ∃ v1 v2, P0 v1 v2 ∧ P1 v1 v2 ∧ P2 v1 v2 ∧ P3 v1 v2 ∧ P4 v1 v2 ∧ P5 v1 v2) (k : ∀ (v1 : α1) (v2 : α2), P0 v1 v2 → P1 v1 v2 → P2 v1 v2 → P3 v1 v2 → P4 v1 v2 → P5 v1 v2 → g) : g := h.elim fun v1 h => h.elim fun v2 h => k v1 v2 h.1 h.2.1 h.2.2.1 h.2.2.2.1 h.2.2.2.2.1 h.2.2.2.2.2
theorem j2_5 {α1 : Sort u1} {α2 : Sort u2} {P0 P1 P2 P3 P4 P5 : α1 → α2 → Prop} {g : Prop} (k : ∀ (v1 : α1) (v2 : α2), P0 v1 v2 → P1 v1 v2 → P2 v1 v2 → P3 v1 v2 → P4 v1 v2 → P5 v1 v2 → g) (h : ∃ v1 v2, P0 v1 v2 ∧ P1 v1 v2 ∧ P2 v1 v2 ∧ P3 v1 v2 ∧ P4 v1 v2 ∧ P5 v1 v2) : g := x2_5 h k
theorem m2_7 {α1 : Sort u1} {α2 : Sort u2} {P0 P1 P2 P3 P4 P5 P6 P7 : α1 → α2 → Prop} (v1 : α1) (v2 : α2) (h0 : P0 v1 v2) (h1 : P1 v1 v2) (h2 : P2 v1 v2) (h3 : P3 v1 v2) (h4 : P4 v1 v2) (h5 : P5 v1 v2) (h6 : P6 v1 v2) (h7 : P7 v1 v2) : ∃ v1 v2, P0 v1 v2 ∧ P1 v1 v2 ∧ P2 v1 v2 ∧ P3 v1 v2 ∧ P4 v1 v2 ∧ P5 v1 v2 ∧ P6 v1 v2 ∧ P7 v1 v2 := ⟨v1, v2, h0, h1, h2, h3, h4, h5, h6, h7⟩
theorem m3_0 {α1 : Sort u1} {α2 : Sort u2} {α3 : Sort u3} {P0 : α1 → α2 → α3 → Prop} (v1 : α1) (v2 : α2) (v3 : α3) (h0 : P0 v1 v2 v3) : ∃ v1 v2 v3, P0 v1 v2 v3 := ⟨v1, v2, v3, h0⟩
theorem x3_0 {α1 : Sort u1} {α2 : Sort u2} {α3 : Sort u3} {P0 : α1 → α2 → α3 → Prop} {g : Prop} (h : ∃ v1 v2 v3, P0 v1 v2 v3) (k : ∀ (v1 : α1) (v2 : α2) (v3 : α3), P0 v1 v2 v3 → g) : g := h.elim fun v1 h => h.elim fun v2 h => h.elim fun v3 h => k v1 v2 v3 h
theorem j3_0 {α1 : Sort u1} {α2 : Sort u2} {α3 : Sort u3} {P0 : α1 → α2 → α3 → Prop} {g : Prop} (k : ∀ (v1 : α1) (v2 : α2) (v3 : α3), P0 v1 v2 v3 → g) (h : ∃ v1 v2 v3, P0 v1 v2 v3) : g := x3_0 h k
theorem m3_1 {α1 : Sort u1} {α2 : Sort u2} {α3 : Sort u3} {P0 P1 : α1 → α2 → α3 → Prop} (v1 : α1) (v2 : α2) (v3 : α3) (h0 : P0 v1 v2 v3) (h1 : P1 v1 v2 v3) : ∃ v1 v2 v3, P0 v1 v2 v3 ∧ P1 v1 v2 v3 := ⟨v1, v2, v3, h0, h1⟩
theorem x3_1 {α1 : Sort u1} {α2 : Sort u2} {α3 : Sort u3} {P0 P1 : α1 → α2 → α3 → Prop} {g : Prop} (h : ∃ v1 v2 v3, P0 v1 v2 v3 ∧ P1 v1 v2 v3) (k : ∀ (v1 : α1) (v2 : α2) (v3 : α3), P0 v1 v2 v3 → P1 v1 v2 v3 → g) : g := h.elim fun v1 h => h.elim fun v2 h => h.elim fun v3 h => k v1 v2 v3 h.1 h.2
theorem j3_1 {α1 : Sort u1} {α2 : Sort u2} {α3 : Sort u3} {P0 P1 : α1 → α2 → α3 → Prop} {g : Prop} (k : ∀ (v1 : α1) (v2 : α2) (v3 : α3), P0 v1 v2 v3 → P1 v1 v2 v3 → g) (h : ∃ v1 v2 v3, P0 v1 v2 v3 ∧ P1 v1 v2 v3) : g := x3_1 h k
theorem m3_2 {α1 : Sort u1} {α2 : Sort u2} {α3 : Sort u3} {P0 P1 P2 : α1 → α2 → α3 → Prop} (v1 : α1) (v2 : α2) (v3 : α3) (h0 : P0 v1 v2 v3) (h1 : P1 v1 v2 v3) (h2 : P2 v1 v2 v3) : ∃ v1 v2 v3, P0 v1 v2 v3 ∧ P1 v1 v2 v3 ∧ P2 v1 v2 v3 := ⟨v1, v2, v3, h0, h1, h2⟩
theorem m3_3 {α1 : Sort u1} {α2 : Sort u2} {α3 : Sort u3} {P0 P1 P2 P3 : α1 → α2 → α3 → Prop} (v1 : α1) (v2 : α2) (v3 : α3) (h0 : P0 v1 v2 v3) (h1 : P1 v1 v2 v3) (h2 : P2 v1 v2 v3) (h3 : P3 v1 v2 v3) : ∃ v1 v2 v3, P0 v1 v2 v3 ∧ P1 v1 v2 v3 ∧ P2 v1 v2 v3 ∧ P3 v1 v2 v3 := ⟨v1, v2, v3, h0, h1, h2, h3⟩
theorem x3_3 {α1 : Sort u1} {α2 : Sort u2} {α3 : Sort u3} {P0 P1 P2 P3 : α1 → α2 → α3 → Prop} {g : Prop} (h : ∃ v1 v2 v3, P0 v1 v2 v3 ∧ P1 v1 v2 v3 ∧ P2 v1 v2 v3 ∧ P3 v1 v2 v3) (k : ∀ (v1 : α1) (v2 : α2) (v3 : α3), P0 v1 v2 v3 → P1 v1 v2 v3 → P2 v1 v2 v3 → P3 v1 v2 v3 → g) : g := h.elim fun v1 h => h.elim fun v2 h => h.elim fun v3 h => k v1 v2 v3 h.1 h.2.1 h.2.2.1 h.2.2.2
theorem j3_3 {α1 : Sort u1} {α2 : Sort u2} {α3 : Sort u3} {P0 P1 P2 P3 : α1 → α2 → α3 → Prop} {g : Prop} (k : ∀ (v1 : α1) (v2 : α2) (v3 : α3), P0 v1 v2 v3 → P1 v1 v2 v3 → P2 v1 v2 v3 → P3 v1 v2 v3 → g) (h : ∃ v1 v2 v3, P0 v1 v2 v3 ∧ P1 v1 v2 v3 ∧ P2 v1 v2 v3 ∧ P3 v1 v2 v3) : g := x3_3 h k
theorem m3_4 {α1 : Sort u1} {α2 : Sort u2} {α3 : Sort u3} {P0 P1 P2 P3 P4 : α1 → α2 → α3 → Prop} (v1 : α1) (v2 : α2) (v3 : α3) (h0 : P0 v1 v2 v3) (h1 : P1 v1 v2 v3) (h2 : P2 v1 v2 v3) (h3 : P3 v1 v2 v3) (h4 : P4 v1 v2 v3) : ∃ v1 v2 v3, P0 v1 v2 v3 ∧ P1 v1 v2 v3 ∧ P2 v1 v2 v3 ∧ P3 v1 v2 v3 ∧ P4 v1 v2 v3 := ⟨v1, v2, v3, h0, h1, h2, h3, h4⟩
theorem x3_4 {α1 : Sort u1} {α2 : Sort u2} {α3 : Sort u3} {P0 P1 P2 P3 P4 : α1 → α2 → α3 → Prop} {g : Prop} (h : ∃ v1 v2 v3, P0 v1 v2 v3 ∧ P1 v1 v2 v3 ∧ P2 v1 v2 v3 ∧ P3 v1 v2 v3 ∧ P4 v1 v2 v3) (k : ∀ (v1 : α1) (v2 : α2) (v3 : α3), P0 v1 v2 v3 → P1 v1 v2 v3 → P2 v1 v2 v3 → P3 v1 v2 v3 → P4 v1 v2 v3 → g) : g := h.elim fun v1 h => h.elim fun v2 h => h.elim fun v3 h => k v1 v2 v3 h.1 h.2.1 h.2.2.1 h.2.2.2.1 h.2.2.2.2
theorem j3_4 {α1 : Sort u1} {α2 : Sort u2} {α3 : Sort u3} {P0 P1 P2 P3 P4 : α1 → α2 → α3 → Prop} {g : Prop} (k : ∀ (v1 : α1) (v2 : α2) (v3 : α3), P0 v1 v2 v3 → P1 v1 v2 v3 → P2 v1 v2 v3 → P3 v1 v2 v3 → P4 v1 v2 v3 → g) (h : ∃ v1 v2 v3, P0 v1 v2 v3 ∧ P1 v1 v2 v3 ∧ P2 v1 v2 v3 ∧ P3 v1 v2 v3 ∧ P4 v1 v2 v3) : g := x3_4 h k
theorem m3_5 {α1 : Sort u1} {α2 : Sort u2} {α3 : Sort u3} {P0 P1 P2 P3 P4 P5 : α1 → α2 → α3 → Prop} (v1 : α1) (v2 : α2) (v3 : α3) (h0 : P0 v1 v2 v3) (h1 : P1 v1 v2 v3) (h2 : P2 v1 v2 v3) (h3 : P3 v1 v2 v3) (h4 : P4 v1 v2 v3) (h5 : P5 v1 v2 v3) : ∃ v1 v2 v3, P0 v1 v2 v3 ∧ P1 v1 v2 v3 ∧ P2 v1 v2 v3 ∧ P3 v1 v2 v3 ∧ P4 v1 v2 v3 ∧ P5 v1 v2 v3 := ⟨v1, v2, v3, h0, h1, h2, h3, h4, h5⟩
theorem x3_5 {α1 : Sort u1} {α2 : Sort u2} {α3 : Sort u3} {P0 P1 P2 P3 P4 P5 : α1 → α2 → α3 → Prop} {g : Prop} (h : ∃ v1 v2 v3, P0 v1 v2 v3 ∧ P1 v1 v2 v3 ∧ P2 v1 v2 v3 ∧ P3 v1 v2 v3 ∧ P4 v1 v2 v3 ∧ P5 v1 v2 v3) (k : ∀ (v1 : α1) (v2 : α2) (v3 : α3), P0 v1 v2 v3 → P1 v1 v2 v3 → P2 v1 v2 v3 → P3 v1 v2 v3 → P4 v1 v2 v3 → P5 v1 v2 v3 → g) : g := h.elim fun v1 h => h.elim fun v2 h => h.elim fun v3 h => k v1 v2 v3 h.1 h.2.1 h.2.2.1 h.2.2.2.1 h.2.2.2.2.1 h.2.2.2.2.2
theorem j3_5 {α1 : Sort u1} {α2 : Sort u2} {α3 : Sort u3} {P0 P1 P2 P3 P4 P5 : α1 → α2 → α3 → Prop} {g : Prop} (k : ∀ (v1 : α1) (v2 : α2) (v3 : α3), P0 v1 v2 v3 → P1 v1 v2 v3 → P2 v1 v2 v3 → P3 v1 v2 v3 → P4 v1 v2 v3 → P5 v1 v2 v3 → g) (h : ∃ v1 v2 v3, P0 v1 v2 v3 ∧ P1 v1 v2 v3 ∧ P2 v1 v2 v3 ∧ P3 v1 v2 v3 ∧ P4 v1 v2 v3 ∧ P5 v1 v2 v3) : g := x3_5 h k
theorem m3_6 {α1 : Sort u1} {α2 : Sort u2} {α3 : Sort u3} {P0 P1 P2 P3 P4 P5 P6 : α1 → α2 → α3 → Prop} (v1 : α1) (v2 : α2) (v3 : α3) (h0 : P0 v1 v2 v3) (h1 : P1 v1 v2 v3) (h2 : P2 v1 v2 v3) (h3 : P3 v1 v2 v3) (h4 : P4 v1 v2 v3) (h5 : P5 v1 v2 v3) (h6 : P6 v1 v2 v3) : ∃ v1 v2 v3, P0 v1 v2 v3 ∧ P1 v1 v2 v3 ∧ P2 v1 v2 v3 ∧ P3 v1 v2 v3 ∧ P4 v1 v2 v3 ∧ P5 v1 v2 v3 ∧ P6 v1 v2 v3 := ⟨v1, v2, v3, h0, h1, h2, h3, h4, h5, h6⟩
theorem x3_6 {α1 : Sort u1} {α2 : Sort u2} {α3 : Sort u3} {P0 P1 P2 P3 P4 P5 P6 : α1 → α2 → α3 → Prop} {g : Prop} (h : ∃ v1 v2 v3, P0 v1 v2 v3 ∧ P1 v1 v2 v3 ∧ P2 v1 v2 v3 ∧ P3 v1 v2 v3 ∧ P4 v1 v2 v3 ∧ P5 v1 v2 v3 ∧ P6 v1 v2 v3) (k : ∀ (v1 : α1) (v2 : α2) (v3 : α3), P0 v1 v2 v3 → P1 v1 v2 v3 → P2 v1 v2 v3 → P3 v1 v2 v3 → P4 v1 v2 v3 → P5 v1 v2 v3 → P6 v1 v2 v3 → g) : g := h.elim fun v1 h => h.elim fun v2 h => h.elim fun v3 h => k v1 v2 v3 h.1 h.2.1 h.2.2.1 h.2.2.2.1 h.2.2.2.2.1 h.2.2.2.2.2.1 h.2.2.2.2.2.2
theorem j3_6 {α1 : Sort u1} {α2 : Sort u2} {α3 : Sort u3} {P0 P1 P2 P3 P4 P5 P6 : α1 → α2 → α3 → Prop} {g : Prop} (k : ∀ (v1 : α1) (v2 : α2) (v3 : α3), P0 v1 v2 v3 → P1 v1 v2 v3 → P2 v1 v2 v3 → P3 v1 v2 v3 → P4 v1 v2 v3 → P5 v1 v2 v3 → P6 v1 v2 v3 → g) (h : ∃ v1 v2 v3, P0 v1 v2 v3 ∧ P1 v1 v2 v3 ∧ P2 v1 v2 v3 ∧ P3 v1 v2 v3 ∧ P4 v1 v2 v3 ∧ P5 v1 v2 v3 ∧ P6 v1 v2 v3) : g := x3_6 h k
theorem m3_7 {α1 : Sort u1} {α2 : Sort u2} {α3 : Sort u3} {P0 P1 P2 P3 P4 P5 P6 P7 : α1 → α2 → α3 → Prop} (v1 : α1) (v2 : α2) (v3 : α3) (h0 : P0 v1 v2 v3) (h1 : P1 v1 v2 v3) (h2 : P2 v1 v2 v3) (h3 : P3 v1 v2 v3) (h4 : P4 v1 v2 v3) (h5 : P5 v1 v2 v3) (h6 : P6 v1 v2 v3) (h7 : P7 v1 v2 v3) : ∃ v1 v2 v3, P0 v1 v2 v3 ∧ P1 v1 v2 v3 ∧ P2 v1 v2 v3 ∧ P3 v1 v2 v3 ∧ P4 v1 v2 v3 ∧ P5 v1 v2 v3 ∧ P6 v1 v2 v3 ∧ P7 v1 v2 v3 := ⟨v1, v2, v3, h0, h1, h2, h3, h4, h5, h6, h7⟩
theorem m4_1 {α1 : Sort u1} {α2 : Sort u2} {α3 : Sort u3} {α4 : Sort u4} {P0 P1 : α1 → α2 → α3 → α4 → Prop} (v1 : α1) (v2 : α2) (v3 : α3) (v4 : α4) (h0 : P0 v1 v2 v3 v4) (h1 : P1 v1 v2 v3 v4) : ∃ v1 v2 v3 v4, P0 v1 v2 v3 v4 ∧ P1 v1 v2 v3 v4 := ⟨v1, v2, v3, v4, h0, h1⟩
theorem x4_1 {α1 : Sort u1} {α2 : Sort u2} {α3 : Sort u3} {α4 : Sort u4} {P0 P1 : α1 → α2 → α3 → α4 → Prop} {g : Prop} (h : ∃ v1 v2 v3 v4, P0 v1 v2 v3 v4 ∧ P1 v1 v2 v3 v4) (k : ∀ (v1 : α1) (v2 : α2) (v3 : α3) (v4 : α4), P0 v1 v2 v3 v4 → P1 v1 v2 v3 v4 → g) : g := h.elim fun v1 h => h.elim fun v2 h => h.elim fun v3 h => h.elim fun v4 h => k v1 v2 v3 v4 h.1 h.2
theorem j4_1 {α1 : Sort u1} {α2 : Sort u2} {α3 : Sort u3} {α4 : Sort u4} {P0 P1 : α1 → α2 → α3 → α4 → Prop} {g : Prop} (k : ∀ (v1 : α1) (v2 : α2) (v3 : α3) (v4 : α4), P0 v1 v2 v3 v4 → P1 v1 v2 v3 v4 → g) (h : ∃ v1 v2 v3 v4, P0 v1 v2 v3 v4 ∧ P1 v1 v2 v3 v4) : g := x4_1 h k
theorem m4_2 {α1 : Sort u1} {α2 : Sort u2} {α3 : Sort u3} {α4 : Sort u4} {P0 P1 P2 : α1 → α2 → α3 → α4 → Prop} (v1 : α1) (v2 : α2) (v3 : α3) (v4 : α4) (h0 : P0 v1 v2 v3 v4) (h1 : P1 v1 v2 v3 v4) (h2 : P2 v1 v2 v3 v4) : ∃ v1 v2 v3 v4, P0 v1 v2 v3 v4 ∧ P1 v1 v2 v3 v4 ∧ P2 v1 v2 v3 v4 := ⟨v1, v2, v3, v4, h0, h1, h2⟩
theorem m4_4 {α1 : Sort u1} {α2 : Sort u2} {α3 : Sort u3} {α4 : Sort u4} {P0 P1 P2 P3 P4 : α1 → α2 → α3 → α4 → Prop} (v1 : α1) (v2 : α2) (v3 : α3) (v4 : α4) (h0 : P0 v1 v2 v3 v4) (h1 : P1 v1 v2 v3 v4) (h2 : P2 v1 v2 v3 v4) (h3 : P3 v1 v2 v3 v4) (h4 : P4 v1 v2 v3 v4) : ∃ v1 v2 v3 v4, P0 v1 v2 v3 v4 ∧ P1 v1 v2 v3 v4 ∧ P2 v1 v2 v3 v4 ∧ P3 v1 v2 v3 v4 ∧ P4 v1 v2 v3 v4 := ⟨v1, v2, v3, v4, h0, h1, h2, h3, h4⟩
theorem m4_6 {α1 : Sort u1} {α2 : Sort u2} {α3 : Sort u3} {α4 : Sort u4} {P0 P1 P2 P3 P4 P5 P6 : α1 → α2 → α3 → α4 → Prop} (v1 : α1) (v2 : α2) (v3 : α3) (v4 : α4) (h0 : P0 v1 v2 v3 v4) (h1 : P1 v1 v2 v3 v4) (h2 : P2 v1 v2 v3 v4) (h3 : P3 v1 v2 v3 v4) (h4 : P4 v1 v2 v3 v4) (h5 : P5 v1 v2 v3 v4) (h6 : P6 v1 v2 v3 v4) : ∃ v1 v2 v3 v4, P0 v1 v2 v3 v4 ∧ P1 v1 v2 v3 v4 ∧ P2 v1 v2 v3 v4 ∧ P3 v1 v2 v3 v4 ∧ P4 v1 v2 v3 v4 ∧ P5 v1 v2 v3 v4 ∧ P6 v1 v2 v3 v4 := ⟨v1, v2, v3, v4, h0, h1, h2, h3, h4, h5, h6⟩
theorem x4_6 {α1 : Sort u1} {α2 : Sort u2} {α3 : Sort u3} {α4 : Sort u4} {P0 P1 P2 P3 P4 P5 P6 : α1 → α2 → α3 → α4 → Prop} {g : Prop} (h : ∃ v1 v2 v3 v4, P0 v1 v2 v3 v4 ∧ P1 v1 v2 v3 v4 ∧ P2 v1 v2 v3 v4 ∧ P3 v1 v2 v3 v4 ∧ P4 v1 v2 v3 v4 ∧ P5 v1 v2 v3 v4 ∧ P6 v1 v2 v3 v4) (k : ∀ (v1 : α1) (v2 : α2) (v3 : α3) (v4 : α4), P0 v1 v2 v3 v4 → P1 v1 v2 v3 v4 → P2 v1 v2 v3 v4 → P3 v1 v2 v3 v4 → P4 v1 v2 v3 v4 → P5 v1 v2 v3 v4 → P6 v1 v2 v3 v4 → g) : g := h.elim fun v1 h => h.elim fun v2 h => h.elim fun v3 h => h.elim fun v4 h => k v1 v2 v3 v4 h.1 h.2.1 h.2.2.1 h.2.2.2.1 h.2.2.2.2.1 h.2.2.2.2.2.1 h.2.2.2.2.2.2
theorem j4_6 {α1 : Sort u1} {α2 : Sort u2} {α3 : Sort u3} {α4 : Sort u4} {P0 P1 P2 P3 P4 P5 P6 : α1 → α2 → α3 → α4 → Prop} {g : Prop} (k : ∀ (v1 : α1) (v2 : α2) (v3 : α3) (v4 : α4), P0 v1 v2 v3 v4 → P1 v1 v2 v3 v4 → P2 v1 v2 v3 v4 → P3 v1 v2 v3 v4 → P4 v1 v2 v3 v4 → P5 v1 v2 v3 v4 → P6 v1 v2 v3 v4 → g) (h : ∃ v1 v2 v3 v4, P0 v1 v2 v3 v4 ∧ P1 v1 v2 v3 v4 ∧ P2 v1 v2 v3 v4 ∧ P3 v1 v2 v3 v4 ∧ P4 v1 v2 v3 v4 ∧ P5 v1 v2 v3 v4 ∧ P6 v1 v2 v3 v4) : g := x4_6 h k
theorem m4_7 {α1 : Sort u1} {α2 : Sort u2} {α3 : Sort u3} {α4 : Sort u4} {P0 P1 P2 P3 P4 P5 P6 P7 : α1 → α2 → α3 → α4 → Prop} (v1 : α1) (v2 : α2) (v3 : α3) (v4 : α4) (h0 : P0 v1 v2 v3 v4) (h1 : P1 v1 v2 v3 v4) (h2 : P2 v1 v2 v3 v4) (h3 : P3 v1 v2 v3 v4) (h4 : P4 v1 v2 v3 v4) (h5 : P5 v1 v2 v3 v4) (h6 : P6 v1 v2 v3 v4) (h7 : P7 v1 v2 v3 v4) : ∃ v1 v2 v3 v4, P0 v1 v2 v3 v4 ∧ P1 v1 v2 v3 v4 ∧ P2 v1 v2 v3 v4 ∧ P3 v1 v2 v3 v4 ∧ P4 v1 v2 v3 v4 ∧ P5 v1 v2 v3 v4 ∧ P6 v1 v2 v3 v4 ∧ P7 v1 v2 v3 v4 := ⟨v1, v2, v3, v4, h0, h1, h2, h3, h4, h5, h6, h7⟩
theorem x5_2 {α1 : Sort u1} {α2 : Sort u2} {α3 : Sort u3} {α4 : Sort u4} {α5 : Sort u5} {P0 P1 P2 : α1 → α2 → α3 → α4 → α5 → Prop} {g : Prop} (h : ∃ v1 v2 v3 v4 v5, P0 v1 v2 v3 v4 v5 ∧ P1 v1 v2 v3 v4 v5 ∧ P2 v1 v2 v3 v4 v5) (k : ∀ (v1 : α1) (v2 : α2) (v3 : α3) (v4 : α4) (v5 : α5), P0 v1 v2 v3 v4 v5 → P1 v1 v2 v3 v4 v5 → P2 v1 v2 v3 v4 v5 → g) : g := h.elim fun v1 h => h.elim fun v2 h => h.elim fun v3 h => h.elim fun v4 h => h.elim fun v5 h => k v1 v2 v3 v4 v5 h.1 h.2.1 h.2.2
theorem m5_3 {α1 : Sort u1} {α2 : Sort u2} {α3 : Sort u3} {α4 : Sort u4} {α5 : Sort u5} {P0 P1 P2 P3 : α1 → α2 → α3 → α4 → α5 → Prop} (v1 : α1) (v2 : α2) (v3 : α3) (v4 : α4) (v5 : α5) (h0 : P0 v1 v2 v3 v4 v5) (h1 : P1 v1 v2 v3 v4 v5) (h2 : P2 v1 v2 v3 v4 v5) (h3 : P3 v1 v2 v3 v4 v5) : ∃ v1 v2 v3 v4 v5, P0 v1 v2 v3 v4 v5 ∧ P1 v1 v2 v3 v4 v5 ∧ P2 v1 v2 v3 v4 v5 ∧ P3 v1 v2 v3 v4 v5 := ⟨v1, v2, v3, v4, v5, h0, h1, h2, h3⟩
theorem m5_5 {α1 : Sort u1} {α2 : Sort u2} {α3 : Sort u3} {α4 : Sort u4} {α5 : Sort u5} {P0 P1 P2 P3 P4 P5 : α1 → α2 → α3 → α4 → α5 → Prop} (v1 : α1) (v2 : α2) (v3 : α3) (v4 : α4) (v5 : α5) (h0 : P0 v1 v2 v3 v4 v5) (h1 : P1 v1 v2 v3 v4 v5) (h2 : P2 v1 v2 v3 v4 v5) (h3 : P3 v1 v2 v3 v4 v5) (h4 : P4 v1 v2 v3 v4 v5) (h5 : P5 v1 v2 v3 v4 v5) : ∃ v1 v2 v3 v4 v5, P0 v1 v2 v3 v4 v5 ∧ P1 v1 v2 v3 v4 v5 ∧ P2 v1 v2 v3 v4 v5 ∧ P3 v1 v2 v3 v4 v5 ∧ P4 v1 v2 v3 v4 v5 ∧ P5 v1 v2 v3 v4 v5 := ⟨v1, v2, v3, v4, v5, h0, h1, h2, h3, h4, h5⟩
theorem x5_5 {α1 : Sort u1} {α2 : Sort u2} {α3 : Sort u3} {α4 : Sort u4} {α5 : Sort u5} {P0 P1 P2 P3 P4 P5 : α1 → α2 → α3 → α4 → α5 → Prop} {g : Prop} (h : ∃ v1 v2 v3 v4 v5, P0 v1 v2 v3 v4 v5 ∧ P1 v1 v2 v3 v4 v5 ∧ P2 v1 v2 v3 v4 v5 ∧ P3 v1 v2 v3 v4 v5 ∧ P4 v1 v2 v3 v4 v5 ∧ P5 v1 v2 v3 v4 v5) (k : ∀ (v1 : α1) (v2 : α2) (v3 : α3) (v4 : α4) (v5 : α5), P0 v1 v2 v3 v4 v5 → P1 v1 v2 v3 v4 v5 → P2 v1 v2 v3 v4 v5 → P3 v1 v2 v3 v4 v5 → P4 v1 v2 v3 v4 v5 → P5 v1 v2 v3 v4 v5 → g) : g := h.elim fun v1 h => h.elim fun v2 h => h.elim fun v3 h => h.elim fun v4 h => h.elim fun v5 h => k v1 v2 v3 v4 v5 h.1 h.2.1 h.2.2.1 h.2.2.2.1 h.2.2.2.2.1 h.2.2.2.2.2
theorem m5_10 {α1 : Sort u1} {α2 : Sort u2} {α3 : Sort u3} {α4 : Sort u4} {α5 : Sort u5} {P0 P1 P2 P3 P4 P5 P6 P7 P8 P9 P10 : α1 → α2 → α3 → α4 → α5 → Prop} (v1 : α1) (v2 : α2) (v3 : α3) (v4 : α4) (v5 : α5) (h0 : P0 v1 v2 v3 v4 v5) (h1 : P1 v1 v2 v3 v4 v5) (h2 : P2 v1 v2 v3 v4 v5) (h3 : P3 v1 v2 v3 v4 v5) (h4 : P4 v1 v2 v3 v4 v5) (h5 : P5 v1 v2 v3 v4 v5) (h6 : P6 v1 v2 v3 v4 v5) (h7 : P7 v1 v2 v3 v4 v5) (h8 : P8 v1 v2 v3 v4 v5) (h9 : P9 v1 v2 v3 v4 v5) (h10 : P10 v1 v2 v3 v4 v5) : ∃ v1 v2 v3 v4 v5, P0 v1 v2 v3 v4 v5 ∧ P1 v1 v2 v3 v4 v5 ∧ P2 v1 v2 v3 v4 v5 ∧ P3 v1 v2 v3 v4 v5 ∧ P4 v1 v2 v3 v4 v5 ∧ P5 v1 v2 v3 v4 v5 ∧ P6 v1 v2 v3 v4 v5 ∧ P7 v1 v2 v3 v4 v5 ∧ P8 v1 v2 v3 v4 v5 ∧ P9 v1 v2 v3 v4 v5 ∧ P10 v1 v2 v3 v4 v5 := ⟨v1, v2, v3, v4, v5, h0, h1, h2, h3, h4, h5, h6, h7, h8, h9, h10⟩
theorem x5_10 {α1 : Sort u1} {α2 : Sort u2} {α3 : Sort u3} {α4 : Sort u4} {α5 : Sort u5} {P0 P1 P2 P3 P4 P5 P6 P7 P8 P9 P10 : α1 → α2 → α3 → α4 → α5 → Prop} {g : Prop} (h : ∃ v1 v2 v3 v4 v5, P0 v1 v2 v3 v4 v5 ∧ P1 v1 v2 v3 v4 v5 ∧ P2 v1 v2 v3 v4 v5 ∧ P3 v1 v2 v3 v4 v5 ∧ P4 v1 v2 v3 v4 v5 ∧ P5 v1 v2 v3 v4 v5 ∧ P6 v1 v2 v3 v4 v5 ∧ P7 v1 v2 v3 v4 v5 ∧ P8 v1 v2 v3 v4 v5 ∧ P9 v1 v2 v3 v4 v5 ∧ P10 v1 v2 v3 v4 v5) (k : ∀ (v1 : α1) (v2 : α2) (v3 : α3) (v4 : α4) (v5 : α5), P0 v1 v2 v3 v4 v5 → P1 v1 v2 v3 v4 v5 → P2 v1 v2 v3 v4 v5 → P3 v1 v2 v3 v4 v5 → P4 v1 v2 v3 v4 v5 → P5 v1 v2 v3 v4 v5 → P6 v1 v2 v3 v4 v5 → P7 v1 v2 v3 v4 v5 → P8 v1 v2 v3 v4 v5 → P9 v1 v2 v3 v4 v5 → P10 v1 v2 v3 v4 v5 → g) : g := h.elim fun v1 h => h.elim fun v2 h => h.elim fun v3 h => h.elim fun v4 h => h.elim fun v5 h => k v1 v2 v3 v4 v5 h.1 h.2.1 h.2.2.1 h.2.2.2.1 h.2.2.2.2.1 h.2.2.2.2.2.1 h.2.2.2.2.2.2.1 h.2.2.2.2.2.2.2.1 h.2.2.2.2.2.2.2.2.1 h.2.2.2.2.2.2.2.2.2.1 h.2.2.2.2.2.2.2.2.2.2
theorem m6_2 {α1 : Sort u1} {α2 : Sort u2} {α3 : Sort u3} {α4 : Sort u4} {α5 : Sort u5} {α6 : Sort u6} {P0 P1 P2 : α1 → α2 → α3 → α4 → α5 → α6 → Prop} (v1 : α1) (v2 : α2) (v3 : α3) (v4 : α4) (v5 : α5) (v6 : α6) (h0 : P0 v1 v2 v3 v4 v5 v6) (h1 : P1 v1 v2 v3 v4 v5 v6) (h2 : P2 v1 v2 v3 v4 v5 v6) : ∃ v1 v2 v3 v4 v5 v6, P0 v1 v2 v3 v4 v5 v6 ∧ P1 v1 v2 v3 v4 v5 v6 ∧ P2 v1 v2 v3 v4 v5 v6 := ⟨v1, v2, v3, v4, v5, v6, h0, h1, h2⟩
theorem x6_2 {α1 : Sort u1} {α2 : Sort u2} {α3 : Sort u3} {α4 : Sort u4} {α5 : Sort u5} {α6 : Sort u6} {P0 P1 P2 : α1 → α2 → α3 → α4 → α5 → α6 → Prop} {g : Prop} (h : ∃ v1 v2 v3 v4 v5 v6, P0 v1 v2 v3 v4 v5 v6 ∧ P1 v1 v2 v3 v4 v5 v6 ∧ P2 v1 v2 v3 v4 v5 v6) (k : ∀ (v1 : α1) (v2 : α2) (v3 : α3) (v4 : α4) (v5 : α5) (v6 : α6), P0 v1 v2 v3 v4 v5 v6 → P1 v1 v2 v3 v4 v5 v6 → P2 v1 v2 v3 v4 v5 v6 → g) : g := h.elim fun v1 h => h.elim fun v2 h => h.elim fun v3 h => h.elim fun v4 h => h.elim fun v5 h => h.elim fun v6 h => k v1 v2 v3 v4 v5 v6 h.1 h.2.1 h.2.2
theorem j6_2 {α1 : Sort u1} {α2 : Sort u2} {α3 : Sort u3} {α4 : Sort u4} {α5 : Sort u5} {α6 : Sort u6} {P0 P1 P2 : α1 → α2 → α3 → α4 → α5 → α6 → Prop} {g : Prop} (k : ∀ (v1 : α1) (v2 : α2) (v3 : α3) (v4 : α4) (v5 : α5) (v6 : α6), P0 v1 v2 v3 v4 v5 v6 → P1 v1 v2 v3 v4 v5 v6 → P2 v1 v2 v3 v4 v5 v6 → g) (h : ∃ v1 v2 v3 v4 v5 v6, P0 v1 v2 v3 v4 v5 v6 ∧ P1 v1 v2 v3 v4 v5 v6 ∧ P2 v1 v2 v3 v4 v5 v6) : g := x6_2 h k
theorem m7_3 {α1 : Sort u1} {α2 : Sort u2} {α3 : Sort u3} {α4 : Sort u4} {α5 : Sort u5} {α6 : Sort u6} {α7 : Sort u7} {P0 P1 P2 P3 : α1 → α2 → α3 → α4 → α5 → α6 → α7 → Prop} (v1 : α1) (v2 : α2) (v3 : α3) (v4 : α4) (v5 : α5) (v6 : α6) (v7 : α7) (h0 : P0 v1 v2 v3 v4 v5 v6 v7) (h1 : P1 v1 v2 v3 v4 v5 v6 v7) (h2 : P2 v1 v2 v3 v4 v5 v6 v7) (h3 : P3 v1 v2 v3 v4 v5 v6 v7) : ∃ v1 v2 v3 v4 v5 v6 v7, P0 v1 v2 v3 v4 v5 v6 v7 ∧ P1 v1 v2 v3 v4 v5 v6 v7 ∧ P2 v1 v2 v3 v4 v5 v6 v7 ∧ P3 v1 v2 v3 v4 v5 v6 v7 := ⟨v1, v2, v3, v4, v5, v6, v7, h0, h1, h2, h3⟩
theorem x7_3 {α1 : Sort u1} {α2 : Sort u2} {α3 : Sort u3} {α4 : Sort u4} {α5 : Sort u5} {α6 : Sort u6} {α7 : Sort u7} {P0 P1 P2 P3 : α1 → α2 → α3 → α4 → α5 → α6 → α7 → Prop} {g : Prop} (h : ∃ v1 v2 v3 v4 v5 v6 v7, P0 v1 v2 v3 v4 v5 v6 v7 ∧ P1 v1 v2 v3 v4 v5 v6 v7 ∧ P2 v1 v2 v3 v4 v5 v6 v7 ∧ P3 v1 v2 v3 v4 v5 v6 v7) (k : ∀ (v1 : α1) (v2 : α2) (v3 : α3) (v4 : α4) (v5 : α5) (v6 : α6) (v7 : α7), P0 v1 v2 v3 v4 v5 v6 v7 → P1 v1 v2 v3 v4 v5 v6 v7 → P2 v1 v2 v3 v4 v5 v6 v7 → P3 v1 v2 v3 v4 v5 v6 v7 → g) : g := h.elim fun v1 h => h.elim fun v2 h => h.elim fun v3 h => h.elim fun v4 h => h.elim fun v5 h => h.elim fun v6 h => h.elim fun v7 h => k v1 v2 v3 v4 v5 v6 v7 h.1 h.2.1 h.2.2.1 h.2.2.2
theorem m7_4 {α1 : Sort u1} {α2 : Sort u2} {α3 : Sort u3} {α4 : Sort u4} {α5 : Sort u5} {α6 : Sort u6} {α7 : Sort u7} {P0 P1 P2 P3 P4 : α1 → α2 → α3 → α4 → α5 → α6 → α7 → Prop} (v1 : α1) (v2 : α2) (v3 : α3) (v4 : α4) (v5 : α5) (v6 : α6) (v7 : α7) (h0 : P0 v1 v2 v3 v4 v5 v6 v7) (h1 : P1 v1 v2 v3 v4 v5 v6 v7) (h2 : P2 v1 v2 v3 v4 v5 v6 v7) (h3 : P3 v1 v2 v3 v4 v5 v6 v7) (h4 : P4 v1 v2 v3 v4 v5 v6 v7) : ∃ v1 v2 v3 v4 v5 v6 v7, P0 v1 v2 v3 v4 v5 v6 v7 ∧ P1 v1 v2 v3 v4 v5 v6 v7 ∧ P2 v1 v2 v3 v4 v5 v6 v7 ∧ P3 v1 v2 v3 v4 v5 v6 v7 ∧ P4 v1 v2 v3 v4 v5 v6 v7 := ⟨v1, v2, v3, v4, v5, v6, v7, h0, h1, h2, h3, h4⟩
theorem x7_4 {α1 : Sort u1} {α2 : Sort u2} {α3 : Sort u3} {α4 : Sort u4} {α5 : Sort u5} {α6 : Sort u6} {α7 : Sort u7} {P0 P1 P2 P3 P4 : α1 → α2 → α3 → α4 → α5 → α6 → α7 → Prop} {g : Prop} (h : ∃ v1 v2 v3 v4 v5 v6 v7, P0 v1 v2 v3 v4 v5 v6 v7 ∧ P1 v1 v2 v3 v4 v5 v6 v7 ∧ P2 v1 v2 v3 v4 v5 v6 v7 ∧ P3 v1 v2 v3 v4 v5 v6 v7 ∧ P4 v1 v2 v3 v4 v5 v6 v7) (k : ∀ (v1 : α1) (v2 : α2) (v3 : α3) (v4 : α4) (v5 : α5) (v6 : α6) (v7 : α7), P0 v1 v2 v3 v4 v5 v6 v7 → P1 v1 v2 v3 v4 v5 v6 v7 → P2 v1 v2 v3 v4 v5 v6 v7 → P3 v1 v2 v3 v4 v5 v6 v7 → P4 v1 v2 v3 v4 v5 v6 v7 → g) : g := h.elim fun v1 h => h.elim fun v2 h => h.elim fun v3 h => h.elim fun v4 h => h.elim fun v5 h => h.elim fun v6 h => h.elim fun v7 h => k v1 v2 v3 v4 v5 v6 v7 h.1 h.2.1 h.2.2.1 h.2.2.2.1 h.2.2.2.2
end PL
end
section
open PySem PySem.Calls PyProof.Rows PySem.W
set_option autoImplicit false
set_option linter.unusedVariables false
namespace PL

/-- an abstract value: what a value says, without the marks of its making -/
inductive AV where
  | none
  | bool (b : Bool)
  | int (i : Int)
  | str (s : Str)
  | ref (a : Addr)
  | lit (v : Value)

noncomputable def AV.Is : AV → Value → Prop
  | .none, v => v = .none
  | .bool b, v => v = .bool b
  | .int i, v => ∃ t, v = .int i t
  | .str s, v => ∃ t, v = .str s t
  | .ref a, v => v = .ref a
  | .lit w, v => v = w

inductive All2 {α β : Type} (r : α → β → Prop) : List α → List β → Prop
  | nil : All2 r [] []
  | cons {a : α} {b : β} {as : List α} {bs : List β} : r a b → All2 r as bs → All2 r (a :: as) (b :: bs)

namespace All2
variable {α β : Type} {r : α → β → Prop}
theorem length {as : List α} {bs : List β} (h : All2 r as bs) : as.length = bs.length := by
  induction h with
  | nil => rfl
  | cons _ _ ih => simp [ih]
theorem get {as : List α} {bs : List β} (h : All2 r as bs) : ∀ {i : Nat} {a : α}, as[i]? = some a → ∃ b, bs[i]? = some b ∧ r a b := by
  induction h with
  | nil => intro i a e; simp at e
  | @cons a b as bs hab _ ih =>
    intro i a' e
    cases i with
    | zero => simp at e; subst e; exact (PL.m1_1 b (by simp) hab)
    | succ i => simp at e; simpa using ih e
theorem getR {as : List α} {bs : List β} (h : All2 r as bs) : ∀ {i : Nat} {b : β}, bs[i]? = some b → ∃ a, as[i]? = some a ∧ r a b := by
  induction h with
  | nil => intro i a e; simp at e
  | @cons a b as bs hab _ ih =>
    intro i b' e
    cases i with
    | zero => simp at e; subst e; exact (PL.m1_1 a (by simp) hab)
    | succ i => simp at e; simpa using ih e
theorem none {as : List α} {bs : List β} (h : All2 r as bs) {i : Nat} (e : as[i]? = .none) : bs[i]? = .none := by
  rw [List.getElem?_eq_none_iff] at e ⊢; rw [← h.length]; exact e
theorem append {as as' : List α} {bs bs' : List β} (h : All2 r as bs) (h' : All2 r as' bs') : All2 r (as ++ as') (bs ++ bs') := by
  induction h with
  | nil => exact h'
  | cons hab _ ih => exact .cons hab ih
theorem one {a : α} {b : β} (h : r a b) : All2 r [a] [b] := .cons h .nil
theorem set {as : List α} {bs : List β} (h : All2 r as bs) {a : α} {b : β} (hab : r a b) : ∀ i : Nat, All2 r (as.set i a) (bs.set i b) := by
  induction h with
  | nil => intro i; exact .nil
  | cons h1 hr ih =>
    intro i
    cases i with
    | zero => exact .cons hab hr
    | succ i => exact .cons h1 (ih i)
theorem take {as : List α} {bs : List β} (h : All2 r as bs) : ∀ n, All2 r (as.take n) (bs.take n) := by
  induction h with
  | nil => intro n; simp; exact .nil
  | cons h1 hr ih =>
    intro n
    cases n with
    | zero => exact .nil
    | succ n => exact .cons h1 (ih n)
theorem drop {as : List α} {bs : List β} (h : All2 r as bs) : ∀ n, All2 r (as.drop n) (bs.drop n) := by
  induction h with
  | nil => intro n; simp; exact .nil
  | cons h1 hr ih =>
    intro n
    cases n with
    | zero => exact .cons h1 hr
    | succ n => exact ih n
theorem nilL {bs : List β} (h : All2 r [] bs) : bs = [] := by cases h; rfl
theorem consL {a : α} {as : List α} {bs : List β} (h : All2 r (a :: as) bs) : ∃ b bs', bs = b :: bs' ∧ r a b ∧ All2 r as bs' := by
  cases h with | cons h1 h2 => exact (PL.m2_2 _ _ rfl h1 h2)
end All2

noncomputable abbrev AllIs (xs : List AV) (vs : List Value) : Prop := All2 AV.Is xs vs

structure Gd where
  prog : Program
  w : World
  t : Heap
  os : OsState

/-- an abstract object -/
inductive AO where
  | list (xs : List AV)
  | tuple (xs : List AV)
  | sdict (kvs : List (Str × AV)) (ep : Nat)
  | idict (kvs : List (Int × AV)) (ep : Nat)
  | sset (S : Str → Bool) (n : Nat)
  | ns (names : List (Str × NameKind)) (vs : List (Option AV))
  | cell (v : Option AV)
  | listiter (l : Addr) (i : Nat)
  | tupiter (l : Addr) (i : Nat)
  | keyiter (d : Addr) (i n ep : Nat)
  | valiter (d : Addr) (i n ep : Nat)
  | rangeiter (x left step : Int)
  | inst (C : Addr) (dx : Addr)
  | slots (C dx : Addr) (vs : List (Option AV))
  | fields (T : String) (vs : List AV)
  | raw (o : Obj)
  | tab
  | typed (T : String)
  | idct (kvs : List (Str × AV))
  | exc (c : Value) (T : Option Addr)
  | tb (fl : Value)

noncomputable def DRel (p : Str × AV) (e : DictEntry) : Prop := (∃ t, e.key = .str p.1 t) ∧ p.2.Is e.val
noncomputable def ORel : Option AV → Option Value → Prop
  | .none, _ => True
  | .some a, v => ∃ v', v = some v' ∧ a.Is v'

noncomputable def KRel {K : Type} (p : K × AV) (q : K × Value) : Prop := p.1 = q.1 ∧ p.2.Is q.2

/-- the name x stands in the list of names with its kind; its value stands at the same place -/
inductive Look (x : Str) (k : NameKind) (av : AV) : List (Str × NameKind) → List (Option AV) → Prop
  | here {ns : List (Str × NameKind)} {vs : List (Option AV)} : Look x k av ((x, k) :: ns) (some av :: vs)
  | there {p : Str × NameKind} {o : Option AV} {ns : List (Str × NameKind)} {vs : List (Option AV)} : Look x k av ns vs → Look x k av (p :: ns) (o :: vs)
inductive Put (x : Str) (k : NameKind) (av : AV) : List (Str × NameKind) → List (Option AV) → List (Option AV) → Prop
  | here {o : Option AV} {ns : List (Str × NameKind)} {vs : List (Option AV)} : Put x k av ((x, k) :: ns) (o :: vs) (some av :: vs)
  | there {p : Str × NameKind} {o : Option AV} {ns : List (Str × NameKind)} {vs vs' : List (Option AV)} : Put x k av ns vs vs' → Put x k av (p :: ns) (o :: vs) (o :: vs')
/-- the name stands in a table -/
inductive LookT {β : Type} (x : Str) (b : β) : List (Str × β) → Prop
  | here {l : List (Str × β)} : LookT x b ((x, b) :: l)
  | there {p : Str × β} {l : List (Str × β)} : LookT x b l → LookT x b (p :: l)
theorem LookT.mem {β : Type} {x : Str} {b : β} {l : List (Str × β)} (h : LookT x b l) : (x, b) ∈ l := by
  induction h with
  | here => exact .head _
  | there _ ih => exact .tail _ ih
theorem lookup_of_mem {β : Type} {x : Str} {b : β} : ∀ {l : List (Str × β)}, (l.map (·.1)).Nodup → (x, b) ∈ l → l.lookup x = some b
  | (k, v) :: r, hn, hm => by
    rw [List.map_cons, List.nodup_cons] at hn
    rcases List.mem_cons.mp hm with e | hm
    · cases e; simp
    · have hne : (x == k) = false := beq_eq_false_iff_ne.mpr fun e => hn.1 (e ▸ List.mem_map.mpr (PL.m1_1 ((x, b)) hm rfl))
      rw [List.lookup_cons, hne]
      exact lookup_of_mem hn.2 hm
theorem LookT.lookup {β : Type} {x : Str} {b : β} {l : List (Str × β)} (h : LookT x b l) (hn : (l.map (·.1)).Nodup) : l.lookup x = some b := lookup_of_mem hn h.mem
theorem Look.kind {x : Str} {k : NameKind} {av : AV} {ns : List (Str × NameKind)} {vs : List (Option AV)} (h : Look x k av ns vs) : LookT x k ns := by
  induction h with
  | here => exact .here
  | there _ ih => exact .there ih
theorem Put.kind {x : Str} {k : NameKind} {av : AV} {ns : List (Str × NameKind)} {vs vs' : List (Option AV)} (h : Put x k av ns vs vs') : LookT x k ns := by
  induction h with
  | here => exact .here
  | there _ ih => exact .there ih
/-- what the names hold -/
noncomputable def NsIs (ns : List (Str × NameKind)) (vs : List (Option AV)) (m : Str → Option Value) : Prop := ∀ x k av, Look x k av ns vs → ∃ v, m x = some v ∧ av.Is v

noncomputable def At (G : Gd) (h : Heap) (a : Addr) : AO → Prop
  | .list xs => ∃ vs, h.PlainList a vs ∧ AllIs xs vs.toList
  | .tuple xs => ∃ vs : List Value, h.get? a = some { cls := .type "tuple", data := .seq vs.toArray } ∧ AllIs xs vs
  | .sdict kvs ep => (a == sysModules) = false ∧ ∃ kvs', h.DictAt (strKind G.prog G.w) a kvs' ep ∧ All2 KRel kvs kvs'
  | .idict kvs ep => (a == sysModules) = false ∧ ∃ kvs', h.DictAt (intKind G.prog G.w) a kvs' ep ∧ All2 KRel kvs kvs'
  | .sset S n => h.SetOf (strKind G.prog G.w) a S n
  | .ns ns vs => ∃ m', h.Ns a m' ∧ NsIs ns vs m'
  | .cell v => ∃ v', h.IsCell a v' ∧ ORel v v'
  | .listiter l i => h.IsListIter a l i
  | .tupiter l i => h.IsTupleIter a l i
  | .keyiter d i n ep => h.IsKeyIter a d i n ep
  | .valiter d i n ep => h.IsValIter a d i n ep
  | .rangeiter x left step => IsRangeIter h a x left step
  | .inst C dx => h.get? a = some ⟨.ref C, some dx, .plain, #[]⟩
  | .slots C dx vs => ∃ vs' : List (Option Value), h.get? a = some ⟨.ref C, some dx, .plain, vs'.toArray⟩ ∧ All2 ORel vs vs'
  | .fields T vs => ∃ vs' : List Value, h.get? a = some { cls := .type T, data := .fields vs'.toArray } ∧ AllIs vs vs'
  | .raw o => h.get? a = some o
  | .tab => ∃ ps, h.get? a = some (tabObj ps) ∧ TriplesOk ps.toList
  | .typed T => ∃ o, h.get? a = some o ∧ o.cls = .type T
  | .idct kvs => ∃ es n, h.get? a = some (dictOf es n) ∧ All2 DRel kvs es
  | .exc c T => ∃ o vs, h.get? a = some o ∧ o.cls = c ∧ o.data = .fields vs ∧ vs[1]? = some (T.elim .none .ref)
  | .tb fl => ∃ o ts, h.get? a = some o ∧ o.data = .fields ts ∧ ts[3]? = some fl

theorem At.keep {G : Gd} {h h' : Heap} {a : Addr} {ao : AO} (x : At G h a ao) (e : ∀ o, h.get? a = some o → h'.get? a = some o) : At G h' a ao := by
  cases ao with
  | list xs => (revert x; refine PL.j1_1 ?_; rintro vs ⟨n, h1⟩ h2); exact (PL.m1_1 vs (⟨n, e _ h1⟩) h2)
  | tuple xs => (revert x; refine PL.j1_1 ?_; rintro vs h1 h2); exact (PL.m1_1 vs (e _ h1) h2)
  | sdict kvs ep => obtain ⟨h0, k', ⟨o, es, ho, r⟩, h2⟩ := x; exact ⟨h0, k', (PL.m2_1 o es (e _ ho) r), h2⟩
  | idict kvs ep => obtain ⟨h0, k', ⟨o, es, ho, r⟩, h2⟩ := x; exact ⟨h0, k', (PL.m2_1 o es (e _ ho) r), h2⟩
  | sset S n => (revert x; refine PL.j4_1 ?_; rintro o es ep t ho r); exact (PL.m4_1 o es ep t (e _ ho) r)
  | ns ns vs => (revert x; refine PL.j1_1 ?_; rintro m' ⟨o, es, ep, ho, r⟩ h2); exact (PL.m1_1 m' ((PL.m3_1 o es ep (e _ ho) r)) h2)
  | cell v => (revert x; refine PL.j1_1 ?_; rintro v' ⟨o, ho, r⟩ h2); exact (PL.m1_1 v' ((PL.m1_1 o (e _ ho) r)) h2)
  | listiter l i => (revert x; refine PL.j1_1 ?_; rintro o ho r); exact (PL.m1_1 o (e _ ho) r)
  | tupiter l i => (revert x; refine PL.j1_1 ?_; rintro o ho r); exact (PL.m1_1 o (e _ ho) r)
  | keyiter d i n ep => (revert x; refine PL.j1_1 ?_; rintro o ho r); exact (PL.m1_1 o (e _ ho) r)
  | valiter d i n ep => (revert x; refine PL.j1_1 ?_; rintro o ho r); exact (PL.m1_1 o (e _ ho) r)
  | rangeiter x l s => exact e _ x
  | inst C dx => exact e _ x
  | slots C dx vs => (revert x; refine PL.j1_1 ?_; rintro vs' h1 h2); exact (PL.m1_1 vs' (e _ h1) h2)
  | fields T vs => (revert x; refine PL.j1_1 ?_; rintro vs' h1 h2); exact (PL.m1_1 vs' (e _ h1) h2)
  | raw o => exact e _ x
  | tab => (revert x; refine PL.j1_1 ?_; rintro ps h1 h2); exact (PL.m1_1 ps (e _ h1) h2)
  | typed T => (revert x; refine PL.j1_1 ?_; rintro o h1 h2); exact (PL.m1_1 o (e _ h1) h2)
  | idct kvs => (revert x; refine PL.j2_1 ?_; rintro es n h1 h2); exact (PL.m2_1 es n (e _ h1) h2)
  | exc c T => (revert x; refine PL.j2_1 ?_; rintro o vs h1 h2); exact (PL.m2_1 o vs (e _ h1) h2)
  | tb fl => (revert x; refine PL.j2_1 ?_; rintro o vs h1 h2); exact (PL.m2_1 o vs (e _ h1) h2)

theorem At.some {G : Gd} {h : Heap} {a : Addr} {ao : AO} (x : At G h a ao) : ∃ o, h.get? a = some o := by
  cases ao with
  | list xs => (revert x; refine PL.j1_1 ?_; rintro vs ⟨n, h1⟩ h2); exact ⟨_, h1⟩
  | tuple xs => (revert x; refine PL.j1_1 ?_; rintro vs h1 h2); exact ⟨_, h1⟩
  | sdict kvs ep => obtain ⟨h0, k', ⟨o, es, ho, r⟩, h2⟩ := x; exact ⟨_, ho⟩
  | idict kvs ep => obtain ⟨h0, k', ⟨o, es, ho, r⟩, h2⟩ := x; exact ⟨_, ho⟩
  | sset S n => (revert x; refine PL.j4_1 ?_; rintro o es ep t ho r); exact ⟨_, ho⟩
  | ns ns vs => (revert x; refine PL.j1_1 ?_; rintro m' ⟨o, es, ep, ho, r⟩ h2); exact ⟨_, ho⟩
  | cell v => (revert x; refine PL.j1_1 ?_; rintro v' ⟨o, ho, r⟩ h2); exact ⟨_, ho⟩
  | listiter l i => (revert x; refine PL.j1_1 ?_; rintro o ho r); exact ⟨_, ho⟩
  | tupiter l i => (revert x; refine PL.j1_1 ?_; rintro o ho r); exact ⟨_, ho⟩
  | keyiter d i n ep => (revert x; refine PL.j1_1 ?_; rintro o ho r); exact ⟨_, ho⟩
  | valiter d i n ep => (revert x; refine PL.j1_1 ?_; rintro o ho r); exact ⟨_, ho⟩
  | rangeiter x l s => exact ⟨_, x⟩
  | inst C dx => exact ⟨_, x⟩
  | slots C dx vs => (revert x; refine PL.j1_1 ?_; rintro vs' h1 h2); exact ⟨_, h1⟩
  | fields T vs => (revert x; refine PL.j1_1 ?_; rintro vs' h1 h2); exact ⟨_, h1⟩
  | raw o => exact ⟨_, x⟩
  | tab => (revert x; refine PL.j1_1 ?_; rintro ps h1 h2); exact ⟨_, h1⟩
  | typed T => (revert x; refine PL.j1_1 ?_; rintro o h1 h2); exact ⟨_, h1⟩
  | idct kvs => (revert x; refine PL.j2_1 ?_; rintro es n h1 h2); exact ⟨_, h1⟩
  | exc c T => (revert x; refine PL.j2_1 ?_; rintro o vs h1 h2); exact ⟨_, h1⟩
  | tb fl => (revert x; refine PL.j2_1 ?_; rintro o vs h1 h2); exact ⟨_, h1⟩

noncomputable abbrev Led := List (Addr × AO)

inductive Pick {α : Type} (p : α) : List α → List α → Prop
  | head {l : List α} : Pick p (p :: l) l
  | tail {q : α} {l l' : List α} : Pick p l l' → Pick p (q :: l) (q :: l')

namespace Pick
variable {α : Type} {p : α} {l l' : List α}
theorem perm (h : Pick p l l') : l.Perm (p :: l') := by
  induction h with
  | head => exact .refl _
  | tail _ ih => exact (ih.cons _).trans (.swap ..)
theorem mem (h : Pick p l l') : p ∈ l := h.perm.mem_iff.mpr (.head _)
theorem ofMem (h : p ∈ l) : ∃ l', Pick p l l' := by
  induction l with
  | nil => cases h
  | cons q l ih =>
    rcases List.mem_cons.mp h with rfl | h
    · exact ⟨l, .head⟩
    · obtain ⟨l', h'⟩ := ih h; exact ⟨q :: l', .tail h'⟩
end Pick

/-- an object told less -/
noncomputable def AOle (ao' ao : AO) : Prop := ∀ G h a, At G h a ao → At G h a ao'
theorem AOle.refl (ao : AO) : AOle ao ao := fun _ _ _ h => h
inductive VLe : List (Option AV) → List (Option AV) → Prop
  | nil : VLe [] []
  | same {o : Option AV} {vs' vs : List (Option AV)} : VLe vs' vs → VLe (o :: vs') (o :: vs)
  | less {o : Option AV} {vs' vs : List (Option AV)} : VLe vs' vs → VLe (none :: vs') (o :: vs)
theorem VLe.look {x : Str} {k : NameKind} {a : AV} {vs' vs : List (Option AV)} (h : VLe vs' vs) : ∀ {ns : List (Str × NameKind)}, Look x k a ns vs' → Look x k a ns vs := by
  induction h with
  | nil => intro ns q; cases q
  | same _ ih => intro ns q; cases q with
    | here => exact .here
    | there q => exact .there (ih q)
  | less _ ih => intro ns q; cases q with
    | there q => exact .there (ih q)
theorem AOle.ns {names : List (Str × NameKind)} {vs' vs : List (Option AV)} (h : VLe vs' vs) : AOle (.ns names vs') (.ns names vs) := fun _ _ _ ⟨m, h1, h2⟩ => (PL.m1_1 m h1 (fun x k a q => h2 x k a (h.look q)))
theorem AOle.cell {o : Option AV} : AOle (.cell none) (.cell o) := fun _ _ _ ⟨v, h1, _⟩ => (PL.m1_1 v h1 trivial)

/-- what a ledger says less -/
inductive Sub : Led → Led → Prop
  | refl (l : Led) : Sub l l
  | nil {l : Led} : Sub [] l
  | cons {a : Addr} {ao ao' : AO} {l l₁ l' : Led} : Pick (a, ao) l l₁ → AOle ao' ao → Sub l' l₁ → Sub ((a, ao') :: l') l
  | skip {p : Addr × AO} {l l' : Led} : Sub l' l → Sub l' (p :: l)
  | perm {l l' : Led} : l.Perm l' → Sub l' l
  | trans {l l' l'' : Led} : Sub l'' l' → Sub l' l → Sub l'' l
namespace Sub
variable {p : Addr × AO} {l l' l'' : Led}
theorem tail : Sub l (p :: l) := .skip (.refl l)
theorem same {a : Addr} {ao : AO} {l₁ : Led} (h : Pick (a, ao) l l₁) (h' : Sub l' l₁) : Sub ((a, ao) :: l') l := .cons h (.refl ao) h'
theorem keep (h : Sub l' l) : Sub (p :: l') (p :: l) := by obtain ⟨a, ao⟩ := p; exact .same .head h
theorem app {x : Led} (h : Sub l' l) : Sub (x ++ l') (x ++ l) := by
  induction x with
  | nil => exact h
  | cons p x ih => exact ih.keep
theorem left {x : Led} : Sub l (x ++ l) := by
  induction x with
  | nil => exact .refl l
  | cons p x ih => exact ih.skip
theorem right {x : Led} : Sub x (x ++ l) := .trans .left (.perm List.perm_append_comm)
theorem keys (h : Sub l' l) : ∀ x, x ∈ l'.map (·.1) → x ∈ l.map (·.1) := by
  induction h with
  | refl => exact fun _ h => h
  | nil => intro x h; cases h
  | cons hp _ _ ih =>
    intro x hx
    rw [(hp.perm.map (·.1)).mem_iff]
    rcases List.mem_cons.mp hx with rfl | hx
    · exact .head _
    · exact .tail _ (ih x hx)
  | skip _ ih => intro x hx; exact .tail _ (ih x hx)
  | perm h => intro x hx; exact (h.map (·.1)).mem_iff.mpr hx
  | trans _ _ i1 i2 => intro x hx; exact i2 x (i1 x hx)
end Sub

structure Rep (G : Gd) (s : Shared) (l : Led) : Prop where
  keep : ∀ b o, G.t.get? b = some o → s.heap.get? b = some o
  nodup : (l.map (·.1)).Nodup
  has : ∀ p ∈ l, G.t.get? p.1 = none ∧ At G s.heap p.1 p.2
  gens : s.gens = #[]
  os : s.os = G.os

namespace Rep
variable {G : Gd} {s : Shared} {l l' : Led} {a : Addr} {ao ao' : AO}
theorem «at» (N : Rep G s l) (h : Pick (a, ao) l l') : At G s.heap a ao := (N.has _ h.mem).2
theorem atM (N : Rep G s l) (h : (a, ao) ∈ l) : At G s.heap a ao := (N.has _ h).2
theorem perm (N : Rep G s l) (h : l.Perm l') : Rep G s l' := ⟨N.keep, (h.map (·.1)).nodup_iff.mp N.nodup, fun p hp => N.has p (h.mem_iff.mpr hp), N.gens, N.os⟩
theorem sub (N : Rep G s l) (h : Sub l' l) : Rep G s l' := by
  induction h with
  | refl => exact N
  | nil => exact ⟨N.keep, List.nodup_nil, fun p hp => (List.not_mem_nil hp).elim, N.gens, N.os⟩
  | @cons a ao ao' l l₁ l' hp hle hs ih =>
    have N₁ := N.perm hp.perm
    have nd := N₁.nodup
    rw [List.map_cons, List.nodup_cons] at nd
    have N₂ : Rep G s l₁ := ⟨N.keep, nd.2, fun p hp => N₁.has p (.tail _ hp), N.gens, N.os⟩
    have N₃ := ih N₂
    refine ⟨N.keep, ?_, ?_, N.gens, N.os⟩
    · rw [List.map_cons, List.nodup_cons]
      exact ⟨fun q => nd.1 (hs.keys _ q), N₃.nodup⟩
    · intro p hp'
      rcases List.mem_cons.mp hp' with rfl | hp'
      · exact ⟨(N₁.has _ (.head _)).1, hle G _ _ (N₁.has _ (.head _)).2⟩
      · exact N₃.has p hp'
  | skip _ ih =>
    have nd := N.nodup
    rw [List.map_cons, List.nodup_cons] at nd
    exact ih ⟨N.keep, nd.2, fun p hp => N.has p (.tail _ hp), N.gens, N.os⟩
  | perm h => exact N.perm h
  | trans _ _ i1 i2 => exact i1 (i2 N)
theorem toks (N : Rep G s l) (t : Nat) : Rep G { s with toks := t } l := ⟨N.keep, N.nodup, N.has, N.gens, N.os⟩
theorem fresh (N : Rep G s l) (h : Pick (a, ao) l l') : G.t.get? a = none := (N.has _ h.mem).1
theorem ne (N : Rep G s l) (h : Pick (a, ao) l l') : ∀ p ∈ l', p.1 ≠ a := by
  intro p hp e
  have := (h.perm.map (·.1)).nodup_iff.mp N.nodup
  rw [List.map_cons, List.nodup_cons] at this
  exact this.1 (List.mem_map.mpr (PL.m1_1 p hp e))
/-- the heap grows, nothing turns -/
theorem ext {h' : Heap} {tk : Nat} (N : Rep G s l) (hk : ∀ b o, s.heap.get? b = some o → h'.get? b = some o) : Rep G { s with heap := h', toks := tk } l :=
  ⟨fun b o e => hk b o (N.keep b o e), N.nodup, fun p hp => ⟨(N.has p hp).1, (N.has p hp).2.keep fun o e => hk _ _ e⟩, N.gens, N.os⟩
/-- one object turns -/
theorem upd {h' : Heap} {tk : Nat} (N : Rep G s l) (h : Pick (a, ao) l l') (hs : Heap.ExtBut a s.heap h') (ha : At G h' a ao') : Rep G { s with heap := h', toks := tk } ((a, ao') :: l') := by
  have hf := N.fresh h
  refine ⟨fun b o e => hs b o (fun q => by rw [q] at e; rw [hf] at e; cases e) (N.keep b o e), ?_, ?_, N.gens, N.os⟩
  · have := (h.perm.map (·.1)).nodup_iff.mp N.nodup
    exact this
  · intro p hp
    rcases List.mem_cons.mp hp with rfl | hp
    · exact ⟨hf, ha⟩
    · have hp' := N.has p (h.perm.mem_iff.mpr (.tail _ hp))
      exact ⟨hp'.1, hp'.2.keep fun o e => hs _ _ (N.ne h p hp) e⟩
/-- a new object comes -/
theorem new {h' : Heap} {tk : Nat} (N : Rep G s l) (hn : s.heap.get? a = none) (hk : ∀ b o, s.heap.get? b = some o → h'.get? b = some o) (ha : At G h' a ao) : Rep G { s with heap := h', toks := tk } ((a, ao) :: l) := by
  refine ⟨fun b o e => hk b o (N.keep b o e), ?_, ?_, N.gens, N.os⟩
  · rw [List.map_cons, List.nodup_cons]
    refine ⟨fun q => ?_, N.nodup⟩
    (refine PL.x1_1 (List.mem_map.mp q) ?_; rintro p hp e)
    obtain ⟨o, ho⟩ := (N.has p hp).2.some
    rw [e] at ho
    rw [hn] at ho; cases ho
  · intro p hp
    rcases List.mem_cons.mp hp with rfl | hp
    · refine ⟨?_, ha⟩
      cases q : G.t.get? a with
      | none => rfl
      | some o => rw [N.keep _ _ q] at hn; cases hn
    · exact ⟨(N.has p hp).1, (N.has p hp).2.keep fun o e => hk _ _ e⟩
/-- new objects come -/
theorem more {h' : Heap} {tk : Nat} (N : Rep G s l) (es : Led) (hk : ∀ b o, s.heap.get? b = some o → h'.get? b = some o) (nd : (es.map (·.1)).Nodup) (hn : ∀ p ∈ es, s.heap.get? p.1 = none) (ha : ∀ p ∈ es, At G h' p.1 p.2) : Rep G { s with heap := h', toks := tk } (es ++ l) := by
  refine ⟨fun b o e => hk b o (N.keep b o e), ?_, ?_, N.gens, N.os⟩
  · rw [List.map_append, List.nodup_append]
    refine (PL.m0_2 nd N.nodup (fun a ha1 b hb1 e => ?_))
    (refine PL.x1_1 (List.mem_map.mp ha1) ?_; rintro p hp rfl)
    (refine PL.x1_1 (List.mem_map.mp hb1) ?_; rintro q hq e')
    obtain ⟨o, ho⟩ := (N.has q hq).2.some
    rw [e', ← e, hn p hp] at ho; cases ho
  · intro p hp
    rcases List.mem_append.mp hp with hp | hp
    · refine ⟨?_, ha p hp⟩
      cases q : G.t.get? p.1 with
      | none => rfl
      | some o => have := N.keep _ _ q; rw [hn p hp] at this; cases this
    · exact ⟨(N.has p hp).1, (N.has p hp).2.keep fun o e => hk _ _ e⟩
theorem push {o : Obj} (N : Rep G s l) (hf : o.isFreed = false) (ha : At G (s.heap.push o) s.heap.objs.size ao) : Rep G { s with heap := s.heap.push o } ((s.heap.objs.size, ao) :: l) :=
  let N' := N.new (tk := s.toks) (Heap.get?_none_of_le (Nat.le_refl _)) (fun _ _ e => Heap.get?_push_of_some o e) ha
  let _ := hf
  N'

end Rep

noncomputable def Xp := Addr → Led → Prop
noncomputable def noX : Xp := fun _ _ => False

inductive Po {α β : Type} (G : Gd) (rel : β → α → Prop) (R : β → Led → Prop) (v : α) (s : Shared) : Prop where
  | mk (b : β) (l : Led) (h1 : rel b v) (h2 : Rep G s l) (h3 : R b l)
inductive Px (G : Gd) (X : Xp) (e : Value) (s : Shared) : Prop where
  | mk (a : Addr) (l : Led) (h1 : e = .ref a) (h2 : Rep G s l) (h3 : X a l)
noncomputable def Tr {α β : Type} (G : Gd) (A : Around) (tree : Sem α) (rel : β → α → Prop) (l : Led) (R : β → Led → Prop) (X : Xp) : Prop :=
  ∀ s, Rep G s l → wpAny (model G.prog G.w) A tree (Po G rel R) (Px G X) s

section
variable {α β γ δ : Type} {G : Gd} {A : Around} {l l' : Led} {X X' : Xp}
theorem Tr.mono {m : Sem α} {rel : β → α → Prop} {R R' : β → Led → Prop} (h : Tr G A m rel l R X) (hR : ∀ b l', R b l' → R' b l') (hX : ∀ a l', X a l' → X' a l') : Tr G A m rel l R' X' :=
  fun s N => wpAny_mono (h s N) (fun _ _ ⟨b, l', h1, h2, h3⟩ => ⟨b, l', h1, h2, hR _ _ h3⟩) fun _ _ ⟨a, l', h1, h2, h3⟩ => ⟨a, l', h1, h2, hX _ _ h3⟩
theorem Tr.sub {m : Sem α} {rel : β → α → Prop} {R : β → Led → Prop} (hs : Sub l' l) (h : Tr G A m rel l' R X) : Tr G A m rel l R X := fun s N => h s (N.sub hs)
end

/-- eval -/
noncomputable def EE (G : Gd) (A : Around) (env : Env) (e : Expr) (l : Led) (R : AV → Led → Prop) (X : Xp) : Prop := Tr G A (eval e env) AV.Is l R X
/-- a test -/
noncomputable def TT (G : Gd) (A : Around) (env : Env) (e : Expr) (l : Led) (R : Bool → Led → Prop) (X : Xp) : Prop := Tr G A (isTrue e env (eval e env)) (fun (b v : Bool) => v = b) l R X

inductive AF where
  | next | brk | cont
  | ret (v : AV)
noncomputable def AF.Is : AF → Flow → Prop
  | .next, f => f = .next
  | .brk, f => f = .brk
  | .cont, f => f = .cont
  | .ret a, f => ∃ v, f = .ret v ∧ a.Is v
/-- a statement, a block -/
noncomputable def SS (G : Gd) (A : Around) (env : Env) (st : Stmt) (l : Led) (R : AF → Led → Prop) (X : Xp) : Prop := Tr G A (exec st env) AF.Is l R X
noncomputable def BB (G : Gd) (A : Around) (env : Env) (st : List Stmt) (l : Led) (R : AF → Led → Prop) (X : Xp) : Prop := Tr G A (execs st env) AF.Is l R X

noncomputable def Op1 (G : Gd) (A : Around) (f : Value → Sem Value) (a : AV) (l : Led) (R : AV → Led → Prop) (X : Xp) : Prop := ∀ v, a.Is v → Tr G A (f v) AV.Is l R X
noncomputable def Op2 (G : Gd) (A : Around) (f : Value → Value → Sem Value) (a b : AV) (l : Led) (R : AV → Led → Prop) (X : Xp) : Prop := ∀ v u, a.Is v → b.Is u → Tr G A (f v u) AV.Is l R X
noncomputable def Truth (G : Gd) (A : Around) (a : AV) (l : Led) (R : Bool → Led → Prop) (X : Xp) : Prop := ∀ v, a.Is v → Tr G A (truthy v) (fun (b v : Bool) => v = b) l R X
/-- a call -/
noncomputable def CC (G : Gd) (A : Around) (f : AV) (args : List AV) (l : Led) (R : AV → Led → Prop) (X : Xp) : Prop := ∀ v vs, f.Is v → AllIs args vs → Tr G A (call v vs) AV.Is l R X

end PL
end
section
open PySem PySem.Calls PyProof.Rows PySem.W
set_option autoImplicit false
set_option linter.unusedVariables false
namespace PL

theorem Look.memName {x : Str} {k : NameKind} {av : AV} {ns : List (Str × NameKind)} {vs : List (Option AV)} (h : Look x k av ns vs) : x ∈ ns.map (·.1) := List.mem_map.mpr (PL.m1_1 _ h.kind.mem rfl)
theorem Put.look' {x y : Str} {k k' : NameKind} {av av' : AV} {ns : List (Str × NameKind)} {vs vs' : List (Option AV)} (h : Put x k av ns vs vs') (hn : (ns.map (·.1)).Nodup) :
    Look y k' av' ns vs' → (y = x ∧ av' = av) ∨ (y ≠ x ∧ Look y k' av' ns vs) := by
  induction h with
  | here => intro q; cases q with
    | here => exact .inl ⟨rfl, rfl⟩
    | there q =>
      rw [List.map_cons, List.nodup_cons] at hn
      exact .inr ⟨fun e => hn.1 (e ▸ q.memName), .there q⟩
  | there hp ih => intro q; rw [List.map_cons, List.nodup_cons] at hn; cases q with
    | here => exact .inr ⟨fun e => hn.1 (by rw [show _ = _ from e]; exact List.mem_map.mpr (PL.m1_1 _ hp.kind.mem rfl)), .here⟩
    | there q => exact (ih hn.2 q).imp id fun ⟨a, b⟩ => ⟨a, .there b⟩
theorem NsIs.put {x : Str} {k : NameKind} {av : AV} {ns : List (Str × NameKind)} {vs vs' : List (Option AV)} {m : Str → Option Value} {v : Value} (h : NsIs ns vs m) (hp : Put x k av ns vs vs') (hn : (ns.map (·.1)).Nodup) (hv : av.Is v) :
    NsIs ns vs' (fun y => if y = x then some v else m y) := by
  intro y k' av' q
  rcases hp.look' hn q with ⟨rfl, rfl⟩ | ⟨hy, q⟩
  · exact (PL.m1_1 v (by simp) hv)
  · (refine PL.x1_1 (h y k' av' q) ?_; rintro u hu ha); exact (PL.m1_1 u (by simp [hy, hu]) ha)

/-- a frame's environment -/
structure EnvOk (env : Env) (names : List (Str × NameKind)) (L : Addr) (cl : List (Str × Addr)) : Prop where
  kind : env.scope.kind = .function
  hnames : env.scope.names = names
  nodup : (names.map fun p => p.1).Nodup
  locals : env.locals = L
  hcells : env.cells = cl
  cnodup : (cl.map fun p => p.1).Nodup
  globals : env.globals = mainGlobals
  builtins : env.builtins = builtinsNs
  plain : ∀ p ∈ names, (p.1 == ("__debug__" : Str)) = false ∧ (p.1 == ("__classdict__" : Str)) = false

theorem EnvOk.kindOf {env : Env} {names : List (Str × NameKind)} {L : Addr} {cl : List (Str × Addr)} (h : EnvOk env names L cl) {x : Str} {k : NameKind} (q : LookT x k names) : env.kindOf x = some k := by
  show env.scope.names.lookup x = some k
  rw [h.hnames]; exact q.lookup h.nodup
theorem EnvOk.cell {env : Env} {names : List (Str × NameKind)} {L : Addr} {cl : List (Str × Addr)} (h : EnvOk env names L cl) {x : Str} {c : Addr} (q : LookT x c cl) : env.cells.lookup x = some c := by
  rw [h.hcells]; exact q.lookup h.cnodup

/-- the module's names that the walk reads -/
noncomputable def GlobOk (G : Gd) (gt : List (Str × AV)) : Prop := ∃ mg mb, G.t.Ns mainGlobals mg ∧ G.t.Ns builtinsNs mb ∧ ∀ x a, LookT x a gt → ∃ v, a.Is v ∧ (mg x = some v ∨ (mg x = none ∧ mb x = some v))

section
variable {G : Gd} {A : Around} {env : Env} {l l' : Led} {X : Xp} {R : AV → Led → Prop} {names : List (Str × NameKind)} {L : Addr} {cl : List (Str × Addr)} {vs vs' : List (Option AV)}

theorem EE.int {i : Int} {k : Nat} {pos : Pos} (h : R (.int i) l) : EE G A env (.Constant (.int i) k pos) l R X := fun _ N => wpAny_Constant_int ⟨.int i, l, ⟨_, rfl⟩, N.toks _, h⟩
theorem EE.str {x : Str} {k : Nat} {pos : Pos} (h : R (.str x) l) : EE G A env (.Constant (.str x) k pos) l R X := fun _ N => wpAny_Constant_str ⟨.str x, l, ⟨_, rfl⟩, N.toks _, h⟩
theorem EE.none {k : Nat} {pos : Pos} (h : R .none l) : EE G A env (.Constant .none k pos) l R X := fun _ N => wpAny_Constant_none ⟨.none, l, rfl, N, h⟩
theorem EE.bool {b : Bool} {k : Nat} {pos : Pos} (h : R (.bool b) l) : EE G A env (.Constant (.bool b) k pos) l R X := fun _ N => wpAny_Constant_bool ⟨.bool b, l, rfl, N, h⟩

theorem EE.loc {x : Str} {pos : Pos} {av : AV} (hE : EnvOk env names L cl) (hp : Pick (L, .ns names vs) l l') (hx : Look x .local av names vs) (h : R av l) :
    EE G A env (.Name x pos) l R X := fun _ N => by
  (refine PL.x1_1 (N.at hp) ?_; rintro m hn hi)
  (refine PL.x1_1 (hi _ _ _ hx) ?_; rintro v hv ha)
  exact wpAny_Name (wpAny_loadName_local hE.kind (hE.kindOf hx.kind) (hE.locals ▸ hn) hv ⟨av, l, ha, N, h⟩) (hE.plain _ hx.kind.mem).1
theorem EE.cel {x : Str} {pos : Pos} {c : Addr} {av : AV} (hE : EnvOk env names L cl) (hx : LookT x .cell names) (hc : LookT x c cl) (hp : Pick (c, .cell (some av)) l l') (h : R av l) :
    EE G A env (.Name x pos) l R X := fun _ N => by
  obtain ⟨v', hc', v, rfl, ha⟩ := N.at hp
  exact wpAny_Name (wpAny_loadName_cell hE.kind (hE.kindOf hx) (hE.cell hc) hc' ⟨av, l, ha, N, h⟩) (hE.plain _ hx.mem).1
theorem EE.glob {x : Str} {pos : Pos} {av : AV} {gt : List (Str × AV)} (hE : EnvOk env names L cl) (hg : GlobOk G gt) (hx : LookT x .globalImplicit names) (ha : LookT x av gt) (h : R av l) :
    EE G A env (.Name x pos) l R X := fun s N => by
  (revert hg; refine PL.j2_2 ?_; rintro mg mb n1 n2 hh)
  (refine PL.x1_1 (hh _ _ ha) ?_; rintro v hv (h1 | ⟨h1, h2⟩))
  · exact Name_function_global hE.kind (hE.kindOf hx) (loadGlobal_global (by rw [hE.globals]; exact n1.keeps N.keep) h1 ⟨av, l, hv, N, h⟩) (hE.plain _ hx.mem).1
  · exact Name_function_global hE.kind (hE.kindOf hx) (loadGlobal_builtin (by rw [hE.globals]; exact n1.keeps N.keep) h1 (by rw [hE.builtins]; exact n2.keeps N.keep) h2 ⟨av, l, hv, N, h⟩) (hE.plain _ hx.mem).1

theorem EE.binop {e1 e2 : Expr} {op : Operator} {pos : Pos} (h : EE G A env e1 l (fun a l₁ => EE G A env e2 l₁ (fun b l₂ => Op2 G A (binaryOp op) a b l₂ R X) X) X) : EE G A env (.BinOp e1 op e2 pos) l R X :=
  fun s N => wpAny_BinOp (wpAny_mono (h s N) (fun v s₁ ⟨a, l₁, ha, N₁, h₁⟩ => wpAny_mono (h₁ s₁ N₁) (fun u s₂ ⟨b, l₂, hb, N₂, h₂⟩ => h₂ v u ha hb s₂ N₂) fun _ _ y => y) fun _ _ y => y)
theorem EE.cmp {e1 e2 : Expr} {op : CmpOp} {pos : Pos} (h : EE G A env e1 l (fun a l₁ => EE G A env e2 l₁ (fun b l₂ => Op2 G A (compareOp op) a b l₂ R X) X) X) (hm : behindInMarks op e2 = false := by with_unfolding_all rfl) :
    EE G A env (.Compare e1 [op] [e2] pos) l R X :=
  fun s N => wpAny_Compare1 (wpAny_mono (h s N) (fun v s₁ ⟨a, l₁, ha, N₁, h₁⟩ => wpAny_mono (h₁ s₁ N₁) (fun u s₂ ⟨b, l₂, hb, N₂, h₂⟩ => h₂ v u ha hb s₂ N₂) fun _ _ y => y) fun _ _ y => y) hm
theorem TT.cmp {e1 e2 : Expr} {op : CmpOp} {pos : Pos} {R : Bool → Led → Prop} (h : EE G A env e1 l (fun a l₁ => EE G A env e2 l₁ (fun b l₂ => Op2 G A (compareOp op) a b l₂ (fun c l₃ => Truth G A c l₃ R X) X) X) X) (hm : behindInMarks op e2 = false := by with_unfolding_all rfl) :
    TT G A env (.Compare e1 [op] [e2] pos) l R X :=
  fun s N => wpAny_isTrue_Compare1 (wpAny_mono (h s N) (fun v s₁ ⟨a, l₁, ha, N₁, h₁⟩ => wpAny_mono (h₁ s₁ N₁) (fun u s₂ ⟨b, l₂, hb, N₂, h₂⟩ => wpAny_mono (h₂ v u ha hb s₂ N₂) (fun c s₃ ⟨d, l₃, hd, N₃, h₃⟩ => h₃ c hd s₃ N₃) fun _ _ y => y) fun _ _ y => y) fun _ _ y => y) hm
theorem TT.not {e : Expr} {pos : Pos} {R : Bool → Led → Prop} (h : TT G A env e l (fun b l₁ => R (!b) l₁) X) : TT G A env (.UnaryOp .Not e pos) l R X :=
  fun s N => wpAny_isTrue_Not (wpAny_mono (h s N) (fun v s₁ ⟨b, l₁, hb, N₁, h₁⟩ => ⟨!b, l₁, by rw [hb], N₁, h₁⟩) fun _ _ y => y)
theorem TT.and {es : List Expr} {pos : Pos} {R : Bool → Led → Prop} (h : Tr G A (allTrue .And es env) (fun (b v : Bool) => v = b) l R X) : TT G A env (.BoolOp .And es pos) l R X := fun s N => wpAny_isTrue_BoolOp (h s N)
theorem TT.or {es : List Expr} {pos : Pos} {R : Bool → Led → Prop} (h : Tr G A (allTrue .Or es env) (fun (b v : Bool) => v = b) l R X) : TT G A env (.BoolOp .Or es pos) l R X := fun s N => wpAny_isTrue_BoolOp (h s N)
theorem AT.nilAnd {R : Bool → Led → Prop} (h : R true l) : Tr G A (allTrue .And [] env) (fun (b v : Bool) => v = b) l R X := fun s N => wpAny_allTrue_And_nil ⟨true, l, rfl, N, h⟩
theorem AT.and {e : Expr} {es : List Expr} {R : Bool → Led → Prop} (h : TT G A env e l (fun b l₁ => (b = true → Tr G A (allTrue .And es env) (fun (b v : Bool) => v = b) l₁ R X) ∧ (b = false → R false l₁)) X) :
    Tr G A (allTrue .And (e :: es) env) (fun (b v : Bool) => v = b) l R X :=
  fun s N => wpAny_allTrue_And_cons (wpAny_mono (h s N) (fun v s₁ ⟨b, l₁, hb, N₁, h₁, h₂⟩ => by
    subst hb
    cases v with
    | true => simpa using h₁ rfl s₁ N₁
    | false => simp only [Bool.false_eq_true, if_false]; exact ⟨false, l₁, rfl, N₁, h₂ rfl⟩) fun _ _ y => y)
theorem AT.or {e : Expr} {es : List Expr} {R : Bool → Led → Prop} (h : TT G A env e l (fun b l₁ => (b = false → Tr G A (allTrue .Or es env) (fun (b v : Bool) => v = b) l₁ R X) ∧ (b = true → R true l₁)) X) :
    Tr G A (allTrue .Or (e :: es) env) (fun (b v : Bool) => v = b) l R X :=
  fun s N => wpAny_allTrue_Or_cons (wpAny_mono (h s N) (fun v s₁ ⟨b, l₁, hb, N₁, h₁, h₂⟩ => by
    subst hb
    cases v with
    | false => simpa using h₁ rfl s₁ N₁
    | true => simp only [if_true]; exact ⟨true, l₁, rfl, N₁, h₂ rfl⟩) fun _ _ y => y)
/-- the plain test: the value, its truth -/
theorem TT.val {e : Expr} {R : Bool → Led → Prop} (h : EE G A env e l (fun a l₁ => Truth G A a l₁ R X) X)
    (he : ∀ whole, PySem.isTrue e env whole = (do let v ← whole; standAt e.pos; holding [v] (truthy v)) := by intro _; with_unfolding_all rfl) : TT G A env e l R X :=
  fun s N => wpAny_isTrue_value (wpAny_mono (h s N) (fun v s₁ ⟨a, l₁, ha, N₁, h₁⟩ => h₁ v ha s₁ N₁) fun _ _ y => y) (he _)
theorem EE.neg {e : Expr} {pos : Pos} (h : EE G A env e l (fun a l₁ => ∃ i, a = .int i ∧ R (.int (-i)) l₁) X) : EE G A env (.UnaryOp .USub e pos) l R X :=
  fun s N => wpAny_UnaryOp (wpAny_mono (h s N) (fun v s₁ ⟨a, l₁, ha, N₁, i, hi, h₁⟩ => by subst hi; obtain ⟨t, rfl⟩ := ha; exact PyProof.Rows.neg_int ⟨.int _, l₁, ⟨_, rfl⟩, N₁.toks _, h₁⟩) fun _ _ y => y)
theorem EE.ifexp {t e1 e2 : Expr} {pos : Pos} (h : TT G A env t l (fun b l₁ => (b = true → EE G A env e1 l₁ R X) ∧ (b = false → EE G A env e2 l₁ R X)) X) : EE G A env (.IfExp t e1 e2 pos) l R X :=
  fun s N => wpAny_IfExp (wpAny_mono (h s N) (fun v s₁ ⟨b, l₁, hb, N₁, h₁, h₂⟩ => by
    subst hb
    cases v with
    | true => simpa using h₁ rfl s₁ N₁
    | false => simpa using h₂ rfl s₁ N₁) fun _ _ y => y)
/-- and, or of two as values -/
theorem EE.and2 {e1 e2 : Expr} {pos : Pos} (h : EE G A env e1 l (fun a l₁ => Truth G A a l₁ (fun b l₂ => (b = true → EE G A env e2 l₂ R X) ∧ (b = false → R a l₂)) X) X) : EE G A env (.BoolOp .And [e1, e2] pos) l R X :=
  fun s N => wpAny_And2 (wpAny_mono (h s N) (fun v s₁ ⟨a, l₁, ha, N₁, h₁⟩ => wpAny_mono (h₁ v ha s₁ N₁) (fun c s₂ ⟨b, l₂, hb, N₂, h₂, h₃⟩ => by
    subst hb
    cases c with
    | true => simpa using h₂ rfl s₂ N₂
    | false => simp only [Bool.false_eq_true, if_false]; exact ⟨a, l₂, ha, N₂, h₃ rfl⟩) fun _ _ y => y) fun _ _ y => y)
theorem EE.walrus {e1 e2 : Expr} {pos : Pos} (h : EE G A env e2 l (fun a l₁ => ∀ v, a.Is v → Tr G A (assign e1 env v) (fun (_ _ : Unit) => True) l₁ (fun _ l₂ => R a l₂) X) X) : EE G A env (.NamedExpr e1 e2 pos) l R X :=
  fun s N => wpAny_NamedExpr (wpAny_mono (h s N) (fun v s₁ ⟨a, l₁, ha, N₁, h₁⟩ => wpAny_mono (h₁ v ha s₁ N₁) (fun _ s₂ ⟨_, l₂, _, N₂, h₂⟩ => ⟨a, l₂, ha, N₂, h₂⟩) fun _ _ y => y) fun _ _ y => y)

/-- the arguments, one after the other -/
noncomputable def EA (G : Gd) (A : Around) (ts : List (Bool × Sem Value)) (l : Led) (R : List AV → Led → Prop) (X : Xp) : Prop := Tr G A (spliced ts) AllIs l R X
theorem EA.nil {R : List AV → Led → Prop} (h : R [] l) : EA G A [] l R X := fun s N => spliced_nil ⟨[], l, .nil, N, h⟩
theorem EA.cons {t : Sem Value} {ts : List (Bool × Sem Value)} {R : List AV → Led → Prop} (h : Tr G A t AV.Is l (fun a l₁ => EA G A ts l₁ (fun as l₂ => R (a :: as) l₂) X) X) : EA G A ((false, t) :: ts) l R X := fun s N => by
  show wpAny _ _ (spliced ((false, t) :: ts)) _ _ s
  rw [spliced]
  refine wpAny_bind (wpAny_mono (h s N) (fun v s₁ ⟨a, l₁, ha, N₁, h₁⟩ => ?_) fun _ _ y => y)
  simp only [Bool.false_eq_true, if_false]
  refine wpAny_bind (wpAny_pure (wpAny_bind (wpAny_holding (wpAny_mono (h₁ s₁ N₁) (fun us s₂ ⟨as, l₂, has, N₂, h₂⟩ => wpAny_pure ⟨a :: as, l₂, .cons ha has, N₂, h₂⟩) fun _ _ y => y))))

theorem EE.list {es : List Expr} {pos : Pos} (h : EA G A (backTo pos (starEach es env)) l (fun as l₁ => as.length ≤ 1000 ∧ ∀ a, R (.ref a) ((a, .list as) :: l₁)) X) : EE G A env (.List es pos) l R X :=
  fun s N => wpAny_List_spliced (wpAny_mono (h s N) (fun vs s₁ ⟨as, l₁, has, N₁, hl, h₁⟩ =>
    ⟨by rw [← has.length]; exact Nat.le_trans hl (by decide), ⟨.ref s₁.heap.objs.size, _, rfl, N₁.push (ao := .list as) rfl (PL.m1_1 _ (⟨0, Heap.get?_push_size _ rfl⟩) (by simpa using has)), h₁ _⟩⟩) fun _ _ y => y)
theorem EE.tuple {es : List Expr} {k : Nat} {pos : Pos} (h : EA G A (backTo pos (starEach es env)) l (fun as l₁ => as.length ≤ 1000 ∧ ∀ a, R (.ref a) ((a, .tuple as) :: l₁)) X) : EE G A env (.Tuple es k pos) l R X :=
  fun s N => wpAny_Tuple_spliced (wpAny_mono (h s N) (fun vs s₁ ⟨as, l₁, has, N₁, hl, h₁⟩ =>
    ⟨by rw [← has.length]; exact Nat.le_trans hl (by decide), ⟨.ref s₁.heap.objs.size, _, rfl, N₁.push (ao := .tuple as) rfl (PL.m1_1 _ (Heap.get?_push_size _ rfl) has), h₁ _⟩⟩) fun _ _ y => y)
end

/-! operations on plain values -/
section
variable {G : Gd} {A : Around} {l l' : Led} {X : Xp} {R : AV → Led → Prop} {a b : Int} {x y : Str}
theorem Op2.add (h : R (.int (a + b)) l) : Op2 G A (binaryOp .Add) (.int a) (.int b) l R X := fun _ _ ⟨_, e⟩ ⟨_, e'⟩ s N => by subst e e'; exact PyProof.Rows.add_int ⟨.int _, l, ⟨_, rfl⟩, N.toks _, h⟩
theorem Op2.sub (h : R (.int (a - b)) l) : Op2 G A (binaryOp .Sub) (.int a) (.int b) l R X := fun _ _ ⟨_, e⟩ ⟨_, e'⟩ s N => by subst e e'; exact PyProof.Rows.sub_int ⟨.int _, l, ⟨_, rfl⟩, N.toks _, h⟩
theorem Op2.mul (h1 : -(2 ^ 64) < a) (h2 : a < 2 ^ 64) (h : R (.int (a * b)) l) : Op2 G A (binaryOp .Mult) (.int a) (.int b) l R X := fun _ _ ⟨_, e⟩ ⟨_, e'⟩ s N => by
  subst e e'
  exact PyProof.Rows.mul_int ⟨.int _, l, ⟨_, rfl⟩, N.toks _, h⟩ (IntMulOk.of_left (intBits_le_64 h1 h2))
theorem Op2.mod (hb : b ≠ 0) (h : R (.int (a.fmod b)) l) : Op2 G A (binaryOp .Mod) (.int a) (.int b) l R X := fun _ _ ⟨_, e⟩ ⟨_, e'⟩ s N => by subst e e'; exact PyProof.Rows.mod_int' hb ⟨.int _, l, ⟨_, rfl⟩, N.toks _, h⟩
theorem Op2.shr (hb : 0 ≤ b) (h : R (.int (a.fdiv (2 ^ b.toNat))) l) : Op2 G A (binaryOp .RShift) (.int a) (.int b) l R X := fun _ _ ⟨_, e⟩ ⟨_, e'⟩ s N => by
  subst e e'; exact rshift_int hb ⟨.int _, l, ⟨_, rfl⟩, N.toks _, h⟩
theorem Op2.iadd (h : R (.int (a + b)) l) : Op2 G A (inplaceOp .Add) (.int a) (.int b) l R X := fun _ _ ⟨_, e⟩ ⟨_, e'⟩ s N => by subst e e'; exact PyProof.Rows.iadd_int ⟨.int _, l, ⟨_, rfl⟩, N.toks _, h⟩
theorem Op2.lt (h : R (.bool (decide (a < b))) l) : Op2 G A (compareOp .Lt) (.int a) (.int b) l R X := fun _ _ ⟨_, e⟩ ⟨_, e'⟩ s N => by subst e e'; exact PyProof.Rows.lt_int ⟨.bool _, l, rfl, N, h⟩
theorem Op2.gt (h : R (.bool (decide (b < a))) l) : Op2 G A (compareOp .Gt) (.int a) (.int b) l R X := fun _ _ ⟨_, e⟩ ⟨_, e'⟩ s N => by subst e e'; exact PyProof.Rows.gt_int ⟨.bool _, l, rfl, N, h⟩
theorem Op2.ge (h : R (.bool (decide (b ≤ a))) l) : Op2 G A (compareOp .GtE) (.int a) (.int b) l R X := fun _ _ ⟨_, e⟩ ⟨_, e'⟩ s N => by subst e e'; exact PyProof.Rows.ge_int ⟨.bool _, l, rfl, N, h⟩
theorem Op2.eq (h : R (.bool (a == b)) l) : Op2 G A (compareOp .Eq) (.int a) (.int b) l R X := fun _ _ ⟨_, e⟩ ⟨_, e'⟩ s N => by subst e e'; exact PyProof.Rows.eq_int ⟨.bool _, l, rfl, N, h⟩
theorem Op2.ne (h : R (.bool (a != b)) l) : Op2 G A (compareOp .NotEq) (.int a) (.int b) l R X := fun _ _ ⟨_, e⟩ ⟨_, e'⟩ s N => by subst e e'; exact PyProof.Rows.ne_int ⟨.bool _, l, rfl, N, h⟩
theorem Op2.seq (h : R (.bool (x == y)) l) : Op2 G A (compareOp .Eq) (.str x) (.str y) l R X := fun _ _ ⟨_, e⟩ ⟨_, e'⟩ s N => by subst e e'; exact PyProof.Rows.eq_str ⟨.bool _, l, rfl, N, h⟩
theorem Op2.sne (h : R (.bool (x != y)) l) : Op2 G A (compareOp .NotEq) (.str x) (.str y) l R X := fun _ _ ⟨_, e⟩ ⟨_, e'⟩ s N => by subst e e'; exact PyProof.Rows.ne_str ⟨.bool _, l, rfl, N, h⟩
theorem Op2.slt (h : R (.bool (decide (x.cps.toList < y.cps.toList))) l) : Op2 G A (compareOp .Lt) (.str x) (.str y) l R X := fun _ _ ⟨_, e⟩ ⟨_, e'⟩ s N => by subst e e'; exact PyProof.Rows.lt_str ⟨.bool _, l, rfl, N, h⟩
theorem Op2.sadd (hz : x.length + y.length ≤ 10000) (h : R (.str (x ++ y)) l) : Op2 G A (binaryOp .Add) (.str x) (.str y) l R X := fun _ _ ⟨_, e⟩ ⟨_, e'⟩ s N => by
  subst e e'; exact PyProof.Rows.add_str (fun t' tk => ⟨.str _, l, ⟨_, rfl⟩, N.toks _, h⟩) (Nat.le_trans hz (by decide))
theorem Truth.bool {R : Bool → Led → Prop} {b : Bool} (h : R b l) : Truth G A (.bool b) l R X := fun _ e s N => by cases e; exact wpAny_truthy_bool ⟨_, l, rfl, N, h⟩
theorem Truth.none {R : Bool → Led → Prop} (h : R false l) : Truth G A .none l R X := fun _ e s N => by cases e; exact truthy_none ⟨_, l, rfl, N, h⟩
theorem Truth.list {R : Bool → Led → Prop} {p : Addr} {xs : List AV} (hp : Pick (p, .list xs) l l') (hz : xs.length < 1000000) (h : R (!xs.isEmpty) l) : Truth G A (.ref p) l R X := fun _ e s N => by
  cases e
  (refine PL.x1_1 (N.at hp) ?_; rintro vs hv ha)
  have hlen := ha.length
  refine wpAny_truthy_list hv.isList (by rw [← Array.length_toList, ← hlen]; omega) ⟨_, l, ?_, N.toks _, h⟩
  cases xs with
  | nil => have := ha.nilL; have : vs = #[] := by simpa using this
           subst this; rfl
  | cons a as => (refine PL.x2_1 (ha.consL) ?_; rintro b bs e _); obtain ⟨vs⟩ := vs; subst e; rfl
end

/-! statements -/
section
variable {G : Gd} {A : Around} {env : Env} {l l' : Led} {X : Xp} {R : AF → Led → Prop} {names : List (Str × NameKind)} {L : Addr} {cl : List (Str × Addr)} {vs vs' : List (Option AV)}
theorem BB.nil (h : R .next l) : BB G A env [] l R X := fun s N => wpAny_execs_nil ⟨.next, l, rfl, N, h⟩
noncomputable def Then (G : Gd) (A : Around) (env : Env) (rest : List Stmt) (R : AF → Led → Prop) (X : Xp) : AF → Led → Prop
  | .next, l => BB G A env rest l R X
  | f, l => R f l
theorem Then.next {rest : List Stmt} (h : BB G A env rest l R X) : Then G A env rest R X .next l := h
theorem Then.brk {rest : List Stmt} (h : R .brk l) : Then G A env rest R X .brk l := h
theorem Then.cont {rest : List Stmt} (h : R .cont l) : Then G A env rest R X .cont l := h
theorem Then.ret {rest : List Stmt} {v : AV} (h : R (.ret v) l) : Then G A env rest R X (.ret v) l := h
theorem BB.cons {st : Stmt} {rest : List Stmt} (h : SS G A env st l (Then G A env rest R X) X) : BB G A env (st :: rest) l R X :=
  fun s N => wpAny_execs_cons (wpAny_mono (h s N) (fun f s₁ ⟨b, l₁, hb, N₁, h₁⟩ => by
    cases b with
    | next => cases hb; exact h₁ s₁ N₁
    | brk => cases hb; exact ⟨.brk, l₁, rfl, N₁, h₁⟩
    | cont => cases hb; exact ⟨.cont, l₁, rfl, N₁, h₁⟩
    | ret v => (revert hb; refine PL.j1_1 ?_; rintro u rfl hu); exact ⟨.ret v, l₁, (PL.m1_1 u rfl hu), N₁, h₁⟩) fun _ _ y => y)
/-- a store into a name -/
noncomputable def StN (G : Gd) (A : Around) (env : Env) (x : Str) (a : AV) (l : Led) (R : Led → Prop) (X : Xp) : Prop := ∀ v, a.Is v → Tr G A (storeName env x v) (fun (_ _ : Unit) => True) l (fun _ l' => R l') X
theorem StN.loc {x : Str} {a : AV} {R : Led → Prop} (hE : EnvOk env names L cl) (hp : Pick (L, .ns names vs) l l') (hx : Put x .local a names vs vs') (h : R ((L, .ns names vs') :: l')) : StN G A env x a l R X := fun v hv s N => by
  (refine PL.x1_1 (N.at hp) ?_; rintro m hn hi)
  refine wpAny_storeName_local (hE.kindOf hx.kind) (hE.locals ▸ hn) (fun h' hn' hs' => ⟨(), _, trivial, N.upd (ao' := .ns names vs') hp (hE.locals ▸ hs'.extBut) (PL.m1_1 _ (hE.locals ▸ hn') (hi.put hx hE.nodup hv)), h⟩) ?_
  rw [hE.kind]; rfl
theorem StN.cel {x : Str} {a : AV} {c : Addr} {o : Option AV} {R : Led → Prop} (hE : EnvOk env names L cl) (hx : LookT x .cell names) (hc : LookT x c cl) (hp : Pick (c, .cell o) l l') (h : R ((c, .cell (some a)) :: l')) : StN G A env x a l R X := fun v hv s N => by
  (refine PL.x1_1 (N.at hp) ?_; rintro v' hc' _)
  exact wpAny_storeName_cell hE.kind (hE.kindOf hx) (hE.cell hc) hc' fun h' hv' hs' => ⟨(), _, trivial, N.upd (tk := s.toks) (ao' := .cell (some a)) hp hs'.extBut ⟨some v, hv', v, rfl, hv⟩, h⟩
/-- an assignment to a target -/
noncomputable def Asg (G : Gd) (A : Around) (env : Env) (t : Expr) (a : AV) (l : Led) (R : Led → Prop) (X : Xp) : Prop := ∀ v, a.Is v → Tr G A (assign t env v) (fun (_ _ : Unit) => True) l (fun _ l' => R l') X
theorem Asg.name {x : Str} {pos : Pos} {a : AV} {R : Led → Prop} (h : StN G A env x a l R X) : Asg G A env (.Name x pos) a l R X := fun v hv s N => wpAny_assign_Name (h v hv s N)
theorem EE.walrus' {e1 e2 : Expr} {pos : Pos} {R : AV → Led → Prop} (h : EE G A env e2 l (fun a l₁ => Asg G A env e1 a l₁ (R a) X) X) : EE G A env (.NamedExpr e1 e2 pos) l R X := EE.walrus h
theorem SS.assign {x : Str} {p1 pos : Pos} {value : Expr} (h : EE G A env value l (fun a l₁ => StN G A env x a l₁ (fun l₂ => R .next l₂) X) X) (hs : swapsWith value (some (.Name x p1)) pos.line env = pure false := by with_unfolding_all rfl) :
    SS G A env (.Assign [.Name x p1] value pos) l R X :=
  fun s N => wpAny_Assign_Name (wpAny_mono (h s N) (fun v s₁ ⟨a, l₁, ha, N₁, h₁⟩ => wpAny_mono (h₁ v ha s₁ N₁) (fun _ s₂ ⟨_, l₂, _, N₂, h₂⟩ => ⟨.next, l₂, rfl, N₂, h₂⟩) fun _ _ y => y) fun _ _ y => y) hs
theorem SS.if {t : Expr} {b1 b2 : List Stmt} {pos : Pos} (h : TT G A env t l (fun b l₁ => (b = true → BB G A env b1 l₁ R X) ∧ (b = false → BB G A env b2 l₁ R X)) X) : SS G A env (.If t b1 b2 pos) l R X :=
  fun s N => wpAny_If (wpAny_mono (h s N) (fun v s₁ ⟨b, l₁, hb, N₁, h₁, h₂⟩ => by
    subst hb
    cases v with
    | true => simpa using h₁ rfl s₁ N₁
    | false => simpa using h₂ rfl s₁ N₁) fun _ _ y => y)
theorem SS.ret {e : Expr} {pos : Pos} (h : EE G A env e l (fun a l₁ => R (.ret a) l₁) X) : SS G A env (.Return (some e) pos) l R X :=
  fun s N => wpAny_Return_some (wpAny_mono (h s N) (fun v s₁ ⟨a, l₁, ha, N₁, h₁⟩ => ⟨.ret a, l₁, (PL.m1_1 v rfl ha), N₁, h₁⟩) fun _ _ y => y)
theorem SS.expr {e : Expr} {pos : Pos} (hE : EnvOk env names L cl) (h : EE G A env e l (fun _ l₁ => R .next l₁) X) (hs : swapsWith e none pos.line env = pure false := by with_unfolding_all rfl) : SS G A env (.Expr e pos) l R X :=
  fun s N => wpAny_Expr_any (wpAny_mono (h s N) (fun v s₁ ⟨a, l₁, ha, N₁, h₁⟩ => ⟨.next, l₁, rfl, N₁, h₁⟩) fun _ _ y => y) (by unfold interactive; rw [hE.kind]; rfl) hs
theorem SS.brk {pos : Pos} (h : R .brk l) : SS G A env (.Break pos) l R X := fun s N => wpAny_Break ⟨.brk, l, rfl, N, h⟩
theorem SS.cont {pos : Pos} (h : R .cont l) : SS G A env (.Continue pos) l R X := fun s N => wpAny_Continue ⟨.cont, l, rfl, N, h⟩
theorem SS.assert {t : Expr} {m : Option Expr} {pos : Pos} (h : TT G A env t l (fun b l₁ => b = true ∧ R .next l₁) X) : SS G A env (.Assert t m pos) l R X :=
  fun s N => wpAny_Assert_holds (wpAny_mono (h s N) (fun v s₁ ⟨b, l₁, hb, N₁, h₁, h₂⟩ => ⟨by rw [hb]; exact h₁, ⟨.next, l₁, rfl, N₁, h₂⟩⟩) fun _ _ y => y)
end
end PL
end
section
open PySem PySem.Calls PyProof.Rows PySem.W
set_option autoImplicit false
set_option linter.unusedVariables false
namespace PL

section
variable {G : Gd} {A : Around} {env : Env} {l l' : Led} {X : Xp} {R : AV → Led → Prop}

/-! subscripts -/
noncomputable def SubOp (G : Gd) (A : Around) (value slice : Expr) (a i : AV) (l : Led) (R : AV → Led → Prop) (X : Xp) : Prop := Op2 G A (fun v u => subscriptTail value slice v u) a i l R X
theorem EE.sub {value slice : Expr} {pos : Pos} (h : EE G A env value l (fun a l₁ => EE G A env slice l₁ (fun i l₂ => SubOp G A value slice a i l₂ R X) X) X) : EE G A env (.Subscript value slice pos) l R X :=
  fun s N => Subscript_ (wpAny_mono (h s N) (fun v s₁ ⟨a, l₁, ha, N₁, h₁⟩ => wpAny_mono (h₁ s₁ N₁) (fun u s₂ ⟨b, l₂, hb, N₂, h₂⟩ => h₂ v u ha hb s₂ N₂) fun _ _ y => y) fun _ _ y => y)
theorem SubOp.list {value slice : Expr} {p : Addr} {xs : List AV} {i : AV} (hp : Pick (p, .list xs) l l') (h : Op2 G A getItem (.ref p) i l R X)
    (hs : ∀ v u, ∃ ops, subscripted slice false v u = operate ops (getItem v u) := by intro _ _; with_unfolding_all exact ⟨_, rfl⟩) : SubOp G A value slice (.ref p) i l R X := fun v u hv hu s N => by
  (refine PL.x1_1 (N.at hp) ?_; rintro vs hl _)
  obtain ⟨ops, e⟩ := hs v u
  cases hv
  exact tail_any hl.isList.typeIs slot_list_getitem.lookup (h _ u rfl hu s N) e
theorem SubOp.str {value slice : Expr} {x : Str} {i : AV} (h : Op2 G A getItem (.str x) i l R X)
    (hs : ∀ v u, ∃ ops, subscripted slice false v u = operate ops (getItem v u) := by intro _ _; with_unfolding_all exact ⟨_, rfl⟩) : SubOp G A value slice (.str x) i l R X := fun v u hv hu s N => by
  obtain ⟨ops, e⟩ := hs v u
  obtain ⟨t, rfl⟩ := hv
  exact tail_any (T := "str") rfl F.slot_str_getitem.lookup (h _ u ⟨t, rfl⟩ hu s N) e
theorem SubOp.sdict {value slice : Expr} {p : Addr} {kvs : List (Str × AV)} {ep : Nat} {i : AV} (hp : Pick (p, .sdict kvs ep) l l') (h : Op2 G A getItem (.ref p) i l R X)
    (hs : ∀ v u, ∃ ops, subscripted slice false v u = operate ops (getItem v u) := by intro _ _; with_unfolding_all exact ⟨_, rfl⟩) : SubOp G A value slice (.ref p) i l R X := fun v u hv hu s N => by
  obtain ⟨_, kvs', hd, _⟩ := N.at hp
  obtain ⟨ops, e⟩ := hs v u
  cases hv
  exact tail_any hd.dictOf.typeIs F.slot_dict_getitem.lookup (h _ u rfl hu s N) e

theorem Get.list {p : Addr} {xs : List AV} {k : Int} {a : AV} (hp : Pick (p, .list xs) l l') (h0 : 0 ≤ k) (hz : k < 2 ^ 63) (hx : xs[k.toNat]? = some a) (h : R a l) : Op2 G A getItem (.ref p) (.int k) l R X := fun v u hv hu s N => by
  (refine PL.x1_1 (N.at hp) ?_; rintro vs hl ha)
  (refine PL.x1_1 (ha.get hx) ?_; rintro b hb hab)
  cases hv; obtain ⟨t, rfl⟩ := hu
  exact wpAny_getItem_list hl.isList h0 hz (by rw [← Array.getElem?_toList]; exact hb) ⟨a, l, hab, N, h⟩
/-- the last item -/
theorem Get.last {p : Addr} {xs : List AV} {a : AV} (hp : Pick (p, .list (xs ++ [a])) l l') (hz : xs.length < 1000000) (h : R a l) : Op2 G A getItem (.ref p) (.int (-1)) l R X := fun v u hv hu s N => by
  (refine PL.x1_1 (N.at hp) ?_; rintro vs hl ha)
  have hlen : vs.size = xs.length + 1 := by rw [← Array.length_toList, ← ha.length, List.length_append, List.length_singleton]
  (refine PL.x1_1 (ha.get (i := xs.length) (a := a) (by simp)) ?_; rintro b hb hab)
  cases hv; obtain ⟨t, rfl⟩ := hu
  exact wpAny_getItem_list_neg hl.isList (by decide) (by omega) (by decide) (x := b) (by rw [hlen, show (-1 + ((xs.length + 1 : Nat) : Int)).toNat = xs.length by omega, ← Array.getElem?_toList]; exact hb) ⟨a, l, hab, N, h⟩
theorem valueAt_of {K : Type} [DecidableEq K] {kvs : List (K × AV)} {kvs' : List (K × Value)} (h : All2 KRel kvs kvs') {k : K} {a : AV} (hk : (kvs.map (·.1)).Nodup) (hm : (k, a) ∈ kvs) : ∃ v, valueAt kvs' k = some v ∧ a.Is v := by
  induction h with
  | nil => cases hm
  | @cons p q ps qs hpq _ ih =>
    obtain ⟨pk, pa⟩ := p; obtain ⟨qk, qv⟩ := q
    obtain ⟨e1, e2⟩ := hpq
    cases e1
    rw [List.map_cons, List.nodup_cons] at hk
    rcases List.mem_cons.mp hm with e | hm
    · cases e; exact (PL.m1_1 qv (by simp [valueAt]) e2)
    · have : k ≠ pk := fun e => hk.1 (e ▸ List.mem_map.mpr (PL.m1_1 ((k, a)) hm rfl))
      (refine PL.x1_1 (ih hk.2 hm) ?_; rintro v hv ha)
      refine (PL.m1_1 v ?_ ha)
      unfold valueAt at hv ⊢
      rw [List.find?_cons, decide_eq_false (by simpa using fun e => this e.symm)]
      exact hv
theorem keys_of {K : Type} {kvs : List (K × AV)} {kvs' : List (K × Value)} (h : All2 KRel kvs kvs') : kvs.map (·.1) = kvs'.map (·.1) := by
  induction h with
  | nil => rfl
  | cons hpq _ ih => rw [List.map_cons, List.map_cons, hpq.1, ih]
theorem Get.sdict {p : Addr} {kvs : List (Str × AV)} {ep : Nat} {k : Str} {a : AV} (hp : Pick (p, .sdict kvs ep) l l') (hm : (k, a) ∈ kvs) (h : R a l) : Op2 G A getItem (.ref p) (.str k) l R X := fun v u hv hu s N => by
  obtain ⟨_, kvs', hd, hr⟩ := N.at hp
  (refine PL.x1_1 (valueAt_of hr (by rw [keys_of hr]; exact hd.nodup) hm) ?_; rintro v' hv' ha)
  cases hv; obtain ⟨t, rfl⟩ := hu
  exact wpAny_getItem_of (knd := PySem.strKind G.prog G.w) (k := k) (by show Value.isStrOf k (.str k t) = true; simp [Value.isStrOf]) hd.dictOf.mapOf hv' ⟨a, l, ha, N.toks _, h⟩

/-! a store at a place of a list -/
noncomputable def SetI (G : Gd) (A : Around) (o i a : AV) (l : Led) (R : Led → Prop) (X : Xp) : Prop := ∀ v u x, o.Is v → i.Is u → a.Is x → Tr G A (setItem v u x) (fun (_ _ : Unit) => True) l (fun _ l' => R l') X
theorem SetI.list {p : Addr} {xs : List AV} {k : Int} {a : AV} {R : Led → Prop} (hp : Pick (p, .list xs) l l') (h0 : 0 ≤ k) (hz : k < 2 ^ 63) (hk : k < xs.length) (h : R ((p, .list (xs.set k.toNat a)) :: l')) : SetI G A (.ref p) (.int k) a l R X := fun v u x hv hu hx s N => by
  (refine PL.x1_1 (N.at hp) ?_; rintro vs hl ha)
  have hlen : vs.size = xs.length := by rw [← Array.length_toList, ← ha.length]
  cases hv; obtain ⟨t, rfl⟩ := hu
  obtain ⟨n, ho⟩ := id hl
  unfold setItem
  refine wpAny_holding ?_
  refine wpAny_bind (wpAny_sequenceKey hl.isList.typeIs (by decide) ?_)
  refine wpAny_bind (wpAny_callSpecial?_slot (name := Str.ofString "__setitem__") hl.isList.typeIs slot_list_setitem (wpAny_call_entry slot_list_setitem hl.isList.typeIs entry_list_setitem ?_ (args_list_setitem _ _ _)))
  show wpAny _ _ (Builtin.List.listSubscript? (.int k t) >>= _) _ _ s
  refine wpAny_bind (wpAny_listSubscript_int (fitsIndex_of h0 hz) ?_)
  obtain ⟨j, rfl⟩ := Int.eq_ofNat_of_zero_le h0
  have hj : j < vs.size := by omega
  show wpAny _ _ ((seqItemAt p j >>= fun r => pure (r.map (j, ·))) >>= _) _ _ s
  refine wpAny_bind (wpAny_bind (wpAny_seqItemAt ho rfl (wpAny_pure ?_)))
  rw [Array.getElem?_eq_getElem hj]
  show wpAny _ _ (setSeqItemAt p j x >>= _) _ _ s
  refine wpAny_bind (wpAny_setSeqItemAt ho rfl ?_)
  have fin : Rep G { s with heap := s.heap.update p (Obj.mapSeq (·.setIfInBounds j x)) } ((p, .list (xs.set j a)) :: l') := by
    refine N.upd (tk := s.toks) (ao' := .list (xs.set j a)) hp (Heap.SameBut.update ..).extBut (PL.m1_1 (vs.setIfInBounds j x) (⟨n, ?_⟩) ?_)
    · refine (Heap.get?_update_self _ ho rfl).trans ?_
      simp [Obj.mapSeq]
    · rw [Array.toList_setIfInBounds]; exact ha.set hx j
  exact wpAny_pure (PL.m1_1 (.none) rfl (wpAny_pure ⟨(), _, trivial, fin, h⟩))
theorem SS.setitem {o i value : Expr} {p1 pos : Pos} {R : AF → Led → Prop} (h : EE G A env value l (fun a l₁ => EE G A env o l₁ (fun ov l₂ => EE G A env i l₂ (fun iv l₃ => SetI G A ov iv a l₃ (fun l₄ => R .next l₄) X) X) X) X)
    (hs : swapsWith value (some (.Subscript o i p1)) pos.line env = pure false := by with_unfolding_all rfl) : SS G A env (.Assign [.Subscript o i p1] value pos) l R X :=
  fun s N => wpAny_Assign_Subscript (wpAny_mono (h s N) (fun v s₁ ⟨a, l₁, ha, N₁, h₁⟩ => wpAny_mono (h₁ s₁ N₁) (fun u s₂ ⟨b, l₂, hb, N₂, h₂⟩ => wpAny_mono (h₂ s₂ N₂) (fun w s₃ ⟨c, l₃, hc, N₃, h₃⟩ => wpAny_mono (h₃ u w v hb hc ha s₃ N₃)
    (fun _ s₄ ⟨_, l₄, _, N₄, h₄⟩ => ⟨.next, l₄, rfl, N₄, h₄⟩) fun _ _ y => y) fun _ _ y => y) fun _ _ y => y) fun _ _ y => y) hs

/-! calls -/
/-- the callee is one that the machine or a frame keeps -/
structure Kept (G : Gd) (f : AV) : Prop where
  keep : ∀ v, f.Is v → ∀ h : Heap, (∀ b o, G.t.get? b = some o → h.get? b = some o) → ∃ k, (k = Keeper.frame ∨ k = Keeper.machine ∨ k = Keeper.boundFrame) ∧ Looks (model G.prog G.w) h (keeperOf v) k
theorem Kept.lit {f : Value} (hf : keeperOf f = pure .machine) : Kept G (.lit f) := ⟨fun v e h _ => (PL.m1_1 (.machine) (.inr (.inl rfl)) (by cases e; exact Looks.of_pure hf))⟩
theorem Kept.fn {f : Addr} {o : Obj} {fd : FuncData} (ho : G.t.get? f = some o) (hd : o.data = .func fd) : Kept G (.ref f) := ⟨fun v e h hk => (PL.m1_1 (.frame) (.inl rfl) (by
  cases e
  intro A Q E s k q
  unfold keeperOf
  refine wpAny_bind (wpAny_load (k _ _ (hk _ _ ho)) ?_)
  rw [hd]
  exact wpAny_pure q))⟩

theorem callWith_args {f : AV} {first : List AV} {fv : Value} {firstv : List Value} {pos : Pos} {ts : List (Bool × Sem Value)} (hk : Kept G f) (hf : f.Is fv) (hfirst : AllIs first firstv) (hst : (ts.any (·.1)) = false)
    (h : EA G A ts l (fun as l₁ => CC G A f (first ++ as) l₁ R X) X) : Tr G A (callWith pos fv firstv ts []) AV.Is l R X := fun s N => by
  refine callWith_of (P := fun h => ∀ b o, G.t.get? b = some o → h.get? b = some o) (by simpa using hst) (fun h hh => hk.keep fv hf h hh) ?_
  have go : ∀ {ts : List (Bool × Sem Value)} {Q : Args → Shared → Prop} {E : Value → Shared → Prop}, (ts.any (·.1)) = false → wpAny (model G.prog G.w) A (spliced ts) (fun vs s' => Q { pos := vs } s') E s → wpAny (model G.prog G.w) A (evalArgs fv true ts []) Q E s := by
    intro ts Q E hst h
    cases ts with
    | nil =>
      unfold evalArgs
      show wpAny _ _ (spliced [] >>= _) _ _ s
      refine wpAny_bind (wpAny_mono h (fun vs s₁ h₁ => ?_) fun _ _ y => y)
      refine wpAny_bind (wpAny_pure (wpAny_holding ?_))
      show wpAny _ _ (evalAll [] >>= _) _ _ s₁
      exact wpAny_bind (wpAny_evalAll_nil (wpAny_bind (wpAny_pure (wpAny_pure h₁))))
    | cons t ts =>
      obtain ⟨b, t⟩ := t
      cases b with
      | true => simp at hst
      | false => exact evalArgs_plain h
  exact go hst (wpAny_mono (h s N) (fun vs s₁ ⟨as, l₁, has, N₁, h₁⟩ => ⟨N₁.keep, h₁ fv (firstv ++ vs) hf (hfirst.append has) s₁ N₁⟩) fun _ _ y => y)
end
end PL
end
section
open PySem PySem.Calls PyProof.Rows PySem.W
set_option autoImplicit false
set_option linter.unusedVariables false
namespace PL

section
variable {G : Gd} {A : Around} {env : Env} {l l' : Led} {X : Xp} {R : AV → Led → Prop}


theorem get1 {a : AV} {vs : List Value} (h : AllIs [a] vs) : ∃ v, vs = [v] ∧ a.Is v := by
  (refine PL.x2_2 (h.consL) ?_; rintro v us rfl hv h)
  cases h; exact (PL.m1_1 v rfl hv)
theorem get2 {a b : AV} {vs : List Value} (h : AllIs [a, b] vs) : ∃ v u, vs = [v, u] ∧ a.Is v ∧ b.Is u := by
  (refine PL.x2_2 (h.consL) ?_; rintro v us rfl hv h)
  (refine PL.x1_1 (get1 h) ?_; rintro u rfl hu); exact (PL.m2_2 v u rfl hv hu)
theorem get3 {a b c : AV} {vs : List Value} (h : AllIs [a, b, c] vs) : ∃ v u w, vs = [v, u, w] ∧ a.Is v ∧ b.Is u ∧ c.Is w := by
  (refine PL.x2_2 (h.consL) ?_; rintro v us rfl hv h)
  (refine PL.x2_2 (get2 h) ?_; rintro u w rfl hu hw); exact (PL.m3_3 v u w rfl hv hu hw)
/-- a method is looked for -/
noncomputable def GM (G : Gd) (A : Around) (name : Str) (a : AV) (l : Led) (R : AV → List AV → Led → Prop) (X : Xp) : Prop :=
  ∀ v pl, a.Is v → Tr G A (getMethod v name pl) (fun (p : AV × List AV) (q : Value × List Value) => p.1.Is q.1 ∧ AllIs p.2 q.2) l (fun p l' => R p.1 p.2 l') X
theorem EE.mcall {o : Expr} {name : Str} {apos pos : Pos} {es : List Expr} {pl : Sem Bool} (h : EE G A env o l (fun a l₁ => GM G A name a l₁ (fun f first l₂ => Kept G f ∧ EA G A (backTo pos (starEach es env)) l₂ (fun as l₃ => CC G A f (first ++ as) l₃ R X) X) X) X)
    (hst : (backTo pos (starEach es env)).any (·.1) = false := by with_unfolding_all rfl)
    (he : eval (.Call (.Attribute o name apos) es [] pos) env = (do
      let ov ← eval o env
      standAt apos.atName
      let (f, first) ← holding [ov] (getMethod ov name pl)
      callWith pos f first (backTo pos (starEach es env)) (backToKw pos (keywordEach [] env))) := by with_unfolding_all rfl) :
    EE G A env (.Call (.Attribute o name apos) es [] pos) l R X :=
  fun s N => methodCall_KW (wpAny_mono (h s N) (fun v s₁ ⟨a, l₁, ha, N₁, h₁⟩ => wpAny_mono (h₁ v pl ha s₁ N₁) (fun q s₂ ⟨p, l₂, hpq, N₂, hk, h₂⟩ => callWith_args (first := p.2) hk hpq.1 hpq.2 hst h₂ s₂ N₂) fun _ _ y => y) fun _ _ y => y) he

structure BM (T : String) (name : Str) (id : String) : Prop where
  plain : PlainAttrs T
  slot : Slot T name id
  typ : typeOf (.builtin id) = pure (.type "method_descriptor")
/-- the value is of a built-in type -/
noncomputable def OfT (G : Gd) (a : AV) (T : String) (l : Led) : Prop := ∀ v s, a.Is v → Rep G s l → s.TypeIs v T ∧ ∀ b, v = .ref b → ∃ ob, s.heap.get? b = some ob ∧ ob.dict = none
theorem OfT.str {x : Str} : OfT G (.str x) "str" l := fun v s ⟨t, e⟩ N => by subst e; exact ⟨rfl, fun b e => by cases e⟩
theorem OfT.list {p : Addr} {xs : List AV} (hp : Pick (p, .list xs) l l') : OfT G (.ref p) "list" l := fun v s e N => by
  cases e
  (refine PL.x1_1 (N.at hp) ?_; rintro vs hl _)
  exact ⟨hl.isList.typeIs, fun b e => by cases e; obtain ⟨n, h⟩ := hl; exact (PL.m1_1 _ h rfl)⟩
theorem OfT.sdict {p : Addr} {kvs : List (Str × AV)} {ep : Nat} (hp : Pick (p, .sdict kvs ep) l l') : OfT G (.ref p) "dict" l := fun v s e N => by
  cases e
  obtain ⟨_, vs, hl, _⟩ := N.at hp
  exact ⟨hl.dictOf.typeIs, fun b e => hl.dictOf.mapOf.noDict b e⟩
theorem OfT.sset {p : Addr} {S : Str → Bool} {n : Nat} (hp : Pick (p, .sset S n) l l') : OfT G (.ref p) "set" l := fun v s e N => by
  cases e
  have hl : s.heap.SetOf (PySem.strKind G.prog G.w) p S n := N.at hp
  exact ⟨hl.typeIs, fun b e => hl.noDict b e⟩
theorem GM.builtin {name : Str} {T id : String} {a : AV} {R : AV → List AV → Led → Prop} (hB : BM T name id) (hT : OfT G a T l) (h : R (.lit (.builtin id)) [a] l) : GM G A name a l R X := fun v pl ha s N =>
  _root_.PySem.getMethod_builtin (hT v s ha N).1 hB.plain hB.slot hB.typ (hT v s ha N).2 ⟨(.lit (.builtin id), [a]), l, ⟨rfl, .one ha⟩, N, h⟩
theorem Kept.builtin {id : String} : Kept G (.lit (.builtin id)) := .lit rfl
theorem Kept.type {T : String} : Kept G (.lit (.type T)) := .lit rfl

theorem bm_append : BM "list" "append" "list.append" := ⟨F.plainAttrs_list, F.slot_list_append, F.type_list_append⟩
theorem bm_pop : BM "list" "pop" "list.pop" := ⟨F.plainAttrs_list, F.slot_list_pop, F.type_list_pop⟩
theorem bm_clear : BM "list" "clear" "list.clear" := ⟨F.plainAttrs_list, F.slot_list_clear, F.type_list_clear⟩
theorem bm_dget : BM "dict" "get" "dict.get" := ⟨F.plainAttrs_dict, F.slot_dict_get, F.type_dict_get⟩
theorem bm_dvalues : BM "dict" "values" "dict.values" := ⟨F.plainAttrs_dict, F.slot_dict_values, F.type_dict_values⟩
theorem bm_sadd : BM "set" "add" "set.add" := ⟨F.plainAttrs_set, F.slot_set_add, F.type_set_add⟩
theorem bm_replace : BM "str" "replace" "str.replace" := ⟨F.plainAttrs_str, F.slot_str_replace, F.type_str_replace⟩
theorem bm_translate : BM "str" "translate" "str.translate" := ⟨F.plainAttrs_str, F.slot_str_translate, F.type_str_translate⟩

theorem CC.append {p : Addr} {xs : List AV} {a : AV} (hp : Pick (p, .list xs) l l') (hz : xs.length < 1000000) (h : R .none ((p, .list (xs ++ [a])) :: l')) : CC G A (.lit (.builtin "list.append")) [.ref p, a] l R X := fun f vs hf hvs s N => by
  cases hf
  (refine PL.x2_2 (get2 hvs) ?_; rintro v u rfl hv hu)
  cases hv
  (refine PL.x1_1 (N.at hp) ?_; rintro ws hl ha)
  exact wpAny_list_append_plain hl (fun h' hl' hs' => ⟨.none, _, rfl, N.upd (tk := s.toks) (ao' := .list (xs ++ [a])) hp hs'.extBut (PL.m1_1 _ hl' (by rw [Array.toList_push]; exact ha.append (.one hu))), h⟩)
    (by rw [← Array.length_toList, ← ha.length]; exact Nat.le_trans (Nat.le_of_lt hz) (by decide))
theorem CC.pop {p : Addr} {xs : List AV} {a : AV} (hp : Pick (p, .list (xs ++ [a])) l l') (hz : xs.length < 1000000) (h : R a ((p, .list xs) :: l')) : CC G A (.lit (.builtin "list.pop")) [.ref p] l R X := fun f vs hf hvs s N => by
  cases hf
  (refine PL.x1_1 (get1 hvs) ?_; rintro v rfl hv)
  cases hv
  (refine PL.x1_1 (N.at hp) ?_; rintro ws ⟨n, hl⟩ ha)
  have hlen : ws.size = xs.length + 1 := by rw [← Array.length_toList, ← ha.length, List.length_append, List.length_singleton]
  (refine PL.x1_1 (ha.get (i := xs.length) (a := a) (by simp)) ?_; rintro b hb hab)
  refine call_meets F.slot_list_pop (PL.m1_1 _ hl rfl) F.entry_list_pop (F.args_list_pop_1 _) (MeetsSeq.list_pop_last p ws n b (by rw [hlen, Nat.add_sub_cancel, ← Array.getElem?_toList]; exact hb) (by rw [hlen]; exact Nat.le_trans (Nat.succ_le_succ (Nat.le_of_lt hz)) (by decide))) ⟨hl, ?_⟩
  refine ⟨a, _, hab, N.upd (tk := s.toks) (ao' := .list xs) hp (Heap.SameBut.update ..).extBut (PL.m1_1 (ws.eraseIdxIfInBounds (ws.size - 1)) (⟨_, Heap.get?_update_self _ hl rfl⟩) ?_), h⟩
  have e : (ws.eraseIdxIfInBounds (ws.size - 1)).toList = ws.toList.take xs.length := by
    rw [hlen, Nat.add_sub_cancel, Array.toList_eraseIdxIfInBounds, List.eraseIdx_eq_take_drop_succ, List.drop_eq_nil_of_le (by rw [Array.length_toList, hlen]; exact Nat.le_refl _), List.append_nil]
  rw [e]
  have := ha.take xs.length
  simpa using this
theorem CC.clear {p : Addr} {xs : List AV} (hp : Pick (p, .list xs) l l') (hz : xs.length < 1000000) (h : R .none ((p, .list []) :: l')) : CC G A (.lit (.builtin "list.clear")) [.ref p] l R X := fun f vs hf hvs s N => by
  cases hf
  (refine PL.x1_1 (get1 hvs) ?_; rintro v rfl hv)
  cases hv
  (refine PL.x1_1 (N.at hp) ?_; rintro ws ⟨n, hl⟩ ha)
  have hlen : ws.size = xs.length := by rw [← Array.length_toList, ← ha.length]
  refine call_meets F.slot_list_clear (PL.m1_1 _ hl rfl) F.entry_list_clear (F.args_list_clear_1 _) (AutoSeq1.list_clear_list_0 p ws n (by rw [hlen]; exact Nat.le_trans (Nat.le_of_lt hz) (by decide))) ⟨hl, ?_⟩
  exact ⟨.none, _, rfl, N.upd (tk := s.toks) (ao' := .list []) hp (Heap.SameBut.update ..).extBut (PL.m1_1 (#[]) (⟨_, Heap.get?_update_self _ hl rfl⟩) (.nil)), h⟩
theorem CC.len_list {p : Addr} {xs : List AV} (hp : Pick (p, .list xs) l l') (hz : xs.length < 1000000) (h : R (.int xs.length) l) : CC G A (.lit (.builtin "len")) [.ref p] l R X := fun f vs hf hvs s N => by
  cases hf
  (refine PL.x1_1 (get1 hvs) ?_; rintro v rfl hv)
  cases hv
  (refine PL.x1_1 (N.at hp) ?_; rintro ws hl ha)
  have hlen : ws.size = xs.length := by rw [← Array.length_toList, ← ha.length]
  exact call_len_list hl.isList (by rw [hlen]; omega) ⟨.int xs.length, l, ⟨_, by rw [hlen]⟩, N.toks _, h⟩
theorem CC.len_str {x : Str} (hz : x.length < 1000000) (h : R (.int x.length) l) : CC G A (.lit (.builtin "len")) [.str x] l R X := fun f vs hf hvs s N => by
  cases hf
  obtain ⟨v, rfl, t, rfl⟩ := get1 hvs
  exact PyProof.Rows.len_str (by omega) ⟨.int x.length, l, ⟨_, rfl⟩, N.toks _, h⟩
theorem CC.newset (h : ∀ p, R (.ref p) ((p, .sset (fun _ => false) 0) :: l)) : CC G A (.lit (.type "set")) [] l R X := fun f vs hf hvs s N => by
  cases hf
  cases hvs.nilL
  exact call_set_0 fun led => ⟨.ref s.heap.objs.size, _, rfl, N.push (ao := .sset (fun _ => false) 0) rfl (PL.m4_7 _ (#[]) 0 _ (Heap.get?_push_size _ rfl) ((PL.m0_2 rfl rfl rfl)) rfl (fun e he => by simp at he) (fun k => by simp) (by decide) (by rfl) rfl), h _⟩
theorem CC.sadd {p : Addr} {S : Str → Bool} {n : Nat} {k : Str} (hp : Pick (p, .sset S n) l l') (hn : n < 1000) (h : R .none ((p, .sset (fun k' => S k' || decide (k' = k)) (if S k then n else n + 1)) :: l')) : CC G A (.lit (.builtin "set.add")) [.ref p, .str k] l R X := fun f vs hf hvs s N => by
  cases hf
  obtain ⟨v, u, rfl, hv, t, rfl⟩ := get2 hvs
  cases hv
  have hS : s.heap.SetOf (PySem.strKind G.prog G.w) p S n := N.at hp
  exact call_set_add (knd := PySem.strKind G.prog G.w) (k := k) (by show Value.isStrOf k (.str k t) = true; simp [Value.isStrOf]) rfl hS (Nat.lt_of_le_of_lt (Nat.succ_le_of_lt hn) (by decide))
    fun h' hs' hS' => ⟨.none, _, rfl, N.upd (ao' := .sset _ _) hp hs'.extBut hS', h⟩
theorem Op2.inset {p : Addr} {S : Str → Bool} {n : Nat} {k : Str} (hp : Pick (p, .sset S n) l l') (h : R (.bool (S k)) l) : Op2 G A (compareOp .In) (.str k) (.ref p) l R X := fun v u ⟨t, hv⟩ hu s N => by
  subst hv; cases hu
  have hS : s.heap.SetOf (PySem.strKind G.prog G.w) p S n := N.at hp
  exact wpAny_inSet_of (knd := PySem.strKind G.prog G.w) (k := k) (by show Value.isStrOf k (.str k t) = true; simp [Value.isStrOf]) rfl hS ⟨.bool (S k), l, rfl, N.toks _, h⟩
/-- a dict's get: there, not there -/
theorem valueAt_none {K : Type} [DecidableEq K] {kvs : List (K × AV)} {kvs' : List (K × Value)} (h : All2 KRel kvs kvs') {k : K} (hk : k ∉ kvs.map (·.1)) : valueAt kvs' k = none := by
  rw [keys_of h] at hk
  unfold valueAt
  rw [List.find?_eq_none.mpr]; rfl
  intro p hp e
  exact hk (List.mem_map.mpr (PL.m1_1 p hp (of_decide_eq_true e)))
end
end PL
end
section
open PySem PySem.Calls PyProof.Rows PySem.W
set_option autoImplicit false
set_option linter.unusedVariables false
namespace PL

/-! a call of one of the text's own defs -/
noncomputable abbrev Bind := Str × AV
/-- the first values of a frame's names -/
inductive Init (bs : List Bind) : List (Str × NameKind) → List (Option AV) → Prop
  | nil : Init bs [] []
  | loc {x : Str} {a : AV} {ns : List (Str × NameKind)} {vs : List (Option AV)} : LookT x a bs → Init bs ns vs → Init bs ((x, .local) :: ns) (some a :: vs)
  | skip {p : Str × NameKind} {ns : List (Str × NameKind)} {vs : List (Option AV)} : Init bs ns vs → Init bs (p :: ns) (none :: vs)
/-- the first values of a frame's cells -/
inductive CInit (bs : List Bind) : List Str → List (Option AV) → Prop
  | nil : CInit bs [] []
  | val {x : Str} {a : AV} {ns : List Str} {vs : List (Option AV)} : LookT x a bs → CInit bs ns vs → CInit bs (x :: ns) (some a :: vs)
  | skip {x : Str} {ns : List Str} {vs : List (Option AV)} : CInit bs ns vs → CInit bs (x :: ns) (none :: vs)
inductive BKind (names : List (Str × NameKind)) : List Bind → Prop
  | nil : BKind names []
  | loc {x : Str} {a : AV} {bs : List Bind} : LookT x .local names → BKind names bs → BKind names ((x, a) :: bs)
  | cel {x : Str} {a : AV} {bs : List Bind} : LookT x .cell names → BKind names bs → BKind names ((x, a) :: bs)

theorem lookT_of_mem {β : Type} {x : Str} {b : β} : ∀ {l : List (Str × β)}, (x, b) ∈ l → LookT x b l
  | _ :: _, h => by
    rcases List.mem_cons.mp h with e | h
    · cases e; exact .here
    · exact .there (lookT_of_mem h)
theorem Init.look {bs : List Bind} {ns : List (Str × NameKind)} {vs : List (Option AV)} (h : Init bs ns vs) {x : Str} {k : NameKind} {a : AV} (q : Look x k a ns vs) : k = .local ∧ LookT x a bs := by
  induction h with
  | nil => cases q
  | loc hx _ ih => cases q with
    | here => exact ⟨rfl, hx⟩
    | there q => exact ih q
  | skip _ ih => cases q with
    | there q => exact ih q

noncomputable abbrev BRel (bs : List Bind) (us : List (Str × Value)) : Prop := All2 (fun (p : Bind) (q : Str × Value) => p.1 = q.1 ∧ p.2.Is q.2) bs us
theorem BRel.names {bs : List Bind} {us : List (Str × Value)} (h : BRel bs us) : bs.map (·.1) = us.map (·.1) := by
  induction h with
  | nil => rfl
  | cons h _ ih => rw [List.map_cons, List.map_cons, h.1, ih]

theorem bindL_not {kindOf : Str → Option NameKind} : ∀ {us : List (Str × Value)} {m : Str → Option Value} {x : Str}, x ∉ us.map (·.1) → bindL kindOf us m x = m x
  | [], _, _, _ => rfl
  | (n, v) :: r, m, x, h => by
    rw [List.map_cons, List.mem_cons, not_or] at h
    unfold bindL
    rw [bindL_not h.2]
    split
    · simp [h.1]
    · rfl
theorem bindC_not {kindOf : Str → Option NameKind} : ∀ {us : List (Str × Value)} {m : Str → Option Value} {x : Str}, x ∉ us.map (·.1) → bindC kindOf us m x = m x
  | [], _, _, _ => rfl
  | (n, v) :: r, m, x, h => by
    rw [List.map_cons, List.mem_cons, not_or] at h
    unfold bindC
    rw [bindC_not h.2]
    split
    · rfl
    · simp [h.1]
theorem BRel.bindL {kindOf : Str → Option NameKind} {bs : List Bind} {us : List (Str × Value)} (h : BRel bs us) : ∀ {m : Str → Option Value}, (bs.map (·.1)).Nodup → ∀ {x : Str} {a : AV}, LookT x a bs → kindOf x = some .local → ∃ v, PySem.bindL kindOf us m x = some v ∧ a.Is v := by
  induction h with
  | nil => intro m _ x a q; cases q
  | @cons p q ps qs hpq hr ih =>
    intro m hn x a hx hk
    obtain ⟨pn, pa⟩ := p; obtain ⟨qn, qv⟩ := q
    obtain ⟨e, ha⟩ := hpq
    cases e
    rw [List.map_cons, List.nodup_cons] at hn
    cases hx with
    | here =>
      unfold PySem.bindL
      rw [bindL_not (by rw [← BRel.names hr]; exact hn.1), if_pos hk]
      exact (PL.m1_1 qv (by simp) ha)
    | there hx =>
      unfold PySem.bindL
      exact ih hn.2 hx hk
theorem BRel.bindC {kindOf : Str → Option NameKind} {bs : List Bind} {us : List (Str × Value)} (h : BRel bs us) : ∀ {m : Str → Option Value}, (bs.map (·.1)).Nodup → ∀ {x : Str} {a : AV}, LookT x a bs → kindOf x = some .cell → ∃ v, PySem.bindC kindOf us m x = some v ∧ a.Is v := by
  induction h with
  | nil => intro m _ x a q; cases q
  | @cons p q ps qs hpq hr ih =>
    intro m hn x a hx hk
    obtain ⟨pn, pa⟩ := p; obtain ⟨qn, qv⟩ := q
    obtain ⟨e, ha⟩ := hpq
    cases e
    rw [List.map_cons, List.nodup_cons] at hn
    cases hx with
    | here =>
      unfold PySem.bindC
      rw [bindC_not (by rw [← BRel.names hr]; exact hn.1), if_neg (by rw [hk]; decide)]
      exact (PL.m1_1 qv (by simp) ha)
    | there hx =>
      unfold PySem.bindC
      exact ih hn.2 hx hk

theorem cells_isSome : ∀ (names : List (Str × NameKind)) (n : Nat) (acc : List (Str × Addr)) (x : Str), ((x, NameKind.cell) ∈ names ∨ (acc.lookup x).isSome = true) → ((cellsFrom n names acc).lookup x).isSome = true
  | [], n, acc, x, h => by simpa [cellsFrom] using h
  | (y, k) :: r, n, acc, x, h => by
    unfold cellsFrom
    split
    · refine cells_isSome r _ _ x ?_
      rcases h with h | h
      · rcases List.mem_cons.mp h with e | h
        · cases e; right; simp
        · exact .inl h
      · right
        rw [List.lookup_cons]
        cases x == y with
        | true => rfl
        | false => exact h
    · rename_i hk
      refine cells_isSome r _ _ x ?_
      rcases h with h | h
      · rcases List.mem_cons.mp h with e | h
        · cases e; simp at hk
        · exact .inl h
      · exact .inr h
/-- the cells' names, the last first -/
noncomputable def cellKeys : List (Str × NameKind) → List Str → List Str
  | [], acc => acc
  | (x, k) :: r, acc => if k == .cell then cellKeys r (x :: acc) else cellKeys r acc
theorem cellKeys_of : ∀ (names : List (Str × NameKind)) (n : Nat) (acc : List (Str × Addr)), (cellsFrom n names acc).map (·.1) = cellKeys names (acc.map (·.1))
  | [], n, acc => rfl
  | (x, k) :: r, n, acc => by
    unfold cellsFrom cellKeys
    split
    · exact cellKeys_of r _ _
    · exact cellKeys_of r _ _
theorem cellKeys_mem : ∀ (names : List (Str × NameKind)) (acc : List Str) (x : Str), x ∈ cellKeys names acc → x ∈ acc ∨ (x, NameKind.cell) ∈ names
  | [], acc, x, h => .inl h
  | (y, k) :: r, acc, x, h => by
    unfold cellKeys at h
    split at h
    · rename_i hk
      have hk' : k = .cell := by simpa using hk
      rcases cellKeys_mem r _ x h with h | h
      · rcases List.mem_cons.mp h with rfl | h
        · right; rw [hk']; exact .head _
        · exact .inl h
      · exact .inr (.tail _ h)
    · rcases cellKeys_mem r _ x h with h | h
      · exact .inl h
      · exact .inr (.tail _ h)

/-- the ledger's part of the cells -/
noncomputable def cellLed : List (Str × Addr) → List (Option AV) → Led
  | (_, c) :: cl, o :: os => (c, .cell o) :: cellLed cl os
  | _, _ => []

noncomputable def retOf : AF → AV
  | .ret v => v
  | _ => .none

structure FnOk (G : Gd) (f : Addr) (fd : FuncData) (body : List Stmt) (names : List (Str × NameKind)) : Prop where
  obj : ∃ o, G.t.get? f = some o ∧ o.data = .func fd
  code : G.t.CodeRec fd.code fd.qualname
  nolimit : G.t.NoLimit
  body : fd.body = .stmts body
  hnames : fd.scope.names = names
  nodup : (names.map fun p => p.1).Nodup
  clos : fd.closure = []
  plain : ∀ p ∈ names, (p.1 == ("__debug__" : Str)) = false ∧ (p.1 == ("__classdict__" : Str)) = false
  globals : fd.globals = mainGlobals
  builtins : fd.builtins = builtinsNs
  co : fd.scope.isCoroutine = false
  gen : fd.scope.isGenerator = false
  kind : fd.scope.kind = .function


section
variable {G : Gd} {A : Around} {l l' : Led} {X : Xp} {R : AV → Led → Prop}
/-- the binding of plain positional arguments -/
theorem bind_plain {fd : FuncData} {args : List AV} {xs : List Str} {R : List Bind → Led → Prop} (h : R (xs.zip args) l) (hl : xs.length = args.length)
    (hb : ∀ vs : List Value, vs.length = args.length → bindArgs fd ⟨vs, []⟩ = pure (xs.zip vs)) : ∀ vs, AllIs args vs → Tr G A (bindArgs fd ⟨vs, []⟩) BRel l R X := fun vs hvs s N => by
  rw [hb vs hvs.length.symm]
  refine wpAny_pure ⟨xs.zip args, l, ?_, N, h⟩
  clear h hb N
  induction xs generalizing args vs with
  | nil => simp; exact .nil
  | cons x xs ih =>
    cases args with
    | nil => simp at hl
    | cons a as =>
      (refine PL.x2_2 (hvs.consL) ?_; rintro v us rfl ha hu)
      exact .cons ⟨rfl, ha⟩ (ih (by simpa using hl) us hu)

/-- a call, at the code's own level -/
noncomputable def CK (G : Gd) (A : Around) (f : AV) (args : List AV) (l : Led) (R : AV → Led → Prop) (X : Xp) : Prop := ∀ v vs, f.Is v → AllIs args vs → ∀ s, Rep G s l →
  codeAny (model G.prog G.w) A (.call v ⟨vs, []⟩) (fun r s' => match r with | .ok (.ret v) => Po G AV.Is R v s' | .ok _ => False | .error e => Px G X e s') s
theorem CC.ofK {f : AV} {args : List AV} (h : CK G A f args l R X) : CC G A f args l R X := fun v vs hv hvs s N => wpAny_call (h v vs hv hvs s N)
/-- an exception leaves a frame -/
noncomputable def LeaveX (G : Gd) (A : Around) (env : Env) (X : Xp) : Xp := fun e l => Tr G A (leaving env (.ref e)) (fun (_ _ : Unit) => True) l (fun _ l₃ => ∃ l₄, Sub l₄ l₃ ∧ X e l₄) noX
theorem CK.fnX {f : Addr} {fd : FuncData} {body : List Stmt} {names : List (Str × NameKind)} {args : List AV} (hF : FnOk G f fd body names) (hroom : A.depth < recursionLimit)
    (hbind : ∀ vs, AllIs args vs → Tr G A.in1 (bindArgs fd ⟨vs, []⟩) BRel l (fun bs l₁ => (bs.map fun p => p.1).Nodup ∧ BKind names bs ∧ ∃ vals ci, Init bs names vals ∧ CInit bs (cellKeys names []) ci ∧
      ∀ L cl env A', cl.map (fun p : Str × Addr => p.1) = cellKeys names [] → EnvOk env names L cl → A' = A.deeper env → env.code = fd.code → env.frame = some L → BB G A' env body ((L, .ns names vals) :: (cellLed cl ci ++ l₁)) (fun fl l₂ => ∃ l₃, Sub l₃ l₂ ∧ R (retOf fl) l₃) (LeaveX G A' env X)) X) :
    CK G A (.ref f) args l R X := fun v vs hv hvs s N => by
  cases hv
  (refine PL.x1_1 (hF.obj) ?_; rintro o ho hd)
  refine codeAny_call_function hroom (N.keep _ _ ho) hd hF.co hF.gen hF.body (hF.code.keeps N.keep) ?_
  refine wpAny_mono (hbind vs hvs s N) (fun us s₁ ⟨bs, l₁, hbs, N₁, hnd, hbk, vals, ci, hi, hc, hbody⟩ => ?_) (fun _ _ y => y)
  rw [hF.clos]
  have hkinds : ∀ {bs : List Bind} {us : List (Str × Value)}, BRel bs us → BKind names bs → ∀ x ∈ us, fd.scope.names.lookup x.1 = some .local ∨ (fd.scope.names.lookup x.1 = some .cell ∧ ((cellsFrom (s₁.heap.objs.size + 1) fd.scope.names []).lookup x.1).isSome = true) := by
    intro bs us hr hb
    induction hr with
    | nil => intro x hx; cases hx
    | @cons p q ps qs hpq _ ih =>
      intro x hx
      have this : BKind names ps ∧ (LookT p.1 .local names ∨ LookT p.1 .cell names) := by
        cases hb with
        | loc h1 h2 => exact ⟨h2, .inl h1⟩
        | cel h1 h2 => exact ⟨h2, .inr h1⟩
      rcases List.mem_cons.mp hx with rfl | hx
      · rw [← hpq.1, hF.hnames]
        rcases this.2 with h1 | h1
        · exact .inl (h1.lookup hF.nodup)
        · exact .inr ⟨h1.lookup hF.nodup, cells_isSome _ _ _ _ (.inl h1.mem)⟩
      · exact ih this.1 x hx
  refine wpAny_newFunctionEnv_cells hF.kind (hkinds hbs hbk) fun env he s₂ y => ?_
  obtain ⟨⟨⟨h', tk, rfl⟩, hns, hkeep, hfresh⟩, hcell, hapart, habove⟩ := y
  have hE : EnvOk env names s₁.heap.objs.size (cellsFrom (s₁.heap.objs.size + 1) fd.scope.names []) := by
    subst he
    refine ⟨hF.kind, hF.hnames, hF.nodup, rfl, rfl, ?_, hF.globals, hF.builtins, hF.plain⟩
    have e := cellKeys_of fd.scope.names (s₁.heap.objs.size + 1) []
    rw [e, hF.hnames]
    have nd : ∀ (names : List (Str × NameKind)) (acc : List Str), (names.map (·.1)).Nodup → acc.Nodup → (∀ x ∈ acc, x ∉ names.map (·.1)) → (cellKeys names acc).Nodup := by
      intro names
      induction names with
      | nil => intro acc _ h _; exact h
      | cons p r ih =>
        intro acc hn ha hd
        obtain ⟨x, k⟩ := p
        rw [List.map_cons, List.nodup_cons] at hn
        unfold cellKeys
        split
        · refine ih _ hn.2 (List.nodup_cons.mpr ⟨fun q => hd x q (by simp), ha⟩) fun y hy => ?_
          rcases List.mem_cons.mp hy with rfl | hy
          · exact hn.1
          · exact fun q => hd y hy (by rw [List.map_cons]; exact .tail _ q)
        · exact ih _ hn.2 ha fun y hy q => hd y hy (by rw [List.map_cons]; exact .tail _ q)
    exact nd names [] hF.nodup List.nodup_nil fun x hx => by cases hx
  have eL : env.locals = s₁.heap.objs.size := by subst he; rfl
  have eC : env.cells = cellsFrom (s₁.heap.objs.size + 1) fd.scope.names [] := by subst he; rfl
  have hkind : ∀ {x k}, LookT x k names → env.kindOf x = some k := fun q => hE.kindOf q
  have hcn : ((cellsFrom (s₁.heap.objs.size + 1) fd.scope.names []).map (·.1)).Nodup := by have := hE.cnodup; exact this
  have hck : ∀ n, n ∈ (cellsFrom (s₁.heap.objs.size + 1) fd.scope.names []).map (·.1) → (n, NameKind.cell) ∈ names := fun n hn => by
    rw [cellKeys_of fd.scope.names (s₁.heap.objs.size + 1) [], hF.hnames] at hn
    exact (cellKeys_mem names [] n hn).elim (fun h => by cases h) id
  have N₂ : Rep G { s₁ with heap := h', toks := tk } (((s₁.heap.objs.size, .ns names vals) :: cellLed (cellsFrom (s₁.heap.objs.size + 1) fd.scope.names []) ci) ++ l₁) := by
    have led : ∀ (cl : List (Str × Addr)) (ci : List (Option AV)), CInit bs (cl.map (·.1)) ci → (∀ p ∈ cl, p ∈ cellsFrom (s₁.heap.objs.size + 1) fd.scope.names []) → cl.Pairwise (fun x y => x.2 ≠ y.2) →
        ((cellLed cl ci).map (·.1)).Nodup ∧ (∀ p ∈ cellLed cl ci, (∃ n, (n, p.1) ∈ cl) ∧ At G h' p.1 p.2) := by
      intro cl
      induction cl with
      | nil => intro ci _ _ _; exact ⟨List.nodup_nil, fun p hp => by cases hp⟩
      | cons q cl ih =>
        intro ci hci hm hp
        obtain ⟨n, c⟩ := q
        obtain ⟨hp1, hp2⟩ := List.pairwise_cons.mp hp
        have hmem := hm (n, c) (.head _)
        have hcl := hcell n c (by rw [eC]; exact lookup_of_mem hcn hmem)
        have mk : ∀ (o : Option AV) (ci' : List (Option AV)), CInit bs (cl.map (·.1)) ci' → At G h' c (.cell o) → ((cellLed ((n, c) :: cl) (o :: ci')).map (·.1)).Nodup ∧ (∀ p ∈ cellLed ((n, c) :: cl) (o :: ci'), (∃ n', (n', p.1) ∈ (n, c) :: cl) ∧ At G h' p.1 p.2) := by
          intro o ci' h1 h2
          obtain ⟨i1, i2⟩ := ih ci' h1 (fun p hp => hm p (.tail _ hp)) hp2
          refine ⟨?_, ?_⟩
          · show (c :: (cellLed cl ci').map (·.1)).Nodup
            refine List.nodup_cons.mpr ⟨fun q => ?_, i1⟩
            (refine PL.x1_1 (List.mem_map.mp q) ?_; rintro p hp e)
            obtain ⟨⟨n', hn'⟩, _⟩ := i2 p hp
            exact hp1 _ hn' e.symm
          · intro p hp
            rcases List.mem_cons.mp hp with rfl | hp
            · exact ⟨⟨n, .head _⟩, h2⟩
            · obtain ⟨⟨n', hn'⟩, h3⟩ := i2 p hp
              exact ⟨⟨n', .tail _ hn'⟩, h3⟩
        cases hci with
        | val hx hr =>
          (refine PL.x1_1 (BRel.bindC hbs (m := fun _ => none) hnd hx (hE.kindOf (x := n) (k := .cell) (by
            have := hck n (List.mem_map.mpr (PL.m1_1 _ hmem rfl))
            exact lookT_of_mem this))) ?_; rintro u hu hau)
          exact mk _ _ hr ⟨some u, by rw [← hu]; exact hcl, u, rfl, hau⟩
        | skip hr => exact mk _ _ hr (PL.m1_1 _ hcl trivial)
    obtain ⟨l1, l2⟩ := led _ ci (by rw [cellKeys_of, hF.hnames]; exact hc) (fun _ hp => hp) (by rw [← eC]; exact hapart)
    have low : ∀ p ∈ cellLed (cellsFrom (s₁.heap.objs.size + 1) fd.scope.names []) ci, s₁.heap.objs.size < p.1 := fun p hp => by
      obtain ⟨⟨n, hn⟩, _⟩ := l2 p hp
      have := habove n p.1 (by rw [eC]; exact hn)
      rw [eL] at this; exact this
    refine N₁.more _ hkeep ?_ ?_ ?_
    · show (s₁.heap.objs.size :: (cellLed (cellsFrom (s₁.heap.objs.size + 1) fd.scope.names []) ci).map (·.1)).Nodup
      refine List.nodup_cons.mpr ⟨fun q => ?_, l1⟩
      (refine PL.x1_1 (List.mem_map.mp q) ?_; rintro p hp e)
      exact Nat.lt_irrefl _ (e ▸ low p hp)
    · intro p hp
      rcases List.mem_cons.mp hp with rfl | hp
      · exact Heap.get?_none_of_le (Nat.le_refl _)
      · exact Heap.get?_none_of_le (Nat.le_of_lt (low p hp))
    · intro p hp
      rcases List.mem_cons.mp hp with rfl | hp
      · refine (PL.m1_1 _ (by rw [← eL]; exact hns) (fun x k a q => ?_))
        obtain ⟨rfl, hx⟩ := hi.look q
        exact BRel.bindL hbs hnd hx (hE.kindOf q.kind)
      · exact (l2 p hp).2
  have go := hbody s₁.heap.objs.size (cellsFrom (s₁.heap.objs.size + 1) fd.scope.names []) env (A.deeper env) (by rw [cellKeys_of, hF.hnames]; rfl) hE rfl (by subst he; rfl) (by subst he; rfl) _ N₂
  refine ⟨hF.nolimit.keeps N₂.keep, codeAny_func ?_⟩
  refine wpAny_mono go (fun fl s₃ ⟨a, l₂, ha, N₃, l₃, hs, hr⟩ => ?_) (fun e s₃ ⟨ex, l₂, he, N₃, hlv⟩ => by
    subst he
    exact wpAny_mono (hlv s₃ N₃) (fun _ s₄ ⟨_, l₃, _, N₄, l₄, hs, hX⟩ => ⟨ex, l₄, rfl, N₄.sub hs, hX⟩) fun _ _ ⟨_, _, _, _, h⟩ => h.elim)
  cases a with
  | next => cases ha; exact ⟨.none, l₃, rfl, N₃.sub hs, hr⟩
  | brk => cases ha; exact ⟨.none, l₃, rfl, N₃.sub hs, hr⟩
  | cont => cases ha; exact ⟨.none, l₃, rfl, N₃.sub hs, hr⟩
  | ret v => (revert ha; refine PL.j1_1 ?_; rintro u rfl hu); exact ⟨v, l₃, hu, N₃.sub hs, hr⟩
theorem CC.fn {f : Addr} {fd : FuncData} {body : List Stmt} {names : List (Str × NameKind)} {args : List AV} (hF : FnOk G f fd body names) (hroom : A.depth < recursionLimit)
    (hbind : ∀ vs, AllIs args vs → Tr G A.in1 (bindArgs fd ⟨vs, []⟩) BRel l (fun bs l₁ => (bs.map fun p => p.1).Nodup ∧ BKind names bs ∧ ∃ vals ci, Init bs names vals ∧ CInit bs (cellKeys names []) ci ∧
      ∀ L cl env A', cl.map (fun p : Str × Addr => p.1) = cellKeys names [] → EnvOk env names L cl → A' = A.deeper env → env.code = fd.code → env.frame = some L → BB G A' env body ((L, .ns names vals) :: (cellLed cl ci ++ l₁)) (fun fl l₂ => ∃ l₃, Sub l₃ l₂ ∧ R (retOf fl) l₃) noX) X) :
    CC G A (.ref f) args l R X := CC.ofK (CK.fnX hF hroom fun vs hvs => (hbind vs hvs).mono (fun bs l₁ ⟨h1, h2, vals, ci, h3, h4, h5⟩ => ⟨h1, h2, vals, ci, h3, h4, fun L cl env A' a b c d e => Tr.mono (h5 L cl env A' a b c d e) (fun _ _ h => h) fun _ _ h => h.elim⟩) fun _ _ h => h)
end
end PL
end
section
open PySem PySem.Calls PyProof.Rows PySem.W
set_option autoImplicit false
set_option linter.unusedVariables false
namespace PL

noncomputable def OX : Option AV → Option Value → Prop
  | .none, v => v = .none
  | .some a, v => ∃ u, v = some u ∧ a.Is u
/-- the next one -/
noncomputable def Nx (G : Gd) (A : Around) (it : AV) (l : Led) (R : Option AV → Led → Prop) (X : Xp) : Prop := ∀ v, it.Is v → Tr G A (pyNext v) OX l R X
/-- what a for lets go ahead of its target -/
noncomputable def LG (G : Gd) (A : Around) (target : Expr) (it a : AV) (l : Led) (R : Led → Prop) (X : Xp) : Prop := ∀ v u, it.Is v → a.Is u → Tr G A (letOwnedTupleGo target v u) (fun (_ _ : Unit) => True) l (fun _ l' => R l') X

structure Walk (G : Gd) (A : Around) (it : AV) (n : Nat) (F : Nat → Led) (Fm : Nat → AV → Led) (Fe : Led) (P : Nat → AV → Led → Prop) (T : Expr → Prop) : Prop where
  next : ∀ k L R X, k < n → (∀ a E, P k a E → R (some a) (E ++ (Fm (k + 1) a ++ L))) → Nx G A it (F k ++ L) R X
  go : ∀ k L a E target R X, T target → P k a E → R (E ++ (F (k + 1) ++ L)) → LG G A target it a (E ++ (Fm (k + 1) a ++ L)) R X
  stop : ∀ L R X, R none (Fe ++ L) → Nx G A it (F n ++ L) R X
  again : ∀ L R X, R it (F 0 ++ L) → Op1 G A pyIter it (F 0 ++ L) R X

noncomputable def IsName : Expr → Prop
  | .Name .. => True
  | _ => False
noncomputable def NameOrTuple : Expr → Prop
  | .Name .. => True
  | .Tuple .. => True
  | _ => False

section
variable {G : Gd} {A : Around} {env : Env} {l l' : Led} {X : Xp}

theorem walk_list {it p : Addr} {xs : List AV} (hh : A.handled = none) : Walk G A (.ref it) xs.length (fun k => [(it, .listiter p k), (p, .list xs)]) (fun k _ => [(it, .listiter p k), (p, .list xs)]) [(p, .list xs)] (fun k a E => xs[k]? = some a ∧ E = []) NameOrTuple where
  next k L R X hk h v hv s N := by
    cases hv
    have hit : s.heap.IsListIter it p k := N.at (ao := .listiter p k) .head
    (refine PL.x1_1 (N.at (ao := .list xs) (.tail .head)) ?_; rintro vs hl ha)
    obtain ⟨a, hxa⟩ : ∃ a, xs[k]? = some a := ⟨xs[k], List.getElem?_eq_getElem hk⟩
    (refine PL.x1_1 (ha.get hxa) ?_; rintro b hb hab)
    exact wpAny_pyNext_list_item hit hl.isList (by rw [← Array.getElem?_toList]; exact hb) fun h' hit' hs' => ⟨some a, _, (PL.m1_1 b rfl hab), N.upd (tk := s.toks) (ao' := .listiter p (k + 1)) .head hs'.extBut hit', h a [] ⟨hxa, rfl⟩⟩
  go k L a E target R X ht hp h v u hv hu s N := by
    obtain ⟨_, rfl⟩ := hp
    cases hv
    cases target with
    | Name => exact wpAny_pure ⟨(), _, trivial, N, h⟩
    | Tuple elts n pos =>
      have hit : s.heap.IsListIter it p (k + 1) := N.at (ao := .listiter p (k + 1)) .head
      cases u with
      | ref a' => exact wpAny_letOwnedTupleGo_listiter hit ⟨(), _, trivial, N, h⟩
      | _ => exact wpAny_pure ⟨(), _, trivial, N, h⟩
    | _ => cases ht
  stop L R X h v hv s N := by
    cases hv
    have hit : s.heap.IsListIter it p xs.length := N.at (ao := .listiter p xs.length) .head
    (refine PL.x1_1 (N.at (ao := .list xs) (.tail .head)) ?_; rintro vs hl ha)
    refine wpAny_pyNext_list_end hh hit hl.isList (by rw [← Array.getElem?_toList]; exact ha.none (by simp)) fun h' hs' => ⟨none, _, rfl, ?_, h⟩
    have N₁ := N.sub (l' := (p, .list xs) :: L) .tail
    exact ⟨fun b o e => hs' b o (fun q => by have := N.fresh (a := it) .head; rw [q] at e; rw [this] at e; cases e) (N.keep b o e), N₁.nodup, fun q hq => ⟨(N₁.has q hq).1, (N₁.has q hq).2.keep fun o e => hs' _ _ (N.ne .head q hq) e⟩, N.gens, N.os⟩
  again L R X h v hv s N := by
    cases hv
    have hit : s.heap.IsListIter it p 0 := N.at (ao := .listiter p 0) .head
    exact wpAny_pyIter_listiter hit ⟨.ref it, _, rfl, N, h⟩
theorem iter_list {p : Addr} {xs : List AV} {R : AV → Led → Prop} (hp : Pick (p, .list xs) l l') (h : ∀ it, R (.ref it) ([(it, .listiter p 0), (p, .list xs)] ++ l')) : Op1 G A pyIter (.ref p) l R X := fun v hv s N => by
  cases hv
  (refine PL.x1_1 (N.at hp) ?_; rintro vs hl ha)
  refine wpAny_pyIter_list hl.isList ⟨.ref s.heap.objs.size, _, rfl, (N.push (ao := .listiter p 0) rfl (PL.m1_2 _ (Heap.get?_push_size _ rfl) rfl rfl)).sub (.keep (.perm hp.perm)), h _⟩

theorem walk_tuple {it p : Addr} {xs : List AV} (hh : A.handled = none) : Walk G A (.ref it) xs.length (fun k => [(it, .tupiter p k), (p, .tuple xs)]) (fun k _ => [(it, .tupiter p k), (p, .tuple xs)]) [(p, .tuple xs)] (fun k a E => xs[k]? = some a ∧ E = []) IsName where
  next k L R X hk h v hv s N := by
    cases hv
    have hit : s.heap.IsTupleIter it p k := N.at (ao := .tupiter p k) .head
    (refine PL.x1_1 (N.at (ao := .tuple xs) (.tail .head)) ?_; rintro vs hl ha)
    obtain ⟨a, hxa⟩ : ∃ a, xs[k]? = some a := ⟨xs[k], List.getElem?_eq_getElem hk⟩
    (refine PL.x1_1 (ha.get hxa) ?_; rintro b hb hab)
    exact wpAny_pyNext_tuple_item hit (items := vs.toArray) ⟨_, hl, rfl, _, rfl⟩ (by simpa using hb) fun h' hit' hs' => ⟨some a, _, (PL.m1_1 b rfl hab), N.upd (tk := s.toks) (ao' := .tupiter p (k + 1)) .head hs'.extBut hit', h a [] ⟨hxa, rfl⟩⟩
  go k L a E target R X ht hp h v u hv hu s N := by
    obtain ⟨_, rfl⟩ := hp
    cases target with
    | Name => exact wpAny_pure ⟨(), _, trivial, N, h⟩
    | _ => cases ht
  stop L R X h v hv s N := by
    cases hv
    have hit : s.heap.IsTupleIter it p xs.length := N.at (ao := .tupiter p xs.length) .head
    (refine PL.x1_1 (N.at (ao := .tuple xs) (.tail .head)) ?_; rintro vs hl ha)
    refine wpAny_pyNext_tuple_end hh hit (items := vs.toArray) ⟨_, hl, rfl, _, rfl⟩ (by have := ha.none (i := xs.length) (by simp); simpa using this) fun h' hs' => ⟨none, _, rfl, ?_, h⟩
    have N₁ := N.sub (l' := (p, .tuple xs) :: L) .tail
    exact ⟨fun b o e => hs' b o (fun q => by have := N.fresh (a := it) .head; rw [q] at e; rw [this] at e; cases e) (N.keep b o e), N₁.nodup, fun q hq => ⟨(N₁.has q hq).1, (N₁.has q hq).2.keep fun o e => hs' _ _ (N.ne .head q hq) e⟩, N.gens, N.os⟩
  again L R X h v hv s N := by
    cases hv
    have hit : s.heap.IsTupleIter it p 0 := N.at (ao := .tupiter p 0) .head
    exact wpAny_pyIter_tupleiter hit ⟨.ref it, _, rfl, N, h⟩
theorem iter_tuple {p : Addr} {xs : List AV} {R : AV → Led → Prop} (hp : Pick (p, .tuple xs) l l') (h : ∀ it, R (.ref it) ([(it, .tupiter p 0), (p, .tuple xs)] ++ l')) : Op1 G A pyIter (.ref p) l R X := fun v hv s N => by
  cases hv
  (refine PL.x1_1 (N.at hp) ?_; rintro vs hl ha)
  refine wpAny_pyIter_tuple (items := vs.toArray) ⟨_, hl, rfl, _, rfl⟩ ⟨.ref s.heap.objs.size, _, rfl, (N.push (ao := .tupiter p 0) rfl (PL.m1_2 _ (Heap.get?_push_size _ rfl) rfl rfl)).sub (.keep (.perm hp.perm)), h _⟩

theorem walk_range {it : Addr} {a : Int} {n : Nat} (hh : A.handled = none) : Walk G A (.ref it) n (fun k => [(it, .rangeiter (a + (k : Int)) ((n : Int) - (k : Int)) 1)]) (fun k _ => [(it, .rangeiter (a + (k : Int)) ((n : Int) - (k : Int)) 1)]) [] (fun k v E => v = .int (a + (k : Int)) ∧ E = []) IsName where
  next k L R X hk h v hv s N := by
    cases hv
    have hit : IsRangeIter s.heap it (a + (k : Int)) ((n : Int) - (k : Int)) 1 := N.at (ao := .rangeiter (a + (k : Int)) ((n : Int) - (k : Int)) 1) .head
    refine wpAny_pyNext_range_item hit (by omega) fun h' hit' hs' => ⟨some (.int (a + (k : Int))), _, ⟨_, rfl, _, rfl⟩, N.upd (ao' := .rangeiter (a + ((k + 1 : Nat) : Int)) ((n : Int) - ((k + 1 : Nat) : Int)) 1) .head hs'.extBut ?_, h _ [] ⟨rfl, rfl⟩⟩
    show IsRangeIter h' it _ _ 1
    rw [show a + ((k + 1 : Nat) : Int) = a + (k : Int) + 1 by omega, show (n : Int) - ((k + 1 : Nat) : Int) = (n : Int) - (k : Int) - 1 by omega]
    exact hit'
  go k L a' E target R X ht hp h v u hv hu s N := by
    obtain ⟨_, rfl⟩ := hp
    cases target with
    | Name => exact wpAny_pure ⟨(), _, trivial, N, h⟩
    | _ => cases ht
  stop L R X h v hv s N := by
    cases hv
    have hit : IsRangeIter s.heap it (a + (n : Int)) ((n : Int) - (n : Int)) 1 := N.at (ao := .rangeiter (a + (n : Int)) ((n : Int) - (n : Int)) 1) .head
    refine wpAny_pyNext_range_end hh hit (by omega) fun h' hs' => ⟨none, _, rfl, ?_, h⟩
    have N₁ := N.sub (l' := L) .tail
    exact ⟨fun b o e => hs' b o (fun q => by have := N.fresh (a := it) .head; rw [q] at e; rw [this] at e; cases e) (N.keep b o e), N₁.nodup, fun q hq => ⟨(N₁.has q hq).1, (N₁.has q hq).2.keep fun o e => hs' _ _ (N.ne .head q hq) e⟩, N.gens, N.os⟩
  again L R X h v hv s N := by
    cases hv
    have hit : IsRangeIter s.heap it (a + ((0 : Nat) : Int)) ((n : Int) - ((0 : Nat) : Int)) 1 := N.at (ao := .rangeiter (a + ((0 : Nat) : Int)) ((n : Int) - ((0 : Nat) : Int)) 1) .head
    exact wpAny_pyIter_rangeiter hit ⟨.ref it, _, rfl, N, h⟩

/-! loops -/
noncomputable def LoopK (n : Nat) (J : Nat → Led → Prop) (R : AF → Led → Prop) : AF → Led → Prop
  | .next, l => ∃ m l', m < n ∧ Sub l' l ∧ J m l'
  | .cont, l => ∃ m l', m < n ∧ Sub l' l ∧ J m l'
  | .brk, l => R .next l
  | .ret v, l => R (.ret v) l

theorem SS.while {test : Expr} {body orelse : List Stmt} {pos : Pos} {R : AF → Led → Prop} (n : Nat) (J : Nat → Led → Prop) (h0 : J n l)
    (turn : ∀ n l, J n l → TT G A env test l (fun b l₁ => (b = true → BB G A env body l₁ (LoopK n J R) noX) ∧ (b = false → BB G A env orelse l₁ R noX)) noX) : SS G A env (.While test body orelse pos) l R X := fun s N => by
  refine wpAny_While (codeAny_whileLoop (fun n s => ∃ l, Rep G s l ∧ J n l) (fun n s ⟨l, N, hJ⟩ => ?_) n (PL.m1_1 l N h0))
  refine wpAny_mono (turn n l hJ s N) (fun b s₁ ⟨c, l₁, hb, N₁, h₁, h₂⟩ => ?_) (fun _ _ ⟨_, _, _, _, h⟩ => h.elim)
  subst hb
  cases b with
  | true =>
    simp only [if_true]
    refine wpAny_mono (h₁ rfl s₁ N₁) (fun f s₂ ⟨a, l₂, ha, N₂, h₃⟩ => ?_) (fun _ _ ⟨_, _, _, _, h⟩ => h.elim)
    cases a with
    | next => cases ha; (revert h₃; refine PL.j2_2 ?_; rintro m l' hm hs hJ'); exact ⟨m, hm, l', N₂.sub hs, hJ'⟩
    | cont => cases ha; (revert h₃; refine PL.j2_2 ?_; rintro m l' hm hs hJ'); exact ⟨m, hm, l', N₂.sub hs, hJ'⟩
    | brk => cases ha; exact ⟨.next, l₂, rfl, N₂, h₃⟩
    | ret v => (revert ha; refine PL.j1_1 ?_; rintro u rfl hu); exact ⟨.ret v, l₂, (PL.m1_1 u rfl hu), N₂, h₃⟩
  | false =>
    simp only [Bool.false_eq_true, if_false]
    exact wpAny_mono (h₂ rfl s₁ N₁) (fun f s₂ h => h) (fun _ _ ⟨_, _, _, _, h⟩ => h.elim)

/-- the turn's end of a for: the walk's part, the rest -/
noncomputable def ForK (F : Led) (J : Led → Prop) (R : AF → Led → Prop) : AF → Led → Prop
  | .next, l => ∃ L, Sub (F ++ L) l ∧ J L
  | .cont, l => ∃ L, Sub (F ++ L) l ∧ J L
  | .brk, l => R .next l
  | .ret v, l => R (.ret v) l
theorem SS.for {target iter : Expr} {body : List Stmt} {pos : Pos} {R : AF → Led → Prop}
    (h : EE G A env iter l (fun x l₁ => Op1 G A pyIter x l₁ (fun it l₂ => ∃ n F Fm Fe P T L₀, Walk G A it n F Fm Fe P T ∧ T target ∧ Sub (F 0 ++ L₀) l₂ ∧ ∃ J : Nat → Led → Prop, J 0 L₀ ∧
      (∀ k a E L, k < n → P k a E → J k L → Asg G A env target a (E ++ (F (k + 1) ++ L)) (fun l₃ => BB G A env body l₃ (ForK (F (k + 1)) (J (k + 1)) R) noX) noX) ∧
      (∀ L, J n L → R .next (Fe ++ L))) X) X)
    (hs : ∀ x, foldedSetIterable iter env x = pure x := by intro _; with_unfolding_all rfl) : SS G A env (.For target iter body [] pos) l R X := fun s N => by
  refine wpAny_For (wpAny_mono (h s N) (fun v s₁ ⟨x, l₁, hx, N₁, h₁⟩ => wpAny_mono (h₁ v hx s₁ N₁) (fun iv s₂ hp5 => ?_) fun _ _ y => y) fun _ _ y => y) hs
  obtain ⟨it, l₂, hit, N₂, h5⟩ := hp5
  (refine PL.x7_3 h5 ?_; rintro n F Fm Fe P T L₀ W hT hsub h6)
  (refine PL.x1_2 h6 ?_; rintro J hJ0 turn fin)
  refine codeAny_forLoop_any (fun m s => ∃ k L, m = n - k ∧ k ≤ n ∧ Rep G s (F k ++ L) ∧ J k L) (fun m s ⟨k, L, hm, hk, N, hJ⟩ => ?_) n (PL.m2_3 0 L₀ (by omega) (Nat.zero_le _) (N₂.sub hsub) hJ0)
  by_cases hlt : k < n
  · refine wpAny_mono (W.next k L (fun o l => ∃ a E, o = some a ∧ P k a E ∧ l = E ++ (Fm (k + 1) a ++ L)) noX hlt (fun a E hp => (PL.m2_2 a E rfl hp rfl)) iv hit s N) (fun r s₁ ⟨o, l₁, ho, N₁, a, E, e, hp, el⟩ => ?_) (fun _ _ ⟨_, _, _, _, h⟩ => h.elim)
    subst e el
    (revert ho; refine PL.j1_1 ?_; rintro u rfl hu)
    refine wpAny_mono (W.go k L a E target (fun l => l = E ++ (F (k + 1) ++ L)) noX hT hp rfl iv u hit hu s₁ N₁) (fun _ s₂ ⟨_, l₂, _, N₂, e⟩ => ?_) (fun _ _ ⟨_, _, _, _, h⟩ => h.elim)
    subst e
    refine wpAny_mono (turn k a E L hlt hp hJ u hu s₂ N₂) (fun _ s₃ ⟨_, l₃, _, N₃, h₃⟩ => ?_) (fun _ _ ⟨_, _, _, _, h⟩ => h.elim)
    refine wpAny_mono (h₃ s₃ N₃) (fun f s₄ ⟨b, l₄, hb, N₄, h₄⟩ => ?_) (fun _ _ ⟨_, _, _, _, h⟩ => h.elim)
    cases b with
    | next => cases hb; (revert h₄; refine PL.j1_1 ?_; rintro L' hs hJ'); exact ⟨n - (k + 1), by omega, k + 1, L', rfl, hlt, N₄.sub hs, hJ'⟩
    | cont => cases hb; (revert h₄; refine PL.j1_1 ?_; rintro L' hs hJ'); exact ⟨n - (k + 1), by omega, k + 1, L', rfl, hlt, N₄.sub hs, hJ'⟩
    | brk => cases hb; exact ⟨.next, l₄, rfl, N₄, h₄⟩
    | ret v => (revert hb; refine PL.j1_1 ?_; rintro u rfl hu); exact ⟨.ret v, l₄, (PL.m1_1 u rfl hu), N₄, h₄⟩
  · have : k = n := by omega
    subst this
    refine wpAny_mono (W.stop L (fun o l => o = none ∧ l = Fe ++ L) noX ⟨rfl, rfl⟩ iv hit s N) (fun r s₁ ⟨o, l₁, ho, N₁, e, el⟩ => ?_) (fun _ _ ⟨_, _, _, _, h⟩ => h.elim)
    subst e el
    cases ho
    exact wpAny_execs_nil ⟨.next, _, rfl, N₁, fin L hJ⟩
end
end PL
end
section
open PySem PySem.Calls PyProof.Rows PySem.W
set_option autoImplicit false
set_option linter.unusedVariables false
namespace PL
theorem lookup_zip {x : Str} : ∀ {xs : List Str} {vs : List Value}, xs.length ≤ vs.length → x ∈ xs → ((xs.zip vs).lookup x).isSome = true
  | y :: ys, v :: vs, hl, h => by
    rw [List.zip_cons_cons, List.lookup_cons]
    cases hxy : x == y with
    | true => rfl
    | false =>
      rcases List.mem_cons.mp h with rfl | h
      · simp at hxy
      · exact lookup_zip (by simpa using hl) h
theorem zip_again : ∀ {xs : List Str} {vs : List Value}, xs.Nodup → xs.length ≤ vs.length → (xs.filterMap fun n => ((xs.zip vs).lookup n).map (n, ·)) = xs.zip vs
  | [], _, _, _ => rfl
  | x :: xs, v :: vs, hn, hl => by
    rw [List.nodup_cons] at hn
    have ih := zip_again (vs := vs) hn.2 (by simpa using hl)
    rw [List.filterMap_cons]
    simp only [List.zip_cons_cons, List.lookup_cons, beq_self_eq_true, Option.map_some]
    congr 1
    refine Eq.trans ?_ ih
    have go : ∀ ys : List Str, x ∉ ys → (ys.filterMap fun n => (match n == x with | true => some v | false => (xs.zip vs).lookup n).map (n, ·)) = ys.filterMap fun n => ((xs.zip vs).lookup n).map (n, ·) := by
      intro ys
      induction ys with
      | nil => intro _; rfl
      | cons y ys ih' =>
        intro hy
        rw [List.mem_cons, not_or] at hy
        have : (y == x) = false := beq_eq_false_iff_ne.mpr fun e => hy.1 e.symm
        rw [List.filterMap_cons, List.filterMap_cons, ih' hy.2, this]
    exact go xs hn.1
theorem no_missing {xs : List Str} {vs : List Value} (hl : xs.length ≤ vs.length) (n : Nat) : (xs.take n).filter (fun n => ((xs.zip vs).lookup n).isNone) = [] := by
  rw [List.filter_eq_nil_iff]
  intro x hx
  have := lookup_zip hl (List.mem_of_mem_take hx)
  rw [Option.isSome_iff_exists] at this
  obtain ⟨v, hv⟩ := this
  rw [hv]; simp
theorem bind_eq {fd : FuncData} {xs : List Str} {vs : List Value} (h1 : fd.params.posonlyargs = []) (h2 : fd.params.args.map (·.arg) = xs) (h3 : fd.params.kwonlyargs = []) (h4 : fd.params.vararg = none) (h5 : fd.params.kwarg = none) (h6 : fd.defaults = .none)
    (hn : xs.Nodup) (hl : vs.length = xs.length) : bindArgs fd ⟨vs, []⟩ = pure (xs.zip vs) := by
  have e := no_missing (xs := xs) (vs := vs) (by omega)
  have hz := zip_again (xs := xs) (vs := vs) hn (by omega)
  have hs : seqItems? .none = (pure none : Sem _) := rfl
  have pb : ∀ {α β : Type} (a : α) (f : α → Sem β), ((pure a : Sem α) >>= f) = f a := fun _ _ => rfl
  have hl' : ¬ vs.length > xs.length := by omega
  unfold bindArgs
  simp only [h1, h2, h3, h4, h5, h6, List.map_nil, List.nil_append, List.append_nil, hs, pb, List.forIn_nil, hl', if_false, Option.getD_none, List.drop_nil, List.zip_nil_right, e, List.isEmpty_nil, Bool.not_true, Bool.false_eq_true, hz, List.filter_nil, List.length_nil]
  rfl
theorem bind_var {fd : FuncData} {xs : List Str} {vs : List Value} {a : Arg} (h1 : fd.params.posonlyargs = []) (h2 : fd.params.args.map (·.arg) = xs) (h3 : fd.params.kwonlyargs = []) (h4 : fd.params.vararg = some a) (h5 : fd.params.kwarg = none) (h6 : fd.defaults = .none)
    (hn : xs.Nodup) (hl : xs.length ≤ vs.length) : bindArgs fd ⟨vs, []⟩ = (do let t ← newTuple (vs.drop xs.length); pure (xs.zip vs ++ [(a.arg, t)])) := by
  have e := no_missing (xs := xs) (vs := vs) hl
  have hz := zip_again (xs := xs) (vs := vs) hn hl
  have hs : seqItems? .none = (pure none : Sem _) := rfl
  have pb : ∀ {α β : Type} (a : α) (f : α → Sem β), ((pure a : Sem α) >>= f) = f a := fun _ _ => rfl
  unfold bindArgs
  simp only [h1, h2, h3, h4, h5, h6, List.map_nil, List.nil_append, List.append_nil, hs, pb, List.forIn_nil, if_false, Option.getD_none, List.drop_nil, List.zip_nil_right, e, List.isEmpty_nil, Bool.not_true, Bool.false_eq_true, hz, List.filter_nil, List.length_nil, Option.isNone_some, Bool.and_false]
structure PlainBind (fd : FuncData) (xs : List Str) (va : Option Str) : Prop where
  h1 : fd.params.posonlyargs = []
  h2 : fd.params.args.map (·.arg) = xs
  h3 : fd.params.kwonlyargs = []
  h4 : fd.params.vararg.map (·.arg) = va
  h5 : fd.params.kwarg = none
  h6 : fd.defaults = .none
  hn : xs.Nodup
structure Room (A : Around) (n : Nat) : Prop where
  h : A.handled = none
  d : A.depth + n < recursionLimit
  u : A.units + 3 * n + 200 < cLine
theorem Room.deeper {A : Around} {n : Nat} {env : Env} (r : Room A (n + 1)) : Room (A.deeper env) n := ⟨r.h, by have := r.d; show A.depth + 1 + n < _; omega, by have := r.u; show A.units + 3 + 3 * n + 200 < _; omega⟩
theorem Room.le {A : Around} {n m : Nat} (r : Room A n) (h : m ≤ n) : Room A m := ⟨r.h, by have := r.d; omega, by have := r.u; omega⟩
theorem Room.call {A : Around} {n : Nat} (r : Room A n) : A.depth < recursionLimit := by have := r.d; omega
section
variable {G : Gd} {A : Around} {l l' : Led} {X : Xp} {R : AV → Led → Prop}
inductive Zip : List Str → List AV → List Bind → Prop
  | nil : Zip [] [] []
  | cons {x : Str} {a : AV} {xs : List Str} {as : List AV} {bs : List Bind} : Zip xs as bs → Zip (x :: xs) (a :: as) ((x, a) :: bs)
theorem Zip.zip {xs : List Str} {as : List AV} {bs : List Bind} (h : Zip xs as bs) : xs.zip as = bs ∧ xs.length = as.length := by
  induction h with
  | nil => exact ⟨rfl, rfl⟩
  | cons _ ih => exact ⟨by rw [List.zip_cons_cons, ih.1], by simp [ih.2]⟩
structure InFr (A A' : Around) (env : Env) (code : Value) (L : Addr) : Prop where
  code : env.code = code
  frame : env.frame = some L
  deeper : A' = A.deeper env
/-- a call of a plain def: its arguments are its first names -/
theorem CC.def {f : Addr} {fd : FuncData} {body : List Stmt} {names : List (Str × NameKind)} {args : List AV} {bs : List Bind} {n : Nat} (hF : FnOk G f fd body names) (hroom : Room A (n + 1)) (xs ck : List Str) {vals ci : List (Option AV)}
    (hl : Zip xs args bs) (hb : PlainBind fd xs none) (hck : cellKeys names [] = ck) (hk : BKind names bs) (hi : Init bs names vals) (hc : CInit bs ck ci)
    (h : ∀ L cl env A', cl.map (fun p : Str × Addr => p.1) = ck → EnvOk env names L cl → Room A' n → InFr A A' env fd.code L → BB G A' env body ((L, .ns names vals) :: (cellLed cl ci ++ l)) (fun fl l₂ => ∃ l₃, Sub l₃ l₂ ∧ R (retOf fl) l₃) noX) :
    CC G A (.ref f) args l R X := by
  obtain ⟨rfl, hl'⟩ := hl.zip
  subst hck
  refine CC.fn hF hroom.call (bind_plain (xs := xs) ⟨?_, hk, vals, ci, hi, hc, fun L cl env A' hcl hE hA h1 h2 => h L cl env A' hcl hE (by subst hA; exact hroom.deeper) ⟨h1, h2, hA⟩⟩ hl' (fun vs hvs => bind_eq hb.h1 hb.h2 hb.h3 (by have := hb.h4; simpa using this) hb.h5 hb.h6 hb.hn (by omega)))
  rw [List.map_fst_zip (by omega)]; exact hb.hn
theorem CC.def0 {f : Addr} {fd : FuncData} {body : List Stmt} {names : List (Str × NameKind)} {args : List AV} {bs : List Bind} {n : Nat} (hF : FnOk G f fd body names) (hroom : Room A (n + 1)) (xs : List Str) {vals : List (Option AV)}
    (hl : Zip xs args bs) (hb : PlainBind fd xs none) (hck : cellKeys names [] = []) (hk : BKind names bs) (hi : Init bs names vals) (hc : CInit bs [] [])
    (h : ∀ L  env A', EnvOk env names L [] → Room A' n → InFr A A' env fd.code L → BB G A' env body ((L, .ns names vals) :: l) (fun fl l₂ => ∃ l₃, Sub l₃ l₂ ∧ R (retOf fl) l₃) noX) :
    CC G A (.ref f) args l R X := by
  refine CC.def hF hroom xs _ hl hb hck hk hi hc fun L cl env A' hcl hE hr hx => ?_
  match cl, hcl with
  | [], hcl =>
    skip
    exact h L  env A' hE hr hx
theorem CC.def1 {f : Addr} {fd : FuncData} {body : List Stmt} {names : List (Str × NameKind)} {args : List AV} {bs : List Bind} {n : Nat} {k0 : Str} {o0 : Option AV} (hF : FnOk G f fd body names) (hroom : Room A (n + 1)) (xs : List Str) {vals : List (Option AV)}
    (hl : Zip xs args bs) (hb : PlainBind fd xs none) (hck : cellKeys names [] = [k0]) (hk : BKind names bs) (hi : Init bs names vals) (hc : CInit bs [k0] [o0])
    (h : ∀ L c0 env A', EnvOk env names L [(k0, c0)] → Room A' n → InFr A A' env fd.code L → BB G A' env body ((L, .ns names vals) :: (c0, .cell o0) :: l) (fun fl l₂ => ∃ l₃, Sub l₃ l₂ ∧ R (retOf fl) l₃) noX) :
    CC G A (.ref f) args l R X := by
  refine CC.def hF hroom xs _ hl hb hck hk hi hc fun L cl env A' hcl hE hr hx => ?_
  match cl, hcl with
  | [(_, c0)], hcl =>
    simp only [List.map_cons, List.map_nil, List.cons.injEq, and_true] at hcl
    subst hcl
    exact h L c0 env A' hE hr hx
theorem CC.def3 {f : Addr} {fd : FuncData} {body : List Stmt} {names : List (Str × NameKind)} {args : List AV} {bs : List Bind} {n : Nat} {k0 k1 k2 : Str} {o0 o1 o2 : Option AV} (hF : FnOk G f fd body names) (hroom : Room A (n + 1)) (xs : List Str) {vals : List (Option AV)}
    (hl : Zip xs args bs) (hb : PlainBind fd xs none) (hck : cellKeys names [] = [k0, k1, k2]) (hk : BKind names bs) (hi : Init bs names vals) (hc : CInit bs [k0, k1, k2] [o0, o1, o2])
    (h : ∀ L c0 c1 c2 env A', EnvOk env names L [(k0, c0), (k1, c1), (k2, c2)] → Room A' n → InFr A A' env fd.code L → BB G A' env body ((L, .ns names vals) :: (c0, .cell o0) :: (c1, .cell o1) :: (c2, .cell o2) :: l) (fun fl l₂ => ∃ l₃, Sub l₃ l₂ ∧ R (retOf fl) l₃) noX) :
    CC G A (.ref f) args l R X := by
  refine CC.def hF hroom xs _ hl hb hck hk hi hc fun L cl env A' hcl hE hr hx => ?_
  match cl, hcl with
  | [(_, c0), (_, c1), (_, c2)], hcl =>
    simp only [List.map_cons, List.map_nil, List.cons.injEq, and_true] at hcl
    (revert hcl; refine PL.j0_2 ?_; rintro rfl rfl rfl)
    exact h L c0 c1 c2 env A' hE hr hx
theorem Get.nat {p : Addr} {xs : List AV} {k : Nat} {a : AV} (hp : Pick (p, .list xs) l l') (hz : k < 1000000) (hx : xs[k]? = some a) (h : R a l) : Op2 G A getItem (.ref p) (.int k) l R X :=
  Get.list hp (by omega) (by omega) (by simpa using hx) h
theorem Get.strs {p : Addr} {xs : List Str} {k : Nat} {a : Str} (hp : Pick (p, .list (xs.map .str)) l l') (hz : xs.length < 1000000) (hx : xs[k]? = some a) (h : R (.str a) l) : Op2 G A getItem (.ref p) (.int k) l R X :=
  Get.nat hp (by have : k < xs.length := by rcases Nat.lt_or_ge k xs.length with h | h
                                            · exact h
                                            · rw [List.getElem?_eq_none h] at hx; cases hx
                 omega) (by rw [List.getElem?_map, hx]; rfl) h
theorem SetI.strs {p : Addr} {xs : List Str} {k : Nat} {a : Str} {R : Led → Prop} (hp : Pick (p, .list (xs.map .str)) l l') (hz : xs.length < 1000000) (hk : k < xs.length) (h : R ((p, .list ((xs.set k a).map .str)) :: l')) : SetI G A (.ref p) (.int k) (.str a) l R X :=
  SetI.list hp (by omega) (by omega) (by simpa using hk) (by rw [List.map_set] at h; simpa using h)
theorem set_same {α : Type} {xs : List α} {k : Nat} {a : α} (h : xs[k]? = some a) : xs.set k a = xs := by
  apply List.ext_getElem?
  intro i
  by_cases e : k = i
  · subst e
    rw [h, List.getElem?_set_self]
    rcases Nat.lt_or_ge k xs.length with h' | h'
    · exact h'
    · rw [List.getElem?_eq_none h'] at h; cases h
  · rw [List.getElem?_set_ne e]
theorem CC.sub {f : AV} {args : List AV} (hs : Sub l' l) (h : CC G A f args l' R X) : CC G A f args l R X := fun v vs hv hvs => Tr.sub hs (h v vs hv hvs)
theorem CC.pick {f : AV} {args : List AV} {q : Addr × AO} (hp : Pick q l l') (h : CC G A f args (q :: l') R X) : CC G A f args l R X := h.sub (.perm hp.perm)
end
/-- roads that meet -/
noncomputable def JoinK (Q : Led → Prop) (R : AF → Led → Prop) : AF → Led → Prop
  | .next, l => ∃ l', Sub l' l ∧ Q l'
  | f, l => R f l
section
variable {G : Gd} {A : Around} {env : Env} {l l' : Led} {X : Xp} {R : AF → Led → Prop}
theorem SS.join {st : Stmt} (Q : Led → Prop) (h : SS G A env st l (JoinK Q R) X) (hq : ∀ l, Q l → R .next l) : SS G A env st l R X := fun s N =>
  wpAny_mono (h s N) (fun f s₁ ⟨b, l₁, hb, N₁, h₁⟩ => by
    cases b with
    | next => (revert h₁; refine PL.j1_1 ?_; rintro l' hs hQ); exact ⟨.next, l', hb, N₁.sub hs, hq _ hQ⟩
    | brk => exact ⟨.brk, l₁, hb, N₁, h₁⟩
    | cont => exact ⟨.cont, l₁, hb, N₁, h₁⟩
    | ret v => exact ⟨.ret v, l₁, hb, N₁, h₁⟩) fun _ _ y => y
theorem JoinK.next {Q : Led → Prop} (hQ : Q l') (hs : Sub l' l) : JoinK Q R .next l := (PL.m1_1 l' hs hQ)
theorem JoinK.ret {Q : Led → Prop} {v : AV} (h : R (.ret v) l) : JoinK Q R (.ret v) l := h
theorem JoinK.brk {Q : Led → Prop} (h : R .brk l) : JoinK Q R .brk l := h
theorem JoinK.cont {Q : Led → Prop} (h : R .cont l) : JoinK Q R .cont l := h
theorem LoopK.next {n m : Nat} {J : Nat → Led → Prop} (hJ : J m l') (hm : m < n) (hs : Sub l' l) : LoopK n J R .next l := (PL.m2_2 m l' hm hs hJ)
theorem LoopK.cont {n m : Nat} {J : Nat → Led → Prop} (hJ : J m l') (hm : m < n) (hs : Sub l' l) : LoopK n J R .cont l := (PL.m2_2 m l' hm hs hJ)
theorem LoopK.brk {n : Nat} {J : Nat → Led → Prop} (h : R .next l) : LoopK n J R .brk l := h
theorem LoopK.ret {n : Nat} {J : Nat → Led → Prop} {v : AV} (h : R (.ret v) l) : LoopK n J R (.ret v) l := h
theorem ForK.next {F L : Led} {J : Led → Prop} (hJ : J L) (hs : Sub (F ++ L) l) : ForK F J R .next l := (PL.m1_1 L hs hJ)
theorem ForK.cont {F L : Led} {J : Led → Prop} (hJ : J L) (hs : Sub (F ++ L) l) : ForK F J R .cont l := (PL.m1_1 L hs hJ)
theorem ForK.brk {F : Led} {J : Led → Prop} (h : R .next l) : ForK F J R .brk l := h
theorem ForK.ret {F : Led} {J : Led → Prop} {v : AV} (h : R (.ret v) l) : ForK F J R (.ret v) l := h
theorem brT {p q P Q : Prop} (h : ¬ q) (x : P) : (p → P) ∧ (q → Q) := ⟨fun _ => x, fun e => absurd e h⟩
theorem brF {p q P Q : Prop} (h : ¬ p) (x : Q) : (p → P) ∧ (q → Q) := ⟨fun e => absurd e h, fun _ => x⟩
structure HJ (Q : Led → Prop) (R J : AF → Led → Prop) : Prop where
  next : ∀ {l l'}, Q l' → Sub l' l → J .next l
  ret : ∀ {v l}, R (.ret v) l → J (.ret v) l
  brk : ∀ {l}, R .brk l → J .brk l
  cont : ∀ {l}, R .cont l → J .cont l
theorem SS.joinH {st : Stmt} {R : AF → Led → Prop} (Q : Led → Prop) (h : ∀ J, HJ Q R J → SS G A env st l J X) (hq : ∀ l, Q l → R .next l) : SS G A env st l R X :=
  SS.join Q (h (JoinK Q R) ⟨JoinK.next, JoinK.ret, JoinK.brk, JoinK.cont⟩) hq
structure HL (I : Nat → Led → Prop) (R : AF → Led → Prop) (K : Nat → AF → Led → Prop) (E : AF → Led → Prop) : Prop where
  next : ∀ {n m l l'}, I m l' → m < n → Sub l' l → K n .next l
  cont : ∀ {n m l l'}, I m l' → m < n → Sub l' l → K n .cont l
  brk : ∀ {n l}, R .next l → K n .brk l
  ret : ∀ {n v l}, R (.ret v) l → K n (.ret v) l
  els : ∀ {f l}, R f l → E f l
theorem SS.whileH {test : Expr} {body orelse : List Stmt} {pos : Pos} {R : AF → Led → Prop} (n : Nat) (J : Nat → Led → Prop) (h0 : J n l)
    (turn : ∀ K E, HL J R K E → ∀ n l, J n l → TT G A env test l (fun b l₁ => (b = true → BB G A env body l₁ (K n) noX) ∧ (b = false → BB G A env orelse l₁ E noX)) noX) : SS G A env (.While test body orelse pos) l R X :=
  SS.while n J h0 (turn (fun n => LoopK n J R) R ⟨LoopK.next, LoopK.cont, LoopK.brk, LoopK.ret, id⟩)
structure HF (F : Nat → Led) (J : Nat → Led → Prop) (R : AF → Led → Prop) (K : Nat → AF → Led → Prop) : Prop where
  next : ∀ {k l L}, J k L → Sub (F k ++ L) l → K k .next l
  cont : ∀ {k l L}, J k L → Sub (F k ++ L) l → K k .cont l
  brk : ∀ {k l}, R .next l → K k .brk l
  ret : ∀ {k v l}, R (.ret v) l → K k (.ret v) l
theorem SS.forH {target iter : Expr} {body : List Stmt} {pos : Pos} {R : AF → Led → Prop}
    (h : EE G A env iter l (fun x l₁ => Op1 G A pyIter x l₁ (fun it l₂ => ∃ n F Fm Fe P T L₀, Walk G A it n F Fm Fe P T ∧ T target ∧ Sub (F 0 ++ L₀) l₂ ∧ ∃ J : Nat → Led → Prop, J 0 L₀ ∧
      (∀ K, HF F J R K → ∀ k a E L, k < n → P k a E → J k L → Asg G A env target a (E ++ (F (k + 1) ++ L)) (fun l₃ => BB G A env body l₃ (K (k + 1)) noX) noX) ∧
      (∀ L, J n L → R .next (Fe ++ L))) X) X)
    (hs : ∀ x, foldedSetIterable iter env x = pure x := by intro _; with_unfolding_all rfl) : SS G A env (.For target iter body [] pos) l R X :=
  SS.for (fun s N => wpAny_mono (h s N) (fun _ _ ⟨x, l₁, hx, N₁, h₁⟩ => ⟨x, l₁, hx, N₁, fun v hv s N => wpAny_mono (h₁ v hv s N) (fun _ _ hp5 => by
    obtain ⟨it, l₂, hit, N₂, h5⟩ := hp5
    (refine PL.x7_3 h5 ?_; rintro n F Fm Fe P T L₀ W hT hsub h6)
    (refine PL.x1_2 h6 ?_; rintro J hJ0 turn fin)
    exact ⟨it, l₂, hit, N₂, PL.m7_3 n F Fm Fe P T L₀ W hT hsub (PL.m1_2 J hJ0 (turn (fun k => ForK (F k) (J k) R) ⟨ForK.next, ForK.cont, ForK.brk, ForK.ret⟩) fin)⟩) fun _ _ y => y⟩) fun _ _ y => y) hs
theorem BB.sub {b : List Stmt} (hs : Sub l' l) (h : BB G A env b l' R X) : BB G A env b l R X := Tr.sub hs h
theorem EE.negc {i : Int} {k : Nat} {p pos : Pos} {R : AV → Led → Prop} (h : R (.int (-i)) l) : EE G A env (.UnaryOp .USub (.Constant (.int i) k p) pos) l R X := EE.neg (EE.int (PL.m1_1 i rfl h))
theorem EA.ex {e : Expr} {es : List Expr} {pos : Pos} {R : List AV → Led → Prop} (h : EE G A env e l (fun a l₁ => EA G A (backTo pos (starEach es env)) l₁ (fun as l₂ => R (a :: as) l₂) X) X) (hs : starEach (e :: es) env = (false, eval e env) :: starEach es env := by with_unfolding_all rfl) :
    EA G A (backTo pos (starEach (e :: es) env)) l R X := by
  rw [hs]; exact EA.cons h
theorem EA.nl {pos : Pos} {R : List AV → Led → Prop} (h : R [] l) : EA G A (backTo pos (starEach [] env)) l R X := EA.nil h
end
/-! the module's names -/
noncomputable def GlobT (mg mb : Str → Option Value) (gt : List (Str × AV)) : Prop := ∀ x a, LookT x a gt → ∃ v, a.Is v ∧ (mg x = some v ∨ (mg x = none ∧ mb x = some v))
theorem GlobT.nil {mg mb : Str → Option Value} : GlobT mg mb [] := fun x a q => by cases q
theorem GlobT.mod {K : Frag} {h : Heap} {mg mb : Str → Option Value} {x : Str} {v : Value} {a : AV} {gt : List (Str × AV)} (X : K.In h) (N : h.Ns mainGlobals mg) (e : nsIn K mainGlobals x = some (some v)) (ha : a.Is v) (r : GlobT mg mb gt) : GlobT mg mb ((x, a) :: gt) := fun y b q => by
  cases q with
  | here => exact (PL.m1_1 v ha (.inl (mg_of X N e)))
  | there q => exact r y b q
theorem GlobT.bi {K : Frag} {h : Heap} {mg mb : Str → Option Value} {x : Str} {v : Value} {a : AV} {gt : List (Str × AV)} (X : K.In h) (N : h.Ns mainGlobals mg) (hb : ∀ x : Str, x ≠ "__name__" → mb x = bootBuiltins x) (e : nsIn K mainGlobals x = some none) (ev : bootBuiltins x = some v) (hn : x ≠ "__name__") (ha : a.Is v) (r : GlobT mg mb gt) : GlobT mg mb ((x, a) :: gt) := fun y b q => by
  cases q with
  | here => exact (PL.m1_1 v ha (.inr ⟨mg_none_of X N e, (hb _ hn).trans ev⟩))
  | there q => exact r y b q
section
variable {G : Gd} {A : Around} {env : Env} {l l' : Led} {X : Xp} {R : AV → Led → Prop}
theorem CC.appends {p : Addr} {xs : List Str} {a : Str} (hp : Pick (p, .list (xs.map .str)) l l') (hz : xs.length < 1000000) (h : R .none ((p, .list ((xs ++ [a]).map .str)) :: l')) : CC G A (.lit (.builtin "list.append")) [.ref p, .str a] l R X :=
  CC.append hp (by simpa using hz) (by simpa using h)
theorem CC.pops {p : Addr} {xs : List Str} {a : Str} (hp : Pick (p, .list ((xs ++ [a]).map .str)) l l') (hz : xs.length < 1000000) (h : R (.str a) ((p, .list (xs.map .str)) :: l')) : CC G A (.lit (.builtin "list.pop")) [.ref p] l R X :=
  CC.pop (xs := xs.map .str) (a := .str a) (by simpa using hp) (by simpa using hz) h
theorem CC.lens {p : Addr} {xs : List Str} (hp : Pick (p, .list (xs.map .str)) l l') (hz : xs.length < 1000000) (h : R (.int xs.length) l) : CC G A (.lit (.builtin "len")) [.ref p] l R X :=
  CC.len_list hp (by simpa using hz) (by simpa using h)
theorem Truth.lists {R : Bool → Led → Prop} {p : Addr} {xs : List Str} (hp : Pick (p, .list (xs.map .str)) l l') (hz : xs.length < 1000000) (h : R (!xs.isEmpty) l) : Truth G A (.ref p) l R X :=
  Truth.list hp (by simpa using hz) (by simpa using h)
end
/-! one head alone: for the tactic's choice -/
section
variable {G : Gd} {A : Around} {env : Env} {l l' : Led} {X : Xp}
theorem hEE {e : Expr} {R : AV → Led → Prop} (h : EE G A env e l R X) : EE G A env e l R X := h
theorem hSS {e : Stmt} {R : AF → Led → Prop} (h : SS G A env e l R X) : SS G A env e l R X := h
theorem hBB {e : List Stmt} {R : AF → Led → Prop} (h : BB G A env e l R X) : BB G A env e l R X := h
theorem hTT {e : Expr} {R : Bool → Led → Prop} (h : TT G A env e l R X) : TT G A env e l R X := h
theorem hTr {α β : Type} {t : Sem α} {r : β → α → Prop} {R : β → Led → Prop} (h : Tr G A t r l R X) : Tr G A t r l R X := h
theorem hOp2 {f : Value → Value → Sem Value} {a b : AV} {R : AV → Led → Prop} (h : Op2 G A f a b l R X) : Op2 G A f a b l R X := h
theorem hThen {rest : List Stmt} {R : AF → Led → Prop} {f : AF} (h : Then G A env rest R X f l) : Then G A env rest R X f l := h
theorem hStN {x : Str} {a : AV} {R : Led → Prop} (h : StN G A env x a l R X) : StN G A env x a l R X := h
theorem hEA {ts : List (Bool × Sem Value)} {R : List AV → Led → Prop} (h : EA G A ts l R X) : EA G A ts l R X := h
end
end PL
end
section
open PySem PySem.Calls PyProof.Rows PySem.W
set_option autoImplicit false
set_option linter.unusedVariables false
namespace HP
variable {α : Type}
structure Ord (lt : α → α → Bool) : Prop where
  asymm : ∀ a b, lt a b = true → lt b a = false
  trans : ∀ a b c, lt b a = false → lt c b = false → lt c a = false
noncomputable def leO (lt : α → α → Bool) : Option α → Option α → Prop
  | some a, some b => lt b a = false
  | _, _ => True
theorem leO.noneR {lt : α → α → Bool} {o : Option α} : leO lt o none := by cases o <;> trivial
theorem leO.trans {lt : α → α → Bool} (O : Ord lt) {a c : Option α} {b : α} (h1 : leO lt a (some b)) (h2 : leO lt (some b) c) : leO lt a c := by
  cases a with
  | none => trivial
  | some a => cases c with
    | none => trivial
    | some c => exact O.trans a b c h1 h2
theorem leO.refl {lt : α → α → Bool} (O : Ord lt) (a : Option α) : leO lt a a := by
  cases a with
  | none => trivial
  | some a =>
    cases h : lt a a with
    | false => exact h
    | true => have := O.asymm a a h; rw [h] at this; cases this

noncomputable def Heap (lt : α → α → Bool) (g : List α) : Prop := ∀ i, 0 < i → leO lt g[(i - 1) / 2]? g[i]?
noncomputable def SInv (lt : α → α → Bool) (g : List α) (pos : Nat) : Prop := (∀ i, 0 < i → i ≠ pos → leO lt g[(i - 1) / 2]? g[i]?) ∧ (∀ i, 0 < i → (i - 1) / 2 = pos → 0 < pos → leO lt g[(pos - 1) / 2]? g[i]?)
noncomputable def UInv (lt : α → α → Bool) (g : List α) (pos : Nat) : Prop := (∀ i, 0 < i → i ≠ pos → (i - 1) / 2 ≠ pos → leO lt g[(i - 1) / 2]? g[i]?) ∧ (∀ i, 0 < i → (i - 1) / 2 = pos → 0 < pos → leO lt g[(pos - 1) / 2]? g[i]?)

theorem SInv.done0 {lt : α → α → Bool} {g : List α} (h : SInv lt g 0) : Heap lt g := fun i hi => h.1 i hi (by omega)
theorem SInv.done {lt : α → α → Bool} {g : List α} {pos : Nat} (h : SInv lt g pos) (hp : leO lt g[(pos - 1) / 2]? g[pos]?) : Heap lt g := fun i hi => by
  by_cases e : i = pos
  · rw [e]; exact hp
  · exact h.1 i hi e

theorem perm_cons_set {a b : α} : ∀ {ys : List α} {j : Nat}, ys[j]? = some b → (b :: ys.set j a).Perm (a :: ys)
  | y :: ys, 0, h => by
    have e : y = b := by simpa using h
    subst e
    exact .swap ..
  | y :: ys, j + 1, h => by
    have h' : ys[j]? = some b := by simpa using h
    have := perm_cons_set (a := a) h'
    refine (List.Perm.swap ..).trans ?_
    refine (this.cons y).trans (.swap ..)
theorem perm_swap {a b : α} : ∀ {xs : List α} {i j : Nat}, xs[j]? = some b → i < xs.length → i ≠ j → ((xs.set i b).set j a).Perm (xs.set i a)
  | x :: xs, 0, 0, h, hi, hij => absurd rfl hij
  | x :: xs, 0, j + 1, h, hi, hij => by
    have h' : xs[j]? = some b := by simpa using h
    simpa using perm_cons_set h'
  | x :: xs, i + 1, 0, h, hi, hij => by
    have e : x = b := by simpa using h
    subst e
    have hi' : i < xs.length := by simpa using hi
    show (a :: xs.set i x).Perm (x :: xs.set i a)
    obtain ⟨y, hy⟩ : ∃ y, (xs.set i x)[i]? = some y := ⟨x, by simp [hi']⟩
    have hx : (xs.set i x)[i]? = some x := by simp [hi']
    have := perm_cons_set (a := a) hx
    rw [List.set_set] at this
    exact this.symm
  | x :: xs, i + 1, j + 1, h, hi, hij => by
    have h' : xs[j]? = some b := by simpa using h
    simpa using (perm_swap (a := a) h' (by simpa using hi) (by omega)).cons x

/-- one step up the tree -/
theorem SInv.step {lt : α → α → Bool} (O : Ord lt) {xs : List α} {pos : Nat} {new p : α} (h : SInv lt (xs.set pos new) pos) (h0 : 0 < pos) (hl : pos < xs.length) (hp : xs[(pos - 1) / 2]? = some p) (hlt : lt new p = true) :
    SInv lt ((xs.set pos p).set ((pos - 1) / 2) new) ((pos - 1) / 2) := by
  generalize hq : (pos - 1) / 2 = q at *
  have hqp : q < pos := by omega
  have gq : (xs.set pos new)[q]? = some p := by rw [List.getElem?_set_ne (by omega)]; exact hp
  have at_q : ((xs.set pos p).set q new)[q]? = some new := by rw [List.getElem?_set_self (by rw [List.length_set]; omega)]
  have at_p : ((xs.set pos p).set q new)[pos]? = some p := by rw [List.getElem?_set_ne (by omega), List.getElem?_set_self hl]
  have at_o : ∀ i, i ≠ pos → i ≠ q → ((xs.set pos p).set q new)[i]? = (xs.set pos new)[i]? := fun i h1 h2 => by
    rw [List.getElem?_set_ne (by omega), List.getElem?_set_ne (by omega), List.getElem?_set_ne (by omega)]
  constructor
  · intro i hi hne
    by_cases e : i = pos
    · subst e; rw [hq, at_q, at_p]; exact O.asymm _ _ hlt
    · rw [at_o i e hne]
      by_cases e1 : (i - 1) / 2 = pos
      · rw [e1, at_p]
        have := h.2 i hi e1 h0
        rw [hq, gq] at this; exact this
      · by_cases e2 : (i - 1) / 2 = q
        · rw [e2, at_q]
          have h1 := h.1 i hi e
          rw [e2, gq] at h1
          exact leO.trans O (a := some new) (b := p) (O.asymm _ _ hlt) h1
        · rw [at_o _ e1 e2]; exact h.1 i hi e
  · intro i hi hpar hq0
    rw [at_o _ (by omega) (by omega)]
    have h1 := h.1 q hq0 (by omega)
    rw [gq] at h1
    by_cases e : i = pos
    · subst e; rw [at_p]; exact h1
    · rw [at_o i e (by omega)]
      have h2 := h.1 i hi e
      rw [hpar, gq] at h2
      exact leO.trans O h1 h2

/-- one step down -/
theorem UInv.step {lt : α → α → Bool} {xs : List α} {pos c : Nat} {b : α} (h : UInv lt xs pos) (hl : pos < xs.length) (hc : (c - 1) / 2 = pos) (hc0 : 0 < c) (hb : xs[c]? = some b)
    (hmin : ∀ i, 0 < i → (i - 1) / 2 = pos → leO lt (some b) xs[i]?) : UInv lt (xs.set pos b) c := by
  have at_p : (xs.set pos b)[pos]? = some b := by rw [List.getElem?_set_self hl]
  have at_o : ∀ i, i ≠ pos → (xs.set pos b)[i]? = xs[i]? := fun i h1 => by rw [List.getElem?_set_ne (by omega)]
  constructor
  · intro i hi hne hpar
    by_cases e : i = pos
    · subst e
      rw [at_p, at_o _ (by omega), ← hb]
      exact h.2 c hc0 hc hi
    · rw [at_o i e]
      by_cases e1 : (i - 1) / 2 = pos
      · rw [e1, at_p]; exact hmin i hi e1
      · rw [at_o _ e1]; exact h.1 i hi e e1
  · intro i hi hpar _
    rw [hc, at_p, at_o i (by omega), ← hb]
    have := h.1 i hi (by omega) (by omega)
    rw [hpar] at this; exact this
theorem UInv.done {lt : α → α → Bool} {xs : List α} {pos : Nat} {new : α} (h : UInv lt xs pos) (hl : pos < xs.length) (hn : xs.length ≤ 2 * pos + 1) : SInv lt (xs.set pos new) pos := by
  constructor
  · intro i hi hne
    by_cases e1 : (i - 1) / 2 = pos
    · rw [List.getElem?_eq_none (l := xs.set pos new) (i := i) (by rw [List.length_set]; omega)]; exact leO.noneR
    · rw [List.getElem?_set_ne (by omega), List.getElem?_set_ne (by omega)]; exact h.1 i hi hne e1
  · intro i hi hpar _
    rw [List.getElem?_eq_none (l := xs.set pos new) (i := i) (by rw [List.length_set]; omega)]; exact leO.noneR
theorem UInv.start {lt : α → α → Bool} {xs : List α} {a b : α} (h : Heap lt (xs ++ [b])) : UInv lt (xs.set 0 a) 0 := by
  constructor
  · intro i hi hne hpar
    rw [List.getElem?_set_ne (by omega), List.getElem?_set_ne (by omega)]
    have := h i hi
    by_cases e : i < xs.length
    · rw [List.getElem?_append_left (by omega), List.getElem?_append_left e] at this; exact this
    · rw [List.getElem?_eq_none (l := xs) (i := i) (by omega)]; exact leO.noneR
  · intro i hi hpar h0; omega
theorem SInv.push {lt : α → α → Bool} {xs : List α} {a : α} (h : Heap lt xs) : SInv lt (xs ++ [a]) xs.length := by
  constructor
  · intro i hi hne
    by_cases e : i < xs.length
    · rw [List.getElem?_append_left (by omega), List.getElem?_append_left e]; exact h i hi
    · rw [List.getElem?_eq_none (l := xs ++ [a]) (i := i) (by simp; omega)]; exact leO.noneR
  · intro i hi hpar h0
    rw [List.getElem?_eq_none (l := xs ++ [a]) (i := i) (by simp; omega)]; exact leO.noneR
theorem Heap.root {lt : α → α → Bool} (O : Ord lt) {g : List α} (h : Heap lt g) : ∀ i : Nat, leO lt g[0]? g[i]? := by
  intro i
  induction i using Nat.strongRecOn with
  | ind i ih =>
    by_cases e : i = 0
    · subst e; exact leO.refl O _
    · by_cases hi : i < g.length
      · have h1 := ih ((i - 1) / 2) (by omega)
        have h2 := h i (by omega)
        obtain ⟨b, hb⟩ : ∃ b, g[(i - 1) / 2]? = some b := ⟨_, List.getElem?_eq_getElem (by omega)⟩
        rw [hb] at h1 h2
        exact leO.trans O h1 h2
      · rw [List.getElem?_eq_none (l := g) (i := i) (by omega)]; exact leO.noneR
theorem Heap.min {lt : α → α → Bool} (O : Ord lt) {a : α} {g : List α} (h : Heap lt (a :: g)) {b : α} (hb : b ∈ a :: g) : lt b a = false := by
  obtain ⟨i, hi⟩ := List.getElem?_of_mem hb
  have := h.root O i
  rw [hi] at this
  simpa [leO] using this
theorem Heap.nil {lt : α → α → Bool} : Heap lt ([] : List α) := fun i _ => by simp; trivial

/-- the order of texts -/
noncomputable def slt (x y : Str) : Bool := decide (x.cps.toList < y.cps.toList)
theorem slt_ord : Ord slt where
  asymm a b h := by
    have h' : a.cps.toList < b.cps.toList := of_decide_eq_true h
    exact decide_eq_false fun h2 => List.lt_asymm h' h2
  trans a b c h1 h2 := by
    have h1' := of_decide_eq_false h1
    have h2' := of_decide_eq_false h2
    refine decide_eq_false ?_
    rw [List.not_lt] at h1' h2' ⊢
    exact List.le_trans h1' h2'
end HP
end
section
open PySem PySem.Calls PyProof.Rows PySem.W
set_option autoImplicit false
set_option linter.unusedVariables false
set_option maxRecDepth 100000
set_option maxHeartbeats 0
namespace PL


theorem slot_mdget : Slot "method_descriptor" "__get__" "method_descriptor.__get__" :=
  .of (owner := "method_descriptor") (n := "__get__") (by rw [typeLookup_type, builtinLookup_eq_fast]; kernel_rfl) (by decide +kernel) (by decide +kernel) (by decide +kernel)
    (by first | exact .inl (by decide +kernel) | exact .inr (by decide +kernel)) (by rw [isSubtype_type]; kernel_rfl)
theorem entry_mdget : entryFor table "method_descriptor.__get__" = some Builtin.«method_descriptor.__get__» := entryFor_of_tree (by kernel_rfl)
theorem args_mdget (a b c : Value) : argsOk "method_descriptor.__get__" ⟨[a, b, c], []⟩ := by unfold argsOk; kernel_rfl
theorem md_set : typeLookup (.type "method_descriptor") "__set__" = pure none := by rw [typeLookup_type, builtinLookup_eq_fast]; kernel_rfl
theorem md_del : typeLookup (.type "method_descriptor") "__delete__" = pure none := by rw [typeLookup_type, builtinLookup_eq_fast]; kernel_rfl


theorem la_look : typeLookup (.type "list") "append" = pure (some (.builtin "list.append")) := by rw [typeLookup_type, builtinLookup_eq_fast]; kernel_rfl
theorem la_type : typeOf (.builtin "list.append") = pure (.type "method_descriptor") := by show builtinType _ = _; rw [builtinType_eq_fast]; kernel_rfl
theorem la_get : typeLookup (.type "method_descriptor") "__get__" = pure (some (.builtin "method_descriptor.__get__")) := by rw [typeLookup_type, builtinLookup_eq_fast]; kernel_rfl
theorem la_told : Manifest.toldItsClass.contains "list.append" = false := by decide +kernel
theorem la_sub : isSubtype (.type "list") (.type (".".intercalate ("list.append".cutAt '.').dropLast)) = pure true := by
  rw [show ".".intercalate ("list.append".cutAt '.').dropLast = "list" by decide +kernel, isSubtype_type]; kernel_rfl
theorem la_entry : entryFor table "list.__getattribute__" = some Builtin.«object.__getattribute__» := am_entry_list_getattribute
theorem la_bind {prog : Program} {w : World} {A : Around} {E : Value → Shared → Prop} {s : Shared} {a : Addr} {xs : Array Value} {k : Nat} {Q : Fin → Shared → Prop} (hx : s.heap.get? a = some { cls := .type "list", data := .seq xs k })
    (h : Q (.done (.ret (.ref s.heap.objs.size))) { s with heap := s.heap.push { cls := .type "builtin_function_or_method", data := .fields #[.builtin "list.append", .ref a] } }) :
    wpAny (model prog w) A (Builtin.«method_descriptor.__get__» ⟨[.builtin "list.append", .ref a, .type "list"], []⟩) Q E s := by
  obtain ⟨hp, g, d, tk, os⟩ := s
  have hT : (⟨hp, g, d, tk, os⟩ : Shared).TypeIs (.ref a) "list" := ⟨_, hx, rfl⟩
  have l1 := la_sub
  have l2 := la_told
  unfold Builtin.«method_descriptor.__get__»
  repeat (any_goals (first | assumption | wp_step))
theorem la_attr {prog : Program} {w : World} {A : Around} {E : Value → Shared → Prop} {s : Shared} {a : Addr} {u : Tok} {xs : Array Value} {k : Nat} {Q : Fin → Shared → Prop} (hx : s.heap.get? a = some { cls := .type "list", data := .seq xs k })
    (h : Q (.done (.ret (.ref s.heap.objs.size))) { s with heap := s.heap.push { cls := .type "builtin_function_or_method", data := .fields #[.builtin "list.append", .ref a] } }) :
    wpAny (model prog w) A (Builtin.«object.__getattribute__» ⟨[.ref a, .str "append" u], []⟩) Q E s := by
  obtain ⟨hp, g, d, tk, os⟩ := s
  have hT : (⟨hp, g, d, tk, os⟩ : Shared).TypeIs (.ref a) "list" := ⟨_, hx, rfl⟩
  have l1 := la_look
  have l2 := la_type
  have l3 := la_get
  have l4 := md_set
  have l5 := md_del
  unfold Builtin.«object.__getattribute__»
  repeat (any_goals (first | assumption | wp_step))
  have hD : (⟨hp, g, d, tk, os⟩ : Shared).TypeIs (.builtin "list.append") "method_descriptor" := la_type
  refine codeAny_call_builtin slot_mdget.plain entry_mdget (slot_mdget.check _ _ _ _ _ _ _ _ hD (args_mdget _ _ _) ?_)
  exact la_bind hx (wpAny_pure h)
theorem slot_wdget : Slot "wrapper_descriptor" "__get__" "wrapper_descriptor.__get__" :=
  .of (owner := "wrapper_descriptor") (n := "__get__") (by rw [typeLookup_type, builtinLookup_eq_fast]; kernel_rfl) (by decide +kernel) (by decide +kernel) (by decide +kernel)
    (by first | exact .inl (by decide +kernel) | exact .inr (by decide +kernel)) (by rw [isSubtype_type]; kernel_rfl)
theorem entry_wdget : entryFor table "wrapper_descriptor.__get__" = some Builtin.«wrapper_descriptor.__get__» := entryFor_of_tree (by kernel_rfl)
theorem args_wdget (a b c : Value) : argsOk "wrapper_descriptor.__get__" ⟨[a, b, c], []⟩ := by unfold argsOk; kernel_rfl
theorem wd_set : typeLookup (.type "wrapper_descriptor") "__set__" = pure none := by rw [typeLookup_type, builtinLookup_eq_fast]; kernel_rfl
theorem wd_del : typeLookup (.type "wrapper_descriptor") "__delete__" = pure none := by rw [typeLookup_type, builtinLookup_eq_fast]; kernel_rfl


theorem ln_look : typeLookup (.type "list_iterator") "__next__" = pure (some (.builtin "list_iterator.__next__")) := by rw [typeLookup_type, builtinLookup_eq_fast]; kernel_rfl
theorem ln_type : typeOf (.builtin "list_iterator.__next__") = pure (.type "wrapper_descriptor") := by show builtinType _ = _; rw [builtinType_eq_fast]; kernel_rfl
theorem ln_get : typeLookup (.type "wrapper_descriptor") "__get__" = pure (some (.builtin "wrapper_descriptor.__get__")) := by rw [typeLookup_type, builtinLookup_eq_fast]; kernel_rfl
theorem ln_told : Manifest.toldItsClass.contains "list_iterator.__next__" = false := by decide +kernel
theorem ln_sub : isSubtype (.type "list_iterator") (.type (".".intercalate ("list_iterator.__next__".cutAt '.').dropLast)) = pure true := by
  rw [show ".".intercalate ("list_iterator.__next__".cutAt '.').dropLast = "list_iterator" by decide +kernel, isSubtype_type]; kernel_rfl
theorem slot_ln_ga : Slot "list_iterator" "__getattribute__" "object.__getattribute__" :=
  .of (owner := "object") (n := "__getattribute__") (by rw [typeLookup_type, builtinLookup_eq_fast]; kernel_rfl) (by decide +kernel) (by decide +kernel) (by decide +kernel)
    (by first | exact .inl (by decide +kernel) | exact .inr (by decide +kernel)) (by rw [isSubtype_type]; kernel_rfl)
theorem ln_entry : entryFor table "object.__getattribute__" = some Builtin.«object.__getattribute__» := entryFor_of_tree (by kernel_rfl)
theorem ln_args (a b : Value) : argsOk "object.__getattribute__" ⟨[a, b], []⟩ := by unfold argsOk; kernel_rfl
theorem ln_bind {prog : Program} {w : World} {A : Around} {E : Value → Shared → Prop} {s : Shared} {a : Addr} {vs : Array Value} {Q : Fin → Shared → Prop} (hx : s.heap.get? a = some { cls := .type "list_iterator", data := .fields vs })
    (h : Q (.done (.ret (.ref s.heap.objs.size))) { s with heap := s.heap.push { cls := .type "method-wrapper", data := .fields #[.builtin "list_iterator.__next__", .ref a] } }) :
    wpAny (model prog w) A (Builtin.«wrapper_descriptor.__get__» ⟨[.builtin "list_iterator.__next__", .ref a, .type "list_iterator"], []⟩) Q E s := by
  obtain ⟨hp, g, d, tk, os⟩ := s
  have hT : (⟨hp, g, d, tk, os⟩ : Shared).TypeIs (.ref a) "list_iterator" := ⟨_, hx, rfl⟩
  have l1 := ln_sub
  have l2 := ln_told
  unfold Builtin.«wrapper_descriptor.__get__»
  repeat (any_goals (first | assumption | wp_step))
theorem ln_attr {prog : Program} {w : World} {A : Around} {E : Value → Shared → Prop} {s : Shared} {a : Addr} {u : Tok} {vs : Array Value} {Q : Fin → Shared → Prop} (hx : s.heap.get? a = some { cls := .type "list_iterator", data := .fields vs })
    (h : Q (.done (.ret (.ref s.heap.objs.size))) { s with heap := s.heap.push { cls := .type "method-wrapper", data := .fields #[.builtin "list_iterator.__next__", .ref a] } }) :
    wpAny (model prog w) A (Builtin.«object.__getattribute__» ⟨[.ref a, .str "__next__" u], []⟩) Q E s := by
  obtain ⟨hp, g, d, tk, os⟩ := s
  have hT : (⟨hp, g, d, tk, os⟩ : Shared).TypeIs (.ref a) "list_iterator" := ⟨_, hx, rfl⟩
  have l1 := ln_look
  have l2 := ln_type
  have l3 := ln_get
  have l4 := wd_set
  have l5 := wd_del
  unfold Builtin.«object.__getattribute__»
  repeat (any_goals (first | assumption | wp_step))
  have hD : (⟨hp, g, d, tk, os⟩ : Shared).TypeIs (.builtin "list_iterator.__next__") "wrapper_descriptor" := ln_type
  refine codeAny_call_builtin slot_wdget.plain entry_wdget (slot_wdget.check _ _ _ _ _ _ _ _ hD (args_wdget _ _ _) ?_)
  exact ln_bind hx (wpAny_pure h)

theorem la_getAttr {prog : Program} {w : World} {A : Around} {E : Value → Shared → Prop} {s : Shared} {a : Addr} {xs : Array Value} {k : Nat} {Q : Value → Shared → Prop} (hx : s.heap.get? a = some { cls := .type "list", data := .seq xs k })
    (h : ∀ tk, Q (.ref s.heap.objs.size) { s with heap := s.heap.push { cls := .type "builtin_function_or_method", data := .fields #[.builtin "list.append", .ref a] }, toks := tk }) : wpAny (model prog w) A (getAttr (.ref a) "append" true) Q E s := by
  obtain ⟨hp, g, d, tk, os⟩ := s
  have hT : ∀ tk', (⟨hp, g, d, tk', os⟩ : Shared).TypeIs (.ref a) "list" := fun _ => ⟨_, hx, rfl⟩
  have f3 := F.slot_list_getattribute.lookup
  have f4 := F.slot_list_getattribute.bind (.ref a)
  unfold getAttr getAttrBy
  repeat (any_goals (first | assumption | exact hT _ | wp_step))
  exact codeAny_call_builtin F.slot_list_getattribute.plain la_entry (F.slot_list_getattribute.check _ _ _ _ _ _ _ _ (hT _) (F.args_list_getattribute_2 _ _) (la_attr hx (wpAny_pure (h _))))

theorem ln_getAttr {prog : Program} {w : World} {A : Around} {E : Value → Shared → Prop} {s : Shared} {a : Addr} {vs : Array Value} {Q : Value → Shared → Prop} (hx : s.heap.get? a = some { cls := .type "list_iterator", data := .fields vs })
    (h : ∀ tk, Q (.ref s.heap.objs.size) { s with heap := s.heap.push { cls := .type "method-wrapper", data := .fields #[.builtin "list_iterator.__next__", .ref a] }, toks := tk }) : wpAny (model prog w) A (getAttr (.ref a) "__next__" true) Q E s := by
  obtain ⟨hp, g, d, tk, os⟩ := s
  have hT : ∀ tk', (⟨hp, g, d, tk', os⟩ : Shared).TypeIs (.ref a) "list_iterator" := fun _ => ⟨_, hx, rfl⟩
  have f3 := slot_ln_ga.lookup
  have f4 := slot_ln_ga.bind (.ref a)
  unfold getAttr getAttrBy
  repeat (any_goals (first | assumption | exact hT _ | wp_step))
  exact codeAny_call_builtin slot_ln_ga.plain ln_entry (slot_ln_ga.check _ _ _ _ _ _ _ _ (hT _) (ln_args _ _) (ln_attr hx (wpAny_pure (h _))))

theorem list_no_module : isSubtype (.type "list") (.type "module") = pure false := by rw [isSubtype_type]; kernel_rfl
theorem la_call {prog : Program} {w : World} {A : Around} {E : Value → Shared → Prop} {s : Shared} {a b : Addr} {x : Value} {xs : Array Value} {k : Nat} {Q : Value → Shared → Prop} (hx : s.heap.get? a = some { cls := .type "list", data := .seq xs k })
    (hb : s.heap.get? b = some { cls := .type "builtin_function_or_method", data := .fields #[.builtin "list.append", .ref a] })
    (h : wpAny (model prog w) A.in1 (Builtin.«list.append» ⟨[.ref a, x], []⟩) (fun f s' => ∃ v, f = .done (.ret v) ∧ Q v s') E s) : wpAny (model prog w) A (call (.ref b) [x]) Q E s := by
  obtain ⟨hp, g, d, tk, os⟩ := s
  have hT : (⟨hp, g, d, tk, os⟩ : Shared).TypeIs (.ref a) "list" := ⟨_, hx, rfl⟩
  have l1 := list_no_module
  refine wpAny_call (codeAny_of_tree ?_)
  show wpAny _ _ (callAny (.ref b) _) _ _ _
  unfold callAny
  repeat (any_goals (first | assumption | wp_step))
  refine ⟨plainId_quiet F.slot_list_append.plain _, codeAny_builtin entry_list_append ?_⟩
  rw [Around.under_plainId F.slot_list_append.plain]
  exact wpAny_mono h (fun f s' ⟨v, e, q⟩ => by subst e; exact q) fun _ _ q => q
theorem iter_no_module : isSubtype (.type "list_iterator") (.type "module") = pure false := by rw [isSubtype_type]; kernel_rfl
theorem ln_call {prog : Program} {w : World} {A : Around} {E : Value → Shared → Prop} {s : Shared} {a b : Addr} {o : Obj} {Q : Value → Shared → Prop} (hx : s.heap.get? a = some o) (hc : o.cls = .type "list_iterator")
    (hb : s.heap.get? b = some { cls := .type "method-wrapper", data := .fields #[.builtin "list_iterator.__next__", .ref a] })
    (h : wpAny (model prog w) A.in1 (Builtin.«list_iterator.__next__» ⟨[.ref a], []⟩) (fun f s' => ∃ v, f = .done (.ret v) ∧ Q v s') E s) : wpAny (model prog w) A (call (.ref b) []) Q E s := by
  obtain ⟨hp, g, d, tk, os⟩ := s
  have hT : (⟨hp, g, d, tk, os⟩ : Shared).TypeIs (.ref a) "list_iterator" := ⟨_, hx, hc⟩
  have l1 := iter_no_module
  refine wpAny_call (codeAny_of_tree ?_)
  show wpAny _ _ (callAny (.ref b) _) _ _ _
  unfold callAny
  repeat (any_goals (first | assumption | wp_step))
  refine ⟨plainId_quiet slot_listiter_next.plain _, codeAny_builtin entry_listiter_next ?_⟩
  rw [Around.under_plainId slot_listiter_next.plain]
  exact wpAny_mono h (fun f s' ⟨v, e, q⟩ => by subst e; exact q) fun _ _ q => q
end PL
end
section
open PySem PySem.Calls PyProof.Rows PySem.W
set_option autoImplicit false
set_option linter.unusedVariables false
set_option maxRecDepth 100000
set_option maxHeartbeats 0
namespace PL

/-! what a value reads -/
mutual
inductive RD (l : Led) : AV → PyData → Prop
  | none : RD l .none .none
  | bool {b : Bool} : RD l (.bool b) (.bool b)
  | int {i : Int} : RD l (.int i) (.int i)
  | str {x : Str} : RD l (.str x) (.str x)
  | list {p : Addr} {xs : List AV} {ds : List PyData} : (p, .list xs) ∈ l → RDs l xs ds → RD l (.ref p) (.list ds)
  | tuple {p : Addr} {xs : List AV} {ds : List PyData} : (p, .tuple xs) ∈ l → RDs l xs ds → RD l (.ref p) (.tuple ds)
inductive RDs (l : Led) : List AV → List PyData → Prop
  | nil : RDs l [] []
  | cons {x : AV} {d : PyData} {xs : List AV} {ds : List PyData} : RD l x d → RDs l xs ds → RDs l (x :: xs) (d :: ds)
end
mutual
theorem RD.reads {G : Gd} {s : Shared} {l : Led} (N : Rep G s l) : ∀ {a : AV} {d : PyData}, RD l a d → ∀ v, a.Is v → ∃ as, Reads s.heap v d as
  | _, _, .none, v, h => by cases h; exact ⟨_, .none⟩
  | _, _, .bool, v, h => by cases h; exact ⟨_, .bool _⟩
  | _, _, .int, v, ⟨t, h⟩ => by subst h; exact ⟨_, .int _ _⟩
  | _, _, .str, v, ⟨t, h⟩ => by subst h; exact ⟨_, .str _ _⟩
  | _, _, .list hm hr, v, h => by
    cases h
    (refine PL.x1_1 (N.atM hm) ?_; rintro vs ⟨n, hl⟩ ha)
    obtain ⟨as, r⟩ := RDs.reads N hr _ ha
    exact ⟨_, .list hl rfl rfl r⟩
  | _, _, .tuple hm hr, v, h => by
    cases h
    (refine PL.x1_1 (N.atM hm) ?_; rintro vs hl ha)
    obtain ⟨as, r⟩ := RDs.reads N hr _ ha
    exact ⟨_, .tuple hl rfl rfl r⟩
theorem RDs.reads {G : Gd} {s : Shared} {l : Led} (N : Rep G s l) : ∀ {xs : List AV} {ds : List PyData}, RDs l xs ds → ∀ vs, AllIs xs vs → ∃ as, ReadsAll s.heap vs ds as
  | _, _, .nil, vs, h => by cases h; exact ⟨_, .nil⟩
  | _, _, .cons hx hr, vs, h => by
    (refine PL.x2_2 (h.consL) ?_; rintro v us rfl hv hu)
    obtain ⟨as, r⟩ := RD.reads N hx v hv
    obtain ⟨bs, r'⟩ := RDs.reads N hr us hu
    exact ⟨_, .cons r r'⟩
end
theorem RDs.strs {l : Led} : ∀ (ss : List Str), RDs l (ss.map .str) (ss.map .str)
  | [] => .nil
  | _ :: ss => .cons .str (RDs.strs ss)
section
variable {G : Gd} {A : Around} {l l' : Led} {X : Xp} {R : AV → Led → Prop}
theorem Op2.inData {a c : AV} {xs : List PyData} {d : PyData} {n : Nat} (hr : Room A n) (hc : RD l c (.list xs)) (ha : RD l a d) (hxs : PyData.canLayAll0 xs = true) (hd : d.canLay0 = true) (hu : PyData.depthAll xs ≤ 50) (h : R (.bool (xs.any fun y => PyData.eqv y d)) l) :
    Op2 G A (compareOp .In) a c l R X := fun v u hv hu' s N => by
  obtain ⟨as, rc⟩ := hc.reads N u hu'
  obtain ⟨bs, ra⟩ := ha.reads N v hv
  exact SeqAt.in_list_reads rc ra hxs hd (by have := hr.u; omega) ⟨.bool _, l, rfl, N, h⟩
theorem strsAre {ss : List Str} {vs : List Value} (h : AllIs (ss.map .str) vs) : StrsAre vs ss := by
  induction ss generalizing vs with
  | nil => cases h.nilL; exact .nil
  | cons x ss ih =>
    (refine PL.x2_2 (h.consL) ?_; rintro v us rfl ⟨t, rfl⟩ hu)
    exact .cons _ _ (ih hu)
theorem any_strs (k : Str) (ss : List Str) : (ss.any (· == k)) = ss.contains k := by
  induction ss with
  | nil => rfl
  | cons s ss ih =>
    rw [List.any_cons, ih, List.contains_cons]
    congr 1
    exact Bool.eq_iff_iff.mpr ⟨fun h => by simpa using (by simpa using h : s = k).symm, fun h => by simpa using (by simpa using h : k = s).symm⟩
theorem Op2.inStrs {p : Addr} {ss : List Str} {k : Str} (hp : Pick (p, .list (ss.map .str)) l l') (h : R (.bool (ss.contains k)) l) : Op2 G A (compareOp .In) (.str k) (.ref p) l R X := fun v u ⟨t, hv⟩ hu s N => by
  subst hv; cases hu
  (refine PL.x1_1 (N.at hp) ?_; rintro vs hl ha)
  exact PyProof.Rows.in_list_strs (vs := vs.toList) (by simpa using hl.isList) (strsAre ha) ⟨.bool _, l, rfl, N, by rw [any_strs]; exact h⟩
theorem Op2.notinStrs {p : Addr} {ss : List Str} {k : Str} (hp : Pick (p, .list (ss.map .str)) l l') (h : R (.bool (!ss.contains k)) l) : Op2 G A (compareOp .NotIn) (.str k) (.ref p) l R X := fun v u ⟨t, hv⟩ hu s N => by
  subst hv; cases hu
  (refine PL.x1_1 (N.at hp) ?_; rintro vs hl ha)
  exact PyProof.Rows.notin_list_strs (vs := vs.toList) (by simpa using hl.isList) (strsAre ha) ⟨.bool _, l, rfl, N, by rw [any_strs]; exact h⟩
theorem Op2.eqData {a c : AV} {d e : PyData} {n : Nat} (hr : Room A n) (ha : RD l a d) (hc : RD l c e) (hd : d.canLay0 = true) (he : e.canLay0 = true) (hu : d.depth ≤ 100) (h : R (.bool (d.eqv e)) l) :
    Op2 G A (compareOp .Eq) a c l R X := fun v u hv hu' s N => by
  obtain ⟨as, ra⟩ := ha.reads N v hv
  obtain ⟨bs, rc⟩ := hc.reads N u hu'
  exact SeqAt.compareEq_reads ra rc hd he (by have := hr.u; omega) ⟨.bool _, l, rfl, N, h⟩
theorem Op2.notinText {x y : Str} (h : R (.bool (!(!(Builtin.Str.occurrences x y 0 x.length 1).isEmpty))) l) : Op2 G A (compareOp .NotIn) (.str y) (.str x) l R X := fun _ _ ⟨_, e⟩ ⟨_, e'⟩ s N => by subst e e'; exact P.notIn_str ⟨.bool _, l, rfl, N, h⟩
/-- is -/
theorem Op2.isNone {a : AV} (ha : ∀ v, a.Is v → v ≠ .none ∧ plainIs v .none = true) (h : R (.bool false) l) : Op2 G A (compareOp .Is) a .none l R X := fun v u hv hu s N => by cases hu; exact wpAny_is_other (ha v hv).2 (ha v hv).1 ⟨.bool _, l, rfl, N, h⟩
theorem Op2.isNoneRef {p : Addr} (h : R (.bool false) l) : Op2 G A (compareOp .Is) (.ref p) .none l R X := Op2.isNone (fun v e => by cases e; exact ⟨nofun, rfl⟩) h
theorem Op2.isNoneNone (h : R (.bool true) l) : Op2 G A (compareOp .Is) .none .none l R X := fun v u hv hu s N => by cases hv; cases hu; exact wpAny_is_self rfl ⟨.bool _, l, rfl, N, h⟩
theorem Op2.isnotNoneNone (h : R (.bool false) l) : Op2 G A (compareOp .IsNot) .none .none l R X := fun v u hv hu s N => by cases hv; cases hu; exact wpAny_isNot_self rfl ⟨.bool _, l, rfl, N, h⟩
theorem Op2.isStrRef {x : Str} {p : Addr} (h : R (.bool false) l) : Op2 G A (compareOp .Is) (.str x) (.ref p) l R X := fun v u ⟨t, hv⟩ hu s N => by subst hv; cases hu; exact wpAny_is_other rfl nofun ⟨.bool _, l, rfl, N, h⟩
theorem Op2.isnotStrRef {x : Str} {p : Addr} (h : R (.bool true) l) : Op2 G A (compareOp .IsNot) (.str x) (.ref p) l R X := fun v u ⟨t, hv⟩ hu s N => by subst hv; cases hu; exact wpAny_isNot_other rfl nofun ⟨.bool _, l, rfl, N, h⟩
theorem Op2.isRef {p : Addr} (h : R (.bool true) l) : Op2 G A (compareOp .Is) (.ref p) (.ref p) l R X := fun v u hv hu s N => by cases hv; cases hu; exact wpAny_is_ref_self ⟨.bool _, l, rfl, N, h⟩
theorem Truth.str {R : Bool → Led → Prop} {x : Str} (hz : x.length < 1000000) (h : R (x.length != 0) l) : Truth G A (.str x) l R X := fun _ ⟨_, e⟩ s N => by
  subst e
  refine P.truthy_str (by omega) ⟨_, l, ?_, (N.toks _).toks _, h⟩
  cases x.length with
  | zero => rfl
  | succ n => simp; omega
/-- an item of a text -/
theorem Get.str {x : Str} {i : Int} {c : Nat} (h1 : -1000000 < i) (h2 : i < 1000000) (hc : (seqIndex? i x.length).bind (x.cps[·]?) = some c) (h : R (.str ⟨#[c]⟩) l) : Op2 G A getItem (.str x) (.int i) l R X := fun v u ⟨_, e⟩ ⟨_, e'⟩ s N => by
  subst e e'
  exact P.getItem_str (by rw [Bool.or_eq_false_iff]; exact ⟨decide_eq_false (by omega), decide_eq_false (by omega)⟩) hc ⟨.str _, l, ⟨_, rfl⟩, N.toks _, h⟩
/-- replace: nothing is there -/
theorem CC.replace0 {x y z : Str} (h0 : (Builtin.Str.occurrences x y 0 x.length (x.length + 1)).isEmpty = true) (h : R (.str x) l) : CC G A (.lit (.builtin "str.replace")) [.str x, .str y, .str z] l R X := fun f vs hf hvs s N => by
  cases hf
  (refine PL.x3_3 (get3 hvs) ?_; rintro v u w rfl ⟨t, rfl⟩ ⟨t', rfl⟩ ⟨t'', rfl⟩)
  refine call_gives F.slot_str_replace (typeIs_str _ _ _) F.entry_str_replace (F.args_str_replace_3 _ _ _) (gives_str_replace x y z t t' t'' fun q => by rw [h0] at q; cases q) ?_
  rw [h0]
  exact ⟨.str x, l, ⟨t, rfl⟩, N, h⟩
end
/-! attributes -/
section
variable {G : Gd} {A : Around} {env : Env} {l l' : Led} {X : Xp} {R : AV → Led → Prop}
noncomputable def GAt (G : Gd) (A : Around) (name : Str) (a : AV) (l : Led) (R : AV → Led → Prop) (X : Xp) : Prop := Op1 G A (fun v => getAttr v name true) a l R X
theorem EE.attr {value : Expr} {name : Str} {pos : Pos} (h : EE G A env value l (fun a l₁ => GAt G A name a l₁ R X) X)
    (he : eval (.Attribute value name pos) env = (do
      let o ← eval value env
      standAt pos.atName
      let r ← holding [o] (getAttr o name true)
      letTemporaryGo value o r
      pure r) := by with_unfolding_all rfl) : EE G A env (.Attribute value name pos) l R X :=
  fun s N => Attribute_any_ (wpAny_mono (h s N) (fun v s₁ ⟨a, l₁, ha, N₁, h₁⟩ => h₁ v ha s₁ N₁) fun _ _ y => y) he
noncomputable abbrev boundAppend (p : Addr) : Obj := { cls := .type "builtin_function_or_method", data := .fields #[.builtin "list.append", .ref p] }
theorem GAt.append {p : Addr} {xs : List AV} (hp : Pick (p, .list xs) l l') (h : ∀ b, R (.ref b) ((b, .raw (boundAppend p)) :: l)) : GAt G A "append" (.ref p) l R X := fun v hv s N => by
  cases hv
  (refine PL.x1_1 (N.at hp) ?_; rintro vs ⟨n, hl⟩ ha)
  exact la_getAttr hl fun tk => ⟨.ref s.heap.objs.size, _, rfl, (N.push (ao := .raw (boundAppend p)) rfl (Heap.get?_push_size _ rfl)).toks tk, h _⟩
noncomputable abbrev boundNext (it : Addr) : Obj := { cls := .type "method-wrapper", data := .fields #[.builtin "list_iterator.__next__", .ref it] }
noncomputable abbrev iterObj (p : Addr) : Obj := { cls := .type "list_iterator", data := .fields #[.ref p, .int 0 0] }
theorem GAt.next {it p : Addr} (hp : Pick (it, .raw (iterObj p)) l l') (h : ∀ b, R (.ref b) ((b, .raw (boundNext it)) :: (it, .listiter p 0) :: l')) : GAt G A "__next__" (.ref it) l R X := fun v hv s N => by
  cases hv
  have hx : s.heap.get? it = some (iterObj p) := N.at hp
  refine ln_getAttr hx fun tk => ⟨.ref s.heap.objs.size, _, rfl, ((N.sub (.cons hp (ao' := .listiter p 0) (fun G h a e => (PL.m1_2 _ e rfl rfl)) (.refl l'))).push (ao := .raw (boundNext it)) rfl (Heap.get?_push_size _ rfl)).toks tk, h _⟩
/-- a call of a bound built-in -/
theorem callWith_bound {b : Addr} {o : Obj} {vs : Array Value} {fv : Value} {pos : Pos} {ts : List (Bool × Sem Value)} (hf : AV.Is (.ref b) fv) (ho : o.data = .fields vs) (hc : (o.cls == .type "builtin_function_or_method" || o.cls == .type "method-wrapper") = true) (hst : (ts.any (·.1)) = false)
    (h : EA G A ts l (fun as l₁ => (∃ l₂, Pick (b, .raw o) l₁ l₂) ∧ CC G A (.ref b) as l₁ R X) X) : Tr G A (callWith pos fv [] ts []) AV.Is l R X := fun s N => by
  cases hf
  refine callWith_of (P := fun h => h.get? b = some o) (by simpa using hst) (fun h hh => (PL.m1_1 (.machine) (.inr (.inl rfl)) ?_)) ?_
  · intro A Q E s k q
    unfold keeperOf
    refine wpAny_bind (wpAny_load (k _ _ hh) ?_)
    rw [ho]
    have hm : (o.cls != .type "method") = true := by
      rcases Bool.or_eq_true_iff.mp hc with e | e <;> (rw [beq_iff_eq.mp e]; rfl)
    simp only [hm, if_true, hc]
    exact wpAny_pure q
  · have go : ∀ {ts : List (Bool × Sem Value)} {Q : Args → Shared → Prop} {E : Value → Shared → Prop}, (ts.any (·.1)) = false → wpAny (model G.prog G.w) A (spliced ts) (fun vs s' => Q { pos := vs } s') E s → wpAny (model G.prog G.w) A (evalArgs (.ref b) true ts []) Q E s := by
      intro ts Q E hst h
      cases ts with
      | nil =>
        unfold evalArgs
        show wpAny _ _ (spliced [] >>= _) _ _ s
        refine wpAny_bind (wpAny_mono h (fun vs s₁ h₁ => ?_) fun _ _ y => y)
        refine wpAny_bind (wpAny_pure (wpAny_holding ?_))
        show wpAny _ _ (evalAll [] >>= _) _ _ s₁
        exact wpAny_bind (wpAny_evalAll_nil (wpAny_bind (wpAny_pure (wpAny_pure h₁))))
      | cons t ts =>
        obtain ⟨b', t⟩ := t
        cases b' with
        | true => simp at hst
        | false => exact evalArgs_plain h
    exact go hst (wpAny_mono (h s N) (fun vs s₁ ⟨as, l₁, has, N₁, ⟨l₂, hp⟩, h₁⟩ => ⟨N₁.at hp, h₁ (.ref b) ([] ++ vs) rfl has s₁ N₁⟩) fun _ _ y => y)
theorem EE.callB {f : Expr} {pos : Pos} {es : List Expr} (h : EE G A env f l (fun a l₁ => ∃ b o vs, a = .ref b ∧ o.data = .fields vs ∧ (o.cls == .type "builtin_function_or_method" || o.cls == .type "method-wrapper") = true ∧
      EA G A (backTo pos (starEach es env)) l₁ (fun as l₂ => (∃ l₃, Pick (b, .raw o) l₂ l₃) ∧ CC G A (.ref b) as l₂ R X) X) X)
    (hst : (backTo pos (starEach es env)).any (·.1) = false := by with_unfolding_all rfl)
    (he : eval (.Call f es [] pos) env = (do callWith pos (← eval f env) [] (backTo pos (starEach es env)) (backToKw pos (keywordEach [] env))) := by with_unfolding_all rfl) : EE G A env (.Call f es [] pos) l R X := fun s N => by
  rw [he]
  exact wpAny_bind (wpAny_mono (h s N) (fun v s₁ ⟨a, l₁, ha, N₁, b, o, vs, e, h1, h2, h₁⟩ => by subst e; exact callWith_bound ha h1 h2 hst h₁ s₁ N₁) fun _ _ y => y)
theorem EE.callU {x : Str} {np pos : Pos} {es : List Expr} (h : EE G A env (.Name x np) l (fun f l₁ => (Kept G f ∧ EA G A (backTo pos (starEach es env)) l₁ (fun as l₂ => CC G A f as l₂ R X) X) ∨
      (∃ b o vs, f = .ref b ∧ o.data = .fields vs ∧ (o.cls == .type "builtin_function_or_method" || o.cls == .type "method-wrapper") = true ∧
        EA G A (backTo pos (starEach es env)) l₁ (fun as l₂ => (∃ l₃, Pick (b, .raw o) l₂ l₃) ∧ CC G A (.ref b) as l₂ R X) X)) X)
    (hst : (backTo pos (starEach es env)).any (·.1) = false := by with_unfolding_all rfl) : EE G A env (.Call (.Name x np) es [] pos) l R X :=
  fun s N => wpAny_Call_NameR (wpAny_mono (h s N) (fun v s₁ ⟨a, l₁, ha, N₁, h₁⟩ => by
    rcases h₁ with ⟨hk, h₁⟩ | ⟨b, o, vs, e, h1, h2, h₁⟩
    · exact callWith_args (first := []) hk ha .nil hst h₁ s₁ N₁
    · subst e; exact callWith_bound ha h1 h2 hst h₁ s₁ N₁) fun _ _ y => y)
theorem CC.bappend {b p : Addr} {xs : List AV} {a : AV} (hb : (b, .raw (boundAppend p)) ∈ l) (hp : Pick (p, .list xs) l l') (hz : xs.length < 1000000) (h : R .none ((p, .list (xs ++ [a])) :: l')) : CC G A (.ref b) [a] l R X := fun f vs hf hvs s N => by
  cases hf
  (refine PL.x1_1 (get1 hvs) ?_; rintro u rfl hu)
  have hbo : s.heap.get? b = some (boundAppend p) := N.atM hb
  (refine PL.x1_1 (N.at hp) ?_; rintro ws ⟨n, hl⟩ ha)
  refine la_call hl hbo ?_
  show wpAny _ _ (updateSeq p (·.push u) >>= fun _ => ret .none) _ _ s
  have hsz : ws.size ≤ sizeLine := by rw [← Array.length_toList, ← ha.length]; exact Nat.le_trans (Nat.le_of_lt hz) (by decide)
  refine wpAny_bind (wpAny_updateSeq hl rfl (wpAny_pure ⟨.none, rfl, .none, _, rfl, N.upd (tk := s.toks) (ao' := .list (xs ++ [a])) hp (Heap.SameBut.update ..).extBut (PL.m1_1 (ws.push u) (⟨n + 1, ?_⟩) ?_), h⟩))
  · rw [Heap.get?_update_self _ hl (by rw [Obj.mapSeq_push_plain]; rfl), Obj.mapSeq_push_plain]
  · rw [Array.toList_push]; exact ha.append (.one hu)
end
end PL
end
section
open PySem PySem.Calls PyProof.Rows PySem.W
set_option autoImplicit false
set_option linter.unusedVariables false
set_option maxRecDepth 100000
set_option maxHeartbeats 0
namespace PL
open Builtin Builtin.Str

theorem key_sub : isSubtype (.type "KeyError") (.type "LookupError") = pure true := by rw [isSubtype_type]; kernel_rfl
theorem isInt_self {prog : Program} {w : World} (i : Int) (t : Tok) : (intKind prog w).is i (.int i t) = true := by show PySem.Value.isInt i (.int i t) = true; simp [PySem.Value.isInt]
section
variable {prog : Program} {w : World} {A : Around} {E : Value → Shared → Prop} {s : Shared} {d : Addr} {c : Nat} {f : Int → Option Value}
theorem tableLookup_miss {Q : Mapped → Shared → Prop} (hh : A.handled = none) (hd : (d == sysModules) = false) (hm : s.heap.MapOf (intKind prog w) d f) (hf : f c = none)
    (h : ∀ h' tk, (∀ b o, s.heap.get? b = some o → h'.get? b = some o) → Q .keep { s with heap := h', toks := tk }) : wpAny (model prog w) A (tableLookup (.ref d) c) Q E s := by
  unfold tableLookup
  refine wpAny_bind (wpAny_attempt (wpAny_bind (wpAny_mkInt' ?_)))
  refine wpAny_getItem_missing_of (knd := intKind prog w) (k := (c : Int)) (s := { s with toks := s.toks + 1 }) (isInt_self _ _) hd hh hm hf fun h' e hx => ?_
  refine wpAny_bind (wpAny_isInstance (T := "KeyError") (b := true) (let ⟨ob, t, he, hc, hdd⟩ := hx.there; (PL.m1_1 ob he hc)) key_sub ?_)
  simp only [if_true]
  exact wpAny_bind (wpAny_rule (wpAny_pure (h h' _ hx.keeps)))
theorem tableLookup_text {t : Str} {tk : Tok} {Q : Mapped → Shared → Prop} (hm : s.heap.MapOf (intKind prog w) d f) (hf : f c = some (.str t tk))
    (h : ∀ tk, Q (.text t) { s with toks := tk }) : wpAny (model prog w) A (tableLookup (.ref d) c) Q E s := by
  unfold tableLookup
  refine wpAny_bind (wpAny_attempt (wpAny_bind (wpAny_mkInt' ?_)))
  refine wpAny_getItem_of (knd := intKind prog w) (k := (c : Int)) (s := { s with toks := s.toks + 1 }) (isInt_self _ _) hm hf ?_
  refine wpAny_bind (wpAny_of_eq (a := none) rfl ?_)
  exact wpAny_bind (wpAny_of_eq (a := some t) rfl (wpAny_pure (h _)))
theorem translate_miss {t : Tok} {Q : Fin → Shared → Prop} (hh : A.handled = none) (hd : (d == sysModules) = false) (hm : s.heap.MapOf (intKind prog w) d f) (hf : f c = none) (hc : c < 128)
    (h : ∀ h' tk u, (∀ b o, s.heap.get? b = some o → h'.get? b = some o) → Q (.done (.ret (.str ⟨#[c]⟩ u))) { s with heap := h', toks := tk }) : wpAny (model prog w) A (Builtin.«str.translate» ⟨[.str ⟨#[c]⟩ t, .ref d], []⟩) Q E s := by
  unfold Builtin.«str.translate»
  repeat (any_goals (first | assumption | ((with_reducible show wpAny _ _ (tableLookup _ _) _ _ _); refine tableLookup_miss (c := c) hh hd hm hf fun h' tk hk => ?_) | wp_step))
  exact h h' _ _ hk
theorem translate_text {t : Tok} {x : Str} {tx : Tok} {Q : Fin → Shared → Prop} (hm : s.heap.MapOf (intKind prog w) d f) (hf : f c = some (.str x tx)) (hc : c < 128) (hx : (x.length == 1) = false) (hz : x.length ≤ 1000)
    (h : ∀ tk u, Q (.done (.ret (.str x u))) { s with toks := tk }) : wpAny (model prog w) A (Builtin.«str.translate» ⟨[.str ⟨#[c]⟩ t, .ref d], []⟩) Q E s := by
  unfold Builtin.«str.translate»
  repeat (any_goals (first | assumption | ((with_reducible show wpAny _ _ (tableLookup _ _) _ _ _); refine tableLookup_text (c := c) hm hf fun tk => ?_) | wp_step))
  simp only [hx, Bool.false_and, Bool.false_eq_true, if_false]
  repeat (any_goals (first | assumption | ((with_reducible show wpAny _ _ (tableLookup _ _) _ _ _); refine tableLookup_text (c := c) hm hf fun tk => ?_) | wp_step))
  have hl : tooLong (0 + x.length) = false := by unfold tooLong sizeLine; exact decide_eq_false (by omega)
  simp only [hl, Bool.false_eq_true, if_false, List.reverse_singleton, List.foldl_cons, List.foldl_nil]
  have e : (#[] ++ x.cps : Array Nat) = x.cps := by simp
  rw [e]
  refine wpAny_bind (wpAny_mkStr (wpAny_pure (h _ _)) ?_)
  exact Nat.le_trans hz (by decide)
end
section
variable {G : Gd} {A : Around} {env : Env} {l l' : Led} {X : Xp} {R : AV → Led → Prop}
theorem mapOf_keeps {K : Type} [DecidableEq K] {prog : Program} {w : World} {knd : KeyKind prog w K} {h h' : Heap} {d : Addr} {f : K → Option Value} (hm : h.MapOf knd d f) (k : ∀ b o, h.get? b = some o → h'.get? b = some o) : h'.MapOf knd d f := by
  (revert hm; refine PL.j3_1 ?_; rintro o es ep ho r)
  exact (PL.m3_1 o es ep (k _ _ ho) r)
theorem CC.tr_miss {d : Addr} {c n : Nat} {f : Int → Option Value} (hr : Room A n) (hd : (d == sysModules) = false) (hm : G.t.MapOf (intKind G.prog G.w) d f) (hf : f c = none) (hc : c < 128) (h : R (.str ⟨#[c]⟩) l) :
    CC G A (.lit (.builtin "str.translate")) [.str ⟨#[c]⟩, .ref d] l R X := fun g vs hg hvs s N => by
  cases hg
  (refine PL.x2_2 (get2 hvs) ?_; rintro v u rfl ⟨t, rfl⟩ hu)
  cases hu
  refine wpAny_call (codeAny_call_builtin F.slot_str_translate.plain F.entry_str_translate (F.slot_str_translate.check _ _ _ _ _ _ _ _ (typeIs_str s _ t) (F.args_str_translate_2 _ _) ?_))
  exact translate_miss hr.h hd (mapOf_keeps hm N.keep) hf hc fun h' tk u hk => ⟨.str ⟨#[c]⟩, l, ⟨u, rfl⟩, N.ext hk, h⟩
theorem CC.tr_text {d : Addr} {c : Nat} {x : Str} {tx : Tok} {f : Int → Option Value} (hm : G.t.MapOf (intKind G.prog G.w) d f) (hf : f c = some (.str x tx)) (hc : c < 128) (hx : (x.length == 1) = false) (hz : x.length ≤ 1000) (h : R (.str x) l) :
    CC G A (.lit (.builtin "str.translate")) [.str ⟨#[c]⟩, .ref d] l R X := fun g vs hg hvs s N => by
  cases hg
  (refine PL.x2_2 (get2 hvs) ?_; rintro v u rfl ⟨t, rfl⟩ hu)
  cases hu
  refine wpAny_call (codeAny_call_builtin F.slot_str_translate.plain F.entry_str_translate (F.slot_str_translate.check _ _ _ _ _ _ _ _ (typeIs_str s _ t) (F.args_str_translate_2 _ _) ?_))
  exact translate_text (mapOf_keeps hm N.keep) hf hc hx hz fun tk u => ⟨.str x, l, ⟨u, rfl⟩, N.toks _, h⟩
theorem CC.isstr {x : Str} (h : R (.bool true) l) : CC G A (.lit (.builtin "isinstance")) [.str x, .lit (.type "str")] l R X := fun g vs hg hvs s N => by
  cases hg
  (refine PL.x2_2 (get2 hvs) ?_; rintro v u rfl ⟨t, rfl⟩ hu)
  cases hu
  exact call_isinstance_yes (Tx := "str") (T := "str") (typeIs_str s x t) (by kernel_rfl) isSubtype_str_str ⟨.bool true, l, rfl, N, h⟩
end
end PL
end
section
open PySem PySem.Calls PyProof.Rows PySem.W
set_option autoImplicit false
set_option linter.unusedVariables false
set_option maxRecDepth 100000
set_option maxHeartbeats 0
namespace PL
section
variable {G : Gd} {A : Around} {env : Env} {l l' : Led} {X : Xp} {R : AV → Led → Prop}
/-! slices -/
noncomputable def EPt (G : Gd) (A : Around) (env : Env) (e : Option Expr) (l : Led) (R : AV → Led → Prop) (X : Xp) : Prop := Tr G A (evalPart e env) AV.Is l R X
theorem EPt.no (h : R .none l) : EPt G A env Option.none l R X := fun _ N => wpAny_pure ⟨.none, l, rfl, N, h⟩
theorem EPt.yes {e : Expr} (h : EE G A env e l R X) : EPt G A env (Option.some e) l R X := h
theorem EE.slice {lo hi : Option Expr} {pos : Pos} (h : EPt G A env lo l (fun a l₁ => EPt G A env hi l₁ (fun b l₂ => ∀ sl, R (.ref sl) ((sl, .fields "slice" [a, b, .none]) :: l₂)) X) X) : EE G A env (.Slice lo hi Option.none pos) l R X := fun s N =>
  wpAny_Slice (wpAny_mono (h s N) (fun v s₁ ⟨a, l₁, ha, N₁, h₁⟩ => wpAny_mono (h₁ s₁ N₁) (fun u s₂ ⟨b, l₂, hb, N₂, h₂⟩ => wpAny_pure
    ⟨.ref s₂.heap.objs.size, _, rfl, N₂.push (ao := .fields "slice" [a, b, .none]) rfl (PL.m1_1 ([v, u, .none]) (Heap.get?_push_size _ rfl) (.cons ha (.cons hb (.one rfl)))), h₂ _⟩) fun _ _ y => y) fun _ _ y => y)
inductive IPart : AV → Option Int → Prop
  | none : IPart .none Option.none
  | int {a : Int} : IPart (.int a) (Option.some a)
theorem IPart.of {a : AV} {i : Option Int} (h : IPart a i) {v : Value} (hv : a.Is v) : ∃ p : Option (Int × Tok), partValue p = v ∧ p.map (·.1) = i ∧ IsPart v i := by
  cases h with
  | none => cases hv; exact (PL.m1_2 (.none) rfl rfl (.none))
  | int => obtain ⟨t, rfl⟩ := hv; exact (PL.m1_2 (.some (_, t)) rfl rfl (.int _ _))
theorem Get.strSlice {x : Str} {sl : Addr} {a b : AV} {lo hi : Option Int} (hp : Pick (sl, .fields "slice" [a, b, .none]) l l') (ha : IPart a lo) (hb : IPart b hi) (hz : x.length ≤ 1000000) (h : R (.str (Txt.slice x lo hi)) l') : Op2 G A getItem (.str x) (.ref sl) l R X := fun v u ⟨t, hv⟩ hu s N => by
  subst hv; cases hu
  (refine PL.x1_1 (N.at hp) ?_; rintro vs ho hvs)
  (refine PL.x3_3 (get3 hvs) ?_; rintro va vb vc rfl h1 h2 h3)
  cases h3
  (refine PL.x1_2 (ha.of h1) ?_; rintro p rfl rfl _)
  (refine PL.x1_2 (hb.of h2) ?_; rintro q rfl rfl _)
  have N' := N.sub (l' := l') (.trans .tail (.perm hp.perm))
  exact wpAny_getItem_str_slice (l := p) (u := q) (st := .none) (PL.m1_2 _ ho rfl rfl) rfl
    (post_val_or_str ⟨Nat.le_trans (Txt.slice_le x _ _) (Nat.le_trans hz (by decide)), fun t' k => ⟨.str _, l', ⟨t', rfl⟩, N'.toks _, h⟩⟩)
theorem pick_all2 {xs : List AV} {vs : Array Value} (ha : AllIs xs vs.toList) : ∀ ns : List Nat, AllIs (ns.filterMap (xs[·]?)) (ns.filterMap (vs[·]?))
  | [] => .nil
  | n :: ns => by
    rw [List.filterMap_cons, List.filterMap_cons]
    cases e : xs[n]? with
    | none =>
      have := ha.none e
      rw [Array.getElem?_toList] at this
      rw [this]; exact pick_all2 ha ns
    | some a =>
      (refine PL.x1_1 (ha.get e) ?_; rintro b hb hab)
      rw [Array.getElem?_toList] at hb
      rw [hb]; exact .cons hab (pick_all2 ha ns)
/-- the items that a slice of a list picks -/
noncomputable def pickAV (xs : List AV) (lo hi : Option Int) : List AV := (sliceRange (sliceBounds lo hi none xs.length).1 (sliceBounds lo hi none xs.length).2.1 (sliceBounds lo hi none xs.length).2.2).filterMap (xs[·]?)
theorem Get.listSlice {p sl : Addr} {xs : List AV} {a b : AV} {lo hi : Option Int} (hs : Pick (sl, .fields "slice" [a, b, .none]) l l') {l'' : Led} (hp : Pick (p, .list xs) l' l'') (ha : IPart a lo) (hb : IPart b hi) (hz : xs.length < 1000000)
    (h : ∀ q, R (.ref q) ((q, .list (pickAV xs lo hi)) :: l')) : Op2 G A getItem (.ref p) (.ref sl) l R X := fun v u hv hu s N => by
  cases hv; cases hu
  (refine PL.x1_1 (N.at hs) ?_; rintro vs ho hvs)
  (refine PL.x3_3 (get3 hvs) ?_; rintro va vb vc rfl h1 h2 h3)
  cases h3
  (refine PL.x1_2 (ha.of h1) ?_; rintro _ _ _ pa)
  (refine PL.x1_2 (hb.of h2) ?_; rintro _ _ _ pb)
  have N' := N.sub (l' := l') (.trans .tail (.perm hs.perm))
  (refine PL.x1_1 (N'.at hp) ?_; rintro ws hl hw)
  have hlen : ws.size = xs.length := by rw [← Array.length_toList, ← hw.length]
  refine wpAny_getItem_list_slice hl.isList (PL.m1_2 _ ho rfl rfl) pa pb .none (by simp) ?_ (by rw [hlen]; exact Nat.le_trans (Nat.le_of_lt hz) (by decide))
  refine ⟨.ref s.heap.objs.size, _, rfl, N'.push (ao := .list (pickAV xs lo hi)) rfl (PL.m1_1 _ (⟨0, Heap.get?_push_size _ rfl⟩) ?_), h _⟩
  unfold slicePick pickAV
  rw [hlen]
  exact pick_all2 hw _
/-! the tail of a subscript by a slice -/
end
/-! two stores at once -/
section
variable {G : Gd} {A : Around} {env : Env} {l l' : Led} {X : Xp} {names : List (Str × NameKind)} {L : Addr} {cl : List (Str × Addr)}
theorem stores2 {a b : Str} {pa pb tp vp : Pos} {k k2 : Nat} {v1 v2 : Expr} (hE : EnvOk env names L cl) (ha : LookT a .local names) (hb : LookT b .local names) (hl : (pb.line == pa.line) = true) (hab : (b == a) = false)
    (h1 : ([v1, v2].any fun | .Starred .. => true | _ => false) = false) (h2 : [v1, v2].all (foldedForSure 8) = false) (h3 : [v1, v2].all (constantsAlone 8) = false) :
    swappedStores [.Tuple [.Name a pa, .Name b pb] k tp] (.Tuple [v1, v2] k2 vp) env = pure (some [a, b]) := by
  have ka := hE.kindOf ha
  have kb := hE.kindOf hb
  have bk : (env.blockKind != .function) = false := by
    unfold Env.blockKind; rw [hE.kind]; rfl
  unfold swappedStores
  simp only [List.length_cons, List.length_nil, bk, h1, h2, h3, List.filterMap_cons, ka, kb, List.head?_cons, Option.map_some, Option.getD_some, Expr.pos, beq_self_eq_true, Bool.and_true, if_true, hl, List.filterMap_nil, Bool.false_eq_true, if_false]
  rw [if_neg (by decide), if_neg (by rw [Bool.not_eq_true]; exact h1)]
  have e : [a, b].eraseDups = [a, b] := by simp [List.eraseDups_cons, hab]
  rw [e]
  rfl
/-- the stores, one after the other -/
noncomputable def AIO (G : Gd) (A : Around) (ts : List (Value → Sem Unit)) (as : List AV) (l : Led) (R : Led → Prop) (X : Xp) : Prop := ∀ vs, AllIs as vs → Tr G A (assignInOrder ts vs) (fun (_ _ : Unit) => True) l (fun _ l' => R l') X
theorem AIO.nil {as : List AV} {R : Led → Prop} (h : R l) : AIO G A [] as l R X := fun vs _ s N => by cases vs <;> exact assignInOrder_nil ⟨(), l, trivial, N, h⟩
theorem AIO.cons {t : Value → Sem Unit} {ts : List (Value → Sem Unit)} {a : AV} {as : List AV} {R : Led → Prop} (h : ∀ v, a.Is v → Tr G A (t v) (fun (_ _ : Unit) => True) l (fun _ l₁ => AIO G A ts as l₁ R X) X) : AIO G A (t :: ts) (a :: as) l R X := fun vs hvs s N => by
  (refine PL.x2_2 (hvs.consL) ?_; rintro v us rfl hv hu)
  exact assignInOrder_cons (wpAny_mono (h v hv s N) (fun _ s₁ ⟨_, l₁, _, N₁, h₁⟩ => h₁ us hu s₁ N₁) fun _ _ y => y)
theorem AIO.asg {e : Expr} {ts : List (Value → Sem Unit)} {a : AV} {as : List AV} {R : Led → Prop} (h : Asg G A env e a l (fun l₁ => AIO G A ts as l₁ R X) X) : AIO G A (assign e env :: ts) (a :: as) l R X := AIO.cons h
theorem AIO.bind {x : Str} {ts : List (Value → Sem Unit)} {a : AV} {as : List AV} {R : Led → Prop} (h : StN G A env x a l (fun l₁ => AIO G A ts as l₁ R X) X) : AIO G A ((fun v => bindName env x v) :: ts) (a :: as) l R X := AIO.cons fun v hv s N => bindName_ (h v hv s N)
theorem StN.mono {x : Str} {a : AV} {R R' : Led → Prop} (h : StN G A env x a l R X) (hR : ∀ l, R l → R' l) : StN G A env x a l R' X := fun v hv => (h v hv).mono (fun _ _ q => hR _ q) fun _ _ q => q
theorem SS.swap2 {a b : Str} {pa pb tp vp pos : Pos} {k k2 n : Nat} {v1 v2 : Expr} {R : AF → Led → Prop} (hr : Room A n) (hE : EnvOk env names L cl) (ha : LookT a .local names) (hb : LookT b .local names)
    (h : EE G A env (.Tuple [v1, v2] k2 vp) l (fun t l₁ => ∃ p x y l₂, t = .ref p ∧ Pick (p, .tuple [x, y]) l₁ l₂ ∧ StN G A env b y l₂ (fun l₃ => StN G A env a x l₃ (fun l₄ => R .next l₄) X) X) X)
    (hl : (pb.line == pa.line) = true := by rfl) (hab : (b == a) = false := by decide)
    (h1 : ([v1, v2].any fun | .Starred .. => true | _ => false) = false := by with_unfolding_all rfl) (h2 : [v1, v2].all (foldedForSure 8) = false := by with_unfolding_all rfl) (h3 : [v1, v2].all (constantsAlone 8) = false := by with_unfolding_all rfl) :
    SS G A env (.Assign [.Tuple [.Name a pa, .Name b pb] k tp] (.Tuple [v1, v2] k2 vp) pos) l R X := fun s N =>
  Assign_Tuple_swapped (wpAny_mono (h s N) (fun v s₁ ⟨t, l₁, ht, N₁, p, x, y, l₂, e, hp, h₁⟩ => by
    subst e; cases ht
    (refine PL.x1_1 (N₁.at hp) ?_; rintro vs ho hvs)
    (refine PL.x2_2 (get2 hvs) ?_; rintro u w rfl hu hw)
    refine wpAny_unpackItems_tuple (items := #[u, w]) hr.h ⟨_, ho, rfl, 0, rfl⟩ fun h' hk => ?_
    have N' : Rep G { s₁ with heap := h' } l₂ := (N₁.sub (.trans .tail (.perm hp.perm))).ext (tk := s₁.toks) fun b o e => hk b o (Nat.ne_of_lt (Heap.lt_size e)) e
    show wpAny _ _ (assignInOrder [fun v => bindName env b v, fun v => bindName env a v] [w, u]) _ _ _
    refine wpAny_mono (AIO.bind (R := fun l => R .next l) (StN.mono h₁ fun l₃ h₃ => AIO.bind (StN.mono h₃ fun l₄ h₄ => AIO.nil h₄)) [w, u] (.cons hw (.cons hu .nil)) _ N') (fun _ s₃ ⟨_, l₃, _, N₃, h₃⟩ => ⟨.next, l₃, rfl, N₃, h₃⟩) fun _ _ y => y) fun _ _ y => y) rfl (stores2 hE ha hb hl hab h1 h2 h3)
end
end PL
end
section
open PySem PySem.Calls PyProof.Rows PySem.W
set_option autoImplicit false
set_option linter.unusedVariables false
set_option maxRecDepth 100000
set_option maxHeartbeats 0
namespace PL
structure CodeOk (G : Gd) (c P : Addr) : Prop where
  hd : CodeHd G.t c P
  bm : ∃ mg, G.t.Ns mainGlobals mg ∧ ∃ bm ob, mg "__builtins__" = some (.ref bm) ∧ bm ≠ builtinsNs ∧ bm ≠ mainGlobals ∧ G.t.get? bm = some ob ∧ ob.cls = .type "module" ∧ ob.dict = some builtinsNs ∧ ob.data = .plain
section
variable {G : Gd} {A : Around} {env : Env} {l l' : Led} {X : Xp} {R : AV → Led → Prop} {names : List (Str × NameKind)} {L : Addr} {cl : List (Str × Addr)}
theorem EE.lambda {params : Arguments} {body : Expr} {scope : Scope} {pos : Pos} {c P : Addr} (hE : EnvOk env names L cl) (hc : env.code = .ref c) (hC : CodeOk G c P) (hp : Pick (P, .tab) l l')
    (h : ∀ f, R (.ref f) ((f, .typed "function") :: (P, .tab) :: l')) (hdef : defaultsOf params env = ([], []) := by with_unfolding_all rfl) (hcl : closureFor scope env = pure [] := by with_unfolding_all rfl) : EE G A env (.Lambda params body scope pos) l R X := fun s N => by
  (refine PL.x1_1 (N.at hp) ?_; rintro ps hP ht)
  obtain ⟨mg, hg, bm, ob, b1, b2, b3, b4, b5, b6, b7⟩ := hC.bm
  have hPt : G.t.get? P = Option.none := N.fresh hp
  have hbP : bm ≠ P := fun q => by rw [q, hPt] at b4; cases b4
  have hgP : mainGlobals ≠ P := fun q => by (revert hg; refine PL.j3_1 ?_; rintro o es ep e _); rw [q, hPt] at e; cases e
  have hB : s.heap.BuiltinsAt mg P := (PL.m2_7 bm ob b1 b2 b3 hbP (N.keep _ _ b4) b5 b6 b7)
  refine kla_eval hdef ?_
  cases hf : codeAmong pos ps.toList with
  | none =>
    refine kla_makeFunction hcl hE.globals (hg.keeps N.keep) hc (hC.hd.keeps N.keep) hP ht hf hgP hB fun c' ctv h' tk hx hge hlt hrec htb => ?_
    refine ⟨.ref h'.objs.size, _, rfl, ?_, h _⟩
    have N₁ := N.upd (tk := tk) (ao' := .tab) hp hx (PL.m1_1 _ htb (by simp only [Array.toList_append]; exact TriplesOk_snoc _ _ _ _ ht))
    exact N₁.push (ao := .typed "function") rfl (PL.m1_1 _ (Heap.get?_push_size _ rfl) rfl)
  | some cv =>
    refine kla_makeFunctionHit hcl hE.globals (hg.keeps N.keep) hc (hC.hd.keeps N.keep) hP ht hf hB fun ctv h' tk hk hsz => ?_
    refine ⟨.ref h'.objs.size, _, rfl, ?_, h _⟩
    have N₁ := (N.sub (l' := (P, .tab) :: l') (.perm hp.perm)).ext (tk := tk) hk
    exact N₁.push (ao := .typed "function") rfl (PL.m1_1 _ (Heap.get?_push_size _ rfl) rfl)
end
/-! the pattern's sub, where nothing is found -/
open Builtin Builtin.Re
noncomputable def drive : Nat → Sre.M → Sre.M
  | 0, m => m
  | n + 1, m => if (m.runFor reTurnSteps).outcome.isSome then m.runFor reTurnSteps else drive n (m.runFor reTurnSteps)
section
variable {M : Model} {A : Around} {E : Value → Shared → Prop} {s : Shared}
theorem wp_drive {Q : Sre.M → Shared → Prop} : ∀ (n k : Nat) (m : Sre.M), n ≤ k → (drive n m).outcome.isSome = true → Q (drive n m) s → m.outcome.isSome = false → wpAny M A (reDrive k m) Q E s
  | 0, k, m, _, ho, hq, hm => by rw [drive] at ho; rw [ho] at hm; cases hm
  | n + 1, 0, m, hk, _, _, _ => by omega
  | n + 1, k + 1, m, hk, ho, hq, hm => by
    unfold reDrive
    rw [drive] at ho hq
    show wpAny M A (if (m.runFor reTurnSteps).outcome.isSome then pure (m.runFor reTurnSteps) else do rule "sre.turn"; reDrive k (m.runFor reTurnSteps)) Q E s
    cases e : (m.runFor reTurnSteps).outcome.isSome with
    | true =>
      simp only [e, if_true] at ho hq
      rw [if_pos rfl]
      exact wpAny_pure hq
    | false =>
      simp only [e, Bool.false_eq_true, if_false] at ho hq
      rw [if_neg (by decide)]
      refine wpAny_bind (wpAny_rule ?_)
      exact wp_drive n k _ (by omega) ho hq e
theorem wp_rules {Q : Unit → Shared → Prop} (f : Nat → Bool) (g : Nat → String) : ∀ (ns : List Nat), Q () s → wpAny M A (forIn ns PUnit.unit fun i _ => if f i = true then do rule (g i); pure (ForInStep.yield PUnit.unit) else pure (ForInStep.yield PUnit.unit)) (fun _ => Q ()) E s
  | [], h => wpAny_pure h
  | n :: ns, h => by
    rw [List.forIn_cons]
    refine wpAny_bind ?_
    cases e : f n with
    | true =>
      rw [if_pos rfl]
      refine wpAny_bind (wpAny_rule (wpAny_pure ?_))
      exact wp_rules f g ns h
    | false =>
      rw [if_neg (by decide)]
      refine wpAny_pure ?_
      exact wp_rules f g ns h
theorem wp_found_none {t : ReTarget} {start : Nat} {must : Bool} {Q : Option Sre.M → Shared → Prop} (n : Nat) (hn : n ≤ 2 ^ 64) (h0 : (Sre.forSearch t.code t.text t.groups start t.lim must).outcome.isSome = false)
    (h1 : (drive n (Sre.forSearch t.code t.text t.groups start t.lim must)).outcome = some .failed) (h : Q none s) : wpAny M A (reNextFound t start must) Q E s := by
  unfold reNextFound reRunToEnd
  refine wpAny_bind (wp_drive n _ _ hn (by rw [h1]; rfl) ?_ h0)
  refine wpAny_bind (wpAny_mono (wp_rules (Q := fun _ s' => Q none s') _ _ _ h) (fun _ s' h' => ?_) fun _ _ y => y)
  rw [h1]
  exact wpAny_pure h'
end
/-- the concrete text and code -/
noncomputable def subCode : Array Nat := #[14, 14, 4, 1, 1, 9, 0, 64, 0, 1342177280, 0, 0, 0, 0, 0, 17, 0, 13, 11, 9, 0, 64, 0, 1342177280, 0, 0, 0, 0, 0, 17, 1, 1]
noncomputable def isFailed : Option Sre.Outcome → Bool
  | some .failed => true
  | _ => false
theorem isFailed_eq {o : Option Sre.Outcome} (h : isFailed o = true) : o = some .failed := by
  unfold isFailed at h
  split at h
  · rfl
  · cases h
noncomputable def noneFound (x : Str) : Bool := (Sre.forSearch subCode x.cps 1 0 x.cps.size false).outcome.isSome == false && isFailed (drive 64 (Sre.forSearch subCode x.cps 1 0 x.cps.size false)).outcome
theorem nf1 : noneFound "!a" = true := by decide +kernel
theorem nf2 : noneFound "ab" = true := by decide +kernel
theorem nf3 : noneFound "!b" = true := by decide +kernel
end PL
end
section
open PySem PySem.Calls PyProof.Rows PySem.W
set_option autoImplicit false
set_option linter.unusedVariables false
set_option maxRecDepth 100000
set_option maxHeartbeats 0
namespace PL
open Builtin Builtin.Re
theorem sub_entry : entryFor table "re.Pattern.sub" = some Builtin.«re.Pattern.sub» := entryFor_of_tree (by kernel_rfl)
theorem subl_entry : entryFor table "re.Pattern.sub.loop" = some Builtin.«re.Pattern.sub.loop» := entryFor_of_tree (by kernel_rfl)
theorem slot_sub : Slot "re.Pattern" "sub" "re.Pattern.sub" :=
  .of (owner := "re.Pattern") (n := "sub") (by rw [typeLookup_type, builtinLookup_eq_fast]; kernel_rfl) (by decide +kernel) (by decide +kernel) (by decide +kernel)
    (by first | exact .inl (by decide +kernel) | exact .inr (by decide +kernel)) (by rw [isSubtype_type]; kernel_rfl)
theorem args_sub (a b c : Value) : argsOk "re.Pattern.sub" ⟨[a, b, c], []⟩ := by unfold argsOk; kernel_rfl
theorem fn_call : typeLookup (.type "function") "__call__" = pure (some (.builtin "function.__call__")) := by rw [typeLookup_type, builtinLookup_eq_fast]; kernel_rfl
theorem sub_plain : PlainAttrs "re.Pattern" :=
  ⟨(PL.m1_1 ("object.__getattribute__") (by rw [typeLookup_type, builtinLookup_eq_fast]; kernel_rfl) (by decide +kernel)), by rw [typeLookup_type, builtinLookup_eq_fast]; kernel_rfl⟩
theorem sub_type : typeOf (.builtin "re.Pattern.sub") = pure (.type "method_descriptor") := by show builtinType _ = _; rw [builtinType_eq_fast]; kernel_rfl
theorem str_ba : isSubtype (.type "str") (.type "bytearray") = pure false := by rw [isSubtype_type]; kernel_rfl
theorem named (a b : Value) : reNamed "re.Pattern.sub" "sub" ["repl", "string", "count"] 2 [a, b] [] = pure [some a, some b, none] := by with_unfolding_all rfl

theorem sub_outer {prog : Program} {w : World} {A : Around} {E : Value → Shared → Prop} {s : Shared} {pat cd f : Addr} {x : Str} {t : Tok} {a0 : Value} {fl : Int} {tf tg th : Tok} {items : Array Value} {k : Nat} {of : Obj} {Q : Fin → Shared → Prop}
    (hp : s.heap.get? pat = some { cls := .type "re.Pattern", data := .fields #[a0, .int fl tf, .int 1 tg, .none, .none, .ref cd, .int 0 th] })
    (hcd : s.heap.get? cd = some { cls := .type "tuple", data := .seq items k }) (hf : s.heap.get? f = some of) (hfc : of.cls = .type "function")
    (h : ∀ p h' tk, p = s.heap.objs.size → h' = s.heap.push { cls := .type "list", data := .seq #[] } → Q (.again (.builtin "re.Pattern.sub.loop" ⟨[.ref pat, .str x t, .ref f, rawInt 1, rawInt 0, rawInt 0, rawInt 0, rawInt 0, .bool false, .ref p, .bool false], []⟩)) { s with heap := h', toks := tk }) :
    wpAny (model prog w) A (Builtin.«re.Pattern.sub» ⟨[.ref pat, .ref f, .str x t], []⟩) Q E s := by
  obtain ⟨hp', g, d, tk, os⟩ := s
  have hT : (⟨hp', g, d, tk, os⟩ : Shared).TypeIs (.ref f) "function" := (PL.m1_1 _ hf hfc)
  have l1 := fn_call
  have l2 := str_ba
  unfold Builtin.«re.Pattern.sub» reSubstitute
  show wpAny _ _ (reNamed "re.Pattern.sub" "sub" ["repl", "string", "count"] 2 [.ref f, .str x t] [] >>= _) _ _ _
  rw [named]
  repeat (any_goals (first | assumption | wp_step))
  exact h _ _ _ rfl rfl

noncomputable def Stop (p : Prop) : Prop := p
theorem found_stop {M : Model} {A : Around} {E : Value → Shared → Prop} {s : Shared} {t : ReTarget} {start : Nat} {must : Bool} {Q : Option Sre.M → Shared → Prop} (h0 : (Sre.forSearch t.code t.text t.groups start t.lim must).outcome.isSome = false)
    (h1 : (drive 64 (Sre.forSearch t.code t.text t.groups start t.lim must)).outcome = some .failed) (h : Stop (Q none s)) : wpAny M A (reNextFound t start must) Q E s := wp_found_none 64 (by decide) h0 h1 h
theorem join_one {prog : Program} {w : World} {A : Around} {E : Value → Shared → Prop} {s : Shared} {p : Addr} {k : Nat} {y x : Str} {t u : Tok} {Q : Value → Shared → Prop} (hp : s.heap.get? p = some { cls := .type "list", data := .seq #[.str x t] k })
    (h : Q (.str x t) s) : wpAny (model prog w) A (call (.builtin "str.join") [.str y u, .ref p]) Q E s := by
  refine wpAny_call_entry F.slot_str_join (typeIs_str s y u) F.entry_str_join ?_ (F.args_str_join_2 _ _)
  obtain ⟨other, e⟩ := join_tree y u p
  rw [e]
  refine wpAny_bind (wpAny_typeOf (T := "list") (PL.m1_1 _ hp rfl) ?_)
  rw [if_pos (by decide)]
  refine wpAny_bind (wpAny_seqItems hp rfl ?_)
  show wpAny _ _ (do rule "str.join.same-object"; ret (.str x t)) _ _ _
  exact wpAny_bind (wpAny_rule (wpAny_pure (PL.m1_1 _ rfl h)))
theorem sub_loop {prog : Program} {w : World} {A : Around} {E : Value → Shared → Prop} {s : Shared} {pat cd f p : Addr} {x : Str} {t : Tok} {a0 : Value} {fl : Int} {tf tg th : Tok} {items : Array Value} {k : Nat} {Q : Fin → Shared → Prop}
    (hp : s.heap.get? pat = some { cls := .type "re.Pattern", data := .fields #[a0, .int fl tf, .int 1 tg, .none, .none, .ref cd, .int 0 th] })
    (hcd : s.heap.get? cd = some { cls := .type "tuple", data := .seq items k }) (hit : (items.map reRawOf).map (·.toNat) = subCode) (hl : s.heap.get? p = some { cls := .type "list", data := .seq #[] }) (hx : noneFound x = true) (h0 : 0 < x.cps.size) (hz : x.cps.size ≤ 1000)
    (h : ∀ h' tk u, Heap.ExtBut p s.heap h' → Q (.done (.ret (.str x u))) { s with heap := h', toks := tk }) :
    wpAny (model prog w) A (Builtin.«re.Pattern.sub.loop» ⟨[.ref pat, .str x t, .ref f, rawInt 1, rawInt 0, rawInt 0, rawInt 0, rawInt 0, .bool false, .ref p, .bool false], []⟩) Q E s := by
  obtain ⟨hp', g, d, tk, os⟩ := s
  have hx' := Bool.and_eq_true_iff.mp hx
  unfold Builtin.«re.Pattern.sub.loop»
  have ha : (Sre.forSearch subCode x.cps 1 0 x.cps.size false).outcome.isSome = false := by simpa using hx'.1
  have hb := isFailed_eq hx'.2
  rw [← hit] at ha hb
  repeat (any_goals (first | assumption | ((with_reducible show wpAny _ _ (reNextFound _ _ _) _ _ _); refine found_stop ?h0 ?h1 ?_) | wp_step))
  unfold Stop
  show wpAny _ _ (do if (0 : Int).toNat < x.cps.size then updateSeq p (·.push (← mkStr ⟨x.cps.extract 0 x.cps.size⟩))
                     let joiner ← mkStr ⟨x.cps.extract 0 0⟩
                     let text ← if ((← seqItems? (.ref p)).getD #[]).isEmpty then pure joiner else call (.builtin "str.join") [joiner, .ref p]
                     ret text) _ _ _
  have hex : x.cps.extract 0 x.cps.size = x.cps := by simp
  have hfit : x.cps.size ≤ sizeLine := Nat.le_trans hz (by decide)
  dsimp only
  rw [if_pos (show Int.toNat 0 < x.cps.size from h0), hex]
  refine wpAny_bind (wpAny_mkStr ?_ hfit)
  refine wpAny_bind (wpAny_updateSeq hl rfl ?_)
  refine wpAny_bind (wpAny_mkStr ?_ (by simp [Str.length]))
  have hl' := Heap.get?_update_self (Obj.mapSeq (·.push (.str x tk))) hl (by rw [Obj.mapSeq_push_plain]; rfl)
  rw [Obj.mapSeq_push_plain] at hl'
  refine wpAny_bind (wpAny_seqItems hl' rfl ?_)
  rw [if_neg (by simp)]
  refine wpAny_bind (join_one hl' ?_)
  exact wpAny_pure (h _ _ _ (Heap.SameBut.update ..).extBut)
structure SubOk (G : Gd) (pat : Addr) : Prop where
  ok : ∃ a0 fl tf tg cd th items k, G.t.get? pat = some { cls := .type "re.Pattern", data := .fields #[a0, .int fl tf, .int 1 tg, .none, .none, .ref cd, .int 0 th] } ∧ G.t.get? cd = some { cls := .type "tuple", data := .seq items k } ∧ (items.map reRawOf).map (·.toNat) = subCode
theorem subl_plain : plainId "re.Pattern.sub.loop" = true := by decide +kernel
section
variable {G : Gd} {A : Around} {env : Env} {l l' : Led} {X : Xp} {R : AV → Led → Prop}
theorem OfT.keep {a : Addr} {o : Obj} {T : String} (ho : G.t.get? a = some o) (hc : o.cls = .type T) (hd : o.dict = none) : OfT G (.ref a) T l := fun v s e N => by
  cases e
  exact ⟨(PL.m1_1 o (N.keep _ _ ho) hc), fun b e => by cases e; exact (PL.m1_1 o (N.keep _ _ ho) hd)⟩
theorem bm_sub : BM "re.Pattern" "sub" "re.Pattern.sub" := ⟨sub_plain, slot_sub, sub_type⟩
theorem GM.sub {pat : Addr} {R : AV → List AV → Led → Prop} (hS : SubOk G pat) (h : R (.lit (.builtin "re.Pattern.sub")) [.ref pat] l) : GM G A "sub" (.ref pat) l R X :=
  let ⟨_, _, _, _, _, _, _, _, h1, _⟩ := hS.ok
  GM.builtin bm_sub (OfT.keep h1 rfl rfl) h
theorem CC.resub {pat f : Addr} {x : Str} (hS : SubOk G pat) (hf : Pick (f, .typed "function") l l') (hx : noneFound x = true) (h0 : 0 < x.cps.size) (hz : x.cps.size ≤ 1000) (h : R (.str x) l) : CC G A (.lit (.builtin "re.Pattern.sub")) [.ref pat, .ref f, .str x] l R X := fun g vs hg hvs s N => by
  cases hg
  obtain ⟨v, u, w, rfl, hv, hu, t, rfl⟩ := get3 hvs
  cases hv; cases hu
  obtain ⟨a0, fl, tf, tg, cd, th, items, k, h1, h2, h3⟩ := hS.ok
  obtain ⟨of, hfo, hfc⟩ := N.at hf
  have k1 := N.keep _ _ h1
  have k2 := N.keep _ _ h2
  refine wpAny_call (codeAny_call_builtin slot_sub.plain sub_entry (slot_sub.check _ _ _ _ _ _ _ _ ⟨_, k1, rfl⟩ (args_sub _ _ _) ?_))
  refine sub_outer k1 k2 hfo hfc fun p h' tk e1 e2 => ?_
  subst e1 e2
  refine ⟨plainId_quiet subl_plain _, codeAny_builtin subl_entry ?_⟩
  rw [Around.under_plainId subl_plain]
  have hk : ∀ b o, s.heap.get? b = some o → (s.heap.push { cls := .type "list", data := .seq #[] }).get? b = some o := fun b o e => Heap.get?_push_of_some _ e
  refine sub_loop (hk _ _ k1) (hk _ _ k2) h3 (Heap.get?_push_size _ rfl) hx h0 hz fun h' tk' u hx' => ?_
  refine ⟨.str x, l, ⟨u, rfl⟩, ?_, h⟩
  exact N.ext fun b o e => hx' b o (Nat.ne_of_lt (Heap.lt_size e)) (hk _ _ e)
end
end PL
end
section
open PySem PySem.Calls PyProof.Rows PySem.W
set_option autoImplicit false
set_option linter.unusedVariables false
set_option maxRecDepth 100000
set_option maxHeartbeats 0
namespace PL
section
variable {G : Gd} {A : Around} {env : Env} {l l' : Led} {X : Xp} {R : AV → Led → Prop} {names : List (Str × NameKind)} {L : Addr} {cl : List (Str × Addr)}
/-! f-strings -/
theorem EE.fmt {value : Expr} {pos : Pos} (h : EE G A env value l (fun a l₁ => ∃ x, a = .str x ∧ x.length ≤ 10000 ∧ R (.str x) l₁) X) : EE G A env (.FormattedValue value (-1) Option.none pos) l R X := fun s N =>
  FormattedValue_plain (wpAny_mono (h s N) (fun v s₁ ⟨a, l₁, ha, N₁, x, e, hz, h₁⟩ => by
    subst e; obtain ⟨t, rfl⟩ := ha
    exact formatField_str (fun t' tk => ⟨.str x, l₁, ⟨t', rfl⟩, N₁.toks _, h₁⟩) (Nat.le_trans hz (by decide))) fun _ _ y => y)
noncomputable def JP (G : Gd) (A : Around) (out : Str) (ts : List (Sem Value)) (l : Led) (R : AV → Led → Prop) (X : Xp) : Prop := Tr G A (joinParts out ts) AV.Is l R X
theorem JP.nil {out : Str} (hz : out.length ≤ 10000) (h : R (.str out) l) : JP G A out [] l R X := fun s N => joinParts_nil ⟨.str out, l, ⟨_, rfl⟩, N.toks _, h⟩ (Nat.le_trans hz (by decide))
theorem JP.cons {out : Str} {e : Expr} {ts : List (Sem Value)} (h : EE G A env e l (fun a l₁ => ∃ y, a = .str y ∧ (out ++ y).length ≤ 10000 ∧ JP G A (out ++ y) ts l₁ R X) X) : JP G A out (eval e env :: ts) l R X := fun s N =>
  joinParts_cons (wpAny_mono (h s N) (fun v s₁ ⟨a, l₁, ha, N₁, y, e, hz, h₁⟩ => by
    subst e; obtain ⟨t, rfl⟩ := ha
    exact ⟨Nat.le_trans hz (by decide), h₁ s₁ N₁⟩) fun _ _ y => y)
theorem EE.joined {v1 v2 v3 : Expr} {pos : Pos} (h : JP G A Str.empty [eval v1 env, eval v2 env, eval v3 env] l R X) : EE G A env (.JoinedStr [v1, v2, v3] pos) l R X := fun s N => JoinedStr_many (h s N)
/-! in a tuple -/
theorem Op2.inDataT {a c : AV} {xs : List PyData} {d : PyData} {n : Nat} (hr : Room A n) (hc : RD l c (.tuple xs)) (ha : RD l a d) (hxs : PyData.canLayAll0 xs = true) (hd : d.canLay0 = true) (hu : PyData.depthAll xs ≤ 50) (h : R (.bool (xs.any fun y => PyData.eqv y d)) l) :
    Op2 G A (compareOp .In) a c l R X := fun v u hv hu' s N => by
  obtain ⟨as, rc⟩ := hc.reads N u hu'
  obtain ⟨bs, ra⟩ := ha.reads N v hv
  exact SeqAt.in_tuple_reads rc ra hxs hd (by have := hr.u; omega) ⟨.bool _, l, rfl, N, h⟩
/-! a tuple of targets -/
theorem Asg.tup {elts : List Expr} {k : Nat} {pos : Pos} {p : Addr} {as : List AV} {n : Nat} {R : Led → Prop} (hr : Room A n) (hp : Pick (p, .tuple as) l l') {ts : List (Value → Sem Unit)} (h : AIO G A ts as l' R X)
    (hts : (assignEach elts env).map (·.2) = ts := by with_unfolding_all rfl) (hn : (assignEach elts env).length = as.length := by with_unfolding_all rfl) (hst : (assignEach elts env).findIdx? (·.1) = Option.none := by with_unfolding_all rfl) : Asg G A env (.Tuple elts k pos) (.ref p) l R X := fun v hv s N => by
  cases hv
  (refine PL.x1_1 (N.at hp) ?_; rintro vs ho ha)
  refine wpAny_assign_Tuple (items := vs.toArray) hr.h ⟨_, ho, rfl, 0, rfl⟩ (by rw [hn, ha.length]; simp) hst fun h' hk => ?_
  have N' : Rep G { s with heap := h' } l' := (N.sub (.trans .tail (.perm hp.perm))).ext (tk := s.toks) fun b o e => hk b o (Nat.ne_of_lt (Heap.lt_size e)) e
  rw [hts]
  exact h _ ha _ N'
end
end PL
end
section
open PySem PySem.Calls PyProof.Rows PySem.W
set_option autoImplicit false
set_option linter.unusedVariables false
set_option maxRecDepth 100000
set_option maxHeartbeats 0
namespace PL
/-! comprehensions -/
noncomputable def relN (cn names : List (Str × NameKind)) : List (Str × NameKind) := cn.map fun (n, k) => if (k == .free && names.lookup n == some .cell) then (n, .cell) else (n, k)
noncomputable def closL (cl : List (Str × Addr)) : List (Str × NameKind) → List (Str × Addr) → List (Str × Addr)
  | [], acc => acc
  | (x, k) :: r, acc => if k == .free then (match cl.lookup x with | some c => closL cl r ((x, c) :: acc) | none => closL cl r acc) else closL cl r acc
theorem relabel_eq {env : Env} {names : List (Str × NameKind)} {L : Addr} {cl : List (Str × Addr)} {scope : Scope} (hE : EnvOk env names L cl) : (relabel scope env).names = relN scope.names names := by
  unfold relabel relN
  dsimp only
  apply List.map_congr_left
  intro p hp
  obtain ⟨n, k⟩ := p
  have : env.kindOf n = names.lookup n := by show env.scope.names.lookup n = _; rw [hE.hnames]
  rw [this, hE.kind]
  simp
theorem closure_eq {env : Env} {names : List (Str × NameKind)} {L : Addr} {cl : List (Str × Addr)} {scope : Scope} (hE : EnvOk env names L cl) (h : (scope.names.all fun p => p.2 != .free || (cl.lookup p.1).isSome) = true) : closureFor scope env = pure (closL cl scope.names []) := by
  unfold closureFor
  have go : ∀ (cn : List (Str × NameKind)) (acc : List (Str × Addr)), (cn.all fun p => p.2 != .free || (cl.lookup p.1).isSome) = true →
      (forIn cn acc fun (x : Str × NameKind) (cs : List (Str × Addr)) => if x.2 == .free then (do let c ← cellOf env x.1; pure (ForInStep.yield ((x.1, c) :: cs))) else pure (ForInStep.yield cs) : Sem (List (Str × Addr))) = pure (closL cl cn acc) := by
    intro cn
    induction cn with
    | nil => intro acc _; rfl
    | cons p r ih =>
      obtain ⟨x, k⟩ := p
      intro acc hp
      rw [List.all_cons, Bool.and_eq_true] at hp
      rw [List.forIn_cons]
      unfold closL
      cases hk : k == NameKind.free with
      | true =>
        have e : k = .free := by simpa using hk
        have hs : (cl.lookup x).isSome = true := by have := hp.1; rw [e] at this; simpa using this
        obtain ⟨c, hc⟩ := Option.isSome_iff_exists.mp hs
        have hcell : cellOf env x = pure c := by unfold cellOf; rw [hE.hcells, hc]
        dsimp only
        rw [hcell, hc]
        exact ih _ hp.2
      | false => exact ih _ hp.2
  exact congrArg (fun t => t >>= fun cs => pure cs) (go scope.names [] h) |>.trans rfl
theorem cellsFrom_app : ∀ (cn : List (Str × NameKind)) (n : Nat) (acc : List (Str × Addr)), cellsFrom n cn acc = cellsFrom n cn [] ++ acc
  | [], n, acc => rfl
  | (x, k) :: r, n, acc => by
    unfold cellsFrom
    split
    · rw [cellsFrom_app r (n + 1) ((x, n) :: acc), cellsFrom_app r (n + 1) [(x, n)], List.append_assoc]; rfl
    · exact cellsFrom_app r n acc
noncomputable def cellNone : List (Str × Addr) → Led
  | [] => []
  | (_, c) :: r => (c, .cell none) :: cellNone r
theorem cellNone_mem {cs : List (Str × Addr)} : ∀ {p : Addr × AO}, p ∈ cellNone cs → ∃ n, (n, p.1) ∈ cs ∧ p.2 = .cell none := by
  induction cs with
  | nil => intro p h; cases h
  | cons q r ih =>
    obtain ⟨n, c⟩ := q
    intro p h
    rcases List.mem_cons.mp h with rfl | h
    · exact (PL.m1_1 n (.head _) rfl)
    · (refine PL.x1_1 (ih h) ?_; rintro m h1 h2); exact (PL.m1_1 m (.tail _ h1) h2)
theorem cellNone_nodup {cs : List (Str × Addr)} (h : cs.Pairwise fun x y => x.2 ≠ y.2) : ((cellNone cs).map (·.1)).Nodup := by
  induction cs with
  | nil => exact List.nodup_nil
  | cons q r ih =>
    obtain ⟨n, c⟩ := q
    obtain ⟨h1, h2⟩ := List.pairwise_cons.mp h
    show (c :: (cellNone r).map (·.1)).Nodup
    refine List.nodup_cons.mpr ⟨fun hm => ?_, ih h2⟩
    (refine PL.x1_1 (List.mem_map.mp hm) ?_; rintro p hp e)
    (refine PL.x1_1 (cellNone_mem hp) ?_; rintro m hm' _)
    exact h1 _ hm' e.symm
section
variable {G : Gd} {A : Around} {env : Env} {l l' : Led} {X : Xp} {names : List (Str × NameKind)} {L : Addr} {cl : List (Str × Addr)}
/-- the comprehension's environment -/
theorem comp_env {scope : Scope} {cl2 : List (Str × Addr)} (hE : EnvOk env names L cl) (hk : scope.kind = .function) (hnd : ((relN scope.names names).map fun p => p.1).Nodup) (hcd : (cellKeys scope.names (cl2.map fun p => p.1)).Nodup)
    (hpl : ∀ p ∈ relN scope.names names, (p.1 == ("__debug__" : Str)) = false ∧ (p.1 == ("__classdict__" : Str)) = false)
    {s : Shared} (N : Rep G s l) {Q : Env → Shared → Prop} {Ex : Value → Shared → Prop}
    (h : ∀ cenv C own s', cenv.locals = C → own.map (fun p : Str × Addr => p.1) = cellKeys scope.names [] → EnvOk { cenv with scope := relabel scope env } (relN scope.names names) C (own ++ cl2) →
      Rep G s' ((C, .ns (relN scope.names names) (scope.names.map fun _ => none)) :: (cellNone own ++ l)) → Q cenv s') :
    wpAny (model G.prog G.w) A (newFunctionEnv scope env.globals cl2 [] env.qual none .none (some env)) Q Ex s := by
  simp only [newFunctionEnv, Option.isSome_some, if_true]
  refine wpAny_bind (wpAny_alloc ?_)
  refine wpAny_bind (wpAny_layCells _ (fun name kind cells => by cases hkc : kind == NameKind.cell <;> simp [hkc]) _ _ _ _ ?_)
  rw [List.forIn_nil]
  refine wpAny_bind (wpAny_pure ?_)
  have ok := cellsFrom_ok scope.names (s.heap.push { cls := .type "dict", data := .dict #[] }) (s.heap.objs.size + 1) [] ⟨fun _ _ hm => (nomatch hm), List.Pairwise.nil⟩ (by rw [Heap.size_push]; exact Nat.le_refl _)
  rw [Heap.size_push] at ok
  rw [show ({ s with heap := s.heap.push { cls := .type "dict", data := .dict #[] } } : Shared).heap.objs.size = s.heap.objs.size + 1 from Heap.size_push ..]
  have happ := cellsFrom_app scope.names (s.heap.objs.size + 1) cl2
  refine wpAny_pure (h _ s.heap.objs.size (cellsFrom (s.heap.objs.size + 1) scope.names []) _ rfl ?_ ?_ ?_)
  · rw [cellKeys_of]; rfl
  · refine ⟨hk, relabel_eq hE, hnd, rfl, happ, ?_, hE.globals, hE.builtins, hpl⟩
    have e := cellKeys_of scope.names (s.heap.objs.size + 1) cl2
    rw [happ] at e
    rw [e]; exact hcd
  · have keep : ∀ b o, s.heap.get? b = some o → (pushCells (s.heap.push { cls := .type "dict", data := .dict #[] }) scope.names).get? b = some o := fun b o e => pushCells_keeps _ _ b o (Heap.get?_push_of_some _ e)
    have low : ∀ p ∈ cellNone (cellsFrom (s.heap.objs.size + 1) scope.names []), s.heap.objs.size < p.1 := fun p hp => by
      (refine PL.x1_1 (cellNone_mem hp) ?_; rintro n hn _)
      exact (ok.empty n p.1 hn).2
    have := N.more (h' := pushCells (s.heap.push { cls := .type "dict", data := .dict #[] }) scope.names) (tk := s.toks) ((s.heap.objs.size, .ns (relN scope.names names) (scope.names.map fun _ => none)) :: cellNone (cellsFrom (s.heap.objs.size + 1) scope.names [])) keep ?_ ?_ ?_
    · exact this
    · show (s.heap.objs.size :: (cellNone _).map (·.1)).Nodup
      refine List.nodup_cons.mpr ⟨fun hm => ?_, cellNone_nodup ok.apart⟩
      (refine PL.x1_1 (List.mem_map.mp hm) ?_; rintro p hp e)
      exact Nat.lt_irrefl _ (e ▸ low p hp)
    · intro p hp
      rcases List.mem_cons.mp hp with rfl | hp
      · exact Heap.get?_none_of_le (Nat.le_refl _)
      · exact Heap.get?_none_of_le (Nat.le_of_lt (low p hp))
    · intro p hp
      rcases List.mem_cons.mp hp with rfl | hp
      · refine (PL.m1_1 _ ((Heap.Ns.new s.heap (.type "dict")).keeps (pushCells_keeps _ _)) (fun x k a q => ?_))
        exfalso
        have go : ∀ (ns : List (Str × NameKind)) (vs : List (Option AV)), (∀ o ∈ vs, o = none) → ¬ Look x k a ns vs := by
          intro ns vs hv q
          induction q with
          | here => have := hv _ (.head _); cases this
          | there _ ih => exact ih fun o ho => hv o (.tail _ ho)
        exact go _ _ (fun o ho => by (refine PL.x1_1 (List.mem_map.mp ho) ?_; rintro _ _ e); exact e.symm) q
      · (refine PL.x1_1 (cellNone_mem hp) ?_; rintro n hn e)
        rw [e]
        exact (PL.m1_1 none ((ok.empty n p.1 hn).1) trivial)
end
noncomputable def IT (G : Gd) (A : Around) (env : Env) (ifs : List Expr) (l : Led) (R : Bool → Led → Prop) (X : Xp) : Prop := Tr G A (forIn ifs true fun c r => if r = true then do let ok ← isTrue c env (eval c env); pure (ForInStep.yield ok) else pure (ForInStep.yield r)) (fun (b v : Bool) => v = b) l R X
section
variable {G : Gd} {A : Around} {env cenv : Env} {l l' : Led} {X : Xp}
theorem IT.nil {R : Bool → Led → Prop} (h : R true l) : IT G A env [] l R X := fun s N => wpAny_tests_nil ⟨true, l, rfl, N, h⟩
theorem IT.one {c : Expr} {R : Bool → Led → Prop} (h : TT G A env c l R X) : IT G A env [c] l R X := fun s N => wpAny_tests_one (h s N)
/-- the turn's end: the frame, what has been gathered, the rest -/
noncomputable def CEnd (F : Led) (C acc : Addr) (cn : List (Str × NameKind)) (vals : List (Option AV)) (xs : List AV) (J : Led → Prop) (l : Led) : Prop := ∃ K, Sub (F ++ ((C, .ns cn vals) :: (acc, .list xs) :: K)) l ∧ J K
theorem CEnd.mk {F : Led} {C acc : Addr} {cn : List (Str × NameKind)} {vals : List (Option AV)} {xs : List AV} {J : Led → Prop} {K : Led} (hJ : J K) (hs : Sub (F ++ ((C, .ns cn vals) :: (acc, .list xs) :: K)) l) : CEnd F C acc cn vals xs J l := (PL.m1_1 K hs hJ)
theorem comp_loop {elt target iter : Expr} {ifs : List Expr} {scope : Scope} {pos : Pos} {it : AV} {n : Nat} {F : Nat → Led} {Fm : Nat → AV → Led} {Fe : Led} {P : Nat → AV → Led → Prop} {T : Expr → Prop} (W : Walk G A it n F Fm Fe P T) (hT : T target) (hn : n < 1000000) {C acc : Addr} {cn : List (Str × NameKind)} {vals : List (Option AV)}
    (J : Nat → List AV → Led → Prop)
    (turn : ∀ k xs a E K, k < n → P k a E → J k xs K → Asg G A cenv target a (E ++ (F (k + 1) ++ ((C, .ns cn vals) :: (acc, .list xs) :: K))) (fun l₃ => IT G A cenv ifs l₃ (fun b l₄ =>
      (b = true → EE G A cenv elt l₄ (fun y l₅ => CEnd (F (k + 1)) C acc cn vals xs (J (k + 1) (xs ++ [y])) l₅) noX) ∧ (b = false → CEnd (F (k + 1)) C acc cn vals xs (J (k + 1) xs) l₄)) noX) noX)
    {R : Result → Shared → Prop} (fin : ∀ f s' xs K, Rep G s' (Fe ++ ((C, .ns cn vals) :: (acc, .list xs) :: K)) → J n xs K → R (.ok f) s')
    {iv : Value} (hit : it.Is iv) {s : Shared} {K₀ : Led} (N : Rep G s (F 0 ++ ((C, .ns cn vals) :: (acc, .list []) :: K₀))) (hJ0 : J 0 [] K₀) :
    codeAny (model G.prog G.w) A (.compStart (.ListComp elt [⟨target, iter, ifs, 0⟩] scope pos) 0 iv (.ref acc) cenv) R s := by
  have loop : ∀ {iv : Value} {s : Shared}, it.Is iv → Rep G s (F 0 ++ ((C, .ns cn vals) :: (acc, .list []) :: K₀)) → codeAny (model G.prog G.w) A (.compLoop (.ListComp elt [⟨target, iter, ifs, 0⟩] scope pos) 0 iv (.ref acc) cenv) R s := by
    intro iv s hit N
    refine codeAny_loop rfl (fun m s => ∃ k xs K, m = n - k ∧ k ≤ n ∧ xs.length ≤ k ∧ Rep G s (F k ++ ((C, .ns cn vals) :: (acc, .list xs) :: K)) ∧ J k xs K) (fun m s ⟨k, xs, K, hm, hk, hxl, N, hJ⟩ => ?_) n (PL.m3_4 0 ([]) K₀ (by omega) (Nat.zero_le _) (Nat.le_refl _) N hJ0)
    show wpAny _ A ((compTurn (.ListComp elt [⟨target, iter, ifs, 0⟩] scope pos) 0 iv (.ref acc) cenv).onRaise (fun x => do noteFrame x cenv; theTreesLotGoes x)) _ _ s
    refine wpAny_noted ?_
    rw [compTurn_list]
    refine wpAny_bind (wpAny_standAt (wpAny_bind ?_))
    have none_ex : ∀ {Q : Value → Shared → Prop} (e : Value) (s' : Shared), Px G noX e s' → Q e s' := fun e s' ⟨_, _, _, _, h⟩ => h.elim
    by_cases hlt : k < n
    · refine wpAny_mono (W.next k _ (fun o l => ∃ a E, o = some a ∧ P k a E ∧ l = E ++ (Fm (k + 1) a ++ ((C, .ns cn vals) :: (acc, .list xs) :: K))) noX hlt (fun a E hp => (PL.m2_2 a E rfl hp rfl)) iv hit s N) (fun r s₁ ⟨o, l₁, ho, N₁, a, E, e, hp, el⟩ => ?_) none_ex
      subst e el
      (revert ho; refine PL.j1_1 ?_; rintro u rfl hu)
      refine wpAny_bind (wpAny_mono (W.go k _ a E target (fun l => l = E ++ (F (k + 1) ++ ((C, .ns cn vals) :: (acc, .list xs) :: K))) noX hT hp rfl iv u hit hu s₁ N₁) (fun _ s₂ ⟨_, l₂, _, N₂, e⟩ => ?_) none_ex)
      subst e
      refine wpAny_bind (wpAny_mono (turn k xs a E K hlt hp hJ u hu s₂ N₂) (fun _ s₃ ⟨_, l₃, _, N₃, h₃⟩ => ?_) none_ex)
      refine wpAny_bind (wpAny_mono (h₃ s₃ N₃) (fun ok s₄ ⟨b, l₄, hb, N₄, h₄, h₅⟩ => ?_) none_ex)
      subst hb
      cases ok with
      | false =>
        (refine PL.x1_1 (h₅ rfl) ?_; rintro K' hs hJ')
        exact wpAny_pure ⟨rfl, n - (k + 1), by omega, k + 1, xs, K', rfl, hlt, by omega, N₄.sub hs, hJ'⟩
      | true =>
        refine wpAny_bind (wpAny_bind (wpAny_mono (h₄ rfl s₄ N₄) (fun y s₅ ⟨b, l₅, hb, N₅, K', hs, hJ'⟩ => wpAny_bind ?_) none_ex))
        have N₆ : Rep G s₅ ((acc, .list xs) :: (F (k + 1) ++ ((C, .ns cn vals) :: K'))) := N₅.sub (.trans (.perm (by
          refine List.Perm.trans ?_ List.perm_middle
          exact List.Perm.append_left _ (List.Perm.swap ..))) hs)
        have := CC.append (G := G) (A := A) (X := noX) (p := acc) (xs := xs) (a := b) (l := (acc, .list xs) :: (F (k + 1) ++ ((C, .ns cn vals) :: K'))) .head (by omega) (R := fun _ l => l = (acc, .list (xs ++ [b])) :: (F (k + 1) ++ ((C, .ns cn vals) :: K'))) rfl _ _ rfl (.cons rfl (.cons hb .nil)) s₅ N₆
        refine wpAny_mono this (fun _ s₆ ⟨_, l₆, _, N₇, e⟩ => ?_) none_ex
        subst e
        refine wpAny_pure (wpAny_pure ⟨rfl, n - (k + 1), by omega, k + 1, xs ++ [b], K', rfl, hlt, by simp; omega, N₇.sub (.perm ?_), hJ'⟩)
        refine (List.Perm.trans ?_ List.perm_middle).symm
        exact List.Perm.append_left _ (List.Perm.swap ..)
    · have : k = n := by omega
      subst this
      refine wpAny_mono (W.stop _ (fun o l => o = none ∧ l = Fe ++ ((C, .ns cn vals) :: (acc, .list xs) :: K)) noX ⟨rfl, rfl⟩ iv hit s N) (fun r s₁ ⟨o, l₁, ho, N₁, e, el⟩ => ?_) none_ex
      subst e el
      cases ho
      exact wpAny_pure (fin _ _ xs K N₁ hJ)
  refine codeAny_compStart_list (loop hit N) ?_
  refine wpAny_mono (W.again _ (fun a l => a = it ∧ l = F 0 ++ ((C, .ns cn vals) :: (acc, .list []) :: K₀)) noX ⟨rfl, rfl⟩ iv hit s N) (fun iv' s' ⟨a, l₁, ha, N', e, el⟩ => ?_) (fun e s' ⟨_, _, _, _, h⟩ => h.elim)
  subst e el
  exact loop ha N'
end
theorem Rep.drop {G : Gd} {s : Shared} {a : Addr} {ao : AO} {l : Led} {h' : Heap} {tk : Nat} (N : Rep G s ((a, ao) :: l)) (hs : Heap.ExtBut a s.heap h') : Rep G { s with heap := h', toks := tk } l := by
  have N₁ := N.sub (l' := l) .tail
  exact ⟨fun b o e => hs b o (fun q => by have := N.fresh (a := a) .head; rw [q] at e; rw [this] at e; cases e) (N.keep b o e), N₁.nodup, fun q hq => ⟨(N₁.has q hq).1, (N₁.has q hq).2.keep fun o e => hs _ _ (N.ne .head q hq) e⟩, N.gens, N.os⟩
structure CompOk (scope : Scope) (names cn cn' : List (Str × NameKind)) (cl cl2 : List (Str × Addr)) (own : List Str) (vals : List (Option AV)) : Prop where
  hkind : scope.kind = .function
  hcn : scope.names = cn
  hcn' : relN cn names = cn'
  hclos : (cn.all fun p => p.2 != .free || (cl.lookup p.1).isSome) = true
  hcl2 : closL cl cn [] = cl2
  hnodup : (cn'.map fun p => p.1).Nodup
  hloc : ∀ x ∈ cn, x.2 = .local → cn.lookup x.1 = some .local
  hks : (cellKeys cn (cl2.map fun p => p.1)).Nodup
  hplain : ∀ p ∈ cn', (p.1 == ("__debug__" : Str)) = false ∧ (p.1 == ("__classdict__" : Str)) = false
  hown : cellKeys cn [] = own
  hvals : (cn.map fun _ => none) = vals
section
variable {G : Gd} {A : Around} {env : Env} {l l' : Led} {X : Xp} {names cn cn' : List (Str × NameKind)} {L : Addr} {cl cl2 : List (Str × Addr)} {ownk : List Str} {vals : List (Option AV)}
/-- what a comprehension over one iterable asks -/
noncomputable def CompAsk (G : Gd) (A : Around) (env : Env) (scope : Scope) (cn' : List (Str × NameKind)) (cl2 : List (Str × Addr)) (ownk : List Str) (vals : List (Option AV)) (elt target : Expr) (ifs : List Expr) (R : Addr → Led → Prop) (it : AV) (l₂ : Led) : Prop :=
  ∃ n F Fm Fe P T L₀, Walk G A it n F Fm Fe P T ∧ T target ∧ n < 1000000 ∧ Sub (F 0 ++ L₀) l₂ ∧ ∀ C acc own cenv, own.map (fun p : Str × Addr => p.1) = ownk → EnvOk cenv cn' C (own ++ cl2) →
    ∃ J : Nat → List AV → Led → Prop, J 0 [] (cellNone own ++ L₀) ∧
      (∀ k xs a E K, k < n → P k a E → J k xs K → Asg G A cenv target a (E ++ (F (k + 1) ++ ((C, .ns cn' vals) :: (acc, .list xs) :: K))) (fun l₃ => IT G A cenv ifs l₃ (fun b l₄ =>
        (b = true → EE G A cenv elt l₄ (fun y l₅ => CEnd (F (k + 1)) C acc cn' vals xs (J (k + 1) (xs ++ [y])) l₅) noX) ∧ (b = false → CEnd (F (k + 1)) C acc cn' vals xs (J (k + 1) xs) l₄)) noX) noX) ∧
      (∀ xs K, J n xs K → R acc ((acc, .list xs) :: (Fe ++ K)))
theorem comp_list {elt target iter : Expr} {ifs : List Expr} {scope : Scope} {pos : Pos} {use : Option (Value → Sem Unit)} (hE : EnvOk env names L cl) (hS : CompOk scope names cn cn' cl cl2 ownk vals)
    {Q : Value → Shared → Prop} {s : Shared} (N : Rep G s l) {Ex : Value → Shared → Prop} {R : Addr → Led → Prop}
    (h : EE G A env iter l (fun x l₁ => Op1 G A pyIter x l₁ (CompAsk G A env scope cn' cl2 ownk vals elt target ifs R) X) X)
    (hEx : ∀ e s', Px G X e s' → Ex e s')
    (fin : ∀ acc C s' l₃ , R acc l₃ → Rep G s' ((C, .ns cn' vals) :: l₃) → compPost (model G.prog G.w) A Ex use Q (.ref acc) C (.ok .next) s')
    (hs : ∀ x, foldedSetIterable iter env x = pure x := by intro _; with_unfolding_all rfl) :
    wpAny (model G.prog G.w) A (comprehension (.ListComp elt [⟨target, iter, ifs, 0⟩] scope pos) scope env (firstIterPos [⟨target, iter, ifs, 0⟩] pos) (newList []) false (eval iter env) use) Q Ex s := by
  obtain ⟨hk, e1, e2, e3, e4, e5, e6, e7, e8, e9, e10⟩ := hS
  subst e1
  refine wpAny_comprehension_free (cl := cl2) rfl hs (by rw [closure_eq hE e3, e4]) hk e6 ?_
  refine wpAny_mono (h s N) (fun x s₁ ⟨a, l₁, ha, N₁, h₁⟩ => ?_) hEx
  refine wpAny_mono (h₁ x ha s₁ N₁) (fun iv s₂ hp5 => ?_) hEx
  obtain ⟨it, l₂, hit, N₂, h5⟩ := hp5
  (refine PL.x7_4 h5 ?_; rintro n F Fm Fe P T L₀ W hT hn hsub h₂)
  refine wpAny_newObj_type ?_ (by size_fits)
  have N₃ : Rep G { s₂ with heap := s₂.heap.push { cls := .type "list", data := .seq #[] } } ((s₂.heap.objs.size, .list []) :: (F 0 ++ L₀)) := (N₂.sub hsub).push (ao := .list []) rfl (PL.m1_1 (#[]) (⟨0, Heap.get?_push_size _ rfl⟩) (.nil))
  refine comp_env hE hk (by rw [e2]; exact e5) e7 (by rw [e2]; exact e8) N₃ fun cenv C own s₄ hC hown hEc N₄ => ?_
  rw [e2] at hEc N₄
  rw [e10] at N₄
  rw [e9] at hown
  (refine PL.x1_2 (h₂ C s₂.heap.objs.size own _ hown hEc) ?_; rintro J hJ0 turn hfin)
  subst hC
  refine comp_loop W hT hn (acc := s₂.heap.objs.size) (cn := cn') (vals := vals) (C := cenv.locals) J turn (fun f s' xs K N' hJ => ?_) hit (K₀ := cellNone own ++ L₀) ?_ hJ0
  · have := fin s₂.heap.objs.size cenv.locals s' _ (hfin xs K hJ) (N'.perm (by
      refine List.Perm.trans List.perm_middle (List.Perm.cons _ ?_)
      exact List.perm_middle))
    cases use <;> exact this
  · refine N₄.perm ?_
    refine List.Perm.trans ?_ List.perm_middle.symm
    refine List.Perm.cons _ ?_
    refine List.Perm.trans ?_ List.perm_middle.symm
    refine List.Perm.trans List.perm_middle (List.Perm.cons _ ?_)
    rw [← List.append_assoc, ← List.append_assoc]
    exact List.Perm.append_right _ List.perm_append_comm
theorem EE.listcomp {elt target iter : Expr} {ifs : List Expr} {scope : Scope} {pos : Pos} {R : AV → Led → Prop} (hE : EnvOk env names L cl) (hS : CompOk scope names cn cn' cl cl2 ownk vals)
    (h : EE G A env iter l (fun x l₁ => Op1 G A pyIter x l₁ (CompAsk G A env scope cn' cl2 ownk vals elt target ifs (fun acc l => R (.ref acc) l)) X) X)
    (hs : ∀ x, foldedSetIterable iter env x = pure x := by intro _; with_unfolding_all rfl) : EE G A env (.ListComp elt [⟨target, iter, ifs, 0⟩] scope pos) l R X := fun s N => by
  show wpAny _ _ (comprehension (.ListComp elt [⟨target, iter, ifs, 0⟩] scope pos) scope env (firstIterPos [⟨target, iter, ifs, 0⟩] pos) (newList []) false (eval iter env) Option.none) _ _ s
  refine comp_list hE hS N h (fun _ _ y => y) (fun acc C s' l₃ hR N' => ?_) hs
  (refine PL.x1_1 (N'.at .head) ?_; rintro m hm _)
  exact (PL.m1_1 m hm (fun h' hh => ⟨.ref acc, l₃, rfl, N'.drop hh.extBut, hR⟩))
/-- the store of a comprehension, its frame still there -/
noncomputable def StC (G : Gd) (A : Around) (env : Env) (x : Str) (a : AV) (l : Led) (R : Led → Prop) (X : Xp) : Prop := ∀ C cn vs, StN G A env x a ((C, .ns cn vs) :: l) (fun l₂ => ∃ l₃, Sub ((C, .ns cn vs) :: l₃) l₂ ∧ R l₃) X
theorem StC.loc {x : Str} {a : AV} {R : Led → Prop} {vs vs' : List (Option AV)} (hE : EnvOk env names L cl) (hp : Pick (L, .ns names vs) l l') (hx : Put x .local a names vs vs') (h : R ((L, .ns names vs') :: l')) : StC G A env x a l R X := fun C cn ws =>
  StN.loc hE (.tail hp) hx (PL.m1_1 _ (.perm (List.Perm.swap ..)) h)
theorem swaps_true {elt : Expr} {gens : List Comprehension} {scope : Scope} {cpos p1 : Pos} {x : Str} {line : Nat} (hE : EnvOk env names L cl) (hx : LookT x .local names) (hl : (p1.line == cpos.line) = true) (hn : (scope.names.any fun (n, k) => n == x && (k == .local || k == .cell)) = false) :
    swapsWith (.ListComp elt gens scope cpos) (some (.Name x p1)) line env = pure true := by
  have bk : (env.blockKind == .function) = true := by unfold Env.blockKind; rw [hE.kind]; rfl
  unfold swapsWith
  dsimp only
  rw [bk, hE.kindOf hx, hn]
  simp only [Expr.pos, hl]
  rfl
theorem swaps_cell {elt : Expr} {gens : List Comprehension} {scope : Scope} {cpos p1 : Pos} {x : Str} {line : Nat} (hE : EnvOk env names L cl) (hx : LookT x .cell names) :
    swapsWith (.ListComp elt gens scope cpos) (some (.Name x p1)) line env = pure false := by
  unfold swapsWith
  dsimp only
  rw [hE.kindOf hx, show (some NameKind.cell == some NameKind.local) = false from rfl, Bool.and_false, Bool.false_and, Bool.false_and]
theorem SS.assignComp {elt target iter : Expr} {ifs : List Expr} {scope : Scope} {cpos p1 pos : Pos} {x : Str} {R : AF → Led → Prop} (hE : EnvOk env names L cl) (hS : CompOk scope names cn cn' cl cl2 ownk vals) (hx : LookT x .local names)
    (h : EE G A env iter l (fun y l₁ => Op1 G A pyIter y l₁ (CompAsk G A env scope cn' cl2 ownk vals elt target ifs (fun acc l => StC G A env x (.ref acc) l (fun l₂ => R .next l₂) X)) X) X)
    (hl : (p1.line == cpos.line) = true := by with_unfolding_all rfl) (hn : (scope.names.any fun (n, k) => n == x && (k == .local || k == .cell)) = false := by with_unfolding_all rfl)
    (hs : ∀ x, foldedSetIterable iter env x = pure x := by intro _; with_unfolding_all rfl) : SS G A env (.Assign [.Name x p1] (.ListComp elt [⟨target, iter, ifs, 0⟩] scope cpos) pos) l R X := fun s N => by
  rw [exec_Assign_Name_used _ _ _ _ (swaps_true hE hx hl hn)]
  refine wpAny_bind (wpAny_standAt (wpAny_bind ?_))
  show wpAny _ _ (do let _ ← comprehension (.ListComp elt [⟨target, iter, ifs, 0⟩] scope cpos) scope env (firstIterPos [⟨target, iter, ifs, 0⟩] cpos) (newList []) false (eval iter env) (some (PySem.assign (.Name x p1) env))) _ _ s
  refine wpAny_bind (comp_list hE hS N h (fun _ _ y => y) (fun acc C s' l₃ hR N' => ?_) hs)
  refine wpAny_assign_Name (wpAny_mono (hR C cn' vals (.ref acc) rfl s' N') (fun _ s₂ ⟨_, l₂, _, N₂, l₄, hsub, hR'⟩ => ?_) fun _ _ y => y)
  have N₃ := N₂.sub hsub
  (refine PL.x1_1 (N₃.at .head) ?_; rintro m hm _)
  exact (PL.m1_1 m hm (fun h' hh => wpAny_pure (wpAny_pure ⟨.next, l₄, rfl, N₃.drop hh.extBut, hR'⟩)))
theorem SS.assignCompC {elt target iter : Expr} {ifs : List Expr} {scope : Scope} {cpos p1 pos : Pos} {x : Str} {R : AF → Led → Prop} (hE : EnvOk env names L cl) (hx : LookT x .cell names)
    (h : EE G A env (.ListComp elt [⟨target, iter, ifs, 0⟩] scope cpos) l (fun a l₁ => StN G A env x a l₁ (fun l₂ => R .next l₂) X) X) : SS G A env (.Assign [.Name x p1] (.ListComp elt [⟨target, iter, ifs, 0⟩] scope cpos) pos) l R X :=
  SS.assign (x := x) (p1 := p1) (value := .ListComp elt [⟨target, iter, ifs, 0⟩] scope cpos) h (swaps_cell hE hx)
end
end PL
end
section
open PySem PySem.Calls PyProof.Rows PySem.W
set_option autoImplicit false
set_option linter.unusedVariables false
set_option maxRecDepth 100000
set_option maxHeartbeats 0
namespace PL
section
variable {G : Gd} {A : Around} {env : Env} {l l' : Led} {X : Xp} {R : AV → Led → Prop}
theorem CC.tupleOf {p : Addr} {xs : List AV} (hp : Pick (p, .list xs) l l') (hz : xs.length < 1000000) (h : ∀ t, R (.ref t) ((t, .tuple xs) :: l)) : CC G A (.lit (.type "tuple")) [.ref p] l R X := fun g vs hg hvs s N => by
  cases hg
  (refine PL.x1_1 (get1 hvs) ?_; rintro v rfl hv)
  cases hv
  (refine PL.x1_1 (N.at hp) ?_; rintro ws hl ha)
  have hlen : ws.size = xs.length := by rw [← Array.length_toList, ← ha.length]
  refine call_tuple_list hl.isList (fun h' hk => ?_) (by rw [hlen]; exact Nat.le_trans (Nat.le_of_lt hz) (by decide))
  have N₁ := N.ext (tk := s.toks) hk
  exact ⟨.ref h'.objs.size, _, rfl, N₁.push (ao := .tuple xs) rfl (PL.m1_1 ws.toList (by have := Heap.get?_push_size h' (o := { cls := .type "tuple", data := .seq ws }) rfl; simpa using this) ha), h _⟩
theorem CC.range1 {n : Int} (h : ∀ r, R (.ref r) ((r, .fields "range" [.int 0, .int n, .int 1]) :: l)) : CC G A (.lit (.type "range")) [.int n] l R X := fun g vs hg hvs s N => by
  cases hg
  obtain ⟨v, rfl, t, rfl⟩ := get1 hvs
  exact call_range_1 ⟨.ref s.heap.objs.size, _, rfl, (N.push (ao := .fields "range" [.int 0, .int n, .int 1]) rfl (PL.m1_1 _ (Heap.get?_push_size _ rfl) (.cons ⟨_, rfl⟩ (.cons ⟨_, rfl⟩ (.cons ⟨_, rfl⟩ .nil))))).toks _, h _⟩
theorem iter_range {r : Addr} {n : Nat} {R : AV → Led → Prop} (hp : Pick (r, .fields "range" [.int 0, .int (n : Int), .int 1]) l l') (hz : n < 1000000) (h : ∀ it, R (.ref it) ([(it, .rangeiter (0 + ((0 : Nat) : Int)) ((n : Int) - ((0 : Nat) : Int)) 1)] ++ l)) : Op1 G A pyIter (.ref r) l R X := fun v hv s N => by
  cases hv
  (refine PL.x1_1 (N.at hp) ?_; rintro vs ho hvs)
  (refine PL.x3_3 (get3 hvs) ?_; rintro a b c rfl ⟨t, rfl⟩ ⟨u, rfl⟩ ⟨w, rfl⟩)
  have hsz : Builtin.Range.rangeSize 0 (n : Int) 1 = n := by
    rw [rangeSize_one]; split <;> omega
  refine wpAny_pyIter_range (t := t) (u := u) (v := w) ho ?_ ⟨.ref s.heap.objs.size, _, rfl, N.push (ao := .rangeiter (0 + ((0 : Nat) : Int)) ((n : Int) - ((0 : Nat) : Int)) 1) rfl ?_, h _⟩
  · unfold Builtin.Range.small
    rw [hsz]
    have f : ∀ i : Int, 0 ≤ i → i < 1000000 → Builtin.Range.rangeFitsLong i = true := fun i h1 h2 => by
      unfold Builtin.Range.rangeFitsLong
      simp only [Bool.and_eq_true, decide_eq_true_eq]; omega
    simp only [f 0 (by decide) (by decide), f 1 (by decide) (by decide), f n (by omega) (by omega), Bool.and_true]
    rw [if_pos (by decide), f _ (by omega) (by omega), Bool.or_true]; rfl
  · show _ = _
    rw [Heap.get?_push_size _ rfl, hsz]
    simp [rawInt]
end
end PL
end
section
open PySem PySem.Calls PyProof.Rows PySem.W
set_option autoImplicit false
set_option linter.unusedVariables false
set_option maxRecDepth 100000
set_option maxHeartbeats 0
namespace PL
theorem Rep.many {G : Gd} {s : Shared} {ch ch' k es : Led} {h' : Heap} {tk : Nat} (N : Rep G s (ch ++ k)) (hk : ch'.map (·.1) = ch.map (·.1)) (hs : ∀ c o, c ∉ ch.map (·.1) → s.heap.get? c = some o → h'.get? c = some o)
    (ha : ∀ p ∈ ch', At G h' p.1 p.2) (nd : (es.map (·.1)).Nodup) (hn : ∀ p ∈ es, s.heap.get? p.1 = none) (hae : ∀ p ∈ es, At G h' p.1 p.2) : Rep G { s with heap := h', toks := tk } (es ++ (ch' ++ k)) := by
  have nd1 := N.nodup
  rw [List.map_append, List.nodup_append] at nd1
  have memk : ∀ p ∈ ch', ∃ q ∈ ch, q.1 = p.1 := fun p hp => by
    have : p.1 ∈ ch.map (·.1) := by rw [← hk]; exact List.mem_map.mpr (PL.m1_1 p hp rfl)
    (refine PL.x1_1 (List.mem_map.mp this) ?_; rintro q hq e)
    exact (PL.m1_1 q hq e)
  refine ⟨fun b o e => hs b o (fun q => ?_) (N.keep b o e), ?_, ?_, N.gens, N.os⟩
  · (refine PL.x1_1 (List.mem_map.mp q) ?_; rintro p hp rfl)
    have := (N.has p (List.mem_append_left _ hp)).1
    rw [this] at e; cases e
  · rw [List.map_append, List.map_append, hk, ← List.map_append, List.nodup_append]
    refine (PL.m0_2 nd N.nodup (fun a ha1 b hb1 e => ?_))
    (refine PL.x1_1 (List.mem_map.mp ha1) ?_; rintro p hp rfl)
    (refine PL.x1_1 (List.mem_map.mp hb1) ?_; rintro q hq e')
    obtain ⟨o, ho⟩ := (N.has q hq).2.some
    rw [e', ← e, hn p hp] at ho; cases ho
  · intro p hp
    rcases List.mem_append.mp hp with hp | hp
    · refine ⟨?_, hae p hp⟩
      cases q : G.t.get? p.1 with
      | none => rfl
      | some o => have := N.keep _ _ q; rw [hn p hp] at this; cases this
    · rcases List.mem_append.mp hp with hp | hp
      · (refine PL.x1_1 (memk p hp) ?_; rintro q hq e)
        exact ⟨by rw [← e]; exact (N.has q (List.mem_append_left _ hq)).1, ha p hp⟩
      · have hh := N.has p (List.mem_append_right _ hp)
        exact ⟨hh.1, hh.2.keep fun o e => hs _ _ (fun q => nd1.2.2 _ q _ (List.mem_map.mpr (PL.m1_1 p hp rfl)) rfl) e⟩
section
variable {G : Gd} {A : Around} {env : Env} {l l' : Led} {X : Xp}
noncomputable abbrev zipF (z TI TO : Addr) (f0 : AV) : Addr × AO := (z, .fields "zip" [f0, .bool false, .bool false, .ref TI, .ref TO])
noncomputable def zto (xs ys : List AV) : Nat → List AV
  | 0 => [.none, .none]
  | k + 1 => [xs.getD k .none, ys.getD k .none]
noncomputable def zipL (z TI TO i1 i2 p q : Addr) (xs ys : List AV) (f0 : AV) (k : Nat) : Led := [zipF z TI TO f0, (TO, .tuple (zto xs ys k)), (i1, .listiter p k), (i2, .listiter q k), (TI, .tuple [.ref i1, .ref i2]), (p, .list xs), (q, .list ys)]
noncomputable def zipM (a : AV) : AV := match a with
  | .ref T => .lit (rawInt T)
  | _ => .none
theorem get5 {a b c d e : AV} {vs : List Value} (h : AllIs [a, b, c, d, e] vs) : ∃ v1 v2 v3 v4 v5, vs = [v1, v2, v3, v4, v5] ∧ a.Is v1 ∧ b.Is v2 ∧ c.Is v3 ∧ d.Is v4 ∧ e.Is v5 := by
  (refine PL.x2_2 (h.consL) ?_; rintro v1 us rfl h1 h)
  (refine PL.x2_2 (h.consL) ?_; rintro v2 us rfl h2 h)
  (refine PL.x3_3 (get3 h) ?_; rintro v3 v4 v5 rfl h3 h4 h5)
  exact (PL.m5_5 _ _ _ _ _ rfl h1 h2 h3 h4 h5)
theorem zip_parts {s : Shared} {z TI TO i1 i2 p q : Addr} {xs ys : List AV} {f0 : AV} {k : Nat} {L : Led} (N : Rep G s (zipL z TI TO i1 i2 p q xs ys f0 k ++ L)) :
    ∃ w a b vs us, f0.Is w ∧ IsZip s.heap z TI TO w ∧ IsPair s.heap TI (.ref i1) (.ref i2) ∧ IsPair s.heap TO a b ∧ s.heap.IsListIter i1 p k ∧ s.heap.IsListIter i2 q k ∧ s.heap.IsList p vs ∧ AllIs xs vs.toList ∧ s.heap.IsList q us ∧ AllIs ys us.toList ∧ ZipApart z TI TO i1 i2 p q := by
  (refine PL.x1_1 (N.at (a := z) (ao := .fields "zip" [f0, .bool false, .bool false, .ref TI, .ref TO]) .head) ?_; rintro v hz hv)
  (refine PL.x5_5 (get5 hv) ?_; rintro v1 v2 v3 v4 v5 rfl h1 h2 h3 h4 h5)
  cases h2; cases h3; cases h4; cases h5
  (refine PL.x1_1 (N.at (a := TO) (ao := .tuple (zto xs ys k)) (.tail .head)) ?_; rintro tv hto htv)
  obtain ⟨t1, t2, rfl⟩ : ∃ t1 t2, tv = [t1, t2] := by
    have := htv.length
    cases k <;> (match tv, this with | [a, b], _ => exact (PL.m2_0 a b rfl))
  have e1 : s.heap.IsListIter i1 p k := N.at (ao := .listiter p k) (.tail (.tail .head))
  have e2 : s.heap.IsListIter i2 q k := N.at (ao := .listiter q k) (.tail (.tail (.tail .head)))
  (refine PL.x1_1 (N.at (a := TI) (ao := .tuple [.ref i1, .ref i2]) (.tail (.tail (.tail (.tail .head))))) ?_; rintro iv hti hiv)
  (refine PL.x2_2 (get2 hiv) ?_; rintro j1 j2 rfl g1 g2)
  cases g1; cases g2
  (refine PL.x1_1 (N.at (a := p) (ao := .list xs) (.tail (.tail (.tail (.tail (.tail .head)))))) ?_; rintro vs hl1 ha1)
  (refine PL.x1_1 (N.at (a := q) (ao := .list ys) (.tail (.tail (.tail (.tail (.tail (.tail .head))))))) ?_; rintro us hl2 ha2)
  have nd := N.nodup
  simp only [zipL, zipF, List.map_append, List.map_cons, List.map_nil, List.cons_append, List.nil_append, List.nodup_cons, List.mem_cons, List.mem_append, not_or] at nd
  (revert nd; refine PL.j0_5 ?_; rintro ⟨a1, a2, a3, a4, a5, a6, _⟩ ⟨b1, b2, b3, b4, b5, _⟩ ⟨c1, c2, c3, c4, _⟩ ⟨d1, d2, d3, _⟩ ⟨f1, f2, _⟩ _)
  exact (PL.m5_10 v1 t1 t2 vs us h1 hz hti hto e1 e2 hl1.isList ha1 hl2.isList ha2 (⟨Ne.symm a4, Ne.symm a1, Ne.symm a2, Ne.symm a3, Ne.symm b3, Ne.symm c2, Ne.symm d1, b1, b2, c1, Ne.symm a5, Ne.symm b4, Ne.symm c3, Ne.symm d2, Ne.symm a6, Ne.symm b5, Ne.symm c4, Ne.symm d3⟩))
theorem walk_zip {z TI TO i1 i2 p q : Addr} {xs ys : List AV} (hh : A.handled = none) (hl : xs.length = ys.length) : Walk G A (.ref z) xs.length (fun k => zipL z TI TO i1 i2 p q xs ys .none k) (fun k a => zipL z TI TO i1 i2 p q xs ys (zipM a) k) [(p, .list xs), (q, .list ys)]
    (fun k a E => ∃ x y T, xs[k]? = some x ∧ ys[k]? = some y ∧ a = .ref T ∧ E = [(T, .tuple [x, y])]) (fun t => ∃ elts n pos, t = .Tuple elts n pos) where
  next k L R X hk h v hv s N := by
    cases hv
    (refine PL.x5_10 (zip_parts N) ?_; rintro w a b vs us hw hz hti hto e1 e2 hl1 ha1 hl2 ha2 D)
    cases hw
    obtain ⟨x, hx⟩ : ∃ x, xs[k]? = some x := ⟨xs[k], List.getElem?_eq_getElem hk⟩
    obtain ⟨y, hy⟩ : ∃ y, ys[k]? = some y := ⟨_, List.getElem?_eq_getElem (by omega)⟩
    (refine PL.x1_1 (ha1.get hx) ?_; rintro vx hvx hxv)
    (refine PL.x1_1 (ha2.get hy) ?_; rintro vy hvy hyv)
    refine wpAny_pyNext_zip_item D hz hti hto e1 e2 hl1 hl2 (by rw [← Array.getElem?_toList]; exact hvx) (by rw [← Array.getElem?_toList]; exact hvy) fun h' hz' hto' e1' e2' hp' hsz hk' => ?_
    refine ⟨some (.ref s.heap.objs.size), _, (PL.m1_1 _ rfl rfl), ?_, h (.ref s.heap.objs.size) [(s.heap.objs.size, .tuple [x, y])] (PL.m3_3 x y _ hx hy rfl rfl)⟩
    have ex : xs.getD k .none = x := by simp [List.getD, hx]
    have ey : ys.getD k .none = y := by simp [List.getD, hy]
    have := N.many (h' := h') (tk := s.toks) (ch := [zipF z TI TO .none, (TO, .tuple (zto xs ys k)), (i1, .listiter p k), (i2, .listiter q k)]) (k := [(TI, .tuple [.ref i1, .ref i2]), (p, .list xs), (q, .list ys)] ++ L)
      (ch' := [zipF z TI TO (.lit (rawInt s.heap.objs.size)), (TO, .tuple [x, y]), (i1, .listiter p (k + 1)), (i2, .listiter q (k + 1))]) (es := [(s.heap.objs.size, .tuple [x, y])]) rfl
      (fun c o hc e => hk' c o (fun q => hc (by subst q; simp [zipF])) (fun q => hc (by subst q; simp [zipF])) (fun q => hc (by subst q; simp [zipF])) (fun q => hc (by subst q; simp [zipF])) e)
      (fun pp hpp => by
        simp only [List.mem_cons, List.not_mem_nil, or_false] at hpp
        rcases hpp with rfl | rfl | rfl | rfl
        · exact (PL.m1_1 _ hz' (.cons rfl (.cons rfl (.cons rfl (.cons rfl (.one rfl))))))
        · exact (PL.m1_1 ([vx, vy]) hto' (.cons hxv (.one hyv)))
        · exact e1'
        · exact e2') (by simp) (fun pp hpp => by simp only [List.mem_singleton] at hpp; subst hpp; exact Heap.get?_none_of_le (Nat.le_refl _))
      (fun pp hpp => by simp only [List.mem_singleton] at hpp; subst hpp; exact (PL.m1_1 ([vx, vy]) hp' (.cons hxv (.one hyv))))
    simp only [zipL, zto, ex, ey, zipM]
    exact this
  go k L a E target R X ht hp h v u hv hu s N := by
    (revert hp; refine PL.j3_3 ?_; rintro x y T hx hy rfl rfl)
    (revert ht; refine PL.j3_0 ?_; rintro elts n pos rfl)
    cases hv; cases hu
    (refine PL.x5_10 (zip_parts (N.sub (l' := zipL z TI TO i1 i2 p q xs ys (.lit (rawInt T)) (k + 1) ++ L) .tail)) ?_; rintro w a b vs us hw hz hti hto e1 e2 hl1 ha1 hl2 ha2 D)
    cases hw
    refine wpAny_letOwnedTupleGo_zip hz fun h' hz' hs' => ⟨(), _, trivial, ?_, h⟩
    have N' := N.upd (tk := s.toks) (a := z) (ao := .fields "zip" [.lit (rawInt T), .bool false, .bool false, .ref TI, .ref TO]) (ao' := .fields "zip" [.none, .bool false, .bool false, .ref TI, .ref TO]) (.tail .head) hs'.extBut (PL.m1_1 _ hz' (.cons rfl (.cons rfl (.cons rfl (.cons rfl (.one rfl))))))
    exact N'.perm (List.Perm.swap ..)
  stop L R X h v hv s N := by
    cases hv
    (refine PL.x5_10 (zip_parts N) ?_; rintro w a b vs us hw hz hti hto e1 e2 hl1 ha1 hl2 ha2 D)
    cases hw
    refine wpAny_pyNext_zip_end hh D hz hti hto e1 e2 hl1 hl2 (.inl (by rw [← Array.getElem?_toList]; exact ha1.none (by simp))) fun h' hk' => ⟨none, _, rfl, ?_, h⟩
    have N₁ : Rep G s ([zipF z TI TO .none, (TO, .tuple (zto xs ys xs.length)), (i1, .listiter p xs.length), (i2, .listiter q xs.length)] ++ ([(TI, .tuple [.ref i1, .ref i2]), (p, .list xs), (q, .list ys)] ++ L)) := N
    have nd := N₁.nodup
    rw [List.map_append, List.nodup_append] at nd
    refine ⟨fun c o e => ?_, (List.nodup_cons.mp nd.2.1).2, fun pp hpp => ?_, N.gens, N.os⟩
    · have ne : ∀ r ∈ [zipF z TI TO .none, (TO, .tuple (zto xs ys xs.length)), (i1, .listiter p xs.length), (i2, .listiter q xs.length)], c ≠ r.1 := fun r hr q => by
        have := (N₁.has r (List.mem_append_left _ hr)).1
        rw [← q, e] at this; cases this
      exact hk' c o (ne _ (.head _)) (ne _ (.tail _ (.head _))) (ne _ (.tail _ (.tail _ (.head _)))) (ne _ (.tail _ (.tail _ (.tail _ (.head _))))) (N.keep c o e)
    · have hm : pp ∈ [(TI, AO.tuple [.ref i1, .ref i2]), (p, .list xs), (q, .list ys)] ++ L := .tail _ hpp
      have hh := N₁.has pp (List.mem_append_right _ hm)
      have ne : ∀ r ∈ [zipF z TI TO .none, (TO, .tuple (zto xs ys xs.length)), (i1, .listiter p xs.length), (i2, .listiter q xs.length)], pp.1 ≠ r.1 := fun r hr e => nd.2.2 _ (List.mem_map.mpr (PL.m1_1 r hr rfl)) _ (List.mem_map.mpr (PL.m1_1 pp hm rfl)) e.symm
      exact ⟨hh.1, hh.2.keep fun o e => hk' _ o (ne _ (.head _)) (ne _ (.tail _ (.head _))) (ne _ (.tail _ (.tail _ (.head _)))) (ne _ (.tail _ (.tail _ (.tail _ (.head _))))) e⟩
  again L R X h v hv s N := by
    cases hv
    (refine PL.x5_2 (zip_parts N) ?_; rintro w a b vs us hw hz _)
    exact wpAny_pyIter_zip hz ⟨.ref z, _, rfl, N, h⟩
theorem CC.zip {p q : Addr} {xs ys : List AV} {R : AV → Led → Prop} (hp : Pick (p, .list xs) l l') {l'' : Led} (hq : Pick (q, .list ys) l' l'') (h : ∀ z TI TO i1 i2, R (.ref z) (zipL z TI TO i1 i2 p q xs ys .none 0 ++ l'')) : CC G A (.lit (.type "zip")) [.ref p, .ref q] l R X := fun g vs hg hvs s N => by
  cases hg
  (refine PL.x2_2 (get2 hvs) ?_; rintro v u rfl hv hu)
  cases hv; cases hu
  (refine PL.x1_1 (N.at hp) ?_; rintro ws hl1 ha1)
  have N' := N.sub (l' := (p, .list xs) :: l') (.perm hp.perm)
  (refine PL.x1_1 (N'.at (.tail hq)) ?_; rintro us hl2 ha2)
  refine call_zip_2 hl1.isList hl2.isList fun h' hz hti hto e1 e2 hsz hk => ?_
  refine ⟨.ref (s.heap.objs.size + 4), _, rfl, ?_, h _ (s.heap.objs.size + 2) (s.heap.objs.size + 3) s.heap.objs.size (s.heap.objs.size + 1)⟩
  have N₂ := (N'.sub (l' := (p, .list xs) :: (q, .list ys) :: l'') (.keep (.perm hq.perm))).more (h' := h') (tk := s.toks)
    [zipF (s.heap.objs.size + 4) (s.heap.objs.size + 2) (s.heap.objs.size + 3) .none, (s.heap.objs.size + 3, .tuple [.none, .none]), (s.heap.objs.size, .listiter p 0), (s.heap.objs.size + 1, .listiter q 0), (s.heap.objs.size + 2, .tuple [.ref s.heap.objs.size, .ref (s.heap.objs.size + 1)])] hk
    (by simp [zipF]) (fun pp hpp => by
      simp only [List.mem_cons, List.not_mem_nil, or_false] at hpp
      rcases hpp with rfl | rfl | rfl | rfl | rfl <;> exact Heap.get?_none_of_le (by simp [zipF])) (fun pp hpp => by
      simp only [List.mem_cons, List.not_mem_nil, or_false] at hpp
      rcases hpp with rfl | rfl | rfl | rfl | rfl
      · exact (PL.m1_1 _ hz (.cons rfl (.cons rfl (.cons rfl (.cons rfl (.one rfl))))))
      · exact (PL.m1_1 ([.none, .none]) hto (.cons rfl (.one rfl)))
      · exact e1
      · exact e2
      · exact (PL.m1_1 ([.ref _, .ref _]) hti (.cons rfl (.one rfl))))
  exact N₂
theorem iter_zip {z TI TO i1 i2 p q : Addr} {xs ys : List AV} {R : AV → Led → Prop} (h : R (.ref z) (zipL z TI TO i1 i2 p q xs ys .none 0 ++ l)) : Op1 G A pyIter (.ref z) (zipL z TI TO i1 i2 p q xs ys .none 0 ++ l) R X := fun v hv s N => by
  cases hv
  (refine PL.x5_2 (zip_parts N) ?_; rintro w a b vs us hw hz _)
  exact wpAny_pyIter_zip hz ⟨.ref z, _, rfl, N, h⟩
end
end PL
end
section
open PySem PySem.Calls PyProof.Rows PySem.W Builtin Builtin.ObjectAttr
set_option autoImplicit false
set_option linter.unusedVariables false
set_option maxRecDepth 100000
set_option maxHeartbeats 0
namespace PL
/-! own instances -/
noncomputable def Handed (a : AV) : Prop := ∀ v, a.Is v → handedIn v = true
theorem Handed.none : Handed .none := fun v h => by cases h; rfl
theorem Handed.int {i : Int} : Handed (.int i) := fun v ⟨_, h⟩ => by subst h; rfl
theorem Handed.str {i : Str} : Handed (.str i) := fun v ⟨_, h⟩ => by subst h; rfl
theorem Handed.ref {i : Addr} : Handed (.ref i) := fun v h => by cases h; rfl
noncomputable def putAV (k : Str) (a : AV) : List (Str × AV) → List (Str × AV)
  | [] => [(k, a)]
  | (k', b) :: r => if k' = k then (k', a) :: r else (k', b) :: putAV k a r
theorem isStr_key {e : DictEntry} {x k : Str} {t : Tok} (h : e.key = .str x t) : e.key.isStr k = decide (x = k) := by
  rw [h]; show (x == k) = _
  by_cases q : x = k <;> simp [q]
theorem getL_some {kvs : List (Str × AV)} {es : List DictEntry} (h : All2 DRel kvs es) {k : Str} {a : AV} (hl : kvs.lookup k = some a) : ∃ v, getL k es = some (some v) ∧ a.Is v := by
  have : ∃ e, es.find? (·.key.isStr k) = some e ∧ a.Is e.val := by
    induction h with
    | nil => cases hl
    | @cons p e ps es hpe _ ih =>
      obtain ⟨⟨t, hk⟩, hv⟩ := hpe
      obtain ⟨x, b⟩ := p
      rw [List.find?_cons, isStr_key hk]
      rw [List.lookup_cons] at hl
      cases hx : k == x with
      | true => rw [hx] at hl; cases hl; exact (PL.m1_1 e (by rw [beq_iff_eq] at hx; simp [hx]) hv)
      | false =>
        rw [hx] at hl
        have : x ≠ k := fun q => by subst q; simp at hx
        simp only [this, decide_false]
        exact ih hl
  (revert this; refine PL.j1_1 ?_; rintro e he hv)
  exact (PL.m1_1 e.val (by unfold getL; rw [he]) hv)
theorem getL_none {kvs : List (Str × AV)} {es : List DictEntry} (h : All2 DRel kvs es) {k : Str} (hl : kvs.lookup k = none) : getL k es = some none := by
  have : es.find? (·.key.isStr k) = none ∧ es.any (·.refKey) = false := by
    induction h with
    | nil => exact ⟨rfl, rfl⟩
    | @cons p e ps es hpe _ ih =>
      obtain ⟨⟨t, hk⟩, hv⟩ := hpe
      obtain ⟨x, b⟩ := p
      rw [List.find?_cons, isStr_key hk]
      rw [List.lookup_cons] at hl
      cases hx : k == x with
      | true => rw [hx] at hl; cases hl
      | false =>
        rw [hx] at hl
        have : x ≠ k := fun q => by subst q; simp at hx
        simp only [this, decide_false]
        refine ⟨(ih hl).1, ?_⟩
        rw [List.any_cons, (ih hl).2]
        unfold DictEntry.refKey; rw [hk]; rfl
  unfold getL
  rw [this.1]; simp [this.2]
theorem putL_rel {kvs : List (Str × AV)} {es : List DictEntry} (h : All2 DRel kvs es) {k : Str} {a : AV} {v : Value} {hs : Int} {t : Tok} (hv : a.Is v) : All2 DRel (putAV k a kvs) (putL k hs (.str k t) v es) := by
  induction h with
  | nil => exact .cons ⟨⟨t, rfl⟩, hv⟩ .nil
  | @cons p e ps es hpe hr ih =>
    obtain ⟨⟨t', hk⟩, hv'⟩ := hpe
    obtain ⟨x, b⟩ := p
    unfold putAV putL
    rw [isStr_key hk]
    by_cases q : x = k
    · simp only [q, if_true, decide_true]; exact .cons ⟨⟨t', by rw [hk, q]⟩, hv⟩ hr
    · simp only [q, if_false, decide_false, Bool.false_eq_true]; exact .cons ⟨⟨t', hk⟩, hv'⟩ ih
theorem noRef {kvs : List (Str × AV)} {es : List DictEntry} (h : All2 DRel kvs es) : es.any (·.refKey) = false := by
  induction h with
  | nil => rfl
  | cons hpe _ ih =>
    rw [List.any_cons, ih, Bool.or_false]
    obtain ⟨⟨t, hk⟩, _⟩ := hpe; unfold DictEntry.refKey; rw [hk]
theorem putAV_len (k : Str) (a : AV) : ∀ kvs : List (Str × AV), (putAV k a kvs).length ≤ kvs.length + 1
  | [] => Nat.le_refl _
  | (x, b) :: r => by
    unfold putAV
    split
    · simp
    · have := putAV_len k a r; simp; omega
theorem All2.len2 {α β : Type} {r : α → β → Prop} {as : List α} {bs : List β} (h : All2 r as bs) : bs.length = as.length := h.length.symm
section
variable {G : Gd} {A : Around} {env : Env} {l l' : Led} {X : Xp} {R : AV → Led → Prop} {K : Frag} {x C dx p : Addr} {kvs : List (Str × AV)} {name : Str}
theorem instAt {s : Shared} (N : Rep G s l) (h1 : (x, .inst C dx) ∈ l) (h2 : (dx, .idct kvs) ∈ l) : ∃ es n, InstAt s.heap x (instObj C dx) C (some (dictOf es n)) ∧ All2 DRel kvs es ∧ s.heap.get? dx = some (dictOf es n) := by
  (refine PL.x2_1 (N.atM h2) ?_; rintro es n he hr)
  exact (PL.m2_2 es n (⟨N.atM h1, rfl, rfl, he⟩) hr he)
theorem slotsAt {s : Shared} {vs : List (Option AV)} (N : Rep G s l) (h1 : (x, .slots C dx vs) ∈ l) (h2 : (dx, .idct kvs) ∈ l) : ∃ (vs' : List (Option Value)) (od : Obj), InstAt s.heap x ⟨.ref C, some dx, .plain, vs'.toArray⟩ C (some od) ∧ All2 ORel vs vs' := by
  (refine PL.x2_1 (N.atM h2) ?_; rintro es n he hr)
  (refine PL.x1_1 (N.atM h1) ?_; rintro vs' hx hv)
  exact (PL.m2_1 vs' _ (⟨hx, rfl, rfl, he⟩) hv)
theorem GAt.own {attr : Option Value} {a : AV} (hK : K.In G.t) (hg : plainGet K C name = true) (hh : hasDictIn K C = true) (ha : findIn K (.ref C) name = some attr) (hn : noGet K attr = true)
    (h1 : (x, .inst C dx) ∈ l) (h2 : (dx, .idct kvs) ∈ l) (hl : kvs.lookup name = some a) (hd : Handed a) (h : R a l) : GAt G A name (.ref x) l R X := fun v hv s N => by
  cases hv
  (refine PL.x2_2 (instAt N h1 h2) ?_; rintro es n I hr _)
  (refine PL.x1_1 (getL_some hr hl) ?_; rintro u hu hau)
  exact get_value (hK.keeps N.keep) I (plainGet_of hg).1 (findObj_own hh ha hn hu) (hd u hau) ⟨a, l, hau, N.toks _, h⟩
theorem GAt.slot {vs : List (Option AV)} {a : AV} {i : Nat} (hK : K.In G.t) (hg : plainGet K C name = true) (hc : isClsIn K C = true) (ha : findIn K (.ref C) name = some (some (.ref p)))
    (hn : specialIn K (.ref p) "__get__" = some (some (.builtin "member_descriptor.__get__"))) (ht : takesIn K (.ref p) = some true) (hp : slotIn K p C = some i)
    (h1 : (x, .slots C dx vs) ∈ l) (h2 : (dx, .idct kvs) ∈ l) (hl : vs[i]? = some (some a)) (hd : Handed a) (h : R a l) : GAt G A name (.ref x) l R X := fun v hv s N => by
  cases hv
  (refine PL.x2_1 (slotsAt N h1 h2) ?_; rintro vs' od I hr)
  (refine PL.x1_1 (hr.get hl) ?_; rintro b hb hab)
  (revert hab; refine PL.j1_1 ?_; rintro u rfl hau)
  have X' := hK.keeps N.keep
  refine get_bind X' I (plainGet_of hg).1 (findObj_data hc ha hn ht) (plainGet_of hg).2 (wpAny_call (slot_get (v := u) (s := { s with toks := s.toks + 1 }) X' I hp ?_ ?_))
  · show ((vs'.toArray)[i]?).join = some u
    rw [List.getElem?_toArray, hb]; rfl
  · exact handed_on (hd u hau) ⟨a, l, hau, N.toks _, h⟩
theorem GM.inst {f : Addr} {R : AV → List AV → Led → Prop} (hK : K.In G.t) (hg : plainGet K C name = true) (hf : findIn K (.ref C) name = some (some (.ref f))) (ht : typeIn K (.ref f) = some (.type "function"))
    (h1 : (x, .inst C dx) ∈ l) (h2 : (dx, .idct kvs) ∈ l) (hl : kvs.lookup name = none) (h : R (.ref f) [.ref x] l) : GM G A name (.ref x) l R X := fun v pl hv s N => by
  cases hv
  (refine PL.x2_2 (instAt N h1 h2) ?_; rintro es n I hr _)
  refine method_fn (hK.keeps N.keep) I (plainGet_of hg).1 (plainGet_of hg).2 hf ht ?_ ⟨(.ref f, [.ref x]), l, ⟨rfl, .one rfl⟩, N, h⟩
  show (lookIn name (dictOf es n)).map (·.isSome) = some false
  rw [lookIn_dict, getL_none hr hl]; rfl
/-- an attribute is stored -/
noncomputable def SAt (G : Gd) (A : Around) (name : Str) (o a : AV) (l : Led) (R : Led → Prop) (X : Xp) : Prop := ∀ v u, o.Is v → a.Is u → Tr G A (setAttr v name u) (fun (_ _ : Unit) => True) l (fun _ l' => R l') X
theorem SAt.own {a : AV} {R : Led → Prop} (hK : K.In G.t) (hs : findIn K (.ref C) "__setattr__" = some (some (.builtin "object.__setattr__"))) (hp : plainOver K C = true) (ht : takerIn K C name = some none) (hh : hasDictIn K C = true)
    (h1 : (x, .inst C dx) ∈ l) (h2 : Pick (dx, .idct kvs) l l') (hz : kvs.length ≤ 900) (h : R ((dx, .idct (putAV name a kvs)) :: l')) : SAt G A name (.ref x) a l R X := fun v u hv hu s N => by
  cases hv
  (refine PL.x2_2 (instAt N h1 h2.mem) ?_; rintro es n I hr hD)
  have X' := hK.keeps N.keep
  refine set_plain X' I hs (osa_open (s := { s with toks := s.toks + 1 }) X' I hp ht fun b => ?_)
  (refine PL.x1_1 (any_some hh) ?_; rintro cd hc hd)
  have hx : s.heap.get? x = some (instObj C dx) := I.at_
  refine wpAny_bind (wpAny_pure (wpAny_bind (wpAny_bind (wpAny_loadPart hx (wpAny_bind ((looks_clsIn X' hc).at ?_))))))
  rw [hd]
  refine wpAny_pure (a := some dx) (wpAny_bind (wpAny_pure (wpAny_bind ?_)))
  unfold nsSet
  refine wpAny_bind (wpAny_bind (wpAny_askSetting (wpAny_pure (wpAny_bind (wpAny_mkText (wpAny_bind (wpAny_loadPart hD ?_)))))))
  dsimp only
  have hany : es.toArray.any (·.refKey) = false := by rw [List.any_toArray]; exact noRef hr
  rw [aRefKeyMayBeTheName_at, hany, Bool.and_false]
  have hput := putName_dict name (PyData.keyHash G.w.params name) (.str name (s.toks + 1)) u es n
  have hnew := Heap.get?_update_self (Obj.putName name (PyData.keyHash G.w.params name) (.str name (s.toks + 1)) u) hD (by rw [hput]; rfl)
  refine wpAny_updatePart hD ?_
  refine wpAny_bind (wpAny_lookBehind hnew (by
    rw [hput]
    refine pastItsLine_dict ?_
    have e1 := All2.len2 (putL_rel hr (k := name) (hs := PyData.keyHash G.w.params name) (t := s.toks + 1) hu)
    have e2 := putAV_len name a kvs
    rw [List.size_toArray, e1, sizeLine_eq]; omega) ?_)
  refine wpAny_pure ⟨(), _, trivial, N.upd (tk := s.toks + 1 + 1) (ao' := .idct (putAV name a kvs)) h2 (Heap.SameBut.update ..).extBut (PL.m2_1 (putL name (PyData.keyHash G.w.params name) (.str name (s.toks + 1)) u es) (putN name es n) (hnew.trans (congrArg some hput)) (putL_rel hr hu)), h⟩
end
end PL
end
section
open PySem PySem.Calls PyProof.Rows PySem.W
set_option autoImplicit false
set_option linter.unusedVariables false
set_option maxRecDepth 100000
set_option maxHeartbeats 0
namespace PL
/-! stores into attributes -/
section
variable {G : Gd} {A : Around} {env : Env} {l l' : Led} {X : Xp} {names : List (Str × NameKind)} {L : Addr} {cl : List (Str × Addr)}
theorem SS.setattr {o value : Expr} {attr : Str} {p1 pos : Pos} {R : AF → Led → Prop} (h : EE G A env value l (fun a l₁ => EE G A env o l₁ (fun ov l₂ => SAt G A attr ov a l₂ (fun l₃ => R .next l₃) X) X) X)
    (hs : swapsWith value (some (.Attribute o attr p1)) pos.line env = pure false := by with_unfolding_all rfl) : SS G A env (.Assign [.Attribute o attr p1] value pos) l R X :=
  fun s N => plainObj_wpAny_Assign_Attribute (wpAny_mono (h s N) (fun v s₁ ⟨a, l₁, ha, N₁, h₁⟩ => wpAny_mono (h₁ s₁ N₁) (fun u s₂ ⟨b, l₂, hb, N₂, h₂⟩ => wpAny_mono (h₂ u v hb ha s₂ N₂)
    (fun _ s₃ ⟨_, l₃, _, N₃, h₃⟩ => ⟨.next, l₃, rfl, N₃, h₃⟩) fun _ _ y => y) fun _ _ y => y) fun _ _ y => y) hs
theorem SS.augattr {o value : Expr} {attr : Str} {p1 pos : Pos} {op : Operator} {R : AF → Led → Prop}
    (h : EE G A env o l (fun ov l₁ => GAt G A attr ov l₁ (fun old l₂ => EE G A env value l₂ (fun a l₃ => Op2 G A (inplaceOp op) old a l₃ (fun new l₄ => SAt G A attr ov new l₄ (fun l₅ => R .next l₅) X) X) X) X) X) : SS G A env (.AugAssign (.Attribute o attr p1) op value pos) l R X :=
  fun s N => wpAny_AugAssign_AttributeAny (wpAny_mono (h s N) (fun v s₁ ⟨a, l₁, ha, N₁, h₁⟩ => wpAny_mono (h₁ v ha s₁ N₁) (fun u s₂ ⟨b, l₂, hb, N₂, h₂⟩ => wpAny_mono (h₂ s₂ N₂) (fun w s₃ ⟨c, l₃, hc, N₃, h₃⟩ =>
    wpAny_mono (h₃ u w hb hc s₃ N₃) (fun x s₄ ⟨d, l₄, hd, N₄, h₄⟩ => wpAny_mono (h₄ v x ha hd s₄ N₄) (fun _ s₅ ⟨_, l₅, _, N₅, h₅⟩ => ⟨.next, l₅, rfl, N₅, h₅⟩) fun _ _ y => y) fun _ _ y => y) fun _ _ y => y) fun _ _ y => y) fun _ _ y => y)
theorem Op2.isub {a b : Int} {R : AV → Led → Prop} (h : R (.int (a - b)) l) : Op2 G A (inplaceOp .Sub) (.int a) (.int b) l R X := fun _ _ ⟨_, e⟩ ⟨_, e'⟩ s N => by subst e e'; exact PyProof.Rows.isub_int ⟨.int _, l, ⟨_, rfl⟩, N.toks _, h⟩
/-- two targets -/
theorem Asg.sub {o i : Expr} {pos : Pos} {a : AV} {R : Led → Prop} (h : EE G A env o l (fun ov l₁ => EE G A env i l₁ (fun iv l₂ => SetI G A ov iv a l₂ R X) X) X) : Asg G A env (.Subscript o i pos) a l R X := fun v hv s N => by
  rw [arm_assign_Subscript]
  refine wpAny_bind (wpAny_holding (wpAny_mono (h s N) (fun u s₁ ⟨a', l₁, ha, N₁, h₁⟩ => ?_) fun _ _ y => y))
  refine wpAny_bind (wpAny_holding (wpAny_mono (h₁ s₁ N₁) (fun w s₂ ⟨b, l₂, hb, N₂, h₂⟩ => ?_) fun _ _ y => y))
  refine wpAny_bind (wpAny_standAt (wpAny_bind (wpAny_holding (wpAny_mono (h₂ u w v ha hb hv s₂ N₂) (fun _ s₃ h₃ => ?_) fun _ _ y => y))))
  exact wpAny_release h₃
theorem SS.assign2 {t1 t2 value : Expr} {pos : Pos} {R : AF → Led → Prop} (h : EE G A env value l (fun a l₁ => Asg G A env t1 a l₁ (fun l₂ => Asg G A env t2 a l₂ (fun l₃ => R .next l₃) X) X) X)
    (he : (assignEach [t1, t2] env).map (·.2) = [PySem.assign t1 env, PySem.assign t2 env] := by with_unfolding_all rfl) (hw : swappedStores [t1, t2] value env = pure Option.none := by with_unfolding_all rfl) : SS G A env (.Assign [t1, t2] value pos) l R X :=
  fun s N => wpAny_Assign_two (wpAny_mono (h s N) (fun v s₁ ⟨a, l₁, ha, N₁, h₁⟩ => wpAny_mono (h₁ v ha s₁ N₁) (fun _ s₂ ⟨_, l₂, _, N₂, h₂⟩ => wpAny_mono (h₂ v ha s₂ N₂) (fun _ s₃ ⟨_, l₃, _, N₃, h₃⟩ => ⟨.next, l₃, rfl, N₃, h₃⟩) fun _ _ y => y) fun _ _ y => y) fun _ _ y => y) he hw
end
/-! dicts -/
theorem valueAt_strs {kvs : List (Str × AV)} {kvs' : List (Str × Value)} (h : All2 KRel kvs kvs') (k : Str) : (valueAt kvs' k).isSome = (kvs.map (·.1)).contains k := by
  induction h with
  | nil => rfl
  | @cons p q ps qs hpq _ ih =>
    rw [List.map_cons, List.contains_cons, ← ih]
    unfold valueAt
    rw [List.find?_cons, hpq.1]
    by_cases e : q.1 = k
    · simp [e]
    · have : (k == q.1) = false := beq_eq_false_iff_ne.mpr fun x => e x.symm
      simp [e, this]
noncomputable def storedAV (kvs : List (Str × AV)) (k : Str) (a : AV) : List (Str × AV) := if k ∈ kvs.map (·.1) then kvs.map (fun kv => if kv.1 = k then (kv.1, a) else kv) else kvs ++ [(k, a)]
theorem stored_rel {kvs : List (Str × AV)} {kvs' : List (Str × Value)} (h : All2 KRel kvs kvs') {k : Str} {a : AV} {v : Value} (hv : a.Is v) : All2 KRel (storedAV kvs k a) (stored kvs' k v) := by
  have e : (kvs'.any fun kv => decide (kv.1 = k)) = decide (k ∈ kvs.map (·.1)) := by
    rw [keys_of h]
    by_cases q : k ∈ kvs'.map (·.1)
    · rw [decide_eq_true q]
      (refine PL.x1_1 (List.mem_map.mp q) ?_; rintro kv h1 h2)
      exact List.any_eq_true.mpr (PL.m1_1 kv h1 (by simpa using h2))
    · rw [decide_eq_false q, List.any_eq_false]
      intro kv hkv hk
      exact q (List.mem_map.mpr (PL.m1_1 kv hkv (by simpa using hk)))
  unfold storedAV stored
  rw [e]
  by_cases q : k ∈ kvs.map (·.1)
  · rw [if_pos q, if_pos (decide_eq_true q)]
    clear e q
    induction h with
    | nil => exact .nil
    | @cons p q ps qs hpq _ ih =>
      refine .cons ?_ ih
      dsimp only
      rw [hpq.1]
      by_cases e : q.1 = k
      · rw [if_pos e, if_pos e]; exact ⟨rfl, hv⟩
      · rw [if_neg e, if_neg e]; exact hpq
  · rw [if_neg q, if_neg (by simpa using q)]
    exact h.append (.one ⟨rfl, hv⟩)
theorem without_rel {kvs : List (Str × AV)} {kvs' : List (Str × Value)} (h : All2 KRel kvs kvs') (k : Str) : All2 KRel (kvs.filter fun kv => decide (kv.1 ≠ k)) (without kvs' k) := by
  unfold without
  induction h with
  | nil => exact .nil
  | @cons p q ps qs hpq _ ih =>
    rw [List.filter_cons, List.filter_cons, hpq.1]
    by_cases e : q.1 = k
    · rw [if_neg (by simpa using e), if_neg (by simpa using e)]; exact ih
    · rw [if_pos (by simpa using e), if_pos (by simpa using e)]; exact .cons hpq ih
theorem strIs {G : Gd} (k : Str) (t : Tok) : (PySem.strKind G.prog G.w).is k (.str k t) = true := by show Value.isStrOf k (.str k t) = true; simp [Value.isStrOf]
section
variable {G : Gd} {A : Around} {env : Env} {l l' : Led} {X : Xp} {R : AV → Led → Prop} {d : Addr} {kvs : List (Str × AV)} {ep : Nat} {k : Str}
theorem Op2.indict (hp : Pick (d, .sdict kvs ep) l l') (h : R (.bool ((kvs.map (·.1)).contains k)) l) : Op2 G A (compareOp .In) (.str k) (.ref d) l R X := fun v u ⟨t, hv⟩ hu s N => by
  subst hv; cases hu
  obtain ⟨hd, kvs', hm, hr⟩ := N.at hp
  exact wpAny_in_of (knd := PySem.strKind G.prog G.w) (k := k) (strIs k t) hd hm.dictOf.mapOf ⟨.bool _, l, rfl, N.toks _, by rw [valueAt_strs hr]; exact h⟩
theorem CC.dget {a : AV} (hp : Pick (d, .sdict kvs ep) l l') (hm : (k, a) ∈ kvs) (h : R a l) : CC G A (.lit (.builtin "dict.get")) [.ref d, .str k] l R X := fun f vs hf hvs s N => by
  cases hf
  obtain ⟨v, u, rfl, hv, t, rfl⟩ := get2 hvs
  cases hv
  obtain ⟨hd, kvs', hD, hr⟩ := N.at hp
  (refine PL.x1_1 (valueAt_of hr (by rw [keys_of hr]; exact hD.nodup) hm) ?_; rintro w hw haw)
  exact call_meetsIn F.slot_dict_get hD.dictOf.typeIs F.entry_dict_get (F.args_dict_get_2 _ _) (meets_dict_get (PySem.strKind G.prog G.w) d (strIs k t) hd) ⟨_, hD.dictOf.mapOf, a, l, by rw [hw]; exact haw, N.toks _, h⟩
theorem CC.dget0 (hp : Pick (d, .sdict kvs ep) l l') (hm : k ∉ kvs.map (·.1)) (h : R .none l) : CC G A (.lit (.builtin "dict.get")) [.ref d, .str k] l R X := fun f vs hf hvs s N => by
  cases hf
  obtain ⟨v, u, rfl, hv, t, rfl⟩ := get2 hvs
  cases hv
  obtain ⟨hd, kvs', hD, hr⟩ := N.at hp
  have hw := valueAt_none hr hm
  exact call_meetsIn F.slot_dict_get hD.dictOf.typeIs F.entry_dict_get (F.args_dict_get_2 _ _) (meets_dict_get (PySem.strKind G.prog G.w) d (strIs k t) hd) ⟨_, hD.dictOf.mapOf, .none, l, by rw [hw]; rfl, N.toks _, h⟩
theorem SetI.sdict {a : AV} {R : Led → Prop} (hp : Pick (d, .sdict kvs ep) l l') (hz : kvs.length ≤ 1000000) (h : ∀ ep', R ((d, .sdict (storedAV kvs k a) ep') :: l')) : SetI G A (.ref d) (.str k) a l R X := fun v u x hv ⟨t, hu⟩ hx s N => by
  cases hv; subst hu
  obtain ⟨hd, kvs', hD, hr⟩ := N.at hp
  have hlen : kvs'.length = kvs.length := hr.length.symm
  exact wpAny_setItem_pairs (knd := PySem.strKind G.prog G.w) (k := k) (hsz := by rw [hlen]; exact Nat.le_trans hz (by decide)) (strIs k t) hD.dictOf fun h' hD' hs' => by
    obtain ⟨ep', hD'⟩ := hD'.dictAt
    exact ⟨(), _, trivial, N.upd (tk := s.toks + 1) (ao' := .sdict (storedAV kvs k a) ep') hp hs'.extBut ⟨hd, _, hD', stored_rel hr hx⟩, h ep'⟩
theorem EE.dict0 {pos : Pos} {gt : List (Str × AV)} (hg : GlobOk G gt) (h : ∀ p ep, R (.ref p) ((p, .sdict [] ep) :: l)) : EE G A env (.Dict [] [] pos) l R X := fun s N => by
  (revert hg; refine PL.j2_2 ?_; rintro mg mb n1 n2 _)
  have hz : mainGlobals < s.heap.objs.size := (n1.keeps N.keep).lt
  have hne : (s.heap.objs.size == sysModules) = false := beq_eq_false_iff_ne.mpr fun e => by
    rw [e] at hz; exact absurd hz (by decide)
  refine wpAny_Dict_empty ⟨.ref s.heap.objs.size, _, rfl, N.push (ao := .sdict [] 0) rfl ⟨hne, [], ?_, .nil⟩, h _ _⟩
  exact (PL.m2_5 _ (#[]) (Heap.get?_push_size _ rfl) ((PL.m0_2 rfl rfl rfl)) rfl (fun _ he => by simp at he) Pairs.nil List.nodup_nil)
/-- an item of a dict goes -/
theorem SS.del1 {o i : Expr} {p1 pos : Pos} {R : AF → Led → Prop} (h : EE G A env o l (fun ov l₁ => EE G A env i l₁ (fun iv l₂ => ∃ d kvs ep k l₃, ov = .ref d ∧ iv = .str k ∧ Pick (d, .sdict kvs ep) l₂ l₃ ∧ kvs.length ≤ 1000000 ∧ k ∈ kvs.map (·.1) ∧
      ∀ ep', R .next ((d, .sdict (kvs.filter fun kv => decide (kv.1 ≠ k)) ep') :: l₃)) X) X) : SS G A env (.Delete [.Subscript o i p1] pos) l R X := fun s N => by
  refine wpAny_Delete (wpAny_deleteEach_cons ?_)
  rw [arm_delete_Subscript]
  refine wpAny_bind (wpAny_mono (h s N) (fun v s₁ ⟨a, l₁, ha, N₁, h₁⟩ => ?_) fun _ _ y => y)
  refine wpAny_bind (wpAny_holding (wpAny_mono (h₁ s₁ N₁) (fun u s₂ ⟨b, l₂, hb, N₂, d, kvs, ep, k, l₃, ea, eb, hp, hz, hk, hR⟩ => ?_) fun _ _ y => y))
  subst ea eb
  cases ha
  obtain ⟨t, rfl⟩ := hb
  obtain ⟨hd, kvs', hD, hr⟩ := N₂.at hp
  have hlen : kvs'.length = kvs.length := hr.length.symm
  have fin : wpAny (model G.prog G.w) A (delItem (.ref d) (.str k t)) (fun _ s' => wpAny (model G.prog G.w) A (deleteEach [] env) (fun _ s₁ => Po G AF.Is R .next s₁) (Px G X) s') (Px G X) s₂ := by
    refine wpAny_delItem_slot hD.dictOf.typeIs (by decide) F.slot_dict_delitem (call_meetsIn F.slot_dict_delitem hD.dictOf.typeIs F.entry_dict_delitem (F.args_dict_delitem_2 _ _) (meets_dict_delitem_pairs (PySem.strKind G.prog G.w) d (strIs k t)) (PL.m1_3 kvs' hD.dictOf (by rw [hlen]; exact Nat.le_trans hz (by decide)) ?_ (fun h' hD' hs' => ?_)))
    · rw [valueAt_strs hr]; simpa using hk
    · obtain ⟨ep', hD'⟩ := hD'.dictAt
      exact wpAny_deleteEach_nil ⟨.next, _, rfl, N₂.upd (tk := s₂.toks + 1) (ao' := .sdict (kvs.filter fun kv => decide (kv.1 ≠ k)) ep') hp hs'.extBut ⟨hd, _, hD', without_rel hr k⟩, hR ep'⟩
  exact wpAny_bind (wpAny_standAt (wpAny_bind (wpAny_holding (wpAny_mono fin (fun _ s₃ h₃ => wpAny_release h₃) fun _ _ y => y))))
theorem CC.values (hp : Pick (d, .sdict kvs ep) l l') (h : ∀ v, R (.ref v) ((v, .fields "dict_values" [.ref d]) :: l)) : CC G A (.lit (.builtin "dict.values")) [.ref d] l R X := fun f vs hf hvs s N => by
  cases hf
  (refine PL.x1_1 (get1 hvs) ?_; rintro v rfl hv)
  cases hv
  obtain ⟨hd, kvs', hD, hr⟩ := N.at hp
  exact call_meetsIn F.slot_dict_values hD.dictOf.typeIs F.entry_dict_values (F.args_dict_values_1 _) (meets_dict_values (PySem.strKind G.prog G.w) d hd) ⟨⟨_, hD.dictOf⟩, .ref s.heap.objs.size, _, rfl, N.push (ao := .fields "dict_values" [.ref d]) rfl (PL.m1_1 ([.ref d]) (Heap.get?_push_size _ rfl) (.one rfl)), h _⟩
theorem getKR {kvs : List (Str × AV)} {kvs' : List (Str × Value)} (h : All2 KRel kvs kvs') {i : Nat} {k : Str} {a : AV} (hx : kvs[i]? = some (k, a)) : ∃ v, kvs'[i]? = some (k, v) ∧ a.Is v := by
  (refine PL.x1_2 (h.get hx) ?_; rintro ⟨k', v⟩ h1 h2 h3)
  cases h2
  exact (PL.m1_1 v h1 h3)
theorem walk_keys {it : Addr} (hh : A.handled = none) : Walk G A (.ref it) kvs.length (fun k => [(it, .keyiter d k kvs.length ep), (d, .sdict kvs ep)]) (fun k _ => [(it, .keyiter d k kvs.length ep), (d, .sdict kvs ep)]) [(d, .sdict kvs ep)] (fun i a E => ∃ k b, kvs[i]? = some (k, b) ∧ a = .str k ∧ E = []) IsName where
  next i L R X hk h v hv s N := by
    cases hv
    have hit : s.heap.IsKeyIter it d i kvs.length ep := N.at (ao := .keyiter d i kvs.length ep) .head
    obtain ⟨hd, kvs', hD, hr⟩ := N.at (ao := .sdict kvs ep) (.tail .head)
    obtain ⟨k, b, hb⟩ : ∃ k b, kvs[i]? = some (k, b) := (PL.m2_0 (kvs[i].1) (kvs[i].2) (List.getElem?_eq_getElem hk))
    (refine PL.x1_1 (getKR hr hb) ?_; rintro u hu _)
    rw [hr.length] at hit
    exact wpAny_pyNext_dict_item hit hD hu fun key h' hkey hit' hs' => ⟨some (.str k), _, (PL.m1_1 key rfl (by
      cases key <;> simp [PySem.strKind, Value.isStrOf] at hkey
      exact ⟨_, by rw [hkey]⟩)), N.upd (tk := s.toks) (ao' := .keyiter d (i + 1) kvs.length ep) .head hs'.extBut (by rw [hr.length]; exact hit'), h (.str k) [] (PL.m2_2 k b hb rfl rfl)⟩
  go k L a E target R X ht hp h v u hv hu s N := by
    (revert hp; refine PL.j2_2 ?_; rintro _ _ _ _ rfl)
    cases target with
    | Name => exact wpAny_pure ⟨(), _, trivial, N, h⟩
    | _ => cases ht
  stop L R X h v hv s N := by
    cases hv
    have hit : s.heap.IsKeyIter it d kvs.length kvs.length ep := N.at (ao := .keyiter d kvs.length kvs.length ep) .head
    obtain ⟨hd, kvs', hD, hr⟩ := N.at (ao := .sdict kvs ep) (.tail .head)
    rw [hr.length] at hit
    exact wpAny_pyNext_dict_end hh hit hD (by simp) fun h' hs' => ⟨none, _, rfl, N.drop (tk := s.toks) hs', h⟩
  again L R X h v hv s N := by
    cases hv
    have hit : s.heap.IsKeyIter it d 0 kvs.length ep := N.at (ao := .keyiter d 0 kvs.length ep) .head
    exact wpAny_pyIter_keyiter hit ⟨.ref it, _, rfl, N, h⟩
theorem iter_dict {R : AV → Led → Prop} (hp : Pick (d, .sdict kvs ep) l l') (h : ∀ it, R (.ref it) ([(it, .keyiter d 0 kvs.length ep), (d, .sdict kvs ep)] ++ l')) : Op1 G A pyIter (.ref d) l R X := fun v hv s N => by
  cases hv
  obtain ⟨hd, kvs', hD, hr⟩ := N.at hp
  refine wpAny_pyIter_dict hd hD ⟨.ref s.heap.objs.size, _, rfl, (N.push (ao := .keyiter d 0 kvs.length ep) rfl (PL.m1_2 _ (Heap.get?_push_size _ rfl) rfl ?_)).sub (.keep (.perm hp.perm)), h _⟩
  rw [hr.length]; rfl
theorem walk_vals {it : Addr} (hh : A.handled = none) : Walk G A (.ref it) kvs.length (fun k => [(it, .valiter d k kvs.length ep), (d, .sdict kvs ep)]) (fun k _ => [(it, .valiter d k kvs.length ep), (d, .sdict kvs ep)]) [(d, .sdict kvs ep)] (fun i a E => ∃ k, kvs[i]? = some (k, a) ∧ E = []) IsName where
  next i L R X hk h v hv s N := by
    cases hv
    have hit : s.heap.IsValIter it d i kvs.length ep := N.at (ao := .valiter d i kvs.length ep) .head
    obtain ⟨hd, kvs', hD, hr⟩ := N.at (ao := .sdict kvs ep) (.tail .head)
    obtain ⟨k, b, hb⟩ : ∃ k b, kvs[i]? = some (k, b) := (PL.m2_0 (kvs[i].1) (kvs[i].2) (List.getElem?_eq_getElem hk))
    (refine PL.x1_1 (getKR hr hb) ?_; rintro u hu hbu)
    rw [hr.length] at hit
    exact wpAny_pyNext_values_item hit hD hu fun h' hit' hs' => ⟨some b, _, (PL.m1_1 u rfl hbu), N.upd (tk := s.toks) (ao' := .valiter d (i + 1) kvs.length ep) .head hs'.extBut (by rw [hr.length]; exact hit'), h b [] (PL.m1_1 k hb rfl)⟩
  go k L a E target R X ht hp h v u hv hu s N := by
    (revert hp; refine PL.j1_1 ?_; rintro _ _ rfl)
    cases target with
    | Name => exact wpAny_pure ⟨(), _, trivial, N, h⟩
    | _ => cases ht
  stop L R X h v hv s N := by
    cases hv
    have hit : s.heap.IsValIter it d kvs.length kvs.length ep := N.at (ao := .valiter d kvs.length kvs.length ep) .head
    obtain ⟨hd, kvs', hD, hr⟩ := N.at (ao := .sdict kvs ep) (.tail .head)
    rw [hr.length] at hit
    exact wpAny_pyNext_values_end hh hit hD (by simp) fun h' hs' => ⟨none, _, rfl, N.drop (tk := s.toks) hs', h⟩
  again L R X h v hv s N := by
    cases hv
    have hit : s.heap.IsValIter it d 0 kvs.length ep := N.at (ao := .valiter d 0 kvs.length ep) .head
    exact wpAny_pyIter_valiter hit ⟨.ref it, _, rfl, N, h⟩
theorem iter_values {v : Addr} {R : AV → Led → Prop} (hv : Pick (v, .fields "dict_values" [.ref d]) l l') {l'' : Led} (hp : Pick (d, .sdict kvs ep) l' l'') (h : ∀ it, R (.ref it) ([(it, .valiter d 0 kvs.length ep), (d, .sdict kvs ep)] ++ l'')) : Op1 G A pyIter (.ref v) l R X := fun w hw s N => by
  cases hw
  (refine PL.x1_1 (N.at hv) ?_; rintro vs ho hvs)
  (refine PL.x1_1 (get1 hvs) ?_; rintro u rfl hu)
  cases hu
  have N' := N.sub (l' := l') (.trans .tail (.perm hv.perm))
  obtain ⟨hd, kvs', hD, hr⟩ := N'.at hp
  refine wpAny_pyIter_values (PL.m1_2 _ ho rfl rfl) hD ⟨.ref s.heap.objs.size, _, rfl, (N'.push (ao := .valiter d 0 kvs.length ep) rfl (PL.m1_2 _ (Heap.get?_push_size _ rfl) rfl ?_)).sub (.keep (.perm hp.perm)), h _⟩
  rw [hr.length]; rfl
end
end PL
end
section
open PySem PySem.Calls PyProof.Rows PySem.W Builtin Builtin.ObjectAttr Builtin.Getset_descriptor
set_option autoImplicit false
set_option linter.unusedVariables false
set_option maxRecDepth 100000
set_option maxHeartbeats 0
namespace PL
section
variable {G : Gd} {A : Around} {env : Env} {l l' : Led} {X : Xp} {R : AV → Led → Prop} {K : Frag} {x C dx p : Addr} {kvs : List (Str × AV)} {name : Str}
/-! a slot is stored -/
theorem slots_store {vs : List (Option AV)} {vs' : List (Option Value)} {a : AV} {u : Value} {i : Nat} (hr : All2 ORel vs vs') (hi : i < vs.length) (hu : a.Is u) :
    ∃ ws : List (Option Value), ((vs'.toArray ++ Array.replicate (i + 1 - vs'.toArray.size) Option.none).setIfInBounds i (some u)) = ws.toArray ∧ All2 ORel (vs.set i (some a)) ws := by
  have hlen := hr.length
  refine (PL.m1_1 (vs'.set i (some u)) ?_ (hr.set (show ORel (some a) (some u) from (PL.m1_1 u rfl hu)) i))
  have : i + 1 - vs'.toArray.size = 0 := by simp; omega
  rw [this]
  simp
theorem slots_store_new {vs : List (Option AV)} {vs' : List (Option Value)} {a : AV} {u : Value} {i : Nat} (hr : All2 ORel vs vs') (hi : i = vs.length) (hu : a.Is u) :
    ∃ ws : List (Option Value), ((vs'.toArray ++ Array.replicate (i + 1 - vs'.toArray.size) Option.none).setIfInBounds i (some u)) = ws.toArray ∧ All2 ORel (vs ++ [some a]) ws := by
  have hlen := hr.length
  subst hi
  refine (PL.m1_1 (vs' ++ [some u]) ?_ (hr.append (.one (show ORel (some a) (some u) from (PL.m1_1 u rfl hu)))))
  have : vs.length + 1 - vs'.toArray.size = 1 := by simp; omega
  rw [this, hlen]
  simp
theorem SAt.slot {vs vs2 : List (Option AV)} {a : AV} {i : Nat} {R : Led → Prop} (hK : K.In G.t) (hs : findIn K (.ref C) "__setattr__" = some (some (.builtin "object.__setattr__"))) (hp : plainOver K C = true) (ht : takerIn K C name = some (some (.ref p)))
    (hT : typeIn K (.ref p) = some (.type "member_descriptor")) (hi : slotIn K p C = some i) (hz : i < 1000)
    (h1 : Pick (x, .slots C dx vs) l l') (h2 : (dx, .idct kvs) ∈ l) (hv : (i < vs.length ∧ vs2 = vs.set i (some a)) ∨ (i = vs.length ∧ vs2 = vs ++ [some a])) (h : R ((x, .slots C dx vs2) :: l')) : SAt G A name (.ref x) a l R X := fun v u hv' hu s N => by
  cases hv'
  obtain ⟨vs', od, I, hr⟩ := slotsAt N h1.mem h2
  have X' := hK.keeps N.keep
  obtain ⟨ws, hws, hrel⟩ : ∃ ws : List (Option Value), ((vs'.toArray ++ Array.replicate (i + 1 - vs'.toArray.size) Option.none).setIfInBounds i (some u)) = ws.toArray ∧ All2 ORel vs2 ws := by
    rcases hv with ⟨h1, rfl⟩ | ⟨h1, rfl⟩
    · exact slots_store hr h1 hu
    · exact slots_store_new hr h1 hu
  refine set_plain X' I hs (osa_descr (s := { s with toks := s.toks + 1 }) KF.slot_mset X' I hp ht hT ?_)
  obtain ⟨n, tn, owner, behind, tb, d, sl, cd, ho, hc, hm, hb, rfl⟩ := slot_of X' hi
  have fin : Rep G { s with heap := s.heap.update x fun o => { o with slots := (o.slots ++ Array.replicate (cd.slotNames.length - 1 - behind.toNat + 1 - o.slots.size) Option.none).setIfInBounds (cd.slotNames.length - 1 - behind.toNat) (some u) }, toks := s.toks + 1 } ((x, .slots C dx vs2) :: l') := by
    refine N.upd (tk := s.toks + 1) (ao' := .slots C dx vs2) h1 (Heap.SameBut.update ..).extBut ⟨ws, ?_, hrel⟩
    refine (Heap.get?_update_self _ I.at_ rfl).trans ?_
    dsimp only
    rw [hws]
  obtain ⟨hh, g, dr, t, os⟩ := s
  have L0 := I.type (M := model G.prog G.w)
  have L1 := looks_mroIn (M := model G.prog G.w) X' hm
  have L2 : Looks (model G.prog G.w) hh (Slots.slotNamesOf (.ref C)) cd.slotNames := (looks_clsIn X' hc).andThen .now
  have hx := I.at_
  dsimp only at ho hx L0 L1
  have f0 := looks_field (M := model G.prog G.w) ho 0 (v := .str n tn) rfl
  have f1 := looks_field (M := model G.prog G.w) ho 1 (v := owner) rfl
  have f3 := looks_field (M := model G.prog G.w) ho 3 (v := .builtin "proto.slot#set") rfl
  have f4 := looks_field (M := model G.prog G.w) ho 4 (v := .int behind tb) rfl
  refine codeAny_call_builtin KF.slot_mset.plain KF.entry_mset (KF.slot_mset.check _ _ _ _ _ _ _ _ ⟨_, ho, rfl⟩ (KF.args_mset _ _ _) ?_)
  unfold Builtin.«member_descriptor.__set__» descrSet descrStoreThrough descrCheckInstance descrNameAndClass isInstance
  have f5 : Looks (model G.prog G.w) hh (descrItself (.ref p)) [.ref p] := ((Looks.ld (part := Option.none) ho).andThen .now).andThen (Looks.of_pure (by kernel_rfl))
  repeat lk
  refine ⟨Code.quiet_builtin _ (by decide +kernel), codeAny_builtin KF.entry_slotset ?_⟩
  unfold Builtin.«proto.slot#set» Slots.target
  repeat lk
  rw [if_neg hb]
  refine wpAny_pure (wpAny_bind ?_)
  unfold setSlotAt
  dsimp only
  rw [if_neg (by rw [sizeLine_eq]; omega)]
  exact wpAny_updatePart hx (wpAny_pure ⟨(), _, trivial, fin, h⟩)
/-! a class is called -/
theorem AOle.slots0 : AOle (.slots C dx []) (.inst C dx) := fun _ _ _ h => (PL.m1_1 ([]) h (.nil))
theorem Room.make {n : Nat} {C : Addr} {vals : List Value} (r : Room A (n + 1)) : Room (A.under (.builtin "type.__call__" ⟨.ref C :: vals, []⟩)) n := ⟨r.h, by have := r.d; show A.depth + 1 + n < _; omega, by
  have := r.u
  rw [units_under_make]; omega⟩
theorem CC.make {fI : Addr} {args : List AV} {n : Nat} (hK : K.In G.t) (hr : Room A (n + 1)) (hm : makesIn K C = true) (hi : findIn K (.ref C) "__init__" = some (some (.ref fI))) (hf : typeIn K (.ref fI) = some (.type "function"))
    (h : ∀ x dx A', Room A' n → CK G A' (.ref fI) (.ref x :: args) ((x, .inst C dx) :: (dx, .idct []) :: l) (fun r l' => r = .none ∧ R (.ref x) l') X) : CC G A (.ref C) args l R X := fun v vs hv hvs s N => by
  cases hv
  have X' := hK.keeps N.keep
  have N₁ := N.push (o := emptyDict) (ao := .idct []) rfl (PL.m2_1 ([]) 0 (Heap.get?_push_size _ rfl) (.nil))
  have N₂ := N₁.push (o := instObj C s.heap.objs.size) (ao := .inst C s.heap.objs.size) rfl (Heap.get?_push_size _ rfl)
  have e : (s.heap.push emptyDict).objs.size = s.heap.objs.size + 1 := Heap.size_push ..
  rw [e] at N₂
  obtain ⟨hh, g, d, t, os⟩ := s
  refine wpAny_call (make_core (makes_of X' hm) (looks_findIn X' hi) (fun self => bind_fn X' self hf) (.inl rfl) ?_)
  refine codeAny_mono (h _ _ _ hr.make (.ref fI) (.ref _ :: vs) rfl (.cons rfl hvs) _ N₂) fun r s' z => ?_
  rcases r with e | (v | _ | _ | _)
  · exact z
  · exact z.elim
  · exact z.elim
  · exact z.elim
  · obtain ⟨b, l', hb, N', rfl, hR⟩ := z
    exact ⟨hb, .ref (hh.objs.size + 1), l', rfl, N', hR⟩
/-! a call of a method, the last argument starred: a list -/
/-! a def with a starred parameter; a def whose last parameter has a default -/
theorem BRel.zip {xs : List Str} {args : List AV} : ∀ {vs : List Value}, AllIs args vs → BRel (xs.zip args) (xs.zip vs) := by
  induction xs generalizing args with
  | nil => intro vs _; simp; exact .nil
  | cons x xs ih =>
    intro vs h
    cases args with
    | nil => cases h; simp; exact .nil
    | cons a as =>
      (refine PL.x2_2 (h.consL) ?_; rintro v us rfl ha hu)
      exact .cons ⟨rfl, ha⟩ (ih hu)
theorem zip_left {α β : Type} : ∀ (xs : List α) (as bs : List β), xs.length = as.length → xs.zip (as ++ bs) = xs.zip as
  | [], _, _, _ => by simp
  | x :: xs, [], _, h => by simp at h
  | x :: xs, a :: as, bs, h => by
    rw [List.cons_append, List.zip_cons_cons, List.zip_cons_cons, zip_left xs as bs (by simpa using h)]
theorem CC.defV {f : Addr} {fd : FuncData} {body : List Stmt} {names : List (Str × NameKind)} {as rest : List AV} {bs : List Bind} {n : Nat} (hF : FnOk G f fd body names) (hroom : Room A (n + 1)) (xs : List Str) (va : Arg) {vals : Addr → List (Option AV)}
    (hl : Zip xs as bs) (hb : PlainBind fd xs (some va.arg)) (hva : fd.params.vararg = some va) (hrest : rest.length < 1000000) (hck : cellKeys names [] = []) (hnd : (xs ++ [va.arg]).Nodup)
    (hk : ∀ t, BKind names (bs ++ [(va.arg, .ref t)])) (hi : ∀ t, Init (bs ++ [(va.arg, .ref t)]) names (vals t))
    (h : ∀ t L env A', EnvOk env names L [] → Room A' n → InFr A A' env fd.code L → BB G A' env body ((L, .ns names (vals t)) :: (t, .tuple rest) :: l) (fun fl l₂ => ∃ l₃, Sub l₃ l₂ ∧ R (retOf fl) l₃) noX) :
    CC G A (.ref f) (as ++ rest) l R X := by
  obtain ⟨rfl, hl'⟩ := hl.zip
  refine CC.fn hF hroom.call fun vs hvs s N => ?_
  have hlen := hvs.length
  rw [bind_var hb.h1 hb.h2 hb.h3 hva hb.h5 hb.h6 hb.hn (by rw [List.length_append] at hlen; omega)]
  have hz : (vs.drop xs.length).length = rest.length := by rw [List.length_drop, ← hlen, List.length_append]; omega
  unfold newTuple
  refine wpAny_bind (wpAny_newObj_type ?_ (by show (vs.drop xs.length).toArray.size ≤ sizeLine; rw [List.size_toArray, hz]; exact Nat.le_trans (Nat.le_of_lt hrest) (by decide)))
  have hr : AllIs rest (vs.drop xs.length) := by
    have := hvs.drop xs.length
    rwa [hl', List.drop_left, ← hl'] at this
  have N₁ := N.push (o := { cls := .type "tuple", data := .seq (vs.drop xs.length).toArray }) (ao := .tuple rest) rfl (PL.m1_1 _ (Heap.get?_push_size _ rfl) hr)
  have hz1 : AllIs as (vs.take xs.length) := by
    have := hvs.take xs.length
    rwa [hl', List.take_left, ← hl'] at this
  have ez : xs.zip vs = xs.zip (vs.take xs.length) := by
    have h1 := zip_left xs (vs.take xs.length) (vs.drop xs.length) (by rw [← hz1.length, hl'])
    rw [List.take_append_drop] at h1
    exact h1
  refine wpAny_pure ⟨xs.zip as ++ [(va.arg, .ref s.heap.objs.size)], _, ?_, N₁, ?_, hk _, vals _, [], hi _, ?_, fun L cl env A' hcl hE hA h1 h2 => ?_⟩
  · rw [ez]; exact (BRel.zip hz1).append (.one ⟨rfl, rfl⟩)
  · rw [List.map_append, List.map_fst_zip (by omega)]; exact hnd
  · rw [hck]; exact .nil
  · rw [hck] at hcl
    match cl, hcl with
    | [], _ => exact h _ L env A' hE (by subst hA; exact hroom.deeper) ⟨h1, h2, hA⟩
theorem CK.defB {f : Addr} {fd : FuncData} {body : List Stmt} {names : List (Str × NameKind)} {args : List AV} {bs : List Bind} {n : Nat} (hF : FnOk G f fd body names) (hroom : Room A (n + 1)) {vals : List (Option AV)}
    (hb : ∀ vs s, AllIs args vs → Rep G s l → ∃ us, BindsTo s fd ⟨vs, []⟩ us ∧ BRel bs us) (hck : cellKeys names [] = []) (hnd : (bs.map fun p => p.1).Nodup)
    (hk : BKind names bs) (hi : Init bs names vals)
    (h : ∀ L env A', EnvOk env names L [] → Room A' n → InFr A A' env fd.code L → BB G A' env body ((L, .ns names vals) :: l) (fun fl l₂ => ∃ l₃, Sub l₃ l₂ ∧ R (retOf fl) l₃) (LeaveX G A' env X)) :
    CK G A (.ref f) args l R X := by
  refine CK.fnX hF hroom.call fun vs hvs s N => ?_
  (refine PL.x1_1 (hb vs s hvs N) ?_; rintro us h1 h2)
  refine h1 _ _ _ _ ⟨bs, l, h2, N, hnd, hk, vals, [], hi, by rw [hck]; exact .nil, fun L cl env A' hcl hE hA e1 e2 => ?_⟩
  rw [hck] at hcl
  match cl, hcl with
  | [], _ => exact h L env A' hE (by subst hA; exact hroom.deeper) ⟨e1, e2, hA⟩
theorem binds_plain {fd : FuncData} {args : List AV} {xs : List Str} {bs : List Bind} (hl : Zip xs args bs) (hb : PlainBind fd xs none) : ∀ vs s, AllIs args vs → Rep G s l → ∃ us, BindsTo s fd ⟨vs, []⟩ us ∧ BRel bs us := fun vs s hvs _ => by
  obtain ⟨rfl, hl'⟩ := hl.zip
  refine (PL.m1_1 (xs.zip vs) (BindsTo.of_eq (bind_eq hb.h1 hb.h2 hb.h3 (by have := hb.h4; simpa using this) hb.h5 hb.h6 hb.hn ?_)) (BRel.zip hvs))
  rw [← hvs.length]; omega
end
end PL
end
section
open PySem PySem.Calls PyProof.Rows PySem.W
set_option autoImplicit false
set_option linter.unusedVariables false
set_option maxRecDepth 100000
set_option maxHeartbeats 0
namespace PL
/-! exceptions -/
theorem Rep.one {G : Gd} {s : Shared} {l : Led} (N : Rep G s l) {p q : Addr × AO} (hp : p ∈ l) (hq : q ∈ l) (e : p.1 = q.1) : p = q := by
  have nd := N.nodup
  clear N
  induction l with
  | nil => cases hp
  | cons r l ih =>
    rw [List.map_cons, List.nodup_cons] at nd
    rcases List.mem_cons.mp hp with e1 | hp1
    · rcases List.mem_cons.mp hq with e2 | hq1
      · exact e1.trans e2.symm
      · exact (nd.1 (List.mem_map.mpr (PL.m1_1 q hq1 (by rw [← e, e1])))).elim
    · rcases List.mem_cons.mp hq with e2 | hq1
      · exact (nd.1 (List.mem_map.mpr (PL.m1_1 p hp1 (by rw [e, e2])))).elim
      · exact ih hp1 hq1 nd.2
theorem Rep.slots {G : Gd} {s : Shared} {l : Led} {h' : Heap} {S : List Addr} (N : Rep G s l) (hs : Heap.SlotsOnly S s.heap h') (hS : ∀ b ∈ S, ∃ names vs, (b, .ns names vs) ∈ l) : Rep G { s with heap := h' } l := by
  refine ⟨fun b o e => ?_, N.nodup, fun p hp => ⟨(N.has p hp).1, ?_⟩, N.gens, N.os⟩
  · refine (hs.2.1 b fun q => ?_).trans (N.keep b o e)
    (refine PL.x2_0 (hS b q) ?_; rintro names vs hm)
    have := (N.has _ hm).1
    rw [e] at this; cases this
  · by_cases q : p.1 ∈ S
    · (refine PL.x2_0 (hS _ q) ?_; rintro names vs hm)
      have e := N.one hp hm rfl
      obtain ⟨a, ao⟩ := p
      cases e
      (refine PL.x1_1 (N.atM hm) ?_; rintro m ⟨o, es, ep, ho, hd, r⟩ hi)
      obtain ⟨sl, hsl⟩ := hs.2.2 a o ho
      exact (PL.m1_1 m ((PL.m3_2 _ es ep hsl hd r)) hi)
    · exact (N.has p hp).2.keep fun o e => (hs.2.1 _ q).trans e
/-- a frame stands in the ledger -/
noncomputable def FrIn (l : Led) (e : Env) : Prop := e.scope.kind ≠ .module ∧ ∃ L names vs, e.frame = some L ∧ (L, .ns names vs) ∈ l
noncomputable def FrsIn (A : Around) (l : Led) : Prop := ∃ es, A.frames = some es ∧ ∀ e ∈ es, FrIn l e
theorem FrIn.sub {l l' : Led} {e : Env} (h : FrIn l e) (hs : ∀ p ∈ l, p ∈ l') : FrIn l' e := ⟨h.1, let ⟨L, n, v, a, b⟩ := h.2; (PL.m3_1 L n v a (hs _ b))⟩
theorem funFrames {G : Gd} {s : Shared} {l : Led} (N : Rep G s l) : ∀ {es : List Env}, (∀ e ∈ es, FrIn l e) → s.heap.FunFrames G.t es
  | [], _ => trivial
  | e :: es, h => by
    obtain ⟨hk, L, names, vs, hf, hm⟩ := h e (.head _)
    (refine PL.x1_1 (N.atM hm) ?_; rintro m ⟨o, es', ep, ho, hd, r⟩ hi)
    exact (PL.m0_2 hk ((PL.m2_3 L o hf ((N.has _ hm).1) ho (fun ws q => by rw [hd] at q; cases q))) (funFrames N fun e' he' => h e' (.tail _ he')))
section
variable {G : Gd} {A : Around} {env : Env} {l l' : Led} {X : Xp}
theorem note_first {s : Shared} {es : List Env} {e L : Addr} {c : Value} {Q : Unit → Shared → Prop} {E : Value → Shared → Prop} (N : Rep G s l) (hp : Pick (e, .exc c none) l l') (hfr : A.frames = some (env :: es)) (hin : ∀ x ∈ env :: es, FrIn l' x) (hf : env.frame = some L)
    (h : ∀ s' T, Rep G s' ((T, .tb (rawInt L)) :: (e, .exc c (some T)) :: l') → Q () s') : wpAny (model G.prog G.w) A (noteFrame (.ref e) env) Q E s := by
  have hin' : ∀ x ∈ env :: es, FrIn l x := fun x hx => (hin x hx).sub fun p hp' => hp.perm.mem_iff.mpr (.tail _ hp')
  (refine PL.x2_3 (N.at hp) ?_; rintro oe vs he hc hd h1)
  have h1' : vs[1]? = some .none := h1
  have hsz : 1 < vs.size := (Array.getElem?_eq_some_iff.mp h1').1
  unfold noteFrame
  simp only [hf]
  refine wpAny_bind (wpAny_field he hd h1' ?_)
  rw [if_neg (by decide)]
  refine wpAny_bind (wpAny_frameOf_fun hfr (funFrames N hin') hf fun h₁ hs₁ => ?_)
  have N₁ := N.slots hs₁ fun b hb => by
    rw [List.mem_filterMap] at hb
    (revert hb; refine PL.j1_1 ?_; rintro x hx hxf)
    obtain ⟨_, L', names, ws, e1, e2⟩ := hin' x hx
    rw [e1] at hxf; cases hxf
    exact (PL.m2_0 names ws e2)
  (refine PL.x2_3 (N₁.at hp) ?_; rintro oe vs he hc hd h1)
  have h1' : vs[1]? = some .none := h1
  have hsz : 1 < vs.size := (Array.getElem?_eq_some_iff.mp h1').1
  refine wpAny_bind (wpAny_entryPlaceOf fun pl hpl => ?_)
  unfold EntryCells.newEntry newFields
  refine wpAny_bind (wpAny_newObj_type ?_ (hpl.sizeOk5 _ _ _ _ _))
  have N₂ := N₁.push (o := { cls := .type "traceback", dict := none, data := .fields ([Value.none, .ref L, .none, rawInt L, .none] ++ (if pl.isEmpty then List.replicate 6 Value.none else pl)).toArray }) (ao := .tb (rawInt L)) rfl
    (PL.m2_2 _ _ (Heap.get?_push_size _ rfl) rfl (by first | (simp; done) | (rcases hpl with rfl | ⟨_, _, _, _, _, _, _, rfl⟩ <;> simp)))
  have he₂ := Heap.get?_push_of_some (h := h₁) { cls := .type "traceback", dict := none, data := .fields ([Value.none, .ref L, .none, rawInt L, .none] ++ (if pl.isEmpty then List.replicate 6 Value.none else pl)).toArray } he
  refine wpAny_setField he₂ hd hsz (h _ h₁.objs.size ?_)
  have hd₃ := Obj.data_mapFields hd (·.setIfInBounds 1 (Value.ref h₁.objs.size))
  have he₃ := Heap.get?_update_self (Obj.mapFields (·.setIfInBounds 1 (Value.ref h₁.objs.size))) he₂ (Obj.isFreed_of_fields hd₃)
  have N₃ := N₂.upd (tk := s.toks) (ao' := .exc c (some h₁.objs.size)) (.tail hp) (Heap.SameBut.update ..).extBut (PL.m2_3 _ _ he₃ ((Obj.cls_mapFields _ _).trans hc) hd₃ (by simp [hsz]))
  exact N₃.perm (List.Perm.swap ..)
theorem flight_none {s : Shared} {e T : Addr} {c fl : Value} {Q : Unit → Shared → Prop} {E : Value → Shared → Prop} (N : Rep G s ((T, .tb fl) :: (e, .exc c (some T)) :: l)) (h : ∀ s', Rep G s' ((T, .tb .none) :: (e, .exc c (some T)) :: l) → Q () s') : wpAny (model G.prog G.w) A (setFlight (.ref e) none) Q E s := by
  (refine PL.x2_3 (N.at (.tail .head)) ?_; rintro oe vs he hc hd h1)
  have h1' : vs[1]? = some (.ref T) := h1
  (refine PL.x2_2 (N.at .head) ?_; rintro ot ts ht hdt h3)
  have h3' := (Array.getElem?_eq_some_iff.mp h3).1
  refine wpAny_setFlight_none he hd h1' ht hdt h3' (h _ ?_)
  have hd₃ := Obj.data_mapFields hdt (·.setIfInBounds 3 Value.none)
  exact N.upd (tk := s.toks) (ao' := .tb .none) .head (Heap.SameBut.update ..).extBut (PL.m2_2 _ _ (Heap.get?_update_self _ ht (Obj.isFreed_of_fields hd₃)) hd₃ (by simp [h3']))
/-! the bound next of a list's iterator -/
theorem CC.bnext {b it p : Addr} {xs : List AV} {i : Nat} {a : AV} {R : AV → Led → Prop} (hb : (b, .raw (boundNext it)) ∈ l) (hi : Pick (it, .listiter p i) l l') (hp : (p, .list xs) ∈ l') (hx : xs[i]? = some a) (h : R a ((it, .listiter p (i + 1)) :: l')) : CC G A (.ref b) [] l R X := fun f vs hf hvs s N => by
  cases hf
  cases hvs.nilL
  have hbo : s.heap.get? b = some (boundNext it) := N.atM hb
  have hit : s.heap.IsListIter it p i := N.at hi
  (refine PL.x1_1 (N.atM (hi.perm.mem_iff.mpr (.tail _ hp))) ?_; rintro ws hl ha)
  (refine PL.x1_1 (ha.get hx) ?_; rintro v hv hav)
  (refine PL.x1_2 (id hit) ?_; rintro o ho hc hd)
  obtain ⟨n, hol⟩ := hl
  refine ln_call ho hc hbo ?_
  show wpAny _ _ (field (.ref it) 0 >>= _) _ _ s
  refine wpAny_bind (wpAny_field ho hd (x := .ref p) rfl ?_)
  show wpAny _ _ (if (Value.ref p == Value.none) = true then _ else _) _ _ s
  rw [if_neg (show ¬ ((Value.ref p == Value.none) = true) from Bool.false_ne_true)]
  show wpAny _ _ (field (.ref it) 1 >>= _) _ _ s
  refine wpAny_bind (wpAny_field ho hd (x := .int i 0) rfl ?_)
  show wpAny _ _ (seqItems? (.ref p) >>= _) _ _ s
  refine wpAny_bind (wpAny_seqItems hol rfl ?_)
  have hv' : ws[i]? = some v := by rw [← Array.getElem?_toList]; exact hv
  simp only [Int.toNat_natCast, hv']
  refine wpAny_bind (wpAny_setField ho hd (by simp) ?_)
  have hit' : (s.heap.update it (Obj.mapFields (·.setIfInBounds 1 (rawInt ((i : Int) + 1))))).IsListIter it p (i + 1) :=
    (PL.m1_2 _ (Heap.get?_update_self _ ho (Obj.isFreed_of_fields (Obj.data_mapFields hd _))) ((Obj.cls_mapFields ..).trans hc) (by rw [Obj.data_mapFields hd]; simp [rawInt]))
  exact wpAny_pure ⟨v, rfl, a, _, hav, N.upd (tk := s.toks) (ao' := .listiter p (i + 1)) hi (Heap.SameBut.update ..).extBut hit', h⟩
theorem CC.bnext_end {b it p : Addr} {xs : List AV} {i : Nat} {R : AV → Led → Prop} (hh : A.handled = none) (hb : (b, .raw (boundNext it)) ∈ l) (hi : Pick (it, .listiter p i) l l') (hp : (p, .list xs) ∈ l') (hx : xs[i]? = none) (h : ∀ e, X e ((e, .exc (.type "StopIteration") none) :: l')) : CC G A (.ref b) [] l R X := fun f vs hf hvs s N => by
  cases hf
  cases hvs.nilL
  have hbo : s.heap.get? b = some (boundNext it) := N.atM hb
  have hit : s.heap.IsListIter it p i := N.at hi
  (refine PL.x1_1 (N.atM (hi.perm.mem_iff.mpr (.tail _ hp))) ?_; rintro ws hl ha)
  have hv := ha.none hx
  (refine PL.x1_2 (id hit) ?_; rintro o ho hc hd)
  obtain ⟨n, hol⟩ := hl
  refine ln_call ho hc hbo ?_
  show wpAny _ _ (field (.ref it) 0 >>= _) _ _ s
  refine wpAny_bind (wpAny_field ho hd (x := .ref p) rfl ?_)
  show wpAny _ _ (if (Value.ref p == Value.none) = true then _ else _) _ _ s
  rw [if_neg (show ¬ ((Value.ref p == Value.none) = true) from Bool.false_ne_true)]
  show wpAny _ _ (field (.ref it) 1 >>= _) _ _ s
  refine wpAny_bind (wpAny_field ho hd (x := .int i 0) rfl ?_)
  show wpAny _ _ (seqItems? (.ref p) >>= _) _ _ s
  refine wpAny_bind (wpAny_seqItems hol rfl ?_)
  have hv' : ws[i]? = none := by rw [← Array.getElem?_toList]; exact hv
  simp only [Int.toNat_natCast, hv']
  refine wpAny_bind (wpAny_rule (wpAny_bind (wpAny_setField ho hd (by simp) ?_)))
  have N₁ : Rep G { s with heap := s.heap.update it (Obj.mapFields (·.setIfInBounds 0 Value.none)) } l' := (N.perm hi.perm).drop (tk := s.toks) (Heap.SameBut.update ..).extBut
  show wpAny _ _ (newExc (.type "StopIteration") [] >>= _) _ _ _
  refine wpAny_bind ?_
  simp only [newExc, newTuple]
  refine wpAny_bind (wpAny_newObj_type ?_ (by size_fits))
  refine wpAny_bind (m := firstArgMember _ _) (wpAny_of_eq (a := Value.none) (by first | rfl | (simp only [firstArgMember]; rfl)) ?_)
  refine wpAny_newObj_type ?_ (by size_fits)
  simp only [raiseNew]
  refine wpAny_bind (wpAny_handled ?_)
  rw [show A.in1.handled = none from hh]
  refine wpAny_bind (wpAny_pure (wpAny_throw ⟨_, _, rfl, ((N₁.ext (tk := s.toks) fun b o e => Heap.get?_push_of_some _ e).push (ao := .exc (.type "StopIteration") none) rfl (PL.m2_3 _ _ (Heap.get?_push_size _ rfl) rfl rfl rfl)), h _⟩))
/-- what a try's one clause asks of an exception -/
noncomputable def TryX (G : Gd) (A : Around) (env : Env) (es : List Env) (c : Value) (suite : List Stmt) (R : AF → Led → Prop) : Xp := fun e l₁ => ∃ l₂, Pick (e, .exc c none) l₁ l₂ ∧ (∀ x ∈ env :: es, FrIn l₂ x) ∧ BB G (A.mark (some (.ref e))) env suite l₂ R noX
theorem TryX.mk {es : List Env} {c : Value} {suite : List Stmt} {R : AF → Led → Prop} {e : Addr} {l₂ : Led} (h1 : Pick (e, .exc c none) l l₂) (h2 : ∀ x ∈ env :: es, FrIn l₂ x) (h3 : BB G (A.mark (some (.ref e))) env suite l₂ R noX) : TryX G A env es c suite R e l := (PL.m1_2 l₂ h1 h2 h3)
/-- a try whose one clause is a built-in class -/
theorem SS.try1 {C T : String} {body suite : List Stmt} {b₀ : Stmt} {t : Expr} {hpos pos : Pos} {es : List Env} {L : Addr} {R : AF → Led → Prop} (hfr : A.frames = some (env :: es)) (hf : env.frame = some L)
    (hexc : isSubtype (.type T) (.type "BaseException") = pure true) (hnt : isSubtype (.type ((Manifest.find? T).elim "type" fun x => x.metatype)) (.type "tuple") = pure false) (hsub : isSubtype (.type C) (.type T) = pure true)
    (ht : ∀ A l R, R (.lit (.type T)) l → EE G A env t l R noX)
    (h : BB G A env body l R (TryX G A env es (.type C) (b₀ :: suite) R)) :
    SS G A env (.Try body [.ExceptHandler (some t) Option.none (b₀ :: suite) hpos] [] [] pos) l R X := fun s N => by
  have no : ∀ {Q : Value → Shared → Prop} (e : Value) (s' : Shared), Px G noX e s' → Q e s' := fun e s' ⟨_, _, _, _, h⟩ => h.elim
  refine wpAny_Try_except (wpAny_mono (h s N) (fun f s₁ ⟨b, l₁, hb, N₁, h₁⟩ => ?_) fun e s₁ ⟨a, l₁, he, N₁, l₂, hp, hin, h₁⟩ => ?_)
  · cases b with
    | next => cases hb; exact wpAny_execs_nil ⟨.next, l₁, rfl, N₁, h₁⟩
    | brk => cases hb; exact ⟨.brk, l₁, rfl, N₁, h₁⟩
    | cont => cases hb; exact ⟨.cont, l₁, rfl, N₁, h₁⟩
    | ret v => (revert hb; refine PL.j1_1 ?_; rintro u rfl hu); exact ⟨.ret v, l₁, (PL.m1_1 u rfl hu), N₁, h₁⟩
  · subst he
    refine note_first N₁ hp hfr hin hf fun s₂ Tb N₂ => ?_
    refine flight_none N₂ fun s₃ N₃ => ?_
    refine wpAny_handleBy_builtin hexc hnt hsub (wpAny_mono (ht _ _ (fun v l => v = .lit (.type T) ∧ l = (Tb, .tb .none) :: (a, .exc (.type C) (some Tb)) :: l₂) ⟨rfl, rfl⟩ s₃ N₃) (fun c s₄ ⟨b, l₄, hb, N₄, e1, e2⟩ => ?_) no)
    subst e1 e2
    refine (PL.m0_2 hb ?_ ?_)
    · (refine PL.x2_2 (N₄.at (.tail .head)) ?_; rintro o vs ho hc _)
      exact (PL.m1_1 o ho hc)
    · simp only [if_true]
      refine flight_none N₄ fun s₅ N₅ => ?_
      exact wpAny_mono (h₁ s₅ (N₅.sub (.skip (.skip (.refl l₂))))) (fun _ _ h => h) no
end
theorem isExc_stop : isSubtype (.type "StopIteration") (.type "BaseException") = pure true := by rw [isSubtype_type]; kernel_rfl
theorem notTuple_stop : isSubtype (.type ((Manifest.find? "StopIteration").elim "type" fun x => x.metatype)) (.type "tuple") = pure false := by
  rw [find?_eq_fast]
  first | (rw [isSubtype_type]; kernel_rfl) | kernel_rfl
end PL
end
section
open PySem PySem.Calls PyProof.Rows PySem.W
set_option autoImplicit false
set_option linter.unusedVariables false
set_option maxRecDepth 100000
set_option maxHeartbeats 0
namespace PL
section
variable {G : Gd} {A : Around} {env : Env} {l l' : Led} {X : Xp} {R : AV → Led → Prop}
theorem Op2.ladd {p q : Addr} {xs ys : List AV} (hp : (p, .list xs) ∈ l) (hq : (q, .list ys) ∈ l) (hz : xs.length + ys.length ≤ 1000000) (h : ∀ r, R (.ref r) ((r, .list (xs ++ ys)) :: l)) : Op2 G A (binaryOp .Add) (.ref p) (.ref q) l R X := fun v u hv hu s N => by
  cases hv; cases hu
  (refine PL.x1_1 (N.atM hp) ?_; rintro ws ⟨n, hl⟩ hw)
  (refine PL.x1_1 (N.atM hq) ?_; rintro us ⟨m, hl2⟩ hu)
  have e1 : ws.size = xs.length := by rw [← Array.length_toList, ← hw.length]
  have e2 : us.size = ys.length := by rw [← Array.length_toList, ← hu.length]
  exact P.add_list hl hl2 ⟨.ref s.heap.objs.size, _, rfl, N.push (ao := .list (xs ++ ys)) rfl (PL.m1_1 _ (⟨0, Heap.get?_push_size _ rfl⟩) (by rw [Array.toList_append]; exact hw.append hu)), h _⟩ (by rw [e1, e2]; exact Nat.le_trans hz (by decide))
theorem CC.iterList {p : Addr} {xs : List AV} (hp : (p, .list xs) ∈ l) (h : ∀ it, R (.ref it) ((it, .raw (iterObj p)) :: l)) : CC G A (.lit (.builtin "iter")) [.ref p] l R X := fun f vs hf hvs s N => by
  cases hf
  (refine PL.x1_1 (get1 hvs) ?_; rintro v rfl hv)
  cases hv
  (refine PL.x1_1 (N.atM hp) ?_; rintro ws hl hw)
  refine call_function_entry (by decide +kernel) (by decide +kernel) kdk_entry_iter (kdk_args_iter _) ?_
  unfold Builtin.«iter»
  refine wpAny_bind (m := someArgs "iter" 1 2 _) (wpAny_of_eq (a := [Value.ref p]) (by first | rfl | kernel_rfl!) ?_)
  show wpAny _ _ (pyIter (.ref p) >>= _) _ _ _
  refine wpAny_bind (wpAny_pyIter_list hl.isList ?_)
  exact wpAny_pure ⟨_, rfl, .ref s.heap.objs.size, _, rfl, N.push (ao := .raw (iterObj p)) rfl (Heap.get?_push_size _ rfl), h _⟩
/-! the least of texts -/
theorem getD_at {xs : List Str} {i : Nat} (h : i < xs.length) : xs.getD i Str.empty = xs[i] := by simp [List.getD, h]
theorem argBest_str (num : Nat → Str) : ∀ k, argBest (fun i j => HP.slt (num i) (num j)) k ≤ k ∧ ∀ j, j ≤ k → HP.slt (num j) (num (argBest (fun i j => HP.slt (num i) (num j)) k)) = false
  | 0 => ⟨Nat.le_refl _, fun j hj => by
      have : j = 0 := by omega
      subst this
      show HP.slt (num 0) (num 0) = false
      cases h : HP.slt (num 0) (num 0) with
      | false => rfl
      | true => exact (HP.slt_ord.asymm _ _ h).symm.trans h |>.symm ▸ rfl⟩
  | k + 1 => by
    obtain ⟨h1, h2⟩ := argBest_str num k
    simp only [argBest]
    by_cases hc : HP.slt (num (k + 1)) (num (argBest (fun i j => HP.slt (num i) (num j)) k)) = true
    · rw [if_pos hc]
      refine ⟨Nat.le_refl _, fun j hj => ?_⟩
      rcases Nat.lt_or_ge j (k + 1) with hlt | hge
      · exact HP.slt_ord.trans _ _ _ (HP.slt_ord.asymm _ _ hc) (h2 j (by omega))
      · have : j = k + 1 := by omega
        subst this
        cases h : HP.slt (num (k + 1)) (num (k + 1)) with
        | false => rfl
        | true => exact (h.symm.trans (HP.slt_ord.asymm _ _ h)).symm ▸ rfl
    · rw [if_neg hc]
      refine ⟨by omega, fun j hj => ?_⟩
      rcases Nat.lt_or_ge j (k + 1) with hlt | hge
      · exact h2 j (by omega)
      · have : j = k + 1 := by omega
        subst this
        simpa using hc
theorem CC.min {p : Addr} {xs : List Str} (hh : A.handled = none) (hp : (p, AO.list (xs.map AV.str)) ∈ l) (hne : xs ≠ []) (h : ∀ m, m ∈ xs → (∀ b ∈ xs, HP.slt b m = false) → R (.str m) l) : CC G A (.lit (.builtin "min")) [.ref p] l R X := fun f vs hf hvs s N => by
  cases hf
  obtain ⟨v, rfl, hv⟩ := get1 hvs
  cases hv
  obtain ⟨ws, hl, hw⟩ := N.atM hp
  have hlen : ws.size = xs.length := by rw [← Array.length_toList, ← hw.length, List.length_map]
  have hpos : 0 < xs.length := List.length_pos_iff.mpr hne
  have hval : ∀ (i : Nat) (v : Value), ws[i]? = some v → ∃ t, v = Value.str (xs.getD i Str.empty) t := fun i v hv => by
    rw [← Array.getElem?_toList] at hv
    obtain ⟨a, ha, hav⟩ := All2.getR (as := xs.map AV.str) hw hv
    rw [List.getElem?_map, Option.map_eq_some_iff] at ha
    obtain ⟨x, hx, rfl⟩ := ha
    obtain ⟨t, rfl⟩ := hav
    exact ⟨t, by simp [List.getD, hx]⟩
  have hlt : p < s.heap.objs.size := by obtain ⟨n, e⟩ := hl; exact Heap.lt_size e
  refine call_min_walk (wpAny_pyIter_list hl.isList ?_)
  refine ⟨_, _, _, _, _, _, fun i j => HP.slt (xs.getD i Str.empty) (xs.getD j Str.empty), rfl, Walks.list (A := A.in1) hh _ p (Nat.ne_of_lt hlt) ws, ⟨⟨_, Heap.get?_push_size _ rfl, rfl, rfl⟩, hl.isList.push _⟩, fun b hb => ?_, by rw [hlen]; exact hpos, fun i j vi vj s Q E hi hj h => ?_, fun v h' tk hP hk => ?_⟩
  · show b < (s.heap.push _).objs.size
    rw [Heap.size_push]
    rcases List.mem_cons.mp hb with rfl | hb
    · exact Nat.lt_succ_self _
    · rcases List.mem_cons.mp hb with rfl | hb
      · exact Nat.lt_succ_of_lt hlt
      · cases hb
  · obtain ⟨t, rfl⟩ := hval i vi hi
    obtain ⟨u, rfl⟩ := hval j vj hj
    exact richCompare_gives (op := .Lt) (typeIs_str s _ t) (typeIs_str s _ u) F.slot_str_lt F.entry_str_lt (F.args_str_lt_2 _ _) (gives_str_lt _ _ t u) (fun x => nomatch x) h
  · obtain ⟨hb1, hb2⟩ := argBest_str (fun i => xs.getD i Str.empty) (ws.size - 1)
    obtain ⟨t, rfl⟩ := hval _ _ hP
    have hbl : argBest (fun i j => HP.slt (xs.getD i Str.empty) (xs.getD j Str.empty)) (ws.size - 1) < xs.length := by omega
    refine ⟨.str _, l, ⟨t, rfl⟩, N.ext (tk := tk) fun b o e => hk b o (fun hm => ?_) (Heap.get?_push_of_some _ e), h _ ?_ fun b hb => ?_⟩
    · rcases List.mem_cons.mp hm with e1 | hm
      · exact absurd (e1 ▸ Heap.lt_size e) (Nat.lt_irrefl _)
      · cases hm
    · rw [getD_at hbl]; exact List.getElem_mem _
    · obtain ⟨j, hj, rfl⟩ := List.mem_iff_getElem.mp hb
      have := hb2 j (by omega)
      rwa [getD_at hj] at this
/-! the script: a list that was there before -/
structure KList (G : Gd) (p : Addr) (ns : List Int) : Prop where
  h : ∃ vs : Array Value, G.t.IsList p vs ∧ AllIs (ns.map .int) vs.toList
theorem SubOp.klist {value slice : Expr} {p : Addr} {ns : List Int} {i : AV} (hk : KList G p ns) (h : Op2 G A getItem (.ref p) i l R X)
    (hs : ∀ v u, ∃ ops, subscripted slice false v u = operate ops (getItem v u) := by intro _ _; with_unfolding_all exact ⟨_, rfl⟩) : SubOp G A value slice (.ref p) i l R X := fun v u hv hu s N => by
  (refine PL.x1_1 (hk.h) ?_; rintro vs ⟨o, ho, hc, hd⟩ _)
  obtain ⟨ops, e⟩ := hs v u
  cases hv
  have hl : s.heap.IsList p vs := (PL.m1_2 o (N.keep _ _ ho) hc hd)
  exact tail_any hl.typeIs slot_list_getitem.lookup (h _ u rfl hu s N) e
theorem Get.klistSlice {p sl : Addr} {ns : List Int} {a b : AV} {lo hi : Option Int} (hk : KList G p ns) (hs : Pick (sl, .fields "slice" [a, b, .none]) l l') (ha : IPart a lo) (hb : IPart b hi) (hz : ns.length < 1000000)
    (h : ∀ q, R (.ref q) ((q, .list (pickAV (ns.map .int) lo hi)) :: l')) : Op2 G A getItem (.ref p) (.ref sl) l R X := fun v u hv hu s N => by
  cases hv; cases hu
  (refine PL.x1_1 (N.at hs) ?_; rintro vs ho hvs)
  (refine PL.x3_3 (get3 hvs) ?_; rintro va vb vc rfl h1 h2 h3)
  cases h3
  (refine PL.x1_2 (ha.of h1) ?_; rintro _ _ _ pa)
  (refine PL.x1_2 (hb.of h2) ?_; rintro _ _ _ pb)
  have N' := N.sub (l' := l') (.trans .tail (.perm hs.perm))
  (refine PL.x1_1 (hk.h) ?_; rintro ws ⟨o, hol, hc, hd⟩ hw)
  have hl : s.heap.IsList p ws := (PL.m1_2 o (N.keep _ _ hol) hc hd)
  have hlen : ws.size = (ns.map AV.int).length := by rw [← Array.length_toList, ← hw.length]
  refine wpAny_getItem_list_slice hl (PL.m1_2 _ ho rfl rfl) pa pb .none (by simp) ?_ (by rw [hlen, List.length_map]; exact Nat.le_trans (Nat.le_of_lt hz) (by decide))
  refine ⟨.ref s.heap.objs.size, _, rfl, N'.push (ao := .list (pickAV (ns.map .int) lo hi)) rfl (PL.m1_1 _ (⟨0, Heap.get?_push_size _ rfl⟩) ?_), h _⟩
  unfold slicePick pickAV
  rw [hlen]
  exact pick_all2 hw _
end
end PL
end
section
open PySem PySem.Calls PyProof.Rows PySem.W
set_option autoImplicit false
set_option linter.unusedVariables false
set_option maxRecDepth 100000
set_option maxHeartbeats 0
namespace PL
section
variable {G : Gd} {A : Around} {env cenv : Env} {l l' : Led} {X : Xp}
/-- the turn's end of a dict comprehension -/
noncomputable def DEnd (F : Led) (C acc : Addr) (cn : List (Str × NameKind)) (vals : List (Option AV)) (kvs : List (Str × AV)) (J : Led → Prop) (l : Led) : Prop := ∃ K ep, Sub (F ++ ((C, .ns cn vals) :: (acc, .sdict kvs ep) :: K)) l ∧ J K
theorem DEnd.mk {F : Led} {C acc : Addr} {cn : List (Str × NameKind)} {vals : List (Option AV)} {kvs : List (Str × AV)} {J : Led → Prop} {K : Led} {ep : Nat} (hJ : J K) (hs : Sub (F ++ ((C, .ns cn vals) :: (acc, .sdict kvs ep) :: K)) l) : DEnd F C acc cn vals kvs J l := (PL.m2_1 K ep hs hJ)
theorem storedAV_len (kvs : List (Str × AV)) (k : Str) (a : AV) : (storedAV kvs k a).length ≤ kvs.length + 1 := by
  unfold storedAV; split <;> simp
theorem dcomp_loop {kx vx target iter : Expr} {scope : Scope} {pos : Pos} {it : AV} {n : Nat} {F : Nat → Led} {Fm : Nat → AV → Led} {Fe : Led} {P : Nat → AV → Led → Prop} {T : Expr → Prop} (W : Walk G A it n F Fm Fe P T) (hT : T target) (hn : n < 1000000) {C acc : Addr} {cn : List (Str × NameKind)} {vals : List (Option AV)}
    (J : Nat → List (Str × AV) → Led → Prop)
    (turn : ∀ k kvs ep a E K, k < n → P k a E → J k kvs K → Asg G A cenv target a (E ++ (F (k + 1) ++ ((C, .ns cn vals) :: (acc, .sdict kvs ep) :: K))) (fun l₃ => EE G A cenv kx l₃ (fun x l₄ => ∃ kk, x = .str kk ∧
      EE G A cenv vx l₄ (fun y l₅ => DEnd (F (k + 1)) C acc cn vals kvs (J (k + 1) (storedAV kvs kk y)) l₅) noX) noX) noX)
    {R : Result → Shared → Prop} (fin : ∀ f s' kvs ep K, Rep G s' (Fe ++ ((C, .ns cn vals) :: (acc, .sdict kvs ep) :: K)) → J n kvs K → R (.ok f) s')
    {iv : Value} (hit : it.Is iv) {s : Shared} {K₀ : Led} {ep₀ : Nat} (N : Rep G s (F 0 ++ ((C, .ns cn vals) :: (acc, .sdict [] ep₀) :: K₀))) (hJ0 : J 0 [] K₀) :
    codeAny (model G.prog G.w) A (.compStart (.DictComp kx vx [⟨target, iter, [], 0⟩] scope pos) 0 iv (.ref acc) cenv) R s := by
  have loop : ∀ {iv : Value} {s : Shared}, it.Is iv → Rep G s (F 0 ++ ((C, .ns cn vals) :: (acc, .sdict [] ep₀) :: K₀)) → codeAny (model G.prog G.w) A (.compLoop (.DictComp kx vx [⟨target, iter, [], 0⟩] scope pos) 0 iv (.ref acc) cenv) R s := by
    intro iv s hit N
    refine codeAny_loop rfl (fun m s => ∃ k kvs ep K, m = n - k ∧ k ≤ n ∧ kvs.length ≤ k ∧ Rep G s (F k ++ ((C, .ns cn vals) :: (acc, .sdict kvs ep) :: K)) ∧ J k kvs K) (fun m s ⟨k, kvs, ep, K, hm, hk, hxl, N, hJ⟩ => ?_) n (PL.m4_4 0 ([]) ep₀ K₀ (by omega) (Nat.zero_le _) (Nat.le_refl _) N hJ0)
    show wpAny _ A ((compTurn (.DictComp kx vx [⟨target, iter, [], 0⟩] scope pos) 0 iv (.ref acc) cenv).onRaise (fun x => do noteFrame x cenv; theTreesLotGoes x)) _ _ s
    refine wpAny_noted ?_
    rw [compTurn_dict]
    refine wpAny_bind (wpAny_standAt (wpAny_bind ?_))
    have none_ex : ∀ {Q : Value → Shared → Prop} (e : Value) (s' : Shared), Px G noX e s' → Q e s' := fun e s' ⟨_, _, _, _, h⟩ => h.elim
    by_cases hlt : k < n
    · refine wpAny_mono (W.next k _ (fun o l => ∃ a E, o = some a ∧ P k a E ∧ l = E ++ (Fm (k + 1) a ++ ((C, .ns cn vals) :: (acc, .sdict kvs ep) :: K))) noX hlt (fun a E hp => (PL.m2_2 a E rfl hp rfl)) iv hit s N) (fun r s₁ ⟨o, l₁, ho, N₁, a, E, e, hp, el⟩ => ?_) none_ex
      subst e el
      (revert ho; refine PL.j1_1 ?_; rintro u rfl hu)
      refine wpAny_bind (wpAny_mono (W.go k _ a E target (fun l => l = E ++ (F (k + 1) ++ ((C, .ns cn vals) :: (acc, .sdict kvs ep) :: K))) noX hT hp rfl iv u hit hu s₁ N₁) (fun _ s₂ ⟨_, l₂, _, N₂, e⟩ => ?_) none_ex)
      subst e
      refine wpAny_bind (wpAny_mono (turn k kvs ep a E K hlt hp hJ u hu s₂ N₂) (fun _ s₃ ⟨_, l₃, _, N₃, h₃⟩ => ?_) none_ex)
      refine wpAny_bind (wpAny_tests_nil ?_)
      simp only [if_true]
      refine wpAny_bind (wpAny_bind (wpAny_mono (h₃ s₃ N₃) (fun kv s₄ ⟨x, l₄, hx, N₄, kk, ex, h₄⟩ => ?_) none_ex))
      subst ex
      obtain ⟨t, rfl⟩ := hx
      refine wpAny_bind (wpAny_holding (wpAny_mono (h₄ s₄ N₄) (fun vv s₅ ⟨y, l₅, hy, N₅, K', ep', hs, hJ'⟩ => ?_) none_ex))
      refine wpAny_bind (wpAny_standAt (wpAny_holding ?_))
      have N₆ : Rep G s₅ ((acc, .sdict kvs ep') :: (F (k + 1) ++ ((C, .ns cn vals) :: K'))) := N₅.sub (.trans (.perm (by
          refine List.Perm.trans ?_ List.perm_middle
          exact List.Perm.append_left _ (List.Perm.swap ..))) hs)
      obtain ⟨hd, kvs', hD, hr⟩ := N₆.at (ao := .sdict kvs ep') .head
      have hlen : kvs'.length = kvs.length := hr.length.symm
      refine wpAny_dictSet_pairs (knd := PySem.strKind G.prog G.w) (k := kk) (hsz := by rw [hlen]; exact Nat.le_trans (by omega : kvs.length ≤ 1000000) (by decide)) (strIs kk t) hD.dictOf fun h' hD' hs' => ?_
      obtain ⟨ep2, hD'⟩ := hD'.dictAt
      have N₇ := N₆.upd (tk := s₅.toks + 1) (ao' := .sdict (storedAV kvs kk y) ep2) .head hs'.extBut ⟨hd, _, hD', stored_rel hr hy⟩
      refine wpAny_pure ⟨rfl, n - (k + 1), by omega, k + 1, storedAV kvs kk y, ep2, K', rfl, hlt, ?_, N₇.sub (.perm ?_), hJ'⟩
      · have := storedAV_len kvs kk y; omega
      · refine (List.Perm.trans ?_ List.perm_middle).symm
        exact List.Perm.append_left _ (List.Perm.swap ..)
    · have : k = n := by omega
      subst this
      refine wpAny_mono (W.stop _ (fun o l => o = none ∧ l = Fe ++ ((C, .ns cn vals) :: (acc, .sdict kvs ep) :: K)) noX ⟨rfl, rfl⟩ iv hit s N) (fun r s₁ ⟨o, l₁, ho, N₁, e, el⟩ => ?_) none_ex
      subst e el
      cases ho
      exact wpAny_pure (fin _ _ kvs ep K N₁ hJ)
  refine codeAny_compStart_dict (loop hit N) ?_
  refine wpAny_mono (W.again _ (fun a l => a = it ∧ l = F 0 ++ ((C, .ns cn vals) :: (acc, .sdict [] ep₀) :: K₀)) noX ⟨rfl, rfl⟩ iv hit s N) (fun iv' s' ⟨a, l₁, ha, N', e, el⟩ => ?_) (fun e s' ⟨_, _, _, _, h⟩ => h.elim)
  subst e el
  exact loop ha N'
end
section
variable {G : Gd} {A : Around} {env : Env} {l l' : Led} {X : Xp} {names cn cn' : List (Str × NameKind)} {L : Addr} {cl cl2 : List (Str × Addr)} {ownk : List Str} {vals : List (Option AV)} {gt : List (Str × AV)}
noncomputable def DCompAsk (G : Gd) (A : Around) (env : Env) (scope : Scope) (cn' : List (Str × NameKind)) (cl2 : List (Str × Addr)) (ownk : List Str) (vals : List (Option AV)) (kx vx target : Expr) (R : AV → Led → Prop) (it : AV) (l₂ : Led) : Prop :=
  ∃ n F Fm Fe P T L₀, Walk G A it n F Fm Fe P T ∧ T target ∧ n < 1000000 ∧ Sub (F 0 ++ L₀) l₂ ∧ ∀ C acc own cenv, own.map (fun p : Str × Addr => p.1) = ownk → EnvOk cenv cn' C (own ++ cl2) →
    ∃ J : Nat → List (Str × AV) → Led → Prop, J 0 [] (cellNone own ++ L₀) ∧
      (∀ k kvs ep a E K, k < n → P k a E → J k kvs K → Asg G A cenv target a (E ++ (F (k + 1) ++ ((C, .ns cn' vals) :: (acc, .sdict kvs ep) :: K))) (fun l₃ => EE G A cenv kx l₃ (fun x l₄ => ∃ kk, x = .str kk ∧
        EE G A cenv vx l₄ (fun y l₅ => DEnd (F (k + 1)) C acc cn' vals kvs (J (k + 1) (storedAV kvs kk y)) l₅) noX) noX) noX) ∧
      (∀ kvs ep K, J n kvs K → R (.ref acc) ((acc, .sdict kvs ep) :: (Fe ++ K)))
theorem EE.dictcomp {kx vx target iter : Expr} {scope : Scope} {pos : Pos} {R : AV → Led → Prop} (hg : GlobOk G gt) (hE : EnvOk env names L cl) (hS : CompOk scope names cn cn' cl cl2 ownk vals)
    (h : EE G A env iter l (fun x l₁ => Op1 G A pyIter x l₁ (DCompAsk G A env scope cn' cl2 ownk vals kx vx target R) X) X)
    (hs : ∀ x, foldedSetIterable iter env x = pure x := by intro _; with_unfolding_all rfl) : EE G A env (.DictComp kx vx [⟨target, iter, [], 0⟩] scope pos) l R X := fun s N => by
  show wpAny _ _ (comprehension (.DictComp kx vx [⟨target, iter, [], 0⟩] scope pos) scope env (firstIterPos [⟨target, iter, [], 0⟩] pos) newDict false (eval iter env) Option.none) _ _ s
  obtain ⟨hk, e1, e2, e3, e4, e5, e6, e7, e8, e9, e10⟩ := hS
  subst e1
  refine wpAny_comprehension_free (cl := cl2) rfl hs (by rw [closure_eq hE e3, e4]) hk e6 ?_
  refine wpAny_mono (h s N) (fun x s₁ ⟨a, l₁, ha, N₁, h₁⟩ => ?_) (fun _ _ y => y)
  refine wpAny_mono (h₁ x ha s₁ N₁) (fun iv s₂ hp5 => ?_) (fun _ _ y => y)
  obtain ⟨it, l₂, hit, N₂, h5⟩ := hp5
  (refine PL.x7_4 h5 ?_; rintro n F Fm Fe P T L₀ W hT hn hsub h₂)
  simp only [newDict, newObj]
  refine wpAny_bind (wpAny_alloc (wpAny_pure ?_))
  (revert hg; refine PL.j2_2 ?_; rintro mg mb n1 n2 _)
  have hz : mainGlobals < s₂.heap.objs.size := (n1.keeps N₂.keep).lt
  have hne : (s₂.heap.objs.size == sysModules) = false := beq_eq_false_iff_ne.mpr fun e => by
    rw [e] at hz; exact absurd hz (by decide)
  have N₃ : Rep G { s₂ with heap := s₂.heap.push { cls := .type "dict", data := .dict #[] } } ((s₂.heap.objs.size, .sdict [] 0) :: (F 0 ++ L₀)) := (N₂.sub hsub).push (ao := .sdict [] 0) rfl
    ⟨hne, [], (PL.m2_5 _ (#[]) (Heap.get?_push_size _ rfl) ((PL.m0_2 rfl rfl rfl)) rfl (fun _ he => by simp at he) Pairs.nil List.nodup_nil), .nil⟩
  refine comp_env hE hk (by rw [e2]; exact e5) e7 (by rw [e2]; exact e8) N₃ fun cenv C own s₄ hC hown hEc N₄ => ?_
  rw [e2] at hEc N₄
  rw [e10] at N₄
  rw [e9] at hown
  (refine PL.x1_2 (h₂ C s₂.heap.objs.size own _ hown hEc) ?_; rintro J hJ0 turn hfin)
  subst hC
  refine dcomp_loop W hT hn (acc := s₂.heap.objs.size) (cn := cn') (vals := vals) (C := cenv.locals) J turn (fun f s' kvs ep K N' hJ => ?_) hit (K₀ := cellNone own ++ L₀) (ep₀ := 0) ?_ hJ0
  · have N'' := N'.perm (List.Perm.trans (List.perm_middle (l₁ := Fe)) (List.Perm.cons _ (List.perm_middle (l₁ := Fe))))
    (refine PL.x1_1 (N''.at .head) ?_; rintro m hm _)
    exact (PL.m1_1 m hm (fun h' hh => ⟨.ref s₂.heap.objs.size, _, rfl, N''.drop hh.extBut, hfin kvs ep K hJ⟩))
  · refine N₄.perm ?_
    refine List.Perm.trans ?_ List.perm_middle.symm
    refine List.Perm.cons _ ?_
    refine List.Perm.trans ?_ List.perm_middle.symm
    refine List.Perm.trans List.perm_middle (List.Perm.cons _ ?_)
    rw [← List.append_assoc, ← List.append_assoc]
    exact List.Perm.append_right _ List.perm_append_comm
theorem swaps_cellD {kx vx : Expr} {gens : List Comprehension} {scope : Scope} {cpos p1 : Pos} {x : Str} {line : Nat} (hE : EnvOk env names L cl) (hx : LookT x .cell names) :
    swapsWith (.DictComp kx vx gens scope cpos) (some (.Name x p1)) line env = pure false := by
  unfold swapsWith
  dsimp only
  rw [hE.kindOf hx, show (some NameKind.cell == some NameKind.local) = false from rfl, Bool.and_false, Bool.false_and, Bool.false_and]
theorem SS.assignDictC {kx vx : Expr} {gens : List Comprehension} {scope : Scope} {cpos p1 pos : Pos} {x : Str} {R : AF → Led → Prop} (hE : EnvOk env names L cl) (hx : LookT x .cell names)
    (h : EE G A env (.DictComp kx vx gens scope cpos) l (fun a l₁ => StN G A env x a l₁ (fun l₂ => R .next l₂) X) X) : SS G A env (.Assign [.Name x p1] (.DictComp kx vx gens scope cpos) pos) l R X :=
  SS.assign (x := x) (p1 := p1) (value := .DictComp kx vx gens scope cpos) h (swaps_cellD hE hx)
end
end PL
end
section
open PySem PySem.Calls PyProof.Rows PySem.W
set_option autoImplicit false
set_option linter.unusedVariables false
set_option maxRecDepth 100000
set_option maxHeartbeats 0
namespace PL
/-- a node of the sorter: its name, its count, its successors -/
structure Nd where
  name : Str
  np : Int
  succ : List Str
structure NR where
  nd : Nd
  a : Addr
  dx : Addr
  sl : Addr
noncomputable abbrev nrS (NI : Addr) (r : NR) : Addr × AO := (r.a, .slots NI r.dx [some (.str r.nd.name), some (.int r.nd.np), some (.ref r.sl)])
noncomputable abbrev nrL (r : NR) : Addr × AO := (r.sl, .list (r.nd.succ.map .str))
noncomputable abbrev nrD (r : NR) : Addr × AO := (r.dx, .idct [])
noncomputable def nsLed (NI : Addr) : List NR → Led
  | [] => []
  | r :: g => nrS NI r :: nrL r :: nrD r :: nsLed NI g
noncomputable def nsKV (g : List NR) : List (Str × AV) := g.map fun r => (r.nd.name, .ref r.a)
noncomputable def abs (g : List NR) : List Nd := g.map NR.nd
noncomputable def names (g : List Nd) : List Str := g.map Nd.name
theorem nsLed_app (NI : Addr) : ∀ g g', nsLed NI (g ++ g') = nsLed NI g ++ nsLed NI g'
  | [], _ => rfl
  | r :: g, g' => by rw [List.cons_append, nsLed, nsLed, nsLed_app NI g g']; rfl
theorem nsLed_perm (NI : Addr) (pre : List NR) (r : NR) (post : List NR) : (nsLed NI (pre ++ r :: post)).Perm (nrS NI r :: nrL r :: nrD r :: nsLed NI (pre ++ post)) := by
  rw [nsLed_app, nsLed_app, nsLed]
  refine List.Perm.trans List.perm_middle (List.Perm.cons _ ?_)
  refine List.Perm.trans List.perm_middle (List.Perm.cons _ ?_)
  exact List.perm_middle
theorem ns_open {NI : Addr} {pre : List NR} {r : NR} {post : List NR} {l : Led} : Sub (nrS NI r :: nrL r :: nrD r :: (nsLed NI (pre ++ post) ++ l)) (nsLed NI (pre ++ r :: post) ++ l) := .perm ((nsLed_perm NI pre r post).append_right l)
theorem ns_close {NI : Addr} {pre : List NR} {r : NR} {post : List NR} {l : Led} : Sub (nsLed NI (pre ++ r :: post) ++ l) (nrS NI r :: nrL r :: nrD r :: (nsLed NI (pre ++ post) ++ l)) := .perm ((nsLed_perm NI pre r post).append_right l).symm
theorem ns_mem {NI : Addr} {g : List NR} {r : NR} (h : r ∈ g) (l : Led) : nrS NI r ∈ nsLed NI g ++ l ∧ nrL r ∈ nsLed NI g ++ l ∧ nrD r ∈ nsLed NI g ++ l := by
  (refine PL.x2_0 (List.append_of_mem h) ?_; rintro pre post rfl)
  have hp := (nsLed_perm NI pre r post).append_right l
  exact (PL.m0_2 (hp.mem_iff.mpr (.head _)) (hp.mem_iff.mpr (.tail _ (.head _))) (hp.mem_iff.mpr (.tail _ (.tail _ (.head _)))))
theorem nsKV_names (g : List NR) : (nsKV g).map (·.1) = names (abs g) := by simp [nsKV, names, abs]
theorem nsKV_mem {g : List NR} {r : NR} (h : r ∈ g) : (r.nd.name, AV.ref r.a) ∈ nsKV g := List.mem_map.mpr (PL.m1_1 r h rfl)
theorem nsKV_upd {pre post : List NR} {r r' : NR} (h1 : r'.nd.name = r.nd.name) (h2 : r'.a = r.a) : nsKV (pre ++ r' :: post) = nsKV (pre ++ r :: post) := by simp [nsKV, h1, h2]
noncomputable def getN (g : List Nd) (x : Str) : List Nd := if x ∈ names g then g else g ++ [⟨x, 0, []⟩]
noncomputable def updN (g : List Nd) (x : Str) (f : Nd → Nd) : List Nd := g.map fun n => if n.name = x then f n else n
noncomputable def addE (x : Str) (g : List Nd) (p : Str) : List Nd := updN (getN g p) p fun n => { n with succ := n.succ ++ [x] }
noncomputable def addS (g : List Nd) (x : Str) (ps : List Str) : List Nd := ps.foldl (addE x) (updN (getN g x) x fun n => { n with np := n.np + ps.length })
theorem names_upd (g : List Nd) (x : Str) (f : Nd → Nd) (hf : ∀ n, (f n).name = n.name) : names (updN g x f) = names g := by
  unfold names updN
  rw [List.map_map]
  apply List.map_congr_left
  intro n _
  show (if n.name = x then f n else n).name = n.name
  split
  · exact hf n
  · rfl
theorem names_get (g : List Nd) (x : Str) : names (getN g x) = if x ∈ names g then names g else names g ++ [x] := by
  unfold getN; split <;> simp [names]
theorem nodup_get {g : List Nd} {x : Str} (h : (names g).Nodup) : (names (getN g x)).Nodup := by
  rw [names_get]
  split
  · exact h
  · rename_i hx
    rw [List.nodup_append]
    refine (PL.m0_2 h (by simp) (fun a ha b hb e => ?_))
    simp only [List.mem_singleton] at hb
    exact hx (by rw [← hb, ← e]; exact ha)
theorem mem_get (g : List Nd) (x : Str) : x ∈ names (getN g x) := by
  rw [names_get]; split
  · assumption
  · simp
theorem upd_abs {pre post : List NR} {r : NR} (h : (names (abs (pre ++ r :: post))).Nodup) (f : Nd → Nd) : updN (abs (pre ++ r :: post)) r.nd.name f = abs (pre ++ { r with nd := f r.nd } :: post) := by
  unfold names abs at h
  rw [List.map_map, List.map_append, List.map_cons, List.nodup_append] at h
  (revert h; refine PL.j0_2 ?_; rintro _ h2 h3)
  rw [List.nodup_cons] at h2
  unfold updN abs
  rw [List.map_append, List.map_append, List.map_cons, List.map_cons, List.map_append, List.map_cons, if_pos rfl]
  have e1 : ∀ g : List NR, (∀ q ∈ g, q.nd.name ≠ r.nd.name) → (g.map NR.nd).map (fun n => if n.name = r.nd.name then f n else n) = g.map NR.nd := by
    intro g hg
    rw [List.map_map]
    apply List.map_congr_left
    intro q hq
    show (if q.nd.name = r.nd.name then f q.nd else q.nd) = q.nd
    rw [if_neg (hg q hq)]
  rw [e1 pre fun q hq e => h3 _ (List.mem_map.mpr (PL.m1_1 q hq rfl)) _ (.head _) e, e1 post fun q hq e => h2.1 (List.mem_map.mpr (PL.m1_1 q hq e))]
theorem names_split {g : List NR} {x : Str} (h : x ∈ names (abs g)) : ∃ pre r post, g = pre ++ r :: post ∧ r.nd.name = x := by
  unfold names abs at h
  rw [List.map_map] at h
  (refine PL.x1_1 (List.mem_map.mp h) ?_; rintro r hr e)
  (refine PL.x2_0 (List.append_of_mem hr) ?_; rintro pre post rfl)
  exact (PL.m3_1 pre r post rfl e)
theorem names_addE (x : Str) (g : List Nd) (p : Str) : names (addE x g p) = names (getN g p) := names_upd _ _ _ fun _ => rfl
theorem nodup_addE {x : Str} {g : List Nd} {p : Str} (h : (names g).Nodup) : (names (addE x g p)).Nodup := by rw [names_addE]; exact nodup_get h
theorem len_get (g : List Nd) (x : Str) : (getN g x).length ≤ g.length + 1 := by unfold getN; split <;> simp
theorem len_upd (g : List Nd) (x : Str) (f : Nd → Nd) : (updN g x f).length = g.length := by simp [updN]
theorem len_addE (x : Str) (g : List Nd) (p : Str) : (addE x g p).length ≤ g.length + 1 := by unfold addE; rw [len_upd]; exact len_get g p
noncomputable def outS (g : List Nd) (ys : List Str) : List Nd := ys.foldl (fun g y => updN g y fun n => { n with np := -1 }) g
noncomputable def SB (g : List Nd) (m : Nat) : Prop := ∀ n ∈ g, n.succ.length ≤ m
theorem SB.get {g : List Nd} {m : Nat} (h : SB g m) (x : Str) : SB (getN g x) m := fun n hn => by
  unfold getN at hn
  split at hn
  · exact h n hn
  · rcases List.mem_append.mp hn with hn | hn
    · exact h n hn
    · simp only [List.mem_singleton] at hn; subst hn; exact Nat.zero_le _
theorem SB.upd {g : List Nd} {m m' : Nat} (h : SB g m) (x : Str) (f : Nd → Nd) (hm : m ≤ m') (hf : ∀ n : Nd, n.succ.length ≤ m → (f n).succ.length ≤ m') : SB (updN g x f) m' := fun n hn => by
  (refine PL.x1_1 (List.mem_map.mp hn) ?_; rintro q hq rfl)
  split
  · exact hf q (h q hq)
  · exact Nat.le_trans (h q hq) hm
theorem SB.addE {g : List Nd} {m : Nat} (h : SB g m) (x p : Str) : SB (addE x g p) (m + 1) := (h.get p).upd p _ (Nat.le_succ m) fun n hn => by simp; exact hn
theorem foldl_take {α β : Type} (f : β → α → β) (b : β) {xs : List α} {k : Nat} {a : α} (h : xs[k]? = some a) : (xs.take (k + 1)).foldl f b = f ((xs.take k).foldl f b) a := by
  rw [List.take_add_one, h, List.foldl_append]; rfl
section
variable {G : Gd} {A : Around} {l l' : Led} {X : Xp} {R : AV → Led → Prop}
theorem CC.len_tuple {p : Addr} {xs : List AV} (hp : (p, .tuple xs) ∈ l) (hz : xs.length < 1000000) (h : R (.int xs.length) l) : CC G A (.lit (.builtin "len")) [.ref p] l R X := fun f vs hf hvs s N => by
  cases hf
  (refine PL.x1_1 (get1 hvs) ?_; rintro v rfl hv)
  cases hv
  (refine PL.x1_1 (N.atM hp) ?_; rintro ws hl ha)
  have hlen : ws.length = xs.length := ha.length.symm
  exact PyProof.Rows.len_tuple (items := ws.toArray) ⟨_, hl, rfl, _, rfl⟩ (by rw [List.size_toArray, hlen]; omega) ⟨.int xs.length, l, ⟨_, by rw [List.size_toArray, hlen]⟩, N.toks (s.toks + 1 + 1), h⟩
theorem GAt.sub {name : Str} {a : AV} (hs : Sub l' l) (h : GAt G A name a l' R X) : GAt G A name a l R X := fun v hv => Tr.sub hs (h v hv)
theorem SAt.sub {name : Str} {o a : AV} {R : Led → Prop} (hs : Sub l' l) (h : SAt G A name o a l' R X) : SAt G A name o a l R X := fun v u hv hu => Tr.sub hs (h v u hv hu)
theorem fr_in4 {p q r t : Addr × AO} {fr N l : Led} : Sub (p :: q :: r :: t :: (N ++ (fr ++ l))) (fr ++ (p :: q :: r :: t :: (N ++ l))) := .perm (by
  have := (List.perm_append_comm_assoc fr (p :: q :: r :: t :: N) l)
  simpa using this)
theorem fr_out4 {p q r t : Addr × AO} {fr N l : Led} : Sub (fr ++ (p :: q :: r :: t :: (N ++ l))) (p :: q :: r :: t :: (N ++ (fr ++ l))) := .perm (by
  have := (List.perm_append_comm_assoc fr (p :: q :: r :: t :: N) l).symm
  simpa using this)
theorem fr_out5 {p q r t u : Addr × AO} {fr N l : Led} : Sub (fr ++ (p :: q :: r :: t :: u :: (N ++ l))) (p :: q :: r :: t :: u :: (N ++ (fr ++ l))) := .perm (by
  have := (List.perm_append_comm_assoc fr (p :: q :: r :: t :: u :: N) l).symm
  simpa using this)
theorem CC.post {f : AV} {args : List AV} (h : CC G A f args l (fun b l₁ => ∃ l₂, Sub l₂ l₁ ∧ R b l₂) X) : CC G A f args l R X := fun v vs hv hvs s N =>
  wpAny_mono (h v vs hv hvs s N) (fun u s₁ ⟨b, l₁, hb, N₁, l₂, hs, hR⟩ => ⟨b, l₂, hb, N₁.sub hs, hR⟩) fun _ _ y => y
theorem fr_in {p q r : Addr × AO} {fr N l : Led} : Sub (p :: q :: r :: (N ++ (fr ++ l))) (fr ++ (p :: q :: r :: (N ++ l))) := .perm (by
  have := (List.perm_append_comm_assoc fr (p :: q :: r :: N) l)
  simpa using this)
theorem fr_out {p q r : Addr × AO} {fr N l : Led} : Sub (fr ++ (p :: q :: r :: (N ++ l))) (p :: q :: r :: (N ++ (fr ++ l))) := .perm (by
  have := (List.perm_append_comm_assoc fr (p :: q :: r :: N) l).symm
  simpa using this)
end
end PL
end
section
open PySem PySem.Calls PyProof.Rows PySem.W
set_option autoImplicit false
set_option linter.unusedVariables false
set_option maxRecDepth 100000
set_option maxHeartbeats 0
namespace PL
noncomputable def nsS (NI : Addr) : List NR → Led
  | [] => []
  | r :: g => nrS NI r :: nrD r :: nsS NI g
noncomputable def nsQ : List (Addr × List Str) → Led
  | [] => []
  | q :: qs => (q.1, .list (q.2.map .str)) :: nsQ qs
noncomputable def qOf (g : List NR) : List (Addr × List Str) := g.map fun r => (r.sl, r.nd.succ)
theorem nsS_app (NI : Addr) : ∀ g g', nsS NI (g ++ g') = nsS NI g ++ nsS NI g'
  | [], _ => rfl
  | r :: g, g' => by rw [List.cons_append, nsS, nsS, nsS_app NI g g']; rfl
theorem nsQ_app : ∀ g g', nsQ (g ++ g') = nsQ g ++ nsQ g'
  | [], _ => rfl
  | r :: g, g' => by rw [List.cons_append, nsQ, nsQ, nsQ_app g g']; rfl
theorem nsLed_split (NI : Addr) : ∀ g, (nsLed NI g).Perm (nsQ (qOf g) ++ nsS NI g)
  | [] => .refl _
  | r :: g => by
    have ih := nsLed_split NI g
    show (nrS NI r :: nrL r :: nrD r :: nsLed NI g).Perm (nrL r :: (nsQ (qOf g) ++ (nrS NI r :: nrD r :: nsS NI g)))
    refine List.Perm.trans (List.Perm.swap ..) (List.Perm.cons _ ?_)
    refine List.Perm.trans ((ih.cons _).cons _) ?_
    exact ((List.perm_middle (a := nrS NI r)).trans ((List.perm_middle (a := nrD r)).cons _)).symm
theorem nsS_perm (NI : Addr) (pre : List NR) (r : NR) (post : List NR) : (nsS NI (pre ++ r :: post)).Perm (nrS NI r :: nrD r :: nsS NI (pre ++ post)) := by
  rw [nsS_app, nsS_app, nsS]
  exact (List.perm_middle (a := nrS NI r)).trans ((List.perm_middle (a := nrD r)).cons _)
theorem nsQ_perm (p : List (Addr × List Str)) (a : Addr × List Str) (q : List (Addr × List Str)) : (nsQ (p ++ a :: q)).Perm ((a.1, .list (a.2.map .str)) :: nsQ (p ++ q)) := by
  rw [nsQ_app, nsQ_app, nsQ]
  exact List.perm_middle
theorem nsS_open {NI : Addr} {pre : List NR} {r : NR} {post : List NR} {l : Led} : Sub (nrS NI r :: nrD r :: (nsS NI (pre ++ post) ++ l)) (nsS NI (pre ++ r :: post) ++ l) := .perm ((nsS_perm NI pre r post).append_right l)
theorem nsS_close {NI : Addr} {pre : List NR} {r : NR} {post : List NR} {l : Led} : Sub (nsS NI (pre ++ r :: post) ++ l) (nrS NI r :: nrD r :: (nsS NI (pre ++ post) ++ l)) := .perm ((nsS_perm NI pre r post).append_right l).symm
/-- the whole opened at one node's list: its list, the records, the other lists -/
theorem ns_lists {NI : Addr} {pre : List NR} {r : NR} {post : List NR} {l : Led} : Sub (nrL r :: (nsS NI (pre ++ r :: post) ++ (nsQ (qOf pre ++ qOf post) ++ l))) (nsLed NI (pre ++ r :: post) ++ l) := by
  have h1 : (nsLed NI (pre ++ r :: post) ++ l).Perm ((nsQ (qOf (pre ++ r :: post)) ++ nsS NI (pre ++ r :: post)) ++ l) := (nsLed_split NI _).append_right l
  refine .perm (h1.trans ?_)
  have e : qOf (pre ++ r :: post) = qOf pre ++ (r.sl, r.nd.succ) :: qOf post := by simp [qOf]
  rw [e, nsQ_app, nsQ_app, nsQ, List.append_assoc, List.append_assoc]
  refine List.perm_middle.trans (List.Perm.cons _ ?_)
  have := List.perm_append_comm_assoc (nsQ (qOf pre) ++ nsQ (qOf post)) (nsS NI (pre ++ r :: post)) l
  simpa [List.append_assoc] using this
theorem ns_lists_back {NI : Addr} {g : List NR} {p q : List (Addr × List Str)} {sl : Addr} {su : List Str} {l : Led} (h : qOf g = p ++ (sl, su) :: q) : Sub (nsLed NI g ++ l) ((sl, .list (su.map .str)) :: (nsS NI g ++ (nsQ (p ++ q) ++ l))) := by
  have h1 : (nsLed NI g ++ l).Perm ((nsQ (qOf g) ++ nsS NI g) ++ l) := (nsLed_split NI _).append_right l
  refine .perm (List.Perm.trans ?_ h1.symm)
  rw [h]
  have h2 := ((nsQ_perm p (sl, su) q).append_right (nsS NI g)).append_right l
  refine List.Perm.trans ?_ h2.symm
  refine List.Perm.cons _ ?_
  have := (List.perm_append_comm_assoc (nsQ (p ++ q)) (nsS NI g) l).symm
  simpa [List.append_assoc] using this
noncomputable def npOf (g : List Nd) (s : Str) : Int := ((g.find? fun n => decide (n.name = s)).map Nd.np).getD 1
noncomputable def succOf (g : List Nd) (s : Str) : List Str := ((g.find? fun n => decide (n.name = s)).map Nd.succ).getD []
noncomputable def decS (st : List Nd × List Str) (s : Str) : List Nd × List Str :=
  (updN st.1 s fun n => { n with np := n.np - 1 }, if npOf st.1 s - 1 = 0 then st.2 ++ [s] else st.2)
noncomputable def doneS (st : List Nd × List Str) (x : Str) : List Nd × List Str := (succOf st.1 x).foldl decS (updN st.1 x fun n => { n with np := -2 }, st.2)
theorem find_split {pre post : List NR} {r : NR} (h : (names (abs (pre ++ r :: post))).Nodup) : (abs (pre ++ r :: post)).find? (fun n => decide (n.name = r.nd.name)) = some r.nd := by
  unfold names abs at *
  rw [List.map_append, List.map_cons] at *
  rw [List.map_append, List.map_cons, List.nodup_append] at h
  rw [List.find?_append, List.find?_cons]
  have : (pre.map NR.nd).find? (fun n => decide (n.name = r.nd.name)) = none := by
    rw [List.find?_eq_none]
    intro n hn e
    exact h.2.2 _ (List.mem_map.mpr (PL.m1_1 n hn rfl)) _ (.head _) (by simpa using e)
  rw [this]; simp
theorem npOf_split {pre post : List NR} {r : NR} (h : (names (abs (pre ++ r :: post))).Nodup) : npOf (abs (pre ++ r :: post)) r.nd.name = r.nd.np := by unfold npOf; rw [find_split h]; rfl
theorem succOf_split {pre post : List NR} {r : NR} (h : (names (abs (pre ++ r :: post))).Nodup) : succOf (abs (pre ++ r :: post)) r.nd.name = r.nd.succ := by unfold succOf; rw [find_split h]; rfl
end PL
end
section
open PySem
set_option autoImplicit false
set_option linter.unusedVariables false
set_option linter.unusedSectionVars false
namespace FC
variable {α : Type} [DecidableEq α]
/-- the finished ones, the last first: each one's successors were finished before -/
inductive Topo (sc : α → List α) : List α → Prop
  | nil : Topo sc []
  | cons {x : α} {f : List α} : (∀ s ∈ sc x, s ∈ f) → Topo sc f → Topo sc (x :: f)
/-- the stack, the top first; what hangs above it -/
noncomputable def Ch (sc : α → List α) (fin : List α) : List (α × Nat) → Option α → Prop
  | [], _ => True
  | (x, k) :: r, some v => (0 < k ∧ (sc x)[k - 1]? = some v ∧ ∀ j, j < k - 1 → ∀ s, (sc x)[j]? = some s → s ∈ fin) ∧ Ch sc fin r (some x)
  | (x, k) :: r, none => (∀ j, j < k → ∀ s, (sc x)[j]? = some s → s ∈ fin) ∧ Ch sc fin r (some x)
structure Inv (gn : List α) (sc : α → List α) (st : List (α × Nat)) (fin : List α) (p : Option α) : Prop where
  nodup : (st.map (·.1) ++ fin).Nodup
  sub : ∀ x ∈ st.map (·.1) ++ fin, x ∈ gn
  topo : Topo sc fin
  ch : Ch sc fin st p
theorem Ch.mono {sc : α → List α} {fin fin' : List α} (hf : ∀ x ∈ fin, x ∈ fin') : ∀ {st : List (α × Nat)} {p : Option α}, Ch sc fin st p → Ch sc fin' st p
  | [], _, _ => trivial
  | (x, k) :: r, some v, h => ⟨(PL.m0_2 h.1.1 h.1.2.1 (fun j hj s hs => hf _ (h.1.2.2 j hj s hs))), Ch.mono hf h.2⟩
  | (x, k) :: r, none, h => ⟨fun j hj s hs => hf _ (h.1 j hj s hs), Ch.mono hf h.2⟩
section
variable {gn : List α} {sc : α → List α} {st r : List (α × Nat)} {fin : List α} {v x : α} {k : Nat}
theorem Inv.push (h : Inv gn sc st fin (some v)) (hv : v ∈ gn) (h1 : v ∉ st.map (·.1)) (h2 : v ∉ fin) : Inv gn sc ((v, 0) :: st) fin none := by
  refine ⟨?_, ?_, h.topo, ⟨fun j hj => absurd hj (Nat.not_lt_zero j), h.ch⟩⟩
  · rw [List.map_cons, List.cons_append, List.nodup_cons]
    exact ⟨fun q => (List.mem_append.mp q).elim h1 h2, h.nodup⟩
  · intro y hy
    rw [List.map_cons, List.cons_append] at hy
    rcases List.mem_cons.mp hy with rfl | hy
    · exact hv
    · exact h.sub y hy
theorem Inv.settle (h : Inv gn sc st fin (some v)) (h2 : v ∈ fin) : Inv gn sc st fin none := by
  refine ⟨h.nodup, h.sub, h.topo, ?_⟩
  have hc := h.ch
  match st, hc with
  | [], _ => trivial
  | (x, k) :: r, hc =>
    refine ⟨fun j hj s hs => ?_, hc.2⟩
    by_cases e : j = k - 1
    · subst e
      rw [hc.1.2.1] at hs
      cases hs
      exact h2
    · exact hc.1.2.2 j (by omega) s hs
theorem Inv.next (h : Inv gn sc ((x, k) :: r) fin none) {s : α} (hs : (sc x)[k]? = some s) : Inv gn sc ((x, k + 1) :: r) fin (some s) :=
  ⟨h.nodup, h.sub, h.topo, ⟨(PL.m0_2 (Nat.succ_pos k) (by simpa using hs) (fun j hj s hs => h.ch.1 j (by omega) s hs)), h.ch.2⟩⟩
theorem Inv.pop (h : Inv gn sc ((x, k) :: r) fin none) (hs : (sc x)[k]? = none) : Inv gn sc r (x :: fin) none := by
  have hsub : ∀ y ∈ fin, y ∈ x :: fin := fun y hy => .tail _ hy
  refine ⟨?_, ?_, .cons (fun s hs' => ?_) h.topo, ?_⟩
  · have := h.nodup
    rw [List.map_cons, List.cons_append] at this
    exact (List.perm_middle (l₁ := r.map (·.1)) (a := x) (l₂ := fin)).nodup_iff.mpr this
  · intro y hy
    refine h.sub y ?_
    rw [List.map_cons, List.cons_append]
    exact (List.perm_middle (l₁ := r.map (·.1)) (a := x) (l₂ := fin)).mem_iff.mp hy
  · obtain ⟨j, hj, rfl⟩ := List.mem_iff_getElem.mp hs'
    have hjk : j < k := by
      rcases Nat.lt_or_ge j k with q | q
      · exact q
      · rw [List.getElem?_eq_none_iff] at hs; omega
    exact h.ch.1 j hjk _ (List.getElem?_eq_getElem hj)
  · have hc := h.ch.2
    match r, hc with
    | [], _ => trivial
    | (y, ky) :: r', hc =>
      refine ⟨fun j hj s hs => ?_, Ch.mono hsub hc.2⟩
      by_cases e : j = ky - 1
      · subst e
        rw [hc.1.2.1] at hs
        cases hs
        exact .head _
      · exact .tail _ (hc.1.2.2 j (by omega) s hs)
theorem nodup_len : ∀ {l m : List α}, l.Nodup → (∀ x ∈ l, x ∈ m) → l.length ≤ m.length
  | [], _, _, _ => Nat.zero_le _
  | x :: l, m, hn, hs => by
    rw [List.nodup_cons] at hn
    have hx : x ∈ m := hs x (.head _)
    have := nodup_len (l := l) (m := m.erase x) hn.2 fun y hy => (List.mem_erase_of_ne (fun e => hn.1 (by rw [← e]; exact hy))).mpr (hs y (.tail _ hy))
    rw [List.length_erase_of_mem hx] at this
    have hp : 0 < m.length := List.length_pos_of_mem hx
    simp only [List.length_cons]
    omega
theorem Inv.len {gn : List α} {sc : α → List α} {st : List (α × Nat)} {fin : List α} {p : Option α} (h : Inv gn sc st fin p) : st.length + fin.length ≤ gn.length := by
  have := nodup_len h.nodup h.sub
  simpa using this
/-- a ring -/
theorem ring_of : ∀ {st : List (α × Nat)} {w : α}, Ch sc fin st (some w) → v ∈ st.map (·.1) →
    ∃ C : List α, v ∈ C ∧ (∀ y ∈ C, y = v ∨ ∃ z ∈ C, y ∈ sc z) ∧ (∃ z ∈ C, w ∈ sc z) ∧ ∀ y ∈ C, y ∈ st.map (·.1)
  | (x, k) :: r, w, h, hv => by
    have hw : w ∈ sc x := List.mem_of_getElem? h.1.2.1
    rcases List.mem_cons.mp hv with e | hv
    · have e : v = x := e
      subst e
      exact (PL.m1_3 ([v]) (.head _) (fun y hy => .inl (List.mem_singleton.mp hy)) ((PL.m1_1 v (.head _) hw)) (fun y hy => by rw [List.mem_singleton.mp hy]; exact .head _))
    · (refine PL.x1_3 (ring_of h.2 hv) ?_; rintro C h1 h2 ⟨z, hz, hxz⟩ h4)
      refine (PL.m1_3 (x :: C) (.tail _ h1) (fun y hy => ?_) ((PL.m1_1 x (.head _) hw)) (fun y hy => ?_))
      · rcases List.mem_cons.mp hy with rfl | hy
        · exact .inr (PL.m1_1 z (.tail _ hz) hxz)
        · rcases h2 y hy with e | ⟨z', hz', e⟩
          · exact .inl e
          · exact .inr (PL.m1_1 z' (.tail _ hz') e)
      · rcases List.mem_cons.mp hy with rfl | hy
        · exact .head _
        · exact .tail _ (h4 y hy)
theorem Inv.ring (h : Inv gn sc st fin (some v)) (hv : v ∈ st.map (·.1)) : ∃ C : List α, C ≠ [] ∧ (∀ y ∈ C, y ∈ gn) ∧ ∀ y ∈ C, ∃ z ∈ C, y ∈ sc z := by
  (refine PL.x1_3 (ring_of h.ch hv) ?_; rintro C h1 h2 ⟨z, hz, hvz⟩ h4)
  refine (PL.m1_2 C ((fun e => by rw [e] at h1; cases h1)) (fun y hy => h.sub y (List.mem_append_left _ (h4 y hy))) (fun y hy => ?_))
  rcases h2 y hy with rfl | q
  · exact (PL.m1_1 z hz hvz)
  · exact q
end
/-- the measure -/
noncomputable def rest (sc : α → List α) (P : α → Bool) : List α → Nat
  | [] => 0
  | x :: g => (if P x then 0 else (sc x).length + 2) + rest sc P g
noncomputable def stw (sc : α → List α) : List (α × Nat) → Nat
  | [] => 0
  | p :: r => ((sc p.1).length - p.2 + 1) + stw sc r
noncomputable def seen (st : List (α × Nat)) (fin : List α) (x : α) : Bool := (st.map (·.1) ++ fin).contains x
noncomputable def msr (gn : List α) (sc : α → List α) (st : List (α × Nat)) (fin : List α) : Nat := rest sc (seen st fin) gn + stw sc st
theorem seen_push {st : List (α × Nat)} {fin : List α} {v : α} (k : Nat) : (fun x => seen st fin x || decide (x = v)) = seen ((v, k) :: st) fin := by
  funext x
  unfold seen
  rw [List.map_cons, List.cons_append, List.contains_cons, Bool.or_comm]
  congr 1
theorem seen_pop {r : List (α × Nat)} {fin : List α} {x : α} {k : Nat} : seen ((x, k) :: r) fin = seen r (x :: fin) := by
  funext y
  unfold seen
  rw [List.map_cons]
  refine Bool.eq_iff_iff.mpr ?_
  simp only [List.contains_iff_mem]
  exact (List.perm_middle (l₁ := r.map (·.1)) (a := x) (l₂ := fin)).mem_iff.symm
theorem seen_iff {st : List (α × Nat)} {fin : List α} {x : α} : seen st fin x = true ↔ x ∈ st.map (·.1) ∨ x ∈ fin := by
  unfold seen; simp
theorem rest_congr {sc : α → List α} {P Q : α → Bool} : ∀ {g : List α}, (∀ x ∈ g, P x = Q x) → rest sc P g = rest sc Q g
  | [], _ => rfl
  | x :: g, h => by rw [rest, rest, h x (.head _), rest_congr fun y hy => h y (.tail _ hy)]
theorem rest_push {sc : α → List α} {P Q : α → Bool} {v : α} (hQ : ∀ x, Q x = (P x || decide (x = v))) (hP : P v = false) : ∀ {g : List α}, g.Nodup → v ∈ g → rest sc Q g + ((sc v).length + 2) = rest sc P g
  | x :: g, hn, hv => by
    rw [List.nodup_cons] at hn
    rcases List.mem_cons.mp hv with rfl | hv
    · have e := rest_congr (sc := sc) (P := Q) (Q := P) (g := g) fun y hy => by
        have hy2 : y ≠ v := fun q => hn.1 (by rw [← q]; exact hy)
        rw [hQ, decide_eq_false hy2, Bool.or_false]
      rw [rest, rest, hQ, hP, e]
      simp; omega
    · have hx : x ≠ v := fun q => hn.1 (q ▸ hv)
      have ih := rest_push (sc := sc) hQ hP hn.2 hv
      rw [rest, rest, hQ, decide_eq_false hx, Bool.or_false]
      omega
section
variable {gn : List α} {sc : α → List α} {st r : List (α × Nat)} {fin : List α} {v x : α} {k : Nat}
theorem msr_push (hg : gn.Nodup) (hv : v ∈ gn) (h1 : v ∉ st.map (·.1)) (h2 : v ∉ fin) : msr gn sc ((v, 0) :: st) fin < msr gn sc st fin := by
  have e := rest_push (sc := sc) (P := seen st fin) (Q := seen ((v, 0) :: st) fin) (v := v) (fun x => by
    unfold seen
    rw [List.map_cons, List.cons_append, List.contains_cons, Bool.or_comm]
    congr 1) (by
    unfold seen
    rw [Bool.eq_false_iff]
    intro q
    have : v ∈ st.map (·.1) ++ fin := by simpa using q
    exact (List.mem_append.mp this).elim h1 h2) hg hv
  unfold msr
  rw [stw]
  dsimp only
  omega
theorem msr_next {s : α} (hs : (sc x)[k]? = some s) : msr gn sc ((x, k + 1) :: r) fin < msr gn sc ((x, k) :: r) fin := by
  have hk : k < (sc x).length := by
    rcases Nat.lt_or_ge k (sc x).length with q | q
    · exact q
    · rw [List.getElem?_eq_none q] at hs; cases hs
  have e : rest sc (seen ((x, k + 1) :: r) fin) gn = rest sc (seen ((x, k) :: r) fin) gn := rest_congr fun y _ => rfl
  unfold msr
  rw [e, stw, stw]
  dsimp only
  omega
theorem msr_pop : msr gn sc r (x :: fin) < msr gn sc ((x, k) :: r) fin := by
  have e : rest sc (seen r (x :: fin)) gn = rest sc (seen ((x, k) :: r) fin) gn := rest_congr fun y _ => by
    unfold seen
    rw [List.map_cons]
    refine Bool.eq_iff_iff.mpr ?_
    simp only [List.contains_iff_mem]
    exact (List.perm_middle (l₁ := r.map (·.1)) (a := x) (l₂ := fin)).mem_iff
  unfold msr
  rw [e, stw]
  dsimp only
  omega
end
end FC
end
section
open PySem PySem.Calls PyProof.Rows PySem.W
set_option autoImplicit false
set_option linter.unusedVariables false
set_option maxRecDepth 100000
set_option maxHeartbeats 0
namespace PL
/-- an element of find_cycle's stack -/
structure SE where
  node : Str
  b : Addr
  it : Addr
  sl : Addr
  k : Nat
noncomputable def itLed : List SE → Led
  | [] => []
  | e :: r => (e.b, .raw (boundNext e.it)) :: (e.it, .listiter e.sl e.k) :: itLed r
noncomputable def stOf (r : List SE) : List (Str × Nat) := r.map fun e => (e.node, e.k)
noncomputable def stkL (r : List SE) : List Str := (r.map SE.node).reverse
noncomputable def bsL (r : List SE) : List AV := (r.map fun e => AV.ref e.b).reverse
noncomputable def idxKV : List SE → List (Str × AV)
  | [] => []
  | e :: r => idxKV r ++ [(e.node, .int r.length)]
noncomputable def SOk (g : List NR) (r : List SE) : Prop := ∀ e ∈ r, ∃ q ∈ g, q.nd.name = e.node ∧ q.sl = e.sl
theorem stOf_names (r : List SE) : (stOf r).map (·.1) = r.map SE.node := by simp [stOf]
theorem idx_names : ∀ r : List SE, (idxKV r).map (·.1) = stkL r
  | [] => rfl
  | e :: r => by rw [idxKV, List.map_append, idx_names r]; simp [stkL]
theorem stkL_cons (e : SE) (r : List SE) : stkL (e :: r) = stkL r ++ [e.node] := by simp [stkL]
theorem bsL_cons (e : SE) (r : List SE) : bsL (e :: r) = bsL r ++ [.ref e.b] := by simp [bsL]
theorem mem_stkL {r : List SE} {v : Str} : v ∈ stkL r ↔ v ∈ (stOf r).map (·.1) := by rw [stOf_names]; simp [stkL]
theorem len_stkL (r : List SE) : (stkL r).length = r.length := by simp [stkL]
theorem len_bsL (r : List SE) : (bsL r).length = r.length := by simp [bsL]
theorem len_idx (r : List SE) : (idxKV r).length = r.length := by
  have := congrArg List.length (idx_names r)
  rwa [List.length_map, len_stkL] at this
theorem idx_push {r : List SE} {e : SE} (h : e.node ∉ (stOf r).map (·.1)) : storedAV (idxKV r) e.node (.int r.length) = idxKV (e :: r) := by
  unfold storedAV
  rw [if_neg (by rw [idx_names, mem_stkL]; exact h)]
  rfl
theorem idx_pop {r : List SE} {e : SE} (h : e.node ∉ (stOf r).map (·.1)) : (idxKV (e :: r)).filter (fun kv => decide (kv.1 ≠ e.node)) = idxKV r := by
  rw [idxKV, List.filter_append]
  have h1 : (idxKV r).filter (fun kv => decide (kv.1 ≠ e.node)) = idxKV r := by
    rw [List.filter_eq_self]
    intro kv hkv
    have : kv.1 ∈ (stOf r).map (·.1) := by rw [← mem_stkL, ← idx_names]; exact List.mem_map.mpr (PL.m1_1 kv hkv rfl)
    simp only [ne_eq, decide_not, Bool.not_eq_true', decide_eq_false_iff_not]
    exact fun q => h (q ▸ this)
  rw [h1]; simp
theorem idx_get {r : List SE} {v : Str} (h : v ∈ (stOf r).map (·.1)) : ∃ i : Nat, (v, AV.int i) ∈ idxKV r ∧ i < r.length := by
  induction r with
  | nil => cases h
  | cons e r ih =>
    by_cases q : v ∈ (stOf r).map (·.1)
    · (refine PL.x1_1 (ih q) ?_; rintro i h1 h2)
      exact (PL.m1_1 i (List.mem_append_left _ h1) (by simp; omega))
    · rcases List.mem_cons.mp h with e' | h
      · have e' : v = e.node := e'
        subst e'
        exact (PL.m1_1 r.length (List.mem_append_right _ (.head _)) (by simp))
      · exact (q h).elim
theorem succ_mem {g : List NR} {q : NR} (h : q ∈ g) (hnd : (names (abs g)).Nodup) : succOf (abs g) q.nd.name = q.nd.succ := by
  (refine PL.x2_0 (List.append_of_mem h) ?_; rintro pre post rfl)
  exact succOf_split hnd
theorem filterMap_range {α : Type} (xs : List α) : ∀ m, (List.range m).filterMap (xs[·]?) = xs.take m
  | 0 => rfl
  | m + 1 => by
    rw [List.range_succ, List.filterMap_append, filterMap_range xs m, List.take_add_one]
    congr 1
theorem pickAV_upto (xs : List AV) (b : Nat) : pickAV xs none (some (b : Int)) = xs.take b := by
  unfold pickAV
  rw [sliceBounds_plain]
  show (sliceRange (0 : Nat) _ 1).filterMap _ = _
  rw [sliceRange_one]
  have e : ∀ m, (List.map (fun x => 0 + x) (List.range m)) = List.range m := fun m => by simp
  rw [e, filterMap_range]
  show xs.take (clipAt xs.length b - 0) = _
  rw [clipAt_nat, Nat.sub_zero]
  rcases Nat.le_total b xs.length with q | q
  · rw [Nat.min_eq_left q]
  · rw [Nat.min_eq_right q, List.take_length, List.take_of_length_le q]
theorem pick_len {xs : List AV} {vs : Array Value} (h : xs.length = vs.size) : ∀ ns : List Nat, (ns.filterMap (xs[·]?)).length = (ns.filterMap (vs[·]?)).length
  | [] => rfl
  | n :: ns => by
    rw [List.filterMap_cons, List.filterMap_cons]
    rcases Nat.lt_or_ge n xs.length with q | q
    · rw [List.getElem?_eq_getElem q, Array.getElem?_eq_getElem (by omega)]
      simp [pick_len h ns]
    · rw [List.getElem?_eq_none q, Array.getElem?_eq_none (by omega)]
      exact pick_len h ns
theorem pickAV_len (xs : List AV) (lo hi : Option Int) : (pickAV xs lo hi).length ≤ xs.length := by
  have h1 := slicePick_size_le (Array.replicate xs.length Value.none) lo hi none
  have h2 := pick_len (xs := xs) (vs := Array.replicate xs.length Value.none) (by simp) (sliceRange (sliceBounds lo hi none xs.length).1 (sliceBounds lo hi none xs.length).2.1 (sliceBounds lo hi none xs.length).2.2)
  unfold pickAV
  rw [h2]
  unfold slicePick at h1
  simp only [Array.size_replicate] at h1
  simpa using h1
section
variable {G : Gd} {A : Around} {env : Env} {l l' : Led} {X : Xp}
theorem SS.sub {st : Stmt} {R : AF → Led → Prop} (hs : Sub l' l) (h : SS G A env st l' R X) : SS G A env st l R X := Tr.sub hs h
end
theorem binds_dfl {s : Shared} {fd : FuncData} {x y : Str} {v d : Value} {T : Addr} {o : Obj} {n : Nat} (h1 : fd.params.posonlyargs = []) (h2 : fd.params.args.map (·.arg) = [x, y]) (h3 : fd.params.kwonlyargs = []) (h4 : fd.params.vararg = none) (h5 : fd.params.kwarg = none) (h6 : fd.defaults = .ref T)
    (hxy : (y == x) = false) (ho : s.heap.get? T = some o) (hs : o.data = .seq #[d] n) : BindsTo s fd ⟨[v], []⟩ [(x, v), (y, d)] := fun M A E Q hq => by
  unfold bindArgs
  simp only [h1, h2, h3, h4, h5, h6, List.map_nil, List.nil_append, List.append_nil, List.forIn_nil]
  refine wpAny_bind (wpAny_pure ?_)
  refine wpAny_bind (wpAny_seqItems ho hs ?_)
  simp [hxy, List.lookup_cons]
  exact wpAny_pure hq
end PL
end
section
open PySem PySem.Calls PyProof.Rows PySem.W
set_option autoImplicit false
set_option linter.unusedVariables false
set_option maxRecDepth 100000
set_option maxHeartbeats 0
namespace PL
/-- a part of a glob: none is the star -/
noncomputable abbrev Prt := Option Str
noncomputable def prtAV (star : Addr) : Prt → AV
  | none => .ref star
  | some s => .str s
noncomputable def escOf (c : Nat) : Str := if c = 46 then "\\." else ⟨#[c]⟩
noncomputable def brOf (st : Str) : Option Str := if st = "!a" then some "[^a]" else if st = "!b" then some "[^b]" else if st = "ab" then some "[ab]" else none
noncomputable def tstep (P : Str) (i : Nat) (res : List Prt) : Option (Nat × List Prt) := match P.cps[i]? with
  | some c =>
    if c = 42 then (match res.getLast? with | some none => none | _ => some (i + 1, res ++ [none]))
    else if c = 63 then some (i + 1, res ++ [some (Str.ofString ".")])
    else if c = 91 then (match P.cps[i + 1]?, P.cps[i + 2]?, P.cps[i + 3]? with
      | some a, some b, some d => if d = 93 ∧ a ≠ 93 ∧ b ≠ 93 then (brOf ⟨#[a, b]⟩).map fun s => (i + 4, res ++ [some s]) else none
      | _, _, _ => none)
    else if c = 97 ∨ c = 98 ∨ c = 46 then some (i + 1, res ++ [some (escOf c)]) else none
  | none => none
noncomputable def truns (P : Str) : Nat → Nat → List Prt → Option (List Prt)
  | 0, i, res => if i = P.length then some res else none
  | k + 1, i, res => if i = P.length then some res else (tstep P i res).bind fun p => truns P k p.1 p.2
theorem tstep_cases {P : Str} {i : Nat} {res r' : List Prt} {i' c : Nat} (h : tstep P i res = some (i', r')) (hc : P.cps[i]? = some c) :
    (c = 42 ∧ (res = [] ∨ ∃ ini s, res = ini ++ [some s]) ∧ i' = i + 1 ∧ r' = res ++ [none]) ∨ (c = 63 ∧ i' = i + 1 ∧ r' = res ++ [some (Str.ofString ".")]) ∨
    (c = 91 ∧ ∃ a b s, P.cps[i + 1]? = some a ∧ P.cps[i + 2]? = some b ∧ P.cps[i + 3]? = some 93 ∧ a ≠ 93 ∧ b ≠ 93 ∧ brOf ⟨#[a, b]⟩ = some s ∧ i' = i + 4 ∧ r' = res ++ [some s]) ∨
    ((c = 97 ∨ c = 98 ∨ c = 46) ∧ i' = i + 1 ∧ r' = res ++ [some (escOf c)]) := by
  unfold tstep at h
  rw [hc] at h
  dsimp only at h
  split at h
  · rename_i e
    left
    refine ⟨e, ?_⟩
    split at h
    · cases h
    · rename_i hl
      simp only [Option.some.injEq, Prod.mk.injEq] at h
      refine (PL.m0_2 ?_ h.1.symm h.2.symm)
      cases hr : res with
      | nil => exact .inl rfl
      | cons x xs =>
        right
        have hne : x :: xs ≠ [] := by simp
        refine ⟨(x :: xs).dropLast, ?_⟩
        cases hg : (x :: xs).getLast hne with
        | none => exact absurd (by rw [hr, List.getLast?_eq_some_getLast hne, hg]) hl
        | some s => exact ⟨s, by rw [← hg]; exact (List.dropLast_concat_getLast hne).symm⟩
  · split at h
    · rename_i e
      simp only [Option.some.injEq, Prod.mk.injEq] at h
      exact .inr (.inl (PL.m0_2 e h.1.symm h.2.symm))
    · split at h
      · rename_i e
        right; right; left
        refine ⟨e, ?_⟩
        split at h
        · rename_i a b d ha hb hd
          split at h
          · rename_i hcond
            rw [Option.map_eq_some_iff] at h
            (revert h; refine PL.j1_1 ?_; rintro s hs e2)
            simp only [Prod.mk.injEq] at e2
            exact (PL.m3_7 a b s ha hb (by rw [hd, hcond.1]) hcond.2.1 hcond.2.2 hs e2.1.symm e2.2.symm)
          · cases h
        · cases h
      · split at h
        · rename_i e
          simp only [Option.some.injEq, Prod.mk.injEq] at h
          exact .inr (.inr (.inr (PL.m0_2 e h.1.symm h.2.symm)))
        · cases h
theorem getItem_at {P : Str} {i c : Nat} (h : P.cps[i]? = some c) : (seqIndex? (i : Int) P.length).bind (P.cps[·]?) = some c := by
  have hl : i < P.cps.size := by
    rcases Nat.lt_or_ge i P.cps.size with h' | h'
    · exact h'
    · rw [Array.getElem?_eq_none h'] at h; cases h
  have : (seqIndex? (i : Int) P.length) = some i := by
    have hl' : i < P.length := hl
    have e0 : ¬ ((i : Int) < 0) := by omega
    unfold seqIndex?
    simp only [if_neg e0]
    rw [if_pos (by simp only [ge_iff_le, Bool.and_eq_true, decide_eq_true_eq]; omega)]
    simp
  rw [this]
  exact h
theorem str2 {a b c d : Nat} (h : (⟨#[a, b]⟩ : Str) = ⟨#[c, d]⟩) : a = c ∧ b = d := by simpa using h
theorem br_cases {a b : Nat} {s : Str} (h : brOf ⟨#[a, b]⟩ = some s) : (a = 33 ∧ b = 97 ∧ s = Str.ofString "[^a]") ∨ (a = 33 ∧ b = 98 ∧ s = Str.ofString "[^b]") ∨ (a = 97 ∧ b = 98 ∧ s = Str.ofString "[ab]") := by
  unfold brOf at h
  split at h
  · rename_i e; have := str2 (c := 33) (d := 97) e; cases h; exact .inl (PL.m0_2 this.1 this.2 rfl)
  · split at h
    · rename_i e; have := str2 (c := 33) (d := 98) e; cases h; exact .inr (.inl (PL.m0_2 this.1 this.2 rfl))
    · split at h
      · rename_i e; have := str2 (c := 97) (d := 98) e; cases h; exact .inr (.inr (PL.m0_2 this.1 this.2 rfl))
      · cases h
theorem cps_lt {P : Str} {i c : Nat} (h : P.cps[i]? = some c) : i < P.length := by
  rcases Nat.lt_or_ge i P.cps.size with h' | h'
  · exact h'
  · rw [Array.getElem?_eq_none h'] at h; cases h
theorem slice_two {P : Str} {i a b c : Nat} (ha : P.cps[i]? = some a) (hb : P.cps[i + 1]? = some b) (hc : P.cps[i + 2]? = some c) : Txt.slice P (some (i : Int)) (some (i + 2 : Int)) = ⟨#[a, b]⟩ := by
  have hl := cps_lt hc
  have e : Builtin.Str.strSliceIndices (some (i : Int)) (some (i + 2 : Int)) 1 P.length = [i, i + 1] := by
    unfold Builtin.Str.strSliceIndices
    simp only [show (1 : Int) > 0 by decide, if_true, if_neg (show ¬ ((i : Int) < 0) by omega), if_neg (show ¬ ((i : Int) + 2 < 0) by omega)]
    rw [show max (0 : Int) (min (i : Int) (P.length : Int)) = i by omega, show max (0 : Int) (min ((i : Int) + 2) (P.length : Int)) = i + 2 by omega]
    unfold sliceRange
    simp only [show (1 : Int) > 0 by decide, if_true, if_pos (show (i : Int) < i + 2 by omega)]
    rw [show (((i : Int) + 2 - i + 1 - 1) / 1).toNat = 2 by omega]
    simp [List.range_succ]
  unfold Txt.slice
  rw [e]
  rw [if_neg (by simp; omega)]
  simp [ha, hb]
section
variable {G : Gd} {A : Around} {l l' : Led} {X : Xp} {R : AV → Led → Prop}
theorem CC.badd {b p star : Addr} {xs : List Prt} {x : Prt} {l₂ : Led} (hb : Pick (b, .raw (boundAppend p)) l l₂) (hp : Pick (p, .list (xs.map (prtAV star))) l l') (hz : xs.length < 1000000) (h : R .none ((p, .list ((xs ++ [x]).map (prtAV star))) :: l')) : CC G A (.ref b) [prtAV star x] l R X :=
  CC.bappend hb.mem hp (by simpa using hz) (by simpa using h)
theorem Get.lastP {p : Addr} {zs xs : List AV} {a : AV} (hp : Pick (p, .list zs) l l') (e : zs = xs ++ [a]) (hz : xs.length < 1000000) (h : R a l) : Op2 G A getItem (.ref p) (.int (-1)) l R X := by
  subst e; exact Get.last hp hz h
theorem CC.arg1 {f a a' : AV} (e : a = a') (h : CC G A f [a'] l R X) : CC G A f [a] l R X := by subst e; exact h
end
end PL
end
section
open PySem PySem.Calls PyProof.Rows PySem.W
set_option autoImplicit false
set_option linter.unusedVariables false
set_option maxRecDepth 100000
set_option maxHeartbeats 0
namespace PL
/-- what the law takes of a name -/
noncomputable def starP (es : List Nat) (e : Nat) : Bool := match es with
  | [] => false
  | e0 :: _ => decide (e0 ≤ e)
noncomputable def textP (tk : Str → Str → Bool) (nm p : Str) (e : Nat) : Bool := match nm.cps[e]? with
  | some c => tk p ⟨#[c]⟩
  | none => false
noncomputable def stepEndsB (tk : Str → Str → Bool) (nm : Str) (es : List Nat) : Prt → List Nat
  | none => (List.range (nm.length + 1)).filter (starP es)
  | some p => (es.filter (textP tk nm p)).map (· + 1)
noncomputable def takenOfB (tk : Str → Str → Bool) (parts : List Prt) (nms : List Str) : List Str := nms.filter fun nm => (parts.foldl (stepEndsB tk nm) [0]).contains nm.length
noncomputable abbrev natsAV (es : List Nat) : List AV := es.map fun i : Nat => AV.int i
noncomputable abbrev natsD (es : List Nat) : List PyData := es.map fun i : Nat => PyData.int i
theorem RDs.nats {l : Led} : ∀ es : List Nat, RDs l (natsAV es) (natsD es)
  | [] => .nil
  | _ :: es => .cons .int (RDs.nats es)
theorem canLay_nats : ∀ es : List Nat, PyData.canLayAll0 (natsD es) = true
  | [] => by simp [PyData.canLayAll0]
  | e :: es => by simp only [natsD, List.map_cons, PyData.canLayAll0, PyData.canLay0, Bool.true_and]; exact canLay_nats es
theorem depth_nats : ∀ es : List Nat, PyData.depthAll (natsD es) ≤ 1
  | [] => by simp [PyData.depthAll]
  | e :: es => by
    have := depth_nats es
    simp only [natsD, List.map_cons, PyData.depthAll, PyData.depth] at this ⊢
    omega
theorem any_nats (n : Nat) : ∀ es : List Nat, ((natsD es).any fun y => PyData.eqv y (.int (n : Int))) = es.contains n
  | [] => rfl
  | e :: es => by
    have ih := any_nats n es
    simp only [natsD, List.map_cons, List.any_cons, List.contains_cons, PyData.eqv] at ih ⊢
    rw [ih]
    congr 1
    rw [Bool.eq_iff_iff]
    simp only [beq_iff_eq]
    omega
theorem filt_yes {α β : Type} {xs : List α} {p : α → Bool} (f : α → β) {k : Nat} {a : α} (h : xs[k]? = some a) (hp : p a = true) : ((xs.take (k + 1)).filter p).map f = ((xs.take k).filter p).map f ++ [f a] := by
  rw [List.take_add_one, h]
  simp [List.filter_append, hp]
theorem filt_no {α β : Type} {xs : List α} {p : α → Bool} (f : α → β) {k : Nat} {a : α} (h : xs[k]? = some a) (hp : p a = false) : ((xs.take (k + 1)).filter p).map f = ((xs.take k).filter p).map f := by
  rw [List.take_add_one, h]
  simp [List.filter_append, hp]
theorem rfilt_yes {β : Type} {p : Nat → Bool} (f : Nat → β) {k : Nat} (hp : p k = true) : ((List.range (k + 1)).filter p).map f = ((List.range k).filter p).map f ++ [f k] := by
  rw [List.range_succ]
  simp [List.filter_append, hp]
theorem rfilt_no {β : Type} {p : Nat → Bool} (f : Nat → β) {k : Nat} (hp : p k = false) : ((List.range (k + 1)).filter p).map f = ((List.range k).filter p).map f := by
  rw [List.range_succ]
  simp [List.filter_append, hp]
theorem stepEndsB_len {tk : Str → Str → Bool} {nm : Str} {es : List Nat} {M : Nat} (hn : nm.length < M) (he : es.length ≤ M) : ∀ p : Prt, (stepEndsB tk nm es p).length ≤ M
  | none => Nat.le_trans (List.length_filter_le _ _) (by rw [List.length_range]; omega)
  | some p => by
    unfold stepEndsB
    rw [List.length_map]
    exact Nat.le_trans (List.length_filter_le _ _) he
theorem stepEndsB_le {tk : Str → Str → Bool} {nm : Str} {es : List Nat} {M : Nat} (hn : nm.length < M) : ∀ p : Prt, ∀ i ∈ stepEndsB tk nm es p, i ≤ M
  | none => fun i hi => by
    have := (List.mem_filter.mp hi).1
    rw [List.mem_range] at this
    omega
  | some p => fun i hi => by
    (refine PL.x1_1 (List.mem_map.mp hi) ?_; rintro j hj rfl)
    have h2 := (List.mem_filter.mp hj).2
    unfold textP at h2
    cases hc : nm.cps[j]? with
    | none => rw [hc] at h2; cases h2
    | some c =>
      have := (Array.getElem?_eq_some_iff.mp hc).1
      have h3 : nm.length = nm.cps.size := rfl
      omega
section
variable {G : Gd} {A : Around} {env : Env} {l l' : Led} {X : Xp} {R : AV → Led → Prop}
theorem Op2.inNats {p : Addr} {es : List Nat} {k n : Nat} (hr : Room A n) (hp : (p, .list (natsAV es)) ∈ l) (h : R (.bool (es.contains k)) l) : Op2 G A (compareOp .In) (.int (k : Int)) (.ref p) l R X :=
  Op2.inData hr (.list hp (RDs.nats es)) .int (canLay_nats es) (by simp [PyData.canLay0]) (Nat.le_trans (depth_nats es) (by decide)) (by rw [any_nats]; exact h)
theorem Op2.neNil {p q : Addr} {es : List Nat} {n : Nat} (hr : Room A n) (hp : (p, .list (natsAV es)) ∈ l) (hq : (q, .list []) ∈ l) (h : R (.bool (!es.isEmpty)) l) : Op2 G A (compareOp .NotEq) (.ref p) (.ref q) l R X := fun v u hv hu s N => by
  have ra : RD l (.ref p) (.list (natsD es)) := .list hp (RDs.nats es)
  have rb : RD l (.ref q) (.list []) := .list hq .nil
  obtain ⟨as, ra⟩ := ra.reads N v hv
  obtain ⟨bs, rb⟩ := rb.reads N u hu
  refine SeqAt.compareNe_reads ra rb (by simp only [PyData.canLay0]; exact canLay_nats es) (by simp [PyData.canLay0, PyData.canLayAll0]) ?_ ⟨.bool _, l, rfl, N, ?_⟩
  · have h1 : (PyData.list []).depth ≤ 1 := by simp [PyData.depth, PyData.depthAll]
    have h2 := hr.u
    have h3 : min (PyData.list (natsD es)).depth (PyData.list []).depth ≤ (PyData.list []).depth := Nat.min_le_right _ _
    omega
  · have e : (!PyData.eqv (.list (natsD es)) (.list [])) = !es.isEmpty := by
      cases es <;> simp [natsD, PyData.eqv, PyData.eqvAll]
    rw [e]; exact h
theorem Get.nats {p : Addr} {es : List Nat} {i k : Nat} (hp : (p, .list (natsAV es)) ∈ l) (hi : es[i]? = some k) (hz : i < 1000000) (h : R (.int (k : Int)) l) : Op2 G A getItem (.ref p) (.int (i : Int)) l R X := fun v u hv hu s N => by
  obtain ⟨l', hp'⟩ := Pick.ofMem hp
  exact Get.nat hp' hz (by rw [List.getElem?_map, hi]; rfl) h v u hv hu s N
end
end PL
end
section
open PySem PySem.Calls PyProof.Rows PySem.W
set_option autoImplicit false
set_option linter.unusedVariables false
set_option maxRecDepth 100000
set_option maxHeartbeats 0
namespace PL
/-! lists of texts and lists of such lists, compared -/
noncomputable abbrev strsD (ss : List Str) : List PyData := ss.map PyData.str
noncomputable def okS (ss : List Str) : Bool := ss.all PyData.strOk
theorem canLay_strs : ∀ {ss : List Str}, okS ss = true → PyData.canLayAll0 (strsD ss) = true
  | [], _ => by simp [PyData.canLayAll0]
  | s :: ss, h => by
    simp only [okS, List.all_cons, Bool.and_eq_true] at h
    simp only [strsD, List.map_cons, PyData.canLayAll0, PyData.canLay0, Bool.and_eq_true]
    exact ⟨h.1, canLay_strs h.2⟩
theorem depth_strs : ∀ ss : List Str, PyData.depthAll (strsD ss) ≤ 1
  | [] => by simp [PyData.depthAll]
  | s :: ss => by
    have := depth_strs ss
    simp only [strsD, List.map_cons, PyData.depthAll, PyData.depth] at this ⊢
    omega
theorem eqv_strs : ∀ a b : List Str, PyData.eqvAll (strsD a) (strsD b) = (a == b)
  | [], [] => by simp [PyData.eqvAll]
  | [], _ :: _ => by simp [PyData.eqvAll]
  | _ :: _, [] => by simp [PyData.eqvAll]
  | x :: a, y :: b => by
    have ih := eqv_strs a b
    simp only [strsD, List.map_cons, PyData.eqvAll, PyData.eqv] at ih ⊢
    rw [ih]
    rfl
noncomputable abbrev listsD (ls : List (List Str)) : List PyData := ls.map fun ss => PyData.list (strsD ss)
theorem canLay_lists : ∀ {ls : List (List Str)}, ls.all okS = true → PyData.canLayAll0 (listsD ls) = true
  | [], _ => by simp [PyData.canLayAll0]
  | s :: ss, h => by
    simp only [List.all_cons, Bool.and_eq_true] at h
    simp only [listsD, List.map_cons, PyData.canLayAll0, PyData.canLay0, Bool.and_eq_true]
    exact ⟨canLay_strs h.1, canLay_lists h.2⟩
theorem depth_lists : ∀ ss : List (List Str), PyData.depthAll (listsD ss) ≤ 2
  | [] => by simp [PyData.depthAll]
  | s :: ss => by
    have := depth_lists ss
    have h2 := depth_strs s
    simp only [listsD, List.map_cons, PyData.depthAll, PyData.depth] at this ⊢
    omega
theorem eqv_lists : ∀ a b : List (List Str), PyData.eqvAll (listsD a) (listsD b) = (a == b)
  | [], [] => by simp [PyData.eqvAll]
  | [], _ :: _ => by simp [PyData.eqvAll]
  | _ :: _, [] => by simp [PyData.eqvAll]
  | x :: a, y :: b => by
    have ih := eqv_lists a b
    simp only [listsD, List.map_cons, PyData.eqvAll, PyData.eqv] at ih ⊢
    rw [ih, eqv_strs]
    rfl
section
variable {G : Gd} {A : Around} {env : Env} {l l' : Led} {X : Xp} {R : AV → Led → Prop}
theorem Op2.eqStrs {p q : Addr} {a b : List Str} {n : Nat} (hr : Room A n) (hp : (p, .list (a.map .str)) ∈ l) (hq : (q, .list (b.map .str)) ∈ l) (ha : okS a = true) (hb : okS b = true) (h : R (.bool (a == b)) l) : Op2 G A (compareOp .Eq) (.ref p) (.ref q) l R X :=
  Op2.eqData hr (.list hp (RDs.strs a)) (.list hq (RDs.strs b)) (by simp only [PyData.canLay0]; exact canLay_strs ha) (by simp only [PyData.canLay0]; exact canLay_strs hb)
    (by have := depth_strs a; simp only [PyData.depth]; rw [strsD] at this; omega) (by
      have e : PyData.eqv (.list (strsD a)) (.list (strsD b)) = (a == b) := by simp only [PyData.eqv]; exact eqv_strs a b
      rw [e]; exact h)
theorem Op2.neDatum {a c : AV} {d e : PyData} {n : Nat} (hr : Room A n) (ha : RD l a d) (hc : RD l c e) (hd : d.canLay0 = true) (he : e.canLay0 = true) (hu : d.depth ≤ 100) (h : R (.bool (!d.eqv e)) l) :
    Op2 G A (compareOp .NotEq) a c l R X := fun v u hv hu' s N => by
  obtain ⟨as, ra⟩ := ha.reads N v hv
  obtain ⟨bs, rc⟩ := hc.reads N u hu'
  exact SeqAt.compareNe_reads ra rc hd he (by have := hr.u; omega) ⟨.bool _, l, rfl, N, h⟩
theorem Op2.neStrs {p q : Addr} {a b : List Str} {n : Nat} (hr : Room A n) (hp : (p, .list (a.map .str)) ∈ l) (hq : (q, .list (b.map .str)) ∈ l) (ha : okS a = true) (hb : okS b = true) (h : R (.bool (a != b)) l) : Op2 G A (compareOp .NotEq) (.ref p) (.ref q) l R X :=
  Op2.neDatum hr (.list hp (RDs.strs a)) (.list hq (RDs.strs b)) (by simp only [PyData.canLay0]; exact canLay_strs ha) (by simp only [PyData.canLay0]; exact canLay_strs hb)
    (by have := depth_strs a; simp only [PyData.depth]; rw [strsD] at this; omega) (by
      have e : PyData.eqv (.list (strsD a)) (.list (strsD b)) = (a == b) := by simp only [PyData.eqv]; exact eqv_strs a b
      rw [e]; exact h)
theorem Op2.notinStrsM {p : Addr} {ss : List Str} {k : Str} (hp : (p, .list (ss.map .str)) ∈ l) (h : R (.bool (!ss.contains k)) l) : Op2 G A (compareOp .NotIn) (.str k) (.ref p) l R X := fun v u hv hu s N => by
  obtain ⟨l', hp'⟩ := Pick.ofMem hp
  exact Op2.notinStrs hp' h v u hv hu s N
/-- a glob, its list's place, the list -/
structure TR where
  g : Str
  a : Addr
  own : List Str
noncomputable abbrev tLed (ts : List TR) : Led := ts.map fun t => (t.a, AO.list (t.own.map .str))
noncomputable abbrev tRefs (ts : List TR) : List AV := ts.map fun t => AV.ref t.a
noncomputable abbrev tKV (ts : List TR) : List (Str × AV) := ts.map fun t => (t.g, AV.ref t.a)
noncomputable abbrev tOwn (ts : List TR) : List (List Str) := ts.map TR.own
theorem RDs.lists {l : Led} : ∀ {ts : List TR}, (∀ t ∈ ts, (t.a, AO.list (t.own.map .str)) ∈ l) → RDs l (tRefs ts) (listsD (tOwn ts))
  | [], _ => .nil
  | t :: ts, h => .cons (.list (h t List.mem_cons_self) (RDs.strs _)) (RDs.lists fun u hu => h u (List.mem_cons_of_mem _ hu))
theorem Op2.neLists {p q : Addr} {ts us : List TR} {n : Nat} (hr : Room A n) (hp : (p, .list (tRefs ts)) ∈ l) (hq : (q, .list (tRefs us)) ∈ l) (h1 : ∀ t ∈ ts, (t.a, AO.list (t.own.map .str)) ∈ l) (h2 : ∀ t ∈ us, (t.a, AO.list (t.own.map .str)) ∈ l)
    (ha : (tOwn ts).all okS = true) (hb : (tOwn us).all okS = true) (h : R (.bool (tOwn ts != tOwn us)) l) : Op2 G A (compareOp .NotEq) (.ref p) (.ref q) l R X :=
  Op2.neDatum hr (.list hp (RDs.lists h1)) (.list hq (RDs.lists h2)) (by simp only [PyData.canLay0]; exact canLay_lists ha) (by simp only [PyData.canLay0]; exact canLay_lists hb)
    (by have := depth_lists (tOwn ts); simp only [PyData.depth]; omega) (by
      have e : PyData.eqv (.list (listsD (tOwn ts))) (.list (listsD (tOwn us))) = (tOwn ts == tOwn us) := by simp only [PyData.eqv]; exact eqv_lists _ _
      rw [e]; exact h)
end
end PL
end
section
open PySem PySem.Calls PyProof.Rows PySem.W
set_option autoImplicit false
set_option linter.unusedVariables false
set_option maxRecDepth 100000
set_option maxHeartbeats 0
namespace PL
/-! what the law's run does to the sorter -/
noncomputable def narrow (a b : List Str) : Bool := (a != b) && ((a.filter fun n => !b.contains n) == [])
noncomputable abbrev GO := Str × List Str
noncomputable abbrev tP (ts : List TR) : List GO := ts.map fun t => (t.g, t.own)
noncomputable def prdP (P : List GO) (own : List Str) : List Str := (P.filter fun o => narrow o.2 own).map (·.1)
noncomputable def addAll (P Q : List GO) : List Nd := Q.foldl (fun g t => addS g t.1 (prdP P t.2)) []
theorem len_fold (x : Str) : ∀ (ps : List Str) (g : List Nd), (ps.foldl (addE x) g).length ≤ g.length + ps.length
  | [], g => Nat.le_refl _
  | p :: ps, g => by
    have := len_fold x ps (addE x g p)
    have h2 := len_addE x g p
    simp only [List.foldl_cons, List.length_cons]
    omega
theorem len_addS (g : List Nd) (x : Str) (ps : List Str) : (addS g x ps).length ≤ g.length + 1 + ps.length := by
  unfold addS
  refine Nat.le_trans (len_fold _ _ _) ?_
  rw [len_upd]
  have := len_get g x
  omega
theorem nodup_fold (x : Str) : ∀ (ps : List Str) (g : List Nd), (names g).Nodup → (names (ps.foldl (addE x) g)).Nodup
  | [], g, h => h
  | p :: ps, g, h => nodup_fold x ps _ (nodup_addE h)
theorem nodup_addS {g : List Nd} (x : Str) (ps : List Str) (h : (names g).Nodup) : (names (addS g x ps)).Nodup := by
  unfold addS
  refine nodup_fold _ _ _ ?_
  rw [names_upd (getN g x) x (fun n => { n with np := n.np + ps.length }) (fun _ => rfl)]
  exact nodup_get h
theorem SB_fold (x : Str) : ∀ (ps : List Str) (g : List Nd) (m : Nat), SB g m → SB (ps.foldl (addE x) g) (m + ps.length)
  | [], g, m, h => h
  | p :: ps, g, m, h => by
    have := SB_fold x ps _ _ (h.addE x p)
    simp only [List.foldl_cons, List.length_cons]
    rw [Nat.add_assoc, Nat.add_comm 1] at this
    exact this
theorem SB_addS {g : List Nd} {m : Nat} (x : Str) (ps : List Str) (h : SB g m) : SB (addS g x ps) (m + ps.length) := by
  unfold addS
  exact SB_fold _ _ _ _ ((h.get x).upd x _ (Nat.le_refl m) fun n hn => hn)
theorem len_prdP (P : List GO) (own : List Str) : (prdP P own).length ≤ P.length := by
  unfold prdP; rw [List.length_map]; exact List.length_filter_le _ _
theorem addAll_step (P : List GO) {Q : List GO} {k : Nat} {t : GO} (h : Q[k]? = some t) : addAll P (Q.take (k + 1)) = addS (addAll P (Q.take k)) t.1 (prdP P t.2) := foldl_take (fun g (t : GO) => addS g t.1 (prdP P t.2)) [] h
theorem addAll_facts (P : List GO) : ∀ (k : Nat) (Q : List GO), (addAll P (Q.take k)).length ≤ k * (P.length + 1) ∧ SB (addAll P (Q.take k)) (k * P.length) ∧ (names (addAll P (Q.take k))).Nodup
  | 0, Q => by
    rw [List.take_zero]
    exact (PL.m0_2 (Nat.zero_le _) ((fun n hn => by cases hn)) List.nodup_nil)
  | k + 1, Q => by
    (refine PL.x0_2 (addAll_facts P k Q) ?_; rintro h1 h2 h3)
    cases h : Q[k]? with
    | none =>
      have e : Q.take (k + 1) = Q.take k := by rw [List.take_add_one, h]; simp
      rw [e]
      refine (PL.m0_2 (Nat.le_trans h1 (Nat.mul_le_mul_right _ (Nat.le_succ k))) (fun n hn => Nat.le_trans (h2 n hn) (Nat.mul_le_mul_right _ (Nat.le_succ k))) h3)
    | some t =>
      rw [addAll_step P h]
      have h4 := len_prdP P t.2
      refine (PL.m0_2 ?_ (fun n hn => ?_) (nodup_addS _ _ h3))
      · have := len_addS (addAll P (Q.take k)) t.1 (prdP P t.2)
        rw [Nat.succ_mul]
        omega
      · have := SB_addS t.1 (prdP P t.2) h2 n hn
        rw [Nat.succ_mul]
        omega
/-- what is asked of a family of states: the run may go on -/
structure RunLaw (N : Nat) (J : Nat → List Nd → List Str → List Str → List Str → Prop) : Prop where
  go : ∀ k g ys hp ord, k < N → J k g ys hp ord → (names g).Nodup ∧ (∀ y ∈ ys, y ∈ names g) ∧ ys.length < 900 ∧ hp.length < 900 ∧ ord.length < 900 ∧ ∀ hp' : List Str, hp'.Perm (hp ++ ys) → hp' ≠ [] ∧ ∀ m rest, (m :: rest).Perm hp' → (∀ b ∈ hp', HP.slt b m = false) →
    (names (outS g ys)).Nodup ∧ m ∈ names (outS g ys) ∧ npOf (outS g ys) m = -1 ∧ (∀ s ∈ succOf (outS g ys) m, s ∈ names (outS g ys)) ∧ (succOf (outS g ys) m).length < 900 ∧ ∀ g2 ys2, (g2, ys2) = doneS (outS g ys, []) m → J (k + 1) g2 ys2 rest (ord ++ [m])
end PL
end
section
open PySem PySem.Calls PyProof.Rows PySem.W Builtin Builtin.ObjectAttr
set_option autoImplicit false
set_option linter.unusedVariables false
set_option maxRecDepth 100000
set_option maxHeartbeats 0
namespace PL
section
variable {G : Gd} {A : Around} {env : Env} {l l' : Led} {X : Xp} {R : AV → Led → Prop}
/-! a method asked for as a value, then called with its last argument starred -/
theorem CK.sub {f : AV} {args : List AV} (hs : Sub l' l) (h : CK G A f args l' R X) : CK G A f args l R X := fun v vs hv hvs s N => h v vs hv hvs s (N.sub hs)
theorem CK.post {f : AV} {args : List AV} (h : CK G A f args l (fun b l₁ => ∃ l₂, Sub l₂ l₁ ∧ R b l₂) X) : CK G A f args l R X := fun v vs hv hvs s N =>
  codeAny_mono (h v vs hv hvs s N) fun r s' z => by
    cases r with
    | error e => exact z
    | ok f =>
      cases f with
      | ret v => obtain ⟨b, l₁, hb, N₁, l₂, hs, hR⟩ := z; exact ⟨b, l₂, hb, N₁.sub hs, hR⟩
      | next => exact z.elim
      | brk => exact z.elim
      | cont => exact z.elim
theorem CK.fn {f : Addr} {fd : FuncData} {body : List Stmt} {names : List (Str × NameKind)} {args : List AV} (hF : FnOk G f fd body names) (hroom : A.depth < recursionLimit)
    (hbind : ∀ vs, AllIs args vs → Tr G A.in1 (bindArgs fd ⟨vs, []⟩) BRel l (fun bs l₁ => (bs.map fun p => p.1).Nodup ∧ BKind names bs ∧ ∃ vals ci, Init bs names vals ∧ CInit bs (cellKeys names []) ci ∧
      ∀ L cl env A', cl.map (fun p : Str × Addr => p.1) = cellKeys names [] → EnvOk env names L cl → A' = A.deeper env → env.code = fd.code → env.frame = some L → BB G A' env body ((L, .ns names vals) :: (cellLed cl ci ++ l₁)) (fun fl l₂ => ∃ l₃, Sub l₃ l₂ ∧ R (retOf fl) l₃) noX) X) :
    CK G A (.ref f) args l R X := CK.fnX hF hroom fun vs hvs => (hbind vs hvs).mono (fun bs l₁ ⟨h1, h2, vals, ci, h3, h4, h5⟩ => ⟨h1, h2, vals, ci, h3, h4, fun L cl env A' a b c d e => Tr.mono (h5 L cl env A' a b c d e) (fun _ _ h => h) fun _ _ h => h.elim⟩) fun _ _ h => h
theorem CK.defV {f : Addr} {fd : FuncData} {body : List Stmt} {names : List (Str × NameKind)} {as rest : List AV} {bs : List Bind} {n : Nat} (hF : FnOk G f fd body names) (hroom : Room A (n + 1)) (xs : List Str) (va : Arg) {vals : Addr → List (Option AV)}
    (hl : Zip xs as bs) (hb : PlainBind fd xs (some va.arg)) (hva : fd.params.vararg = some va) (hrest : rest.length < 1000000) (hck : cellKeys names [] = []) (hnd : (xs ++ [va.arg]).Nodup)
    (hk : ∀ t, BKind names (bs ++ [(va.arg, .ref t)])) (hi : ∀ t, Init (bs ++ [(va.arg, .ref t)]) names (vals t))
    (h : ∀ t L env A', EnvOk env names L [] → Room A' n → InFr A A' env fd.code L → BB G A' env body ((L, .ns names (vals t)) :: (t, .tuple rest) :: l) (fun fl l₂ => ∃ l₃, Sub l₃ l₂ ∧ R (retOf fl) l₃) noX) :
    CK G A (.ref f) (as ++ rest) l R X := by
  obtain ⟨rfl, hl'⟩ := hl.zip
  refine CK.fn hF hroom.call fun vs hvs s N => ?_
  have hlen := hvs.length
  rw [bind_var hb.h1 hb.h2 hb.h3 hva hb.h5 hb.h6 hb.hn (by rw [List.length_append] at hlen; omega)]
  have hz : (vs.drop xs.length).length = rest.length := by rw [List.length_drop, ← hlen, List.length_append]; omega
  unfold newTuple
  refine wpAny_bind (wpAny_newObj_type ?_ (by show (vs.drop xs.length).toArray.size ≤ sizeLine; rw [List.size_toArray, hz]; exact Nat.le_trans (Nat.le_of_lt hrest) (by decide)))
  have hr : AllIs rest (vs.drop xs.length) := by
    have := hvs.drop xs.length
    rwa [hl', List.drop_left, ← hl'] at this
  have N₁ := N.push (o := { cls := .type "tuple", data := .seq (vs.drop xs.length).toArray }) (ao := .tuple rest) rfl (PL.m1_1 _ (Heap.get?_push_size _ rfl) hr)
  have hz1 : AllIs as (vs.take xs.length) := by
    have := hvs.take xs.length
    rwa [hl', List.take_left, ← hl'] at this
  have ez : xs.zip vs = xs.zip (vs.take xs.length) := by
    have h1 := zip_left xs (vs.take xs.length) (vs.drop xs.length) (by rw [← hz1.length, hl'])
    rw [List.take_append_drop] at h1
    exact h1
  refine wpAny_pure ⟨xs.zip as ++ [(va.arg, .ref s.heap.objs.size)], _, ?_, N₁, ?_, hk _, vals _, [], hi _, ?_, fun L cl env A' hcl hE hA h1 h2 => ?_⟩
  · rw [ez]; exact (BRel.zip hz1).append (.one ⟨rfl, rfl⟩)
  · rw [List.map_append, List.map_fst_zip (by omega)]; exact hnd
  · rw [hck]; exact .nil
  · rw [hck] at hcl
    match cl, hcl with
    | [], _ => exact h _ L env A' hE (by subst hA; exact hroom.deeper) ⟨h1, h2, hA⟩
theorem GAt.meth {K : Frag} {C x dx f : Addr} {kvs : List (Str × AV)} {name : Str} (hK : K.In G.t) (hg : plainGet K C name = true) (hh : hasDictIn K C = true) (ha : findIn K (.ref C) name = some (some (.ref f))) (hf : typeIn K (.ref f) = some (.type "function"))
    (hgf : specialIn K (.ref f) "__get__" = some (some (.builtin "function.__get__"))) (ht : takesIn K (.ref f) = some false) (hc : copiedNames.contains name = false) (h1 : (x, .inst C dx) ∈ l) (h2 : (dx, .idct kvs) ∈ l) (hl : kvs.lookup name = none)
    (h : ∀ b, R (.ref b) ((b, .fields "method" [.ref f, .ref x]) :: l)) : GAt G A name (.ref x) l R X := fun v hv s N => by
  cases hv
  (refine PL.x2_2 (instAt N h1 h2) ?_; rintro es n I hr _)
  have X' := hK.keeps N.keep
  refine get_bind X' I (plainGet_of hg).1 (findObj_fn hh ha hgf ht hc (by show lookIn name (dictOf es n) = _; rw [lookIn_dict, getL_none hr hl])) (plainGet_of hg).2
    (wpAny_call (fn_get (s := { s with toks := s.toks + 1 }) X' hf (handed_on rfl ⟨.ref s.heap.objs.size, _, rfl, ?_, h _⟩)))
  exact (N.toks (s.toks + 1)).push (o := methodObj (.ref f) (.ref x)) (ao := .fields "method" [.ref f, .ref x]) rfl (PL.m1_1 _ (Heap.get?_push_size _ rfl) (.cons rfl (.one rfl)))
theorem callWith_starM {b g x : Addr} {pos : Pos} {t : Sem Value} {u : Sem Value} {o : Obj} {fd : FuncData} (ho : G.t.get? g = some o) (hd : o.data = .func fd)
    (h : Tr G A t AV.Is l (fun a l₁ => Tr G A u AV.Is l₁ (fun c l₂ => ∃ p xs l₃, c = .ref p ∧ Pick (p, .list xs) l₂ l₃ ∧ xs.length < 1000000 ∧ (b, .fields "method" [.ref g, .ref x]) ∈ l₂ ∧ CK G A (.ref g) (.ref x :: (a :: xs)) l₂ R X) X) X) :
    Tr G A (callWith pos (.ref b) [] [(false, t), (true, do let v ← u; standAt pos; pure v)] []) AV.Is l R X := fun s N => by
  refine ks_call (P := fun h => h.get? b = some (methodObj (.ref g) (.ref x)) ∧ ∀ b o, G.t.get? b = some o → h.get? b = some o) rfl (fun h hh => ?_) (evalArgs_plain ?_)
  · refine (PL.m1_1 (.boundFrame) (.inr (.inr rfl)) ((Looks.ld (part := none) hh.1).andThen ?_))
    refine (Looks.ld (part := none) (hh.2 _ _ ho)).andThen ?_
    rw [hd]
    exact .now
  refine spliced_cons (wpAny_mono (h s N) (fun v s₁ ⟨a, l₁, ha, N₁, h₁⟩ => ?_) fun _ _ y => y)
  refine ks_spliced (wpAny_mono (h₁ s₁ N₁) (fun w s₂ ⟨c, l₂, hb, N₂, p, xs, l₃, e, hp, hz, hm, h₂⟩ => ?_) fun _ _ y => y)
  subst e
  cases hb
  (refine PL.x1_1 (N₂.at hp) ?_; rintro ws ⟨n, hl⟩ hw)
  have hlen : ws.size = xs.length := by rw [← Array.length_toList, ← hw.length]
  have hT : s₂.TypeIs (.ref p) "list" := (PL.m1_1 _ hl rfl)
  unfold StarOf notIterableAtAll
  refine wpAny_bind (wpAny_specialOf hT PySem.F.slot_list_iter.lookup (wpAny_pure ⟨rfl, ?_⟩))
  refine wpAny_collect_seq p (T := "list") (.inl rfl) hl rfl rfl (fun h' hk' => ?_) (by rw [hlen]; exact Nat.le_trans (Nat.le_of_lt hz) (by decide))
  refine spliced_nil ?_
  have N₃ : Rep G { s₂ with heap := h' } l₂ := N₂.ext (tk := s₂.toks) hk'
  (refine PL.x1_1 (N₃.atM hm) ?_; rintro fs hfo hfa)
  (refine PL.x2_2 (get2 hfa) ?_; rintro v1 v2 rfl e1 e2)
  cases e1; cases e2
  refine ⟨⟨hfo, N₃.keep⟩, wpAny_call (ks_codeAny_call_bound hfo ?_)⟩
  exact h₂ (.ref g) _ rfl (.cons rfl (.cons ha (by simpa using hw))) _ N₃
theorem EE.mcallM {o e1 e2 : Expr} {name : Str} {apos pos sp : Pos} (h : EE G A env o l (fun a l₁ => GAt G A name a l₁ (fun f l₂ => ∃ b g x o fd, f = .ref b ∧ G.t.get? g = some o ∧ o.data = .func fd ∧ EE G A env e1 l₂ (fun y l₃ => EE G A env e2 l₃ (fun c l₄ => ∃ p xs l₅, c = .ref p ∧ Pick (p, .list xs) l₄ l₅ ∧ xs.length < 1000000 ∧ (b, .fields "method" [.ref g, .ref x]) ∈ l₄ ∧ CK G A (.ref g) (.ref x :: (y :: xs)) l₄ R X) X) X) X) X)
    (hs : backTo pos (starEach [e1, .Starred e2 sp] env) = [(false, eval e1 env), (true, do let v ← eval e2 env; standAt pos; pure v)] := by with_unfolding_all rfl)
    (he : eval (.Call (.Attribute o name apos) [e1, .Starred e2 sp] [] pos) env = (do
      let ov ← eval o env
      standAt apos.atName
      let (f, first) ← holding [ov] (do pure (← getAttr ov name true, []))
      callWith pos f first (backTo pos (starEach [e1, .Starred e2 sp] env)) (backToKw pos (keywordEach [] env))) := by with_unfolding_all rfl) :
    EE G A env (.Call (.Attribute o name apos) [e1, .Starred e2 sp] [] pos) l R X := fun s N => by
  rw [he]
  refine wpAny_bind (wpAny_mono (h s N) (fun ov s₁ ⟨a, l₁, ha, N₁, h₁⟩ => wpAny_bind (wpAny_standAt (wpAny_bind (wpAny_holding (wpAny_bind (wpAny_mono (h₁ ov ha s₁ N₁) (fun fv s₂ ⟨f, l₂, hf, N₂, b, g, x, o, fd, e, ho, hd, h₂⟩ => wpAny_pure ?_) fun _ _ y => y)))))) fun _ _ y => y)
  subst e
  cases hf
  rw [hs]
  exact callWith_starM ho hd h₂ s₂ N₂
end
end PL
end
section
open PySem PySem.Calls PyProof.Rows PySem.W
set_option autoImplicit false
set_option linter.unusedVariables false
set_option maxRecDepth 100000
set_option maxHeartbeats 0
namespace PL
/-! the globs that a script picks from a menu -/
noncomputable def mAt (M : List Str) (x : Int) : Str := M.getD (x.fmod M.length).toNat (Str.ofString "")
noncomputable def addG (M : List Str) (gs : List Str) (x : Int) : List Str := if (!gs.contains (mAt M x)) = true then gs ++ [mAt M x] else gs
noncomputable def globsOf (M : List Str) (xs : List Int) : List Str := xs.foldl (addG M) []
theorem mAt_get {M : List Str} (h : M ≠ []) (x : Int) : M[(x.fmod M.length).toNat]? = some (mAt M x) ∧ 0 ≤ x.fmod M.length := by
  have hp : (0 : Int) < M.length := by
    have : 0 < M.length := List.length_pos_iff.mpr h
    omega
  have h1 : 0 ≤ x.fmod M.length := Int.fmod_nonneg_of_pos x hp
  have h2 : x.fmod M.length < M.length := Int.fmod_lt_of_pos x hp
  have h3 : (x.fmod M.length).toNat < M.length := by omega
  refine ⟨?_, h1⟩
  unfold mAt
  rw [List.getD_eq_getElem?_getD, List.getElem?_eq_getElem h3]
  rfl
theorem mAt_mem {M : List Str} (h : M ≠ []) (x : Int) : mAt M x ∈ M := List.mem_of_getElem? (mAt_get h x).1
theorem globs_facts {M : List Str} (h : M ≠ []) : ∀ (xs : List Int) (gs : List Str), gs.Nodup → (∀ g ∈ gs, g ∈ M) → (xs.foldl (addG M) gs).Nodup ∧ (∀ g ∈ xs.foldl (addG M) gs, g ∈ M) ∧ (xs.foldl (addG M) gs).length ≤ gs.length + xs.length
  | [], gs, h1, h2 => (PL.m0_2 h1 h2 (Nat.le_refl _))
  | x :: xs, gs, h1, h2 => by
    have h3 : (addG M gs x).Nodup ∧ (∀ g ∈ addG M gs x, g ∈ M) ∧ (addG M gs x).length ≤ gs.length + 1 := by
      unfold addG
      split
      · rename_i hc
        refine (PL.m0_2 ?_ ?_ (by simp))
        · rw [List.nodup_append]
          refine (PL.m0_2 h1 (by simp) (fun a ha b hb e => ?_))
          simp only [List.mem_singleton] at hb
          subst hb; subst e
          simp [ha] at hc
        · intro g hg
          rcases List.mem_append.mp hg with hg | hg
          · exact h2 g hg
          · simp only [List.mem_singleton] at hg
            subst hg; exact mAt_mem h x
      · exact (PL.m0_2 h1 h2 (Nat.le_succ _))
    (refine PL.x0_2 (globs_facts h xs (addG M gs x) h3.1 h3.2.1) ?_; rintro a b c)
    refine (PL.m0_2 a b ?_)
    simp only [List.foldl_cons, List.length_cons]
    omega
end PL
end
section
open PySem PySem.Calls PyProof.Rows PySem.W
set_option autoImplicit false
set_option linter.unusedVariables false
set_option maxRecDepth 100000
set_option maxHeartbeats 0
namespace PL
/-! the plain law of the run: the sorter's graph, its counts, its order -/
noncomputable def ndAt (g : List Nd) (y : Str) : Option Nd := g.find? fun n => decide (n.name = y)
theorem npOf_at (g : List Nd) (y : Str) : npOf g y = ((ndAt g y).map Nd.np).getD 1 := rfl
theorem succOf_at (g : List Nd) (y : Str) : succOf g y = ((ndAt g y).map Nd.succ).getD [] := rfl
theorem ndAt_name {g : List Nd} {y : Str} {n : Nd} (h : ndAt g y = some n) : n.name = y := by
  have := List.find?_some h
  simpa using this
theorem mem_at {g : List Nd} {y : Str} : y ∈ names g ↔ (ndAt g y).isSome = true := by
  unfold names ndAt
  rw [List.find?_isSome]
  simp [List.mem_map]
theorem ndAt_upd (g : List Nd) (x : Str) (f : Nd → Nd) (hf : ∀ n, (f n).name = n.name) (y : Str) : ndAt (updN g x f) y = (ndAt g y).map fun n => if n.name = x then f n else n := by
  unfold ndAt updN
  rw [List.find?_map]
  congr 1
  congr 1
  funext n
  show decide ((if n.name = x then f n else n).name = y) = _
  split
  · rw [hf]
  · rfl
theorem ndAt_get (g : List Nd) (x y : Str) : ndAt (getN g x) y = if y = x ∧ x ∉ names g then some ⟨x, 0, []⟩ else ndAt g y := by
  unfold getN
  by_cases hx : x ∈ names g
  · rw [if_pos hx, if_neg (fun h => h.2 hx)]
  · rw [if_neg hx]
    unfold ndAt
    rw [List.find?_append]
    by_cases hy : y = x
    · subst hy
      rw [if_pos ⟨rfl, hx⟩]
      have : (g.find? fun n => decide (n.name = y)) = none := by
        have h2 : (ndAt g y).isSome = false := by
          cases h : (ndAt g y).isSome with
          | false => rfl
          | true => exact absurd (mem_at.mpr h) hx
        simpa [ndAt] using h2
      rw [this]
      simp
    · rw [if_neg fun h => hy h.1]
      have : ([(⟨x, 0, []⟩ : Nd)].find? fun n => decide (n.name = y)) = none := by
        simp only [List.find?_cons, List.find?_nil]
        rw [decide_eq_false (fun e => hy e.symm)]
      rw [this]
      simp
/-- the counts and the successors, 0 and none where there is no node -/
noncomputable def np0 (g : List Nd) (y : Str) : Int := ((ndAt g y).map Nd.np).getD 0
theorem npOf_np0 {g : List Nd} {y : Str} (h : y ∈ names g) : npOf g y = np0 g y := by
  rw [npOf_at, np0]
  obtain ⟨n, hn⟩ := Option.isSome_iff_exists.mp (mem_at.mp h)
  rw [hn]; rfl
theorem none_at {g : List Nd} {x : Str} (h : x ∉ names g) : ndAt g x = none := by
  cases hn : ndAt g x with
  | none => rfl
  | some n => exact absurd (mem_at.mpr (by rw [hn]; rfl)) h
theorem np0_get (g : List Nd) (x y : Str) : np0 (getN g x) y = np0 g y := by
  unfold np0
  rw [ndAt_get]
  split
  · rename_i h
    rw [h.1, none_at h.2]; rfl
  · rfl
theorem su_get (g : List Nd) (x y : Str) : succOf (getN g x) y = succOf g y := by
  rw [succOf_at, succOf_at, ndAt_get]
  split
  · rename_i h
    rw [h.1, none_at h.2]; rfl
  · rfl
theorem np0_upd_np (g : List Nd) (x : Str) (φ : Int → Int) (y : Str) : np0 (updN g x fun n => { n with np := φ n.np }) y = if y = x ∧ y ∈ names g then φ (np0 g y) else np0 g y := by
  unfold np0
  rw [ndAt_upd g x (fun n => { n with np := φ n.np }) (fun _ => rfl)]
  cases hn : ndAt g y with
  | none =>
    rw [if_neg]
    · rfl
    · intro h
      have := mem_at.mp h.2
      rw [hn] at this; cases this
  | some n =>
    have e := ndAt_name hn
    have hm : y ∈ names g := mem_at.mpr (by rw [hn]; rfl)
    by_cases hy : y = x
    · rw [if_pos ⟨hy, hm⟩]
      simp [e, hy]
    · rw [if_neg fun h => hy h.1]
      simp [e, hy]
theorem su_upd_np (g : List Nd) (x : Str) (φ : Int → Int) (y : Str) : succOf (updN g x fun n => { n with np := φ n.np }) y = succOf g y := by
  rw [succOf_at, succOf_at, ndAt_upd g x (fun n => { n with np := φ n.np }) (fun _ => rfl)]
  cases hn : ndAt g y with
  | none => rfl
  | some n =>
    simp only [Option.map_some]
    split <;> rfl
theorem np0_upd_su (g : List Nd) (x : Str) (φ : List Str → List Str) (y : Str) : np0 (updN g x fun n => { n with succ := φ n.succ }) y = np0 g y := by
  unfold np0
  rw [ndAt_upd g x (fun n => { n with succ := φ n.succ }) (fun _ => rfl)]
  cases hn : ndAt g y with
  | none => rfl
  | some n =>
    simp only [Option.map_some]
    split <;> rfl
theorem su_upd_su (g : List Nd) (x : Str) (φ : List Str → List Str) (y : Str) : succOf (updN g x fun n => { n with succ := φ n.succ }) y = if y = x ∧ y ∈ names g then φ (succOf g y) else succOf g y := by
  rw [succOf_at, succOf_at, ndAt_upd g x (fun n => { n with succ := φ n.succ }) (fun _ => rfl)]
  cases hn : ndAt g y with
  | none =>
    rw [if_neg]
    · rfl
    · intro h
      have := mem_at.mp h.2
      rw [hn] at this; cases this
  | some n =>
    have e := ndAt_name hn
    have hm : y ∈ names g := mem_at.mpr (by rw [hn]; rfl)
    by_cases hy : y = x
    · rw [if_pos ⟨hy, hm⟩]
      simp [e, hy]
    · rw [if_neg fun h => hy h.1]
      simp [e, hy]
/-! adding -/
theorem np0_addE (x : Str) (g : List Nd) (p y : Str) : np0 (addE x g p) y = np0 g y := by
  unfold addE; rw [np0_upd_su _ _ (fun s => s ++ [x]), np0_get]
theorem su_addE (x : Str) (g : List Nd) (p y : Str) : succOf (addE x g p) y = succOf g y ++ if y = p then [x] else [] := by
  unfold addE
  rw [su_upd_su _ _ (fun s => s ++ [x]), su_get]
  by_cases hy : y = p
  · subst hy
    rw [if_pos ⟨rfl, mem_get _ _⟩, if_pos rfl]
  · rw [if_neg fun h => hy h.1, if_neg hy, List.append_nil]
theorem mem_addE (x : Str) (g : List Nd) (p y : Str) : y ∈ names (addE x g p) ↔ y ∈ names g ∨ y = p := by
  rw [names_addE, names_get]
  split
  · rename_i h
    exact ⟨.inl, fun h' => h'.elim id fun e => e ▸ h⟩
  · simp
theorem fold_addE (x : Str) : ∀ (ps : List Str) (g : List Nd) (y : Str), ps.Nodup → np0 (ps.foldl (addE x) g) y = np0 g y ∧ succOf (ps.foldl (addE x) g) y = succOf g y ++ (if y ∈ ps then [x] else []) ∧ (y ∈ names (ps.foldl (addE x) g) ↔ y ∈ names g ∨ y ∈ ps)
  | [], g, y, _ => (PL.m0_2 rfl (by simp) (by simp))
  | p :: ps, g, y, hd => by
    obtain ⟨hp, hd⟩ := List.nodup_cons.mp hd
    (refine PL.x0_2 (fold_addE x ps (addE x g p) y hd) ?_; rintro h1 h2 h3)
    simp only [List.foldl_cons]
    refine (PL.m0_2 (by rw [h1, np0_addE]) ?_ ?_)
    · rw [h2, su_addE]
      by_cases e : y = p
      · subst e
        rw [if_pos rfl, if_neg hp, if_pos List.mem_cons_self, List.append_nil]
      · rw [if_neg e, List.append_nil]
        simp [List.mem_cons, e]
    · rw [h3, mem_addE, List.mem_cons, or_assoc]
theorem addS_facts (g : List Nd) (x : Str) (ps : List Str) (y : Str) (hd : ps.Nodup) : np0 (addS g x ps) y = np0 g y + (if y = x then (ps.length : Int) else 0) ∧ succOf (addS g x ps) y = succOf g y ++ (if y ∈ ps then [x] else []) ∧ (y ∈ names (addS g x ps) ↔ y ∈ names g ∨ y = x ∨ y ∈ ps) := by
  (refine PL.x0_2 (fold_addE x ps (updN (getN g x) x fun n => { n with np := n.np + ps.length }) y hd) ?_; rintro h1 h2 h3)
  unfold addS
  refine (PL.m0_2 ?_ ?_ ?_)
  · rw [h1, np0_upd_np _ _ (fun i => i + ps.length), np0_get]
    by_cases e : y = x
    · subst e
      rw [if_pos ⟨rfl, mem_get _ _⟩, if_pos rfl]
    · rw [if_neg fun h => e h.1, if_neg e, Int.add_zero]
  · rw [h2, su_upd_np _ _ (fun i => i + ps.length), su_get]
  · rw [h3, names_upd (getN g x) x (fun n => { n with np := n.np + ps.length }) (fun _ => rfl), names_get]
    split
    · rename_i h
      constructor
      · exact fun h' => h'.elim .inl fun q => .inr (.inr q)
      · exact fun h' => h'.elim .inl fun q => q.elim (fun e => .inl (e ▸ h)) .inr
    · simp [or_assoc]
/-! handing out, finishing -/
theorem outS_facts : ∀ (ys : List Str) (g : List Nd), names (outS g ys) = names g ∧ (∀ y, succOf (outS g ys) y = succOf g y) ∧ ∀ y, y ∈ names g → np0 (outS g ys) y = if y ∈ ys then -1 else np0 g y
  | [], g => (PL.m0_2 rfl (fun _ => rfl) (fun _ _ => by simp [outS]))
  | x :: ys, g => by
    (refine PL.x0_2 (outS_facts ys (updN g x fun n => { n with np := -1 })) ?_; rintro h1 h2 h3)
    have e0 : names (updN g x fun n => { n with np := -1 }) = names g := names_upd g x (fun n => { n with np := -1 }) (fun _ => rfl)
    have e : outS g (x :: ys) = outS (updN g x fun n => { n with np := -1 }) ys := rfl
    rw [e]
    refine (PL.m0_2 (by rw [h1, e0]) (fun y => by rw [h2, su_upd_np g x (fun _ => -1)]) (fun y hy => ?_))
    rw [h3 y (by rw [e0]; exact hy), np0_upd_np g x (fun _ => -1)]
    by_cases q : y ∈ ys
    · rw [if_pos q, if_pos (List.mem_cons_of_mem _ q)]
    · rw [if_neg q]
      by_cases e : y = x
      · rw [if_pos ⟨e, hy⟩, if_pos (by rw [e]; exact List.mem_cons_self)]
      · rw [if_neg fun h => e h.1, if_neg]
        intro h
        rcases List.mem_cons.mp h with h | h
        · exact e h
        · exact q h
theorem dec_facts : ∀ (S : List Str) (g : List Nd) (ys : List Str), S.Nodup → (∀ s ∈ S, s ∈ names g) → names (S.foldl decS (g, ys)).1 = names g ∧ (∀ y, succOf (S.foldl decS (g, ys)).1 y = succOf g y) ∧
    (∀ y ∈ names g, np0 (S.foldl decS (g, ys)).1 y = np0 g y - if y ∈ S then 1 else 0) ∧ (S.foldl decS (g, ys)).2 = ys ++ S.filter fun s => decide (np0 g s = 1)
  | [], g, ys, _, _ => (PL.m0_3 rfl (fun _ => rfl) (fun _ _ => by simp) (by simp))
  | s :: S, g, ys, hd, hm => by
    obtain ⟨hs, hd⟩ := List.nodup_cons.mp hd
    have e0 : names (updN g s fun n => { n with np := n.np - 1 }) = names g := names_upd g s (fun n => { n with np := n.np - 1 }) (fun _ => rfl)
    have hsg : s ∈ names g := hm s List.mem_cons_self
    (refine PL.x0_3 (dec_facts S (updN g s fun n => { n with np := n.np - 1 }) (if npOf g s - 1 = 0 then ys ++ [s] else ys) hd (fun t ht => by rw [e0]; exact hm t (List.mem_cons_of_mem _ ht))) ?_; rintro h1 h2 h3 h4)
    have e : (s :: S).foldl decS (g, ys) = S.foldl decS (updN g s fun n => { n with np := n.np - 1 }, if npOf g s - 1 = 0 then ys ++ [s] else ys) := rfl
    rw [e]
    refine (PL.m0_3 (by rw [h1, e0]) (fun y => by rw [h2, su_upd_np g s (fun i => i - 1)]) (fun y hy => ?_) ?_)
    · rw [h3 y (by rw [e0]; exact hy), np0_upd_np g s (fun i => i - 1)]
      by_cases e : y = s
      · subst e
        rw [if_pos ⟨rfl, hy⟩, if_neg hs, if_pos List.mem_cons_self]
        omega
      · rw [if_neg fun h => e h.1]
        congr 1
        by_cases q : y ∈ S
        · rw [if_pos q, if_pos (List.mem_cons_of_mem _ q)]
        · rw [if_neg q, if_neg]
          intro h
          rcases List.mem_cons.mp h with h | h
          · exact e h
          · exact q h
    · rw [h4, List.filter_cons]
      have hf : (S.filter fun t => decide (np0 (updN g s fun n => { n with np := n.np - 1 }) t = 1)) = S.filter fun t => decide (np0 g t = 1) := by
        apply List.filter_congr
        intro t ht
        rw [np0_upd_np g s (fun i => i - 1), if_neg]
        intro h
        exact hs (h.1 ▸ ht)
      rw [hf, npOf_np0 hsg]
      by_cases q : np0 g s = 1
      · rw [if_pos (by omega), if_pos (decide_eq_true q), List.append_assoc]; rfl
      · rw [if_neg (by omega), if_neg (by simpa using q)]
theorem doneS_facts {g : List Nd} {ys : List Str} {m : Str} (hd : (succOf g m).Nodup) (hs : ∀ s ∈ succOf g m, s ∈ names g) : names (doneS (g, ys) m).1 = names g ∧ (∀ y, succOf (doneS (g, ys) m).1 y = succOf g y) ∧
    (∀ y ∈ names g, np0 (doneS (g, ys) m).1 y = (if y = m then -2 else np0 g y) - if y ∈ succOf g m then 1 else 0) ∧ (doneS (g, ys) m).2 = ys ++ (succOf g m).filter fun s => decide ((if s = m then -2 else np0 g s) = 1) := by
  have e0 : names (updN g m fun n => { n with np := -2 }) = names g := names_upd g m (fun n => { n with np := -2 }) (fun _ => rfl)
  have en : ∀ y ∈ names g, np0 (updN g m fun n => { n with np := -2 }) y = if y = m then -2 else np0 g y := fun y hy => by
    rw [np0_upd_np g m (fun _ => -2)]
    by_cases e : y = m
    · rw [if_pos ⟨e, hy⟩, if_pos e]
    · rw [if_neg fun h => e h.1, if_neg e]
  (refine PL.x0_3 (dec_facts (succOf g m) (updN g m fun n => { n with np := -2 }) ys hd (fun s hs' => by rw [e0]; exact hs s hs')) ?_; rintro h1 h2 h3 h4)
  have e : doneS (g, ys) m = (succOf g m).foldl decS (updN g m fun n => { n with np := -2 }, ys) := rfl
  rw [e]
  refine (PL.m0_3 (by rw [h1, e0]) (fun y => by rw [h2, su_upd_np g m (fun _ => -2)]) (fun y hy => ?_) ?_)
  · rw [h3 y (by rw [e0]; exact hy), en y hy]
  · rw [h4]
    congr 1
    apply List.filter_congr
    intro s hs'
    rw [en s (hs s hs')]
/-! the whole graph -/
theorem nodup_prd {P : List GO} (h : (P.map (·.1)).Nodup) (own : List Str) : (prdP P own).Nodup := by
  unfold prdP
  exact h.sublist (List.filter_sublist.map _)
theorem addAll_gen {P : List GO} (hP : (P.map (·.1)).Nodup) : ∀ (Q : List GO) (g : List Nd), (Q.map (·.1)).Nodup → (∀ t ∈ Q, np0 (Q.foldl (fun g t => addS g t.1 (prdP P t.2)) g) t.1 = np0 g t.1 + (prdP P t.2).length) ∧ (∀ y, y ∉ Q.map (·.1) → np0 (Q.foldl (fun g t => addS g t.1 (prdP P t.2)) g) y = np0 g y) ∧
    (∀ y, succOf (Q.foldl (fun g t => addS g t.1 (prdP P t.2)) g) y = succOf g y ++ (Q.filter fun t => decide (y ∈ prdP P t.2)).map (·.1)) ∧ (∀ y, y ∈ names (Q.foldl (fun g t => addS g t.1 (prdP P t.2)) g) ↔ y ∈ names g ∨ y ∈ Q.map (·.1) ∨ ∃ t ∈ Q, y ∈ prdP P t.2)
  | [], g, _ => (PL.m0_3 ((fun t ht => by cases ht)) ((fun _ _ => rfl)) ((fun y => by simp)) ((fun y => by simp)))
  | q :: Q, g, hd => by
    rw [List.map_cons, List.nodup_cons] at hd
    (refine PL.x0_3 (addAll_gen hP Q (addS g q.1 (prdP P q.2)) hd.2) ?_; rintro h1 h2 h3 h4)
    have hf := fun y => addS_facts g q.1 (prdP P q.2) y (nodup_prd hP _)
    simp only [List.foldl_cons]
    refine (PL.m0_3 (fun t ht => ?_) (fun y hy => ?_) (fun y => ?_) (fun y => ?_))
    · rcases List.mem_cons.mp ht with rfl | ht
      · rw [h2 _ hd.1, (hf _).1, if_pos rfl]
      · rw [h1 t ht, (hf _).1, if_neg, Int.add_zero]
        intro e
        exact hd.1 (e ▸ List.mem_map.mpr (PL.m1_1 t ht rfl))
    · rw [List.map_cons, List.mem_cons, not_or] at hy
      rw [h2 y hy.2, (hf _).1, if_neg hy.1, Int.add_zero]
    · rw [h3, (hf _).2.1, List.filter_cons, List.append_assoc]
      by_cases e : y ∈ prdP P q.2
      · rw [if_pos e, if_pos (decide_eq_true e)]; rfl
      · rw [if_neg e, if_neg (by simpa using e)]; rfl
    · rw [h4, (hf _).2.2, List.map_cons, List.mem_cons]
      constructor
      · rintro ((h | h | h) | h | ⟨t, ht, h⟩)
        · exact .inl h
        · exact .inr (.inl (.inl h))
        · exact .inr (.inr (PL.m1_1 q List.mem_cons_self h))
        · exact .inr (.inl (.inr h))
        · exact .inr (.inr (PL.m1_1 t (List.mem_cons_of_mem _ ht) h))
      · rintro (h | (h | h) | ⟨t, ht, h⟩)
        · exact .inl (.inl h)
        · exact .inl (.inr (.inl h))
        · exact .inr (.inl h)
        · rcases List.mem_cons.mp ht with rfl | ht
          · exact .inl (.inr (.inr h))
          · exact .inr (.inr (PL.m1_1 t ht h))
end PL
end
section
open PySem PySem.Calls PyProof.Rows PySem.W
set_option autoImplicit false
set_option linter.unusedVariables false
set_option maxRecDepth 100000
set_option maxHeartbeats 0
namespace PL
/-! the greedy order, and that the run keeps it -/
noncomputable def Pr (P : List GO) (z y : Str) : Prop := ∃ o ∈ P, ∃ t ∈ P, o.1 = z ∧ t.1 = y ∧ narrow o.2 t.2 = true
noncomputable def suP (P : List GO) (y : Str) : List Str := (P.filter fun t => decide (y ∈ prdP P t.2)).map (·.1)
noncomputable def leftP (P : List GO) (dl : List Str) : List GO := P.filter fun t => !dl.contains t.1
noncomputable def candP (P : List GO) (dl : List Str) : List Str := ((leftP P dl).filter fun t => ((leftP P dl).filter fun o => narrow o.2 t.2) == []).map (·.1)
noncomputable def Av (P : List GO) (dl : List Str) (y : Str) : Prop := y ∈ P.map (·.1) ∧ y ∉ dl ∧ ∀ z, Pr P z y → z ∈ dl
inductive DueP (P : List GO) : List Str → Prop where
  | zero : DueP P []
  | succ {dl : List Str} {m : Str} : DueP P dl → m ∈ candP P dl → (∀ b ∈ candP P dl, HP.slt b m = false) → DueP P (dl ++ [m])
noncomputable def Rank (P : List GO) : Prop := ∀ a ∈ P, ∀ b ∈ P, narrow a.2 b.2 = true → a.2.length < b.2.length
section
variable {P : List GO}
theorem uniqP (hn : (P.map (·.1)).Nodup) {t t' : GO} (h : t ∈ P) (h' : t' ∈ P) (e : t.1 = t'.1) : t = t' := by
  induction P with
  | nil => cases h
  | cons q P ih =>
    rw [List.map_cons, List.nodup_cons] at hn
    rcases List.mem_cons.mp h with rfl | h1 <;> rcases List.mem_cons.mp h' with rfl | h2
    · rfl
    · exact absurd (List.mem_map.mpr (PL.m1_1 t' h2 e.symm)) hn.1
    · exact absurd (List.mem_map.mpr (PL.m1_1 t h1 e)) hn.1
    · exact ih hn.2 h1 h2
theorem mem_prd (hn : (P.map (·.1)).Nodup) {t : GO} (h : t ∈ P) (z : Str) : z ∈ prdP P t.2 ↔ Pr P z t.1 := by
  unfold prdP Pr
  rw [List.mem_map]
  constructor
  · (refine PL.j1_1 ?_; rintro o ho rfl)
    rw [List.mem_filter] at ho
    exact ⟨o, ho.1, t, h, rfl, rfl, ho.2⟩
  · rintro ⟨o, ho, t', ht', rfl, e, hnw⟩
    rw [uniqP hn ht' h e] at hnw
    exact (PL.m1_1 o (List.mem_filter.mpr ⟨ho, hnw⟩) rfl)
theorem mem_su (hn : (P.map (·.1)).Nodup) (m x : Str) : x ∈ suP P m ↔ Pr P m x := by
  unfold suP
  rw [List.mem_map]
  constructor
  · (refine PL.j1_1 ?_; rintro t ht rfl)
    rw [List.mem_filter] at ht
    exact (mem_prd hn ht.1 m).mp (of_decide_eq_true ht.2)
  · rintro ⟨o, ho, t, ht, rfl, rfl, hnw⟩
    exact (PL.m1_1 t (List.mem_filter.mpr ⟨ht, decide_eq_true ((mem_prd hn ht _).mpr ⟨o, ho, t, ht, rfl, rfl, hnw⟩)⟩) rfl)
theorem nodup_su (hn : (P.map (·.1)).Nodup) (m : Str) : (suP P m).Nodup := hn.sublist (List.filter_sublist.map _)
theorem Pr.mem {z y : Str} (h : Pr P z y) : z ∈ P.map (·.1) ∧ y ∈ P.map (·.1) := by
  obtain ⟨o, ho, t, ht, rfl, rfl, _⟩ := h
  exact ⟨List.mem_map.mpr (PL.m1_1 o ho rfl), List.mem_map.mpr (PL.m1_1 t ht rfl)⟩
theorem mem_cand (hn : (P.map (·.1)).Nodup) (dl : List Str) (y : Str) : y ∈ candP P dl ↔ Av P dl y := by
  unfold candP Av leftP
  rw [List.mem_map]
  constructor
  · (refine PL.j1_1 ?_; rintro t ht rfl)
    rw [List.mem_filter, List.mem_filter] at ht
    obtain ⟨⟨h1, h2⟩, h3⟩ := ht
    refine (PL.m0_2 (List.mem_map.mpr (PL.m1_1 t h1 rfl)) (by simpa using h2) (fun z hz => ?_))
    obtain ⟨o, ho, t', ht', rfl, e, hnw⟩ := hz
    rw [uniqP hn ht' h1 e] at hnw
    have h4 := (beq_iff_eq.mp h3)
    by_cases q : o.1 ∈ dl
    · exact q
    · have : o ∈ ((P.filter fun t => !dl.contains t.1).filter fun o => narrow o.2 t.2) := List.mem_filter.mpr ⟨List.mem_filter.mpr ⟨ho, by simpa using q⟩, hnw⟩
      rw [h4] at this; cases this
  · (refine PL.j0_2 ?_; rintro h1 h2 h3)
    (refine PL.x1_1 (List.mem_map.mp h1) ?_; rintro t ht rfl)
    refine (PL.m1_1 t (List.mem_filter.mpr ⟨List.mem_filter.mpr ⟨ht, by simpa using h2⟩, beq_iff_eq.mpr ?_⟩) rfl)
    rw [List.filter_eq_nil_iff]
    intro o ho hnw
    rw [List.mem_filter] at ho
    have := h3 o.1 ⟨o, ho.1, t, ht, rfl, rfl, hnw⟩
    simp [this] at ho
theorem DueP.facts (hn : (P.map (·.1)).Nodup) {dl : List Str} (h : DueP P dl) : dl.Nodup ∧ ∀ y ∈ dl, y ∈ P.map (·.1) ∧ ∀ z, Pr P z y → z ∈ dl := by
  induction h with
  | zero => exact ⟨List.nodup_nil, fun y hy => by cases hy⟩
  | @succ dl m _ hm _ ih =>
    (refine PL.x0_2 ((mem_cand hn dl m).mp hm) ?_; rintro a1 a2 a3)
    refine ⟨?_, fun y hy => ?_⟩
    · rw [List.nodup_append]
      refine (PL.m0_2 ih.1 (by simp) (fun a ha b hb e => ?_))
      simp only [List.mem_singleton] at hb
      exact a2 (by rw [← hb, ← e]; exact ha)
    · rcases List.mem_append.mp hy with hy | hy
      · exact ⟨(ih.2 y hy).1, fun z hz => List.mem_append_left _ ((ih.2 y hy).2 z hz)⟩
      · simp only [List.mem_singleton] at hy
        subst hy
        exact ⟨a1, fun z hz => List.mem_append_left _ (a3 z hz)⟩
theorem exists_least : ∀ (l : List GO), l ≠ [] → ∃ t ∈ l, ∀ o ∈ l, t.2.length ≤ o.2.length
  | [], h => absurd rfl h
  | [t], _ => (PL.m1_1 t List.mem_cons_self (fun o ho => by simp only [List.mem_singleton] at ho; rw [ho]; exact Nat.le_refl _))
  | t :: u :: l, _ => by
    (refine PL.x1_1 (exists_least (u :: l) (by simp)) ?_; rintro v hv hm)
    by_cases q : t.2.length ≤ v.2.length
    · refine (PL.m1_1 t List.mem_cons_self (fun o ho => ?_))
      rcases List.mem_cons.mp ho with rfl | ho
      · exact Nat.le_refl _
      · exact Nat.le_trans q (hm o ho)
    · refine (PL.m1_1 v (List.mem_cons_of_mem _ hv) (fun o ho => ?_))
      rcases List.mem_cons.mp ho with rfl | ho
      · omega
      · exact hm o ho
theorem candP_ne (hn : (P.map (·.1)).Nodup) (hr : Rank P) {dl : List Str} (h : DueP P dl) (hl : dl.length < P.length) : candP P dl ≠ [] := by
  have hne : leftP P dl ≠ [] := fun e => by
    have : ∀ x ∈ P.map (·.1), x ∈ dl := fun x hx => by
      (refine PL.x1_1 (List.mem_map.mp hx) ?_; rintro t ht rfl)
      by_cases q : t.1 ∈ dl
      · exact q
      · have : t ∈ leftP P dl := List.mem_filter.mpr ⟨ht, by simpa using q⟩
        rw [e] at this; cases this
    have := FC.nodup_len hn this
    rw [List.length_map] at this
    omega
  (refine PL.x1_1 (exists_least _ hne) ?_; rintro t ht hm)
  have ht' := List.mem_filter.mp ht
  intro e
  have hc : t.1 ∈ candP P dl := (mem_cand hn dl t.1).mpr (PL.m0_2 (List.mem_map.mpr (PL.m1_1 t ht'.1 rfl)) (by simpa using ht'.2) (fun z hz => by
    obtain ⟨o, ho, t', h2, rfl, e', hnw⟩ := hz
    rw [uniqP hn h2 ht'.1 e'] at hnw
    by_cases q : o.1 ∈ dl
    · exact q
    · have h3 := hm o (List.mem_filter.mpr ⟨ho, by simpa using q⟩)
      have h4 := hr o ho t ht'.1 hnw
      omega))
  rw [e] at hc; cases hc
theorem slt_eq {a b : Str} (h1 : HP.slt a b = false) (h2 : HP.slt b a = false) : a = b := by
  have h1' : ¬ a.cps.toList < b.cps.toList := of_decide_eq_false h1
  have h2' : ¬ b.cps.toList < a.cps.toList := of_decide_eq_false h2
  have e : a.cps.toList = b.cps.toList := List.le_antisymm h2' h1'
  cases a; cases b
  simp only [Str.mk.injEq]
  exact Array.toList_inj.mp e
theorem DueP.unique {a : List Str} (ha : DueP P a) : ∀ {b : List Str}, DueP P b → a.length = b.length → a = b := by
  induction ha with
  | zero => intro b _ e; exact (List.eq_nil_of_length_eq_zero e.symm).symm
  | @succ dl m _ hm hmin ih =>
    intro b hb e
    cases hb with
    | zero => simp at e
    | @succ dl' m' h' hm' hmin' =>
      have e1 : dl = dl' := ih h' (by simpa using e)
      subst e1
      rw [slt_eq (hmin' m hm) (hmin m' hm')]
/-! the states of the run -/
structure JS (P : List GO) (k : Nat) (g : List Nd) (ys hp ord : List Str) : Prop where
  nd : (names g).Nodup
  nm : ∀ y, y ∈ names g ↔ y ∈ P.map (·.1)
  su : ∀ y, succOf g y = suP P y
  due : DueP P ord
  len : ord.length = k
  np : ∀ t ∈ P, t.1 ∉ ord → t.1 ∉ hp → np0 g t.1 = (((prdP P t.2).filter fun z => decide (z ∉ ord)).length : Int)
  hpn : ∀ y ∈ hp, np0 g y = -1
  avn : (hp ++ ys).Nodup
  av : ∀ y, y ∈ hp ++ ys ↔ Av P ord y
theorem count_step {L ord : List Str} {m : Str} (hd : L.Nodup) (hm : m ∉ ord) : (L.filter fun z => decide (z ∉ ord)).length = (L.filter fun z => decide (z ∉ ord ++ [m])).length + if m ∈ L then 1 else 0 := by
  induction L with
  | nil => rfl
  | cons x L ih =>
    obtain ⟨hx, hd⟩ := List.nodup_cons.mp hd
    have ih := ih hd
    rw [List.filter_cons, List.filter_cons]
    by_cases e : x = m
    · subst e
      rw [if_neg hx] at ih
      rw [if_pos (decide_eq_true hm), if_neg (by simp), if_pos List.mem_cons_self]
      rw [List.length_cons]; omega
    · have e1 : (m ∈ x :: L) ↔ m ∈ L := ⟨fun h => (List.mem_cons.mp h).elim (fun q => absurd q.symm e) id, List.mem_cons_of_mem _⟩
      by_cases q : x ∈ ord
      · rw [if_neg (by simpa using q), if_neg (by simp [q]), ih]
        simp only [e1]
      · rw [if_pos (decide_eq_true q), if_pos (by simp [q, e]), List.length_cons, List.length_cons, ih]
        simp only [e1]
        omega
theorem only_one {L : List Str} {m : Str} (hd : L.Nodup) (hm : m ∈ L) (h : ∀ z ∈ L, z = m) : L.length = 1 := by
  have h1 := FC.nodup_len hd (m := [m]) (fun x hx => by rw [h x hx]; simp)
  have h2 := List.length_pos_of_mem hm
  simp at h1
  omega
theorem JS.step (hn : (P.map (·.1)).Nodup) (hr : Rank P) (hz : P.length ≤ 8) {k : Nat} {g : List Nd} {ys hp ord : List Str} (hk : k < P.length) (H : JS P k g ys hp ord) :
    (names g).Nodup ∧ (∀ y ∈ ys, y ∈ names g) ∧ ys.length < 900 ∧ hp.length < 900 ∧ ord.length < 900 ∧ ∀ hp' : List Str, hp'.Perm (hp ++ ys) → hp' ≠ [] ∧ ∀ m rest, (m :: rest).Perm hp' → (∀ b ∈ hp', HP.slt b m = false) →
    (names (outS g ys)).Nodup ∧ m ∈ names (outS g ys) ∧ npOf (outS g ys) m = -1 ∧ (∀ s ∈ succOf (outS g ys) m, s ∈ names (outS g ys)) ∧ (succOf (outS g ys) m).length < 900 ∧ ∀ g2 ys2, (g2, ys2) = doneS (outS g ys, []) m → JS P (k + 1) g2 ys2 rest (ord ++ [m]) := by
  have hav : ∀ y ∈ hp ++ ys, y ∈ P.map (·.1) := fun y hy => ((H.av y).mp hy).1
  have hlen := FC.nodup_len H.avn hav
  rw [List.length_append, List.length_map] at hlen
  (refine PL.x0_2 (outS_facts ys g) ?_; rintro o1 o2 o3)
  refine (PL.m0_5 H.nd (fun y hy => (H.nm y).mpr (hav y (List.mem_append_right _ hy))) (by omega) (by omega) (by have := H.len; omega) (fun hp' hpp => ⟨fun e => ?_, fun m rest hmr hmin => ?_⟩))
  · have hc := candP_ne hn hr H.due (by rw [H.len]; exact hk)
    obtain ⟨c, hcm⟩ := List.exists_mem_of_ne_nil _ hc
    have : c ∈ hp ++ ys := (H.av c).mpr ((mem_cand hn ord c).mp hcm)
    rw [← hpp.mem_iff, e] at this
    cases this
  · have hmh : m ∈ hp' := hmr.mem_iff.mp List.mem_cons_self
    have hma : m ∈ hp ++ ys := hpp.mem_iff.mp hmh
    (refine PL.x0_2 ((H.av m).mp hma) ?_; rintro m1 m2 m3)
    have hmg : m ∈ names g := (H.nm m).mpr m1
    have hg1 : ∀ y ∈ hp ++ ys, np0 (outS g ys) y = -1 := fun y hy => by
      rw [o3 y ((H.nm y).mpr (hav y hy))]
      by_cases q : y ∈ ys
      · rw [if_pos q]
      · rw [if_neg q]
        exact H.hpn y ((List.mem_append.mp hy).elim id fun h => absurd h q)
    have hsu : succOf (outS g ys) m = suP P m := by rw [o2, H.su]
    have hsn : ∀ s ∈ succOf (outS g ys) m, s ∈ names (outS g ys) := fun s hs => by
      rw [hsu, mem_su hn] at hs
      rw [o1]
      exact (H.nm s).mpr hs.mem.2
    have hsd : (succOf (outS g ys) m).Nodup := by rw [hsu]; exact nodup_su hn m
    have hsl : (succOf (outS g ys) m).length < 900 := by
      rw [hsu]
      unfold suP
      rw [List.length_map]
      have := List.length_filter_le (fun t : GO => decide (m ∈ prdP P t.2)) P
      omega
    refine (PL.m0_5 (by rw [o1]; exact H.nd) (by rw [o1]; exact hmg) (by rw [npOf_np0 (by rw [o1]; exact hmg)]; exact hg1 m hma) hsn hsl (fun g2 ys2 hd2 => ?_))
    (refine PL.x0_3 (doneS_facts (ys := []) hsd hsn) ?_; rintro d1 d2 d3 d4)
    have e1 : g2 = (doneS (outS g ys, []) m).1 := congrArg Prod.fst hd2
    have e2 : ys2 = (doneS (outS g ys, []) m).2 := congrArg Prod.snd hd2
    have hnd1 : (m :: rest).Nodup := (hmr.trans hpp).nodup_iff.mpr H.avn
    obtain ⟨hmrest, hrn⟩ := List.nodup_cons.mp hnd1
    have hrest : ∀ y, y ∈ rest ↔ Av P ord y ∧ y ≠ m := fun y => by
      have h1 : y ∈ m :: rest ↔ y ∈ hp ++ ys := (hmr.trans hpp).mem_iff
      rw [← H.av y, ← h1, List.mem_cons]
      constructor
      · exact fun h => ⟨.inr h, fun e => hmrest (e ▸ h)⟩
      · exact fun h => h.1.elim (fun e => absurd e h.2) id
    have hS : ∀ x, x ∈ succOf (outS g ys) m ↔ Pr P m x := fun x => by rw [hsu, mem_su hn]
    have hys2 : ∀ y, y ∈ ys2 ↔ Pr P m y ∧ y ≠ m ∧ np0 (outS g ys) y = 1 := fun y => by
      rw [e2, d4, List.nil_append, List.mem_filter, hS, decide_eq_true_iff]
      by_cases q : y = m
      · rw [if_pos q]
        constructor
        · exact fun h => absurd h.2 (by decide)
        · exact fun h => absurd q h.2.1
      · rw [if_neg q]
        exact ⟨fun h => (PL.m0_2 h.1 q h.2), fun h => ⟨h.1, h.2.2⟩⟩
    have hav' : ∀ y, Pr P m y → y ∉ hp ++ ys := fun y hp1 h => m2 (((H.av y).mp h).2.2 m hp1)
    have hnpy : ∀ y, y ∉ hp ++ ys → y ∈ names g → np0 (outS g ys) y = np0 g y := fun y hy hyg => by
      rw [o3 y hyg, if_neg fun h => hy (List.mem_append_right _ h)]
    refine ⟨?_, ?_, ?_, ?_, ?_, ?_, ?_, ?_, ?_⟩
    · rw [e1, d1, o1]; exact H.nd
    · intro y; rw [e1, d1, o1]; exact H.nm y
    · intro y; rw [e1, d2, o2]; exact H.su y
    · refine .succ H.due ((mem_cand hn ord m).mpr (PL.m0_2 m1 m2 m3)) fun b hb => hmin b (hpp.mem_iff.mpr ((H.av b).mpr ((mem_cand hn ord b).mp hb)))
    · rw [List.length_append, H.len]; rfl
    · intro t ht hto htr
      rw [List.mem_append, not_or, List.mem_singleton] at hto
      have htn : t.1 ∈ names g := (H.nm _).mpr (List.mem_map.mpr (PL.m1_1 t ht rfl))
      have hth : t.1 ∉ hp ++ ys := fun h => htr ((hrest _).mpr ⟨(H.av _).mp h, hto.2⟩)
      rw [e1, d3 _ (by rw [o1]; exact htn), if_neg hto.2, hnpy _ hth htn, H.np t ht hto.1 fun h => hth (List.mem_append_left _ h)]
      have hc := count_step (L := prdP P t.2) (ord := ord) (m := m) (nodup_prd hn _) m2
      rw [hc]
      by_cases q : m ∈ prdP P t.2
      · rw [if_pos q, if_pos ((hS _).mpr ((mem_prd hn ht m).mp q))]; omega
      · rw [if_neg q, if_neg fun h => q ((mem_prd hn ht m).mpr ((hS _).mp h))]; omega
    · intro y hy
      obtain ⟨ha, hym⟩ := (hrest y).mp hy
      have hyh : y ∈ hp ++ ys := (H.av y).mpr ha
      rw [e1, d3 _ (by rw [o1]; exact (H.nm y).mpr ha.1), if_neg hym, hg1 y hyh, if_neg fun h => hav' y ((hS y).mp h) hyh]
      rfl
    · rw [List.nodup_append]
      refine (PL.m0_2 hrn ?_ (fun a ha b hb e => ?_))
      · rw [e2, d4, List.nil_append]
        exact hsd.sublist List.filter_sublist
      · subst e
        exact hav' a ((hys2 a).mp hb).1 ((H.av a).mpr ((hrest a).mp ha).1)
    · intro y
      rw [List.mem_append, hrest, hys2]
      constructor
      · rintro (⟨ha, hym⟩ | ⟨hpm, hym, h1⟩)
        · exact (PL.m0_2 ha.1 ((fun h => (List.mem_append.mp h).elim ha.2.1 fun h => hym (by simpa using h))) (fun z hz => List.mem_append_left _ (ha.2.2 z hz)))
        · have hyh := hav' y hpm
          have hyg := hpm.mem.2
          have hyo : y ∉ ord := fun h => m2 (((H.due.facts hn).2 y h).2 m hpm)
          refine (PL.m0_2 hyg ((fun h => (List.mem_append.mp h).elim hyo fun h => hym (by simpa using h))) (fun z hz => ?_))
          by_cases q : z ∈ ord
          · exact List.mem_append_left _ q
          · (refine PL.x1_1 (List.mem_map.mp hyg) ?_; rintro t ht rfl)
            rw [hnpy _ hyh ((H.nm _).mpr hyg), H.np t ht hyo fun h => hyh (List.mem_append_left _ h)] at h1
            have h2 : ((prdP P t.2).filter fun z => decide (z ∉ ord)).length = 1 := by omega
            obtain ⟨w, hw⟩ := List.length_eq_one_iff.mp h2
            have hz1 : z ∈ ((prdP P t.2).filter fun z => decide (z ∉ ord)) := List.mem_filter.mpr ⟨(mem_prd hn ht z).mpr hz, decide_eq_true q⟩
            have hm1 : m ∈ ((prdP P t.2).filter fun z => decide (z ∉ ord)) := List.mem_filter.mpr ⟨(mem_prd hn ht m).mpr hpm, decide_eq_true m2⟩
            rw [hw, List.mem_singleton] at hz1 hm1
            rw [hz1, ← hm1]
            exact List.mem_append_right _ List.mem_cons_self
      · (refine PL.j0_2 ?_; rintro h1 h2 h3)
        rw [List.mem_append, not_or, List.mem_singleton] at h2
        by_cases q : Pr P m y
        · refine .inr (PL.m0_2 q h2.2 ?_)
          have hyh := hav' y q
          (refine PL.x1_1 (List.mem_map.mp h1) ?_; rintro t ht rfl)
          rw [hnpy _ hyh ((H.nm _).mpr h1), H.np t ht h2.1 fun h => hyh (List.mem_append_left _ h)]
          have := only_one (m := m) ((nodup_prd hn t.2).sublist (List.filter_sublist (p := fun z => decide (z ∉ ord)))) (List.mem_filter.mpr ⟨(mem_prd hn ht m).mpr q, decide_eq_true m2⟩) fun z hz => by
            rw [List.mem_filter] at hz
            have h4 := h3 z ((mem_prd hn ht z).mp hz.1)
            rcases List.mem_append.mp h4 with h4 | h4
            · exact absurd h4 (of_decide_eq_true hz.2)
            · simpa using h4
          omega
        · refine .inl ⟨(PL.m0_2 h1 h2.1 (fun z hz => ?_)), h2.2⟩
          rcases List.mem_append.mp (h3 z hz) with h4 | h4
          · exact h4
          · simp only [List.mem_singleton] at h4
            subst h4; exact absurd hz q
theorem at_of_mem : ∀ {g : List Nd}, (names g).Nodup → ∀ {n : Nd}, n ∈ g → ndAt g n.name = some n
  | [], _, n, hm => by cases hm
  | q :: g, h, n, hm => by
    unfold names at h
    rw [List.map_cons, List.nodup_cons] at h
    unfold ndAt
    rw [List.find?_cons]
    rcases List.mem_cons.mp hm with rfl | hm
    · rw [decide_eq_true rfl]
    · rw [decide_eq_false fun e => h.1 (by rw [e]; exact List.mem_map.mpr (PL.m1_1 n hm rfl))]
      exact at_of_mem h.2 hm
noncomputable def readyB (g : List Nd) : List Str := (g.filter fun n => n.np == 0).map Nd.name
theorem mem_ready {g : List Nd} (h : (names g).Nodup) (y : Str) : y ∈ readyB g ↔ y ∈ names g ∧ np0 g y = 0 := by
  unfold readyB
  rw [List.mem_map]
  constructor
  · (refine PL.j1_1 ?_; rintro n hn rfl)
    rw [List.mem_filter] at hn
    refine ⟨List.mem_map.mpr (PL.m1_1 n hn.1 rfl), ?_⟩
    unfold np0
    rw [at_of_mem h hn.1]
    exact beq_iff_eq.mp hn.2
  · rintro ⟨hy, h0⟩
    (refine PL.x1_1 (List.mem_map.mp hy) ?_; rintro n hn rfl)
    unfold np0 at h0
    rw [at_of_mem h hn] at h0
    exact (PL.m1_1 n (List.mem_filter.mpr ⟨hn, beq_iff_eq.mpr h0⟩) rfl)
theorem graph_facts (hn : (P.map (·.1)).Nodup) : (names (addAll P P)).Nodup ∧ (∀ y, y ∈ names (addAll P P) ↔ y ∈ P.map (·.1)) ∧ (∀ y, succOf (addAll P P) y = suP P y) ∧ ∀ t ∈ P, np0 (addAll P P) t.1 = (prdP P t.2).length := by
  (refine PL.x0_3 (addAll_gen hn P [] hn) ?_; rintro h1 h2 h3 h4)
  have h5 := (addAll_facts P P.length P).2.2
  rw [List.take_length] at h5
  refine (PL.m0_3 h5 (fun y => ?_) (fun y => ?_) (fun t ht => ?_))
  · refine (h4 y).trans ⟨?_, fun h => .inr (.inl h)⟩
    rintro (h | h | ⟨t, ht, h⟩)
    · cases h
    · exact h
    · exact ((mem_prd hn ht y).mp h).mem.1
  · exact (h3 y).trans (by rw [show succOf [] y = [] from rfl, List.nil_append]; rfl)
  · exact (h1 t ht).trans (by rw [show np0 [] t.1 = 0 from rfl, Int.zero_add])
theorem JS.start (hn : (P.map (·.1)).Nodup) : JS P 0 (addAll P P) (readyB (addAll P P)) [] [] := by
  (refine PL.x0_3 (graph_facts hn) ?_; rintro g1 g2 g3 g4)
  refine ⟨g1, g2, g3, .zero, rfl, fun t ht _ _ => ?_, (fun y hy => by cases hy), ?_, fun y => ?_⟩
  · rw [g4 t ht, List.filter_eq_self.mpr]
    intro z _
    simp
  · rw [List.nil_append]
    unfold readyB
    exact g1.sublist (List.filter_sublist.map _)
  · rw [List.nil_append, mem_ready g1, g2]
    unfold Av
    constructor
    · rintro ⟨h1, h2⟩
      refine (PL.m0_2 h1 (by simp) (fun z hz => ?_))
      (refine PL.x1_1 (List.mem_map.mp h1) ?_; rintro t ht rfl)
      rw [g4 t ht] at h2
      have h3 := (mem_prd hn ht z).mpr hz
      have h5 : (prdP P t.2).length = 0 := by omega
      rw [List.eq_nil_of_length_eq_zero h5] at h3
      cases h3
    · (refine PL.j0_2 ?_; rintro h1 _ h3)
      refine ⟨h1, ?_⟩
      (refine PL.x1_1 (List.mem_map.mp h1) ?_; rintro t ht rfl)
      rw [g4 t ht]
      cases hp : prdP P t.2 with
      | nil => rfl
      | cons z zs =>
        have := h3 z ((mem_prd hn ht z).mp (by rw [hp]; exact List.mem_cons_self))
        cases this
theorem graph_closed (hn : (P.map (·.1)).Nodup) : ∀ y ∈ names (addAll P P), ∀ s ∈ succOf (addAll P P) y, s ∈ names (addAll P P) := fun y _ s hs => by
  (refine PL.x0_3 (graph_facts hn) ?_; rintro _ g2 g3 _)
  rw [g3, mem_su hn] at hs
  exact (g2 s).mpr hs.mem.2
theorem graph_noring (hn : (P.map (·.1)).Nodup) (hr : Rank P) : ∀ C : List Str, C ≠ [] → (∀ y ∈ C, y ∈ names (addAll P P)) → (∀ y ∈ C, ∃ z ∈ C, y ∈ succOf (addAll P P) z) → False := fun C hC h1 h2 => by
  (refine PL.x0_3 (graph_facts hn) ?_; rintro _ g2 g3 _)
  obtain ⟨c, hc⟩ := List.exists_mem_of_ne_nil _ hC
  (refine PL.x1_1 (List.mem_map.mp ((g2 c).mp (h1 c hc))) ?_; rintro t0 ht0 rfl)
  (refine PL.x1_1 (exists_least (P.filter fun t => decide (t.1 ∈ C)) (List.ne_nil_of_mem (List.mem_filter.mpr ⟨ht0, decide_eq_true hc⟩))) ?_; rintro t ht hm)
  rw [List.mem_filter] at ht
  (refine PL.x1_1 (h2 t.1 (of_decide_eq_true ht.2)) ?_; rintro z hz hs)
  rw [g3, mem_su hn] at hs
  obtain ⟨o, ho, t', ht', rfl, e, hnw⟩ := hs
  rw [uniqP hn ht' ht.1 e] at hnw
  have h3 := hm o (List.mem_filter.mpr ⟨ho, decide_eq_true hz⟩)
  have h4 := hr o ho t ht.1 hnw
  omega
theorem run_law (hn : (P.map (·.1)).Nodup) (hr : Rank P) (hz : P.length ≤ 8) : RunLaw P.length (JS P) := ⟨fun k g ys hp ord hk H => JS.step hn hr hz hk H⟩
end
end PL
end
section
open PySem PySem.W PyProof.Rows
set_option maxRecDepth 100000
set_option maxHeartbeats 0
namespace HD
abbrev pw : Program := PySem.Challenge.rw_ij0184_02.row.prog
def stN (l : List Stmt) (n : Nat) : Stmt := l.getD n (.Pass default)
def fA : Stmt → Arguments
  | .FunctionDef _ a _ _ _ _ _ _ _ _ => a
  | _ => default
def fB : Stmt → List Stmt
  | .FunctionDef _ _ b _ _ _ _ _ _ _ => b
  | .ClassDef _ _ _ b _ _ _ _ _ _ _ => b
  | _ => []
def fS : Stmt → Scope
  | .FunctionDef _ _ _ _ _ _ s _ _ _ => s
  | _ => default
def fP : Stmt → Pos
  | .FunctionDef _ _ _ _ _ _ _ _ _ p => p
  | _ => default
def tp (n : Nat) : Stmt := stN pw.main.body n
def mt (n m : Nat) : Stmt := stN (fB (tp n)) m
def s (x : String) (t : Tok) : Value := .str (Str.ofString x) t
def e (P : Params) (x : String) (t : Tok) (v : Value) : DictEntry := { hash := PyData.keyHash P (Str.ofString x), key := .str (Str.ofString x) t, val := v }
def fo (n q : String) (st : Stmt) (df pm c : Value) : Obj := { cls := .type "function", data := .func { name := Str.ofString n, qualname := Str.ofString q, params := fA st, body := .stmts (fB st), scope := fS st, globals := 3, closure := [], defaults := df, kwdefaults := .none, pyModule := pm, code := c } }
noncomputable def hp : Params → Frag := fun P =>
  (nat_lit 3, { cls := (.type "dict"), data := .dict #[(e P "__name__" 165 (s "law_ij0184_02" 729)), (e P "__doc__" 166 .none), (e P "__package__" 167 .none), (e P "__loader__" 168 (.builtin "__main__.__loader__#opaque")), (e P "__spec__" 169 .none), (e P "__annotations__" 170 (.ref 6)), (e P "__builtins__" 171 (.ref 4)), (e P "__file__" 173 (s "/claim/cut.py" 172)), (e P "__cached__" 174 .none), (e P "_sre" 275 (.ref 12)), (e P "_wall" 288 (.ref 38)), (e P "heappush" 298 (.ref 45)), (e P "heappop" 307 (.ref 52)), (e P "_siftdown" 319 (.ref 59)), (e P "_siftup" 332 (.ref 66)), (e P "_twin_re_1" 370 (.ref 71)), (e P "_special_chars_map" 518 (.ref 73)), (e P "escape" 525 (.ref 83)), (e P "_translate" 546 (.ref 90)), (e P "_NODE_OUT" 551 (.int (-1) 550)), (e P "_NODE_DONE" 554 (.int (-2) 553)), (e P "_NodeInfo" 591 (.ref 109)), (e P "CycleError" 609 (.ref 124)), (e P "TopologicalSorter" 728 (.ref 206)), (e P "_law_takes" 738 (.ref 217)), (e P "_law_taken" 744 (.ref 222)), (e P "_law_said" 752 (.ref 229)), (e P "_law_narrow" 758 (.ref 234)), (e P "_law_run" 764 (.ref 239)), (e P "law" 770 (.ref 244))] 30 }) ::
  (nat_lit 37, { cls := (.type "code"), data := .fields #[(s "_wall" 282), (s "_wall" 283), (s "/claim/cut.py" 284), (.int (2) 0), (.int (1) 0), (.int (0) 0), (.int (0) 0), (.int (3) 0), (.ref 32), (.bool true), (.int (276) 0), (.ref 33), .none, (.ref 34), (.ref 35), (.ref 36), (.int (286) 0), (.int (2) 0), (s "/claim/cut.py" 287)] }) ::
  (nat_lit 38, (fo "_wall" "_wall" (tp 1) .none (s "__main__" 164) (.ref 37))) ::
  (nat_lit 44, { cls := (.type "code"), data := .fields #[(s "heappush" 291), (s "heappush" 292), (s "/claim/cut.py" 293), (.int (6) 0), (.int (2) 0), (.int (0) 0), (.int (0) 0), (.int (3) 0), (.ref 39), (.bool true), (.int (276) 0), (.ref 40), .none, (.ref 41), (.ref 42), (.ref 43), (.int (296) 0), (.int (6) 0), (s "/claim/cut.py" 297)] }) ::
  (nat_lit 45, (fo "heappush" "heappush" (tp 3) .none (s "cpy313.heapq" 289) (.ref 44))) ::
  (nat_lit 51, { cls := (.type "code"), data := .fields #[(s "heappop" 299), (s "heappop" 300), (s "/claim/cut.py" 301), (.int (9) 0), (.int (1) 0), (.int (0) 0), (.int (0) 0), (.int (3) 0), (.ref 46), (.bool true), (.int (276) 0), (.ref 47), .none, (.ref 48), (.ref 49), (.ref 50), (.int (305) 0), (.int (9) 0), (s "/claim/cut.py" 306)] }) ::
  (nat_lit 52, (fo "heappop" "heappop" (tp 4) .none (s "cpy313.heapq" 289) (.ref 51))) ::
  (nat_lit 58, { cls := (.type "code"), data := .fields #[(s "_siftdown" 308), (s "_siftdown" 309), (s "/claim/cut.py" 310), (.int (17) 0), (.int (3) 0), (.int (0) 0), (.int (0) 0), (.int (3) 0), (.ref 53), (.bool true), (.int (276) 0), (.ref 54), .none, (.ref 55), (.ref 56), (.ref 57), (.int (317) 0), (.int (17) 0), (s "/claim/cut.py" 318)] }) ::
  (nat_lit 59, (fo "_siftdown" "_siftdown" (tp 5) .none (s "cpy313.heapq" 289) (.ref 58))) ::
  (nat_lit 65, { cls := (.type "code"), data := .fields #[(s "_siftup" 320), (s "_siftup" 321), (s "/claim/cut.py" 322), (.int (28) 0), (.int (2) 0), (.int (0) 0), (.int (0) 0), (.int (3) 0), (.ref 60), (.bool true), (.int (276) 0), (.ref 61), .none, (.ref 62), (.ref 63), (.ref 64), (.int (330) 0), (.int (28) 0), (s "/claim/cut.py" 331)] }) ::
  (nat_lit 66, (fo "_siftup" "_siftup" (tp 6) .none (s "cpy313.heapq" 289) (.ref 65))) ::
  (nat_lit 70, { cls := (.type "tuple"), data := .seq #[(.int (14) 0), (.int (14) 0), (.int (4) 0), (.int (1) 0), (.int (1) 0), (.int (9) 0), (.int (0) 0), (.int (64) 0), (.int (0) 0), (.int (1342177280) 0), (.int (0) 0), (.int (0) 0), (.int (0) 0), (.int (0) 0), (.int (0) 0), (.int (17) 0), (.int (0) 0), (.int (13) 0), (.int (11) 0), (.int (9) 0), (.int (0) 0), (.int (64) 0), (.int (0) 0), (.int (1342177280) 0), (.int (0) 0), (.int (0) 0), (.int (0) 0), (.int (0) 0), (.int (0) 0), (.int (17) 0), (.int (1) 0), (.int (1) 0)] 0 }) ::
  (nat_lit 71, { cls := (.type "re.Pattern"), data := .fields #[(s "([&~|])" 334), (.int (32) 369), (.int (1) 0), .none, .none, (.ref 70), (.int (0) 0)] }) ::
  (nat_lit 73, { cls := (.type "dict"), data := .dict #[{ hash := 40, key := (.int (40) 374), val := (s "\\(" 378) }, { hash := 41, key := (.int (41) 380), val := (s "\\)" 384) }, { hash := 91, key := (.int (91) 386), val := (s "\\[" 390) }, { hash := 93, key := (.int (93) 392), val := (s "\\]" 396) }, { hash := 123, key := (.int (123) 398), val := (s "\\{" 402) }, { hash := 125, key := (.int (125) 404), val := (s "\\}" 408) }, { hash := 63, key := (.int (63) 410), val := (s "\\?" 414) }, { hash := 42, key := (.int (42) 416), val := (s "\\*" 420) }, { hash := 43, key := (.int (43) 422), val := (s "\\+" 426) }, { hash := 45, key := (.int (45) 428), val := (s "\\-" 432) }, { hash := 124, key := (.int (124) 434), val := (s "\\|" 438) }, { hash := 94, key := (.int (94) 440), val := (s "\\^" 444) }, { hash := 36, key := (.int (36) 446), val := (s "\\$" 450) }, { hash := 92, key := (.int (92) 452), val := (s "\\\\" 456) }, { hash := 46, key := (.int (46) 458), val := (s "\\." 462) }, { hash := 38, key := (.int (38) 464), val := (s "\\&" 468) }, { hash := 126, key := (.int (126) 470), val := (s "\\~" 474) }, { hash := 35, key := (.int (35) 476), val := (s "\\#" 480) }, { hash := 32, key := (.int (32) 482), val := (s "\\ " 486) }, { hash := 9, key := (.int (9) 488), val := (s "\\\t" 492) }, { hash := 10, key := (.int (10) 494), val := (s "\\\n" 498) }, { hash := 13, key := (.int (13) 500), val := (s "\\\x0d" 504) }, { hash := 11, key := (.int (11) 506), val := (s "\\\x0b" 510) }, { hash := 12, key := (.int (12) 512), val := (s "\\\x0c" 516) }] 24 }) ::
  (nat_lit 82, { cls := (.type "code"), data := .fields #[(s "escape" 519), (s "escape" 520), (s "/claim/cut.py" 521), (.int (45) 0), (.int (1) 0), (.int (0) 0), (.int (0) 0), (.int (3) 0), (.ref 77), (.bool true), (.int (276) 0), (.ref 78), .none, (.ref 79), (.ref 80), (.ref 81), (.int (523) 0), (.int (45) 0), (s "/claim/cut.py" 524)] }) ::
  (nat_lit 83, (fo "escape" "escape" (tp 10) .none (s "re" 371) (.ref 82))) ::
  (nat_lit 89, { cls := (.type "code"), data := .fields #[(s "_translate" 528), (s "_translate" 529), (s "/claim/cut.py" 530), (.int (52) 0), (.int (3) 0), (.int (0) 0), (.int (0) 0), (.int (3) 0), (.ref 84), (.bool true), (.int (276) 0), (.ref 85), .none, (.ref 86), (.ref 87), (.ref 88), (.int (544) 0), (.int (52) 0), (s "/claim/cut.py" 545)] }) ::
  (nat_lit 90, (fo "_translate" "_translate" (tp 12) .none (s "cpy313.fnmatch" 526) (.ref 89))) ::
  (nat_lit 104, { cls := (.type "code"), data := .fields #[(s "__init__" 571), (s "_NodeInfo.__init__" 572), (s "/claim/cut.py" 573), (.int (120) 0), (.int (2) 0), (.int (0) 0), (.int (0) 0), (.int (3) 0), (.ref 99), (.bool true), (.int (276) 0), (.ref 100), .none, (.ref 101), (.ref 102), (.ref 103), (.int (576) 0), (.int (120) 0), (s "/claim/cut.py" 577)] }) ::
  (nat_lit 105, (fo "__init__" "_NodeInfo.__init__" (mt 16 1) .none (s "cpy313.graphlib" 547) (.ref 104))) ::
  (nat_lit 108, { cls := (.type "dict"), data := .dict #[(e P "__module__" 562 (s "cpy313.graphlib" 547)), (e P "__firstlineno__" 566 (.int (117) 565)), (e P "__slots__" 570 (.ref 98)), (e P "__init__" 578 (.ref 105)), (e P "__static_attributes__" 582 (.ref 106)), (e P "node" 584 (.ref 110)), (e P "npredecessors" 586 (.ref 111)), (e P "successors" 588 (.ref 112)), (e P "__doc__" 589 .none)] 5 }) ::
  (nat_lit 109, { cls := (.type "type"), data := .cls { name := (Str.ofString "_NodeInfo"), bases := [(.type "object")], mro := [(.ref 109), (.type "object")], ns := 108, qualname := (Str.ofString "_NodeInfo"), hasDict := false, slotNames := [(Str.ofString "node"), (Str.ofString "npredecessors"), (Str.ofString "successors")], subclasses := [], abstract := false, hasDel := false }, slots := #[none, none, some (s "_NodeInfo" 555), some (s "_NodeInfo" 563), some (.builtin "object.__new__"), some (.bool false)] }) ::
  (nat_lit 110, { cls := (.type "member_descriptor"), data := .fields #[(s "node" 583), (.ref 109), (.builtin "proto.slot"), (.builtin "proto.slot#set"), (.int (2) 0)] }) ::
  (nat_lit 111, { cls := (.type "member_descriptor"), data := .fields #[(s "npredecessors" 585), (.ref 109), (.builtin "proto.slot"), (.builtin "proto.slot#set"), (.int (1) 0)] }) ::
  (nat_lit 112, { cls := (.type "member_descriptor"), data := .fields #[(s "successors" 587), (.ref 109), (.builtin "proto.slot"), (.builtin "proto.slot#set"), (.int (0) 0)] }) ::
  (nat_lit 115, { cls := (.type "tuple"), data := .seq #[(.type "ValueError")] 0 }) ::
  (nat_lit 123, { cls := (.type "dict"), data := .dict #[(e P "__module__" 599 (s "cpy313.graphlib" 547)), (e P "__firstlineno__" 603 (.int (124) 602)), (e P "__static_attributes__" 604 (.ref 122)), (e P "__weakref__" 606 (.ref 125)), (e P "__doc__" 607 .none)] 3 }) ::
  (nat_lit 124, { cls := (.type "type"), data := .cls { name := (Str.ofString "CycleError"), bases := [(.type "ValueError")], mro := [(.ref 124), (.type "ValueError"), (.type "Exception"), (.type "BaseException"), (.type "object")], ns := 123, qualname := (Str.ofString "CycleError"), hasDict := true, slotNames := [], subclasses := [], abstract := false, hasDel := false }, slots := #[some (.ref 115), none, some (s "CycleError" 592), some (s "CycleError" 600), some (.builtin "ValueError.__new__"), some (.bool true)] }) ::
  (nat_lit 125, { cls := (.type "getset_descriptor"), data := .fields #[(s "__weakref__" 605), (.ref 124), (.builtin "ExceptionGroup.__weakref__"), .none] }) ::
  (nat_lit 135, { cls := (.type "tuple"), data := .seq #[.none] 0 }) ::
  (nat_lit 141, { cls := (.type "code"), data := .fields #[(s "__init__" 622), (s "TopologicalSorter.__init__" 623), (s "/claim/cut.py" 624), (.int (128) 0), (.int (2) 0), (.int (0) 0), (.int (0) 0), (.int (3) 0), (.ref 136), (.bool true), (.int (276) 0), (.ref 137), .none, (.ref 138), (.ref 139), (.ref 140), (.int (629) 0), (.int (128) 0), (s "/claim/cut.py" 630)] }) ::
  (nat_lit 142, (fo "__init__" "TopologicalSorter.__init__" (mt 18 0) (.ref 135) (s "cpy313.graphlib" 547) (.ref 141))) ::
  (nat_lit 148, { cls := (.type "code"), data := .fields #[(s "_get_nodeinfo" 632), (s "TopologicalSorter._get_nodeinfo" 633), (s "/claim/cut.py" 634), (.int (137) 0), (.int (2) 0), (.int (0) 0), (.int (0) 0), (.int (3) 0), (.ref 143), (.bool true), (.int (276) 0), (.ref 144), .none, (.ref 145), (.ref 146), (.ref 147), (.int (638) 0), (.int (137) 0), (s "/claim/cut.py" 639)] }) ::
  (nat_lit 149, (fo "_get_nodeinfo" "TopologicalSorter._get_nodeinfo" (mt 18 1) .none (s "cpy313.graphlib" 547) (.ref 148))) ::
  (nat_lit 155, { cls := (.type "code"), data := .fields #[(s "add" 641), (s "TopologicalSorter.add" 642), (s "/claim/cut.py" 643), (.int (142) 0), (.int (2) 0), (.int (0) 0), (.int (0) 0), (.int (7) 0), (.ref 150), (.bool true), (.int (276) 0), (.ref 151), .none, (.ref 152), (.ref 153), (.ref 154), (.int (650) 0), (.int (142) 0), (s "/claim/cut.py" 651)] }) ::
  (nat_lit 156, (fo "add" "TopologicalSorter.add" (mt 18 2) .none (s "cpy313.graphlib" 547) (.ref 155))) ::
  (nat_lit 160, { cls := (.type "code"), data := .fields #[(s "prepare" 653), (s "TopologicalSorter.prepare" 654), (s "/claim/cut.py" 655), (.int (151) 0), (.int (1) 0), (.int (0) 0), (.int (0) 0), (.int (3) 0), (.ref 157), (.bool true), (.int (276) 0), (.ref 158), .none, .none, .none, (.ref 159), (.int (656) 0), (.int (151) 0), (s "/claim/cut.py" 657)] }) ::
  (nat_lit 161, (fo "prepare" "TopologicalSorter.prepare" (mt 18 3) .none (s "cpy313.graphlib" 547) (.ref 160))) ::
  (nat_lit 167, { cls := (.type "code"), data := .fields #[(s "get_ready" 659), (s "TopologicalSorter.get_ready" 660), (s "/claim/cut.py" 661), (.int (159) 0), (.int (1) 0), (.int (0) 0), (.int (0) 0), (.int (3) 0), (.ref 162), (.bool true), (.int (276) 0), (.ref 163), .none, (.ref 164), (.ref 165), (.ref 166), (.int (666) 0), (.int (159) 0), (s "/claim/cut.py" 667)] }) ::
  (nat_lit 168, (fo "get_ready" "TopologicalSorter.get_ready" (mt 18 4) .none (s "cpy313.graphlib" 547) (.ref 167))) ::
  (nat_lit 174, { cls := (.type "code"), data := .fields #[(s "is_active" 669), (s "TopologicalSorter.is_active" 670), (s "/claim/cut.py" 671), (.int (170) 0), (.int (1) 0), (.int (0) 0), (.int (0) 0), (.int (3) 0), (.ref 169), (.bool true), (.int (276) 0), (.ref 170), .none, (.ref 171), (.ref 172), (.ref 173), (.int (673) 0), (.int (170) 0), (s "/claim/cut.py" 674)] }) ::
  (nat_lit 175, (fo "is_active" "TopologicalSorter.is_active" (mt 18 5) .none (s "cpy313.graphlib" 547) (.ref 174))) ::
  (nat_lit 181, { cls := (.type "code"), data := .fields #[(s "__bool__" 676), (s "TopologicalSorter.__bool__" 677), (s "/claim/cut.py" 678), (.int (175) 0), (.int (1) 0), (.int (0) 0), (.int (0) 0), (.int (3) 0), (.ref 176), (.bool true), (.int (276) 0), (.ref 177), .none, (.ref 178), (.ref 179), (.ref 180), (.int (680) 0), (.int (175) 0), (s "/claim/cut.py" 681)] }) ::
  (nat_lit 182, (fo "__bool__" "TopologicalSorter.__bool__" (mt 18 6) .none (s "cpy313.graphlib" 547) (.ref 181))) ::
  (nat_lit 188, { cls := (.type "code"), data := .fields #[(s "done" 683), (s "TopologicalSorter.done" 684), (s "/claim/cut.py" 685), (.int (178) 0), (.int (1) 0), (.int (0) 0), (.int (0) 0), (.int (7) 0), (.ref 183), (.bool true), (.int (276) 0), (.ref 184), .none, (.ref 185), (.ref 186), (.ref 187), (.int (694) 0), (.int (178) 0), (s "/claim/cut.py" 695)] }) ::
  (nat_lit 189, (fo "done" "TopologicalSorter.done" (mt 18 7) .none (s "cpy313.graphlib" 547) (.ref 188))) ::
  (nat_lit 195, { cls := (.type "code"), data := .fields #[(s "_find_cycle" 697), (s "TopologicalSorter._find_cycle" 698), (s "/claim/cut.py" 699), (.int (201) 0), (.int (1) 0), (.int (0) 0), (.int (0) 0), (.int (3) 0), (.ref 190), (.bool true), (.int (276) 0), (.ref 191), .none, (.ref 192), (.ref 193), (.ref 194), (.int (707) 0), (.int (201) 0), (s "/claim/cut.py" 708)] }) ::
  (nat_lit 196, (fo "_find_cycle" "TopologicalSorter._find_cycle" (mt 18 8) .none (s "cpy313.graphlib" 547) (.ref 195))) ::
  (nat_lit 202, { cls := (.type "code"), data := .fields #[(s "static_order" 710), (s "TopologicalSorter.static_order" 711), (s "/claim/cut.py" 712), (.int (230) 0), (.int (1) 0), (.int (0) 0), (.int (0) 0), (.int (3) 0), (.ref 197), (.bool true), (.int (276) 0), (.ref 198), .none, (.ref 199), (.ref 200), (.ref 201), (.int (714) 0), (.int (230) 0), (s "/claim/cut.py" 715)] }) ::
  (nat_lit 203, (fo "static_order" "TopologicalSorter.static_order" (mt 18 9) .none (s "cpy313.graphlib" 547) (.ref 202))) ::
  (nat_lit 205, { cls := (.type "dict"), data := .dict #[(e P "__module__" 617 (s "cpy313.graphlib" 547)), (e P "__firstlineno__" 621 (.int (126) 620)), (e P "__init__" 631 (.ref 142)), (e P "_get_nodeinfo" 640 (.ref 149)), (e P "add" 652 (.ref 156)), (e P "prepare" 658 (.ref 161)), (e P "get_ready" 668 (.ref 168)), (e P "is_active" 675 (.ref 175)), (e P "__bool__" 682 (.ref 182)), (e P "done" 696 (.ref 189)), (e P "_find_cycle" 709 (.ref 196)), (e P "static_order" 716 (.ref 203)), (e P "__static_attributes__" 721 (.ref 204)), (e P "__dict__" 723 (.ref 207)), (e P "__weakref__" 725 (.ref 208)), (e P "__doc__" 726 .none)] 4 }) ::
  (nat_lit 206, { cls := (.type "type"), data := .cls { name := (Str.ofString "TopologicalSorter"), bases := [(.type "object")], mro := [(.ref 206), (.type "object")], ns := 205, qualname := (Str.ofString "TopologicalSorter"), hasDict := true, slotNames := [], subclasses := [], abstract := false, hasDel := false }, slots := #[none, none, some (s "TopologicalSorter" 610), some (s "TopologicalSorter" 618), some (.builtin "object.__new__"), some (.bool true)] }) ::
  (nat_lit 207, { cls := (.type "getset_descriptor"), data := .fields #[(s "__dict__" 722), (.ref 206), (.builtin "function.__dict__"), (.builtin "function.__dict__#set")] }) ::
  (nat_lit 208, { cls := (.type "getset_descriptor"), data := .fields #[(s "__weakref__" 724), (.ref 206), (.builtin "ExceptionGroup.__weakref__"), .none] }) ::
  (nat_lit 216, { cls := (.type "code"), data := .fields #[(s "_law_takes" 731), (s "_law_takes" 732), (s "/claim/cut.py" 733), (.int (233) 0), (.int (2) 0), (.int (0) 0), (.int (0) 0), (.int (3) 0), (.ref 211), (.bool true), (.int (276) 0), (.ref 212), .none, (.ref 213), (.ref 214), (.ref 215), (.int (736) 0), (.int (233) 0), (s "/claim/cut.py" 737)] }) ::
  (nat_lit 217, (fo "_law_takes" "_law_takes" (tp 20) .none (s "law_ij0184_02" 729) (.ref 216))) ::
  (nat_lit 221, { cls := (.type "code"), data := .fields #[(s "_law_taken" 739), (s "_law_taken" 740), (s "/claim/cut.py" 741), (.int (237) 0), (.int (2) 0), (.int (0) 0), (.int (0) 0), (.int (3) 0), (.ref 218), (.bool true), (.int (276) 0), (.ref 219), .none, .none, .none, (.ref 220), (.int (742) 0), (.int (237) 0), (s "/claim/cut.py" 743)] }) ::
  (nat_lit 222, (fo "_law_taken" "_law_taken" (tp 21) .none (s "law_ij0184_02" 729) (.ref 221))) ::
  (nat_lit 228, { cls := (.type "code"), data := .fields #[(s "_law_said" 745), (s "_law_said" 746), (s "/claim/cut.py" 747), (.int (251) 0), (.int (2) 0), (.int (0) 0), (.int (0) 0), (.int (3) 0), (.ref 223), (.bool true), (.int (276) 0), (.ref 224), .none, (.ref 225), (.ref 226), (.ref 227), (.int (750) 0), (.int (251) 0), (s "/claim/cut.py" 751)] }) ::
  (nat_lit 229, (fo "_law_said" "_law_said" (tp 22) .none (s "law_ij0184_02" 729) (.ref 228))) ::
  (nat_lit 233, { cls := (.type "code"), data := .fields #[(s "_law_narrow" 753), (s "_law_narrow" 754), (s "/claim/cut.py" 755), (.int (261) 0), (.int (2) 0), (.int (0) 0), (.int (0) 0), (.int (3) 0), (.ref 230), (.bool true), (.int (276) 0), (.ref 231), .none, .none, .none, (.ref 232), (.int (756) 0), (.int (261) 0), (s "/claim/cut.py" 757)] }) ::
  (nat_lit 234, (fo "_law_narrow" "_law_narrow" (tp 23) .none (s "law_ij0184_02" 729) (.ref 233))) ::
  (nat_lit 238, { cls := (.type "code"), data := .fields #[(s "_law_run" 759), (s "_law_run" 760), (s "/claim/cut.py" 761), (.int (263) 0), (.int (2) 0), (.int (0) 0), (.int (0) 0), (.int (3) 0), (.ref 235), (.bool true), (.int (276) 0), (.ref 236), .none, .none, .none, (.ref 237), (.int (762) 0), (.int (263) 0), (s "/claim/cut.py" 763)] }) ::
  (nat_lit 239, (fo "_law_run" "_law_run" (tp 24) .none (s "law_ij0184_02" 729) (.ref 238))) ::
  (nat_lit 243, { cls := (.type "code"), data := .fields #[(s "law" 765), (s "law" 766), (s "/claim/cut.py" 767), (.int (275) 0), (.int (1) 0), (.int (0) 0), (.int (0) 0), (.int (3) 0), (.ref 240), (.bool true), (.int (276) 0), (.ref 241), .none, .none, .none, (.ref 242), (.int (768) 0), (.int (275) 0), (s "/claim/cut.py" 769)] }) ::
  (nat_lit 244, (fo "law" "law" (tp 25) .none (s "law_ij0184_02" 729) (.ref 243))) :: []
def hpA : List Addr := nat_lit 3 :: nat_lit 37 :: nat_lit 38 :: nat_lit 44 :: nat_lit 45 :: nat_lit 51 :: nat_lit 52 :: nat_lit 58 :: nat_lit 59 :: nat_lit 65 :: nat_lit 66 :: nat_lit 70 :: nat_lit 71 :: nat_lit 73 :: nat_lit 82 :: nat_lit 83 :: nat_lit 89 :: nat_lit 90 :: nat_lit 104 :: nat_lit 105 :: nat_lit 108 :: nat_lit 109 :: nat_lit 110 :: nat_lit 111 :: nat_lit 112 :: nat_lit 115 :: nat_lit 123 :: nat_lit 124 :: nat_lit 125 :: nat_lit 135 :: nat_lit 141 :: nat_lit 142 :: nat_lit 148 :: nat_lit 149 :: nat_lit 155 :: nat_lit 156 :: nat_lit 160 :: nat_lit 161 :: nat_lit 167 :: nat_lit 168 :: nat_lit 174 :: nat_lit 175 :: nat_lit 181 :: nat_lit 182 :: nat_lit 188 :: nat_lit 189 :: nat_lit 195 :: nat_lit 196 :: nat_lit 202 :: nat_lit 203 :: nat_lit 205 :: nat_lit 206 :: nat_lit 207 :: nat_lit 208 :: nat_lit 216 :: nat_lit 217 :: nat_lit 221 :: nat_lit 222 :: nat_lit 228 :: nat_lit 229 :: nat_lit 233 :: nat_lit 234 :: nat_lit 238 :: nat_lit 239 :: nat_lit 243 :: nat_lit 244 :: []
def qv : Program := { pw with main := { pw.main with body := [tp 0, tp 25] } }
def lo : List Str := [Str.ofString "_wall", Str.ofString "heappush", Str.ofString "heappop", Str.ofString "_siftdown", Str.ofString "_siftup", Str.ofString "_twin_re_1", Str.ofString "_special_chars_map", Str.ofString "escape", Str.ofString "_translate", Str.ofString "_NODE_OUT", Str.ofString "_NODE_DONE", Str.ofString "_NodeInfo", Str.ofString "CycleError", Str.ofString "TopologicalSorter", Str.ofString "_law_takes", Str.ofString "_law_taken", Str.ofString "_law_said", Str.ofString "_law_narrow", Str.ofString "_law_run"]
theorem hpA_eq (P : Params) : hpA = (hp P).map (·.1) := by kernel_rfl
noncomputable def hk : Hook := kmHook hp hpA hpA_eq [85]
theorem left_cut {p q : Program} {loose : List Str} {Xt : Shared → Bool} {α : Type} {Yf : Shared → α} {Ya : World → α} {N : Nat} {g0 : Bool}
    {tB : String → Option Builtin} {tG : (String → Option Builtin) → Program → World → Nat → Option Value → Nat → Shared → Thread → Option (Shared × Thread)}
    {tS : (String → Option Builtin) → Program → World → Nat → Option Value → Nat → Nat → Shared → Thread → Option (Flow × Shared × Code × Pos)}
    {tR : (String → Option Builtin) → Program → World → Nat → Option Value → Nat → Shared → Thread → Option Shared}
    {tI : (String → Option Builtin) → Program → World → Nat → Shared → Thread → Option Shared} {tF : Program → Shared → Option Shared} {tK : List Stmt → Env → Sem Unit} {tE : List Stmt → Env → Sem Flow} {tD : (String → Option Builtin) → Code → Sem Fin}
    (eB : treeTable = tB) (eG : topGo = tG) (eS : segRun = tS) (eR : topRun = tR) (eI : importEnds = tI) (eF : fenceModules? = tF) (eK : blockStart = tK) (eE : execs = tE) (eD : denote = tD)
    {b A M C : List Stmt} {bE : Env} {cE : Code} {q0 pb p8 p9 : Pos} {H8 H9 : World → Heap} {d : Drawn} {k8 k9 n₀ n nA nM nC : Nat} {ann : Option Value}
    (hc : cE = .body b bE) (hb : b = A ++ (M ++ C))
    (h1 : ∀ w : World, ((tI tB (opening p) w N (start (opening p)).1 (start (opening p)).2).bind (tF p)).map (fun s₀ => (s₀.heap.isNs mainGlobals && s₀.gens.size == 0, s₀.heap.objs.size, s₀.heap.nsMap mainGlobals "__annotations__",
      (tG tB p w n₀ ann n s₀ (topStub p)).bind fun x => (tS tB p w n₀ ann 1 2 x.1 ⟨(tK b bE).wrap (fun _ => doneF .next) deadEnd id id, cE, q0, [topFrame q0]⟩).bind fun y => (tS tB p w n₀ ann 1 nA y.2.1 ⟨(tE A bE).wrap doneF deadEnd id id, cE, y.2.2.2, [topFrame q0]⟩).map fun z =>
        (x.2, (y.1, y.2.2.1, y.2.2.2), (z.1, z.2.1.heap, z.2.1.gens, z.2.1.drawn, z.2.1.toks, z.2.2.1, z.2.2.2)))) =
      some (true, n₀, ann, some (⟨tD tB cE, cE, q0, [topFrame q0]⟩, (.next, cE, pb), (.next, H8 w, #[], d, k8, cE, p8))))
    (h2 : ∀ w : World, (fun os => tS tB p w n₀ ann 1 nM ⟨H8 w, #[], d, k8, os⟩ ⟨(tE M bE).wrap doneF deadEnd id id, cE, p8, [topFrame q0]⟩) = fun os => some (.next, ⟨H9 w, #[], d, k9, os⟩, cE, p9))
    (h3 : ∀ w : World, ((tI tB (opening p) w N (start (opening p)).1 (start (opening p)).2).bind (tF p)).map (fun s₀ => fun os => (tS tB p w n₀ ann 1 nC ⟨H9 w, #[], d, k9, os⟩ ⟨(tE C bE).wrap doneF deadEnd id id, cE, p9, [topFrame q0]⟩).bind fun y =>
      (tR tB p w n₀ ann 2 y.2.1 ⟨doneF .next, cE, y.2.2.2, [topFrame q0]⟩).map fun s₁ => ((y.1, y.2.2.1), (staticsOk (importedModules p.main.body) s₀.heap s₁.heap && namesBound p s₁.heap && gensDone s₁ && laidKept s₀.heap s₁.heap),
        openSeen q loose (importedModules p.main.body) Xt g0 s₁, Yf s₁)) = some (fun _ => some ((.next, cE), true, openGood q loose, Ya w)))
    (le : Nat.ble (n + (2 + (nA + (nM + (nC + 2))))) N = true) : LeftO p q loose Xt Yf Ya N g0 := fun w => by
  subst eB eG eS eR eI eF eK eE eD hc
  obtain ⟨s₀, e0, e1⟩ := Option.map_eq_some_iff.mp (h1 w)
  simp only [Prod.mk.injEq] at e1
  obtain ⟨z1, z2, z3, e2⟩ := e1
  obtain ⟨⟨sa, ta⟩, hx, e3⟩ := Option.bind_eq_some_iff.mp e2
  obtain ⟨⟨fb, sb, cb, qb⟩, hy, e4⟩ := Option.bind_eq_some_iff.mp e3
  obtain ⟨⟨fz, ⟨zh, zg, zd, zk, os⟩, cz, qz⟩, hz, e5⟩ := Option.map_eq_some_iff.mp e4
  simp only [Prod.mk.injEq] at e5
  obtain ⟨rfl, ⟨rfl, rfl, rfl⟩, rfl, rfl, rfl, rfl, rfl, rfl, rfl⟩ := e5
  obtain ⟨s₀', e0', e6⟩ := Option.map_eq_some_iff.mp (h3 w)
  obtain rfl : s₀ = s₀' := Option.some.inj (e0.symm.trans e0')
  obtain ⟨⟨fy, sy, cy, qy⟩, hy3, e7⟩ := Option.bind_eq_some_iff.mp (congrFun e6 os)
  obtain ⟨s₁, hs₁, e8⟩ := Option.map_eq_some_iff.mp e7
  simp only [Prod.mk.injEq] at e8
  obtain ⟨⟨rfl, rfl⟩, l1, l2, l3⟩ := e8
  have m := congrFun (h2 w) os
  have r0 : topRun treeTable p w n₀ ann (nC + 2) ⟨H9 w, #[], zd, k9, os⟩ (restOf C bE (.body b bE) p9 [topFrame q0]) = some s₁ := by
    have := piece_app (rest := []) hy3 (piece_nil hs₁)
    rwa [List.append_nil] at this
  have run : topRun treeTable p w n₀ ann (n + (2 + (nA + (nM + (nC + 2))))) s₀ (topStub p) = some s₁ := by
    refine go_top hx (piece_block hy ?_)
    have r := piece_app hz (piece_app m r0)
    rwa [← hb] at r
  have r := topRun_mono (N - (n + (2 + (nA + (nM + (nC + 2)))))) _ _ _ _ run
  rw [show (n + (2 + (nA + (nM + (nC + 2))))) + (N - (n + (2 + (nA + (nM + (nC + 2)))))) = N by have := Nat.le_of_ble_eq_true le; omega] at r
  have t : topFrom treeTable p w N s₀ = some s₁ := by
    unfold topFrom
    rw [z1, z2, z3]
    show (topRun treeTable p w n₀ ann N s₀ (topStub p)).bind _ = _
    rw [r]
    show (match staticsOk (importedModules p.main.body) s₀.heap s₁.heap && namesBound p s₁.heap && gensDone s₁ && laidKept s₀.heap s₁.heap with | true => _ | false => _) = _
    rw [l1]
  unfold openEnds fencedOpening
  rw [e0]
  show (topFrom treeTable p w N _).map _ = _
  rw [t]
  exact congrArg some (Prod.ext l2 l3)
noncomputable def fo0 (n q : String) (st : Stmt) : Obj := { cls := .none, data := .func { name := Str.ofString n, qualname := Str.ofString q, params := fA st, body := .stmts (fB st), scope := fS st, globals := 0, closure := [], defaults := .none, kwdefaults := .none } }
noncomputable def ob (w : World) (i : Nat) : Obj := (((PySem.W.Fast.tw10274390034422433532 PySem.W.Fast.tw14364793385576792824 (opening pw) w 5676 (start (opening pw)).1 (start (opening pw)).2).bind (PySem.W.Fast.tw14289696077712309145 pw)).bind fun s => s.heap.objs[i]?).getD default
noncomputable def h8 (w : World) : Heap := (fun P : Params => ({ objs := ⟨
  { cls := (.type "dict"), data := .dict #[(e P "__name__" 1 (s "builtins" 160)), (e P "__doc__" 2 (.builtin "builtins.__doc__:str#opaque")), (e P "__package__" 3 (.builtin "builtins.__package__:str#opaque")), (e P "__loader__" 4 (.builtin "builtins.__loader__:shared#opaque")), (e P "__spec__" 5 (.builtin "builtins.__spec__#opaque")), (e P "__build_class__" 6 (.builtin "__build_class__")), (e P "__import__" 7 (.builtin "__import__")), (e P "abs" 8 (.builtin "abs")), (e P "all" 9 (.builtin "all")), (e P "any" 10 (.builtin "any")), (e P "ascii" 11 (.builtin "ascii")), (e P "bin" 12 (.builtin "bin")), (e P "breakpoint" 13 (.builtin "breakpoint")), (e P "callable" 14 (.builtin "callable")), (e P "chr" 15 (.builtin "chr")), (e P "compile" 16 (.builtin "compile")), (e P "delattr" 17 (.builtin "delattr")), (e P "dir" 18 (.builtin "dir")), (e P "divmod" 19 (.builtin "divmod")), (e P "eval" 20 (.builtin "eval")), (e P "exec" 21 (.builtin "exec")), (e P "format" 22 (.builtin "format")), (e P "getattr" 23 (.builtin "getattr")), (e P "globals" 24 (.builtin "globals")), (e P "hasattr" 25 (.builtin "hasattr")), (e P "hash" 26 (.builtin "hash")), (e P "hex" 27 (.builtin "hex")), (e P "id" 28 (.builtin "id")), (e P "input" 29 (.builtin "input")), (e P "isinstance" 30 (.builtin "isinstance")), (e P "issubclass" 31 (.builtin "issubclass")), (e P "iter" 32 (.builtin "iter")), (e P "aiter" 33 (.builtin "aiter")), (e P "len" 34 (.builtin "len")), (e P "locals" 35 (.builtin "locals")), (e P "max" 36 (.builtin "max")), (e P "min" 37 (.builtin "min")), (e P "next" 38 (.builtin "next")), (e P "anext" 39 (.builtin "anext")), (e P "oct" 40 (.builtin "oct")), (e P "ord" 41 (.builtin "ord")), (e P "pow" 42 (.builtin "pow")), (e P "print" 43 (.builtin "print")), (e P "repr" 44 (.builtin "repr")), (e P "round" 45 (.builtin "round")), (e P "setattr" 46 (.builtin "setattr")), (e P "sorted" 47 (.builtin "sorted")), (e P "sum" 48 (.builtin "sum")), (e P "vars" 49 (.builtin "vars")), (e P "None" 50 .none), (e P "Ellipsis" 51 .ellipsis), (e P "NotImplemented" 52 .notImplemented), (e P "False" 53 (.bool false)), (e P "True" 54 (.bool true)), (e P "bool" 55 (.type "bool")), (e P "memoryview" 56 (.type "memoryview")), (e P "bytearray" 57 (.type "bytearray")), (e P "bytes" 58 (.type "bytes")), (e P "classmethod" 59 (.type "classmethod")), (e P "complex" 60 (.type "complex")), (e P "dict" 61 (.type "dict")), (e P "enumerate" 62 (.type "enumerate")), (e P "filter" 63 (.type "filter")), (e P "float" 64 (.type "float")), (e P "frozenset" 65 (.type "frozenset")), (e P "property" 66 (.type "property")), (e P "int" 67 (.type "int")), (e P "list" 68 (.type "list")), (e P "map" 69 (.type "map")), (e P "object" 70 (.type "object")), (e P "range" 71 (.type "range")), (e P "reversed" 72 (.type "reversed")), (e P "set" 73 (.type "set")), (e P "slice" 74 (.type "slice")), (e P "staticmethod" 75 (.type "staticmethod")), (e P "str" 76 (.type "str")), (e P "super" 77 (.type "super")), (e P "tuple" 78 (.type "tuple")), (e P "type" 79 (.type "type")), (e P "zip" 80 (.type "zip")), (e P "__debug__" 81 (.bool true)), (e P "BaseException" 82 (.type "BaseException")), (e P "BaseExceptionGroup" 83 (.type "BaseExceptionGroup")), (e P "Exception" 84 (.type "Exception")), (e P "GeneratorExit" 85 (.type "GeneratorExit")), (e P "KeyboardInterrupt" 86 (.type "KeyboardInterrupt")), (e P "SystemExit" 87 (.type "SystemExit")), (e P "ArithmeticError" 88 (.type "ArithmeticError")), (e P "AssertionError" 89 (.type "AssertionError")), (e P "AttributeError" 90 (.type "AttributeError")), (e P "BufferError" 91 (.type "BufferError")), (e P "EOFError" 92 (.type "EOFError")), (e P "ImportError" 93 (.type "ImportError")), (e P "LookupError" 94 (.type "LookupError")), (e P "MemoryError" 95 (.type "MemoryError")), (e P "NameError" 96 (.type "NameError")), (e P "OSError" 97 (.type "OSError")), (e P "ReferenceError" 98 (.type "ReferenceError")), (e P "RuntimeError" 99 (.type "RuntimeError")), (e P "StopAsyncIteration" 100 (.type "StopAsyncIteration")), (e P "StopIteration" 101 (.type "StopIteration")), (e P "SyntaxError" 102 (.type "SyntaxError")), (e P "SystemError" 103 (.type "SystemError")), (e P "TypeError" 104 (.type "TypeError")), (e P "ValueError" 105 (.type "ValueError")), (e P "Warning" 106 (.type "Warning")), (e P "FloatingPointError" 107 (.type "FloatingPointError")), (e P "OverflowError" 108 (.type "OverflowError")), (e P "ZeroDivisionError" 109 (.type "ZeroDivisionError")), (e P "BytesWarning" 110 (.type "BytesWarning")), (e P "DeprecationWarning" 111 (.type "DeprecationWarning")), (e P "EncodingWarning" 112 (.type "EncodingWarning")), (e P "FutureWarning" 113 (.type "FutureWarning")), (e P "ImportWarning" 114 (.type "ImportWarning")), (e P "PendingDeprecationWarning" 115 (.type "PendingDeprecationWarning")), (e P "ResourceWarning" 116 (.type "ResourceWarning")), (e P "RuntimeWarning" 117 (.type "RuntimeWarning")), (e P "SyntaxWarning" 118 (.type "SyntaxWarning")), (e P "UnicodeWarning" 119 (.type "UnicodeWarning")), (e P "UserWarning" 120 (.type "UserWarning")), (e P "BlockingIOError" 121 (.type "BlockingIOError")), (e P "ChildProcessError" 122 (.type "ChildProcessError")), (e P "ConnectionError" 123 (.type "ConnectionError")), (e P "FileExistsError" 124 (.type "FileExistsError")), (e P "FileNotFoundError" 125 (.type "FileNotFoundError")), (e P "InterruptedError" 126 (.type "InterruptedError")), (e P "IsADirectoryError" 127 (.type "IsADirectoryError")), (e P "NotADirectoryError" 128 (.type "NotADirectoryError")), (e P "PermissionError" 129 (.type "PermissionError")), (e P "ProcessLookupError" 130 (.type "ProcessLookupError")), (e P "TimeoutError" 131 (.type "TimeoutError")), (e P "IndentationError" 132 (.type "IndentationError")), (e P "_IncompleteInputError" 133 (.type "_IncompleteInputError")), (e P "IndexError" 134 (.type "IndexError")), (e P "KeyError" 135 (.type "KeyError")), (e P "ModuleNotFoundError" 136 (.type "ModuleNotFoundError")), (e P "NotImplementedError" 137 (.type "NotImplementedError")), (e P "PythonFinalizationError" 138 (.type "PythonFinalizationError")), (e P "RecursionError" 139 (.type "RecursionError")), (e P "UnboundLocalError" 140 (.type "UnboundLocalError")), (e P "UnicodeError" 141 (.type "UnicodeError")), (e P "BrokenPipeError" 142 (.type "BrokenPipeError")), (e P "ConnectionAbortedError" 143 (.type "ConnectionAbortedError")), (e P "ConnectionRefusedError" 144 (.type "ConnectionRefusedError")), (e P "ConnectionResetError" 145 (.type "ConnectionResetError")), (e P "TabError" 146 (.type "TabError")), (e P "UnicodeDecodeError" 147 (.type "UnicodeDecodeError")), (e P "UnicodeEncodeError" 148 (.type "UnicodeEncodeError")), (e P "UnicodeTranslateError" 149 (.type "UnicodeTranslateError")), (e P "ExceptionGroup" 150 (.type "ExceptionGroup")), (e P "EnvironmentError" 151 (.type "OSError")), (e P "IOError" 152 (.type "OSError")), (e P "open" 153 (.builtin "open")), (e P "quit" 154 (.builtin "builtins.quit#opaque")), (e P "exit" 155 (.builtin "builtins.exit#opaque")), (e P "copyright" 156 (.builtin "builtins.copyright#opaque")), (e P "credits" 157 (.builtin "builtins.credits#opaque")), (e P "license" 158 (.builtin "builtins.license#opaque")), (e P "help" 159 (.builtin "builtins.help#opaque"))] 159 } ::
  { cls := (.type "dict"), data := .dict #[(e P "builtins" 162 (.ref 4)), (e P "__main__" 163 (.ref 5)), (e P "_sre" 244 (.ref 12))] 3 } ::
  { cls := .none, data := .dict #[(e P "\x69mport.loaded._sre" 183 (.bool true)), (e P "class._frozen_importlib.BuiltinImporter" 185 (.ref 14)), (e P "watched.\x69mport" 206 (.ref 18)), (e P "class._frozen_importlib.ModuleSpec" 216 (.ref 22)), (e P "sys.modules.booked-epoch" 245 (.int (3) 0)), (e P "\x69mport.later-laid._sre" 270 (.bool true)), (e P "watched.library" 272 (.ref 27)), (e P "watched.library-objects" 0 (s "\x0c" 0)), (e P "watched.library-deep._sre" 273 (s "\x04\x00\x00\x0b\x04\x00\x00\x0b\x04\x00\x00\x03\x04\x00\x00\x0b\x08\x04dict\x02" 0))] 9 } ::
  { cls := (.type "dict"), data := .dict #[(e P "__name__" 165 (s "re" 371)), (e P "__doc__" 166 .none), (e P "__package__" 167 .none), (e P "__loader__" 168 (.builtin "__main__.__loader__#opaque")), (e P "__spec__" 169 .none), (e P "__annotations__" 170 (.ref 6)), (e P "__builtins__" 171 (.ref 4)), (e P "__file__" 173 (s "/claim/cut.py" 172)), (e P "__cached__" 174 .none), (e P "_sre" 275 (.ref 12)), (e P "_wall" 288 (.ref 38)), (e P "heappush" 298 (.ref 45)), (e P "heappop" 307 (.ref 52)), (e P "_siftdown" 319 (.ref 59)), (e P "_siftup" 332 (.ref 66)), (e P "_twin_re_1" 370 (.ref 71))] 16 } ::
  { cls := (.type "module"), data := .plain, dict := some 0 } ::
  { cls := (.type "module"), data := .plain, dict := some 3 } ::
  { cls := (.type "dict"), data := .dict #[] 0 } ::
  { cls := (.type "tuple"), data := .seq #[] 0 } ::
  { cls := .none, data := .fields #[] } ::
  { cls := (.type "code"), data := .fields #[(s "<module>" 176), (s "<module>" 177), (s "/claim/cut.py" 178), (.int (1) 0), (.int (0) 0), (.int (0) 0), (.int (0) 0), (.int (0) 0), (.ref 7), (.bool false), (.int (175) 0), (.ref 8), .none, .none, .none, .none, (.int (179) 0), (.int (1) 0), (s "/claim/cut.py" 180)] } ::
  { cls := (.type "frame"), data := .plain, slots := #[some (.ref 9), some (.ref 3), some (.ref 3), none, some (s "__main__" 164), none, some (.ref 0)] } ::
  { cls := (.type "dict"), data := .dict #[(e P "__name__" 247 (s "_sre" 246)), (e P "__doc__" 248 .none), (e P "__package__" 250 (s "" 249)), (e P "__loader__" 251 (.builtin "off-the-table:_sre.__loader__:shared#opaque")), (e P "__spec__" 252 (.builtin "off-the-table:_sre.__spec__:shared#opaque")), (e P "compile" 253 (.builtin "_sre.compile")), (e P "template" 254 (.builtin "off-the-table:_sre.template:shared#opaque")), (e P "getcodesize" 255 (.builtin "off-the-table:_sre.getcodesize:shared#opaque")), (e P "ascii_iscased" 256 (.builtin "off-the-table:_sre.ascii_iscased:shared#opaque")), (e P "unicode_iscased" 257 (.builtin "off-the-table:_sre.unicode_iscased:shared#opaque")), (e P "ascii_tolower" 258 (.builtin "off-the-table:_sre.ascii_tolower:shared#opaque")), (e P "unicode_tolower" 259 (.builtin "off-the-table:_sre.unicode_tolower:shared#opaque")), (e P "MAGIC" 261 (.int (20230612) 260)), (e P "CODESIZE" 263 (.int (4) 262)), (e P "MAXREPEAT" 265 (.int (4294967295) 264)), (e P "MAXGROUPS" 267 (.int (1073741823) 266)), (e P "copyright" 269 (s " SRE 2.2.2 Copyright (c) 1997-2002 by Secret Labs AB " 268))] 17 } ::
  { cls := (.type "module"), data := .plain, dict := some 11 } ::
  { cls := (.type "dict"), data := .dict #[(e P "__module__" 189 (s "_frozen_importlib" 186)), (e P "__firstlineno__" 190 (.int (971) 187)), (e P "__doc__" 191 (.builtin "_frozen_importlib.BuiltinImporter.__doc__:str#opaque")), (e P "_ORIGIN" 192 (s "built-in" 188)), (e P "find_spec" 193 (.builtin "_frozen_importlib.BuiltinImporter.find_spec#opaque")), (e P "create_module" 194 (.builtin "_frozen_importlib.BuiltinImporter.create_module#opaque")), (e P "exec_module" 195 (.builtin "_frozen_importlib.BuiltinImporter.exec_module#opaque")), (e P "get_code" 196 (.builtin "_frozen_importlib.BuiltinImporter.get_code#opaque")), (e P "get_source" 197 (.builtin "_frozen_importlib.BuiltinImporter.get_source#opaque")), (e P "is_package" 198 (.builtin "_frozen_importlib.BuiltinImporter.is_package#opaque")), (e P "load_module" 199 (.builtin "_frozen_importlib.BuiltinImporter.load_module#opaque")), (e P "__static_attributes__" 200 (.ref 15)), (e P "__dict__" 202 (.ref 16)), (e P "__weakref__" 204 (.ref 17))] 14 } ::
  { cls := (.type "type"), data := .cls { name := (Str.ofString "BuiltinImporter"), bases := [(.type "object")], mro := [(.ref 14), (.type "object")], ns := 13, qualname := (Str.ofString "BuiltinImporter"), hasDict := true, slotNames := [], subclasses := [], abstract := false, hasDel := false } } ::
  { cls := (.type "tuple"), data := .seq #[] 0 } ::
  { cls := (.type "getset_descriptor"), data := .fields #[(s "__dict__" 201), (.ref 14), (.builtin "function.__dict__"), (.builtin "function.__dict__#set")] } ::
  { cls := (.type "getset_descriptor"), data := .fields #[(s "__weakref__" 203), (.ref 14), (.builtin "ExceptionGroup.__weakref__"), .none] } ::
  (ob w 18) ::
  { cls := (.type "list"), data := .seq #[] 0 } ::
  { cls := (.type "dict"), data := .dict #[(e P "name" 208 (s "_sre" 207)), (e P "loader" 209 (.ref 14)), (e P "origin" 210 (s "built-in" 184)), (e P "loader_state" 211 .none), (e P "submodule_search_locations" 212 .none), (e P "_uninitialized_submodules" 213 (.ref 19)), (e P "_set_fileattr" 214 (.bool false)), (e P "_cached" 215 .none), (e P "_initializing" 243 (.bool false))] 9 } ::
  { cls := (.type "dict"), data := .dict #[(e P "__module__" 227 (s "_frozen_importlib" 217)), (e P "__firstlineno__" 228 (.int (562) 218)), (e P "__doc__" 229 (.builtin "_frozen_importlib.ModuleSpec.__doc__:str#opaque")), (e P "__init__" 230 (.builtin "_frozen_importlib.ModuleSpec.__init__#opaque")), (e P "__repr__" 231 (.builtin "_frozen_importlib.ModuleSpec.__repr__#opaque")), (e P "__eq__" 232 (.builtin "_frozen_importlib.ModuleSpec.__eq__#opaque")), (e P "cached" 233 (.builtin "_frozen_importlib.ModuleSpec.cached#opaque")), (e P "parent" 234 (.builtin "_frozen_importlib.ModuleSpec.parent#opaque")), (e P "has_location" 235 (.builtin "_frozen_importlib.ModuleSpec.has_location#opaque")), (e P "__static_attributes__" 236 (.ref 23)), (e P "__dict__" 238 (.ref 24)), (e P "__weakref__" 240 (.ref 25)), (e P "__hash__" 241 .none)] 13 } ::
  { cls := (.type "type"), data := .cls { name := (Str.ofString "ModuleSpec"), bases := [(.type "object")], mro := [(.ref 22), (.type "object")], ns := 21, qualname := (Str.ofString "ModuleSpec"), hasDict := true, slotNames := [], subclasses := [], abstract := false, hasDel := false } } ::
  { cls := (.type "tuple"), data := .seq #[(s "_cached" 219), (s "_set_fileattr" 220), (s "_uninitialized_submodules" 221), (s "loader" 222), (s "loader_state" 223), (s "name" 224), (s "origin" 225), (s "submodule_search_locations" 226)] 0 } ::
  { cls := (.type "getset_descriptor"), data := .fields #[(s "__dict__" 237), (.ref 22), (.builtin "function.__dict__"), (.builtin "function.__dict__#set")] } ::
  { cls := (.type "getset_descriptor"), data := .fields #[(s "__weakref__" 239), (.ref 22), (.builtin "ExceptionGroup.__weakref__"), .none] } ::
  { cls := (.ref 22), data := .plain, dict := some 20 } ::
  (ob w 27) ::
  { cls := (.type "tuple"), data := .seq #[] 0 } ::
  { cls := .none, data := .fields #[(.int (2) 0), (.int (0) 0), (.ref 37), (.int (6) 0), (.int (0) 0), (.ref 44), (.int (9) 0), (.int (0) 0), (.ref 51), (.int (17) 0), (.int (0) 0), (.ref 58), (.int (28) 0), (.int (0) 0), (.ref 65)] } ::
  { cls := (.type "code"), data := .fields #[(s "<module>" 277), (s "<module>" 278), (s "/claim/cut.py" 279), (.int (1) 0), (.int (0) 0), (.int (0) 0), (.int (0) 0), (.int (0) 0), (.ref 28), (.bool false), (.int (276) 0), (.ref 29), .none, .none, .none, .none, (.int (280) 0), (.int (1) 0), (s "/claim/cut.py" 281)] } ::
  { cls := (.type "frame"), data := .plain, slots := #[some (.ref 30), some (.ref 3), some (.ref 3), none, some (s "__main__" 164), none, some (.ref 0)] } ::
  { cls := (.type "tuple"), data := .seq #[] 0 } ::
  { cls := .none, data := .fields #[] } ::
  { cls := (.type "tuple"), data := .seq #[(s "k" 285)] 0 } ::
  { cls := (.type "tuple"), data := .seq #[] 0 } ::
  (fo0 "_wall" "_wall" (tp 1)) ::
  { cls := (.type "code"), data := .fields #[(s "_wall" 282), (s "_wall" 283), (s "/claim/cut.py" 284), (.int (2) 0), (.int (1) 0), (.int (0) 0), (.int (0) 0), (.int (3) 0), (.ref 32), (.bool true), (.int (276) 0), (.ref 33), .none, (.ref 34), (.ref 35), (.ref 36), (.int (286) 0), (.int (2) 0), (s "/claim/cut.py" 287)] } ::
  (fo "_wall" "_wall" (tp 1) .none (s "__main__" 164) (.ref 37)) ::
  { cls := (.type "tuple"), data := .seq #[] 0 } ::
  { cls := .none, data := .fields #[] } ::
  { cls := (.type "tuple"), data := .seq #[(s "heap" 294), (s "item" 295)] 0 } ::
  { cls := (.type "tuple"), data := .seq #[] 0 } ::
  (fo0 "heappush" "heappush" (tp 3)) ::
  { cls := (.type "code"), data := .fields #[(s "heappush" 291), (s "heappush" 292), (s "/claim/cut.py" 293), (.int (6) 0), (.int (2) 0), (.int (0) 0), (.int (0) 0), (.int (3) 0), (.ref 39), (.bool true), (.int (276) 0), (.ref 40), .none, (.ref 41), (.ref 42), (.ref 43), (.int (296) 0), (.int (6) 0), (s "/claim/cut.py" 297)] } ::
  (fo "heappush" "heappush" (tp 3) .none (s "cpy313.heapq" 289) (.ref 44)) ::
  { cls := (.type "tuple"), data := .seq #[] 0 } ::
  { cls := .none, data := .fields #[] } ::
  { cls := (.type "tuple"), data := .seq #[(s "heap" 302), (s "lastelt" 303), (s "returnitem" 304)] 0 } ::
  { cls := (.type "tuple"), data := .seq #[] 0 } ::
  (fo0 "heappop" "heappop" (tp 4)) ::
  { cls := (.type "code"), data := .fields #[(s "heappop" 299), (s "heappop" 300), (s "/claim/cut.py" 301), (.int (9) 0), (.int (1) 0), (.int (0) 0), (.int (0) 0), (.int (3) 0), (.ref 46), (.bool true), (.int (276) 0), (.ref 47), .none, (.ref 48), (.ref 49), (.ref 50), (.int (305) 0), (.int (9) 0), (s "/claim/cut.py" 306)] } ::
  (fo "heappop" "heappop" (tp 4) .none (s "cpy313.heapq" 289) (.ref 51)) ::
  { cls := (.type "tuple"), data := .seq #[] 0 } ::
  { cls := .none, data := .fields #[] } ::
  { cls := (.type "tuple"), data := .seq #[(s "heap" 311), (s "startpos" 312), (s "pos" 313), (s "newitem" 314), (s "parentpos" 315), (s "parent" 316)] 0 } ::
  { cls := (.type "tuple"), data := .seq #[] 0 } ::
  (fo0 "_siftdown" "_siftdown" (tp 5)) ::
  { cls := (.type "code"), data := .fields #[(s "_siftdown" 308), (s "_siftdown" 309), (s "/claim/cut.py" 310), (.int (17) 0), (.int (3) 0), (.int (0) 0), (.int (0) 0), (.int (3) 0), (.ref 53), (.bool true), (.int (276) 0), (.ref 54), .none, (.ref 55), (.ref 56), (.ref 57), (.int (317) 0), (.int (17) 0), (s "/claim/cut.py" 318)] } ::
  (fo "_siftdown" "_siftdown" (tp 5) .none (s "cpy313.heapq" 289) (.ref 58)) ::
  { cls := (.type "tuple"), data := .seq #[] 0 } ::
  { cls := .none, data := .fields #[] } ::
  { cls := (.type "tuple"), data := .seq #[(s "heap" 323), (s "pos" 324), (s "endpos" 325), (s "startpos" 326), (s "newitem" 327), (s "childpos" 328), (s "rightpos" 329)] 0 } ::
  { cls := (.type "tuple"), data := .seq #[] 0 } ::
  (fo0 "_siftup" "_siftup" (tp 6)) ::
  { cls := (.type "code"), data := .fields #[(s "_siftup" 320), (s "_siftup" 321), (s "/claim/cut.py" 322), (.int (28) 0), (.int (2) 0), (.int (0) 0), (.int (0) 0), (.int (3) 0), (.ref 60), (.bool true), (.int (276) 0), (.ref 61), .none, (.ref 62), (.ref 63), (.ref 64), (.int (330) 0), (.int (28) 0), (s "/claim/cut.py" 331)] } ::
  (fo "_siftup" "_siftup" (tp 6) .none (s "cpy313.heapq" 289) (.ref 65)) ::
  { cls := (.type "list"), data := .seq #[(.int (14) 336), (.int (14) 337), (.int (4) 338), (.int (1) 339), (.int (1) 340), (.int (9) 341), (.int (0) 342), (.int (64) 343), (.int (0) 344), (.int (1342177280) 345), (.int (0) 346), (.int (0) 347), (.int (0) 348), (.int (0) 349), (.int (0) 350), (.int (17) 351), (.int (0) 352), (.int (13) 353), (.int (11) 354), (.int (9) 355), (.int (0) 356), (.int (64) 357), (.int (0) 358), (.int (1342177280) 359), (.int (0) 360), (.int (0) 361), (.int (0) 362), (.int (0) 363), (.int (0) 364), (.int (17) 365), (.int (1) 366), (.int (1) 367)] 0 } ::
  { cls := (.type "dict"), data := .dict #[] 0 } ::
  { cls := (.type "tuple"), data := .seq #[.none, .none] 0 } ::
  { cls := (.type "tuple"), data := .seq #[(.int (14) 0), (.int (14) 0), (.int (4) 0), (.int (1) 0), (.int (1) 0), (.int (9) 0), (.int (0) 0), (.int (64) 0), (.int (0) 0), (.int (1342177280) 0), (.int (0) 0), (.int (0) 0), (.int (0) 0), (.int (0) 0), (.int (0) 0), (.int (17) 0), (.int (0) 0), (.int (13) 0), (.int (11) 0), (.int (9) 0), (.int (0) 0), (.int (64) 0), (.int (0) 0), (.int (1342177280) 0), (.int (0) 0), (.int (0) 0), (.int (0) 0), (.int (0) 0), (.int (0) 0), (.int (17) 0), (.int (1) 0), (.int (1) 0)] 0 } ::
  { cls := (.type "re.Pattern"), data := .fields #[(s "([&~|])" 334), (.int (32) 369), (.int (1) 0), .none, .none, (.ref 70), (.int (0) 0)] } :: []⟩ } : Heap)) w.params
noncomputable def h9 (w : World) : Heap := (fun P : Params => ({ objs := ⟨
  { cls := (.type "dict"), data := .dict #[(e P "__name__" 1 (s "builtins" 160)), (e P "__doc__" 2 (.builtin "builtins.__doc__:str#opaque")), (e P "__package__" 3 (.builtin "builtins.__package__:str#opaque")), (e P "__loader__" 4 (.builtin "builtins.__loader__:shared#opaque")), (e P "__spec__" 5 (.builtin "builtins.__spec__#opaque")), (e P "__build_class__" 6 (.builtin "__build_class__")), (e P "__import__" 7 (.builtin "__import__")), (e P "abs" 8 (.builtin "abs")), (e P "all" 9 (.builtin "all")), (e P "any" 10 (.builtin "any")), (e P "ascii" 11 (.builtin "ascii")), (e P "bin" 12 (.builtin "bin")), (e P "breakpoint" 13 (.builtin "breakpoint")), (e P "callable" 14 (.builtin "callable")), (e P "chr" 15 (.builtin "chr")), (e P "compile" 16 (.builtin "compile")), (e P "delattr" 17 (.builtin "delattr")), (e P "dir" 18 (.builtin "dir")), (e P "divmod" 19 (.builtin "divmod")), (e P "eval" 20 (.builtin "eval")), (e P "exec" 21 (.builtin "exec")), (e P "format" 22 (.builtin "format")), (e P "getattr" 23 (.builtin "getattr")), (e P "globals" 24 (.builtin "globals")), (e P "hasattr" 25 (.builtin "hasattr")), (e P "hash" 26 (.builtin "hash")), (e P "hex" 27 (.builtin "hex")), (e P "id" 28 (.builtin "id")), (e P "input" 29 (.builtin "input")), (e P "isinstance" 30 (.builtin "isinstance")), (e P "issubclass" 31 (.builtin "issubclass")), (e P "iter" 32 (.builtin "iter")), (e P "aiter" 33 (.builtin "aiter")), (e P "len" 34 (.builtin "len")), (e P "locals" 35 (.builtin "locals")), (e P "max" 36 (.builtin "max")), (e P "min" 37 (.builtin "min")), (e P "next" 38 (.builtin "next")), (e P "anext" 39 (.builtin "anext")), (e P "oct" 40 (.builtin "oct")), (e P "ord" 41 (.builtin "ord")), (e P "pow" 42 (.builtin "pow")), (e P "print" 43 (.builtin "print")), (e P "repr" 44 (.builtin "repr")), (e P "round" 45 (.builtin "round")), (e P "setattr" 46 (.builtin "setattr")), (e P "sorted" 47 (.builtin "sorted")), (e P "sum" 48 (.builtin "sum")), (e P "vars" 49 (.builtin "vars")), (e P "None" 50 .none), (e P "Ellipsis" 51 .ellipsis), (e P "NotImplemented" 52 .notImplemented), (e P "False" 53 (.bool false)), (e P "True" 54 (.bool true)), (e P "bool" 55 (.type "bool")), (e P "memoryview" 56 (.type "memoryview")), (e P "bytearray" 57 (.type "bytearray")), (e P "bytes" 58 (.type "bytes")), (e P "classmethod" 59 (.type "classmethod")), (e P "complex" 60 (.type "complex")), (e P "dict" 61 (.type "dict")), (e P "enumerate" 62 (.type "enumerate")), (e P "filter" 63 (.type "filter")), (e P "float" 64 (.type "float")), (e P "frozenset" 65 (.type "frozenset")), (e P "property" 66 (.type "property")), (e P "int" 67 (.type "int")), (e P "list" 68 (.type "list")), (e P "map" 69 (.type "map")), (e P "object" 70 (.type "object")), (e P "range" 71 (.type "range")), (e P "reversed" 72 (.type "reversed")), (e P "set" 73 (.type "set")), (e P "slice" 74 (.type "slice")), (e P "staticmethod" 75 (.type "staticmethod")), (e P "str" 76 (.type "str")), (e P "super" 77 (.type "super")), (e P "tuple" 78 (.type "tuple")), (e P "type" 79 (.type "type")), (e P "zip" 80 (.type "zip")), (e P "__debug__" 81 (.bool true)), (e P "BaseException" 82 (.type "BaseException")), (e P "BaseExceptionGroup" 83 (.type "BaseExceptionGroup")), (e P "Exception" 84 (.type "Exception")), (e P "GeneratorExit" 85 (.type "GeneratorExit")), (e P "KeyboardInterrupt" 86 (.type "KeyboardInterrupt")), (e P "SystemExit" 87 (.type "SystemExit")), (e P "ArithmeticError" 88 (.type "ArithmeticError")), (e P "AssertionError" 89 (.type "AssertionError")), (e P "AttributeError" 90 (.type "AttributeError")), (e P "BufferError" 91 (.type "BufferError")), (e P "EOFError" 92 (.type "EOFError")), (e P "ImportError" 93 (.type "ImportError")), (e P "LookupError" 94 (.type "LookupError")), (e P "MemoryError" 95 (.type "MemoryError")), (e P "NameError" 96 (.type "NameError")), (e P "OSError" 97 (.type "OSError")), (e P "ReferenceError" 98 (.type "ReferenceError")), (e P "RuntimeError" 99 (.type "RuntimeError")), (e P "StopAsyncIteration" 100 (.type "StopAsyncIteration")), (e P "StopIteration" 101 (.type "StopIteration")), (e P "SyntaxError" 102 (.type "SyntaxError")), (e P "SystemError" 103 (.type "SystemError")), (e P "TypeError" 104 (.type "TypeError")), (e P "ValueError" 105 (.type "ValueError")), (e P "Warning" 106 (.type "Warning")), (e P "FloatingPointError" 107 (.type "FloatingPointError")), (e P "OverflowError" 108 (.type "OverflowError")), (e P "ZeroDivisionError" 109 (.type "ZeroDivisionError")), (e P "BytesWarning" 110 (.type "BytesWarning")), (e P "DeprecationWarning" 111 (.type "DeprecationWarning")), (e P "EncodingWarning" 112 (.type "EncodingWarning")), (e P "FutureWarning" 113 (.type "FutureWarning")), (e P "ImportWarning" 114 (.type "ImportWarning")), (e P "PendingDeprecationWarning" 115 (.type "PendingDeprecationWarning")), (e P "ResourceWarning" 116 (.type "ResourceWarning")), (e P "RuntimeWarning" 117 (.type "RuntimeWarning")), (e P "SyntaxWarning" 118 (.type "SyntaxWarning")), (e P "UnicodeWarning" 119 (.type "UnicodeWarning")), (e P "UserWarning" 120 (.type "UserWarning")), (e P "BlockingIOError" 121 (.type "BlockingIOError")), (e P "ChildProcessError" 122 (.type "ChildProcessError")), (e P "ConnectionError" 123 (.type "ConnectionError")), (e P "FileExistsError" 124 (.type "FileExistsError")), (e P "FileNotFoundError" 125 (.type "FileNotFoundError")), (e P "InterruptedError" 126 (.type "InterruptedError")), (e P "IsADirectoryError" 127 (.type "IsADirectoryError")), (e P "NotADirectoryError" 128 (.type "NotADirectoryError")), (e P "PermissionError" 129 (.type "PermissionError")), (e P "ProcessLookupError" 130 (.type "ProcessLookupError")), (e P "TimeoutError" 131 (.type "TimeoutError")), (e P "IndentationError" 132 (.type "IndentationError")), (e P "_IncompleteInputError" 133 (.type "_IncompleteInputError")), (e P "IndexError" 134 (.type "IndexError")), (e P "KeyError" 135 (.type "KeyError")), (e P "ModuleNotFoundError" 136 (.type "ModuleNotFoundError")), (e P "NotImplementedError" 137 (.type "NotImplementedError")), (e P "PythonFinalizationError" 138 (.type "PythonFinalizationError")), (e P "RecursionError" 139 (.type "RecursionError")), (e P "UnboundLocalError" 140 (.type "UnboundLocalError")), (e P "UnicodeError" 141 (.type "UnicodeError")), (e P "BrokenPipeError" 142 (.type "BrokenPipeError")), (e P "ConnectionAbortedError" 143 (.type "ConnectionAbortedError")), (e P "ConnectionRefusedError" 144 (.type "ConnectionRefusedError")), (e P "ConnectionResetError" 145 (.type "ConnectionResetError")), (e P "TabError" 146 (.type "TabError")), (e P "UnicodeDecodeError" 147 (.type "UnicodeDecodeError")), (e P "UnicodeEncodeError" 148 (.type "UnicodeEncodeError")), (e P "UnicodeTranslateError" 149 (.type "UnicodeTranslateError")), (e P "ExceptionGroup" 150 (.type "ExceptionGroup")), (e P "EnvironmentError" 151 (.type "OSError")), (e P "IOError" 152 (.type "OSError")), (e P "open" 153 (.builtin "open")), (e P "quit" 154 (.builtin "builtins.quit#opaque")), (e P "exit" 155 (.builtin "builtins.exit#opaque")), (e P "copyright" 156 (.builtin "builtins.copyright#opaque")), (e P "credits" 157 (.builtin "builtins.credits#opaque")), (e P "license" 158 (.builtin "builtins.license#opaque")), (e P "help" 159 (.builtin "builtins.help#opaque"))] 159 } ::
  { cls := (.type "dict"), data := .dict #[(e P "builtins" 162 (.ref 4)), (e P "__main__" 163 (.ref 5)), (e P "_sre" 244 (.ref 12))] 3 } ::
  { cls := .none, data := .dict #[(e P "\x69mport.loaded._sre" 183 (.bool true)), (e P "class._frozen_importlib.BuiltinImporter" 185 (.ref 14)), (e P "watched.\x69mport" 206 (.ref 18)), (e P "class._frozen_importlib.ModuleSpec" 216 (.ref 22)), (e P "sys.modules.booked-epoch" 245 (.int (3) 0)), (e P "\x69mport.later-laid._sre" 270 (.bool true)), (e P "watched.library" 272 (.ref 27)), (e P "watched.library-objects" 0 (s "\x0c" 0)), (e P "watched.library-deep._sre" 273 (s "\x04\x00\x00\x0b\x04\x00\x00\x0b\x04\x00\x00\x03\x04\x00\x00\x0b\x08\x04dict\x02" 0))] 9 } ::
  { cls := (.type "dict"), data := .dict #[(e P "__name__" 165 (s "re" 371)), (e P "__doc__" 166 .none), (e P "__package__" 167 .none), (e P "__loader__" 168 (.builtin "__main__.__loader__#opaque")), (e P "__spec__" 169 .none), (e P "__annotations__" 170 (.ref 6)), (e P "__builtins__" 171 (.ref 4)), (e P "__file__" 173 (s "/claim/cut.py" 172)), (e P "__cached__" 174 .none), (e P "_sre" 275 (.ref 12)), (e P "_wall" 288 (.ref 38)), (e P "heappush" 298 (.ref 45)), (e P "heappop" 307 (.ref 52)), (e P "_siftdown" 319 (.ref 59)), (e P "_siftup" 332 (.ref 66)), (e P "_twin_re_1" 370 (.ref 71)), (e P "_special_chars_map" 518 (.ref 73))] 17 } ::
  { cls := (.type "module"), data := .plain, dict := some 0 } ::
  { cls := (.type "module"), data := .plain, dict := some 3 } ::
  { cls := (.type "dict"), data := .dict #[] 0 } ::
  { cls := (.type "tuple"), data := .seq #[] 0 } ::
  { cls := .none, data := .fields #[] } ::
  { cls := (.type "code"), data := .fields #[(s "<module>" 176), (s "<module>" 177), (s "/claim/cut.py" 178), (.int (1) 0), (.int (0) 0), (.int (0) 0), (.int (0) 0), (.int (0) 0), (.ref 7), (.bool false), (.int (175) 0), (.ref 8), .none, .none, .none, .none, (.int (179) 0), (.int (1) 0), (s "/claim/cut.py" 180)] } ::
  { cls := (.type "frame"), data := .plain, slots := #[some (.ref 9), some (.ref 3), some (.ref 3), none, some (s "__main__" 164), none, some (.ref 0)] } ::
  { cls := (.type "dict"), data := .dict #[(e P "__name__" 247 (s "_sre" 246)), (e P "__doc__" 248 .none), (e P "__package__" 250 (s "" 249)), (e P "__loader__" 251 (.builtin "off-the-table:_sre.__loader__:shared#opaque")), (e P "__spec__" 252 (.builtin "off-the-table:_sre.__spec__:shared#opaque")), (e P "compile" 253 (.builtin "_sre.compile")), (e P "template" 254 (.builtin "off-the-table:_sre.template:shared#opaque")), (e P "getcodesize" 255 (.builtin "off-the-table:_sre.getcodesize:shared#opaque")), (e P "ascii_iscased" 256 (.builtin "off-the-table:_sre.ascii_iscased:shared#opaque")), (e P "unicode_iscased" 257 (.builtin "off-the-table:_sre.unicode_iscased:shared#opaque")), (e P "ascii_tolower" 258 (.builtin "off-the-table:_sre.ascii_tolower:shared#opaque")), (e P "unicode_tolower" 259 (.builtin "off-the-table:_sre.unicode_tolower:shared#opaque")), (e P "MAGIC" 261 (.int (20230612) 260)), (e P "CODESIZE" 263 (.int (4) 262)), (e P "MAXREPEAT" 265 (.int (4294967295) 264)), (e P "MAXGROUPS" 267 (.int (1073741823) 266)), (e P "copyright" 269 (s " SRE 2.2.2 Copyright (c) 1997-2002 by Secret Labs AB " 268))] 17 } ::
  { cls := (.type "module"), data := .plain, dict := some 11 } ::
  { cls := (.type "dict"), data := .dict #[(e P "__module__" 189 (s "_frozen_importlib" 186)), (e P "__firstlineno__" 190 (.int (971) 187)), (e P "__doc__" 191 (.builtin "_frozen_importlib.BuiltinImporter.__doc__:str#opaque")), (e P "_ORIGIN" 192 (s "built-in" 188)), (e P "find_spec" 193 (.builtin "_frozen_importlib.BuiltinImporter.find_spec#opaque")), (e P "create_module" 194 (.builtin "_frozen_importlib.BuiltinImporter.create_module#opaque")), (e P "exec_module" 195 (.builtin "_frozen_importlib.BuiltinImporter.exec_module#opaque")), (e P "get_code" 196 (.builtin "_frozen_importlib.BuiltinImporter.get_code#opaque")), (e P "get_source" 197 (.builtin "_frozen_importlib.BuiltinImporter.get_source#opaque")), (e P "is_package" 198 (.builtin "_frozen_importlib.BuiltinImporter.is_package#opaque")), (e P "load_module" 199 (.builtin "_frozen_importlib.BuiltinImporter.load_module#opaque")), (e P "__static_attributes__" 200 (.ref 15)), (e P "__dict__" 202 (.ref 16)), (e P "__weakref__" 204 (.ref 17))] 14 } ::
  { cls := (.type "type"), data := .cls { name := (Str.ofString "BuiltinImporter"), bases := [(.type "object")], mro := [(.ref 14), (.type "object")], ns := 13, qualname := (Str.ofString "BuiltinImporter"), hasDict := true, slotNames := [], subclasses := [], abstract := false, hasDel := false } } ::
  { cls := (.type "tuple"), data := .seq #[] 0 } ::
  { cls := (.type "getset_descriptor"), data := .fields #[(s "__dict__" 201), (.ref 14), (.builtin "function.__dict__"), (.builtin "function.__dict__#set")] } ::
  { cls := (.type "getset_descriptor"), data := .fields #[(s "__weakref__" 203), (.ref 14), (.builtin "ExceptionGroup.__weakref__"), .none] } ::
  (ob w 18) ::
  { cls := (.type "list"), data := .seq #[] 0 } ::
  { cls := (.type "dict"), data := .dict #[(e P "name" 208 (s "_sre" 207)), (e P "loader" 209 (.ref 14)), (e P "origin" 210 (s "built-in" 184)), (e P "loader_state" 211 .none), (e P "submodule_search_locations" 212 .none), (e P "_uninitialized_submodules" 213 (.ref 19)), (e P "_set_fileattr" 214 (.bool false)), (e P "_cached" 215 .none), (e P "_initializing" 243 (.bool false))] 9 } ::
  { cls := (.type "dict"), data := .dict #[(e P "__module__" 227 (s "_frozen_importlib" 217)), (e P "__firstlineno__" 228 (.int (562) 218)), (e P "__doc__" 229 (.builtin "_frozen_importlib.ModuleSpec.__doc__:str#opaque")), (e P "__init__" 230 (.builtin "_frozen_importlib.ModuleSpec.__init__#opaque")), (e P "__repr__" 231 (.builtin "_frozen_importlib.ModuleSpec.__repr__#opaque")), (e P "__eq__" 232 (.builtin "_frozen_importlib.ModuleSpec.__eq__#opaque")), (e P "cached" 233 (.builtin "_frozen_importlib.ModuleSpec.cached#opaque")), (e P "parent" 234 (.builtin "_frozen_importlib.ModuleSpec.parent#opaque")), (e P "has_location" 235 (.builtin "_frozen_importlib.ModuleSpec.has_location#opaque")), (e P "__static_attributes__" 236 (.ref 23)), (e P "__dict__" 238 (.ref 24)), (e P "__weakref__" 240 (.ref 25)), (e P "__hash__" 241 .none)] 13 } ::
  { cls := (.type "type"), data := .cls { name := (Str.ofString "ModuleSpec"), bases := [(.type "object")], mro := [(.ref 22), (.type "object")], ns := 21, qualname := (Str.ofString "ModuleSpec"), hasDict := true, slotNames := [], subclasses := [], abstract := false, hasDel := false } } ::
  { cls := (.type "tuple"), data := .seq #[(s "_cached" 219), (s "_set_fileattr" 220), (s "_uninitialized_submodules" 221), (s "loader" 222), (s "loader_state" 223), (s "name" 224), (s "origin" 225), (s "submodule_search_locations" 226)] 0 } ::
  { cls := (.type "getset_descriptor"), data := .fields #[(s "__dict__" 237), (.ref 22), (.builtin "function.__dict__"), (.builtin "function.__dict__#set")] } ::
  { cls := (.type "getset_descriptor"), data := .fields #[(s "__weakref__" 239), (.ref 22), (.builtin "ExceptionGroup.__weakref__"), .none] } ::
  { cls := (.ref 22), data := .plain, dict := some 20 } ::
  (ob w 27) ::
  { cls := (.type "tuple"), data := .seq #[] 0 } ::
  { cls := .none, data := .fields #[(.int (2) 0), (.int (0) 0), (.ref 37), (.int (6) 0), (.int (0) 0), (.ref 44), (.int (9) 0), (.int (0) 0), (.ref 51), (.int (17) 0), (.int (0) 0), (.ref 58), (.int (28) 0), (.int (0) 0), (.ref 65)] } ::
  { cls := (.type "code"), data := .fields #[(s "<module>" 277), (s "<module>" 278), (s "/claim/cut.py" 279), (.int (1) 0), (.int (0) 0), (.int (0) 0), (.int (0) 0), (.int (0) 0), (.ref 28), (.bool false), (.int (276) 0), (.ref 29), .none, .none, .none, .none, (.int (280) 0), (.int (1) 0), (s "/claim/cut.py" 281)] } ::
  { cls := (.type "frame"), data := .plain, slots := #[some (.ref 30), some (.ref 3), some (.ref 3), none, some (s "__main__" 164), none, some (.ref 0)] } ::
  { cls := (.type "tuple"), data := .seq #[] 0 } ::
  { cls := .none, data := .fields #[] } ::
  { cls := (.type "tuple"), data := .seq #[(s "k" 285)] 0 } ::
  { cls := (.type "tuple"), data := .seq #[] 0 } ::
  (fo0 "_wall" "_wall" (tp 1)) ::
  { cls := (.type "code"), data := .fields #[(s "_wall" 282), (s "_wall" 283), (s "/claim/cut.py" 284), (.int (2) 0), (.int (1) 0), (.int (0) 0), (.int (0) 0), (.int (3) 0), (.ref 32), (.bool true), (.int (276) 0), (.ref 33), .none, (.ref 34), (.ref 35), (.ref 36), (.int (286) 0), (.int (2) 0), (s "/claim/cut.py" 287)] } ::
  (fo "_wall" "_wall" (tp 1) .none (s "__main__" 164) (.ref 37)) ::
  { cls := (.type "tuple"), data := .seq #[] 0 } ::
  { cls := .none, data := .fields #[] } ::
  { cls := (.type "tuple"), data := .seq #[(s "heap" 294), (s "item" 295)] 0 } ::
  { cls := (.type "tuple"), data := .seq #[] 0 } ::
  (fo0 "heappush" "heappush" (tp 3)) ::
  { cls := (.type "code"), data := .fields #[(s "heappush" 291), (s "heappush" 292), (s "/claim/cut.py" 293), (.int (6) 0), (.int (2) 0), (.int (0) 0), (.int (0) 0), (.int (3) 0), (.ref 39), (.bool true), (.int (276) 0), (.ref 40), .none, (.ref 41), (.ref 42), (.ref 43), (.int (296) 0), (.int (6) 0), (s "/claim/cut.py" 297)] } ::
  (fo "heappush" "heappush" (tp 3) .none (s "cpy313.heapq" 289) (.ref 44)) ::
  { cls := (.type "tuple"), data := .seq #[] 0 } ::
  { cls := .none, data := .fields #[] } ::
  { cls := (.type "tuple"), data := .seq #[(s "heap" 302), (s "lastelt" 303), (s "returnitem" 304)] 0 } ::
  { cls := (.type "tuple"), data := .seq #[] 0 } ::
  (fo0 "heappop" "heappop" (tp 4)) ::
  { cls := (.type "code"), data := .fields #[(s "heappop" 299), (s "heappop" 300), (s "/claim/cut.py" 301), (.int (9) 0), (.int (1) 0), (.int (0) 0), (.int (0) 0), (.int (3) 0), (.ref 46), (.bool true), (.int (276) 0), (.ref 47), .none, (.ref 48), (.ref 49), (.ref 50), (.int (305) 0), (.int (9) 0), (s "/claim/cut.py" 306)] } ::
  (fo "heappop" "heappop" (tp 4) .none (s "cpy313.heapq" 289) (.ref 51)) ::
  { cls := (.type "tuple"), data := .seq #[] 0 } ::
  { cls := .none, data := .fields #[] } ::
  { cls := (.type "tuple"), data := .seq #[(s "heap" 311), (s "startpos" 312), (s "pos" 313), (s "newitem" 314), (s "parentpos" 315), (s "parent" 316)] 0 } ::
  { cls := (.type "tuple"), data := .seq #[] 0 } ::
  (fo0 "_siftdown" "_siftdown" (tp 5)) ::
  { cls := (.type "code"), data := .fields #[(s "_siftdown" 308), (s "_siftdown" 309), (s "/claim/cut.py" 310), (.int (17) 0), (.int (3) 0), (.int (0) 0), (.int (0) 0), (.int (3) 0), (.ref 53), (.bool true), (.int (276) 0), (.ref 54), .none, (.ref 55), (.ref 56), (.ref 57), (.int (317) 0), (.int (17) 0), (s "/claim/cut.py" 318)] } ::
  (fo "_siftdown" "_siftdown" (tp 5) .none (s "cpy313.heapq" 289) (.ref 58)) ::
  { cls := (.type "tuple"), data := .seq #[] 0 } ::
  { cls := .none, data := .fields #[] } ::
  { cls := (.type "tuple"), data := .seq #[(s "heap" 323), (s "pos" 324), (s "endpos" 325), (s "startpos" 326), (s "newitem" 327), (s "childpos" 328), (s "rightpos" 329)] 0 } ::
  { cls := (.type "tuple"), data := .seq #[] 0 } ::
  (fo0 "_siftup" "_siftup" (tp 6)) ::
  { cls := (.type "code"), data := .fields #[(s "_siftup" 320), (s "_siftup" 321), (s "/claim/cut.py" 322), (.int (28) 0), (.int (2) 0), (.int (0) 0), (.int (0) 0), (.int (3) 0), (.ref 60), (.bool true), (.int (276) 0), (.ref 61), .none, (.ref 62), (.ref 63), (.ref 64), (.int (330) 0), (.int (28) 0), (s "/claim/cut.py" 331)] } ::
  (fo "_siftup" "_siftup" (tp 6) .none (s "cpy313.heapq" 289) (.ref 65)) ::
  { cls := (.type "list"), data := .seq #[(.int (14) 336), (.int (14) 337), (.int (4) 338), (.int (1) 339), (.int (1) 340), (.int (9) 341), (.int (0) 342), (.int (64) 343), (.int (0) 344), (.int (1342177280) 345), (.int (0) 346), (.int (0) 347), (.int (0) 348), (.int (0) 349), (.int (0) 350), (.int (17) 351), (.int (0) 352), (.int (13) 353), (.int (11) 354), (.int (9) 355), (.int (0) 356), (.int (64) 357), (.int (0) 358), (.int (1342177280) 359), (.int (0) 360), (.int (0) 361), (.int (0) 362), (.int (0) 363), (.int (0) 364), (.int (17) 365), (.int (1) 366), (.int (1) 367)] 0 } ::
  { cls := (.type "dict"), data := .dict #[] 0 } ::
  { cls := (.type "tuple"), data := .seq #[.none, .none] 0 } ::
  { cls := (.type "tuple"), data := .seq #[(.int (14) 0), (.int (14) 0), (.int (4) 0), (.int (1) 0), (.int (1) 0), (.int (9) 0), (.int (0) 0), (.int (64) 0), (.int (0) 0), (.int (1342177280) 0), (.int (0) 0), (.int (0) 0), (.int (0) 0), (.int (0) 0), (.int (0) 0), (.int (17) 0), (.int (0) 0), (.int (13) 0), (.int (11) 0), (.int (9) 0), (.int (0) 0), (.int (64) 0), (.int (0) 0), (.int (1342177280) 0), (.int (0) 0), (.int (0) 0), (.int (0) 0), (.int (0) 0), (.int (0) 0), (.int (17) 0), (.int (1) 0), (.int (1) 0)] 0 } ::
  { cls := (.type "re.Pattern"), data := .fields #[(s "([&~|])" 334), (.int (32) 369), (.int (1) 0), .none, .none, (.ref 70), (.int (0) 0)] } ::
  { cls := (.type "bytes_iterator"), data := .fields #[.none, (.int (24) 0)] } ::
  { cls := (.type "dict"), data := .dict #[{ hash := 40, key := (.int (40) 374), val := (s "\\(" 378) }, { hash := 41, key := (.int (41) 380), val := (s "\\)" 384) }, { hash := 91, key := (.int (91) 386), val := (s "\\[" 390) }, { hash := 93, key := (.int (93) 392), val := (s "\\]" 396) }, { hash := 123, key := (.int (123) 398), val := (s "\\{" 402) }, { hash := 125, key := (.int (125) 404), val := (s "\\}" 408) }, { hash := 63, key := (.int (63) 410), val := (s "\\?" 414) }, { hash := 42, key := (.int (42) 416), val := (s "\\*" 420) }, { hash := 43, key := (.int (43) 422), val := (s "\\+" 426) }, { hash := 45, key := (.int (45) 428), val := (s "\\-" 432) }, { hash := 124, key := (.int (124) 434), val := (s "\\|" 438) }, { hash := 94, key := (.int (94) 440), val := (s "\\^" 444) }, { hash := 36, key := (.int (36) 446), val := (s "\\$" 450) }, { hash := 92, key := (.int (92) 452), val := (s "\\\\" 456) }, { hash := 46, key := (.int (46) 458), val := (s "\\." 462) }, { hash := 38, key := (.int (38) 464), val := (s "\\&" 468) }, { hash := 126, key := (.int (126) 470), val := (s "\\~" 474) }, { hash := 35, key := (.int (35) 476), val := (s "\\#" 480) }, { hash := 32, key := (.int (32) 482), val := (s "\\ " 486) }, { hash := 9, key := (.int (9) 488), val := (s "\\\t" 492) }, { hash := 10, key := (.int (10) 494), val := (s "\\\n" 498) }, { hash := 13, key := (.int (13) 500), val := (s "\\\x0d" 504) }, { hash := 11, key := (.int (11) 506), val := (s "\\\x0b" 510) }, { hash := 12, key := (.int (12) 512), val := (s "\\\x0c" 516) }] 24 } ::
  { cls := (.type "dict"), data := .dict #[] 2 } ::
  { cls := (.type "tuple"), data := .seq #[] 0 } ::
  { cls := (.type "StopIteration"), data := .fields #[(.ref 75), .none, .none, .none, (.bool false), .none] } :: []⟩ } : Heap)) w.params
noncomputable def bE : Env := { scope := pw.main.scope, locals := mainNs, globals := mainNs, cells := [], code := .ref 30, frame := some 31 }
noncomputable def bb : List Stmt := behindTheImports pw
noncomputable def cE : Code := .body bb bE
noncomputable def q0 : Pos := ⟨0, 0, 0, 0⟩
def Xq : Shared → Bool := fun s => xlAt qv [] s && recOk (RowW.records PySem.Challenge.rw_ij0184_02.row.toRowW) s

theorem c1 (w : World) : ((PySem.W.Fast.tw10274390034422433532 PySem.W.Fast.tw14364793385576792824 (opening pw) w 5676 (start (opening pw)).1 (start (opening pw)).2).bind (PySem.W.Fast.tw14289696077712309145 pw)).map (fun s₀ => (s₀.heap.isNs mainGlobals && s₀.gens.size == 0, s₀.heap.objs.size, s₀.heap.nsMap mainGlobals "__annotations__",
      (PySem.W.Fast.tw15667345088766844465 PySem.W.Fast.tw14364793385576792824 pw w 28 (some (.ref 6)) 12 s₀ (topStub pw)).bind fun x => (PySem.W.Fast.tw14374325043358763698 PySem.W.Fast.tw14364793385576792824 pw w 28 (some (.ref 6)) 1 2 x.1 ⟨(PySem.W.Fast.tw1066825118222455980 bb bE).wrap (fun _ => doneF .next) deadEnd id id, cE, q0, [topFrame q0]⟩).bind fun y =>
        (PySem.W.Fast.tw14374325043358763698 PySem.W.Fast.tw14364793385576792824 pw w 28 (some (.ref 6)) 1 350 y.2.1 ⟨(PySem.W.Fast.tw12563942051412417395 (bb.take 8) bE).wrap doneF deadEnd id id, cE, y.2.2.2, [topFrame q0]⟩).map fun z =>
        (x.2, (y.1, y.2.2.1, y.2.2.2), (z.1, z.2.1.heap, z.2.1.gens, z.2.1.drawn, z.2.1.toks, z.2.2.1, z.2.2.2)))) =
      some (true, 28, (some (.ref 6)), some (⟨PySem.W.Fast.tw11892475500146522536 PySem.W.Fast.tw14364793385576792824 cE, cE, q0, [topFrame q0]⟩, (.next, cE, q0), (.next, h8 w, #[], {}, 373, cE, ⟨43, 0, 43, 8⟩))) := by kernel_rfl
def P2 (w : World) : Prop := (fun os => PySem.W.Fast.tw14374325043358763698 PySem.W.Fast.tw14364793385576792824 pw w 28 (some (.ref 6)) 1 1300 ⟨h8 w, #[], {}, 373, os⟩ ⟨(PySem.W.Fast.tw12563942051412417395 ((bb.drop 8).take 1) bE).wrap doneF deadEnd id id, cE, ⟨43, 0, 43, 8⟩, [topFrame q0]⟩) = fun os => some (.next, ⟨h9 w, #[], {}, 519, os⟩, cE, ⟨44, 0, 44, 18⟩)
theorem m0 (w : World) : P2 ((w.withFollow "special-get-raises" false).withFollow "comprehension-iter-twice" false) := by unfold P2; kernel_rfl
theorem m1 (w : World) : P2 ((w.withFollow "special-get-raises" false).withFollow "comprehension-iter-twice" true) := by unfold P2; kernel_rfl
theorem m2 (w : World) : P2 ((w.withFollow "special-get-raises" true).withFollow "comprehension-iter-twice" false) := by unfold P2; kernel_rfl
theorem m3 (w : World) : P2 ((w.withFollow "special-get-raises" true).withFollow "comprehension-iter-twice" true) := by unfold P2; kernel_rfl
theorem c2 (w : World) : P2 w :=
  byRow2 "comprehension-iter-twice" (fun w => byRow2 "special-get-raises" (P := fun w => P2 (w.withFollow "comprehension-iter-twice" false)) m0 m2 w) (fun w => byRow2 "special-get-raises" (P := fun w => P2 (w.withFollow "comprehension-iter-twice" true)) m1 m3 w) w
theorem c3 (w : World) : ((PySem.W.Fast.tw10274390034422433532 PySem.W.Fast.tw14364793385576792824 (opening pw) w 5676 (start (opening pw)).1 (start (opening pw)).2).bind (PySem.W.Fast.tw14289696077712309145 pw)).map (fun s₀ => fun os => (PySem.W.Fast.tw14374325043358763698 PySem.W.Fast.tw14364793385576792824 pw w 28 (some (.ref 6)) 1 1500 ⟨h9 w, #[], {}, 519, os⟩ ⟨(PySem.W.Fast.tw12563942051412417395 ((bb.drop 8).drop 1) bE).wrap doneF deadEnd id id, cE, ⟨44, 0, 44, 18⟩, [topFrame q0]⟩).bind fun y =>
      (PySem.W.Fast.tw14082659384304107361 PySem.W.Fast.tw14364793385576792824 pw w 28 (some (.ref 6)) 2 y.2.1 ⟨doneF .next, cE, y.2.2.2, [topFrame q0]⟩).map fun s₁ => ((y.1, y.2.2.1), (staticsOk (importedModules pw.main.body) s₀.heap s₁.heap && namesBound pw s₁.heap && gensDone s₁ && laidKept s₀.heap s₁.heap),
        openSeen qv lo (importedModules pw.main.body) Xq true s₁, hk.obs s₁)) = some (fun _ => some ((.next, cE), true, openGood qv lo, hk.val w)) := by kernel_rfl
theorem left : LeftO PySem.Challenge.rw_ij0184_02.row.prog qv lo Xq hk.obs hk.val 5676 true :=
  left_cut PySem.W.Fast.te14364793385576792824 PySem.W.Fast.te15667345088766844465 PySem.W.Fast.te14374325043358763698 PySem.W.Fast.te14082659384304107361 PySem.W.Fast.te10274390034422433532 PySem.W.Fast.te14289696077712309145 PySem.W.Fast.te1066825118222455980 PySem.W.Fast.te12563942051412417395 PySem.W.Fast.te11892475500146522536
    (b := bb) rfl (by rw [List.take_append_drop, List.take_append_drop]) c1 c2 c3 (by decide)
theorem wellOk : (PySem.Challenge.rw_ij0184_02).wellSaid = true := by
  unfold OpenLaw.wellSaid
  repeat' (first | with_reducible apply look_both | unfold OpenRow.wellSaid | unfold OpenRow.partSaid | unfold looksOpen)
  all_goals decide +kernel
theorem hd (call : WalkO qv lo (XL qv []) (kmHook hp hpA hpA_eq [85]).says PySem.Challenge.rw_ij0184_02.row.toRowW ⟨Str.ofString "law", fA (tp 25), fB (tp 25), fS (tp 25), fP (tp 25)⟩ [] fun f vs => PySem.call f vs) : PySem.Challenge.rw_ij0184_02.Holds :=
  holds_law wellOk fun k1 => holds_open left hk.of hk.keeps (fun s e => xl_of s (Bool.and_eq_true_iff.mp e).1) XL.keeps (by rfl) (by rfl) (by rfl) (fun s e => recFacts_of (Bool.and_eq_true_iff.mp e).2) (by rfl) k1 (by decide +kernel) ⟨rfl, rfl, rfl, rfl, rfl, by decide +kernel⟩ (by w_witness2) call

end HD
end
section
open PySem PySem.Calls PyProof.Rows PySem.W
set_option autoImplicit false
set_option linter.unusedVariables false
set_option maxRecDepth 100000
namespace PL

@[reducible] noncomputable def KK (P : Params) : Frag := HD.hp P
noncomputable def fdAt (P : Params) (a : Addr) : FuncData := match (KK P).lookup a with
  | some ⟨_, _, .func fd, _⟩ => fd
  | _ => default
noncomputable def bodyOf (fd : FuncData) : List Stmt := match fd.body with
  | .stmts b => b
  | _ => []
structure Ok (G : Gd) : Prop where
  K : (KK G.w.params).In G.t
  nolimit : G.t.NoLimit
  g : ∃ mg mb, G.t.Ns mainGlobals mg ∧ G.t.Ns builtinsNs mb ∧ ∀ x : Str, x ≠ "__name__" → mb x = bootBuiltins x
  bm : ∃ mg, G.t.Ns mainGlobals mg ∧ ∃ bm ob, mg "__builtins__" = some (.ref bm) ∧ bm ≠ builtinsNs ∧ bm ≠ mainGlobals ∧ G.t.get? bm = some ob ∧ ob.cls = .type "module" ∧ ob.dict = some builtinsNs ∧ ob.data = .plain
noncomputable def isFn : Option Obj → Bool
  | some ⟨_, _, .func _, _⟩ => true
  | _ => false
theorem kept_of {G : Gd} (hG : Ok G) (a : Addr) (h : isFn ((KK G.w.params).lookup a) = true) : Kept G (.ref a) := by
  unfold isFn at h
  split at h
  · rename_i q; exact .fn (hG.K _ _ q) rfl
  · cases h
@[reducible] noncomputable def gtab : List (Str × AV) := [(Str.ofString "_wall", .ref 38), (Str.ofString "heappush", .ref 45), (Str.ofString "heappop", .ref 52), (Str.ofString "_siftdown", .ref 59), (Str.ofString "_siftup", .ref 66), (Str.ofString "_twin_re_1", .ref 71), (Str.ofString "_special_chars_map", .ref 73), (Str.ofString "escape", .ref 83), (Str.ofString "_translate", .ref 90), (Str.ofString "_NODE_OUT", .int (-1)), (Str.ofString "_NODE_DONE", .int (-2)), (Str.ofString "_NodeInfo", .ref 109), (Str.ofString "CycleError", .ref 124), (Str.ofString "TopologicalSorter", .ref 206), (Str.ofString "_law_takes", .ref 217), (Str.ofString "_law_taken", .ref 222), (Str.ofString "_law_said", .ref 229), (Str.ofString "_law_narrow", .ref 234), (Str.ofString "_law_run", .ref 239), (Str.ofString "law", .ref 244), (Str.ofString "len", .lit (.builtin "len")), (Str.ofString "min", .lit (.builtin "min")), (Str.ofString "isinstance", .lit (.builtin "isinstance")), (Str.ofString "iter", .lit (.builtin "iter")), (Str.ofString "range", .lit (.type "range")), (Str.ofString "zip", .lit (.type "zip")), (Str.ofString "set", .lit (.type "set")), (Str.ofString "tuple", .lit (.type "tuple")), (Str.ofString "bool", .lit (.type "bool")), (Str.ofString "str", .lit (.type "str")), (Str.ofString "StopIteration", .lit (.type "StopIteration"))]
theorem gtab_ok {G : Gd} (hG : Ok G) : GlobOk G gtab := by
  obtain ⟨mg, mb, n1, n2, hb⟩ := hG.g
  refine ⟨mg, mb, n1, n2, ?_⟩
  show GlobT mg mb gtab
  refine GlobT.mod hG.K n1 (rfl : nsIn _ _ (Str.ofString "_wall") = some (some (.ref 38))) rfl ?_
  refine GlobT.mod hG.K n1 (rfl : nsIn _ _ (Str.ofString "heappush") = some (some (.ref 45))) rfl ?_
  refine GlobT.mod hG.K n1 (rfl : nsIn _ _ (Str.ofString "heappop") = some (some (.ref 52))) rfl ?_
  refine GlobT.mod hG.K n1 (rfl : nsIn _ _ (Str.ofString "_siftdown") = some (some (.ref 59))) rfl ?_
  refine GlobT.mod hG.K n1 (rfl : nsIn _ _ (Str.ofString "_siftup") = some (some (.ref 66))) rfl ?_
  refine GlobT.mod hG.K n1 (rfl : nsIn _ _ (Str.ofString "_twin_re_1") = some (some (.ref 71))) rfl ?_
  refine GlobT.mod hG.K n1 (rfl : nsIn _ _ (Str.ofString "_special_chars_map") = some (some (.ref 73))) rfl ?_
  refine GlobT.mod hG.K n1 (rfl : nsIn _ _ (Str.ofString "escape") = some (some (.ref 83))) rfl ?_
  refine GlobT.mod hG.K n1 (rfl : nsIn _ _ (Str.ofString "_translate") = some (some (.ref 90))) rfl ?_
  refine GlobT.mod hG.K n1 (rfl : nsIn _ _ (Str.ofString "_NODE_OUT") = some (some (.int (-1) _))) ⟨_, rfl⟩ ?_
  refine GlobT.mod hG.K n1 (rfl : nsIn _ _ (Str.ofString "_NODE_DONE") = some (some (.int (-2) _))) ⟨_, rfl⟩ ?_
  refine GlobT.mod hG.K n1 (rfl : nsIn _ _ (Str.ofString "_NodeInfo") = some (some (.ref 109))) rfl ?_
  refine GlobT.mod hG.K n1 (rfl : nsIn _ _ (Str.ofString "CycleError") = some (some (.ref 124))) rfl ?_
  refine GlobT.mod hG.K n1 (rfl : nsIn _ _ (Str.ofString "TopologicalSorter") = some (some (.ref 206))) rfl ?_
  refine GlobT.mod hG.K n1 (rfl : nsIn _ _ (Str.ofString "_law_takes") = some (some (.ref 217))) rfl ?_
  refine GlobT.mod hG.K n1 (rfl : nsIn _ _ (Str.ofString "_law_taken") = some (some (.ref 222))) rfl ?_
  refine GlobT.mod hG.K n1 (rfl : nsIn _ _ (Str.ofString "_law_said") = some (some (.ref 229))) rfl ?_
  refine GlobT.mod hG.K n1 (rfl : nsIn _ _ (Str.ofString "_law_narrow") = some (some (.ref 234))) rfl ?_
  refine GlobT.mod hG.K n1 (rfl : nsIn _ _ (Str.ofString "_law_run") = some (some (.ref 239))) rfl ?_
  refine GlobT.mod hG.K n1 (rfl : nsIn _ _ (Str.ofString "law") = some (some (.ref 244))) rfl ?_
  refine GlobT.bi hG.K n1 hb (rfl : nsIn _ _ (Str.ofString "len") = some none) (rfl : bootBuiltins _ = some (.builtin "len")) (by decide) rfl ?_
  refine GlobT.bi hG.K n1 hb (rfl : nsIn _ _ (Str.ofString "min") = some none) (rfl : bootBuiltins _ = some (.builtin "min")) (by decide) rfl ?_
  refine GlobT.bi hG.K n1 hb (rfl : nsIn _ _ (Str.ofString "isinstance") = some none) (rfl : bootBuiltins _ = some (.builtin "isinstance")) (by decide) rfl ?_
  refine GlobT.bi hG.K n1 hb (rfl : nsIn _ _ (Str.ofString "iter") = some none) (rfl : bootBuiltins _ = some (.builtin "iter")) (by decide) rfl ?_
  refine GlobT.bi hG.K n1 hb (rfl : nsIn _ _ (Str.ofString "range") = some none) (rfl : bootBuiltins _ = some (.type "range")) (by decide) rfl ?_
  refine GlobT.bi hG.K n1 hb (rfl : nsIn _ _ (Str.ofString "zip") = some none) (rfl : bootBuiltins _ = some (.type "zip")) (by decide) rfl ?_
  refine GlobT.bi hG.K n1 hb (rfl : nsIn _ _ (Str.ofString "set") = some none) (rfl : bootBuiltins _ = some (.type "set")) (by decide) rfl ?_
  refine GlobT.bi hG.K n1 hb (rfl : nsIn _ _ (Str.ofString "tuple") = some none) (rfl : bootBuiltins _ = some (.type "tuple")) (by decide) rfl ?_
  refine GlobT.bi hG.K n1 hb (rfl : nsIn _ _ (Str.ofString "bool") = some none) (rfl : bootBuiltins _ = some (.type "bool")) (by decide) rfl ?_
  refine GlobT.bi hG.K n1 hb (rfl : nsIn _ _ (Str.ofString "str") = some none) (rfl : bootBuiltins _ = some (.type "str")) (by decide) rfl ?_
  refine GlobT.bi hG.K n1 hb (rfl : nsIn _ _ (Str.ofString "StopIteration") = some none) (rfl : bootBuiltins _ = some (.type "StopIteration")) (by decide) rfl ?_
  exact GlobT.nil
theorem fn_of {G : Gd} (hG : Ok G) (a : Addr) (o : Obj) (names : List (Str × NameKind)) (c : Addr) (oc : Obj) (vs : Array Value) (tk : Tok)
  (h1 : (KK G.w.params).lookup a = some o) (h2 : o.data = .func (fdAt G.w.params a)) (h3 : (fdAt G.w.params a).scope.names = names) (hn : (names.map fun p => p.1).Nodup)
  (h4 : (fdAt G.w.params a).body = .stmts (bodyOf (fdAt G.w.params a))) (h5 : (fdAt G.w.params a).closure = [] ∧ (fdAt G.w.params a).globals = mainGlobals ∧ (fdAt G.w.params a).builtins = builtinsNs ∧ (fdAt G.w.params a).scope.isCoroutine = false ∧ (fdAt G.w.params a).scope.isGenerator = false ∧ (fdAt G.w.params a).scope.kind = .function)
  (hpl : ∀ p ∈ names, (p.1 == ("__debug__" : Str)) = false ∧ (p.1 == ("__classdict__" : Str)) = false)
  (h6 : (fdAt G.w.params a).code = .ref c ∧ (KK G.w.params).lookup c = some oc ∧ oc.data = .fields vs ∧ vs[1]? = some (.str (fdAt G.w.params a).qualname tk)) :
  FnOk G a (fdAt G.w.params a) (bodyOf (fdAt G.w.params a)) names :=
  ⟨⟨o, hG.K _ _ h1, h2⟩, ⟨c, oc, vs, tk, h6.1, hG.K _ _ h6.2.1, h6.2.2.1, h6.2.2.2⟩, hG.nolimit, h4, h3, hn, h5.1, hpl, h5.2.1, h5.2.2.1, h5.2.2.2.1, h5.2.2.2.2.1, h5.2.2.2.2.2⟩

@[reducible] noncomputable def nm_heappush : List (Str × NameKind) := [(Str.ofString "heap", .local), (Str.ofString "item", .local), (Str.ofString "_siftdown", .globalImplicit), (Str.ofString "len", .globalImplicit)]
theorem fn_heappush {G : Gd} (hG : Ok G) : FnOk G 45 (fdAt G.w.params 45) (bodyOf (fdAt G.w.params 45)) nm_heappush :=
  fn_of hG 45 _ _ 44 _ _ _ rfl rfl rfl (by decide) rfl ⟨rfl, rfl, rfl, rfl, rfl, rfl⟩ (by decide) ⟨rfl, rfl, rfl, rfl⟩
@[reducible] noncomputable def nm_heappop : List (Str × NameKind) := [(Str.ofString "heap", .local), (Str.ofString "lastelt", .local), (Str.ofString "returnitem", .local), (Str.ofString "_siftup", .globalImplicit)]
theorem fn_heappop {G : Gd} (hG : Ok G) : FnOk G 52 (fdAt G.w.params 52) (bodyOf (fdAt G.w.params 52)) nm_heappop :=
  fn_of hG 52 _ _ 51 _ _ _ rfl rfl rfl (by decide) rfl ⟨rfl, rfl, rfl, rfl, rfl, rfl⟩ (by decide) ⟨rfl, rfl, rfl, rfl⟩
@[reducible] noncomputable def nm_siftdown : List (Str × NameKind) := [(Str.ofString "heap", .local), (Str.ofString "startpos", .local), (Str.ofString "pos", .local), (Str.ofString "newitem", .local), (Str.ofString "parentpos", .local), (Str.ofString "parent", .local)]
theorem fn_siftdown {G : Gd} (hG : Ok G) : FnOk G 59 (fdAt G.w.params 59) (bodyOf (fdAt G.w.params 59)) nm_siftdown :=
  fn_of hG 59 _ _ 58 _ _ _ rfl rfl rfl (by decide) rfl ⟨rfl, rfl, rfl, rfl, rfl, rfl⟩ (by decide) ⟨rfl, rfl, rfl, rfl⟩
@[reducible] noncomputable def nm_siftup : List (Str × NameKind) := [(Str.ofString "heap", .local), (Str.ofString "pos", .local), (Str.ofString "endpos", .local), (Str.ofString "startpos", .local), (Str.ofString "newitem", .local), (Str.ofString "childpos", .local), (Str.ofString "rightpos", .local), (Str.ofString "len", .globalImplicit), (Str.ofString "_siftdown", .globalImplicit)]
theorem fn_siftup {G : Gd} (hG : Ok G) : FnOk G 66 (fdAt G.w.params 66) (bodyOf (fdAt G.w.params 66)) nm_siftup :=
  fn_of hG 66 _ _ 65 _ _ _ rfl rfl rfl (by decide) rfl ⟨rfl, rfl, rfl, rfl, rfl, rfl⟩ (by decide) ⟨rfl, rfl, rfl, rfl⟩
@[reducible] noncomputable def nm_escape : List (Str × NameKind) := [(Str.ofString "pattern", .local), (Str.ofString "isinstance", .globalImplicit), (Str.ofString "str", .globalImplicit), (Str.ofString "_special_chars_map", .globalImplicit)]
theorem fn_escape {G : Gd} (hG : Ok G) : FnOk G 83 (fdAt G.w.params 83) (bodyOf (fdAt G.w.params 83)) nm_escape :=
  fn_of hG 83 _ _ 82 _ _ _ rfl rfl rfl (by decide) rfl ⟨rfl, rfl, rfl, rfl, rfl, rfl⟩ (by decide) ⟨rfl, rfl, rfl, rfl⟩
@[reducible] noncomputable def nm_translate : List (Str × NameKind) := [(Str.ofString "pat", .local), (Str.ofString "STAR", .local), (Str.ofString "QUESTION_MARK", .local), (Str.ofString "res", .local), (Str.ofString "add", .local), (Str.ofString "i", .local), (Str.ofString "n", .local), (Str.ofString "c", .local), (Str.ofString "j", .local), (Str.ofString "stuff", .local), (Str.ofString "chunks", .local), (Str.ofString "k", .local), (Str.ofString "chunk", .local), (Str.ofString "len", .globalImplicit), (Str.ofString "range", .globalImplicit), (Str.ofString "_twin_re_1", .globalImplicit), (Str.ofString "escape", .globalImplicit)]
theorem fn_translate {G : Gd} (hG : Ok G) : FnOk G 90 (fdAt G.w.params 90) (bodyOf (fdAt G.w.params 90)) nm_translate :=
  fn_of hG 90 _ _ 89 _ _ _ rfl rfl rfl (by decide) rfl ⟨rfl, rfl, rfl, rfl, rfl, rfl⟩ (by decide) ⟨rfl, rfl, rfl, rfl⟩
@[reducible] noncomputable def nm_NI___init__ : List (Str × NameKind) := [(Str.ofString "self", .local), (Str.ofString "node", .local)]
theorem fn_NI___init__ {G : Gd} (hG : Ok G) : FnOk G 105 (fdAt G.w.params 105) (bodyOf (fdAt G.w.params 105)) nm_NI___init__ :=
  fn_of hG 105 _ _ 104 _ _ _ rfl rfl rfl (by decide) rfl ⟨rfl, rfl, rfl, rfl, rfl, rfl⟩ (by decide) ⟨rfl, rfl, rfl, rfl⟩
@[reducible] noncomputable def nm_TS___init__ : List (Str × NameKind) := [(Str.ofString "self", .local), (Str.ofString "graph", .local), (Str.ofString "node", .local), (Str.ofString "predecessors", .local)]
theorem fn_TS___init__ {G : Gd} (hG : Ok G) : FnOk G 142 (fdAt G.w.params 142) (bodyOf (fdAt G.w.params 142)) nm_TS___init__ :=
  fn_of hG 142 _ _ 141 _ _ _ rfl rfl rfl (by decide) rfl ⟨rfl, rfl, rfl, rfl, rfl, rfl⟩ (by decide) ⟨rfl, rfl, rfl, rfl⟩
@[reducible] noncomputable def nm_TS__get_nodeinfo : List (Str × NameKind) := [(Str.ofString "self", .local), (Str.ofString "node", .local), (Str.ofString "result", .local), (Str.ofString "_NodeInfo", .globalImplicit)]
theorem fn_TS__get_nodeinfo {G : Gd} (hG : Ok G) : FnOk G 149 (fdAt G.w.params 149) (bodyOf (fdAt G.w.params 149)) nm_TS__get_nodeinfo :=
  fn_of hG 149 _ _ 148 _ _ _ rfl rfl rfl (by decide) rfl ⟨rfl, rfl, rfl, rfl, rfl, rfl⟩ (by decide) ⟨rfl, rfl, rfl, rfl⟩
@[reducible] noncomputable def nm_TS_add : List (Str × NameKind) := [(Str.ofString "self", .local), (Str.ofString "node", .local), (Str.ofString "predecessors", .local), (Str.ofString "nodeinfo", .local), (Str.ofString "pred", .local), (Str.ofString "pred_info", .local), (Str.ofString "ValueError", .globalImplicit), (Str.ofString "len", .globalImplicit)]
theorem fn_TS_add {G : Gd} (hG : Ok G) : FnOk G 156 (fdAt G.w.params 156) (bodyOf (fdAt G.w.params 156)) nm_TS_add :=
  fn_of hG 156 _ _ 155 _ _ _ rfl rfl rfl (by decide) rfl ⟨rfl, rfl, rfl, rfl, rfl, rfl⟩ (by decide) ⟨rfl, rfl, rfl, rfl⟩
@[reducible] noncomputable def nm_TS_prepare : List (Str × NameKind) := [(Str.ofString "self", .local), (Str.ofString "cycle", .local), (Str.ofString "ValueError", .globalImplicit), (Str.ofString "CycleError", .globalImplicit)]
theorem fn_TS_prepare {G : Gd} (hG : Ok G) : FnOk G 161 (fdAt G.w.params 161) (bodyOf (fdAt G.w.params 161)) nm_TS_prepare :=
  fn_of hG 161 _ _ 160 _ _ _ rfl rfl rfl (by decide) rfl ⟨rfl, rfl, rfl, rfl, rfl, rfl⟩ (by decide) ⟨rfl, rfl, rfl, rfl⟩
@[reducible] noncomputable def nm_TS_get_ready : List (Str × NameKind) := [(Str.ofString "self", .local), (Str.ofString "result", .local), (Str.ofString "n2i", .local), (Str.ofString "node", .local), (Str.ofString "ValueError", .globalImplicit), (Str.ofString "tuple", .globalImplicit), (Str.ofString "_NODE_OUT", .globalImplicit), (Str.ofString "len", .globalImplicit)]
theorem fn_TS_get_ready {G : Gd} (hG : Ok G) : FnOk G 168 (fdAt G.w.params 168) (bodyOf (fdAt G.w.params 168)) nm_TS_get_ready :=
  fn_of hG 168 _ _ 167 _ _ _ rfl rfl rfl (by decide) rfl ⟨rfl, rfl, rfl, rfl, rfl, rfl⟩ (by decide) ⟨rfl, rfl, rfl, rfl⟩
@[reducible] noncomputable def nm_TS_done : List (Str × NameKind) := [(Str.ofString "self", .local), (Str.ofString "nodes", .local), (Str.ofString "n2i", .local), (Str.ofString "node", .local), (Str.ofString "nodeinfo", .local), (Str.ofString "stat", .local), (Str.ofString "successor", .local), (Str.ofString "successor_info", .local), (Str.ofString "ValueError", .globalImplicit), (Str.ofString "_NODE_OUT", .globalImplicit), (Str.ofString "_NODE_DONE", .globalImplicit)]
theorem fn_TS_done {G : Gd} (hG : Ok G) : FnOk G 189 (fdAt G.w.params 189) (bodyOf (fdAt G.w.params 189)) nm_TS_done :=
  fn_of hG 189 _ _ 188 _ _ _ rfl rfl rfl (by decide) rfl ⟨rfl, rfl, rfl, rfl, rfl, rfl⟩ (by decide) ⟨rfl, rfl, rfl, rfl⟩
@[reducible] noncomputable def nm_TS__find_cycle : List (Str × NameKind) := [(Str.ofString "self", .local), (Str.ofString "n2i", .local), (Str.ofString "stack", .local), (Str.ofString "itstack", .local), (Str.ofString "seen", .local), (Str.ofString "node2stacki", .local), (Str.ofString "node", .local), (Str.ofString "set", .globalImplicit), (Str.ofString "iter", .globalImplicit), (Str.ofString "len", .globalImplicit), (Str.ofString "StopIteration", .globalImplicit)]
theorem fn_TS__find_cycle {G : Gd} (hG : Ok G) : FnOk G 196 (fdAt G.w.params 196) (bodyOf (fdAt G.w.params 196)) nm_TS__find_cycle :=
  fn_of hG 196 _ _ 195 _ _ _ rfl rfl rfl (by decide) rfl ⟨rfl, rfl, rfl, rfl, rfl, rfl⟩ (by decide) ⟨rfl, rfl, rfl, rfl⟩
@[reducible] noncomputable def nm_law_takes : List (Str × NameKind) := [(Str.ofString "part", .local), (Str.ofString "sign", .local)]
theorem fn_law_takes {G : Gd} (hG : Ok G) : FnOk G 217 (fdAt G.w.params 217) (bodyOf (fdAt G.w.params 217)) nm_law_takes :=
  fn_of hG 217 _ _ 216 _ _ _ rfl rfl rfl (by decide) rfl ⟨rfl, rfl, rfl, rfl, rfl, rfl⟩ (by decide) ⟨rfl, rfl, rfl, rfl⟩
@[reducible] noncomputable def nm_law_taken : List (Str × NameKind) := [(Str.ofString "glob", .local), (Str.ofString "names", .local), (Str.ofString "star", .local), (Str.ofString "parts", .local), (Str.ofString "taken", .local), (Str.ofString "name", .cell), (Str.ofString "ends", .cell), (Str.ofString "part", .cell), (Str.ofString "_translate", .globalImplicit), (Str.ofString "range", .globalImplicit), (Str.ofString "len", .globalImplicit)]
theorem fn_law_taken {G : Gd} (hG : Ok G) : FnOk G 222 (fdAt G.w.params 222) (bodyOf (fdAt G.w.params 222)) nm_law_taken :=
  fn_of hG 222 _ _ 221 _ _ _ rfl rfl rfl (by decide) rfl ⟨rfl, rfl, rfl, rfl, rfl, rfl⟩ (by decide) ⟨rfl, rfl, rfl, rfl⟩
@[reducible] noncomputable def nm_law_said : List (Str × NameKind) := [(Str.ofString "glob", .local), (Str.ofString "name", .local), (Str.ofString "len", .globalImplicit)]
theorem fn_law_said {G : Gd} (hG : Ok G) : FnOk G 229 (fdAt G.w.params 229) (bodyOf (fdAt G.w.params 229)) nm_law_said :=
  fn_of hG 229 _ _ 228 _ _ _ rfl rfl rfl (by decide) rfl ⟨rfl, rfl, rfl, rfl, rfl, rfl⟩ (by decide) ⟨rfl, rfl, rfl, rfl⟩
@[reducible] noncomputable def nm_law_narrow : List (Str × NameKind) := [(Str.ofString "less", .local), (Str.ofString "more", .cell)]
theorem fn_law_narrow {G : Gd} (hG : Ok G) : FnOk G 234 (fdAt G.w.params 234) (bodyOf (fdAt G.w.params 234)) nm_law_narrow :=
  fn_of hG 234 _ _ 233 _ _ _ rfl rfl rfl (by decide) rfl ⟨rfl, rfl, rfl, rfl, rfl, rfl⟩ (by decide) ⟨rfl, rfl, rfl, rfl⟩
@[reducible] noncomputable def nm_law_run : List (Str × NameKind) := [(Str.ofString "globs", .local), (Str.ofString "taken", .local), (Str.ofString "sorter", .local), (Str.ofString "glob", .local), (Str.ofString "own", .cell), (Str.ofString "heap", .local), (Str.ofString "order", .local), (Str.ofString "turn", .local), (Str.ofString "TopologicalSorter", .globalImplicit), (Str.ofString "zip", .globalImplicit), (Str.ofString "range", .globalImplicit), (Str.ofString "len", .globalImplicit), (Str.ofString "heappush", .globalImplicit), (Str.ofString "heappop", .globalImplicit)]
theorem fn_law_run {G : Gd} (hG : Ok G) : FnOk G 239 (fdAt G.w.params 239) (bodyOf (fdAt G.w.params 239)) nm_law_run :=
  fn_of hG 239 _ _ 238 _ _ _ rfl rfl rfl (by decide) rfl ⟨rfl, rfl, rfl, rfl, rfl, rfl⟩ (by decide) ⟨rfl, rfl, rfl, rfl⟩
@[reducible] noncomputable def nm_law : List (Str × NameKind) := [(Str.ofString "script", .local), (Str.ofString "menu", .local), (Str.ofString "globs", .local), (Str.ofString "x", .local), (Str.ofString "names", .cell), (Str.ofString "said", .cell), (Str.ofString "taken", .local), (Str.ofString "due", .cell), (Str.ofString "turn", .local), (Str.ofString "left", .cell), (Str.ofString "range", .globalImplicit), (Str.ofString "len", .globalImplicit), (Str.ofString "min", .globalImplicit), (Str.ofString "_law_run", .globalImplicit)]
theorem sub_ok {G : Gd} (hG : Ok G) : SubOk G 71 := ⟨_, _, _, _, _, _, _, _, hG.K _ _ rfl, hG.K _ _ rfl, by simp [subCode, Builtin.Re.reRawOf]⟩
theorem code_ok {G : Gd} (hG : Ok G) : CodeOk G 89 85 := ⟨⟨_, _, _, _, _, _, _, _, _, hG.K _ _ rfl, rfl, rfl, rfl, rfl, rfl, rfl, rfl, rfl, by decide⟩, hG.bm⟩
noncomputable def intEntry (e : DictEntry) : Bool := match e.key with
  | .int k _ => e.hash == hashInt k
  | _ => false
theorem keysOf_int {prog : Program} {w : World} {es : Array DictEntry} (h : es.toList.all intEntry = true) : KeysOf (intKind prog w) es := fun e he => by
  have := List.all_eq_true.mp h e (by simpa using he)
  unfold intEntry at this
  split at this
  · rename_i k t hk
    exact ⟨k, by rw [hk]; exact isInt_self k t, beq_iff_eq.mp this⟩
  · cases this
theorem chars_ok {G : Gd} (hG : Ok G) : ∃ f, G.t.MapOf (intKind G.prog G.w) 73 f ∧ f 97 = none ∧ f 98 = none ∧ ∃ tk, f 46 = some (.str "\\." tk) := by
  refine ⟨_, ⟨_, _, _, hG.K 73 _ rfl, ⟨rfl, rfl, rfl⟩, rfl, ?_, fun k => rfl⟩, ?_, ?_, ?_⟩
  · exact keysOf_int rfl
  · rfl
  · rfl
  · exact ⟨_, rfl⟩
end PL
end
section
open PySem PySem.Calls PyProof.Rows PySem.W
set_option autoImplicit false
set_option linter.unusedVariables false
set_option maxRecDepth 100000
namespace PL
noncomputable abbrev TS : Addr := 206
noncomputable abbrev NI : Addr := 109
@[reducible] noncomputable def tsKV (d rd : AV) (po nf : Int) : List (Str × AV) := [(Str.ofString "_node2info", d), (Str.ofString "_ready_nodes", rd), (Str.ofString "_npassedout", .int po), (Str.ofString "_nfinished", .int nf)]
section
variable (P : Params)
theorem ts_makes : makesIn (KK P) TS = true := by rfl
theorem ts_init : findIn (KK P) (.ref TS) "__init__" = some (some (.ref 142)) := by rfl
theorem ts_initT : typeIn (KK P) (.ref 142) = some (.type "function") := by rfl
theorem ts_get (n : Str) : plainGet (KK P) TS n = true := by rfl
theorem ts_dict : hasDictIn (KK P) TS = true := by rfl
theorem ts_over : plainOver (KK P) TS = true := by rfl
theorem ts_sa : findIn (KK P) (.ref TS) "__setattr__" = some (some (.builtin "object.__setattr__")) := by rfl
theorem ts_nog : noGet (KK P) none = true := by rfl
theorem ts_a0 : findIn (KK P) (.ref TS) (Str.ofString "_node2info") = some none ∧ takerIn (KK P) TS (Str.ofString "_node2info") = some none := ⟨by rfl, by rfl⟩
theorem ts_a1 : findIn (KK P) (.ref TS) (Str.ofString "_ready_nodes") = some none ∧ takerIn (KK P) TS (Str.ofString "_ready_nodes") = some none := ⟨by rfl, by rfl⟩
theorem ts_a2 : findIn (KK P) (.ref TS) (Str.ofString "_npassedout") = some none ∧ takerIn (KK P) TS (Str.ofString "_npassedout") = some none := ⟨by rfl, by rfl⟩
theorem ts_a3 : findIn (KK P) (.ref TS) (Str.ofString "_nfinished") = some none ∧ takerIn (KK P) TS (Str.ofString "_nfinished") = some none := ⟨by rfl, by rfl⟩
theorem ni_makes : makesIn (KK P) NI = true := by rfl
theorem ni_init : findIn (KK P) (.ref NI) "__init__" = some (some (.ref 105)) := by rfl
theorem ni_initT : typeIn (KK P) (.ref 105) = some (.type "function") := by rfl
theorem ni_get (n : Str) : plainGet (KK P) NI n = true := by rfl
theorem ni_cls : isClsIn (KK P) NI = true := by rfl
theorem ni_over : plainOver (KK P) NI = true := by rfl
theorem ni_sa : findIn (KK P) (.ref NI) "__setattr__" = some (some (.builtin "object.__setattr__")) := by rfl
theorem ni_g (p : Addr) (h : p = 110 ∨ p = 111 ∨ p = 112) : specialIn (KK P) (.ref p) "__get__" = some (some (.builtin "member_descriptor.__get__")) ∧ takesIn (KK P) (.ref p) = some true ∧ typeIn (KK P) (.ref p) = some (.type "member_descriptor") := by
  rcases h with rfl | rfl | rfl <;> exact ⟨by rfl, by rfl, by rfl⟩
theorem ni_s0 : findIn (KK P) (.ref NI) (Str.ofString "node") = some (some (.ref 110)) ∧ takerIn (KK P) NI (Str.ofString "node") = some (some (.ref 110)) ∧ slotIn (KK P) 110 NI = some 0 := ⟨by rfl, by rfl, by rfl⟩
theorem ni_s1 : findIn (KK P) (.ref NI) (Str.ofString "npredecessors") = some (some (.ref 111)) ∧ takerIn (KK P) NI (Str.ofString "npredecessors") = some (some (.ref 111)) ∧ slotIn (KK P) 111 NI = some 1 := ⟨by rfl, by rfl, by rfl⟩
theorem ni_s2 : findIn (KK P) (.ref NI) (Str.ofString "successors") = some (some (.ref 112)) ∧ takerIn (KK P) NI (Str.ofString "successors") = some (some (.ref 112)) ∧ slotIn (KK P) 112 NI = some 2 := ⟨by rfl, by rfl, by rfl⟩
end
section
variable {G : Gd} {A : Around} {env : Env} {l l' : Led} {X : Xp} {R : AV → Led → Prop} {x dx : Addr} {d rd a : AV} {po nf : Int}
theorem tsG0 (hG : Ok G) (h1 : (x, .inst TS dx) ∈ l) (h2 : (dx, .idct (tsKV d rd po nf)) ∈ l) (hd : Handed d) (h : R d l) : GAt G A (Str.ofString "_node2info") (.ref x) l R X := GAt.own hG.K (ts_get _ _) (ts_dict _) (ts_a0 _).1 (ts_nog _) h1 h2 rfl hd h
theorem tsG1 (hG : Ok G) (h1 : (x, .inst TS dx) ∈ l) (h2 : (dx, .idct (tsKV d rd po nf)) ∈ l) (hd : Handed rd) (h : R rd l) : GAt G A (Str.ofString "_ready_nodes") (.ref x) l R X := GAt.own hG.K (ts_get _ _) (ts_dict _) (ts_a1 _).1 (ts_nog _) h1 h2 rfl hd h
theorem tsG2 (hG : Ok G) (h1 : (x, .inst TS dx) ∈ l) (h2 : (dx, .idct (tsKV d rd po nf)) ∈ l) (h : R (.int po) l) : GAt G A (Str.ofString "_npassedout") (.ref x) l R X := GAt.own hG.K (ts_get _ _) (ts_dict _) (ts_a2 _).1 (ts_nog _) h1 h2 rfl .int h
theorem tsG3 (hG : Ok G) (h1 : (x, .inst TS dx) ∈ l) (h2 : (dx, .idct (tsKV d rd po nf)) ∈ l) (h : R (.int nf) l) : GAt G A (Str.ofString "_nfinished") (.ref x) l R X := GAt.own hG.K (ts_get _ _) (ts_dict _) (ts_a3 _).1 (ts_nog _) h1 h2 rfl .int h
theorem tsSet {R : Led → Prop} {name : Str} {kvs kvs' : List (Str × AV)} (hG : Ok G) (ht : takerIn (KK G.w.params) TS name = some none) (h1 : (x, .inst TS dx) ∈ l) (h2 : Pick (dx, .idct kvs) l l') (e : putAV name a kvs = kvs') (hz : kvs.length ≤ 900) (h : R ((dx, .idct kvs') :: l')) : SAt G A name (.ref x) a l R X :=
  SAt.own hG.K (ts_sa _) (ts_over _) ht (ts_dict _) h1 h2 hz (e ▸ h)
theorem tsP1 (b : AV) : putAV (Str.ofString "_ready_nodes") b (tsKV d rd po nf) = tsKV d b po nf := by rfl
theorem tsP2 (i : Int) : putAV (Str.ofString "_npassedout") (.int i) (tsKV d rd po nf) = tsKV d rd i nf := by rfl
theorem tsP3 (i : Int) : putAV (Str.ofString "_nfinished") (.int i) (tsKV d rd po nf) = tsKV d rd po i := by rfl
theorem tsS1 {R : Led → Prop} {b : AV} (hG : Ok G) (h1 : (x, .inst TS dx) ∈ l) (h2 : Pick (dx, .idct (tsKV d rd po nf)) l l') (h : R ((dx, .idct (tsKV d b po nf)) :: l')) : SAt G A (Str.ofString "_ready_nodes") (.ref x) b l R X := tsSet hG (ts_a1 _).2 h1 h2 (tsP1 b) (by show 4 ≤ 900; decide) h
theorem tsS2 {R : Led → Prop} {i : Int} (hG : Ok G) (h1 : (x, .inst TS dx) ∈ l) (h2 : Pick (dx, .idct (tsKV d rd po nf)) l l') (h : R ((dx, .idct (tsKV d rd i nf)) :: l')) : SAt G A (Str.ofString "_npassedout") (.ref x) (.int i) l R X := tsSet hG (ts_a2 _).2 h1 h2 (tsP2 i) (by show 4 ≤ 900; decide) h
theorem tsS3 {R : Led → Prop} {i : Int} (hG : Ok G) (h1 : (x, .inst TS dx) ∈ l) (h2 : Pick (dx, .idct (tsKV d rd po nf)) l l') (h : R ((dx, .idct (tsKV d rd po i)) :: l')) : SAt G A (Str.ofString "_nfinished") (.ref x) (.int i) l R X := tsSet hG (ts_a3 _).2 h1 h2 (tsP3 i) (by show 4 ≤ 900; decide) h
theorem tsM {R : AV → List AV → Led → Prop} {name : Str} {f : Addr} {kvs : List (Str × AV)} (hG : Ok G) (hf : findIn (KK G.w.params) (.ref TS) name = some (some (.ref f))) (ht : typeIn (KK G.w.params) (.ref f) = some (.type "function")) (h1 : (x, .inst TS dx) ∈ l) (h2 : (dx, .idct kvs) ∈ l) (hl : kvs.lookup name = none) (h : R (.ref f) [.ref x] l) : GM G A name (.ref x) l R X :=
  GM.inst hG.K (ts_get _ _) hf ht h1 h2 hl h
theorem tsM_info {R : AV → List AV → Led → Prop} (hG : Ok G) (h1 : (x, .inst TS dx) ∈ l) (h2 : (dx, .idct (tsKV d rd po nf)) ∈ l) (h : R (.ref 149) [.ref x] l) : GM G A (Str.ofString "_get_nodeinfo") (.ref x) l R X := tsM hG rfl rfl h1 h2 rfl h
theorem tsM_prep {R : AV → List AV → Led → Prop} (hG : Ok G) (h1 : (x, .inst TS dx) ∈ l) (h2 : (dx, .idct (tsKV d rd po nf)) ∈ l) (h : R (.ref 161) [.ref x] l) : GM G A (Str.ofString "prepare") (.ref x) l R X := tsM hG rfl rfl h1 h2 rfl h
theorem tsM_ready {R : AV → List AV → Led → Prop} (hG : Ok G) (h1 : (x, .inst TS dx) ∈ l) (h2 : (dx, .idct (tsKV d rd po nf)) ∈ l) (h : R (.ref 168) [.ref x] l) : GM G A (Str.ofString "get_ready") (.ref x) l R X := tsM hG rfl rfl h1 h2 rfl h
theorem tsM_done {R : AV → List AV → Led → Prop} (hG : Ok G) (h1 : (x, .inst TS dx) ∈ l) (h2 : (dx, .idct (tsKV d rd po nf)) ∈ l) (h : R (.ref 189) [.ref x] l) : GM G A (Str.ofString "done") (.ref x) l R X := tsM hG rfl rfl h1 h2 rfl h
theorem tsM_cyc {R : AV → List AV → Led → Prop} (hG : Ok G) (h1 : (x, .inst TS dx) ∈ l) (h2 : (dx, .idct (tsKV d rd po nf)) ∈ l) (h : R (.ref 196) [.ref x] l) : GM G A (Str.ofString "_find_cycle") (.ref x) l R X := tsM hG rfl rfl h1 h2 rfl h
theorem kept_k (hG : Ok G) (a : Addr) (h : keepIn (KK G.w.params) (.ref a) = true) : Kept G (.ref a) := ⟨fun v e hh hk => by
  cases e
  obtain ⟨k, h1, h2⟩ := looks_keep (M := model G.prog G.w) h (hG.K.keeps hk)
  exact ⟨k, h1.elim .inl (fun e => .inr (.inl e)), h2⟩⟩
theorem kept_NI (hG : Ok G) : Kept G (.ref NI) := kept_k hG NI (by rfl)
theorem kept_TS (hG : Ok G) : Kept G (.ref TS) := kept_k hG TS (by rfl)
/-! the node's record -/
variable {kvs : List (Str × AV)} {n s1 sl : AV} {np : Int}
theorem niG0 {vs : List (Option AV)} (hG : Ok G) (h1 : (x, .slots NI dx vs) ∈ l) (h2 : (dx, .idct kvs) ∈ l) (hl : vs[0]? = some (some a)) (hd : Handed a) (h : R a l) : GAt G A (Str.ofString "node") (.ref x) l R X :=
  GAt.slot hG.K (ni_get _ _) (ni_cls _) (ni_s0 _).1 (ni_g _ _ (by decide)).1 (ni_g _ _ (by decide)).2.1 (ni_s0 _).2.2 h1 h2 hl hd h
theorem niG1 {vs : List (Option AV)} (hG : Ok G) (h1 : (x, .slots NI dx vs) ∈ l) (h2 : (dx, .idct kvs) ∈ l) (hl : vs[1]? = some (some a)) (hd : Handed a) (h : R a l) : GAt G A (Str.ofString "npredecessors") (.ref x) l R X :=
  GAt.slot hG.K (ni_get _ _) (ni_cls _) (ni_s1 _).1 (ni_g _ _ (by decide)).1 (ni_g _ _ (by decide)).2.1 (ni_s1 _).2.2 h1 h2 hl hd h
theorem niG2 {vs : List (Option AV)} (hG : Ok G) (h1 : (x, .slots NI dx vs) ∈ l) (h2 : (dx, .idct kvs) ∈ l) (hl : vs[2]? = some (some a)) (hd : Handed a) (h : R a l) : GAt G A (Str.ofString "successors") (.ref x) l R X :=
  GAt.slot hG.K (ni_get _ _) (ni_cls _) (ni_s2 _).1 (ni_g _ _ (by decide)).1 (ni_g _ _ (by decide)).2.1 (ni_s2 _).2.2 h1 h2 hl hd h
theorem niS0 {R : Led → Prop} {vs vs2 : List (Option AV)} (hG : Ok G) (h1 : Pick (x, .slots NI dx vs) l l') (h2 : (dx, .idct kvs) ∈ l) (hv : (0 < vs.length ∧ vs2 = vs.set 0 (some a)) ∨ (0 = vs.length ∧ vs2 = vs ++ [some a])) (h : R ((x, .slots NI dx vs2) :: l')) : SAt G A (Str.ofString "node") (.ref x) a l R X :=
  SAt.slot hG.K (ni_sa _) (ni_over _) (ni_s0 _).2.1 (ni_g _ _ (by decide)).2.2 (ni_s0 _).2.2 (by decide) h1 h2 hv h
theorem niS1 {R : Led → Prop} {vs vs2 : List (Option AV)} (hG : Ok G) (h1 : Pick (x, .slots NI dx vs) l l') (h2 : (dx, .idct kvs) ∈ l) (hv : (1 < vs.length ∧ vs2 = vs.set 1 (some a)) ∨ (1 = vs.length ∧ vs2 = vs ++ [some a])) (h : R ((x, .slots NI dx vs2) :: l')) : SAt G A (Str.ofString "npredecessors") (.ref x) a l R X :=
  SAt.slot hG.K (ni_sa _) (ni_over _) (ni_s1 _).2.1 (ni_g _ _ (by decide)).2.2 (ni_s1 _).2.2 (by decide) h1 h2 hv h
theorem niS2 {R : Led → Prop} {vs vs2 : List (Option AV)} (hG : Ok G) (h1 : Pick (x, .slots NI dx vs) l l') (h2 : (dx, .idct kvs) ∈ l) (hv : (2 < vs.length ∧ vs2 = vs.set 2 (some a)) ∨ (2 = vs.length ∧ vs2 = vs ++ [some a])) (h : R ((x, .slots NI dx vs2) :: l')) : SAt G A (Str.ofString "successors") (.ref x) a l R X :=
  SAt.slot hG.K (ni_sa _) (ni_over _) (ni_s2 _).2.1 (ni_g _ _ (by decide)).2.2 (ni_s2 _).2.2 (by decide) h1 h2 hv h
end
end PL
end
section
open PySem PySem.Calls PyProof.Rows PySem.W
set_option autoImplicit false
set_option linter.unusedVariables false
set_option maxRecDepth 100000
set_option maxHeartbeats 0
namespace PL
local macro_rules | `(tactic| keq_rows) => `(tactic| with_reducible repeat (first | apply PL.Pick.head | apply PL.Pick.tail))
local macro_rules | `(tactic| keq_hits) => `(tactic| with_reducible repeat (first | apply PL.Look.here | apply PL.Look.there))
local macro_rules | `(tactic| kat_tups) => `(tactic| with_reducible repeat (first | apply PL.Put.here | apply PL.Put.there))
local macro_rules | `(tactic| kct_strs) => `(tactic| with_reducible repeat (first | apply PL.LookT.here | apply PL.LookT.there))
local macro_rules | `(tactic| lcg_sub) => `(tactic| with_reducible repeat (first | apply PL.Zip.nil | apply PL.Zip.cons))
local macro_rules | `(tactic| lcg_off) => `(tactic| with_reducible repeat (first | apply PL.VLe.nil | apply PL.VLe.same | apply PL.VLe.less))
local macro_rules | `(tactic| lcg_src) => `(tactic| with_reducible first | apply PL.AOle.refl | refine PL.AOle.ns (by lcg_off) | apply PL.AOle.cell)
local macro_rules | `(tactic| tlg_ne) => `(tactic| with_reducible repeat (first | apply PL.Sub.refl | apply PL.Sub.nil | refine PL.Sub.cons (by keq_rows) (by lcg_src) ?_ | apply PL.Sub.skip))
local macro_rules | `(tactic| kba_ints) => `(tactic| with_reducible repeat (first | apply PL.BKind.nil | (apply PL.BKind.loc; · kct_strs) | (apply PL.BKind.cel; · kct_strs)))
local macro_rules | `(tactic| lsm_bools) => `(tactic| with_reducible repeat (first | apply PL.Init.nil | (apply PL.Init.loc; · kct_strs) | apply PL.Init.skip))
local macro_rules | `(tactic| kbo_bools) => `(tactic| with_reducible repeat (first | apply PL.CInit.nil | (apply PL.CInit.val; · kct_strs) | apply PL.CInit.skip))
local macro_rules | `(tactic| kas_types) => `(tactic| with_reducible repeat (first | apply List.mem_cons_self | apply List.mem_cons_of_mem))
local macro_rules | `(tactic| tb_rel) => do
  let m (p : String) (k : Lean.Ident → Lean.MacroM (Lean.TSyntax ``Lean.Parser.Tactic.tacticSeq)) : Lean.MacroM (Lean.TSyntax `tactic) := do
    let ts ← (p.splitOn " ").toArray.mapM fun x => k (Lean.mkIdent ((x.splitOn ".").foldl Lean.Name.mkStr `PL))
    `(tactic| first $[| $ts]*)
  let f (p : String) := m p fun i => `(Lean.Parser.Tactic.tacticSeq| refine $i ?_)
  let g (p : String) := m p fun i => `(Lean.Parser.Tactic.tacticSeq| refine $i (by assumption) ?_)
  let b (p : String) (o : Lean.Term) := m p fun i => `(Lean.Parser.Tactic.tacticSeq| refine PL.GM.builtin $i $o ?_)
  let q ← `(tactic| refine ⟨PL.kept_of (by assumption) _ (by with_unfolding_all rfl), ?_⟩)
  `(tactic| with_reducible first
    | (refine PL.hEE ?_; first | (apply PL.EE.loc (by assumption); (· keq_rows); (· keq_hits)) | (apply PL.EE.cel (by assumption); (· kct_strs); (· kct_strs); (· keq_rows)) | (apply PL.EE.fre (by assumption); (· kct_strs); (· kct_strs); (· keq_rows)) | (apply PL.EE.glob (by assumption) (by assumption); (· kct_strs); (· kct_strs)) | $(← f "EE.int EE.sub EE.binop EE.callU EE.mcall EE.str EE.cmp EE.attr EE.negc EE.none EE.bool EE.not EE.ifexp EE.and2 EE.or2 EE.walrus' EE.list EE.tuple"):tactic)
    | (refine PL.hBB ?_; $(← f "BB.cons BB.nil"):tactic)
    | (refine PL.hThen ?_; $(← f "Then.next Then.brk Then.cont Then.ret"):tactic)
    | (refine PL.hStN ?_; first | (apply PL.StN.loc (by assumption); (· keq_rows); (· kat_tups)) | (apply PL.StN.cel (by assumption); (· kct_strs); (· kct_strs); (· keq_rows)))
    | (refine PL.hSS ?_; first | $(← f "SS.assign"):tactic | $(← g "SS.expr"):tactic | $(← f "SS.ret SS.brk SS.cont SS.setitem SS.setattr SS.augattr"):tactic)
    | (refine PL.hOp2 ?_; $(← f "Op2.add Op2.sub Op2.lt Op2.gt Op2.le Op2.ge Op2.eq Op2.ne Op2.seq Op2.sne Op2.slt Op2.iadd Op2.isub"):tactic)
    | (refine PL.hEA ?_; $(← f "EA.ex EA.nl"):tactic)
    | (refine Or.inl ?_; first | refine ⟨PL.Kept.builtin, ?_⟩ | refine ⟨PL.Kept.type, ?_⟩ | $q:tactic)
    | refine ⟨PL.Kept.builtin, ?_⟩ | refine ⟨PL.Kept.type, ?_⟩ | $q:tactic
    | (refine PL.hTT ?_; $(← f "TT.cmp TT.not TT.and TT.or TT.val"):tactic)
    | $(← f "Truth.bool Truth.none Truth.int SubOp.str"):tactic
    | refine PL.SubOp.list (by keq_rows) ?_
    | (refine PL.hTr ?_; $(← f "AT.and AT.or AT.nilAnd AT.nilOr"):tactic)
    | $(← b "bm_append bm_pop bm_clear" (← `(PL.OfT.list (by keq_rows)))):tactic | $(← b "bm_sadd" (← `(PL.OfT.sset (by keq_rows)))):tactic | $(← b "bm_dget bm_dvalues" (← `(PL.OfT.sdict (by keq_rows)))):tactic | $(← b "bm_find bm_join bm_replace bm_translate" (← `(PL.OfT.str))):tactic
    | $(← f "Asg.name"):tactic
    | $(← g "HL.brk HL.ret HF.brk HF.ret HJ.ret HJ.brk HJ.cont HL.els"):tactic)
local macro_rules | `(tactic| kpc_turns) => `(tactic| repeat tb_rel)

section
variable {G : Gd} {A : Around} {l l' : Led} {X : Xp} {R : AV → Led → Prop}
theorem cc_siftdown (hG : Ok G) {n : Nat} (hr : Room A (n + 1)) {p : Addr} {xs : List Str} {pos : Nat} {new : Str} (hp : Pick (p, .list (xs.map .str)) l l') (hz : xs.length < 1000000) (hpos : pos < xs.length) (hnew : xs[pos]? = some new) (hI : HP.SInv HP.slt xs pos)
    (h : ∀ ys, ys.Perm xs → HP.Heap HP.slt ys → R .none ((p, .list (ys.map .str)) :: l')) : CC G A (.ref 59) [.ref p, .int 0, .int pos] l R X := by
  refine CC.pick hp ?_
  refine CC.def0 (fn_siftdown hG) hr [Str.ofString "heap", Str.ofString "startpos", Str.ofString "pos"] (by lcg_sub) ⟨rfl, rfl, rfl, rfl, rfl, rfl, by decide⟩ rfl (by kba_ints) (by lsm_bools) (by kbo_bools) fun L env A' hE hr' hx => ?_
  refine BB.cons ?_
  kpc_turns
  refine Get.strs (.tail .head) hz hnew ?_
  kpc_turns
  refine SS.joinH (fun K => ∃ (ys : List Str) (m : Nat), ys.length = xs.length ∧ m < xs.length ∧ (ys.set m new).Perm xs ∧ HP.Heap HP.slt (ys.set m new) ∧
    K = (L, .ns nm_siftdown [some (.ref p), some (.int 0), some (.int (m : Int)), some (.str new), none, none]) :: (p, .list (ys.map .str)) :: l') (fun JJ1 hJ1 => ?_) ?_
  · refine SS.whileH pos (fun m K => ∃ ys : List Str, ys.length = xs.length ∧ m < xs.length ∧ (ys.set m new).Perm xs ∧ HP.SInv HP.slt (ys.set m new) m ∧
      K = (L, .ns nm_siftdown [some (.ref p), some (.int 0), some (.int (m : Int)), some (.str new), none, none]) :: (p, .list (ys.map .str)) :: l') ?_ (fun KK1 EE1 hL1 => ?_)
    · exact (PL.m1_4 xs rfl hpos (by rw [set_same hnew]) (by rw [set_same hnew]; exact hI) rfl)
    · (rintro m _; refine PL.j1_4 ?_; rintro ys hlen hm hperm hI rfl)
      kpc_turns
      refine ⟨fun hb => ?_, fun hb => ?_⟩
      · have h0 : 0 < m := by simpa using hb
        have hpar : (m - 1) / 2 < ys.length := by omega
        have hp' : ys[(m - 1) / 2]? = some ys[(m - 1) / 2] := List.getElem?_eq_getElem hpar
        kpc_turns
        refine Op2.shr (by decide) ?_
        rewrite [show ((m : Int) - 1).fdiv (2 ^ (1 : Int).toNat) = ((m - 1) / 2 : Nat) from by
          rw [show (2 : Int) ^ (1 : Int).toNat = 2 from rfl, Int.fdiv_eq_ediv_of_nonneg _ (by decide)]; omega]
        kpc_turns
        refine Get.strs (by keq_rows) (by omega) hp' ?_
        kpc_turns
        refine SS.if ?_
        kpc_turns
        refine ⟨fun hb => ?_, fun hb => ?_⟩
        · kpc_turns
          refine SetI.strs (by keq_rows) (by omega) (by omega) ?_
          kpc_turns
          refine hL1.cont (m := (m - 1) / 2) (PL.m1_4 (ys.set m ys[(m - 1) / 2]) (by simpa using hlen) (by omega) ((HP.perm_swap hp' (by omega) (by omega)).trans hperm) (HP.SInv.step HP.slt_ord hI h0 (by omega) hp' hb) rfl) (by omega) (by tlg_ne)
        · kpc_turns
          refine hJ1.next (PL.m2_4 ys m hlen hm hperm (HP.SInv.done hI ?_) rfl) (by tlg_ne)
          rw [List.getElem?_set_ne (by omega), hp', List.getElem?_set_self (by omega)]
          exact hb
      · have h0 : m = 0 := by have : ¬ (0 : Int) < m := by simpa using hb
                              omega
        subst h0
        kpc_turns
        exact hJ1.next (PL.m2_4 ys 0 hlen hm hperm (HP.SInv.done0 hI) rfl) (by tlg_ne)
  · (rintro _; refine PL.j2_4 ?_; rintro ys m hlen hm hperm hH rfl)
    kpc_turns
    refine SetI.strs (by keq_rows) (by omega) (by omega) ?_
    kpc_turns
    exact (PL.m1_1 _ (by tlg_ne) (h _ hperm hH))
end
section
variable {G : Gd} {A : Around} {l l' : Led} {X : Xp} {R : AV → Led → Prop}
theorem cc_siftup (hG : Ok G) (hg : GlobOk G gtab) {n : Nat} (hr : Room A (n + 2)) {p : Addr} {xs : List Str} {new : Str} (hp : Pick (p, .list (xs.map .str)) l l') (hz : xs.length < 100000) (hnew : xs[0]? = some new) (hI : HP.UInv HP.slt xs 0)
    (h : ∀ ys, ys.Perm xs → HP.Heap HP.slt ys → R .none ((p, .list (ys.map .str)) :: l')) : CC G A (.ref 66) [.ref p, .int 0] l R X := by
  have hpos : 0 < xs.length := by
    cases xs with
    | nil => simp at hnew
    | cons => simp
  refine CC.pick hp ?_
  refine CC.def0 (fn_siftup hG) hr [Str.ofString "heap", Str.ofString "pos"] (by lcg_sub) ⟨rfl, rfl, rfl, rfl, rfl, rfl, by decide⟩ rfl (by kba_ints) (by lsm_bools) (by kbo_bools) fun L env A' hE hr' hx => ?_
  refine BB.cons ?_
  kpc_turns
  refine CC.lens (by keq_rows) (by omega) ?_
  kpc_turns
  refine Get.strs (by keq_rows) (by omega) (k := 0) hnew ?_
  kpc_turns
  refine Op2.mul (by decide) (by decide) ?_
  kpc_turns
  refine SS.joinH (fun K => ∃ (ys : List Str) (m : Nat), ys.length = xs.length ∧ m < xs.length ∧ (ys.set m new).Perm xs ∧ HP.SInv HP.slt (ys.set m new) m ∧
    K = (L, .ns nm_siftup [some (.ref p), some (.int (m : Int)), none, some (.int 0), some (.str new), none, none, none, none]) :: (p, .list (ys.map .str)) :: l') (fun JJ1 hJ1 => ?_) ?_
  · refine SS.whileH xs.length (fun k K => ∃ (ys : List Str) (m : Nat), k + m = xs.length ∧ ys.length = xs.length ∧ m < xs.length ∧ (ys.set m new).Perm xs ∧ HP.UInv HP.slt ys m ∧
      K = (L, .ns nm_siftup [some (.ref p), some (.int (m : Int)), some (.int (xs.length : Int)), some (.int 0), some (.str new), some (.int (2 * (m : Int) + 1)), none, none, none]) :: (p, .list (ys.map .str)) :: l') ?_ (fun KK1 EE1 hL1 => ?_)
    · exact (PL.m2_5 xs 0 (by omega) rfl hpos (by rw [set_same hnew]) hI rfl)
    · (rintro k _; refine PL.j2_5 ?_; rintro ys m hk hlen hm hperm hI rfl)
      kpc_turns
      refine ⟨fun hb => ?_, fun hb => ?_⟩
      · have h0 : 2 * (m : Int) + 1 < xs.length := by simpa using hb
        have hc1 : ys[2 * m + 1]? = some ys[2 * m + 1] := List.getElem?_eq_getElem (by omega)
        kpc_turns
        refine SS.joinH (fun K => ∃ (ci : Int) (c : Nat) (b : Str), ci = c ∧ m < c ∧ c < xs.length ∧ (c - 1) / 2 = m ∧ ys[c]? = some b ∧ (∀ i, 0 < i → (i - 1) / 2 = m → HP.leO HP.slt (some b) ys[i]?) ∧
          K = (L, .ns nm_siftup [some (.ref p), some (.int (m : Int)), some (.int (xs.length : Int)), some (.int 0), some (.str new), some (.int ci), none, none, none]) :: (p, .list (ys.map .str)) :: l') (fun JJ2 hJ2 => ?_) ?_
        · refine SS.if ?_
          kpc_turns
          refine ⟨fun hr1 => ?_, fun hr1 => ?_⟩
          · have hr1' : 2 * (m : Int) + 1 + 1 < xs.length := by simpa using hr1
            have hc2 : ys[2 * m + 2]? = some ys[2 * m + 2] := List.getElem?_eq_getElem (by omega)
            kpc_turns
            refine Get.strs (k := 2 * m + 1) (by keq_rows) (by omega) hc1 ?_
            kpc_turns
            refine Get.strs (k := 2 * m + 2) (by keq_rows) (by omega) hc2 ?_
            kpc_turns
            refine ⟨fun hb2 => ?_, fun hb2 => ?_⟩
            · kpc_turns
              refine brT (by decide) ?_
              kpc_turns
              refine hJ2.next (PL.m3_6 (2 * (m : Int) + 1 + 1) (2 * m + 2) (ys[2 * m + 2]) (by omega) (by omega) (by omega) (by omega) hc2 (fun i hi hpar => ?_) rfl) (by tlg_ne)
              have hle : HP.slt ys[2 * m + 1] ys[2 * m + 2] = false := by simpa [HP.slt] using hb2
              rcases (by omega : i = 2 * m + 1 ∨ i = 2 * m + 2) with rfl | rfl
              · rw [hc1]; exact hle
              · rw [hc2]; exact HP.leO.refl HP.slt_ord (some _)
            · refine brF (by decide) ?_
              kpc_turns
              refine hJ2.next (PL.m3_6 (2 * (m : Int) + 1) (2 * m + 1) (ys[2 * m + 1]) (by omega) (by omega) (by omega) (by omega) hc1 (fun i hi hpar => ?_) rfl) (by tlg_ne)
              have hle : HP.slt ys[2 * m + 1] ys[2 * m + 2] = true := by simpa [HP.slt] using hb2
              rcases (by omega : i = 2 * m + 1 ∨ i = 2 * m + 2) with rfl | rfl
              · rw [hc1]; exact HP.leO.refl HP.slt_ord (some _)
              · rw [hc2]; exact HP.slt_ord.asymm _ _ hle
          · refine brF (by decide) ?_
            kpc_turns
            refine hJ2.next (PL.m3_6 (2 * (m : Int) + 1) (2 * m + 1) (ys[2 * m + 1]) (by omega) (by omega) (by omega) (by omega) hc1 (fun i hi hpar => ?_) rfl) (by tlg_ne)
            have hr1' : ¬ 2 * (m : Int) + 1 + 1 < xs.length := by simpa using hr1
            rcases (by omega : i = 2 * m + 1 ∨ i = 2 * m + 2) with rfl | rfl
            · rw [hc1]; exact HP.leO.refl HP.slt_ord (some _)
            · rw [List.getElem?_eq_none (by omega)]; exact HP.leO.noneR
        · (rintro _; refine PL.j3_6 ?_; rintro _ c b rfl hmc hcl hcm hcb hmin rfl)
          kpc_turns
          refine Get.strs (by keq_rows) (by omega) hcb ?_
          kpc_turns
          refine SetI.strs (by keq_rows) (by omega) (by omega) ?_
          kpc_turns
          refine Op2.mul (by decide) (by decide) ?_
          kpc_turns
          exact hL1.next (m := xs.length - c) (PL.m2_5 (ys.set m b) c (by omega) (by simpa using hlen) hcl ((HP.perm_swap hcb (by omega) (by omega)).trans hperm) (hI.step (by omega) hcm (by omega) hcb hmin) rfl) (by omega) (by tlg_ne)
      · have h0 : (xs.length : Int) ≤ 2 * (m : Int) + 1 := by simpa using hb
        kpc_turns
        refine hJ1.next (PL.m2_4 ys m hlen hm hperm (hI.done (by omega) (by omega)) rfl) (by tlg_ne)
  · (rintro _; refine PL.j2_4 ?_; rintro ys m hlen hm hperm hI rfl)
    kpc_turns
    refine SetI.strs (by keq_rows) (by omega) (by omega) ?_
    kpc_turns
    refine cc_siftdown hG hr' (by keq_rows) (by simp; omega) (by simp; omega) (List.getElem?_set_self (by omega)) hI fun zs hz hH => ?_
    kpc_turns
    exact (PL.m1_1 _ (by tlg_ne) (h _ (hz.trans hperm) hH))
end
section
variable {G : Gd} {A : Around} {l l' : Led} {X : Xp} {R : AV → Led → Prop}
theorem cc_heappush (hG : Ok G) (hg : GlobOk G gtab) {n : Nat} (hr : Room A (n + 2)) {p : Addr} {xs : List Str} {x : Str} (hp : Pick (p, .list (xs.map .str)) l l') (hz : xs.length < 100000) (hH : HP.Heap HP.slt xs)
    (h : ∀ ys, ys.Perm (xs ++ [x]) → HP.Heap HP.slt ys → R .none ((p, .list (ys.map .str)) :: l')) : CC G A (.ref 45) [.ref p, .str x] l R X := by
  refine CC.pick hp ?_
  refine CC.def0 (fn_heappush hG) hr [Str.ofString "heap", Str.ofString "item"] (by lcg_sub) ⟨rfl, rfl, rfl, rfl, rfl, rfl, by decide⟩ rfl (by kba_ints) (by lsm_bools) (by kbo_bools) fun L env A' hE hr' hx => ?_
  refine BB.cons ?_
  kpc_turns
  refine CC.appends (by keq_rows) (by omega) ?_
  kpc_turns
  refine CC.lens (by keq_rows) (by simp; omega) ?_
  kpc_turns
  rewrite [show (((xs ++ [x]).length : Nat) : Int) - 1 = (xs.length : Nat) from by simp]
  refine cc_siftdown hG hr' (by keq_rows) (by simp; omega) (by simp) (new := x) (by simp) (HP.SInv.push hH) fun ys hy hH' => ?_
  kpc_turns
  exact (PL.m1_1 _ (by tlg_ne) (h _ hy hH'))
theorem cc_heappop (hG : Ok G) (hg : GlobOk G gtab) {n : Nat} (hr : Room A (n + 3)) {p : Addr} {xs : List Str} (hp : Pick (p, .list (xs.map .str)) l l') (hz : xs.length < 100000) (hH : HP.Heap HP.slt xs) (hne : xs ≠ [])
    (h : ∀ m ys, (m :: ys).Perm xs → (∀ b ∈ xs, HP.slt b m = false) → HP.Heap HP.slt ys → R (.str m) ((p, .list (ys.map .str)) :: l')) : CC G A (.ref 52) [.ref p] l R X := by
  refine CC.pick hp ?_
  refine CC.def0 (fn_heappop hG) hr [Str.ofString "heap"] (by lcg_sub) ⟨rfl, rfl, rfl, rfl, rfl, rfl, by decide⟩ rfl (by kba_ints) (by lsm_bools) (by kbo_bools) fun L env A' hE hr' hx => ?_
  obtain ⟨ini, last, rfl⟩ : ∃ ini last, xs = ini ++ [last] := (PL.m2_0 xs.dropLast (xs.getLast hne) ((List.dropLast_concat_getLast hne).symm))
  have hl : ini.length + 1 < 100000 := by simpa using hz
  refine BB.cons ?_
  kpc_turns
  refine CC.pops (by keq_rows) (by omega) ?_
  kpc_turns
  refine SS.if ?_
  kpc_turns
  refine Truth.lists (by keq_rows) (by omega) ?_
  cases ini with
  | nil =>
    refine brF (by decide) ?_
    kpc_turns
    exact (PL.m1_1 _ (by tlg_ne) (h last [] (by simp) (fun b hb => HP.Heap.min HP.slt_ord hH hb) HP.Heap.nil))
  | cons r rest =>
    refine brT (by simp) ?_
    have hmin : ∀ b ∈ r :: rest ++ [last], HP.slt b r = false := fun b hb => HP.Heap.min HP.slt_ord (g := rest ++ [last]) hH hb
    kpc_turns
    refine Get.strs (k := 0) (by keq_rows) (by omega) (by simp; rfl) ?_
    kpc_turns
    refine SetI.strs (k := 0) (by keq_rows) (by omega) (by simp) ?_
    kpc_turns
    refine cc_siftup hG ‹_› hr' (by keq_rows) (by simp at hl ⊢; omega) (new := last) (by simp) (HP.UInv.start hH) fun ys hy hH' => ?_
    kpc_turns
    refine (PL.m1_1 _ (by tlg_ne) (h r ys (((hy.trans ?_).cons r)) hmin hH'))
    show (last :: rest).Perm (rest ++ [last])
    exact List.perm_append_comm (l₁ := [last]) (l₂ := rest)
end
section
variable {G : Gd} {A : Around} {l l' : Led} {X : Xp} {R : AV → Led → Prop}
theorem cc_escape (hG : Ok G) (hg : GlobOk G gtab) {n : Nat} (hr : Room A (n + 1)) {c : Nat} (hc : c = 97 ∨ c = 98 ∨ c = 46) (h : R (.str (escOf c)) l) : CC G A (.ref 83) [.str ⟨#[c]⟩] l R X := by
  refine CC.def0 (fn_escape hG) hr [Str.ofString "pattern"] (by lcg_sub) ⟨rfl, rfl, rfl, rfl, rfl, rfl, by decide⟩ rfl (by kba_ints) (by lsm_bools) (by kbo_bools) fun L env A' hE hr' hx => ?_
  obtain ⟨f, hm, f1, f2, tk, f3⟩ := chars_ok hG
  refine BB.cons ?_
  refine SS.if ?_
  kpc_turns
  refine CC.isstr ?_
  kpc_turns
  refine brT (by decide) ?_
  kpc_turns
  rcases hc with rfl | rfl | rfl
  · refine CC.tr_miss hr' (by decide) hm f1 (by decide) ?_
    kpc_turns
    exact ⟨_, by tlg_ne, h⟩
  · refine CC.tr_miss hr' (by decide) hm f2 (by decide) ?_
    kpc_turns
    exact ⟨_, by tlg_ne, h⟩
  · refine CC.tr_text hm f3 (by decide) (by decide) (by decide) ?_
    kpc_turns
    exact ⟨_, by tlg_ne, h⟩
end
section
variable {G : Gd} {A : Around} {l l' : Led} {X : Xp} {R : AV → Led → Prop}
theorem cc_translate (hG : Ok G) (hg : GlobOk G gtab) {n : Nat} (hr : Room A (n + 2)) {star : Addr} {P : Str} {out : List Prt} (hp : Pick (85, .tab) l l') (hz : P.length ≤ 100) (hrun : truns P P.length 0 [] = some out)
    (h : ∀ r, R (.ref r) ((r, .list (out.map (prtAV star))) :: (85, .tab) :: l')) : CC G A (.ref 90) [.str P, .ref star, .str "."] l R X := by
  refine CC.pick hp ?_
  refine CC.def0 (fn_translate hG) hr [Str.ofString "pat", Str.ofString "STAR", Str.ofString "QUESTION_MARK"] (by lcg_sub) ⟨rfl, rfl, rfl, rfl, rfl, rfl, by decide⟩ rfl (by kba_ints) (by lsm_bools) (by kbo_bools) fun L env A' hE hr' hx => ?_
  refine BB.cons ?_
  kpc_turns
  refine ⟨by decide, fun r => ?_⟩
  kpc_turns
  kpc_turns
  refine GAt.append (by keq_rows) fun b => ?_
  kpc_turns
  refine SS.swap2 hr' hE (by kct_strs) (by kct_strs) ?_
  kpc_turns
  refine CC.len_str (by omega) ?_
  kpc_turns
  refine ⟨by simp, fun t => (PL.m4_2 _ _ _ _ rfl (by keq_rows) ?_)⟩
  kpc_turns
  refine SS.joinH (fun K => K = (L, .ns nm_translate [some (.str P), some (.ref star), some (.str (Str.ofString ".")), some (.ref r), some (.ref b), some (.int (P.length : Int)), some (.int (P.length : Int)), none, none, none, none, none, none, none, none, none, none]) :: (r, .list (out.map (prtAV star))) :: (85, .tab) :: l') (fun JJ1 hJ1 => ?_) ?_
  · refine SS.whileH P.length (fun k K => ∃ (ii : Int) (i : Nat) (res : List Prt), ii = i ∧ truns P k i res = some out ∧ i ≤ P.length ∧ res.length ≤ i ∧
      K = (L, .ns nm_translate [some (.str P), some (.ref star), some (.str (Str.ofString ".")), some (.ref r), some (.ref b), some (.int ii), some (.int (P.length : Int)), none, none, none, none, none, none, none, none, none, none]) :: (b, .raw (boundAppend r)) :: (r, .list (res.map (prtAV star))) :: (85, .tab) :: l') ?_ (fun KK1 EE1 hL1 => ?_)
    · exact (PL.m3_4 0 0 ([]) rfl hrun (by omega) (by simp) rfl)
    · (rintro k _; refine PL.j3_4 ?_; rintro _ i res rfl hk hi hres rfl)
      kpc_turns
      refine ⟨fun hb => ?_, fun hb => ?_⟩
      · have hlt : i < P.length := by have : (i : Int) < P.length := by simpa using hb
                                      omega
        obtain ⟨f, rfl⟩ : ∃ f, k = f + 1 := by
          cases k with
          | zero => rw [truns, if_neg (by omega)] at hk; cases hk
          | succ f => exact ⟨f, rfl⟩
        rw [truns, if_neg (by omega), Option.bind_eq_some_iff] at hk
        (revert hk; refine PL.j1_1 ?_; rintro ⟨i', r'⟩ hs hk')
        obtain ⟨c, hc⟩ : ∃ c, P.cps[i]? = some c := ⟨_, Array.getElem?_eq_getElem hlt⟩
        kpc_turns
        refine Get.str (by omega) (by omega) (getItem_at hc) ?_
        kpc_turns
        refine SS.if ?_
        kpc_turns
        rcases tstep_cases hs hc with ⟨rfl, hl, rfl, rfl⟩ | ⟨rfl, rfl, rfl⟩ | ⟨rfl, a, b', st, ha, hb1, hd, ha93, hb93, hst, rfl, rfl⟩ | ⟨hcc, rfl, rfl⟩
        · refine brT (by decide) ?_
          refine BB.cons ?_
          refine SS.if ?_
          kpc_turns
          rcases hl with rfl | ⟨ini, s, rfl⟩
          · refine Truth.list (by keq_rows) (by simp) ?_
            refine brF (by simp) ?_
            refine brT (by decide) ?_
            kpc_turns
            refine Or.inr (PL.m3_3 b (boundAppend r) _ rfl rfl rfl ?_)
            kpc_turns
            refine ⟨⟨_, by keq_rows⟩, ?_⟩
            refine CC.badd (x := none) (by keq_rows) (by keq_rows) (by omega) ?_
            kpc_turns
            exact hL1.next (m := f) (PL.m3_4 ((i : Int) + 1) (i + 1) _ (by omega) hk' (by omega) (by simp <;> omega) rfl) (by omega) (by tlg_ne)
          · simp at hres
            refine Truth.list (by keq_rows) (by simp; omega) ?_
            refine brT (by simp) ?_
            kpc_turns
            refine Get.lastP (by keq_rows) (xs := ini.map (prtAV star)) (a := .str s) (by rw [List.map_append]; rfl) (by rw [List.length_map]; omega) ?_
            kpc_turns
            refine Op2.isnotStrRef ?_
            kpc_turns
            refine brF (by decide) ?_
            refine brT (by decide) ?_
            kpc_turns
            refine Or.inr (PL.m3_3 b (boundAppend r) _ rfl rfl rfl ?_)
            kpc_turns
            refine ⟨⟨_, by keq_rows⟩, ?_⟩
            refine CC.badd (x := none) (by keq_rows) (by keq_rows) (by simp; omega) ?_
            kpc_turns
            exact hL1.next (m := f) (PL.m3_4 ((i : Int) + 1) (i + 1) _ (by omega) hk' (by omega) (by simp <;> omega) rfl) (by omega) (by tlg_ne)
        · refine brF (by decide) ?_
          refine BB.cons ?_
          refine SS.if ?_
          kpc_turns
          refine brT (by decide) ?_
          kpc_turns
          refine Or.inr (PL.m3_3 b (boundAppend r) _ rfl rfl rfl ?_)
          kpc_turns
          refine ⟨⟨_, by keq_rows⟩, ?_⟩
          refine CC.badd (x := some (Str.ofString ".")) (by keq_rows) (by keq_rows) (by omega) ?_
          kpc_turns
          exact hL1.next (m := f) (PL.m3_4 ((i : Int) + 1) (i + 1) _ (by omega) hk' (by omega) (by simp <;> omega) rfl) (by omega) (by tlg_ne)
        · refine brF (by decide) ?_
          refine BB.cons ?_
          refine SS.if ?_
          kpc_turns
          refine brF (by decide) ?_
          refine BB.cons ?_
          refine SS.if ?_
          kpc_turns
          refine brT (by decide) ?_
          have hlen := cps_lt hd
          have hsl : Txt.slice P (some ((i : Int) + 1)) (some ((i : Int) + 3)) = ⟨#[a, b']⟩ := by
            have := slice_two (i := i + 1) ha hb1 hd
            rw [show ((i + 1 : Nat) : Int) = (i : Int) + 1 by omega, show (i : Int) + 1 + 2 = (i : Int) + 3 by omega] at this
            exact this
          kpc_turns
          refine SS.joinH (fun K => ∃ (ji : Int) (j : Nat), ji = j ∧ i + 1 ≤ j ∧ j ≤ i + 2 ∧
            K = (L, .ns nm_translate [some (.str P), some (.ref star), some (.str (Str.ofString ".")), some (.ref r), some (.ref b), some (.int ((i : Int) + 1)), some (.int (P.length : Int)), none, some (.int ji), none, none, none, none, none, none, none, none]) :: (b, .raw (boundAppend r)) :: (r, .list (res.map (prtAV star))) :: (85, .tab) :: l') (fun JJ2 hJ2 => ?_) ?_
          · refine SS.if ?_
            kpc_turns
            refine brT (by simp; omega) ?_
            kpc_turns
            refine Get.str (c := a) (by omega) (by omega) (by rw [show (i : Int) + 1 = ((i + 1 : Nat) : Int) by omega]; exact getItem_at ha) ?_
            kpc_turns
            refine ⟨fun _ => ?_, fun _ => ?_⟩
            · kpc_turns
              refine brT (by decide) ?_
              kpc_turns
              exact hJ2.next (PL.m2_3 ((i : Int) + 1 + 1) (i + 2) (by omega) (by omega) (by omega) rfl) (by tlg_ne)
            · refine brF (by decide) ?_
              kpc_turns
              exact hJ2.next (PL.m2_3 ((i : Int) + 1) (i + 1) (by omega) (by omega) (by omega) rfl) (by tlg_ne)
          · (rintro _; refine PL.j2_3 ?_; rintro _ j rfl hj1 hj2 rfl)
            obtain ⟨cj, hcj, hcj93⟩ : ∃ cj, P.cps[j]? = some cj ∧ cj ≠ 93 := by
              rcases (by omega : j = i + 1 ∨ j = i + 2) with rfl | rfl
              · exact (PL.m1_1 a ha ha93)
              · exact (PL.m1_1 b' hb1 hb93)
            have hne : (({ cps := #[cj] } : Str) == Str.ofString "]") = false := beq_eq_false_iff_ne.mpr fun e => hcj93 (by have : (⟨#[cj]⟩ : Str) = ⟨#[93]⟩ := e; simpa using this)
            kpc_turns
            refine SS.joinH (fun K => K = (L, .ns nm_translate [some (.str P), some (.ref star), some (.str (Str.ofString ".")), some (.ref r), some (.ref b), some (.int ((i : Int) + 1)), some (.int (P.length : Int)), none, some (.int (j : Int)), none, none, none, none, none, none, none, none]) :: (b, .raw (boundAppend r)) :: (r, .list (res.map (prtAV star))) :: (85, .tab) :: l') (fun JJ3 hJ3 => ?_) ?_
            · refine SS.if ?_
              kpc_turns
              refine brT (by simp; omega) ?_
              kpc_turns
              refine Get.str (by omega) (by omega) (getItem_at hcj) ?_
              kpc_turns
              refine brF (by rw [hne]; decide) ?_
              refine brF (by decide) ?_
              kpc_turns
              exact hJ3.next rfl (by tlg_ne)
            · rintro _ rfl
              kpc_turns
              refine SS.joinH (fun K => K = (L, .ns nm_translate [some (.str P), some (.ref star), some (.str (Str.ofString ".")), some (.ref r), some (.ref b), some (.int ((i : Int) + 1)), some (.int (P.length : Int)), none, some (.int ((i : Int) + 3)), none, none, none, none, none, none, none, none]) :: (b, .raw (boundAppend r)) :: (r, .list (res.map (prtAV star))) :: (85, .tab) :: l') (fun JJ4 hJ4 => ?_) ?_
              · refine SS.whileH (i + 3 - j) (fun m K => ∃ (qi : Int) (q : Nat), qi = q ∧ m + q = i + 3 ∧ i + 1 ≤ q ∧
                  K = (L, .ns nm_translate [some (.str P), some (.ref star), some (.str (Str.ofString ".")), some (.ref r), some (.ref b), some (.int ((i : Int) + 1)), some (.int (P.length : Int)), none, some (.int qi), none, none, none, none, none, none, none, none]) :: (b, .raw (boundAppend r)) :: (r, .list (res.map (prtAV star))) :: (85, .tab) :: l') ?_ (fun KK2 EE2 hL2 => ?_)
                · exact (PL.m2_3 ((j : Int)) j rfl (by omega) hj1 rfl)
                · (rintro m _; refine PL.j2_3 ?_; rintro _ q rfl hq hq1 rfl)
                  kpc_turns
                  refine brT (by simp; omega) ?_
                  kpc_turns
                  by_cases hq3 : q = i + 3
                  · subst hq3
                    rewrite [show ((i + 3 : Nat) : Int) = (i : Int) + 3 by omega]
                    refine Get.str (by omega) (by omega) (by rw [show (i : Int) + 3 = ((i + 3 : Nat) : Int) by omega]; exact getItem_at hd) ?_
                    kpc_turns
                    refine brF (by decide) ?_
                    refine brF (by decide) ?_
                    kpc_turns
                    exact hJ4.next rfl (by tlg_ne)
                  · obtain ⟨cq, hcq, hcq93⟩ : ∃ cq, P.cps[q]? = some cq ∧ cq ≠ 93 := by
                      rcases (by omega : q = i + 1 ∨ q = i + 2) with rfl | rfl
                      · exact (PL.m1_1 a ha ha93)
                      · exact (PL.m1_1 b' hb1 hb93)
                    have hne : (({ cps := #[cq] } : Str) != Str.ofString "]") = true := bne_iff_ne.mpr fun e => hcq93 (by have : (⟨#[cq]⟩ : Str) = ⟨#[93]⟩ := e; simpa using this)
                    refine Get.str (by omega) (by omega) (getItem_at hcq) ?_
                    kpc_turns
                    refine brT (by rw [hne]; decide) ?_
                    kpc_turns
                    refine brT (by decide) ?_
                    kpc_turns
                    exact hL2.next (m := m - 1) (PL.m2_3 ((q : Int) + 1) (q + 1) (by omega) (by omega) (by omega) rfl) (by omega) (by tlg_ne)
              · rintro _ rfl
                kpc_turns
                refine SS.if ?_
                kpc_turns
                refine brF (by simp; omega) ?_
                refine BB.cons ?_
                refine SS.assign ?_
                kpc_turns
                refine EE.slice ?_
                refine EPt.yes ?_
                kpc_turns
                refine EPt.yes ?_
                kpc_turns
                intro sl
                refine SubOp.str ?_
                refine Get.strSlice (by keq_rows) .int .int (by omega) ?_
                rewrite [hsl]
                rcases br_cases hst with ⟨rfl, rfl, rfl⟩ | ⟨rfl, rfl, rfl⟩ | ⟨rfl, rfl, rfl⟩
                · kpc_turns
                  refine SS.if ?_
                  kpc_turns
                  refine Op2.notinText ?_
                  kpc_turns
                  refine brT (by decide +kernel) ?_
                  kpc_turns
                  refine CC.replace0 (by decide +kernel) ?_
                  kpc_turns
                  refine GM.sub (sub_ok hG) ?_
                  kpc_turns
                  refine EE.lambda hE (hx.code.trans rfl) (code_ok hG) (by keq_rows) fun lam => ?_
                  kpc_turns
                  refine CC.resub (sub_ok hG) (by keq_rows) nf1 (by decide) (by decide) ?_
                  kpc_turns
                  refine SS.if ?_
                  kpc_turns
                  refine Truth.str (by decide) ?_
                  refine brF (by decide) ?_
                  refine BB.cons ?_
                  refine SS.if ?_
                  kpc_turns
                  refine brF (by decide) ?_
                  refine BB.cons ?_
                  refine SS.if ?_
                  kpc_turns
                  refine Get.str (c := 33) (by decide) (by decide) (by decide) ?_
                  kpc_turns
                  refine brT (by decide) ?_
                  kpc_turns
                  refine EE.slice ?_
                  refine EPt.yes ?_
                  kpc_turns
                  refine EPt.no ?_
                  intro sl2
                  refine SubOp.str ?_
                  refine Get.strSlice (by keq_rows) .int .none (by decide) ?_
                  kpc_turns
                  refine Op2.sadd (by decide) ?_
                  kpc_turns
                  refine Or.inr (PL.m3_3 b (boundAppend r) _ rfl rfl rfl ?_)
                  kpc_turns
                  refine EE.joined ?_
                  refine JP.cons ?_
                  kpc_turns
                  refine (PL.m1_2 _ rfl (by decide) ?_)
                  refine JP.cons ?_
                  refine EE.fmt ?_
                  kpc_turns
                  refine (PL.m1_2 _ rfl (by decide) ?_)
                  refine (PL.m1_2 _ rfl (by decide) ?_)
                  refine JP.cons ?_
                  kpc_turns
                  refine (PL.m1_2 _ rfl (by decide) ?_)
                  refine JP.nil (by decide) ?_
                  kpc_turns
                  refine ⟨⟨_, by keq_rows⟩, ?_⟩
                  refine CC.arg1 (congrArg AV.str (show _ = Str.ofString "[^a]" by decide)) ?_
                  refine CC.badd (x := some (Str.ofString "[^a]")) (by keq_rows) (by keq_rows) (by omega) ?_
                  kpc_turns
                  exact hL1.next (m := f) (PL.m3_4 ((i : Int) + 3 + 1) (i + 4) _ (by omega) hk' (by omega) (by simp <;> omega) rfl) (by omega) (by tlg_ne)
                · kpc_turns
                  refine SS.if ?_
                  kpc_turns
                  refine Op2.notinText ?_
                  kpc_turns
                  refine brT (by decide +kernel) ?_
                  kpc_turns
                  refine CC.replace0 (by decide +kernel) ?_
                  kpc_turns
                  refine GM.sub (sub_ok hG) ?_
                  kpc_turns
                  refine EE.lambda hE (hx.code.trans rfl) (code_ok hG) (by keq_rows) fun lam => ?_
                  kpc_turns
                  refine CC.resub (sub_ok hG) (by keq_rows) nf3 (by decide) (by decide) ?_
                  kpc_turns
                  refine SS.if ?_
                  kpc_turns
                  refine Truth.str (by decide) ?_
                  refine brF (by decide) ?_
                  refine BB.cons ?_
                  refine SS.if ?_
                  kpc_turns
                  refine brF (by decide) ?_
                  refine BB.cons ?_
                  refine SS.if ?_
                  kpc_turns
                  refine Get.str (c := 33) (by decide) (by decide) (by decide) ?_
                  kpc_turns
                  refine brT (by decide) ?_
                  kpc_turns
                  refine EE.slice ?_
                  refine EPt.yes ?_
                  kpc_turns
                  refine EPt.no ?_
                  intro sl2
                  refine SubOp.str ?_
                  refine Get.strSlice (by keq_rows) .int .none (by decide) ?_
                  kpc_turns
                  refine Op2.sadd (by decide) ?_
                  kpc_turns
                  refine Or.inr (PL.m3_3 b (boundAppend r) _ rfl rfl rfl ?_)
                  kpc_turns
                  refine EE.joined ?_
                  refine JP.cons ?_
                  kpc_turns
                  refine (PL.m1_2 _ rfl (by decide) ?_)
                  refine JP.cons ?_
                  refine EE.fmt ?_
                  kpc_turns
                  refine (PL.m1_2 _ rfl (by decide) ?_)
                  refine (PL.m1_2 _ rfl (by decide) ?_)
                  refine JP.cons ?_
                  kpc_turns
                  refine (PL.m1_2 _ rfl (by decide) ?_)
                  refine JP.nil (by decide) ?_
                  kpc_turns
                  refine ⟨⟨_, by keq_rows⟩, ?_⟩
                  refine CC.arg1 (congrArg AV.str (show _ = Str.ofString "[^b]" by decide)) ?_
                  refine CC.badd (x := some (Str.ofString "[^b]")) (by keq_rows) (by keq_rows) (by omega) ?_
                  kpc_turns
                  exact hL1.next (m := f) (PL.m3_4 ((i : Int) + 3 + 1) (i + 4) _ (by omega) hk' (by omega) (by simp <;> omega) rfl) (by omega) (by tlg_ne)
                · kpc_turns
                  refine SS.if ?_
                  kpc_turns
                  refine Op2.notinText ?_
                  kpc_turns
                  refine brT (by decide +kernel) ?_
                  kpc_turns
                  refine CC.replace0 (by decide +kernel) ?_
                  kpc_turns
                  refine GM.sub (sub_ok hG) ?_
                  kpc_turns
                  refine EE.lambda hE (hx.code.trans rfl) (code_ok hG) (by keq_rows) fun lam => ?_
                  kpc_turns
                  refine CC.resub (sub_ok hG) (by keq_rows) nf2 (by decide) (by decide) ?_
                  kpc_turns
                  refine SS.if ?_
                  kpc_turns
                  refine Truth.str (by decide) ?_
                  refine brF (by decide) ?_
                  refine BB.cons ?_
                  refine SS.if ?_
                  kpc_turns
                  refine brF (by decide) ?_
                  refine BB.cons ?_
                  refine SS.if ?_
                  kpc_turns
                  refine Get.str (c := 97) (by decide) (by decide) (by decide) ?_
                  kpc_turns
                  refine brF (by decide) ?_
                  refine BB.cons ?_
                  refine SS.if ?_
                  kpc_turns
                  refine Get.str (c := 97) (by decide) (by decide) (by decide) ?_
                  kpc_turns
                  refine ⟨by decide, fun tp => ?_⟩
                  refine Op2.inDataT hr' (.tuple (.head _) (.cons .str (.cons .str .nil))) .str (by decide +kernel) (by decide +kernel) (by decide +kernel) ?_
                  kpc_turns
                  refine brF (by decide +kernel) ?_
                  kpc_turns
                  refine Or.inr (PL.m3_3 b (boundAppend r) _ rfl rfl rfl ?_)
                  kpc_turns
                  refine EE.joined ?_
                  refine JP.cons ?_
                  kpc_turns
                  refine (PL.m1_2 _ rfl (by decide) ?_)
                  refine JP.cons ?_
                  refine EE.fmt ?_
                  kpc_turns
                  refine (PL.m1_2 _ rfl (by decide) ?_)
                  refine (PL.m1_2 _ rfl (by decide) ?_)
                  refine JP.cons ?_
                  kpc_turns
                  refine (PL.m1_2 _ rfl (by decide) ?_)
                  refine JP.nil (by decide) ?_
                  kpc_turns
                  refine ⟨⟨_, by keq_rows⟩, ?_⟩
                  refine CC.arg1 (congrArg AV.str (show _ = Str.ofString "[ab]" by decide)) ?_
                  refine CC.badd (x := some (Str.ofString "[ab]")) (by keq_rows) (by keq_rows) (by omega) ?_
                  kpc_turns
                  exact hL1.next (m := f) (PL.m3_4 ((i : Int) + 3 + 1) (i + 4) _ (by omega) hk' (by omega) (by simp <;> omega) rfl) (by omega) (by tlg_ne)
        · have hc1 : (({ cps := #[c] } : Str) == Str.ofString "*") = false := by rcases hcc with rfl | rfl | rfl <;> decide
          have hc2 : (({ cps := #[c] } : Str) == Str.ofString "?") = false := by rcases hcc with rfl | rfl | rfl <;> decide
          have hc3 : (({ cps := #[c] } : Str) == Str.ofString "[") = false := by rcases hcc with rfl | rfl | rfl <;> decide
          refine brF (by rw [hc1]; decide) ?_
          refine BB.cons ?_
          refine SS.if ?_
          kpc_turns
          refine brF (by rw [hc2]; decide) ?_
          refine BB.cons ?_
          refine SS.if ?_
          kpc_turns
          refine brF (by rw [hc3]; decide) ?_
          kpc_turns
          refine Or.inr (PL.m3_3 b (boundAppend r) _ rfl rfl rfl ?_)
          kpc_turns
          refine cc_escape hG hg hr' hcc ?_
          kpc_turns
          refine ⟨⟨_, by keq_rows⟩, ?_⟩
          refine CC.badd (x := some (escOf c)) (by keq_rows) (by keq_rows) (by omega) ?_
          kpc_turns
          exact hL1.next (m := f) (PL.m3_4 ((i : Int) + 1) (i + 1) _ (by omega) hk' (by omega) (by simp <;> omega) rfl) (by omega) (by tlg_ne)
      · have e : i = P.length := by
          have : ¬ (i : Int) < P.length := by simpa using hb
          omega
        subst e
        have : res = out := by
          cases k <;> simpa [truns] using hk
        subst this
        kpc_turns
        exact hJ1.next rfl (by tlg_ne)
  · rintro _ rfl
    kpc_turns
    refine SS.assert ?_
    kpc_turns
    refine ⟨by simp, ?_⟩
    kpc_turns
    exact (PL.m1_1 _ (by tlg_ne) (h r))
end
section
variable {G : Gd} {A : Around} {l l' : Led} {X : Xp} {R : AV → Led → Prop}
theorem ck_niinit (hG : Ok G) {n : Nat} (hr : Room A (n + 1)) {a dx : Addr} {node : Str} (h : ∀ sl, R .none ((a, .slots NI dx [some (.str node), some (.int 0), some (.ref sl)]) :: (sl, .list []) :: (dx, .idct []) :: l)) : CK G A (.ref 105) [.ref a, .str node] ((a, .inst NI dx) :: (dx, .idct []) :: l) R X := by
  refine CK.defB (bs := [(Str.ofString "self", .ref a), (Str.ofString "node", .str node)]) (fn_NI___init__ hG) hr (binds_plain (xs := [Str.ofString "self", Str.ofString "node"]) (by lcg_sub) ⟨rfl, rfl, rfl, rfl, rfl, rfl, by decide⟩) rfl (show ([Str.ofString "self", Str.ofString "node"] : List Str).Nodup by decide) (by kba_ints) (by lsm_bools) fun L env A' hE hr' hx => ?_
  refine BB.sub (.keep (.cons .head AOle.slots0 (.refl _))) ?_
  refine BB.cons ?_
  kpc_turns
  refine niS0 (vs2 := [some (.str node)]) hG (by keq_rows) (by kas_types) (.inr ⟨rfl, rfl⟩) ?_
  kpc_turns
  refine niS1 (vs2 := [some (.str node), some (.int 0)]) hG (by keq_rows) (by kas_types) (.inr ⟨rfl, rfl⟩) ?_
  kpc_turns
  refine ⟨by decide, fun sl => ?_⟩
  kpc_turns
  refine niS2 (vs2 := [some (.str node), some (.int 0), some (.ref sl)]) hG (by keq_rows) (by kas_types) (.inr ⟨rfl, rfl⟩) ?_
  kpc_turns
  exact ⟨_, by tlg_ne, h sl⟩
end
section
variable {G : Gd} {A : Around} {l l' : Led} {X : Xp} {R : AV → Led → Prop} {x dx d : Addr} {ep : Nat} {g : List NR} {rd : AV} {po nf : Int}
theorem cc_info (hG : Ok G) (hg : GlobOk G gtab) {n : Nat} (hr : Room A (n + 3)) {node : Str} (hz : g.length < 1000)
    (h : ∀ pre r post ep', r.nd.name = node → abs (pre ++ r :: post) = getN (abs g) node → R (.ref r.a) ((x, .inst TS dx) :: (dx, .idct (tsKV (.ref d) rd po nf)) :: (d, .sdict (nsKV (pre ++ r :: post)) ep') :: (nsLed NI (pre ++ r :: post) ++ l))) :
    CC G A (.ref 149) [.ref x, .str node] ((x, .inst TS dx) :: (dx, .idct (tsKV (.ref d) rd po nf)) :: (d, .sdict (nsKV g) ep) :: (nsLed NI g ++ l)) R X := by
  refine CC.def0 (fn_TS__get_nodeinfo hG) hr [Str.ofString "self", Str.ofString "node"] (by lcg_sub) ⟨rfl, rfl, rfl, rfl, rfl, rfl, by decide⟩ rfl (by kba_ints) (by lsm_bools) (by kbo_bools) fun L env A' hE hr' hx => ?_
  refine BB.cons ?_
  refine SS.if ?_
  kpc_turns
  refine tsG0 hG (by kas_types) (by kas_types) .ref ?_
  kpc_turns
  by_cases hn : node ∈ names (abs g)
  · obtain ⟨pre, r, post, rfl, rfl⟩ := names_split hn
    refine CC.dget (by keq_rows) (nsKV_mem (r := r) (by simp)) ?_
    kpc_turns
    refine Op2.isNoneRef ?_
    kpc_turns
    refine brF (by decide) ?_
    kpc_turns
    refine ⟨_, by tlg_ne, h pre r post ep rfl ?_⟩
    unfold getN
    rw [if_pos hn]
  · refine CC.dget0 (by keq_rows) (by rw [nsKV_names]; exact hn) ?_
    kpc_turns
    refine Op2.isNoneNone ?_
    kpc_turns
    refine brT (by decide) ?_
    refine BB.cons ?_
    refine SS.assign2 ?_
    kpc_turns
    refine Or.inl ⟨kept_NI hG, ?_⟩
    kpc_turns
    refine CC.make hG.K hr' (ni_makes _) (ni_init _) (ni_initT _) fun a dx2 A2 hr2 => ?_
    refine ck_niinit hG hr2 fun sl => ⟨rfl, ?_⟩
    refine Asg.sub ?_
    kpc_turns
    refine tsG0 hG (by kas_types) (by kas_types) .ref ?_
    kpc_turns
    refine SetI.sdict (by keq_rows) (by simp [nsKV]; omega) fun ep' => ?_
    kpc_turns
    have e1 : storedAV (nsKV g) node (.ref a) = nsKV (g ++ [⟨⟨node, 0, []⟩, a, dx2, sl⟩]) := by
      unfold storedAV
      rw [if_neg (by rw [nsKV_names]; exact hn)]
      simp [nsKV]
    rewrite [e1]
    have hc := ns_close (NI := NI) (pre := g) (r := ⟨⟨node, 0, []⟩, a, dx2, sl⟩) (post := []) (l := l)
    rewrite [List.append_nil] at hc
    dsimp only [nrS, nrL, nrD] at hc
    rewrite [show List.map AV.str [] = [] from rfl] at hc
    refine ⟨_, Sub.trans (.keep (.keep (.keep hc))) (by tlg_ne), h g ⟨⟨node, 0, []⟩, a, dx2, sl⟩ [] ep' rfl ?_⟩
    unfold getN
    rw [if_neg hn]
    simp [abs]
theorem cc_infoF (fr : Led) (hG : Ok G) (hg : GlobOk G gtab) {n : Nat} (hr : Room A (n + 3)) {node : Str} (hz : g.length < 1000)
    (h : ∀ pre r post ep', r.nd.name = node → abs (pre ++ r :: post) = getN (abs g) node → R (.ref r.a) (fr ++ ((x, .inst TS dx) :: (dx, .idct (tsKV (.ref d) rd po nf)) :: (d, .sdict (nsKV (pre ++ r :: post)) ep') :: (nsLed NI (pre ++ r :: post) ++ l)))) :
    CC G A (.ref 149) [.ref x, .str node] (fr ++ ((x, .inst TS dx) :: (dx, .idct (tsKV (.ref d) rd po nf)) :: (d, .sdict (nsKV g) ep) :: (nsLed NI g ++ l))) R X :=
  CC.post (CC.sub fr_in (cc_info hG hg hr hz fun pre r post ep' h1 h2 => ⟨_, fr_out, h pre r post ep' h1 h2⟩))
end
section
variable {G : Gd} {A : Around} {l l' : Led} {X : Xp} {R : AV → Led → Prop} {x dx d : Addr} {ep : Nat} {g : List NR} {po nf : Int}
theorem ck_add (hG : Ok G) (hg : GlobOk G gtab) {n : Nat} (hr : Room A (n + 4)) {node : Str} {ps : List Str} {m : Nat} (hz : g.length + ps.length < 900) (hm : m + ps.length < 900) (hsb : SB (abs g) m) (hnd : (names (abs g)).Nodup)
    (h : ∀ g' ep', abs g' = addS (abs g) node ps → R .none ((x, .inst TS dx) :: (dx, .idct (tsKV (.ref d) .none po nf)) :: (d, .sdict (nsKV g') ep') :: (nsLed NI g' ++ l))) :
    CK G A (.ref 156) ([.ref x, .str node] ++ ps.map .str) ((x, .inst TS dx) :: (dx, .idct (tsKV (.ref d) .none po nf)) :: (d, .sdict (nsKV g) ep) :: (nsLed NI g ++ l)) R X := by
  refine CK.defV (fn_TS_add hG) hr [Str.ofString "self", Str.ofString "node"] _ (vals := fun t => [some (.ref x), some (.str node), some (.ref t), none, none, none, none, none]) (by lcg_sub) ⟨rfl, rfl, rfl, rfl, rfl, rfl, by decide⟩ rfl (by simp; omega) rfl (by decide) (fun t => by show BKind _ [(Str.ofString "self", _), (Str.ofString "node", _), (Str.ofString "predecessors", _)]; kba_ints) (fun t => by show Init [(Str.ofString "self", _), (Str.ofString "node", _), (Str.ofString "predecessors", _)] _ _; lsm_bools) fun t L env A' hE hr' hx => ?_
  refine BB.cons ?_
  refine SS.if ?_
  kpc_turns
  refine tsG1 hG (by kas_types) (by kas_types) .none ?_
  kpc_turns
  refine Op2.isnotNoneNone ?_
  kpc_turns
  refine brF (by decide) ?_
  kpc_turns
  refine tsM_info hG (by kas_types) (by kas_types) ?_
  kpc_turns
  refine cc_infoF [(L, .ns nm_TS_add [some (.ref x), some (.str node), some (.ref t), none, none, none, none, none]), (t, .tuple (ps.map .str))] hG hg hr' (by omega) fun pre r post ep' hrn habs => ?_
  subst hrn
  have hnd1 : (names (abs (pre ++ r :: post))).Nodup := by rw [habs]; exact nodup_get hnd
  have hlen1 : (pre ++ r :: post).length ≤ g.length + 1 := by
    have := len_get (abs g) r.nd.name
    rw [← habs] at this
    simpa [abs] using this
  have hsb1 : SB (abs (pre ++ r :: post)) m := by rw [habs]; exact hsb.get _
  dsimp only [List.cons_append, List.nil_append]
  kpc_turns
  refine GAt.sub (.keep (.keep (.keep (.keep (.keep ns_open))))) ?_
  refine niG1 hG (by kas_types) (by kas_types) rfl .int ?_
  kpc_turns
  refine CC.len_tuple (by kas_types) (by simp; omega) ?_
  rewrite [List.length_map]
  kpc_turns
  refine niS1 (vs2 := [some (.str r.nd.name), some (.int (r.nd.np + ps.length)), some (.ref r.sl)]) hG (by keq_rows) (by kas_types) (.inl ⟨by simp, rfl⟩) ?_
  kpc_turns
  have habs1 : abs (pre ++ ⟨⟨r.nd.name, r.nd.np + ps.length, r.nd.succ⟩, r.a, r.dx, r.sl⟩ :: post) = updN (getN (abs g) r.nd.name) r.nd.name fun n => { n with np := n.np + ps.length } := by
    rw [← habs]; exact (upd_abs hnd1 fun n => { n with np := n.np + ps.length }).symm
  refine SS.forH ?_
  kpc_turns
  refine iter_tuple (by keq_rows) fun it => ?_
  refine ⟨ps.length, _, _, _, _, _, (L, .ns nm_TS_add [some (.ref x), some (.str r.nd.name), some (.ref t), some (.ref r.a), none, none, none, none]) :: (x, .inst TS dx) :: (dx, .idct (tsKV (.ref d) .none po nf)) :: (d, .sdict (nsKV (pre ++ ⟨⟨r.nd.name, r.nd.np + ps.length, r.nd.succ⟩, r.a, r.dx, r.sl⟩ :: post)) ep') :: (nsLed NI (pre ++ ⟨⟨r.nd.name, r.nd.np + ps.length, r.nd.succ⟩, r.a, r.dx, r.sl⟩ :: post) ++ l), by
    have := walk_tuple (G := G) (A := A') (it := it) (p := t) (xs := ps.map .str) hr'.h
    rw [List.length_map] at this
    exact this, trivial, ?_, fun k K => ∃ g' ep', g'.length ≤ g.length + 1 + k ∧ SB (abs g') (m + k) ∧ (names (abs g')).Nodup ∧ abs g' = (ps.take k).foldl (addE r.nd.name) (updN (getN (abs g) r.nd.name) r.nd.name fun n => { n with np := n.np + ps.length }) ∧
      K = (L, .ns nm_TS_add [some (.ref x), some (.str r.nd.name), some (.ref t), some (.ref r.a), none, none, none, none]) :: (x, .inst TS dx) :: (dx, .idct (tsKV (.ref d) .none po nf)) :: (d, .sdict (nsKV g') ep') :: (nsLed NI g' ++ l), ?_, ?_, ?_⟩
  · rw [nsKV_upd (pre := pre) (post := post) (r := r) (r' := ⟨⟨r.nd.name, r.nd.np + ps.length, r.nd.succ⟩, r.a, r.dx, r.sl⟩) rfl rfl]
    refine Sub.trans (.keep (.keep (.keep (.keep (.keep (.keep ns_close)))))) ?_
    dsimp only [nrS, nrL, nrD, List.cons_append, List.nil_append]
    tlg_ne
  · refine (PL.m2_4 _ ep' (by simpa using hlen1) ?_ ?_ (by simpa using habs1) rfl)
    · rw [habs1]
      exact (hsb.get _).upd _ _ (Nat.le_refl _) fun n hn => hn
    · rw [habs1, names_upd _ _ (fun n => { n with np := n.np + ps.length }) fun _ => rfl]; exact nodup_get hnd
  · (rintro FF1 hF1 k _ _ K hk ⟨hpk, rfl⟩; refine PL.j2_4 ?_; rintro g' ep2 hl2 hsb2 hnd2 habs2 rfl)
    rw [List.getElem?_map, Option.map_eq_some_iff] at hpk
    (revert hpk; refine PL.j1_1 ?_; rintro pred hpk rfl)
    have hkp : k < ps.length := by
      rcases Nat.lt_or_ge k ps.length with q | q
      · exact q
      · rw [List.getElem?_eq_none q] at hpk; cases hpk
    dsimp only [List.cons_append, List.nil_append]
    kpc_turns
    refine tsM_info hG (by kas_types) (by kas_types) ?_
    kpc_turns
    refine cc_infoF [(L, .ns nm_TS_add [some (.ref x), some (.str r.nd.name), some (.ref t), some (.ref r.a), some (.str pred), none, none, none]), (it, .tupiter t (k + 1)), (t, .tuple (ps.map .str))] hG hg hr' (by omega) fun pre2 r2 post2 ep3 hrn3 habs3 => ?_
    subst hrn3
    have hnd3 : (names (abs (pre2 ++ r2 :: post2))).Nodup := by rw [habs3]; exact nodup_get hnd2
    have hsb3 : SB (abs (pre2 ++ r2 :: post2)) (m + k) := by rw [habs3]; exact hsb2.get _
    have hr3 : r2.nd.succ.length ≤ m + k := hsb3 r2.nd (by simp [abs])
    have hlen3 : (pre2 ++ r2 :: post2).length ≤ g.length + 1 + k + 1 := by
      have := len_get (abs g') r2.nd.name
      rw [← habs3] at this
      have h2 : (abs g').length = g'.length := by simp [abs]
      have h3 : (abs (pre2 ++ r2 :: post2)).length = (pre2 ++ r2 :: post2).length := by simp [abs]
      omega
    dsimp only [List.cons_append, List.nil_append]
    kpc_turns
    refine GAt.sub (.keep (.keep (.keep (.keep (.keep (.keep ns_open)))))) ?_
    refine niG2 hG (by kas_types) (by kas_types) rfl .ref ?_
    kpc_turns
    refine CC.appends (by keq_rows) (by omega) ?_
    kpc_turns
    have habs4 : abs (pre2 ++ ⟨⟨r2.nd.name, r2.nd.np, r2.nd.succ ++ [r.nd.name]⟩, r2.a, r2.dx, r2.sl⟩ :: post2) = addE r.nd.name (abs g') r2.nd.name := by
      unfold addE
      rw [← habs3]; exact (upd_abs hnd3 fun n => { n with succ := n.succ ++ [r.nd.name] }).symm
    refine hF1.next (L := (L, .ns nm_TS_add [some (.ref x), some (.str r.nd.name), some (.ref t), some (.ref r.a), none, none, none, none]) :: (x, .inst TS dx) :: (dx, .idct (tsKV (.ref d) .none po nf)) :: (d, .sdict (nsKV (pre2 ++ ⟨⟨r2.nd.name, r2.nd.np, r2.nd.succ ++ [r.nd.name]⟩, r2.a, r2.dx, r2.sl⟩ :: post2)) ep3) :: (nsLed NI (pre2 ++ ⟨⟨r2.nd.name, r2.nd.np, r2.nd.succ ++ [r.nd.name]⟩, r2.a, r2.dx, r2.sl⟩ :: post2) ++ l)) (PL.m2_4 _ ep3 ?_ ?_ ?_ ?_ rfl) ?_
    · simp only [List.length_append, List.length_cons] at hlen3 ⊢; omega
    · rw [habs4]; exact (hsb2.addE _ _)
    · rw [habs4]; exact nodup_addE hnd2
    · rw [habs4, habs2, foldl_take _ _ hpk]
    · rw [nsKV_upd (pre := pre2) (post := post2) (r := r2) (r' := ⟨⟨r2.nd.name, r2.nd.np, r2.nd.succ ++ [r.nd.name]⟩, r2.a, r2.dx, r2.sl⟩) rfl rfl]
      refine Sub.trans (.keep (.keep (.keep (.keep (.keep (.keep ns_close)))))) ?_
      dsimp only [nrS, nrL, nrD, List.cons_append, List.nil_append]
      tlg_ne
  · (rintro K; refine PL.j2_4 ?_; rintro g' ep2 hl2 hsb2 hnd2 habs2 rfl)
    dsimp only [List.cons_append, List.nil_append]
    kpc_turns
    refine (PL.m1_1 _ (by tlg_ne) (h g' ep2 ?_))
    rw [habs2, List.take_length]
    rfl
theorem ck_addF (fr : Led) (hG : Ok G) (hg : GlobOk G gtab) {n : Nat} (hr : Room A (n + 4)) {node : Str} {ps : List Str} {m : Nat} (hz : g.length + ps.length < 900) (hm : m + ps.length < 900) (hsb : SB (abs g) m) (hnd : (names (abs g)).Nodup)
    (h : ∀ g' ep', abs g' = addS (abs g) node ps → R .none (fr ++ ((x, .inst TS dx) :: (dx, .idct (tsKV (.ref d) .none po nf)) :: (d, .sdict (nsKV g') ep') :: (nsLed NI g' ++ l)))) :
    CK G A (.ref 156) ([.ref x, .str node] ++ ps.map .str) (fr ++ ((x, .inst TS dx) :: (dx, .idct (tsKV (.ref d) .none po nf)) :: (d, .sdict (nsKV g) ep) :: (nsLed NI g ++ l))) R X :=
  CK.post (CK.sub fr_in (ck_add hG hg hr hz hm hsb hnd fun g' ep' h1 => (PL.m1_1 _ fr_out (h g' ep' h1))))
end
section
variable {G : Gd} {A : Around} {l l' : Led} {X : Xp} {R : AV → Led → Prop} {x dx d q : Addr} {ep : Nat} {g : List NR} {po nf : Int}
theorem cc_ready (hG : Ok G) (hg : GlobOk G gtab) {n : Nat} (hr : Room A (n + 1)) {ys : List Str} (hz : ys.length < 900) (hnd : (names (abs g)).Nodup) (hin : ∀ y ∈ ys, y ∈ names (abs g))
    (h : ∀ t g', abs g' = outS (abs g) ys → nsKV g' = nsKV g → R (.ref t) ((t, .tuple (ys.map .str)) :: (q, .list []) :: (x, .inst TS dx) :: (dx, .idct (tsKV (.ref d) (.ref q) (po + ys.length) nf)) :: (d, .sdict (nsKV g') ep) :: (nsLed NI g' ++ l))) :
    CC G A (.ref 168) [.ref x] ((q, .list (ys.map .str)) :: (x, .inst TS dx) :: (dx, .idct (tsKV (.ref d) (.ref q) po nf)) :: (d, .sdict (nsKV g) ep) :: (nsLed NI g ++ l)) R X := by
  refine CC.def0 (fn_TS_get_ready hG) hr [Str.ofString "self"] (by lcg_sub) ⟨rfl, rfl, rfl, rfl, rfl, rfl, by decide⟩ rfl (by kba_ints) (by lsm_bools) (by kbo_bools) fun L env A' hE hr' hx => ?_
  refine BB.cons ?_
  refine SS.if ?_
  kpc_turns
  refine tsG1 hG (by kas_types) (by kas_types) .ref ?_
  kpc_turns
  refine Op2.isNoneRef ?_
  kpc_turns
  refine brF (by decide) ?_
  kpc_turns
  refine tsG1 hG (by kas_types) (by kas_types) .ref ?_
  kpc_turns
  refine CC.tupleOf (by keq_rows) (by simp; omega) fun t => ?_
  kpc_turns
  refine tsG0 hG (by kas_types) (by kas_types) .ref ?_
  kpc_turns
  refine SS.forH ?_
  kpc_turns
  refine iter_tuple (by keq_rows) fun it => ?_
  refine ⟨ys.length, _, _, _, _, _, (L, .ns nm_TS_get_ready [some (.ref x), some (.ref t), some (.ref d), none, none, none, none, none]) :: (q, .list (ys.map .str)) :: (x, .inst TS dx) :: (dx, .idct (tsKV (.ref d) (.ref q) po nf)) :: (d, .sdict (nsKV g) ep) :: (nsLed NI g ++ l), by
    have := walk_tuple (G := G) (A := A') (it := it) (p := t) (xs := ys.map .str) hr'.h
    rw [List.length_map] at this
    exact this, trivial, ?_, fun k K => ∃ g', abs g' = outS (abs g) (ys.take k) ∧ nsKV g' = nsKV g ∧
      K = (L, .ns nm_TS_get_ready [some (.ref x), some (.ref t), some (.ref d), none, none, none, none, none]) :: (q, .list (ys.map .str)) :: (x, .inst TS dx) :: (dx, .idct (tsKV (.ref d) (.ref q) po nf)) :: (d, .sdict (nsKV g') ep) :: (nsLed NI g' ++ l), ?_, ?_, ?_⟩
  · dsimp only [List.cons_append, List.nil_append]
    tlg_ne
  · exact (PL.m1_2 g rfl rfl rfl)
  · (rintro FF1 hF1 k _ _ K hk ⟨hpk, rfl⟩; refine PL.j1_2 ?_; rintro g' habs hkv rfl)
    rw [List.getElem?_map, Option.map_eq_some_iff] at hpk
    (revert hpk; refine PL.j1_1 ?_; rintro y hpk rfl)
    have hnm : names (abs g') = names (abs g) := by rw [← nsKV_names, hkv, nsKV_names]
    (refine PL.x3_1 (names_split (g := g') (x := y) (by rw [hnm]; exact hin y (List.mem_of_getElem? hpk))) ?_; rintro pre r post rfl rfl)
    dsimp only [List.cons_append, List.nil_append]
    kpc_turns
    refine SubOp.sdict (by keq_rows) ?_
    refine Get.sdict (by keq_rows) (nsKV_mem (r := r) (by simp)) ?_
    refine SAt.sub (.keep (.keep (.keep (.keep (.keep (.keep (.keep ns_open))))))) ?_
    refine niS1 (vs2 := [some (.str r.nd.name), some (.int (-1)), some (.ref r.sl)]) hG (by keq_rows) (by kas_types) (.inl ⟨by simp, rfl⟩) ?_
    kpc_turns
    refine hF1.next (L := (L, .ns nm_TS_get_ready [some (.ref x), some (.ref t), some (.ref d), none, none, none, none, none]) :: (q, .list (ys.map .str)) :: (x, .inst TS dx) :: (dx, .idct (tsKV (.ref d) (.ref q) po nf)) :: (d, .sdict (nsKV (pre ++ ⟨⟨r.nd.name, -1, r.nd.succ⟩, r.a, r.dx, r.sl⟩ :: post)) ep) :: (nsLed NI (pre ++ ⟨⟨r.nd.name, -1, r.nd.succ⟩, r.a, r.dx, r.sl⟩ :: post) ++ l)) (PL.m1_2 _ ?_ ?_ rfl) ?_
    · unfold outS
      rw [foldl_take _ _ hpk]
      refine Eq.trans ?_ (congrArg (fun g => updN g r.nd.name fun n => { n with np := -1 }) habs)
      exact (upd_abs (by rw [hnm]; exact hnd) fun n => { n with np := -1 }).symm
    · rw [← hkv]; exact nsKV_upd rfl rfl
    · rw [nsKV_upd (pre := pre) (post := post) (r := r) (r' := ⟨⟨r.nd.name, -1, r.nd.succ⟩, r.a, r.dx, r.sl⟩) rfl rfl]
      refine Sub.trans (.keep (.keep (.keep (.keep (.keep (.keep (.keep ns_close))))))) ?_
      dsimp only [nrS, nrL, nrD, List.cons_append, List.nil_append]
      tlg_ne
  · (rintro K; refine PL.j1_2 ?_; rintro g' habs hkv rfl)
    dsimp only [List.cons_append, List.nil_append]
    kpc_turns
    refine tsG1 hG (by kas_types) (by kas_types) .ref ?_
    kpc_turns
    refine CC.clear (by keq_rows) (by simp; omega) ?_
    kpc_turns
    refine tsG2 hG (by kas_types) (by kas_types) ?_
    kpc_turns
    refine CC.len_tuple (by kas_types) (by simp; omega) ?_
    rewrite [List.length_map]
    kpc_turns
    refine tsS2 hG (by kas_types) (by keq_rows) ?_
    kpc_turns
    refine (PL.m1_1 _ (by tlg_ne) (h t g' ?_ hkv))
    rw [habs, List.take_length]
theorem cc_readyF (fr : Led) (hG : Ok G) (hg : GlobOk G gtab) {n : Nat} (hr : Room A (n + 1)) {ys : List Str} (hz : ys.length < 900) (hnd : (names (abs g)).Nodup) (hin : ∀ y ∈ ys, y ∈ names (abs g))
    (h : ∀ t g', abs g' = outS (abs g) ys → nsKV g' = nsKV g → R (.ref t) (fr ++ ((t, .tuple (ys.map .str)) :: (q, .list []) :: (x, .inst TS dx) :: (dx, .idct (tsKV (.ref d) (.ref q) (po + ys.length) nf)) :: (d, .sdict (nsKV g') ep) :: (nsLed NI g' ++ l)))) :
    CC G A (.ref 168) [.ref x] (fr ++ ((q, .list (ys.map .str)) :: (x, .inst TS dx) :: (dx, .idct (tsKV (.ref d) (.ref q) po nf)) :: (d, .sdict (nsKV g) ep) :: (nsLed NI g ++ l))) R X :=
  CC.post (CC.sub fr_in4 (cc_ready hG hg hr hz hnd hin fun t g' h1 h2 => (PL.m1_1 _ fr_out5 (h t g' h1 h2))))
end
section
variable {G : Gd} {A : Around} {l l' : Led} {X : Xp} {R : AV → Led → Prop} {x dx d q : Addr} {ep : Nat} {g : List NR} {po nf : Int}
theorem cc_done (hG : Ok G) (hg : GlobOk G gtab) {n : Nat} (hr : Room A (n + 1)) {node : Str} {ys : List Str} (hnd : (names (abs g)).Nodup) (hnode : node ∈ names (abs g)) (hnp : npOf (abs g) node = -1) (hsu : ∀ s ∈ succOf (abs g) node, s ∈ names (abs g)) (hz : ys.length + (succOf (abs g) node).length < 900)
    (h : ∀ g' ys', (abs g', ys') = doneS (abs g, ys) node → nsKV g' = nsKV g → R .none ((q, .list (ys'.map .str)) :: (x, .inst TS dx) :: (dx, .idct (tsKV (.ref d) (.ref q) po (nf + 1))) :: (d, .sdict (nsKV g') ep) :: (nsLed NI g' ++ l))) :
    CC G A (.ref 189) ([.ref x] ++ [.str node]) ((q, .list (ys.map .str)) :: (x, .inst TS dx) :: (dx, .idct (tsKV (.ref d) (.ref q) po nf)) :: (d, .sdict (nsKV g) ep) :: (nsLed NI g ++ l)) R X := by
  refine CC.defV (fn_TS_done hG) hr [Str.ofString "self"] _ (vals := fun t => [some (.ref x), some (.ref t), none, none, none, none, none, none, none, none, none]) (by lcg_sub) ⟨rfl, rfl, rfl, rfl, rfl, rfl, by decide⟩ rfl (by simp) rfl (by decide) (fun t => by show BKind _ [(Str.ofString "self", _), (Str.ofString "nodes", _)]; kba_ints) (fun t => by show Init [(Str.ofString "self", _), (Str.ofString "nodes", _)] _ _; lsm_bools) fun t L env A' hE hr' hx => ?_
  (refine PL.x3_1 (names_split hnode) ?_; rintro pre r post rfl rfl)
  rw [npOf_split hnd] at hnp
  rw [succOf_split hnd] at hsu hz
  refine BB.cons ?_
  refine SS.if ?_
  kpc_turns
  refine tsG1 hG (by kas_types) (by kas_types) .ref ?_
  kpc_turns
  refine Op2.isNoneRef ?_
  kpc_turns
  refine brF (by decide) ?_
  kpc_turns
  refine tsG0 hG (by kas_types) (by kas_types) .ref ?_
  kpc_turns
  refine SS.forH ?_
  kpc_turns
  refine iter_tuple (by keq_rows) fun it0 => ?_
  refine ⟨1, _, _, _, _, _, (L, .ns nm_TS_done [some (.ref x), some (.ref t), some (.ref d), none, none, none, none, none, none, none, none]) :: (q, .list (ys.map .str)) :: (x, .inst TS dx) :: (dx, .idct (tsKV (.ref d) (.ref q) po nf)) :: (d, .sdict (nsKV (pre ++ r :: post)) ep) :: (nsLed NI (pre ++ r :: post) ++ l), walk_tuple (G := G) (A := A') (it := it0) (p := t) (xs := [.str r.nd.name]) hr'.h, trivial, ?_,
    fun k K => (k = 0 ∧ K = (L, .ns nm_TS_done [some (.ref x), some (.ref t), some (.ref d), none, none, none, none, none, none, none, none]) :: (q, .list (ys.map .str)) :: (x, .inst TS dx) :: (dx, .idct (tsKV (.ref d) (.ref q) po nf)) :: (d, .sdict (nsKV (pre ++ r :: post)) ep) :: (nsLed NI (pre ++ r :: post) ++ l)) ∨
      (k = 1 ∧ ∃ g' ys', (abs g', ys') = doneS (abs (pre ++ r :: post), ys) r.nd.name ∧ nsKV g' = nsKV (pre ++ r :: post) ∧ K = (L, .ns nm_TS_done [some (.ref x), some (.ref t), some (.ref d), none, none, none, none, none, none, none, none]) :: (q, .list (ys'.map .str)) :: (x, .inst TS dx) :: (dx, .idct (tsKV (.ref d) (.ref q) po (nf + 1))) :: (d, .sdict (nsKV g') ep) :: (nsLed NI g' ++ l)), ?_, ?_, ?_⟩
  · dsimp only [List.cons_append, List.nil_append]
    tlg_ne
  · exact .inl ⟨rfl, rfl⟩
  · rintro FF1 hF1 k _ _ K hk ⟨hpk, rfl⟩ (⟨rfl, rfl⟩ | ⟨rfl, _⟩)
    · cases hpk
      dsimp only [List.cons_append, List.nil_append]
      kpc_turns
      refine SS.if ?_
      kpc_turns
      refine CC.dget (by keq_rows) (nsKV_mem (r := r) (by simp)) ?_
      kpc_turns
      refine Op2.isNoneRef ?_
      kpc_turns
      refine brF (by decide) ?_
      kpc_turns
      refine GAt.sub (.keep (.keep (.keep (.keep (.keep (.keep (.keep (Sub.trans (.keep nsS_open) ns_lists)))))))) ?_
      refine niG1 hG (by kas_types) (by kas_types) rfl .int ?_
      kpc_turns
      refine SS.if ?_
      kpc_turns
      refine brF (by rw [hnp]; decide) ?_
      kpc_turns
      refine niS1 (vs2 := [some (.str r.nd.name), some (.int (-2)), some (.ref r.sl)]) hG (by keq_rows) (by kas_types) (.inl ⟨by simp, rfl⟩) ?_
      kpc_turns
      refine SS.forH ?_
      kpc_turns
      refine niG2 hG (by kas_types) (by kas_types) rfl .ref ?_
      kpc_turns
      refine iter_list (by keq_rows) fun it => ?_
      have hnm0 : names (abs (pre ++ ⟨⟨r.nd.name, -2, r.nd.succ⟩, r.a, r.dx, r.sl⟩ :: post)) = names (abs (pre ++ r :: post)) := by rw [← nsKV_names, ← nsKV_names, nsKV_upd (pre := pre) (post := post) (r := r) (r' := ⟨⟨r.nd.name, -2, r.nd.succ⟩, r.a, r.dx, r.sl⟩) rfl rfl]
      have habs0 : abs (pre ++ ⟨⟨r.nd.name, -2, r.nd.succ⟩, r.a, r.dx, r.sl⟩ :: post) = updN (abs (pre ++ r :: post)) r.nd.name fun n => { n with np := -2 } := (upd_abs hnd fun n => { n with np := -2 }).symm
      refine ⟨r.nd.succ.length, _, _, _, _, _, (L, .ns nm_TS_done [some (.ref x), some (.ref t), some (.ref d), none, none, none, none, none, none, none, none]) :: (it0, .tupiter t 1) :: (t, .tuple [.str r.nd.name]) :: (q, .list (ys.map .str)) :: (x, .inst TS dx) :: (dx, .idct (tsKV (.ref d) (.ref q) po nf)) :: (d, .sdict (nsKV (pre ++ ⟨⟨r.nd.name, -2, r.nd.succ⟩, r.a, r.dx, r.sl⟩ :: post)) ep) ::  (nsS NI (pre ++ ⟨⟨r.nd.name, -2, r.nd.succ⟩, r.a, r.dx, r.sl⟩ :: post) ++ (nsQ (qOf pre ++ qOf post) ++ l)), by
        have := walk_list (G := G) (A := A') (it := it) (p := r.sl) (xs := r.nd.succ.map .str) hr'.h
        rw [List.length_map] at this
        exact this, trivial, ?_, fun k K => ∃ g' ys', (abs g', ys') = (r.nd.succ.take k).foldl decS (updN (abs (pre ++ r :: post)) r.nd.name fun n => { n with np := -2 }, ys) ∧ nsKV g' = nsKV (pre ++ r :: post) ∧ qOf g' = qOf pre ++ (r.sl, r.nd.succ) :: qOf post ∧ ys'.length ≤ ys.length + k ∧
        K = (L, .ns nm_TS_done [some (.ref x), some (.ref t), some (.ref d), none, none, none, none, none, none, none, none]) :: (it0, .tupiter t 1) :: (t, .tuple [.str r.nd.name]) :: (q, .list (ys'.map .str)) :: (x, .inst TS dx) :: (dx, .idct (tsKV (.ref d) (.ref q) po nf)) :: (d, .sdict (nsKV g') ep) ::  (nsS NI g' ++ (nsQ (qOf pre ++ qOf post) ++ l)), ?_, ?_, ?_⟩
      · rw [nsKV_upd (pre := pre) (post := post) (r := r) (r' := ⟨⟨r.nd.name, -2, r.nd.succ⟩, r.a, r.dx, r.sl⟩) rfl rfl]
        refine Sub.trans (.keep (.keep (.keep (.keep (.keep (.keep (.keep (.keep (.keep nsS_close))))))))) ?_
        dsimp only [nrS, nrL, nrD, List.cons_append, List.nil_append]
        tlg_ne
      · exact (PL.m2_4 ((pre ++ ⟨⟨r.nd.name, -2, r.nd.succ⟩, r.a, r.dx, r.sl⟩ :: post)) ys (by rw [List.take_zero]; exact Prod.ext habs0 rfl) (nsKV_upd rfl rfl) (by simp [qOf]) (by simp) rfl)
      · (rintro FF2 hF2 k _ _ K hk2 ⟨hpk, rfl⟩; refine PL.j2_4 ?_; rintro g' ys' hst hkv hq hl' rfl)
        rw [List.getElem?_map, Option.map_eq_some_iff] at hpk
        (revert hpk; refine PL.j1_1 ?_; rintro s hpk rfl)
        have hnm : names (abs g') = names (abs (pre ++ r :: post)) := by rw [← nsKV_names, hkv, nsKV_names]
        (refine PL.x3_1 (names_split (g := g') (x := s) (by rw [hnm]; exact hsu s (List.mem_of_getElem? hpk))) ?_; rintro pre2 r2 post2 rfl rfl)
        have hnd2 : (names (abs (pre2 ++ r2 :: post2))).Nodup := by rw [hnm]; exact hnd
        have hst3 : (abs (pre2 ++ ⟨⟨r2.nd.name, r2.nd.np - 1, r2.nd.succ⟩, r2.a, r2.dx, r2.sl⟩ :: post2), if r2.nd.np - 1 = 0 then ys' ++ [r2.nd.name] else ys') = (r.nd.succ.take (k + 1)).foldl decS (updN (abs (pre ++ r :: post)) r.nd.name fun n => { n with np := -2 }, ys) := by
          rw [foldl_take _ _ hpk, ← hst]
          unfold decS
          rw [npOf_split hnd2, upd_abs hnd2 fun n => { n with np := n.np - 1 }]
        dsimp only [List.cons_append, List.nil_append]
        kpc_turns
        refine SubOp.sdict (by keq_rows) ?_
        refine Get.sdict (by keq_rows) (nsKV_mem (r := r2) (by simp)) ?_
        kpc_turns
        refine GAt.sub (.keep (.keep (.keep (.keep (.keep (.keep (.keep (.keep (.keep nsS_open))))))))) ?_
        refine niG1 hG (by kas_types) (by kas_types) rfl .int ?_
        kpc_turns
        refine niS1 (vs2 := [some (.str r2.nd.name), some (.int (r2.nd.np - 1)), some (.ref r2.sl)]) hG (by keq_rows) (by kas_types) (.inl ⟨by simp, rfl⟩) ?_
        kpc_turns
        refine SS.if ?_
        kpc_turns
        refine niG1 hG (by kas_types) (by kas_types) rfl .int ?_
        kpc_turns
        refine ⟨fun hb => ?_, fun hb => ?_⟩
        · have hb' : r2.nd.np - 1 = 0 := by simpa using hb
          rw [if_pos hb'] at hst3
          kpc_turns
          refine tsG1 hG (by kas_types) (by kas_types) .ref ?_
          kpc_turns
          refine CC.appends (by keq_rows) (by omega) ?_
          kpc_turns
          refine hF2.next (L := (L, .ns nm_TS_done [some (.ref x), some (.ref t), some (.ref d), none, none, none, none, none, none, none, none]) :: (it0, .tupiter t 1) :: (t, .tuple [.str r.nd.name]) :: (q, .list ((ys' ++ [r2.nd.name]).map .str)) :: (x, .inst TS dx) :: (dx, .idct (tsKV (.ref d) (.ref q) po nf)) :: (d, .sdict (nsKV (pre2 ++ ⟨⟨r2.nd.name, r2.nd.np - 1, r2.nd.succ⟩, r2.a, r2.dx, r2.sl⟩ :: post2)) ep) ::  (nsS NI (pre2 ++ ⟨⟨r2.nd.name, r2.nd.np - 1, r2.nd.succ⟩, r2.a, r2.dx, r2.sl⟩ :: post2) ++ (nsQ (qOf pre ++ qOf post) ++ l))) (PL.m2_4 _ _ hst3 ?_ ?_ ?_ rfl) ?_
          · rw [← hkv]; exact nsKV_upd rfl rfl
          · rw [← hq]; simp [qOf]
          · simp; omega
          · rw [nsKV_upd (pre := pre2) (post := post2) (r := r2) (r' := ⟨⟨r2.nd.name, r2.nd.np - 1, r2.nd.succ⟩, r2.a, r2.dx, r2.sl⟩) rfl rfl]
            refine Sub.trans (.keep (.keep (.keep (.keep (.keep (.keep (.keep (.keep (.keep nsS_close))))))))) ?_
            dsimp only [nrS, nrL, nrD, List.cons_append, List.nil_append]
            tlg_ne
        · have hb' : ¬ r2.nd.np - 1 = 0 := by simpa using hb
          rw [if_neg hb'] at hst3
          kpc_turns
          refine hF2.next (L := (L, .ns nm_TS_done [some (.ref x), some (.ref t), some (.ref d), none, none, none, none, none, none, none, none]) :: (it0, .tupiter t 1) :: (t, .tuple [.str r.nd.name]) :: (q, .list (ys'.map .str)) :: (x, .inst TS dx) :: (dx, .idct (tsKV (.ref d) (.ref q) po nf)) :: (d, .sdict (nsKV (pre2 ++ ⟨⟨r2.nd.name, r2.nd.np - 1, r2.nd.succ⟩, r2.a, r2.dx, r2.sl⟩ :: post2)) ep) ::  (nsS NI (pre2 ++ ⟨⟨r2.nd.name, r2.nd.np - 1, r2.nd.succ⟩, r2.a, r2.dx, r2.sl⟩ :: post2) ++ (nsQ (qOf pre ++ qOf post) ++ l))) (PL.m2_4 _ _ hst3 ?_ ?_ ?_ rfl) ?_
          · rw [← hkv]; exact nsKV_upd rfl rfl
          · rw [← hq]; simp [qOf]
          · omega
          · rw [nsKV_upd (pre := pre2) (post := post2) (r := r2) (r' := ⟨⟨r2.nd.name, r2.nd.np - 1, r2.nd.succ⟩, r2.a, r2.dx, r2.sl⟩) rfl rfl]
            refine Sub.trans (.keep (.keep (.keep (.keep (.keep (.keep (.keep (.keep (.keep nsS_close))))))))) ?_
            dsimp only [nrS, nrL, nrD, List.cons_append, List.nil_append]
            tlg_ne
      · (rintro K; refine PL.j2_4 ?_; rintro g' ys' hst hkv hq hl' rfl)
        rw [List.take_length] at hst
        dsimp only [List.cons_append, List.nil_append]
        kpc_turns
        refine tsG3 hG (by kas_types) (by kas_types) ?_
        kpc_turns
        refine tsS3 hG (by kas_types) (by keq_rows) ?_
        kpc_turns
        refine hF1.next (L := (L, .ns nm_TS_done [some (.ref x), some (.ref t), some (.ref d), none, none, none, none, none, none, none, none]) :: (q, .list (ys'.map .str)) :: (x, .inst TS dx) :: (dx, .idct (tsKV (.ref d) (.ref q) po (nf + 1))) :: (d, .sdict (nsKV g') ep) :: (nsLed NI g' ++ l)) (.inr ⟨rfl, g', ys', ?_, hkv, rfl⟩) ?_
        · unfold doneS
          dsimp only
          rw [succOf_split hnd]
          exact hst
        · refine Sub.trans (.keep (.keep (.keep (.keep (.keep (.keep (.keep (ns_lists_back hq)))))))) ?_
          tlg_ne
    · omega
  · rintro K (⟨hf, _⟩ | ⟨_, g', ys', hd, hkv, rfl⟩)
    · cases hf
    · dsimp only [List.cons_append, List.nil_append]
      kpc_turns
      exact (PL.m1_1 _ (by tlg_ne) (h g' ys' hd hkv))
theorem cc_doneF (fr : Led) (hG : Ok G) (hg : GlobOk G gtab) {n : Nat} (hr : Room A (n + 1)) {node : Str} {ys : List Str} (hnd : (names (abs g)).Nodup) (hnode : node ∈ names (abs g)) (hnp : npOf (abs g) node = -1) (hsu : ∀ s ∈ succOf (abs g) node, s ∈ names (abs g)) (hz : ys.length + (succOf (abs g) node).length < 900)
    (h : ∀ g' ys', (abs g', ys') = doneS (abs g, ys) node → nsKV g' = nsKV g → R .none (fr ++ ((q, .list (ys'.map .str)) :: (x, .inst TS dx) :: (dx, .idct (tsKV (.ref d) (.ref q) po (nf + 1))) :: (d, .sdict (nsKV g') ep) :: (nsLed NI g' ++ l)))) :
    CC G A (.ref 189) ([.ref x] ++ [.str node]) (fr ++ ((q, .list (ys.map .str)) :: (x, .inst TS dx) :: (dx, .idct (tsKV (.ref d) (.ref q) po nf)) :: (d, .sdict (nsKV g) ep) :: (nsLed NI g ++ l))) R X :=
  CC.post (CC.sub fr_in4 (cc_done hG hg hr hnd hnode hnp hsu hz fun g' ys' h1 h2 => (PL.m1_1 _ fr_out4 (h g' ys' h1 h2))))
end
section
variable {G : Gd} {A : Around} {l l' : Led} {X : Xp} {R : AV → Led → Prop} {x dx d : Addr} {ep : Nat} {g : List NR} {po nf : Int} {rd : AV}
theorem cc_cycle (hG : Ok G) (hg : GlobOk G gtab) {n : Nat} (hr : Room A (n + 1)) (hfrs : FrsIn A l) (hz : g.length < 900) (hnd : (names (abs g)).Nodup) (hcl : ∀ y ∈ names (abs g), ∀ s ∈ succOf (abs g) y, s ∈ names (abs g))
    (h0 : ∀ fin, FC.Topo (succOf (abs g)) fin → (∀ y ∈ names (abs g), y ∈ fin) → R .none ((x, .inst TS dx) :: (dx, .idct (tsKV (.ref d) rd po nf)) :: (d, .sdict (nsKV g) ep) :: (nsLed NI g ++ l)))
    (h1 : ∀ r zs C, zs ≠ [] → zs.length < 2000 → C ≠ [] → (∀ y ∈ C, y ∈ names (abs g)) → (∀ y ∈ C, ∃ z ∈ C, y ∈ succOf (abs g) z) → R (.ref r) ((r, .list zs) :: (x, .inst TS dx) :: (dx, .idct (tsKV (.ref d) rd po nf)) :: (d, .sdict (nsKV g) ep) :: (nsLed NI g ++ l))) :
    CC G A (.ref 196) [.ref x] ((x, .inst TS dx) :: (dx, .idct (tsKV (.ref d) rd po nf)) :: (d, .sdict (nsKV g) ep) :: (nsLed NI g ++ l)) R X := by
  refine CC.def0 (fn_TS__find_cycle hG) hr [Str.ofString "self"] (by lcg_sub) ⟨rfl, rfl, rfl, rfl, rfl, rfl, by decide⟩ rfl (by kba_ints) (by lsm_bools) (by kbo_bools) fun L env A' hE hr' hx => ?_
  (revert hfrs; refine PL.j1_1 ?_; rintro es hfr hes)
  have hfr' : A'.frames = some (env :: es) := by rw [hx.deeper]; show A.frames.map _ = _; rw [hfr]; rfl
  have hmod : env.scope.kind ≠ .module := by rw [hE.kind]; decide
  have hinl : ∀ (vs : List (Option AV)) (l₂ : Led), (L, AO.ns nm_TS__find_cycle vs) ∈ l₂ → (∀ p ∈ l, p ∈ l₂) → ∀ y ∈ env :: es, FrIn l₂ y := fun vs l₂ hL hl y hy => by
    rcases List.mem_cons.mp hy with rfl | hy
    · exact ⟨hmod, L, _, vs, hx.frame, hL⟩
    · exact (hes y hy).sub hl
  have hnl : (names (abs g)).length = g.length := by simp [names, abs]
  refine BB.cons ?_
  kpc_turns
  refine tsG0 hG (by kas_types) (by kas_types) .ref ?_
  kpc_turns
  refine ⟨by decide, fun sk => ?_⟩
  kpc_turns
  refine ⟨by decide, fun ik => ?_⟩
  kpc_turns
  refine CC.newset fun se => ?_
  kpc_turns
  refine EE.dict0 hg fun ni ep0 => ?_
  kpc_turns
  refine SS.forH ?_
  kpc_turns
  refine iter_dict (by keq_rows) fun it0 => ?_
  refine ⟨(nsKV g).length, _, _, _, _, _, (L, .ns nm_TS__find_cycle [some (.ref x), some (.ref d), some (.ref sk), some (.ref ik), some (.ref se), some (.ref ni), none, none, none, none, none]) :: (sk, .list []) :: (ik, .list []) :: (se, .sset (fun _ => false) 0) :: (ni, .sdict [] ep0) :: (x, .inst TS dx) :: (dx, .idct (tsKV (.ref d) rd po nf)) :: (nsLed NI g ++ l), walk_keys (G := G) (A := A') (it := it0) (d := d) (kvs := nsKV g) (ep := ep) hr'.h, trivial, ?_,
    fun j K => ∃ fin ep2, FC.Inv (names (abs g)) (succOf (abs g)) (stOf []) fin none ∧ (∀ i y, i < j → (names (abs g))[i]? = some y → y ∈ fin) ∧
      K = (L, .ns nm_TS__find_cycle [some (.ref x), some (.ref d), some (.ref sk), some (.ref ik), some (.ref se), some (.ref ni), none, none, none, none, none]) :: (sk, .list ((stkL []).map .str)) :: (ik, .list (bsL [])) :: (se, .sset (FC.seen (stOf []) fin) ((stOf []).map (·.1) ++ fin).length) :: (ni, .sdict (idxKV []) ep2) :: (x, .inst TS dx) :: (dx, .idct (tsKV (.ref d) rd po nf)) :: (nsLed NI g ++ l), ?_, ?_, ?_⟩
  · dsimp only [List.cons_append, List.nil_append]
    tlg_ne
  · exact (PL.m2_2 ([]) ep0 (⟨List.nodup_nil, (fun y hy => by cases hy), .nil, trivial⟩) (fun i y hi => absurd hi (Nat.not_lt_zero i)) rfl)
  · (rintro FF1 hF1 j _ _ K hj ⟨v, bv, hv, rfl, rfl⟩; refine PL.j2_2 ?_; rintro fin ep2 hI hfin rfl)
    have hvn : (names (abs g))[j]? = some v := by
      rw [← nsKV_names, List.getElem?_map, hv]; rfl
    have hvg : v ∈ names (abs g) := List.mem_of_getElem? hvn
    dsimp only [List.cons_append, List.nil_append]
    kpc_turns
    refine SS.if ?_
    kpc_turns
    refine Op2.inset (by keq_rows) ?_
    kpc_turns
    refine ⟨fun hb => ?_, fun hb => ?_⟩
    · have hvf : v ∈ fin := by
        rcases FC.seen_iff.mp hb with q | q
        · cases q
        · exact q
      kpc_turns
      refine hF1.cont (L := (L, .ns nm_TS__find_cycle [some (.ref x), some (.ref d), some (.ref sk), some (.ref ik), some (.ref se), some (.ref ni), none, none, none, none, none]) :: (sk, .list ((stkL []).map .str)) :: (ik, .list (bsL [])) :: (se, .sset (FC.seen (stOf []) fin) ((stOf []).map (·.1) ++ fin).length) :: (ni, .sdict (idxKV []) ep2) :: (x, .inst TS dx) :: (dx, .idct (tsKV (.ref d) rd po nf)) :: (nsLed NI g ++ l)) (PL.m2_2 fin ep2 hI (fun i y hi hy => ?_) rfl) (by dsimp only [List.cons_append, List.nil_append]; tlg_ne)
      rcases Nat.lt_or_ge i j with q | q
      · exact hfin i y q hy
      · have : i = j := by omega
        subst this
        rw [hvn] at hy; cases hy
        exact hvf
    · have hvs : v ∉ fin := fun q => by
        have := FC.seen_iff.mpr (.inr q : v ∈ (stOf []).map (·.1) ∨ v ∈ fin)
        rw [this] at hb; cases hb
      kpc_turns
      refine SS.sub (l' := (L, .ns nm_TS__find_cycle [some (.ref x), some (.ref d), some (.ref sk), some (.ref ik), some (.ref se), some (.ref ni), some (.str v), none, none, none, none]) :: (sk, .list ((stkL []).map .str)) :: (ik, .list (bsL [])) :: (se, .sset (FC.seen (stOf []) fin) ((stOf []).map (·.1) ++ fin).length) :: (ni, .sdict (idxKV []) ep2) :: (it0, .keyiter d (j + 1) (nsKV g).length ep) :: (d, .sdict (nsKV g) ep) :: (x, .inst TS dx) :: (dx, .idct (tsKV (.ref d) rd po nf)) :: (nsLed NI g ++ l)) (by tlg_ne) ?_
      refine SS.whileH (FC.msr (names (abs g)) (succOf (abs g)) (stOf []) fin) (fun m K => ∃ rst fin' ep2 u, m = FC.msr (names (abs g)) (succOf (abs g)) (stOf rst) fin' ∧ FC.Inv (names (abs g)) (succOf (abs g)) (stOf rst) fin' (some u) ∧ u ∈ (names (abs g)) ∧ SOk g rst ∧ (∀ y ∈ fin, y ∈ fin') ∧ (v ∈ (stOf rst).map (·.1) ∨ v ∈ fin' ∨ u = v) ∧
        K = (L, .ns nm_TS__find_cycle [some (.ref x), some (.ref d), some (.ref sk), some (.ref ik), some (.ref se), some (.ref ni), some (.str u), none, none, none, none]) :: (sk, .list ((stkL rst).map .str)) :: (ik, .list (bsL rst)) :: (se, .sset (FC.seen (stOf rst) fin') ((stOf rst).map (·.1) ++ fin').length) :: (ni, .sdict (idxKV rst) ep2) :: (it0, .keyiter d (j + 1) (nsKV g).length ep) :: (d, .sdict (nsKV g) ep) :: (x, .inst TS dx) :: (dx, .idct (tsKV (.ref d) rd po nf)) :: (itLed rst ++ (nsLed NI g ++ l))) ?_ (fun KK1 EE1 hL1 => ?_)
      · exact (PL.m4_6 ([]) fin ep2 v rfl (⟨hI.nodup, hI.sub, hI.topo, trivial⟩) hvg ((fun e he => by cases he)) ((fun y hy => hy)) (.inr (.inr rfl)) rfl)
      · (rintro m _; refine PL.j4_6 ?_; rintro rst fin' ep3 u hmm hI1 hug hso hff hbot rfl)
        have hlen := hI1.len
        rw [hnl] at hlen
        have hlr : (stOf rst).length = rst.length := by simp [stOf]
        have hmem : ∀ q ∈ g, nrS NI q ∈ itLed rst ++ (nsLed NI g ++ l) ∧ nrL q ∈ itLed rst ++ (nsLed NI g ++ l) ∧ nrD q ∈ itLed rst ++ (nsLed NI g ++ l) := fun q hq =>
          (PL.m0_2 (List.mem_append_right _ (ns_mem hq l).1) (List.mem_append_right _ (ns_mem hq l).2.1) (List.mem_append_right _ (ns_mem hq l).2.2))
        kpc_turns
        refine brT (by decide) ?_
        refine BB.cons ?_
        refine SS.joinH (fun K => ∃ rst2 fin2 ep2, FC.msr (names (abs g)) (succOf (abs g)) (stOf rst2) fin2 ≤ m ∧ FC.Inv (names (abs g)) (succOf (abs g)) (stOf rst2) fin2 none ∧ SOk g rst2 ∧ (∀ y ∈ fin, y ∈ fin2) ∧ (v ∈ (stOf rst2).map (·.1) ∨ v ∈ fin2) ∧
          K = (L, .ns nm_TS__find_cycle [some (.ref x), some (.ref d), some (.ref sk), some (.ref ik), some (.ref se), some (.ref ni), none, none, none, none, none]) :: (sk, .list ((stkL rst2).map .str)) :: (ik, .list (bsL rst2)) :: (se, .sset (FC.seen (stOf rst2) fin2) ((stOf rst2).map (·.1) ++ fin2).length) :: (ni, .sdict (idxKV rst2) ep2) :: (it0, .keyiter d (j + 1) (nsKV g).length ep) :: (d, .sdict (nsKV g) ep) :: (x, .inst TS dx) :: (dx, .idct (tsKV (.ref d) rd po nf)) :: (itLed rst2 ++ (nsLed NI g ++ l))) (fun JJ1 hJ1 => ?_) ?_
        · refine SS.if ?_
          kpc_turns
          refine Op2.inset (by keq_rows) ?_
          kpc_turns
          refine ⟨fun hs => ?_, fun hs => ?_⟩
          · refine BB.cons ?_
            refine SS.if ?_
            kpc_turns
            refine Op2.indict (by keq_rows) ?_
            kpc_turns
            rewrite [idx_names]
            refine ⟨fun hst => ?_, fun hst => ?_⟩
            · have hust : u ∈ (stOf rst).map (·.1) := by rw [← mem_stkL]; simpa using hst
              (refine PL.x1_2 (hI1.ring hust) ?_; rintro C c1 c2 c3)
              (refine PL.x1_1 (idx_get hust) ?_; rintro i hi hil)
              kpc_turns
              refine EE.slice ?_
              refine EPt.yes ?_
              kpc_turns
              refine SubOp.sdict (by keq_rows) ?_
              refine Get.sdict (by keq_rows) hi ?_
              refine EPt.no ?_
              intro sl
              refine SubOp.list (by keq_rows) ?_
              refine Get.listSlice (by keq_rows) (by keq_rows) .int .none (by rw [List.length_map, len_stkL]; omega) fun cy => ?_
              kpc_turns
              refine ⟨by show 1 ≤ 1000; decide, fun one => ?_⟩
              have hcl2 : (pickAV ((stkL rst).map .str) (some (i : Int)) none).length ≤ 1000 := by
                have := pickAV_len ((stkL rst).map .str) (some (i : Int)) none
                rw [List.length_map, len_stkL] at this
                omega
              refine Op2.ladd (by kas_types) (by kas_types) (by simp; omega) fun rr => ?_
              kpc_turns
              refine (PL.m1_1 _ ?_ (h1 rr (pickAV ((stkL rst).map .str) (some (i : Int)) none ++ [.str u]) C (by simp) (by simp; omega) c1 c2 c3))
              refine Sub.trans (l' := (rr, .list (pickAV ((stkL rst).map .str) (some (i : Int)) none ++ [.str u])) :: (x, .inst TS dx) :: (dx, .idct (tsKV (.ref d) rd po nf)) :: (d, .sdict (nsKV g) ep) :: (itLed rst ++ (nsLed NI g ++ l))) (.keep (.keep (.keep (.keep .left)))) ?_
              tlg_ne
            · have huf : u ∈ fin' := by
                rcases FC.seen_iff.mp hs with q | q
                · rw [← mem_stkL] at q
                  have : (stkL rst).contains u = true := by simpa using q
                  rw [this] at hst; cases hst
                · exact q
              kpc_turns
              refine hJ1.next (PL.m3_5 rst fin' ep3 (Nat.le_of_eq hmm.symm) (hI1.settle huf) hso hff ?_ rfl) (by tlg_ne)
              rcases hbot with q | q | q
              · exact .inl q
              · exact .inr q
              · subst q; exact .inr huf
          · have hu1 : u ∉ (stOf rst).map (·.1) := fun q => by
              rw [FC.seen_iff.mpr (.inl q)] at hs; cases hs
            have hu2 : u ∉ fin' := fun q => by
              rw [FC.seen_iff.mpr (.inr q)] at hs; cases hs
            (refine PL.x3_1 (names_split hug) ?_; rintro pre q post hgq hqn)
            have hqg : q ∈ g := by rw [hgq]; simp
            subst hqn
            kpc_turns
            refine CC.sadd (by keq_rows) (by simp; omega) ?_
            rewrite [FC.seen_push 0, hs]
            kpc_turns
            refine SubOp.sdict (by keq_rows) ?_
            refine Get.sdict (by keq_rows) (nsKV_mem hqg) ?_
            (refine PL.x0_2 (hmem q hqg) ?_; rintro hm1 hm2 hm3)
            refine niG2 (x := q.a) (dx := q.dx) (kvs := []) hG (by repeat (first | exact hm1 | apply List.mem_cons_of_mem)) (by repeat (first | exact hm3 | apply List.mem_cons_of_mem)) rfl .ref ?_
            kpc_turns
            refine CC.iterList (xs := q.nd.succ.map .str) (by repeat (first | exact hm2 | apply List.mem_cons_of_mem)) fun it => ?_
            refine GAt.next (by keq_rows) fun b => ?_
            kpc_turns
            refine CC.append (by keq_rows) (by rw [len_bsL]; omega) ?_
            kpc_turns
            refine CC.lens (by keq_rows) (by rw [len_stkL]; omega) ?_
            kpc_turns
            refine SetI.sdict (by keq_rows) (by rw [len_idx]; omega) fun ep4 => ?_
            kpc_turns
            refine CC.appends (by keq_rows) (by rw [len_stkL]; omega) ?_
            kpc_turns
            have hI2 := hI1.push hug hu1 hu2
            refine hJ1.next (l' := (L, .ns nm_TS__find_cycle [some (.ref x), some (.ref d), some (.ref sk), some (.ref ik), some (.ref se), some (.ref ni), none, none, none, none, none]) :: (sk, .list ((stkL (⟨q.nd.name, b, it, q.sl, 0⟩ :: rst)).map .str)) :: (ik, .list (bsL (⟨q.nd.name, b, it, q.sl, 0⟩ :: rst))) :: (se, .sset (FC.seen (stOf (⟨q.nd.name, b, it, q.sl, 0⟩ :: rst)) fin') ((stOf (⟨q.nd.name, b, it, q.sl, 0⟩ :: rst)).map (·.1) ++ fin').length) :: (ni, .sdict (idxKV (⟨q.nd.name, b, it, q.sl, 0⟩ :: rst)) ep4) :: (it0, .keyiter d (j + 1) (nsKV g).length ep) :: (d, .sdict (nsKV g) ep) :: (x, .inst TS dx) :: (dx, .idct (tsKV (.ref d) rd po nf)) :: (itLed (⟨q.nd.name, b, it, q.sl, 0⟩ :: rst) ++ (nsLed NI g ++ l))) (PL.m3_5 (⟨q.nd.name, b, it, q.sl, 0⟩ :: rst) fin' ep4 ((by rw [hmm]; exact Nat.le_of_lt (FC.msr_push hnd hug hu1 hu2))) hI2 ?_ hff ?_ rfl) ?_
            · intro e he
              rcases List.mem_cons.mp he with rfl | he
              · exact (PL.m1_2 q hqg rfl rfl)
              · exact hso e he
            · rcases hbot with h | h | h
              · exact .inl (.tail _ h)
              · exact .inr h
              · subst h; exact .inl (.head _)
            · rewrite [stkL_cons, bsL_cons, ← idx_push (r := rst) (e := ⟨q.nd.name, b, it, q.sl, 0⟩) hu1, ← len_stkL rst]
              show Sub ((L, .ns nm_TS__find_cycle [some (.ref x), some (.ref d), some (.ref sk), some (.ref ik), some (.ref se), some (.ref ni), none, none, none, none, none]) :: (sk, .list ((stkL rst ++ [q.nd.name]).map .str)) :: (ik, .list (bsL rst ++ [.ref b])) :: (se, .sset (FC.seen ((q.nd.name, 0) :: stOf rst) fin') (if false = true then ((stOf rst).map (·.1) ++ fin').length else ((stOf rst).map (·.1) ++ fin').length + 1)) :: (ni, .sdict (storedAV (idxKV rst) q.nd.name (.int ((stkL rst).length : Nat))) ep4) :: (it0, .keyiter d (j + 1) (nsKV g).length ep) :: (d, .sdict (nsKV g) ep) :: (x, .inst TS dx) :: (dx, .idct (tsKV (.ref d) rd po nf)) :: (b, .raw (boundNext it)) :: (it, .listiter q.sl 0) :: (itLed rst ++ (nsLed NI g ++ l))) _
              tlg_ne
        · (rintro _; refine PL.j3_5 ?_; rintro rst fin' ep3 hms hI1 hso hff hbot rfl)
          kpc_turns
          refine SS.whileH (FC.msr (names (abs g)) (succOf (abs g)) (stOf rst) fin') (fun m2 K => ∃ rst fin' ep2, m2 = FC.msr (names (abs g)) (succOf (abs g)) (stOf rst) fin' ∧ FC.msr (names (abs g)) (succOf (abs g)) (stOf rst) fin' ≤ m ∧ FC.Inv (names (abs g)) (succOf (abs g)) (stOf rst) fin' none ∧ SOk g rst ∧ (∀ y ∈ fin, y ∈ fin') ∧ (v ∈ (stOf rst).map (·.1) ∨ v ∈ fin') ∧
            K = (L, .ns nm_TS__find_cycle [some (.ref x), some (.ref d), some (.ref sk), some (.ref ik), some (.ref se), some (.ref ni), none, none, none, none, none]) :: (sk, .list ((stkL rst).map .str)) :: (ik, .list (bsL rst)) :: (se, .sset (FC.seen (stOf rst) fin') ((stOf rst).map (·.1) ++ fin').length) :: (ni, .sdict (idxKV rst) ep2) :: (it0, .keyiter d (j + 1) (nsKV g).length ep) :: (d, .sdict (nsKV g) ep) :: (x, .inst TS dx) :: (dx, .idct (tsKV (.ref d) rd po nf)) :: (itLed rst ++ (nsLed NI g ++ l))) ?_ (fun KK2 EE2 hL2 => ?_)
          · exact (PL.m3_6 rst fin' ep3 rfl hms hI1 hso hff hbot rfl)
          · clear hI1 hso hff hbot hms
            (rintro m2 _; refine PL.j3_6 ?_; rintro rst fin' ep3 rfl hms hI1 hso hff hbot rfl)
            have hlen := hI1.len
            rw [hnl] at hlen
            have hlr : (stOf rst).length = rst.length := by simp [stOf]
            kpc_turns
            refine Truth.lists (by keq_rows) (by rw [len_stkL]; omega) ?_
            refine ⟨fun hne => ?_, fun hne => ?_⟩
            · cases rst with
              | nil => simp [stkL] at hne
              | cons e rst =>
                (refine PL.x1_2 (hso e (.head _)) ?_; rintro q hqg hqn hqs)
                obtain ⟨nd0, b, it, sl, k⟩ := e
                dsimp only at hqn hqs
                subst hqn hqs
                have hsucc := succ_mem hqg hnd
                have hlr2 : rst.length < 900 := by
                  simp only [stOf, List.length_map, List.length_cons] at hlen; omega
                have hm2 : nrL q ∈ itLed rst ++ (nsLed NI g ++ l) := List.mem_append_right _ (ns_mem hqg l).2.1
                have hnotin : q.nd.name ∉ (stOf rst).map (·.1) := fun h => (List.nodup_cons.mp hI1.nodup).1 (List.mem_append_left _ h)
                simp only [stkL_cons, bsL_cons]
                dsimp only [itLed, List.cons_append]
                refine BB.cons ?_
                refine SS.try1 (C := "StopIteration") (T := "StopIteration") hfr' hx.frame isExc_stop notTuple_stop isSubtype_stop (fun A l R hR => EE.glob hE hg (by kct_strs) (by kct_strs) hR) ?_
                refine BB.cons ?_
                refine SS.assign ?_
                refine EE.callB ?_
                kpc_turns
                refine Get.last (by keq_rows) (by rw [len_bsL]; omega) ?_
                refine (PL.m3_3 b (boundNext it) _ rfl rfl rfl ?_)
                kpc_turns
                refine ⟨⟨_, by keq_rows⟩, ?_⟩
                cases hs : q.nd.succ[k]? with
                | some s =>
                  refine CC.bnext (p := q.sl) (xs := q.nd.succ.map .str) (i := k) (a := .str s) (by kas_types) (by keq_rows) (by repeat (first | exact hm2 | apply List.mem_cons_of_mem)) (by rw [List.getElem?_map, hs]; rfl) ?_
                  kpc_turns
                  have hs' : (succOf (abs g) q.nd.name)[k]? = some s := by rw [hsucc]; exact hs
                  refine hL1.next (m := FC.msr (names (abs g)) (succOf (abs g)) (stOf (⟨q.nd.name, b, it, q.sl, k + 1⟩ :: rst)) fin') (l' := (L, .ns nm_TS__find_cycle [some (.ref x), some (.ref d), some (.ref sk), some (.ref ik), some (.ref se), some (.ref ni), some (.str s), none, none, none, none]) :: (sk, .list ((stkL (⟨q.nd.name, b, it, q.sl, k + 1⟩ :: rst)).map .str)) :: (ik, .list (bsL (⟨q.nd.name, b, it, q.sl, k + 1⟩ :: rst))) :: (se, .sset (FC.seen (stOf (⟨q.nd.name, b, it, q.sl, k + 1⟩ :: rst)) fin') ((stOf (⟨q.nd.name, b, it, q.sl, k + 1⟩ :: rst)).map (·.1) ++ fin').length) :: (ni, .sdict (idxKV (⟨q.nd.name, b, it, q.sl, k + 1⟩ :: rst)) ep3) :: (it0, .keyiter d (j + 1) (nsKV g).length ep) :: (d, .sdict (nsKV g) ep) :: (x, .inst TS dx) :: (dx, .idct (tsKV (.ref d) rd po nf)) :: (itLed (⟨q.nd.name, b, it, q.sl, k + 1⟩ :: rst) ++ (nsLed NI g ++ l))) (PL.m4_6 (⟨q.nd.name, b, it, q.sl, k + 1⟩ :: rst) fin' ep3 s rfl (hI1.next hs') (hcl _ (hI1.sub _ (.head _)) s (List.mem_of_getElem? hs')) ?_ hff ?_ rfl) (Nat.lt_of_lt_of_le (FC.msr_next hs') hms) ?_
                  · intro e he
                    rcases List.mem_cons.mp he with rfl | he
                    · exact (PL.m1_2 q hqg rfl rfl)
                    · exact hso e (.tail _ he)
                  · exact hbot.elim .inl fun h => .inr (.inl h)
                  · simp only [stkL_cons, bsL_cons]
                    dsimp only [itLed, List.cons_append]
                    show Sub ((L, .ns nm_TS__find_cycle [some (.ref x), some (.ref d), some (.ref sk), some (.ref ik), some (.ref se), some (.ref ni), some (.str s), none, none, none, none]) :: (sk, .list ((stkL rst ++ [q.nd.name]).map .str)) :: (ik, .list (bsL rst ++ [.ref b])) :: (se, .sset (FC.seen (stOf (⟨q.nd.name, b, it, q.sl, k⟩ :: rst)) fin') ((stOf (⟨q.nd.name, b, it, q.sl, k⟩ :: rst)).map (·.1) ++ fin').length) :: (ni, .sdict (idxKV (⟨q.nd.name, b, it, q.sl, k⟩ :: rst)) ep3) :: (it0, .keyiter d (j + 1) (nsKV g).length ep) :: (d, .sdict (nsKV g) ep) :: (x, .inst TS dx) :: (dx, .idct (tsKV (.ref d) rd po nf)) :: (b, .raw (boundNext it)) :: (it, .listiter q.sl (k + 1)) :: (itLed rst ++ (nsLed NI g ++ l))) _
                    tlg_ne
                | none =>
                  have hs' : (succOf (abs g) q.nd.name)[k]? = none := by rw [hsucc]; exact hs
                  refine CC.bnext_end (p := q.sl) (xs := q.nd.succ.map .str) (i := k) hr'.h (by kas_types) (by keq_rows) (by repeat (first | exact hm2 | apply List.mem_cons_of_mem)) (by rw [List.getElem?_map, hs]; rfl) fun ex => ?_
                  refine TryX.mk .head (hinl _ _ (by kas_types) (fun p hp => by repeat (first | exact (List.mem_append_right _ (List.mem_append_right _ hp)) | apply List.mem_cons_of_mem))) ?_
                  refine BB.cons ?_
                  refine SS.del1 ?_
                  kpc_turns
                  refine CC.pops (by keq_rows) (by rw [len_stkL]; omega) ?_
                  refine (PL.m5_5 ni (idxKV (⟨q.nd.name, b, it, q.sl, k⟩ :: rst)) ep3 q.nd.name _ rfl rfl (by keq_rows) (by rw [len_idx]; omega) ?_ (fun ep4 => ?_))
                  · rw [idx_names, stkL_cons]; simp
                  rewrite [idx_pop (e := ⟨q.nd.name, b, it, q.sl, k⟩) hnotin]
                  kpc_turns
                  refine CC.pop (by keq_rows) (by rw [len_bsL]; omega) ?_
                  kpc_turns
                  have hlen2 : ((stOf rst).map (·.1) ++ q.nd.name :: fin').length = (((q.nd.name, k) :: stOf rst).map (·.1) ++ fin').length := by simp; omega
                  refine hL2.next (m := FC.msr (names (abs g)) (succOf (abs g)) (stOf rst) (q.nd.name :: fin')) (l' := (L, .ns nm_TS__find_cycle [some (.ref x), some (.ref d), some (.ref sk), some (.ref ik), some (.ref se), some (.ref ni), none, none, none, none, none]) :: (sk, .list ((stkL rst).map .str)) :: (ik, .list (bsL rst)) :: (se, .sset (FC.seen (stOf rst) (q.nd.name :: fin')) ((stOf rst).map (·.1) ++ (q.nd.name :: fin')).length) :: (ni, .sdict (idxKV rst) ep4) :: (it0, .keyiter d (j + 1) (nsKV g).length ep) :: (d, .sdict (nsKV g) ep) :: (x, .inst TS dx) :: (dx, .idct (tsKV (.ref d) rd po nf)) :: (itLed rst ++ (nsLed NI g ++ l))) (PL.m3_6 rst (q.nd.name :: fin') ep4 rfl (Nat.le_trans (Nat.le_of_lt FC.msr_pop) hms) (hI1.pop hs') ((fun e he => hso e (.tail _ he))) ((fun y hy => .tail _ (hff y hy))) ?_ rfl) FC.msr_pop ?_
                  · rcases hbot with h | h
                    · rcases List.mem_cons.mp h with h | h
                      · exact .inr (by rw [h]; exact .head _)
                      · exact .inl h
                    · exact .inr (.tail _ h)
                  · rewrite [← FC.seen_pop (k := k), hlen2]
                    show Sub ((L, .ns nm_TS__find_cycle [some (.ref x), some (.ref d), some (.ref sk), some (.ref ik), some (.ref se), some (.ref ni), none, none, none, none, none]) :: (sk, .list ((stkL rst).map .str)) :: (ik, .list (bsL rst)) :: (se, .sset (FC.seen (stOf (⟨q.nd.name, b, it, q.sl, k⟩ :: rst)) fin') ((stOf (⟨q.nd.name, b, it, q.sl, k⟩ :: rst)).map (·.1) ++ fin').length) :: (ni, .sdict (idxKV rst) ep4) :: (it0, .keyiter d (j + 1) (nsKV g).length ep) :: (d, .sdict (nsKV g) ep) :: (x, .inst TS dx) :: (dx, .idct (tsKV (.ref d) rd po nf)) :: (itLed rst ++ (nsLed NI g ++ l))) _
                    tlg_ne
            · cases rst with
              | cons e rst => simp [stkL] at hne
              | nil =>
                kpc_turns
                refine hF1.next (L := (L, .ns nm_TS__find_cycle [some (.ref x), some (.ref d), some (.ref sk), some (.ref ik), some (.ref se), some (.ref ni), none, none, none, none, none]) :: (sk, .list ((stkL []).map .str)) :: (ik, .list (bsL [])) :: (se, .sset (FC.seen (stOf []) fin') ((stOf []).map (·.1) ++ fin').length) :: (ni, .sdict (idxKV []) ep3) :: (x, .inst TS dx) :: (dx, .idct (tsKV (.ref d) rd po nf)) :: (nsLed NI g ++ l)) (PL.m2_2 fin' ep3 hI1 (fun i y hi hy => ?_) rfl) ?_
                · rcases Nat.lt_or_ge i j with h | h
                  · exact hff _ (hfin i y h hy)
                  · have : i = j := by omega
                    subst this
                    rw [hvn] at hy; cases hy
                    rcases hbot with h | h
                    · cases h
                    · exact h
                · dsimp only [itLed, List.nil_append, List.cons_append]
                  tlg_ne
  · (rintro K; refine PL.j2_2 ?_; rintro fin ep2 hI hfin rfl)
    dsimp only [List.cons_append, List.nil_append]
    kpc_turns
    refine (PL.m1_1 _ (by tlg_ne) (h0 fin hI.topo fun y hy => ?_))
    obtain ⟨i, hi, rfl⟩ := List.mem_iff_getElem.mp hy
    refine hfin i _ ?_ (List.getElem?_eq_getElem hi)
    rw [← nsKV_names, List.length_map] at hi
    exact hi
theorem cc_cycleF (fr : Led) (hG : Ok G) (hg : GlobOk G gtab) {n : Nat} (hr : Room A (n + 1)) (hfrs : FrsIn A (fr ++ l)) (hz : g.length < 900) (hnd : (names (abs g)).Nodup) (hcl : ∀ y ∈ names (abs g), ∀ s ∈ succOf (abs g) y, s ∈ names (abs g))
    (h0 : ∀ fin, FC.Topo (succOf (abs g)) fin → (∀ y ∈ names (abs g), y ∈ fin) → R .none (fr ++ ((x, .inst TS dx) :: (dx, .idct (tsKV (.ref d) rd po nf)) :: (d, .sdict (nsKV g) ep) :: (nsLed NI g ++ l))))
    (h1 : ∀ r zs C, zs ≠ [] → zs.length < 2000 → C ≠ [] → (∀ y ∈ C, y ∈ names (abs g)) → (∀ y ∈ C, ∃ z ∈ C, y ∈ succOf (abs g) z) → R (.ref r) (fr ++ ((r, .list zs) :: (x, .inst TS dx) :: (dx, .idct (tsKV (.ref d) rd po nf)) :: (d, .sdict (nsKV g) ep) :: (nsLed NI g ++ l)))) :
    CC G A (.ref 196) [.ref x] (fr ++ ((x, .inst TS dx) :: (dx, .idct (tsKV (.ref d) rd po nf)) :: (d, .sdict (nsKV g) ep) :: (nsLed NI g ++ l))) R X :=
  CC.post (CC.sub fr_in (cc_cycle hG hg hr hfrs hz hnd hcl (fun fin a b => (PL.m1_1 _ fr_out (h0 fin a b))) fun r zs C a b c e f => (PL.m1_1 _ fr_out4 (h1 r zs C a b c e f))))
end
section
variable {G : Gd} {A : Around} {l l' : Led} {X : Xp} {R : AV → Led → Prop} {x dx d : Addr} {ep : Nat} {g : List NR} {po nf : Int}
noncomputable def readyOf (g : List Nd) : List Str := (g.filter fun n => n.np == 0).map Nd.name
theorem cc_prepare (hG : Ok G) (hg : GlobOk G gtab) {n : Nat} (hr : Room A (n + 2)) (hfrs : FrsIn A l) (hz : g.length < 900) (hnd : (names (abs g)).Nodup) (hcl : ∀ y ∈ names (abs g), ∀ s ∈ succOf (abs g) y, s ∈ names (abs g))
    (hno : ∀ C : List Str, C ≠ [] → (∀ y ∈ C, y ∈ names (abs g)) → (∀ y ∈ C, ∃ z ∈ C, y ∈ succOf (abs g) z) → False)
    (h : ∀ q, R .none ((q, .list ((readyOf (abs g)).map .str)) :: (x, .inst TS dx) :: (dx, .idct (tsKV (.ref d) (.ref q) po nf)) :: (d, .sdict (nsKV g) ep) :: (nsLed NI g ++ l))) :
    CC G A (.ref 161) [.ref x] ((x, .inst TS dx) :: (dx, .idct (tsKV (.ref d) .none po nf)) :: (d, .sdict (nsKV g) ep) :: (nsLed NI g ++ l)) R X := by
  refine CC.def0 (fn_TS_prepare hG) hr [Str.ofString "self"] (by lcg_sub) ⟨rfl, rfl, rfl, rfl, rfl, rfl, by decide⟩ rfl (by kba_ints) (by lsm_bools) (by kbo_bools) fun L env A' hE hr' hx => ?_
  refine BB.cons ?_
  refine SS.if ?_
  kpc_turns
  refine tsG1 hG (by kas_types) (by kas_types) .none ?_
  kpc_turns
  refine Op2.isnotNoneNone ?_
  kpc_turns
  refine brF (by decide) ?_
  kpc_turns
  refine EE.listcomp (cn := [(Str.ofString ".0", .local), (Str.ofString "i", .local)]) (cn' := [(Str.ofString ".0", .local), (Str.ofString "i", .local)]) (cl2 := []) (ownk := []) (vals := [none, none]) hE ⟨rfl, rfl, rfl, by decide, rfl, by decide, by decide, by decide, by decide, rfl, rfl⟩ ?_
  kpc_turns
  refine tsG0 hG (by kas_types) (by kas_types) .ref ?_
  kpc_turns
  refine CC.values (by keq_rows) fun vw => ?_
  refine iter_values (by keq_rows) (by keq_rows) fun it => ?_
  have hkl : (nsKV g).length = g.length := by simp [nsKV]
  refine (PL.m7_4 ((nsKV g).length) _ _ _ _ _ ((L, .ns nm_TS_prepare [some (.ref x), none, none, none]) :: (x, .inst TS dx) :: (dx, .idct (tsKV (.ref d) .none po nf)) :: (nsLed NI g ++ l)) (walk_vals (G := G) (A := A') (it := it) (d := d) (kvs := nsKV g) (ep := ep) hr'.h) trivial (by rw [hkl]; omega) (by dsimp only [List.cons_append, List.nil_append]; tlg_ne) (fun C acc own cenv hown hEc => ?_))
  obtain rfl : own = [] := by simpa using hown
  refine (PL.m1_2 (fun k xs K => xs = (readyOf (abs (g.take k))).map .str ∧ K = (L, .ns nm_TS_prepare [some (.ref x), none, none, none]) :: (x, .inst TS dx) :: (dx, .idct (tsKV (.ref d) .none po nf)) :: (nsLed NI g ++ l)) (⟨rfl, rfl⟩) ?_ ?_)
  · (rintro k xs a _ K hk; refine PL.j1_1 ?_; rintro ky hka rfl ⟨rfl, rfl⟩)
    have hkg : k < g.length := by rw [← hkl]; exact hk
    have hgk : g[k]? = some g[k] := List.getElem?_eq_getElem hkg
    have hka2 : ky = g[k].nd.name ∧ a = .ref g[k].a := by
      unfold nsKV at hka
      rw [List.getElem?_map, hgk] at hka
      simp only [Option.map_some, Option.some.injEq, Prod.mk.injEq] at hka
      exact ⟨hka.1.symm, hka.2.symm⟩
    obtain ⟨rfl, rfl⟩ := hka2
    have hmem := ns_mem (NI := NI) (List.getElem_mem hkg) l
    (revert hmem; refine PL.j0_2 ?_; rintro hm1 hm2 hm3)
    have hab : abs (g.take (k + 1)) = abs (g.take k) ++ [g[k].nd] := by
      unfold abs
      rw [List.take_add_one, hgk, List.map_append]
      rfl
    dsimp only [List.cons_append, List.nil_append]
    kpc_turns
    refine IT.one ?_
    kpc_turns
    refine niG1 (x := g[k].a) (dx := g[k].dx) (kvs := []) hG (by repeat (first | exact hm1 | apply List.mem_cons_of_mem)) (by repeat (first | exact hm3 | apply List.mem_cons_of_mem)) rfl .int ?_
    kpc_turns
    refine ⟨fun hb => ?_, fun hb => ?_⟩
    · kpc_turns
      refine niG0 (x := g[k].a) (dx := g[k].dx) (kvs := []) hG (by repeat (first | exact hm1 | apply List.mem_cons_of_mem)) (by repeat (first | exact hm3 | apply List.mem_cons_of_mem)) rfl .str ?_
      refine CEnd.mk (K := (L, .ns nm_TS_prepare [some (.ref x), none, none, none]) :: (x, .inst TS dx) :: (dx, .idct (tsKV (.ref d) .none po nf)) :: (nsLed NI g ++ l)) ⟨?_, rfl⟩ (by dsimp only [List.cons_append, List.nil_append]; tlg_ne)
      rw [hab]
      unfold readyOf
      rw [List.filter_append, List.map_append, List.map_append]
      congr 1
      simp only [List.filter_cons, hb, if_true, List.filter_nil, List.map_cons, List.map_nil]
    · refine CEnd.mk (K := (L, .ns nm_TS_prepare [some (.ref x), none, none, none]) :: (x, .inst TS dx) :: (dx, .idct (tsKV (.ref d) .none po nf)) :: (nsLed NI g ++ l)) ⟨?_, rfl⟩ (by dsimp only [List.cons_append, List.nil_append]; tlg_ne)
      rw [hab]
      unfold readyOf
      rw [List.filter_append]
      simp [hb]
  · rintro xs K ⟨rfl, rfl⟩
    rw [hkl, List.take_length]
    dsimp only [List.cons_append, List.nil_append]
    kpc_turns
    refine tsS1 hG (by kas_types) (by keq_rows) ?_
    kpc_turns
    refine tsM_cyc hG (by kas_types) (by kas_types) ?_
    kpc_turns
    (revert hfrs; refine PL.j1_1 ?_; rintro es hfr hes)
    have hfrs2 : FrsIn A' ([(L, .ns nm_TS_prepare [some (.ref x), none, none, none]), (acc, .list ((readyOf (abs g)).map .str))] ++ l) := by
      refine (PL.m1_1 (env :: es) (by rw [hx.deeper]; show A.frames.map _ = _; rw [hfr]; rfl) (fun y hy => ?_))
      rcases List.mem_cons.mp hy with rfl | hy
      · exact ⟨by rw [hE.kind]; decide, L, _, _, hx.frame, .head _⟩
      · exact (hes y hy).sub fun p hp => List.mem_append_right _ hp
    refine CC.sub (l' := [(L, .ns nm_TS_prepare [some (.ref x), none, none, none]), (acc, .list ((readyOf (abs g)).map .str))] ++ ((x, .inst TS dx) :: (dx, .idct (tsKV (.ref d) (.ref acc) po nf)) :: (d, .sdict (nsKV g) ep) :: (nsLed NI g ++ l))) (by dsimp only [List.cons_append, List.nil_append]; tlg_ne) ?_
    refine cc_cycleF [(L, .ns nm_TS_prepare [some (.ref x), none, none, none]), (acc, .list ((readyOf (abs g)).map .str))] hG hg hr' hfrs2 hz hnd hcl (fun fin hT hall => ?_) fun r zs C _ _ c1 c2 c3 => (hno C c1 c2 c3).elim
    dsimp only [List.cons_append, List.nil_append]
    kpc_turns
    refine SS.if ?_
    kpc_turns
    refine brF (by decide) ?_
    kpc_turns
    exact (PL.m1_1 _ (by tlg_ne) (h acc))
theorem cc_prepareF (fr : Led) (hG : Ok G) (hg : GlobOk G gtab) {n : Nat} (hr : Room A (n + 2)) (hfrs : FrsIn A (fr ++ l)) (hz : g.length < 900) (hnd : (names (abs g)).Nodup) (hcl : ∀ y ∈ names (abs g), ∀ s ∈ succOf (abs g) y, s ∈ names (abs g))
    (hno : ∀ C : List Str, C ≠ [] → (∀ y ∈ C, y ∈ names (abs g)) → (∀ y ∈ C, ∃ z ∈ C, y ∈ succOf (abs g) z) → False)
    (h : ∀ q, R .none (fr ++ ((q, .list ((readyOf (abs g)).map .str)) :: (x, .inst TS dx) :: (dx, .idct (tsKV (.ref d) (.ref q) po nf)) :: (d, .sdict (nsKV g) ep) :: (nsLed NI g ++ l)))) :
    CC G A (.ref 161) [.ref x] (fr ++ ((x, .inst TS dx) :: (dx, .idct (tsKV (.ref d) .none po nf)) :: (d, .sdict (nsKV g) ep) :: (nsLed NI g ++ l))) R X :=
  CC.post (CC.sub fr_in (cc_prepare hG hg hr hfrs hz hnd hcl hno fun q => (PL.m1_1 _ fr_out4 (h q))))
end
section
variable {G : Gd} {A : Around} {l l' : Led} {X : Xp} {R : AV → Led → Prop} {x dx : Addr}
theorem ck_tsinit (hG : Ok G) (hg : GlobOk G gtab) {n : Nat} (hr : Room A (n + 1)) (h : ∀ d ep, R .none ((x, .inst TS dx) :: (dx, .idct (tsKV (.ref d) .none 0 0)) :: (d, .sdict [] ep) :: l)) : CK G A (.ref 142) [.ref x] ((x, .inst TS dx) :: (dx, .idct []) :: l) R X := by
  refine CK.defB (bs := [(Str.ofString "self", .ref x), (Str.ofString "graph", .none)]) (fn_TS___init__ hG) hr (fun vs s hvs N => ?_) rfl (show ([Str.ofString "self", Str.ofString "graph"] : List Str).Nodup by decide) (by kba_ints) (by lsm_bools) fun L env A' hE hr' hx => ?_
  · obtain ⟨v, rfl, hv⟩ := get1 hvs
    cases hv
    refine ⟨[(Str.ofString "self", .ref x), (Str.ofString "graph", .none)], binds_dfl rfl rfl rfl rfl rfl rfl (by decide) (N.keep _ _ (hG.K _ _ rfl)) rfl, .cons ⟨rfl, rfl⟩ (.cons ⟨rfl, rfl⟩ .nil)⟩
  refine BB.cons ?_
  kpc_turns
  refine EE.dict0 hg fun d ep => ?_
  kpc_turns
  refine tsSet (kvs' := [(Str.ofString "_node2info", .ref d)]) hG (ts_a0 _).2 (by kas_types) (by keq_rows) rfl (by decide) ?_
  kpc_turns
  refine tsSet (kvs' := [(Str.ofString "_node2info", .ref d), (Str.ofString "_ready_nodes", .none)]) hG (ts_a1 _).2 (by kas_types) (by keq_rows) rfl (by simp) ?_
  kpc_turns
  refine tsSet (kvs' := [(Str.ofString "_node2info", .ref d), (Str.ofString "_ready_nodes", .none), (Str.ofString "_npassedout", .int 0)]) hG (ts_a2 _).2 (by kas_types) (by keq_rows) rfl (by simp) ?_
  kpc_turns
  refine tsSet (kvs' := tsKV (.ref d) .none 0 0) hG (ts_a3 _).2 (by kas_types) (by keq_rows) rfl (by simp) ?_
  kpc_turns
  refine SS.if ?_
  kpc_turns
  refine Op2.isnotNoneNone ?_
  kpc_turns
  refine brF (by decide) ?_
  kpc_turns
  exact ⟨_, by tlg_ne, h d ep⟩
theorem cc_newTS (hG : Ok G) (hg : GlobOk G gtab) {n : Nat} (hr : Room A (n + 2)) (h : ∀ x dx d ep, R (.ref x) ((x, .inst TS dx) :: (dx, .idct (tsKV (.ref d) .none 0 0)) :: (d, .sdict [] ep) :: l)) : CC G A (.ref TS) [] l R X :=
  CC.make hG.K hr (ts_makes _) (ts_init _) (ts_initT _) fun x dx A2 hr2 => ck_tsinit hG hg hr2 fun d ep => ⟨rfl, h x dx d ep⟩
end
section
variable {G : Gd} {A : Around} {l l' : Led} {X : Xp} {R : AV → Led → Prop}
noncomputable def takes (part sign : Str) : Bool :=
  if (Txt.slice part none (some 2) == Str.ofString "[^") = true then !(!(Builtin.Str.occurrences (Txt.slice part (some 2) (some (-1))) sign 0 (Txt.slice part (some 2) (some (-1))).length 1).isEmpty)
  else [Str.ofString ".", sign].contains part
noncomputable abbrev stepEnds := stepEndsB takes
noncomputable abbrev takenOf := takenOfB takes
theorem cc_takes (hG : Ok G) {n : Nat} (hr : Room A (n + 1)) {part sign : Str} (hz : part.length ≤ 1000) (h : R (.bool (takes part sign)) l) : CC G A (.ref 217) [.str part, .str sign] l R X := by
  refine CC.def0 (fn_law_takes hG) hr [Str.ofString "part", Str.ofString "sign"] (by lcg_sub) ⟨rfl, rfl, rfl, rfl, rfl, rfl, by decide⟩ rfl (by kba_ints) (by lsm_bools) (by kbo_bools) fun L env A' hE hr' hx => ?_
  refine BB.cons ?_
  refine SS.if ?_
  kpc_turns
  refine EE.slice ?_
  refine EPt.no ?_
  refine EPt.yes ?_
  kpc_turns
  intro sl
  refine SubOp.str ?_
  refine Get.strSlice (by keq_rows) .none .int (by omega) ?_
  kpc_turns
  refine ⟨fun hb => ?_, fun hb => ?_⟩
  · kpc_turns
    refine EE.slice ?_
    refine EPt.yes ?_
    kpc_turns
    refine EPt.yes ?_
    kpc_turns
    intro sl2
    refine SubOp.str ?_
    refine Get.strSlice (by keq_rows) .int .int (by omega) ?_
    refine Op2.notinText ?_
    kpc_turns
    refine ⟨l, by tlg_ne, ?_⟩
    unfold takes at h
    rw [if_pos hb] at h
    exact h
  · kpc_turns
    refine ⟨by show 2 ≤ 1000; decide, fun a => ?_⟩
    refine Op2.inStrs (ss := [Str.ofString ".", sign]) Pick.head ?_
    kpc_turns
    refine ⟨l, by tlg_ne, ?_⟩
    unfold takes at h
    rw [if_neg (by rw [hb]; decide)] at h
    exact h
end
section
variable {G : Gd} {A : Around} {l l' : Led} {X : Xp} {R : AV → Led → Prop}
theorem cc_taken (hG : Ok G) (hg : GlobOk G gtab) {n : Nat} (hr : Room A (n + 3)) {nl : Addr} {glob : Str} {nms : List Str} {parts : List Prt} (hz : glob.length ≤ 100) (hrun : truns glob glob.length 0 [] = some parts) (hpz : parts.length < 1000) (hpl : ∀ s, some s ∈ parts → s.length ≤ 1000) (hnz : nms.length < 1000) (hnl : ∀ s ∈ nms, s.length < 1000)
    (h : ∀ r, R (.ref r) ((r, .list ((takenOf parts nms).map .str)) :: (85, .tab) :: (nl, .list (nms.map .str)) :: l)) : CC G A (.ref 222) [.str glob, .ref nl] ((85, .tab) :: (nl, .list (nms.map .str)) :: l) R X := by
  refine CC.def3 (fn_law_taken hG) hr [Str.ofString "glob", Str.ofString "names"] (by lcg_sub) ⟨rfl, rfl, rfl, rfl, rfl, rfl, by decide⟩ rfl (by kba_ints) (by lsm_bools) (by kbo_bools) fun L c0 c1 c2 env A' hE hr' hx => ?_
  refine BB.cons ?_
  kpc_turns
  refine ⟨by decide, fun star => ?_⟩
  kpc_turns
  refine cc_translate hG hg hr' (by keq_rows) hz hrun fun ps => ?_
  kpc_turns
  refine ⟨by decide, fun tk => ?_⟩
  kpc_turns
  refine SS.forH ?_
  kpc_turns
  refine iter_list (by keq_rows) fun it => ?_
  refine ⟨nms.length, _, _, _, _, _, (L, .ns nm_law_taken [some (.str glob), some (.ref nl), some (.ref star), some (.ref ps), some (.ref tk), none, none, none, none, none, none]) :: (star, .list [.str (Str.ofString "a star of the law's own")]) :: (ps, .list (parts.map (prtAV star))) :: (tk, .list ((takenOf parts (nms.take 0)).map .str)) :: (c0, .cell none) :: (c1, .cell none) :: (c2, .cell none) :: (85, .tab) :: l, by
    have := walk_list (G := G) (A := A') (it := it) (p := nl) (xs := nms.map .str) hr'.h
    rw [List.length_map] at this
    exact this, trivial, ?_, fun k K => K = (L, .ns nm_law_taken [some (.str glob), some (.ref nl), some (.ref star), some (.ref ps), some (.ref tk), none, none, none, none, none, none]) :: (star, .list [.str (Str.ofString "a star of the law's own")]) :: (ps, .list (parts.map (prtAV star))) :: (tk, .list ((takenOf parts (nms.take k)).map .str)) :: (c0, .cell none) :: (c1, .cell none) :: (c2, .cell none) :: (85, .tab) :: l, ?_, ?_, ?_⟩
  · dsimp only [List.cons_append, List.nil_append]
    show Sub ((it, .listiter nl 0) :: (nl, .list (nms.map .str)) :: (L, .ns nm_law_taken [some (.str glob), some (.ref nl), some (.ref star), some (.ref ps), some (.ref tk), none, none, none, none, none, none]) :: (star, .list [.str (Str.ofString "a star of the law's own")]) :: (ps, .list (parts.map (prtAV star))) :: (tk, .list []) :: (c0, .cell none) :: (c1, .cell none) :: (c2, .cell none) :: (85, .tab) :: l) _
    tlg_ne
  · rfl
  · rintro FF1 hF1 k _ _ K hk ⟨hpk, rfl⟩ rfl
    rw [List.getElem?_map, Option.map_eq_some_iff] at hpk
    (revert hpk; refine PL.j1_1 ?_; rintro nm hpk rfl)
    have hnm : nm.length < 1000 := hnl nm (List.mem_of_getElem? hpk)
    dsimp only [List.cons_append, List.nil_append]
    kpc_turns
    refine ⟨by decide, fun e0 => ?_⟩
    kpc_turns
    refine SS.forH ?_
    kpc_turns
    refine iter_list (by keq_rows) fun it2 => ?_
    refine ⟨parts.length, _, _, _, _, _, (L, .ns nm_law_taken [some (.str glob), some (.ref nl), some (.ref star), some (.ref ps), some (.ref tk), none, none, none, none, none, none]) :: (star, .list [.str (Str.ofString "a star of the law's own")]) :: (tk, .list ((takenOf parts (nms.take k)).map .str)) :: (c0, .cell none) :: (c1, .cell (some (.ref e0))) :: (c2, .cell (some (.str nm))) :: (e0, .list (natsAV [0])) :: (85, .tab) :: (it, .listiter nl (k + 1)) :: (nl, .list (nms.map .str)) :: l, by
      have := walk_list (G := G) (A := A') (it := it2) (p := ps) (xs := parts.map (prtAV star)) hr'.h
      rw [List.length_map] at this
      exact this, trivial, ?_, fun j K => ∃ e es, es = (parts.take j).foldl (stepEnds nm) [0] ∧ es.length ≤ 1001 ∧ (∀ i ∈ es, i ≤ 1001) ∧ K = (L, .ns nm_law_taken [some (.str glob), some (.ref nl), some (.ref star), some (.ref ps), some (.ref tk), none, none, none, none, none, none]) :: (star, .list [.str (Str.ofString "a star of the law's own")]) :: (tk, .list ((takenOf parts (nms.take k)).map .str)) :: (c0, .cell none) :: (c1, .cell (some (.ref e))) :: (c2, .cell (some (.str nm))) :: (e, .list (natsAV es)) :: (85, .tab) :: (it, .listiter nl (k + 1)) :: (nl, .list (nms.map .str)) :: l, ?_, ?_, ?_⟩
    · dsimp only [List.cons_append, List.nil_append]
      show Sub ((it2, .listiter ps 0) :: (ps, .list (parts.map (prtAV star))) :: (L, .ns nm_law_taken [some (.str glob), some (.ref nl), some (.ref star), some (.ref ps), some (.ref tk), none, none, none, none, none, none]) :: (star, .list [.str (Str.ofString "a star of the law's own")]) :: (tk, .list ((takenOf parts (nms.take k)).map .str)) :: (c0, .cell none) :: (c1, .cell (some (.ref e0))) :: (c2, .cell (some (.str nm))) :: (e0, .list ([AV.int 0])) :: (85, .tab) :: (it, .listiter nl (k + 1)) :: (nl, .list (nms.map .str)) :: l) _
      tlg_ne
    · exact (PL.m2_3 e0 ([0]) rfl (by simp) (by simp) rfl)
    · (rintro FF2 hF2 j _ _ K hj ⟨hpj, rfl⟩; refine PL.j2_3 ?_; rintro e es hes hel hei rfl)
      rw [List.getElem?_map, Option.map_eq_some_iff] at hpj
      (revert hpj; refine PL.j1_1 ?_; rintro pt hpj rfl)
      dsimp only [List.cons_append, List.nil_append]
      cases pt with
      | none =>
        dsimp only [prtAV]
        kpc_turns
        refine SS.if ?_
        kpc_turns
        refine Op2.isRef ?_
        kpc_turns
        refine brT (by decide) ?_
        refine BB.cons ?_
        refine SS.assignCompC hE (by kct_strs) ?_
        refine EE.listcomp (cn := [(Str.ofString ".0", .local), (Str.ofString "end", .local), (Str.ofString "ends", .free)]) (cn' := [(Str.ofString ".0", .local), (Str.ofString "end", .local), (Str.ofString "ends", .cell)]) (cl2 := [(Str.ofString "ends", c1)]) (ownk := []) (vals := [none, none, none]) hE ⟨rfl, rfl, rfl, rfl, rfl, by decide, by decide, (show ([Str.ofString "ends"] : List Str).Nodup by decide), by decide, rfl, rfl⟩ ?_
        kpc_turns
        refine CC.len_str (by omega) ?_
        kpc_turns
        rewrite [show ((nm.length : Int) + 1) = ((nm.length + 1 : Nat) : Int) from rfl]
        refine CC.range1 fun rg => ?_
        refine iter_range (by keq_rows) (by omega) fun it3 => ?_
        refine (PL.m7_4 (nm.length + 1) _ _ _ _ _ ((L, .ns nm_law_taken [some (.str glob), some (.ref nl), some (.ref star), some (.ref ps), some (.ref tk), none, none, none, none, none, none]) :: (star, .list [.str (Str.ofString "a star of the law's own")]) :: (ps, .list (parts.map (prtAV star))) :: (tk, .list ((takenOf parts (nms.take k)).map .str)) :: (c0, .cell none) :: (c1, .cell (some (.ref e))) :: (c2, .cell (some (.str nm))) :: (e, .list (natsAV es)) :: (85, .tab) :: (it2, .listiter ps (j + 1)) :: (it, .listiter nl (k + 1)) :: (nl, .list (nms.map .str)) :: l) (walk_range (G := G) (A := A') (it := it3) (a := 0) (n := nm.length + 1) hr'.h) trivial (by omega) (by dsimp only [List.cons_append, List.nil_append]; tlg_ne) (fun C acc own cenv hown hEc => ?_))
        obtain rfl : own = [] := by simpa using hown
        rw [List.nil_append] at hEc
        refine (PL.m1_2 (fun k3 xs K => xs = natsAV ((List.range k3).filter (starP es)) ∧ K = (L, .ns nm_law_taken [some (.str glob), some (.ref nl), some (.ref star), some (.ref ps), some (.ref tk), none, none, none, none, none, none]) :: (star, .list [.str (Str.ofString "a star of the law's own")]) :: (ps, .list (parts.map (prtAV star))) :: (tk, .list ((takenOf parts (nms.take k)).map .str)) :: (c0, .cell none) :: (c1, .cell (some (.ref e))) :: (c2, .cell (some (.str nm))) :: (e, .list (natsAV es)) :: (85, .tab) :: (it2, .listiter ps (j + 1)) :: (it, .listiter nl (k + 1)) :: (nl, .list (nms.map .str)) :: l) (⟨rfl, rfl⟩) ?_ ?_)
        · rintro k3 xs a _ K hk3 ⟨rfl, rfl⟩ ⟨rfl, rfl⟩
          dsimp only [List.cons_append, List.nil_append]
          rewrite [show ((0 : Int) + (k3 : Int)) = ((k3 : Nat) : Int) from by omega]
          kpc_turns
          refine IT.one ?_
          kpc_turns
          refine ⟨by decide, fun em => ?_⟩
          refine Op2.neNil hr' (by kas_types) (by kas_types) ?_
          kpc_turns
          refine ⟨fun hb => ?_, fun hb => ?_⟩
          · cases es with
            | nil => cases hb
            | cons e1 es =>
              kpc_turns
              refine Get.nats (i := 0) (by kas_types) rfl (by decide) ?_
              kpc_turns
              refine ⟨fun hb2 => ?_, fun hb2 => ?_⟩
              · kpc_turns
                refine brT (by decide) ?_
                kpc_turns
                refine CEnd.mk ⟨?_, rfl⟩ (by dsimp only [List.cons_append, List.nil_append]; tlg_ne)
                exact (rfilt_yes _ (by show decide (e1 ≤ k3) = true; simpa using hb2)).symm
              · refine brF (by decide) ?_
                refine CEnd.mk ⟨?_, rfl⟩ (by dsimp only [List.cons_append, List.nil_append]; tlg_ne)
                exact (rfilt_no _ (by show decide (e1 ≤ k3) = false; simpa using hb2)).symm
          · refine brF (by decide) ?_
            refine CEnd.mk ⟨?_, rfl⟩ (by dsimp only [List.cons_append, List.nil_append]; tlg_ne)
            cases es with
            | nil => exact (rfilt_no _ rfl).symm
            | cons e1 es => cases hb
        · rintro xs K ⟨rfl, rfl⟩
          dsimp only [List.cons_append, List.nil_append]
          kpc_turns
          refine hF2.next (L := (L, .ns nm_law_taken [some (.str glob), some (.ref nl), some (.ref star), some (.ref ps), some (.ref tk), none, none, none, none, none, none]) :: (star, .list [.str (Str.ofString "a star of the law's own")]) :: (tk, .list ((takenOf parts (nms.take k)).map .str)) :: (c0, .cell none) :: (c1, .cell (some (.ref acc))) :: (c2, .cell (some (.str nm))) :: (acc, .list (natsAV ((List.range (nm.length + 1)).filter (starP es)))) :: (85, .tab) :: (it, .listiter nl (k + 1)) :: (nl, .list (nms.map .str)) :: l) (PL.m2_3 acc _ ?_ (stepEndsB_len (tk := takes) (by omega) hel none) (stepEndsB_le (tk := takes) (by omega) none) rfl) (by dsimp only [List.cons_append, List.nil_append]; tlg_ne)
          rw [foldl_take _ _ hpj, ← hes]
      | some s =>
        have hsz : s.length ≤ 1000 := hpl s (List.mem_of_getElem? hpj)
        dsimp only [prtAV]
        kpc_turns
        refine SS.if ?_
        kpc_turns
        refine Op2.isStrRef ?_
        kpc_turns
        refine ⟨(fun hf => by cases hf), fun _ => ?_⟩
        refine BB.cons ?_
        refine SS.assignCompC hE (by kct_strs) ?_
        refine EE.listcomp (cn := [(Str.ofString ".0", .local), (Str.ofString "end", .local), (Str.ofString "len", .globalImplicit), (Str.ofString "_law_takes", .globalImplicit), (Str.ofString "name", .free), (Str.ofString "part", .free)]) (cn' := [(Str.ofString ".0", .local), (Str.ofString "end", .local), (Str.ofString "len", .globalImplicit), (Str.ofString "_law_takes", .globalImplicit), (Str.ofString "name", .cell), (Str.ofString "part", .cell)]) (cl2 := [(Str.ofString "part", c0), (Str.ofString "name", c2)]) (ownk := []) (vals := [none, none, none, none, none, none]) hE ⟨rfl, rfl, rfl, rfl, rfl, by decide, by decide, (show ([Str.ofString "part", Str.ofString "name"] : List Str).Nodup by decide), by decide, rfl, rfl⟩ ?_
        kpc_turns
        refine iter_list (by keq_rows) fun it3 => ?_
        refine (PL.m7_4 es.length _ _ _ _ _ ((L, .ns nm_law_taken [some (.str glob), some (.ref nl), some (.ref star), some (.ref ps), some (.ref tk), none, none, none, none, none, none]) :: (star, .list [.str (Str.ofString "a star of the law's own")]) :: (tk, .list ((takenOf parts (nms.take k)).map .str)) :: (c0, .cell (some (.str s))) :: (c1, .cell (some (.ref e))) :: (c2, .cell (some (.str nm))) :: (85, .tab) :: (ps, .list (parts.map (prtAV star))) :: (it2, .listiter ps (j + 1)) :: (it, .listiter nl (k + 1)) :: (nl, .list (nms.map .str)) :: l) (by
          have := walk_list (G := G) (A := A') (it := it3) (p := e) (xs := natsAV es) hr'.h
          rw [List.length_map] at this
          exact this) trivial (by omega) (by dsimp only [List.cons_append, List.nil_append]; tlg_ne) (fun C acc own cenv hown hEc => ?_))
        obtain rfl : own = [] := by simpa using hown
        rw [List.nil_append] at hEc
        refine (PL.m1_2 (fun k3 xs K => xs = (((es.take k3).filter (textP takes nm s)).map fun i : Nat => AV.int ((i + 1 : Nat) : Int)) ∧ K = (L, .ns nm_law_taken [some (.str glob), some (.ref nl), some (.ref star), some (.ref ps), some (.ref tk), none, none, none, none, none, none]) :: (star, .list [.str (Str.ofString "a star of the law's own")]) :: (tk, .list ((takenOf parts (nms.take k)).map .str)) :: (c0, .cell (some (.str s))) :: (c1, .cell (some (.ref e))) :: (c2, .cell (some (.str nm))) :: (85, .tab) :: (ps, .list (parts.map (prtAV star))) :: (it2, .listiter ps (j + 1)) :: (it, .listiter nl (k + 1)) :: (nl, .list (nms.map .str)) :: l) (⟨rfl, rfl⟩) ?_ ?_)
        · rintro k3 xs a _ K hk3 ⟨hpk3, rfl⟩ ⟨rfl, rfl⟩
          rw [List.getElem?_map, Option.map_eq_some_iff] at hpk3
          (revert hpk3; refine PL.j1_1 ?_; rintro e1 hpk3 rfl)
          have he1 : e1 ≤ 1001 := hei e1 (List.mem_of_getElem? hpk3)
          dsimp only [List.cons_append, List.nil_append]
          kpc_turns
          refine IT.one ?_
          kpc_turns
          refine CC.len_str (by omega) ?_
          kpc_turns
          refine ⟨fun hb => ?_, fun hb => ?_⟩
          · have hlt : e1 < nm.cps.size := by
              have h1 : decide ((e1 : Int) < (nm.length : Int)) = true := hb
              have h2 := of_decide_eq_true h1
              have h3 : nm.length = nm.cps.size := rfl
              omega
            have hc : nm.cps[e1]? = some nm.cps[e1] := Array.getElem?_eq_getElem hlt
            kpc_turns
            refine Get.str (c := nm.cps[e1]) (by omega) (by omega) ?_ ?_
            · have h0 : seqIndex? (e1 : Int) nm.length = some e1 := by
                have h3 : nm.length = nm.cps.size := rfl
                unfold seqIndex?
                simp
                omega
              rw [h0]
              exact hc
            kpc_turns
            refine cc_takes hG hr' hsz ?_
            kpc_turns
            refine ⟨fun hb2 => ?_, fun hb2 => ?_⟩
            · kpc_turns
              refine brT (by decide) ?_
              kpc_turns
              refine CEnd.mk ⟨?_, rfl⟩ (by dsimp only [List.cons_append, List.nil_append]; tlg_ne)
              refine (filt_yes _ hpk3 ?_).symm
              unfold textP
              rw [hc]
              exact hb2
            · refine brF (by decide) ?_
              refine CEnd.mk ⟨?_, rfl⟩ (by dsimp only [List.cons_append, List.nil_append]; tlg_ne)
              refine (filt_no _ hpk3 ?_).symm
              unfold textP
              rw [hc]
              exact hb2
          · refine brF (by decide) ?_
            refine CEnd.mk ⟨?_, rfl⟩ (by dsimp only [List.cons_append, List.nil_append]; tlg_ne)
            refine (filt_no _ hpk3 ?_).symm
            have h1 : decide ((e1 : Int) < (nm.length : Int)) = false := hb
            have h2 := of_decide_eq_false h1
            have h3 : nm.length = nm.cps.size := rfl
            unfold textP
            rw [Array.getElem?_eq_none (by omega)]
        · rintro xs K ⟨rfl, rfl⟩
          rw [List.take_length]
          dsimp only [List.cons_append, List.nil_append]
          kpc_turns
          refine hF2.next (L := (L, .ns nm_law_taken [some (.str glob), some (.ref nl), some (.ref star), some (.ref ps), some (.ref tk), none, none, none, none, none, none]) :: (star, .list [.str (Str.ofString "a star of the law's own")]) :: (tk, .list ((takenOf parts (nms.take k)).map .str)) :: (c0, .cell none) :: (c1, .cell (some (.ref acc))) :: (c2, .cell (some (.str nm))) :: (acc, .list (natsAV ((es.filter (textP takes nm s)).map (· + 1)))) :: (85, .tab) :: (it, .listiter nl (k + 1)) :: (nl, .list (nms.map .str)) :: l) (PL.m2_3 acc ((es.filter (textP takes nm s)).map (· + 1)) ?_ (stepEndsB_len (tk := takes) (by omega) hel (some s)) (stepEndsB_le (tk := takes) (by omega) (some s)) rfl) ?_
          · rw [foldl_take _ _ hpj, ← hes]
            rfl
          · have hm : natsAV ((es.filter (textP takes nm s)).map (· + 1)) = ((es.filter (textP takes nm s)).map fun i : Nat => AV.int ((i + 1 : Nat) : Int)) := by
              rw [natsAV, List.map_map]
              rfl
            rewrite [hm]
            dsimp only [List.cons_append, List.nil_append]
            tlg_ne
    · (rintro K; refine PL.j2_3 ?_; rintro e es hes hel hei rfl)
      rw [List.take_length] at hes
      dsimp only [List.cons_append, List.nil_append]
      kpc_turns
      refine SS.if ?_
      kpc_turns
      refine CC.len_str (by omega) ?_
      kpc_turns
      refine Op2.inNats hr' (by kas_types) ?_
      kpc_turns
      have hcn : es.contains nm.length = (parts.foldl (stepEnds nm) [0]).contains nm.length := by rw [hes]
      have htk : (takenOf parts (nms.take k)).length < 1000000 := Nat.lt_of_le_of_lt (List.length_filter_le _ _) (by rw [List.length_take]; omega)
      refine ⟨fun hb => ?_, fun hb => ?_⟩
      · kpc_turns
        refine CC.appends (by keq_rows) htk ?_
        kpc_turns
        refine hF1.next rfl ?_
        have hm : takenOf parts (nms.take (k + 1)) = takenOf parts (nms.take k) ++ [nm] := by
          have h2 := filt_yes (p := fun nm => (parts.foldl (stepEndsB takes nm) [0]).contains nm.length) id hpk (hcn ▸ hb)
          simp only [List.map_id, id] at h2
          exact h2
        rewrite [hm]
        dsimp only [List.cons_append, List.nil_append]
        tlg_ne
      · kpc_turns
        refine hF1.next rfl ?_
        have hm : takenOf parts (nms.take (k + 1)) = takenOf parts (nms.take k) := by
          have h2 := filt_no (p := fun nm => (parts.foldl (stepEndsB takes nm) [0]).contains nm.length) id hpk (hcn ▸ hb)
          simp only [List.map_id, id] at h2
          exact h2
        rewrite [hm]
        dsimp only [List.cons_append, List.nil_append]
        tlg_ne
  · rintro K rfl
    dsimp only [List.cons_append, List.nil_append]
    kpc_turns
    rw [List.take_length]
    refine (PL.m1_1 _ (by tlg_ne) (h tk))
end
section
variable {G : Gd} {A : Around} {l l' : Led} {X : Xp} {R : AV → Led → Prop}
noncomputable def said (glob name : Str) : Bool :=
  if (glob == Str.ofString "*") = true then true
  else if [Str.ofString "a*", Str.ofString "[!b]*"].contains glob = true then Txt.slice name none (some 1) == Str.ofString "a"
  else if (glob == Str.ofString "*b") = true then Txt.slice name (some (-1)) none == Str.ofString "b"
  else if (glob == Str.ofString "a?") = true then (((name.length : Int) == 2) && (match name.cps[0]? with
    | some c => (⟨#[c]⟩ : Str) == Str.ofString "a"
    | none => false))
  else if (glob == Str.ofString "?") = true then ((name.length : Int) == 1)
  else if (glob == Str.ofString "?*") = true then (name != Str.ofString "")
  else name == Str.ofString "ab"
theorem cc_said (hG : Ok G) (hg : GlobOk G gtab) {n : Nat} (hr : Room A (n + 1)) {glob name : Str} (hz : name.length ≤ 1000) (h : R (.bool (said glob name)) l) : CC G A (.ref 229) [.str glob, .str name] l R X := by
  refine CC.def0 (fn_law_said hG) hr [Str.ofString "glob", Str.ofString "name"] (by lcg_sub) ⟨rfl, rfl, rfl, rfl, rfl, rfl, by decide⟩ rfl (by kba_ints) (by lsm_bools) (by kbo_bools) fun L env A' hE hr' hx => ?_
  unfold said at h
  refine BB.cons ?_
  refine SS.if ?_
  kpc_turns
  refine ⟨fun hb => ?_, fun hb => ?_⟩
  · kpc_turns
    rw [if_pos hb] at h
    exact (PL.m1_1 l (by tlg_ne) h)
  rw [if_neg (by rw [hb]; decide)] at h
  kpc_turns
  refine SS.if ?_
  kpc_turns
  refine ⟨by show 2 ≤ 1000; decide, fun a => ?_⟩
  refine Op2.inStrs (ss := [Str.ofString "a*", Str.ofString "[!b]*"]) Pick.head ?_
  kpc_turns
  refine ⟨fun hb => ?_, fun hb => ?_⟩
  · rw [if_pos hb] at h
    kpc_turns
    refine EE.slice ?_
    refine EPt.no ?_
    refine EPt.yes ?_
    kpc_turns
    intro sl
    refine SubOp.str ?_
    refine Get.strSlice (by keq_rows) .none .int (by omega) ?_
    kpc_turns
    exact (PL.m1_1 l (by tlg_ne) h)
  rw [if_neg (by rw [hb]; decide)] at h
  kpc_turns
  refine SS.if ?_
  kpc_turns
  refine ⟨fun hb => ?_, fun hb => ?_⟩
  · rw [if_pos hb] at h
    kpc_turns
    refine EE.slice ?_
    refine EPt.yes ?_
    kpc_turns
    refine EPt.no ?_
    intro sl
    refine SubOp.str ?_
    refine Get.strSlice (by keq_rows) .int .none (by omega) ?_
    kpc_turns
    exact (PL.m1_1 l (by tlg_ne) h)
  rw [if_neg (by rw [hb]; decide)] at h
  kpc_turns
  refine SS.if ?_
  kpc_turns
  refine ⟨fun hb => ?_, fun hb => ?_⟩
  · rw [if_pos hb] at h
    kpc_turns
    refine CC.len_str (by omega) ?_
    kpc_turns
    refine ⟨fun hb => ?_, fun hb => ?_⟩
    · have h2 : (name.length : Int) = 2 := by simpa using hb
      have hlt : 0 < name.cps.size := by
        have h3 : name.length = name.cps.size := rfl
        omega
      have hc : name.cps[0]? = some name.cps[0] := Array.getElem?_eq_getElem hlt
      rw [hb, hc] at h
      kpc_turns
      refine Get.str (c := name.cps[0]) (by omega) (by omega) ?_ ?_
      · have h0 : seqIndex? 0 name.length = some 0 := by
          have h3 : name.length = name.cps.size := rfl
          unfold seqIndex?
          simp
          omega
        rw [h0]
        exact hc
      kpc_turns
      exact (PL.m1_1 l (by tlg_ne) h)
    · rw [hb] at h
      kpc_turns
      rewrite [hb]
      exact (PL.m1_1 l (by tlg_ne) h)
  rw [if_neg (by rw [hb]; decide)] at h
  kpc_turns
  refine ⟨fun hb => ?_, fun hb => ?_⟩
  · rw [if_pos hb] at h
    kpc_turns
    refine CC.len_str (by omega) ?_
    kpc_turns
    exact (PL.m1_1 l (by tlg_ne) h)
  rw [if_neg (by rw [hb]; decide)] at h
  kpc_turns
  refine ⟨fun hb => ?_, fun hb => ?_⟩
  · rw [if_pos hb] at h
    kpc_turns
    exact (PL.m1_1 l (by tlg_ne) h)
  rw [if_neg (by rw [hb]; decide)] at h
  kpc_turns
  exact (PL.m1_1 l (by tlg_ne) h)
end
section
variable {G : Gd} {A : Around} {l l' : Led} {X : Xp} {R : AV → Led → Prop}
theorem cc_narrow (hG : Ok G) {n : Nat} (hr : Room A (n + 1)) {p q : Addr} {a b : List Str} (hp : (p, .list (a.map .str)) ∈ l) (hq : (q, .list (b.map .str)) ∈ l) (hz : a.length < 1000) (ha : okS a = true) (hb : okS b = true)
    (h : R (.bool (narrow a b)) l) : CC G A (.ref 234) [.ref p, .ref q] l R X := by
  obtain ⟨l', hpk⟩ := Pick.ofMem hp
  have hq' : (q, .list (b.map .str)) ∈ (p, .list (a.map .str)) :: l' := hpk.perm.mem_iff.mp hq
  refine CC.sub (l' := (p, .list (a.map .str)) :: l') (.perm hpk.perm) ?_
  have hback : Sub l ((p, .list (a.map .str)) :: l') := .perm hpk.perm.symm
  refine CC.def1 (fn_law_narrow hG) hr [Str.ofString "less", Str.ofString "more"] (by lcg_sub) ⟨rfl, rfl, rfl, rfl, rfl, rfl, by decide⟩ rfl (by kba_ints) (by lsm_bools) (by kbo_bools) fun L c0 env A' hE hr' hx => ?_
  refine BB.cons ?_
  kpc_turns
  refine Op2.neStrs (a := a) (b := b) hr' (by kas_types) (by repeat (first | exact hq' | apply List.mem_cons_of_mem)) ha hb ?_
  kpc_turns
  refine ⟨fun hab => ?_, fun hab => ?_⟩
  · refine EE.cmp ?_
    refine EE.listcomp (cn := [(Str.ofString ".0", .local), (Str.ofString "name", .local), (Str.ofString "more", .free)]) (cn' := [(Str.ofString ".0", .local), (Str.ofString "name", .local), (Str.ofString "more", .cell)]) (cl2 := [(Str.ofString "more", c0)]) (ownk := []) (vals := [none, none, none]) hE ⟨rfl, rfl, rfl, rfl, rfl, by decide, by decide, (show ([Str.ofString "more"] : List Str).Nodup by decide), by decide, rfl, rfl⟩ ?_
    kpc_turns
    refine iter_list (by keq_rows) fun it => ?_
    refine (PL.m7_4 a.length _ _ _ _ _ ((L, .ns nm_law_narrow [some (.ref p), none]) :: (c0, .cell (some (.ref q))) :: l') (by
      have := walk_list (G := G) (A := A') (it := it) (p := p) (xs := a.map .str) hr'.h
      rw [List.length_map] at this
      exact this) trivial (by omega) (by dsimp only [List.cons_append, List.nil_append]; tlg_ne) (fun C acc own cenv hown hEc => ?_))
    obtain rfl : own = [] := by simpa using hown
    rw [List.nil_append] at hEc
    refine (PL.m1_2 (fun k xs K => xs = ((a.take k).filter fun n => !b.contains n).map .str ∧ K = (L, .ns nm_law_narrow [some (.ref p), none]) :: (c0, .cell (some (.ref q))) :: l') (⟨rfl, rfl⟩) ?_ ?_)
    · rintro k xs x _ K hk ⟨hxk, rfl⟩ ⟨rfl, rfl⟩
      rw [List.getElem?_map, Option.map_eq_some_iff] at hxk
      (revert hxk; refine PL.j1_1 ?_; rintro nm hxk rfl)
      dsimp only [List.cons_append, List.nil_append]
      kpc_turns
      refine IT.one ?_
      kpc_turns
      refine Op2.notinStrsM (ss := b) (by
        rcases List.mem_cons.mp hq' with e | e
        · rw [e]; kas_types
        · repeat (first | exact e | apply List.mem_cons_of_mem)) ?_
      kpc_turns
      refine ⟨fun hb => ?_, fun hb => ?_⟩
      · kpc_turns
        refine CEnd.mk ⟨?_, rfl⟩ (by dsimp only [List.cons_append, List.nil_append]; tlg_ne)
        exact (filt_yes (p := fun n => !b.contains n) _ hxk hb).symm
      · refine CEnd.mk ⟨?_, rfl⟩ (by dsimp only [List.cons_append, List.nil_append]; tlg_ne)
        exact (filt_no (p := fun n => !b.contains n) _ hxk hb).symm
    · rintro xs K ⟨rfl, rfl⟩
      rw [List.take_length]
      dsimp only [List.cons_append, List.nil_append]
      kpc_turns
      refine ⟨by decide, fun em => ?_⟩
      refine Op2.eqStrs (a := a.filter fun n => !b.contains n) (b := []) hr' (by kas_types) (show (em, AO.list []) ∈ _ by kas_types) ?_ rfl ?_
      · unfold okS at ha ⊢
        rw [List.all_eq_true] at ha ⊢
        exact fun x hx => ha x (List.mem_filter.mp hx |>.1)
      kpc_turns
      refine (PL.m1_1 l (.trans hback (by tlg_ne)) ?_)
      unfold narrow at h
      rw [hab] at h
      exact h
  · kpc_turns
    refine (PL.m1_1 l (.trans hback (by tlg_ne)) ?_)
    unfold narrow at h
    rw [hab] at h ⊢
    exact h
end
section
variable {G : Gd} {A : Around} {l l' : Led} {X : Xp} {R : AV → Led → Prop}
theorem tsA_add {R : AV → Led → Prop} {x dx : Addr} {d rd : AV} {po nf : Int} (hG : Ok G) (h1 : (x, .inst TS dx) ∈ l) (h2 : (dx, .idct (tsKV d rd po nf)) ∈ l) (h : ∀ b, R (.ref b) ((b, .fields "method" [.ref 156, .ref x]) :: l)) : GAt G A (Str.ofString "add") (.ref x) l R X :=
  GAt.meth (K := KK G.w.params) hG.K (ts_get _ _) (ts_dict _) rfl rfl rfl rfl (by decide) h1 h2 rfl h
end
section
variable {G : Gd} {A : Around} {l l' : Led} {X : Xp} {R : AV → Led → Prop}
theorem cc_run (hG : Ok G) (hg : GlobOk G gtab) {n : Nat} (hr : Room A (n + 6)) {p q : Addr} {ts : List TR} {J : Nat → List Nd → List Str → List Str → List Str → Prop} (hts : ts.length ≤ 8) (hfrs : FrsIn A l) (hok : ∀ t ∈ ts, okS t.own = true ∧ t.own.length < 1000)
    (hcl : ∀ y ∈ names (addAll (tP ts) (tP ts)), ∀ s ∈ succOf (addAll (tP ts) (tP ts)) y, s ∈ names (addAll (tP ts) (tP ts)))
    (hno : ∀ C : List Str, C ≠ [] → (∀ y ∈ C, y ∈ names (addAll (tP ts) (tP ts))) → (∀ y ∈ C, ∃ z ∈ C, y ∈ succOf (addAll (tP ts) (tP ts)) z) → False)
    (hJ : RunLaw ts.length J) (hJ0 : J 0 (addAll (tP ts) (tP ts)) (readyOf (addAll (tP ts) (tP ts))) [] [])
    (h : ∀ g ys hp ord, J ts.length g ys hp ord → ∀ r, R (.ref r) ((r, .list (ord.map .str)) :: (p, .list ((ts.map TR.g).map .str)) :: (q, .list (tRefs ts)) :: (tLed ts ++ l))) : CC G A (.ref 239) [.ref p, .ref q] ((p, .list ((ts.map TR.g).map .str)) :: (q, .list (tRefs ts)) :: (tLed ts ++ l)) R X := by
  refine CC.def1 (fn_law_run hG) hr [Str.ofString "globs", Str.ofString "taken"] (by lcg_sub) ⟨rfl, rfl, rfl, rfl, rfl, rfl, by decide⟩ rfl (by kba_ints) (by lsm_bools) (by kbo_bools) fun L c0 env A' hE hr' hx => ?_
  refine BB.cons ?_
  kpc_turns
  refine Or.inl ⟨kept_TS hG, ?_⟩
  kpc_turns
  refine cc_newTS hG hg hr' fun x dx d ep => ?_
  kpc_turns
  refine SS.forH ?_
  kpc_turns
  refine CC.zip (by keq_rows) (by keq_rows) fun z TI TO i1 i2 => ?_
  refine iter_zip ?_
  have hzl : ((ts.map TR.g).map AV.str).length = (tRefs ts).length := by simp
  refine ⟨((ts.map TR.g).map AV.str).length, _, _, _, _, _, (L, .ns nm_law_run [some (.ref p), some (.ref q), some (.ref x), none, none, none, none, none, none, none, none, none, none, none]) :: (c0, .cell none) :: (x, .inst TS dx) :: (dx, .idct (tsKV (.ref d) .none 0 0)) :: (d, .sdict (nsKV []) ep) :: (nsLed NI [] ++ (tLed ts ++ l)), walk_zip (G := G) (A := A') (z := z) (TI := TI) (TO := TO) (i1 := i1) (i2 := i2) (p := p) (q := q) hr'.h hzl, (PL.m3_0 _ _ _ rfl), ?_, fun k K => ∃ g ep, abs g = addAll (tP ts) ((tP ts).take k) ∧ K = (L, .ns nm_law_run [some (.ref p), some (.ref q), some (.ref x), none, none, none, none, none, none, none, none, none, none, none]) :: (c0, .cell none) :: (x, .inst TS dx) :: (dx, .idct (tsKV (.ref d) .none 0 0)) :: (d, .sdict (nsKV g) ep) :: (nsLed NI g ++ (tLed ts ++ l)), ?_, ?_, ?_⟩
  · show Sub (_ ++ ((L, .ns nm_law_run [some (.ref p), some (.ref q), some (.ref x), none, none, none, none, none, none, none, none, none, none, none]) :: (c0, .cell none) :: (x, .inst TS dx) :: (dx, .idct (tsKV (.ref d) .none 0 0)) :: (d, .sdict [] ep) :: (tLed ts ++ l))) _
    dsimp only [zipL, zipF, List.cons_append, List.nil_append]
    tlg_ne
  · exact (PL.m2_1 ([]) ep rfl rfl)
  · (rintro FF1 hF1 k _ E K hk ⟨xv, yv, T, hxv, hyv, rfl, rfl⟩; refine PL.j2_1 ?_; rintro g ep2 hab rfl)
    have hk2 : k < ts.length := by simpa using hk
    have htk : ts[k]? = some ts[k] := List.getElem?_eq_getElem hk2
    rw [List.getElem?_map, List.getElem?_map, htk] at hxv
    obtain rfl : AV.str ts[k].g = xv := by simpa using hxv
    rw [List.getElem?_map, htk] at hyv
    obtain rfl : AV.ref ts[k].a = yv := by simpa using hyv
    generalize hte : ts[k] = t at htk
    have htm : t ∈ ts := List.mem_of_getElem? htk
    dsimp only [zipL, zipF, List.cons_append, List.nil_append]
    refine Asg.tup hr' (ts := [PySem.assign _ env, PySem.assign _ env]) (by keq_rows) ?_
    refine AIO.asg ?_
    kpc_turns
    refine AIO.asg ?_
    kpc_turns
    refine AIO.nil ?_
    refine BB.cons ?_
    refine SS.expr hE ?_
    refine EE.mcallM ?_
    kpc_turns
    refine tsA_add hG (by kas_types) (by kas_types) fun bm => ?_
    (refine PL.x1_1 ((fn_TS_add hG).obj) ?_; rintro oa hoa hda)
    refine (PL.m5_3 bm 156 x oa _ rfl hoa hda ?_)
    kpc_turns
    refine EE.listcomp (cn := [(Str.ofString ".0", .local), (Str.ofString "other", .local), (Str.ofString "its", .local), (Str.ofString "_law_narrow", .globalImplicit), (Str.ofString "own", .free)]) (cn' := [(Str.ofString ".0", .local), (Str.ofString "other", .local), (Str.ofString "its", .local), (Str.ofString "_law_narrow", .globalImplicit), (Str.ofString "own", .cell)]) (cl2 := [(Str.ofString "own", c0)]) (ownk := []) (vals := [none, none, none, none, none]) hE ⟨rfl, rfl, rfl, rfl, rfl, by decide, by decide, (show ([Str.ofString "own"] : List Str).Nodup by decide), by decide, rfl, rfl⟩ ?_
    kpc_turns
    refine CC.zip (by keq_rows) (by keq_rows) fun z2 TI2 TO2 i12 i22 => ?_
    refine iter_zip ?_
    refine (PL.m7_4 (((ts.map TR.g).map AV.str).length) _ _ _ _ _ ((bm, .fields "method" [.ref 156, .ref x]) :: (c0, .cell (some (.ref t.a))) :: (L, .ns nm_law_run [some (.ref p), some (.ref q), some (.ref x), some (.str t.g), none, none, none, none, none, none, none, none, none, none]) :: (z, .fields "zip" [.none, .bool false, .bool false, .ref TI, .ref TO]) :: (TO, .tuple (zto ((ts.map TR.g).map .str) (tRefs ts) (k + 1))) :: (i1, .listiter p (k + 1)) :: (i2, .listiter q (k + 1)) :: (TI, .tuple [.ref i1, .ref i2]) :: (x, .inst TS dx) :: (dx, .idct (tsKV (.ref d) .none 0 0)) :: (d, .sdict (nsKV g) ep2) :: (nsLed NI g ++ (tLed ts ++ l))) (walk_zip (G := G) (A := A') (z := z2) (TI := TI2) (TO := TO2) (i1 := i12) (i2 := i22) (p := p) (q := q) hr'.h hzl) ((PL.m3_0 _ _ _ rfl)) (by simp; omega) (by
      dsimp only [zipL, zipF, List.cons_append, List.nil_append]
      tlg_ne) (fun C acc own cenv hown hEc => ?_))
    obtain rfl : own = [] := by simpa using hown
    rw [List.nil_append] at hEc
    have hmem : ∀ u ∈ ts, (u.a, AO.list (u.own.map .str)) ∈ (nsLed NI g ++ (tLed ts ++ l)) := fun u hu => List.mem_append_right _ (List.mem_append_left _ (List.mem_map.mpr (PL.m1_1 u hu rfl)))
    refine (PL.m1_2 (fun k3 xs K => xs = (((tP ts).take k3).filter fun o => narrow o.2 t.own).map (fun o => AV.str o.1) ∧ K = (bm, .fields "method" [.ref 156, .ref x]) :: (c0, .cell (some (.ref t.a))) :: (L, .ns nm_law_run [some (.ref p), some (.ref q), some (.ref x), some (.str t.g), none, none, none, none, none, none, none, none, none, none]) :: (z, .fields "zip" [.none, .bool false, .bool false, .ref TI, .ref TO]) :: (TO, .tuple (zto ((ts.map TR.g).map .str) (tRefs ts) (k + 1))) :: (i1, .listiter p (k + 1)) :: (i2, .listiter q (k + 1)) :: (TI, .tuple [.ref i1, .ref i2]) :: (x, .inst TS dx) :: (dx, .idct (tsKV (.ref d) .none 0 0)) :: (d, .sdict (nsKV g) ep2) :: (nsLed NI g ++ (tLed ts ++ l))) (⟨rfl, rfl⟩) ?_ ?_)
    · (rintro k3 xs _ E3 K hk3; refine PL.j3_3 ?_; rintro xv yv T3 hxv hyv rfl rfl ⟨rfl, rfl⟩)
      have hk4 : k3 < ts.length := by simpa using hk3
      have htk3 : ts[k3]? = some ts[k3] := List.getElem?_eq_getElem hk4
      rw [List.getElem?_map, List.getElem?_map, htk3] at hxv
      obtain rfl : AV.str ts[k3].g = xv := by simpa using hxv
      rw [List.getElem?_map, htk3] at hyv
      obtain rfl : AV.ref ts[k3].a = yv := by simpa using hyv
      generalize ts[k3] = u at htk3
      have hum : u ∈ ts := List.mem_of_getElem? htk3
      have hpk : (tP ts)[k3]? = some (u.g, u.own) := by rw [List.getElem?_map, htk3]; rfl
      dsimp only [zipL, zipF, List.cons_append, List.nil_append]
      refine Asg.tup hr' (ts := [PySem.assign _ cenv, PySem.assign _ cenv]) (by keq_rows) ?_
      refine AIO.asg ?_
      kpc_turns
      refine AIO.asg ?_
      kpc_turns
      refine AIO.nil ?_
      refine IT.one ?_
      kpc_turns
      refine cc_narrow hG hr' (a := u.own) (b := t.own) (by repeat (first | exact hmem u hum | apply List.mem_cons_of_mem)) (by repeat (first | exact hmem t htm | apply List.mem_cons_of_mem)) (hok u hum).2 (hok u hum).1 (hok t htm).1 ?_
      kpc_turns
      refine ⟨fun hb => ?_, fun hb => ?_⟩
      · kpc_turns
        refine CEnd.mk ⟨?_, rfl⟩ (by dsimp only [zipL, zipF, List.cons_append, List.nil_append]; tlg_ne)
        exact (filt_yes (p := fun o : GO => narrow o.2 t.own) (fun o => AV.str o.1) hpk hb).symm
      · refine CEnd.mk ⟨?_, rfl⟩ (by dsimp only [zipL, zipF, List.cons_append, List.nil_append]; tlg_ne)
        exact (filt_no (p := fun o : GO => narrow o.2 t.own) (fun o => AV.str o.1) hpk hb).symm
    · rintro xs K ⟨rfl, rfl⟩
      dsimp only [zipL, zipF, List.cons_append, List.nil_append]
      have hxs : (((tP ts).take ((ts.map TR.g).map AV.str).length).filter fun o => narrow o.2 t.own).map (fun o => AV.str o.1) = (prdP (tP ts) t.own).map .str := by
        rw [List.take_of_length_le (by simp)]
        unfold prdP
        rw [List.map_map]
        rfl
      rewrite [hxs]
      have hpl := len_prdP (tP ts) t.own
      rw [List.length_map] at hpl
      refine (PL.m3_4 acc _ _ rfl (by keq_rows) (by rw [List.length_map]; omega) (by kas_types) ?_)
      show CK G A' _ ([.ref x, .str t.g] ++ (prdP (tP ts) t.own).map .str) _ _ _
      (refine PL.x0_2 (addAll_facts (tP ts) k (tP ts)) ?_; rintro f1 f2 f3)
      rw [← hab] at f1 f2 f3
      have hlg : (abs g).length = g.length := by simp [abs]
      have hPl : (tP ts).length = ts.length := by simp
      rw [hPl] at f1 f2
      have hm1 : k * (ts.length + 1) ≤ 8 * 9 := Nat.mul_le_mul (by omega) (by omega)
      have hm2 : k * ts.length ≤ 8 * 8 := Nat.mul_le_mul (by omega) (by omega)
      refine CK.sub (l' := [(L, .ns nm_law_run [some (.ref p), some (.ref q), some (.ref x), some (.str t.g), none, none, none, none, none, none, none, none, none, none]), (c0, .cell (some (.ref t.a))), (z, .fields "zip" [.none, .bool false, .bool false, .ref TI, .ref TO]), (TO, .tuple (zto ((ts.map TR.g).map .str) (tRefs ts) (k + 1))), (i1, .listiter p (k + 1)), (i2, .listiter q (k + 1)), (TI, .tuple [.ref i1, .ref i2]), (p, .list ((ts.map TR.g).map .str)), (q, .list (tRefs ts))] ++ ((x, .inst TS dx) :: (dx, .idct (tsKV (.ref d) .none 0 0)) :: (d, .sdict (nsKV g) ep2) :: (nsLed NI g ++ (tLed ts ++ l)))) (by dsimp only [List.cons_append, List.nil_append]; tlg_ne) ?_
      refine ck_addF [(L, .ns nm_law_run [some (.ref p), some (.ref q), some (.ref x), some (.str t.g), none, none, none, none, none, none, none, none, none, none]), (c0, .cell (some (.ref t.a))), (z, .fields "zip" [.none, .bool false, .bool false, .ref TI, .ref TO]), (TO, .tuple (zto ((ts.map TR.g).map .str) (tRefs ts) (k + 1))), (i1, .listiter p (k + 1)), (i2, .listiter q (k + 1)), (TI, .tuple [.ref i1, .ref i2]), (p, .list ((ts.map TR.g).map .str)), (q, .list (tRefs ts))] hG hg hr' (m := k * ts.length) (by omega) (by omega) f2 f3 fun g' ep' hab' => ?_
      dsimp only [List.cons_append, List.nil_append]
      kpc_turns
      refine hF1.next (L := (L, .ns nm_law_run [some (.ref p), some (.ref q), some (.ref x), none, none, none, none, none, none, none, none, none, none, none]) :: (c0, .cell none) :: (x, .inst TS dx) :: (dx, .idct (tsKV (.ref d) .none 0 0)) :: (d, .sdict (nsKV g') ep') :: (nsLed NI g' ++ (tLed ts ++ l))) (PL.m2_1 g' ep' ?_ rfl) (by dsimp only [zipL, zipF, List.cons_append, List.nil_append]; tlg_ne)
      rw [hab', hab]
      exact (addAll_step (tP ts) (t := (t.g, t.own)) (by rw [List.getElem?_map, htk]; rfl)).symm
  · (rintro K; refine PL.j2_1 ?_; rintro g ep2 hab rfl)
    rw [List.take_of_length_le (by simp)] at hab
    dsimp only [zipL, zipF, List.cons_append, List.nil_append]
    kpc_turns
    refine tsM_prep hG (by kas_types) (by kas_types) ?_
    kpc_turns
    (revert hfrs; refine PL.j1_1 ?_; rintro es hfr hes)
    have hfrs2 : FrsIn A' ([(L, .ns nm_law_run [some (.ref p), some (.ref q), some (.ref x), none, none, none, none, none, none, none, none, none, none, none]), (c0, .cell none), (p, .list ((ts.map TR.g).map .str)), (q, .list (tRefs ts))] ++ (tLed ts ++ l)) := by
      refine (PL.m1_1 (env :: es) (by rw [hx.deeper]; show A.frames.map _ = _; rw [hfr]; rfl) (fun y hy => ?_))
      rcases List.mem_cons.mp hy with rfl | hy
      · exact ⟨by rw [hE.kind]; decide, L, _, _, hx.frame, .head _⟩
      · exact (hes y hy).sub fun p hp => List.mem_append_right _ (List.mem_append_right _ hp)
    (refine PL.x0_2 (addAll_facts (tP ts) (tP ts).length (tP ts)) ?_; rintro f1 f2 f3)
    have hPl : (tP ts).length = ts.length := by simp
    rw [List.take_length, ← hab] at f1 f2 f3
    rw [hPl] at f1 f2
    have hlg : (abs g).length = g.length := by simp [abs]
    have hm1 : ts.length * (ts.length + 1) ≤ 8 * 9 := Nat.mul_le_mul (by omega) (by omega)
    rw [← hab] at hcl hno hJ0
    refine CC.sub (l' := [(L, .ns nm_law_run [some (.ref p), some (.ref q), some (.ref x), none, none, none, none, none, none, none, none, none, none, none]), (c0, .cell none), (p, .list ((ts.map TR.g).map .str)), (q, .list (tRefs ts))] ++ ((x, .inst TS dx) :: (dx, .idct (tsKV (.ref d) .none 0 0)) :: (d, .sdict (nsKV g) ep2) :: (nsLed NI g ++ (tLed ts ++ l)))) (by dsimp only [List.cons_append, List.nil_append]; tlg_ne) ?_
    refine cc_prepareF [(L, .ns nm_law_run [some (.ref p), some (.ref q), some (.ref x), none, none, none, none, none, none, none, none, none, none, none]), (c0, .cell none), (p, .list ((ts.map TR.g).map .str)), (q, .list (tRefs ts))] hG hg hr' hfrs2 (by omega) f3 hcl hno fun rq => ?_
    dsimp only [List.cons_append, List.nil_append]
    kpc_turns
    refine SS.swap2 hr' hE (by kct_strs) (by kct_strs) ?_
    kpc_turns
    refine ⟨by decide, fun hl => ?_⟩
    kpc_turns
    refine ⟨by decide, fun ol => ?_⟩
    kpc_turns
    refine ⟨by show 2 ≤ 1000; decide, fun tp => (PL.m4_2 tp _ _ _ rfl (by keq_rows) ?_)⟩
    kpc_turns
    refine SS.forH ?_
    kpc_turns
    refine CC.lens (xs := ts.map TR.g) (by keq_rows) (by rw [List.length_map]; omega) ?_
    kpc_turns
    rewrite [List.length_map]
    refine CC.range1 fun rg => ?_
    refine iter_range (by keq_rows) (by omega) fun it3 => ?_
    refine ⟨ts.length, _, _, _, _, _, (L, .ns nm_law_run [some (.ref p), some (.ref q), some (.ref x), none, none, some (.ref hl), some (.ref ol), none, none, none, none, none, none, none]) :: (c0, .cell none) :: (hl, .list []) :: (ol, .list []) :: (p, .list ((ts.map TR.g).map .str)) :: (q, .list (tRefs ts)) :: (rq, .list ((readyOf (abs g)).map .str)) :: (x, .inst TS dx) :: (dx, .idct (tsKV (.ref d) (.ref rq) 0 0)) :: (d, .sdict (nsKV g) ep2) :: (nsLed NI g ++ (tLed ts ++ l)), walk_range (G := G) (A := A') (it := it3) (a := 0) (n := ts.length) hr'.h, trivial, by dsimp only [List.cons_append, List.nil_append]; tlg_ne, fun k K => ∃ g ys hp ord po nf, J k (abs g) ys hp ord ∧ HP.Heap HP.slt hp ∧ K = (L, .ns nm_law_run [some (.ref p), some (.ref q), some (.ref x), none, none, some (.ref hl), some (.ref ol), none, none, none, none, none, none, none]) :: (c0, .cell none) :: (hl, .list (hp.map .str)) :: (ol, .list (ord.map .str)) :: (p, .list ((ts.map TR.g).map .str)) :: (q, .list (tRefs ts)) :: (rq, .list (ys.map .str)) :: (x, .inst TS dx) :: (dx, .idct (tsKV (.ref d) (.ref rq) po nf)) :: (d, .sdict (nsKV g) ep2) :: (nsLed NI g ++ (tLed ts ++ l)), ?_, ?_, ?_⟩
    · exact (PL.m6_2 g _ ([]) ([]) 0 0 hJ0 ((fun i _ => by simp [HP.leO])) rfl)
    · (rintro FF2 hF2 k a E K hk ⟨rfl, rfl⟩; refine PL.j6_2 ?_; rintro g ys hp ord po nf hJk hH rfl)
      (refine PL.x0_5 (hJ.go k _ _ _ _ hk hJk) ?_; rintro j1 j2 j3 j4 j5 j6)
      dsimp only [List.cons_append, List.nil_append]
      kpc_turns
      refine SS.forH ?_
      kpc_turns
      refine tsM_ready hG (by kas_types) (by kas_types) ?_
      kpc_turns
      refine CC.sub (l' := [(L, .ns nm_law_run [some (.ref p), some (.ref q), some (.ref x), none, none, some (.ref hl), some (.ref ol), none, none, none, none, none, none, none]), (it3, .rangeiter (0 + ((k + 1 : Nat) : Int)) ((ts.length : Int) - ((k + 1 : Nat) : Int)) 1), (c0, .cell none), (hl, .list (hp.map .str)), (ol, .list (ord.map .str)), (p, .list ((ts.map TR.g).map .str)), (q, .list (tRefs ts))] ++ ((rq, .list (ys.map .str)) :: (x, .inst TS dx) :: (dx, .idct (tsKV (.ref d) (.ref rq) po nf)) :: (d, .sdict (nsKV g) ep2) :: (nsLed NI g ++ (tLed ts ++ l)))) (by dsimp only [List.cons_append, List.nil_append]; tlg_ne) ?_
      refine cc_readyF [(L, .ns nm_law_run [some (.ref p), some (.ref q), some (.ref x), none, none, some (.ref hl), some (.ref ol), none, none, none, none, none, none, none]), (it3, .rangeiter (0 + ((k + 1 : Nat) : Int)) ((ts.length : Int) - ((k + 1 : Nat) : Int)) 1), (c0, .cell none), (hl, .list (hp.map .str)), (ol, .list (ord.map .str)), (p, .list ((ts.map TR.g).map .str)), (q, .list (tRefs ts))] hG hg hr' j3 j1 j2 fun t g' hab' hkv' => ?_
      dsimp only [List.cons_append, List.nil_append]
      refine iter_tuple (by keq_rows) fun it4 => ?_
      refine ⟨ys.length, _, _, _, _, _, (L, .ns nm_law_run [some (.ref p), some (.ref q), some (.ref x), none, none, some (.ref hl), some (.ref ol), none, none, none, none, none, none, none]) :: (it3, .rangeiter (0 + ((k + 1 : Nat) : Int)) ((ts.length : Int) - ((k + 1 : Nat) : Int)) 1) :: (c0, .cell none) :: (hl, .list (hp.map .str)) :: (ol, .list (ord.map .str)) :: (p, .list ((ts.map TR.g).map .str)) :: (q, .list (tRefs ts)) :: (rq, .list []) :: (x, .inst TS dx) :: (dx, .idct (tsKV (.ref d) (.ref rq) (po + ys.length) nf)) :: (d, .sdict (nsKV g') ep2) :: (nsLed NI g' ++ (tLed ts ++ l)), by
        have := walk_tuple (G := G) (A := A') (it := it4) (p := t) (xs := ys.map .str) hr'.h
        rw [List.length_map] at this
        exact this, trivial, by dsimp only [List.cons_append, List.nil_append]; tlg_ne, fun k2 K => ∃ hp', hp'.Perm (hp ++ ys.take k2) ∧ HP.Heap HP.slt hp' ∧ K = (L, .ns nm_law_run [some (.ref p), some (.ref q), some (.ref x), none, none, some (.ref hl), some (.ref ol), none, none, none, none, none, none, none]) :: (it3, .rangeiter (0 + ((k + 1 : Nat) : Int)) ((ts.length : Int) - ((k + 1 : Nat) : Int)) 1) :: (c0, .cell none) :: (hl, .list (hp'.map .str)) :: (ol, .list (ord.map .str)) :: (p, .list ((ts.map TR.g).map .str)) :: (q, .list (tRefs ts)) :: (rq, .list []) :: (x, .inst TS dx) :: (dx, .idct (tsKV (.ref d) (.ref rq) (po + ys.length) nf)) :: (d, .sdict (nsKV g') ep2) :: (nsLed NI g' ++ (tLed ts ++ l)), ?_, ?_, ?_⟩
      · exact (PL.m1_2 hp (by simp) hH rfl)
      · (rintro FF3 hF3 k2 _ _ K hk2 ⟨hyk, rfl⟩; refine PL.j1_2 ?_; rintro hp' hpp hH' rfl)
        rw [List.getElem?_map, Option.map_eq_some_iff] at hyk
        (revert hyk; refine PL.j1_1 ?_; rintro y hyk rfl)
        have hlen : hp'.length ≤ hp.length + ys.length := by
          rw [hpp.length_eq, List.length_append, List.length_take]
          omega
        dsimp only [List.cons_append, List.nil_append]
        kpc_turns
        refine cc_heappush hG hg hr' (by keq_rows) (by omega) hH' fun zs hzp hzH => ?_
        kpc_turns
        refine hF3.next (PL.m1_2 zs ?_ hzH rfl) (by dsimp only [List.cons_append, List.nil_append]; tlg_ne)
        rw [List.take_add_one, hyk]
        exact hzp.trans (by rw [← List.append_assoc]; exact hpp.append_right _)
      · (rintro K; refine PL.j1_2 ?_; rintro hp' hpp hH' rfl)
        rw [List.take_length] at hpp
        obtain ⟨j7, j8⟩ := j6 hp' hpp
        have hlen : hp'.length ≤ hp.length + ys.length := by
          rw [hpp.length_eq, List.length_append]
          omega
        dsimp only [List.cons_append, List.nil_append]
        kpc_turns
        refine cc_heappop hG hg hr' (by keq_rows) (by omega) hH' j7 fun m rest hmr hmin hHr => ?_
        (refine PL.x0_5 (j8 m rest hmr hmin) ?_; rintro i1' i2' i3' i4' i5' i6')
        kpc_turns
        refine CC.appends (by keq_rows) (by omega) ?_
        kpc_turns
        refine tsM_done hG (by kas_types) (by kas_types) ?_
        kpc_turns
        refine Get.lastP (by keq_rows) (xs := ord.map .str) (a := .str m) (by rw [List.map_append]; rfl) (by rw [List.length_map]; omega) ?_
        kpc_turns
        rw [← hab'] at i1' i2' i3' i4' i5' i6'
        refine CC.sub (l' := [(L, .ns nm_law_run [some (.ref p), some (.ref q), some (.ref x), none, none, some (.ref hl), some (.ref ol), none, none, none, none, none, none, none]), (it3, .rangeiter (0 + ((k + 1 : Nat) : Int)) ((ts.length : Int) - ((k + 1 : Nat) : Int)) 1), (c0, .cell none), (hl, .list (rest.map .str)), (ol, .list ((ord ++ [m]).map .str)), (p, .list ((ts.map TR.g).map .str)), (q, .list (tRefs ts))] ++ ((rq, .list []) :: (x, .inst TS dx) :: (dx, .idct (tsKV (.ref d) (.ref rq) (po + ys.length) nf)) :: (d, .sdict (nsKV g') ep2) :: (nsLed NI g' ++ (tLed ts ++ l)))) (by dsimp only [List.cons_append, List.nil_append]; tlg_ne) ?_
        refine cc_doneF [(L, .ns nm_law_run [some (.ref p), some (.ref q), some (.ref x), none, none, some (.ref hl), some (.ref ol), none, none, none, none, none, none, none]), (it3, .rangeiter (0 + ((k + 1 : Nat) : Int)) ((ts.length : Int) - ((k + 1 : Nat) : Int)) 1), (c0, .cell none), (hl, .list (rest.map .str)), (ol, .list ((ord ++ [m]).map .str)), (p, .list ((ts.map TR.g).map .str)), (q, .list (tRefs ts))] (ys := []) hG hg hr' i1' i2' i3' i4' (by simpa using i5') fun g2 ys2 hd2 hkv2 => ?_
        dsimp only [List.cons_append, List.nil_append]
        kpc_turns
        refine hF2.next (L := (L, .ns nm_law_run [some (.ref p), some (.ref q), some (.ref x), none, none, some (.ref hl), some (.ref ol), none, none, none, none, none, none, none]) :: (c0, .cell none) :: (hl, .list (rest.map .str)) :: (ol, .list ((ord ++ [m]).map .str)) :: (p, .list ((ts.map TR.g).map .str)) :: (q, .list (tRefs ts)) :: (rq, .list (ys2.map .str)) :: (x, .inst TS dx) :: (dx, .idct (tsKV (.ref d) (.ref rq) (po + ys.length) (nf + 1))) :: (d, .sdict (nsKV g2) ep2) :: (nsLed NI g2 ++ (tLed ts ++ l))) (PL.m6_2 g2 ys2 rest (ord ++ [m]) _ _ (i6' _ _ hd2) hHr rfl) (by dsimp only [List.cons_append, List.nil_append]; tlg_ne)
    · (rintro K; refine PL.j6_2 ?_; rintro g ys hp ord po nf hJk hH rfl)
      dsimp only [List.cons_append, List.nil_append]
      kpc_turns
      refine (PL.m1_1 _ ?_ (h _ _ _ _ hJk ol))
      show Sub ((ol, .list (ord.map .str)) :: (p, .list ((ts.map TR.g).map .str)) :: (q, .list (tRefs ts)) :: (tLed ts ++ l)) _
      refine .trans ?_ (show Sub ((ol, .list (ord.map .str)) :: (p, .list ((ts.map TR.g).map .str)) :: (q, .list (tRefs ts)) :: (nsLed NI g ++ (tLed ts ++ l))) _ by tlg_ne)
      exact .keep (.keep (.keep .left))
end
noncomputable def menuL : List Str := [Str.ofString "*", Str.ofString "a*", Str.ofString "*b", Str.ofString "?", Str.ofString "a?", Str.ofString "?*", Str.ofString "ab", Str.ofString "[!b]*"]
noncomputable def namesL : List Str := [Str.ofString "", Str.ofString "a", Str.ofString "b", Str.ofString "aa", Str.ofString "ab", Str.ofString "ba", Str.ofString "bb"]
noncomputable abbrev saidOf (g : Str) : List Str := namesL.filter (said g)
noncomputable def okParts (g : Str) : Bool := decide (g.length ≤ 100) && match truns g g.length 0 [] with
  | some parts => decide (parts.length < 1000) && (parts.all fun | some s => decide (s.length ≤ 1000) | none => true) && (takenOf parts namesL == saidOf g)
  | none => false
theorem menu_ok0 : (menuL.all okParts) = true := by decide +kernel
theorem menu_ok {g : Str} (h : g ∈ menuL) : g.length ≤ 100 ∧ ∃ parts, truns g g.length 0 [] = some parts ∧ parts.length < 1000 ∧ (∀ s, some s ∈ parts → s.length ≤ 1000) ∧ takenOf parts namesL = saidOf g := by
  have h1 := List.all_eq_true.mp menu_ok0 g h
  unfold okParts at h1
  rw [Bool.and_eq_true] at h1
  refine ⟨of_decide_eq_true h1.1, ?_⟩
  have h2 := h1.2
  cases hq : truns g g.length 0 [] with
  | none => rw [hq] at h2; cases h2
  | some parts =>
    rw [hq] at h2
    simp only [Bool.and_eq_true, decide_eq_true_eq, List.all_eq_true, beq_iff_eq] at h2
    exact (PL.m1_3 parts rfl h2.1.1 ((fun s hs => by simpa using h2.1.2 _ hs)) h2.2)
theorem menu_rank0 : (menuL.all fun g => menuL.all fun h => !narrow (saidOf g) (saidOf h) || decide ((saidOf g).length < (saidOf h).length)) = true := by decide +kernel
theorem menu_okS0 : (menuL.all fun g => okS (saidOf g) && decide ((saidOf g).length < 1000)) = true := by decide +kernel
theorem menu_okS (g : Str) (h : g ∈ menuL) : okS (saidOf g) = true ∧ (saidOf g).length < 1000 := by
  have h1 := List.all_eq_true.mp menu_okS0 g h
  rw [Bool.and_eq_true] at h1
  exact ⟨h1.1, of_decide_eq_true h1.2⟩
theorem menu_okT0 : okS menuL = true := by decide +kernel
theorem namesL_len : ∀ s ∈ namesL, s.length < 1000 := by decide
noncomputable def leftOf (gs dl : List Str) : List Str := gs.filter fun g => !dl.contains g
noncomputable def candOf (gs dl : List Str) : List Str := (leftOf gs dl).filter fun g => ((leftOf gs dl).filter fun o => narrow (saidOf o) (saidOf g)) == []
inductive DueR (gs : List Str) : Nat → List Str → Prop where
  | zero : DueR gs 0 []
  | succ {k : Nat} {dl : List Str} {m : Str} : DueR gs k dl → m ∈ candOf gs dl → (∀ b ∈ candOf gs dl, HP.slt b m = false) → DueR gs (k + 1) (dl ++ [m])
theorem DueR.len {gs : List Str} {k : Nat} {dl : List Str} (h : DueR gs k dl) : dl.length = k := by
  induction h with
  | zero => rfl
  | succ _ _ _ ih => simp [ih]
theorem okS_of {xs : List Str} (h : ∀ x ∈ xs, x ∈ menuL) : okS xs = true := by
  have h1 := menu_okT0
  unfold okS at h1 ⊢
  rw [List.all_eq_true] at h1 ⊢
  exact fun x hx => h1 x (h x hx)
noncomputable abbrev goP (gs : List Str) : List GO := gs.map fun g => (g, saidOf g)
theorem goP_names (gs : List Str) : (goP gs).map (·.1) = gs := by
  rw [List.map_map]
  exact (List.map_congr_left fun g _ => rfl).trans (List.map_id gs)
theorem cand_eq (gs dl : List Str) : candOf gs dl = candP (goP gs) dl := by
  have h1 : leftP (goP gs) dl = (leftOf gs dl).map fun g => (g, saidOf g) := by
    unfold leftP leftOf
    rw [List.filter_map]
    rfl
  unfold candP candOf
  rw [h1, List.filter_map, List.map_map]
  have h2 : ∀ xs : List Str, xs.map ((fun t : GO => t.1) ∘ fun g => (g, saidOf g)) = xs := fun xs => (List.map_congr_left fun g _ => rfl).trans (List.map_id xs)
  have h3 : ∀ xs : List Str, ((xs.map fun g => (g, saidOf g)) == ([] : List GO)) = (xs == []) := fun xs => by cases xs <;> rfl
  rw [h2]
  apply List.filter_congr
  intro g _
  show _ = ((((leftOf gs dl).map fun g => (g, saidOf g)).filter fun o => narrow o.2 (saidOf g)) == [])
  rw [List.filter_map]
  exact (h3 _).symm
theorem DueR.to {gs : List Str} {k : Nat} {dl : List Str} (h : DueR gs k dl) : DueP (goP gs) dl := by
  induction h with
  | zero => exact .zero
  | succ _ hm hmin ih => exact .succ ih (by rw [← cand_eq]; exact hm) (by rw [← cand_eq]; exact hmin)
theorem goP_rank {gs : List Str} (h : ∀ g ∈ gs, g ∈ menuL) : Rank (goP gs) := fun a ha b hb hnw => by
  (refine PL.x1_1 (List.mem_map.mp ha) ?_; rintro g hg rfl)
  (refine PL.x1_1 (List.mem_map.mp hb) ?_; rintro k hk rfl)
  have h1 := List.all_eq_true.mp (List.all_eq_true.mp menu_rank0 g (h g hg)) k (h k hk)
  rw [show narrow (saidOf g) (saidOf k) = true from hnw] at h1
  simpa using h1
theorem cand_ne {gs dl : List Str} {k : Nat} (hgn : gs.Nodup) (hgm : ∀ g ∈ gs, g ∈ menuL) (h : DueR gs k dl) (hk : k < gs.length) : candOf gs dl ≠ [] := by
  rw [cand_eq]
  exact candP_ne (by rw [goP_names]; exact hgn) (goP_rank hgm) h.to (by rw [h.len, List.length_map]; exact hk)
theorem sub_swap {cs T S : Led} : Sub (T ++ cs) (cs ++ (T ++ S)) := .trans (.perm List.perm_append_comm) (.app .right)
section
variable {G : Gd} {A : Around} {l l' : Led} {X : Xp} {R : AV → Led → Prop}
theorem law4 (hG : Ok G) (hg : GlobOk G gtab) {n : Nat} {env : Env} {L c0 c1 c2 c3 p mn gl nm sd tk : Addr} {ep : Nat} {gs : List Str} {ts ss : List TR} (hE : EnvOk env nm_law L [(Str.ofString "left", c3), (Str.ofString "due", c2), (Str.ofString "said", c1), (Str.ofString "names", c0)]) (hr' : Room A (n + 9))
    (hfrs : ∀ vs l, FrsIn A ((L, .ns nm_law vs) :: l)) (hgn : gs.Nodup) (hgm : ∀ g ∈ gs, g ∈ menuL) (hgl : gs.length ≤ 6) (hsg : ss.map TR.g = gs) (hso : ∀ u ∈ ss, u.own = saidOf u.g) (htg : ts.map TR.g = gs) (hto : ∀ u ∈ ts, u.own = saidOf u.g) :
    BB G A env ((bodyOf (fdAt G.w.params 244)).drop 7) ((L, .ns nm_law [some (.ref p), some (.ref mn), some (.ref gl), none, none, none, some (.ref tk), none, none, none, none, none, none, none]) :: (tk, .list (tRefs ts)) :: (sd, .sdict (tKV ss) ep) :: (gl, .list (gs.map .str)) :: (c0, .cell (some (.ref nm))) :: (c1, .cell (some (.ref sd))) :: (c2, .cell none) :: (c3, .cell none) :: (85, .tab) :: (tLed ts ++ tLed ss)) (fun fl l₂ => fl = .ret (.bool true) ∧ (85, AO.tab) ∈ l₂) noX := by
  have hfind : ∀ g ∈ gs, ∃ u ∈ ss, u.g = g := fun g hgg => by
    rw [← hsg] at hgg
    (refine PL.x1_1 (List.mem_map.mp hgg) ?_; rintro u hu e)
    exact (PL.m1_1 u hu e)
  have hmem : ∀ u ∈ ss, (u.a, AO.list (u.own.map .str)) ∈ (tLed ts ++ tLed ss : Led) := fun u hu => List.mem_append_right _ (List.mem_map.mpr (PL.m1_1 u hu rfl))
  refine BB.cons ?_
  kpc_turns
  refine ⟨by decide, fun du => ?_⟩
  kpc_turns
  refine SS.forH ?_
  kpc_turns
  refine CC.lens (by keq_rows) (by omega) ?_
  kpc_turns
  refine CC.range1 fun rg => ?_
  refine iter_range (by keq_rows) (by omega) fun it => ?_
  refine ⟨gs.length, _, _, _, _, _, (L, .ns nm_law [some (.ref p), some (.ref mn), some (.ref gl), none, none, none, some (.ref tk), none, none, none, none, none, none, none]) :: (tk, .list (tRefs ts)) :: (du, .list []) :: (sd, .sdict (tKV ss) ep) :: (gl, .list (gs.map .str)) :: (c0, .cell (some (.ref nm))) :: (c1, .cell (some (.ref sd))) :: (c2, .cell (some (.ref du))) :: (c3, .cell none) :: (85, .tab) :: (tLed ts ++ tLed ss), walk_range (G := G) (A := A) (it := it) (a := 0) (n := gs.length) hr'.h, trivial, by dsimp only [List.cons_append, List.nil_append]; tlg_ne, fun k K => ∃ dl, DueR gs k dl ∧ K = (L, .ns nm_law [some (.ref p), some (.ref mn), some (.ref gl), none, none, none, some (.ref tk), none, none, none, none, none, none, none]) :: (tk, .list (tRefs ts)) :: (du, .list (dl.map .str)) :: (sd, .sdict (tKV ss) ep) :: (gl, .list (gs.map .str)) :: (c0, .cell (some (.ref nm))) :: (c1, .cell (some (.ref sd))) :: (c2, .cell (some (.ref du))) :: (c3, .cell none) :: (85, .tab) :: (tLed ts ++ tLed ss), (PL.m1_1 ([]) (.zero) rfl), ?_, ?_⟩
  · (rintro FF1 hF1 k a E K hk ⟨rfl, rfl⟩; refine PL.j1_1 ?_; rintro dl hdl rfl)
    dsimp only [List.cons_append, List.nil_append]
    kpc_turns
    refine SS.assignCompC hE (by kct_strs) ?_
    refine EE.listcomp (cn := [(Str.ofString ".0", .local), (Str.ofString "glob", .local), (Str.ofString "due", .free)]) (cn' := [(Str.ofString ".0", .local), (Str.ofString "glob", .local), (Str.ofString "due", .cell)]) (cl2 := [(Str.ofString "due", c2)]) (ownk := []) (vals := [none, none, none]) hE ⟨rfl, rfl, rfl, rfl, rfl, by decide, by decide, (show ([Str.ofString "due"] : List Str).Nodup by decide), by decide, rfl, rfl⟩ ?_
    kpc_turns
    refine iter_list (by keq_rows) fun it2 => ?_
    refine (PL.m7_4 gs.length _ _ _ _ _ ((L, .ns nm_law [some (.ref p), some (.ref mn), some (.ref gl), none, none, none, some (.ref tk), none, none, none, none, none, none, none]) :: (tk, .list (tRefs ts)) :: (du, .list (dl.map .str)) :: (sd, .sdict (tKV ss) ep) :: (it, .rangeiter (0 + ((k + 1 : Nat) : Int)) ((gs.length : Int) - ((k + 1 : Nat) : Int)) 1) :: (c0, .cell (some (.ref nm))) :: (c1, .cell (some (.ref sd))) :: (c2, .cell (some (.ref du))) :: (c3, .cell none) :: (85, .tab) :: (tLed ts ++ tLed ss)) (by
      have := walk_list (G := G) (A := A) (it := it2) (p := gl) (xs := gs.map .str) hr'.h
      rw [List.length_map] at this
      exact this) trivial (by omega) (by dsimp only [List.cons_append, List.nil_append]; tlg_ne) (fun C acc own cenv hown hEc => ?_))
    obtain rfl : own = [] := by simpa using hown
    rw [List.nil_append] at hEc
    refine (PL.m1_2 (fun k2 xs K => xs = ((gs.take k2).filter fun g => !dl.contains g).map .str ∧ K = (L, .ns nm_law [some (.ref p), some (.ref mn), some (.ref gl), none, none, none, some (.ref tk), none, none, none, none, none, none, none]) :: (tk, .list (tRefs ts)) :: (du, .list (dl.map .str)) :: (sd, .sdict (tKV ss) ep) :: (it, .rangeiter (0 + ((k + 1 : Nat) : Int)) ((gs.length : Int) - ((k + 1 : Nat) : Int)) 1) :: (c0, .cell (some (.ref nm))) :: (c1, .cell (some (.ref sd))) :: (c2, .cell (some (.ref du))) :: (c3, .cell none) :: (85, .tab) :: (tLed ts ++ tLed ss)) (⟨rfl, rfl⟩) ?_ ?_)
    · rintro k2 xs x _ K hk2 ⟨hxk, rfl⟩ ⟨rfl, rfl⟩
      rw [List.getElem?_map, Option.map_eq_some_iff] at hxk
      (revert hxk; refine PL.j1_1 ?_; rintro g hxk rfl)
      dsimp only [List.cons_append, List.nil_append]
      kpc_turns
      refine IT.one ?_
      kpc_turns
      refine Op2.notinStrsM (by kas_types) ?_
      kpc_turns
      refine ⟨fun hb => ?_, fun hb => ?_⟩
      · kpc_turns
        refine CEnd.mk ⟨?_, rfl⟩ (by dsimp only [List.cons_append, List.nil_append]; tlg_ne)
        exact (filt_yes (p := fun g => !dl.contains g) _ hxk hb).symm
      · refine CEnd.mk ⟨?_, rfl⟩ (by dsimp only [List.cons_append, List.nil_append]; tlg_ne)
        exact (filt_no (p := fun g => !dl.contains g) _ hxk hb).symm
    · rintro xs K ⟨rfl, rfl⟩
      rw [List.take_length]
      rewrite [show (gs.filter fun g => !dl.contains g) = leftOf gs dl from rfl]
      dsimp only [List.cons_append, List.nil_append]
      kpc_turns
      generalize acc = lf
      obtain ⟨lo, hlo⟩ : ∃ lo, lo = leftOf gs dl := ⟨_, rfl⟩
      rewrite [← hlo]
      have hlg : ∀ g ∈ lo, g ∈ gs := fun g hgg => by rw [hlo] at hgg; exact (List.mem_filter.mp hgg).1
      have hlz : lo.length ≤ 6 := by rw [hlo]; exact Nat.le_trans (List.length_filter_le _ _) hgl
      refine EE.listcomp (cn := [(Str.ofString ".0", .local), (Str.ofString "glob", .cell), (Str.ofString "left", .free), (Str.ofString "said", .free)]) (cn' := [(Str.ofString ".0", .local), (Str.ofString "glob", .cell), (Str.ofString "left", .cell), (Str.ofString "said", .cell)]) (cl2 := [(Str.ofString "said", c1), (Str.ofString "left", c3)]) (ownk := [Str.ofString "glob"]) (vals := [none, none, none, none]) hE ⟨rfl, rfl, rfl, rfl, rfl, by decide, by decide, (show ([Str.ofString "glob", Str.ofString "said", Str.ofString "left"] : List Str).Nodup by decide), by decide, rfl, rfl⟩ ?_
      kpc_turns
      refine iter_list (by keq_rows) fun it4 => ?_
      refine (PL.m7_4 lo.length _ _ _ _ _ ((L, .ns nm_law [some (.ref p), some (.ref mn), some (.ref gl), none, none, none, some (.ref tk), none, none, none, none, none, none, none]) :: (tk, .list (tRefs ts)) :: (du, .list (dl.map .str)) :: (sd, .sdict (tKV ss) ep) :: (it, .rangeiter (0 + ((k + 1 : Nat) : Int)) ((gs.length : Int) - ((k + 1 : Nat) : Int)) 1) :: (gl, .list (gs.map .str)) :: (c0, .cell (some (.ref nm))) :: (c1, .cell (some (.ref sd))) :: (c2, .cell (some (.ref du))) :: (c3, .cell (some (.ref lf))) :: (85, .tab) :: (tLed ts ++ tLed ss)) (by
        have := walk_list (G := G) (A := A) (it := it4) (p := lf) (xs := lo.map .str) hr'.h
        rw [List.length_map] at this
        exact this) trivial (by omega) (by dsimp only [List.cons_append, List.nil_append]; tlg_ne) (fun C acc own cenv hown hEc => ?_))
      obtain ⟨cg, rfl⟩ : ∃ cg, own = [(Str.ofString "glob", cg)] := by
        match own, hown with
        | [(a, cg)], e => exact ⟨cg, by simp at e; rw [e]⟩
      rw [List.cons_append, List.nil_append] at hEc
      refine (PL.m1_2 (fun k2 xs K => ∃ cv, xs = ((lo.take k2).filter fun g => (lo.filter fun o => narrow (saidOf o) (saidOf g)) == []).map .str ∧ K = (cg, .cell cv) :: (L, .ns nm_law [some (.ref p), some (.ref mn), some (.ref gl), none, none, none, some (.ref tk), none, none, none, none, none, none, none]) :: (tk, .list (tRefs ts)) :: (du, .list (dl.map .str)) :: (sd, .sdict (tKV ss) ep) :: (it, .rangeiter (0 + ((k + 1 : Nat) : Int)) ((gs.length : Int) - ((k + 1 : Nat) : Int)) 1) :: (gl, .list (gs.map .str)) :: (c0, .cell (some (.ref nm))) :: (c1, .cell (some (.ref sd))) :: (c2, .cell (some (.ref du))) :: (c3, .cell (some (.ref lf))) :: (85, .tab) :: (tLed ts ++ tLed ss)) ((PL.m1_1 none rfl rfl)) ?_ ?_)
      · (rintro k2 xs x _ K hk2 ⟨hxk, rfl⟩; refine PL.j1_1 ?_; rintro cv rfl rfl)
        rw [List.getElem?_map, Option.map_eq_some_iff] at hxk
        (revert hxk; refine PL.j1_1 ?_; rintro g hxk rfl)
        have hgl2 : g ∈ lo := List.mem_of_getElem? hxk
        dsimp only [List.cons_append, List.nil_append]
        kpc_turns
        refine IT.one ?_
        refine TT.cmp ?_
        refine EE.listcomp (cn := [(Str.ofString ".0", .local), (Str.ofString "one", .local), (Str.ofString "_law_narrow", .globalImplicit), (Str.ofString "glob", .free), (Str.ofString "said", .free)]) (cn' := [(Str.ofString ".0", .local), (Str.ofString "one", .local), (Str.ofString "_law_narrow", .globalImplicit), (Str.ofString "glob", .cell), (Str.ofString "said", .cell)]) (cl2 := [(Str.ofString "said", c1), (Str.ofString "glob", cg)]) (ownk := []) (vals := [none, none, none, none, none]) hEc ⟨rfl, rfl, rfl, rfl, rfl, by decide, by decide, (show ([Str.ofString "said", Str.ofString "glob"] : List Str).Nodup by decide), by decide, rfl, rfl⟩ ?_
        kpc_turns
        refine iter_list (by keq_rows) fun it5 => ?_
        refine (PL.m7_4 lo.length _ _ _ _ _ ((C, .ns [(Str.ofString ".0", .local), (Str.ofString "glob", .cell), (Str.ofString "left", .cell), (Str.ofString "said", .cell)] [none, none, none, none]) :: (acc, .list (((lo.take k2).filter fun g => (lo.filter fun o => narrow (saidOf o) (saidOf g)) == []).map .str)) :: (cg, .cell (some (.str g))) :: (it4, .listiter lf (k2 + 1)) :: (L, .ns nm_law [some (.ref p), some (.ref mn), some (.ref gl), none, none, none, some (.ref tk), none, none, none, none, none, none, none]) :: (tk, .list (tRefs ts)) :: (du, .list (dl.map .str)) :: (sd, .sdict (tKV ss) ep) :: (it, .rangeiter (0 + ((k + 1 : Nat) : Int)) ((gs.length : Int) - ((k + 1 : Nat) : Int)) 1) :: (gl, .list (gs.map .str)) :: (c0, .cell (some (.ref nm))) :: (c1, .cell (some (.ref sd))) :: (c2, .cell (some (.ref du))) :: (c3, .cell (some (.ref lf))) :: (85, .tab) :: (tLed ts ++ tLed ss)) (by
          have := walk_list (G := G) (A := A) (it := it5) (p := lf) (xs := lo.map .str) hr'.h
          rw [List.length_map] at this
          exact this) trivial (by omega) (by dsimp only [List.cons_append, List.nil_append]; tlg_ne) (fun C2 acc2 own2 cenv2 hown2 hEc2 => ?_))
        obtain rfl : own2 = [] := by simpa using hown2
        rw [List.nil_append] at hEc2
        refine (PL.m1_2 (fun k3 xs K => xs = ((lo.take k3).filter fun o => narrow (saidOf o) (saidOf g)).map .str ∧ K = (C, .ns [(Str.ofString ".0", .local), (Str.ofString "glob", .cell), (Str.ofString "left", .cell), (Str.ofString "said", .cell)] [none, none, none, none]) :: (acc, .list (((lo.take k2).filter fun g => (lo.filter fun o => narrow (saidOf o) (saidOf g)) == []).map .str)) :: (cg, .cell (some (.str g))) :: (it4, .listiter lf (k2 + 1)) :: (L, .ns nm_law [some (.ref p), some (.ref mn), some (.ref gl), none, none, none, some (.ref tk), none, none, none, none, none, none, none]) :: (tk, .list (tRefs ts)) :: (du, .list (dl.map .str)) :: (sd, .sdict (tKV ss) ep) :: (it, .rangeiter (0 + ((k + 1 : Nat) : Int)) ((gs.length : Int) - ((k + 1 : Nat) : Int)) 1) :: (gl, .list (gs.map .str)) :: (c0, .cell (some (.ref nm))) :: (c1, .cell (some (.ref sd))) :: (c2, .cell (some (.ref du))) :: (c3, .cell (some (.ref lf))) :: (85, .tab) :: (tLed ts ++ tLed ss)) (⟨rfl, rfl⟩) ?_ ?_)
        · rintro k3 xs x _ K hk3 ⟨hok, rfl⟩ ⟨rfl, rfl⟩
          rw [List.getElem?_map, Option.map_eq_some_iff] at hok
          (revert hok; refine PL.j1_1 ?_; rintro o hok rfl)
          have hol2 : o ∈ lo := List.mem_of_getElem? hok
          (refine PL.x1_1 (hfind o (hlg o hol2)) ?_; rintro u hu hug)
          (refine PL.x1_1 (hfind g (hlg g hgl2)) ?_; rintro w hw hwg)
          dsimp only [List.cons_append, List.nil_append]
          kpc_turns
          refine IT.one ?_
          kpc_turns
          refine SubOp.sdict (by keq_rows) ?_
          refine Get.sdict (by keq_rows) (a := .ref u.a) (List.mem_map.mpr (PL.m1_1 u hu (by rw [hug]))) ?_
          kpc_turns
          refine SubOp.sdict (by keq_rows) ?_
          refine Get.sdict (by keq_rows) (a := .ref w.a) (List.mem_map.mpr (PL.m1_1 w hw (by rw [hwg]))) ?_
          kpc_turns
          have hmu := menu_okS o (hgm o (hlg o hol2))
          have hmw := menu_okS g (hgm g (hlg g hgl2))
          refine cc_narrow hG hr' (a := u.own) (b := w.own) (by repeat (first | exact hmem u hu | apply List.mem_cons_of_mem)) (by repeat (first | exact hmem w hw | apply List.mem_cons_of_mem)) (by rw [hso u hu, hug]; exact hmu.2) (by rw [hso u hu, hug]; exact hmu.1) (by rw [hso w hw, hwg]; exact hmw.1) ?_
          rewrite [hso u hu, hug, hso w hw, hwg]
          kpc_turns
          refine ⟨fun hb => ?_, fun hb => ?_⟩
          · kpc_turns
            refine CEnd.mk ⟨?_, rfl⟩ (by dsimp only [List.cons_append, List.nil_append]; tlg_ne)
            exact (filt_yes (p := fun o => narrow (saidOf o) (saidOf g)) _ hok hb).symm
          · refine CEnd.mk ⟨?_, rfl⟩ (by dsimp only [List.cons_append, List.nil_append]; tlg_ne)
            exact (filt_no (p := fun o => narrow (saidOf o) (saidOf g)) _ hok hb).symm
        · rintro xs K ⟨rfl, rfl⟩
          rw [List.take_length]
          dsimp only [List.cons_append, List.nil_append]
          kpc_turns
          refine ⟨by decide, fun em => ?_⟩
          refine Op2.eqStrs (a := lo.filter fun o => narrow (saidOf o) (saidOf g)) (b := []) hr' (by kas_types) (show (em, AO.list []) ∈ _ by kas_types) ?_ rfl ?_
          · exact okS_of (fun x hx => hgm x (hlg x (List.mem_filter.mp hx).1))
          kpc_turns
          refine ⟨fun hb => ?_, fun hb => ?_⟩
          · kpc_turns
            refine CEnd.mk (PL.m1_1 _ ?_ rfl) (by dsimp only [List.cons_append, List.nil_append]; tlg_ne)
            exact (filt_yes (p := fun g => (lo.filter fun o => narrow (saidOf o) (saidOf g)) == []) _ hxk hb).symm
          · refine CEnd.mk (PL.m1_1 _ ?_ rfl) (by dsimp only [List.cons_append, List.nil_append]; tlg_ne)
            exact (filt_no (p := fun g => (lo.filter fun o => narrow (saidOf o) (saidOf g)) == []) _ hxk hb).symm
      · (rintro xs K; refine PL.j1_1 ?_; rintro cv rfl rfl)
        rw [List.take_length]
        dsimp only [List.cons_append, List.nil_append]
        rewrite [hlo]
        rewrite [show ((leftOf gs dl).filter fun g => ((leftOf gs dl).filter fun o => narrow (saidOf o) (saidOf g)) == []) = candOf gs dl from rfl]
        kpc_turns
        refine CC.min hr'.h (by kas_types) (cand_ne hgn hgm hdl hk) fun m hm hmin => ?_
        kpc_turns
        refine CC.appends (by keq_rows) (by have := hdl.len; omega) ?_
        kpc_turns
        refine hF1.next (PL.m1_1 (dl ++ [m]) (.succ hdl hm hmin) rfl) (by dsimp only [List.cons_append, List.nil_append]; tlg_ne)
  · (rintro K; refine PL.j1_1 ?_; rintro dl hdl rfl)
    dsimp only [List.cons_append, List.nil_append]
    kpc_turns
    have hP : tP ts = goP gs := by
      rw [← htg]
      show ts.map _ = (ts.map TR.g).map _
      rw [List.map_map]
      exact List.map_congr_left fun t ht => by rw [hto t ht]; rfl
    have hPn : ((goP gs).map (·.1)).Nodup := by rw [goP_names]; exact hgn
    have hPr := goP_rank hgm
    have htl : ts.length = (goP gs).length := by rw [← hP, List.length_map]
    have hgl2 : (goP gs).length = gs.length := List.length_map _
    rewrite [← htg]
    refine CC.sub (l' := (gl, .list ((ts.map TR.g).map .str)) :: (tk, .list (tRefs ts)) :: (tLed ts ++ ((L, .ns nm_law [some (.ref p), some (.ref mn), some (.ref gl), none, none, none, some (.ref tk), none, none, none, none, none, none, none]) :: (du, .list (dl.map .str)) :: (c0, .cell (some (.ref nm))) :: (c1, .cell (some (.ref sd))) :: (c2, .cell (some (.ref du))) :: (c3, .cell none) :: (85, .tab) :: []))) ?_ ?_
    · refine .trans (.keep (.keep (sub_swap (cs := (L, .ns nm_law [some (.ref p), some (.ref mn), some (.ref gl), none, none, none, some (.ref tk), none, none, none, none, none, none, none]) :: (du, .list (dl.map .str)) :: (c0, .cell (some (.ref nm))) :: (c1, .cell (some (.ref sd))) :: (c2, .cell (some (.ref du))) :: (c3, .cell none) :: (85, .tab) :: []) (S := tLed ss)))) ?_
      dsimp only [List.cons_append, List.nil_append]
      tlg_ne
    refine cc_run (J := JS (goP gs)) hG hg hr' (ts := ts) (by omega) (hfrs _ _) (fun t ht => ?_) (by rw [hP]; exact graph_closed hPn) (by rw [hP]; exact graph_noring hPn hPr) (by rw [htl]; exact run_law hPn hPr (by omega)) (by rw [hP]; exact JS.start hPn) fun g ys hp ord hJJ r => ?_
    · rw [hto t ht]
      exact menu_okS t.g (hgm _ (by rw [← htg]; exact List.mem_map.mpr (PL.m1_1 t ht rfl)))
    · have hod : ord = dl := DueP.unique hJJ.due hdl.to (by rw [hJJ.len, hdl.len, htl, hgl2])
      subst hod
      have hoo : okS ord = true := okS_of fun x hx => by
        have h1 := (hJJ.due.facts hPn).2 x hx
        rw [goP_names] at h1
        exact hgm x h1.1
      refine Tr.sub (l' := (r, .list (ord.map .str)) :: (L, .ns nm_law [some (.ref p), some (.ref mn), some (.ref gl), none, none, none, some (.ref tk), none, none, none, none, none, none, none]) :: (du, .list (ord.map .str)) :: (c0, .cell (some (.ref nm))) :: (c1, .cell (some (.ref sd))) :: (c2, .cell (some (.ref du))) :: (c3, .cell none) :: (85, .tab) :: []) ?_ ?_
      · refine .trans ?_ (show Sub ((r, .list (ord.map .str)) :: (tLed ts ++ ((L, .ns nm_law [some (.ref p), some (.ref mn), some (.ref gl), none, none, none, some (.ref tk), none, none, none, none, none, none, none]) :: (du, .list (ord.map .str)) :: (c0, .cell (some (.ref nm))) :: (c1, .cell (some (.ref sd))) :: (c2, .cell (some (.ref du))) :: (c3, .cell none) :: (85, .tab) :: []))) _ from .keep (.skip (.skip (.refl _))))
        exact .keep .left
      show EE G A env _ _ _ _
      kpc_turns
      refine Op2.eqStrs (a := ord) (b := ord) hr' (by kas_types) (by kas_types) hoo hoo ?_
      kpc_turns
      exact ⟨congrArg (fun b => AF.ret (.bool b)) (beq_self_eq_true ord), by kas_types⟩
end
section
variable {G : Gd} {A : Around} {l l' : Led} {X : Xp} {R : AV → Led → Prop}
theorem law3 (hG : Ok G) (hg : GlobOk G gtab) {n : Nat} {env : Env} {L c0 c1 c2 c3 p mn gl nm sd : Addr} {ep : Nat} {gs : List Str} {ss : List TR} (hE : EnvOk env nm_law L [(Str.ofString "left", c3), (Str.ofString "due", c2), (Str.ofString "said", c1), (Str.ofString "names", c0)]) (hr' : Room A (n + 9))
    (hfrs : ∀ vs l, FrsIn A ((L, .ns nm_law vs) :: l)) (hgn : gs.Nodup) (hgm : ∀ g ∈ gs, g ∈ menuL) (hgl : gs.length ≤ 6) (hsg : ss.map TR.g = gs) (hso : ∀ u ∈ ss, u.own = saidOf u.g) :
    BB G A env ((bodyOf (fdAt G.w.params 244)).drop 5) ((L, .ns nm_law [some (.ref p), some (.ref mn), some (.ref gl), none, none, none, none, none, none, none, none, none, none, none]) :: (sd, .sdict (tKV ss) ep) :: (mn, .list (menuL.map .str)) :: (gl, .list (gs.map .str)) :: (nm, .list (namesL.map .str)) :: (c0, .cell (some (.ref nm))) :: (c1, .cell (some (.ref sd))) :: (c2, .cell none) :: (c3, .cell none) :: (85, .tab) :: tLed ss) (fun fl l₂ => fl = .ret (.bool true) ∧ (85, AO.tab) ∈ l₂) noX := by
  refine BB.cons ?_
  refine SS.assignComp (cn := [(Str.ofString ".0", .local), (Str.ofString "glob", .local), (Str.ofString "_law_taken", .globalImplicit), (Str.ofString "names", .free)]) (cn' := [(Str.ofString ".0", .local), (Str.ofString "glob", .local), (Str.ofString "_law_taken", .globalImplicit), (Str.ofString "names", .cell)]) (cl2 := [(Str.ofString "names", c0)]) (ownk := []) (vals := [none, none, none, none]) hE ⟨rfl, rfl, rfl, rfl, rfl, by decide, by decide, (show ([Str.ofString "names"] : List Str).Nodup by decide), by decide, rfl, rfl⟩ (by kct_strs) ?_
  kpc_turns
  refine iter_list (by keq_rows) fun it => ?_
  refine (PL.m7_4 gs.length _ _ _ _ _ ((L, .ns nm_law [some (.ref p), some (.ref mn), some (.ref gl), none, none, none, none, none, none, none, none, none, none, none]) :: (sd, .sdict (tKV ss) ep) :: (mn, .list (menuL.map .str)) :: (nm, .list (namesL.map .str)) :: (c0, .cell (some (.ref nm))) :: (c1, .cell (some (.ref sd))) :: (c2, .cell none) :: (c3, .cell none) :: (85, .tab) :: (tLed [] ++ tLed ss)) (by
    have := walk_list (G := G) (A := A) (it := it) (p := gl) (xs := gs.map .str) hr'.h
    rw [List.length_map] at this
    exact this) trivial (by omega) (by
      show Sub (_ ++ ((L, .ns nm_law [some (.ref p), some (.ref mn), some (.ref gl), none, none, none, none, none, none, none, none, none, none, none]) :: (sd, .sdict (tKV ss) ep) :: (mn, .list (menuL.map .str)) :: (nm, .list (namesL.map .str)) :: (c0, .cell (some (.ref nm))) :: (c1, .cell (some (.ref sd))) :: (c2, .cell none) :: (c3, .cell none) :: (85, .tab) :: tLed ss)) _
      dsimp only [List.cons_append, List.nil_append]
      tlg_ne) (fun C acc own cenv hown hEc => ?_))
  obtain rfl : own = [] := by simpa using hown
  rw [List.nil_append] at hEc
  refine (PL.m1_2 (fun k xs K => ∃ vs, xs = tRefs vs.reverse ∧ vs.reverse.map TR.g = gs.take k ∧ (∀ u ∈ vs, u.own = saidOf u.g) ∧ K = (L, .ns nm_law [some (.ref p), some (.ref mn), some (.ref gl), none, none, none, none, none, none, none, none, none, none, none]) :: (sd, .sdict (tKV ss) ep) :: (mn, .list (menuL.map .str)) :: (nm, .list (namesL.map .str)) :: (c0, .cell (some (.ref nm))) :: (c1, .cell (some (.ref sd))) :: (c2, .cell none) :: (c3, .cell none) :: (85, .tab) :: (tLed vs ++ tLed ss)) ((PL.m1_3 ([]) rfl rfl ((fun u hu => by cases hu)) rfl)) ?_ ?_)
  · (rintro k xs a _ K hk ⟨hgk, rfl⟩; refine PL.j1_3 ?_; rintro vs rfl hvg hvo rfl)
    rw [List.getElem?_map, Option.map_eq_some_iff] at hgk
    (revert hgk; refine PL.j1_1 ?_; rintro g hgk rfl)
    obtain ⟨hg1, parts, hp1, hp2, hp3, hp4⟩ := menu_ok (hgm g (List.mem_of_getElem? hgk))
    dsimp only [List.cons_append, List.nil_append]
    kpc_turns
    refine IT.nil ?_
    refine brT (by decide) ?_
    kpc_turns
    refine CC.sub (l' := (85, .tab) :: (nm, .list (namesL.map .str)) :: (C, .ns [(Str.ofString ".0", .local), (Str.ofString "glob", .local), (Str.ofString "_law_taken", .globalImplicit), (Str.ofString "names", .cell)] [none, some (.str g), none, none]) :: (it, .listiter gl (k + 1)) :: (gl, .list (gs.map .str)) :: (acc, .list (tRefs vs.reverse)) :: (L, .ns nm_law [some (.ref p), some (.ref mn), some (.ref gl), none, none, none, none, none, none, none, none, none, none, none]) :: (sd, .sdict (tKV ss) ep) :: (mn, .list (menuL.map .str)) :: (c0, .cell (some (.ref nm))) :: (c1, .cell (some (.ref sd))) :: (c2, .cell none) :: (c3, .cell none) :: (tLed vs ++ tLed ss)) (by tlg_ne) ?_
    refine cc_taken hG hg (hr'.le (m := n + 3) (by omega)) hg1 hp1 hp2 hp3 (by decide) namesL_len fun r => ?_
    rewrite [hp4]
    refine CEnd.mk (K := (L, .ns nm_law [some (.ref p), some (.ref mn), some (.ref gl), none, none, none, none, none, none, none, none, none, none, none]) :: (sd, .sdict (tKV ss) ep) :: (mn, .list (menuL.map .str)) :: (nm, .list (namesL.map .str)) :: (c0, .cell (some (.ref nm))) :: (c1, .cell (some (.ref sd))) :: (c2, .cell none) :: (c3, .cell none) :: (85, .tab) :: (((r, .list ((saidOf g).map .str)) :: tLed vs) ++ tLed ss)) (PL.m1_3 (⟨g, r, saidOf g⟩ :: vs) ?_ ?_ ?_ rfl) (by dsimp only [List.cons_append, List.nil_append]; tlg_ne)
    · rw [List.reverse_cons]
      unfold tRefs
      rw [List.map_append]
      rfl
    · rw [List.reverse_cons, List.map_append, hvg, List.take_add_one, hgk]; rfl
    · intro u hu
      rcases List.mem_cons.mp hu with rfl | hu
      · rfl
      · exact hvo u hu
  · (rintro xs K; refine PL.j1_3 ?_; rintro vs rfl hvg hvo rfl)
    generalize acc = tk
    rw [List.take_length] at hvg
    dsimp only [List.cons_append, List.nil_append]
    refine StC.loc hE (by keq_rows) (by kat_tups) ?_
    kpc_turns
    refine SS.if ?_
    kpc_turns
    refine EE.listcomp (cn := [(Str.ofString ".0", .local), (Str.ofString "glob", .local), (Str.ofString "said", .free)]) (cn' := [(Str.ofString ".0", .local), (Str.ofString "glob", .local), (Str.ofString "said", .cell)]) (cl2 := [(Str.ofString "said", c1)]) (ownk := []) (vals := [none, none, none]) hE ⟨rfl, rfl, rfl, rfl, rfl, by decide, by decide, (show ([Str.ofString "said"] : List Str).Nodup by decide), by decide, rfl, rfl⟩ ?_
    kpc_turns
    refine iter_list (by keq_rows) fun it2 => ?_
    refine (PL.m7_4 gs.length _ _ _ _ _ ((L, .ns nm_law [some (.ref p), some (.ref mn), some (.ref gl), none, none, none, some (.ref tk), none, none, none, none, none, none, none]) :: (tk, .list (tRefs vs.reverse)) :: (sd, .sdict (tKV ss) ep) :: (c0, .cell (some (.ref nm))) :: (c1, .cell (some (.ref sd))) :: (c2, .cell none) :: (c3, .cell none) :: (85, .tab) :: (tLed vs ++ tLed ss)) (by
      have := walk_list (G := G) (A := A) (it := it2) (p := gl) (xs := gs.map .str) hr'.h
      rw [List.length_map] at this
      exact this) trivial (by omega) (by dsimp only [List.cons_append, List.nil_append]; tlg_ne) (fun C acc own cenv hown hEc => ?_))
    obtain rfl : own = [] := by simpa using hown
    rw [List.nil_append] at hEc
    refine (PL.m1_2 (fun k xs K => xs = tRefs (ss.take k) ∧ K = (L, .ns nm_law [some (.ref p), some (.ref mn), some (.ref gl), none, none, none, some (.ref tk), none, none, none, none, none, none, none]) :: (tk, .list (tRefs vs.reverse)) :: (sd, .sdict (tKV ss) ep) :: (c0, .cell (some (.ref nm))) :: (c1, .cell (some (.ref sd))) :: (c2, .cell none) :: (c3, .cell none) :: (85, .tab) :: (tLed vs ++ tLed ss)) (⟨rfl, rfl⟩) ?_ ?_)
    · rintro k xs a _ K hk ⟨hgk, rfl⟩ ⟨rfl, rfl⟩
      rw [List.getElem?_map, Option.map_eq_some_iff] at hgk
      (revert hgk; refine PL.j1_1 ?_; rintro g hgk rfl)
      obtain ⟨u, huk, hug⟩ : ∃ u, ss[k]? = some u ∧ u.g = g := by
        rw [← hsg, List.getElem?_map, Option.map_eq_some_iff] at hgk
        exact hgk
      dsimp only [List.cons_append, List.nil_append]
      kpc_turns
      refine IT.nil ?_
      refine brT (by decide) ?_
      kpc_turns
      refine SubOp.sdict (by keq_rows) ?_
      refine Get.sdict (by keq_rows) (a := .ref u.a) (List.mem_map.mpr (PL.m1_1 u (List.mem_of_getElem? huk) (by rw [hug]))) ?_
      refine CEnd.mk ⟨?_, rfl⟩ (by dsimp only [List.cons_append, List.nil_append]; tlg_ne)
      rw [List.take_add_one, huk]
      unfold tRefs
      rw [List.map_append]
      rfl
    · rintro xs K ⟨rfl, rfl⟩
      have hssl : ss.length = gs.length := by rw [← hsg, List.length_map]
      rewrite [← hssl, List.take_length]
      dsimp only [List.cons_append, List.nil_append]
      have hall : ∀ ws : List TR, (∀ u ∈ ws, u.own = saidOf u.g) → tOwn ws = (ws.map TR.g).map saidOf := fun ws hw => by
        unfold tOwn
        rw [List.map_map]
        exact List.map_congr_left hw
      have hvo2 : ∀ u ∈ vs.reverse, u.own = saidOf u.g := fun u hu => hvo u (List.mem_reverse.mp hu)
      have e1 := hall vs.reverse hvo2
      have e2 := hall ss hso
      rw [hvg] at e1
      rw [hsg] at e2
      have hokA : (gs.map saidOf).all okS = true := by
        rw [List.all_map, List.all_eq_true]
        exact fun g hgg => (menu_okS g (hgm g hgg)).1
      refine Op2.neLists (ts := vs.reverse) (us := ss) hr' (by kas_types) (by kas_types) (fun t ht => ?_) (fun t ht => ?_) (by rw [e1]; exact hokA) (by rw [e2]; exact hokA) ?_
      · have hm : (t.a, AO.list (t.own.map .str)) ∈ (tLed vs ++ tLed ss : Led) := List.mem_append_left _ (List.mem_map.mpr (PL.m1_1 t (List.mem_reverse.mp ht) rfl))
        repeat (first | exact hm | apply List.mem_cons_of_mem)
      · have hm : (t.a, AO.list (t.own.map .str)) ∈ (tLed vs ++ tLed ss : Led) := List.mem_append_right _ (List.mem_map.mpr (PL.m1_1 t ht rfl))
        repeat (first | exact hm | apply List.mem_cons_of_mem)
      rewrite [e1, e2]
      kpc_turns
      refine brF (by simp) ?_
      refine BB.nil ?_
      refine Then.next ?_
      obtain ⟨ts, hts⟩ : ∃ ts, ts = vs.reverse := ⟨_, rfl⟩
      refine Tr.sub (l' := (L, .ns nm_law [some (.ref p), some (.ref mn), some (.ref gl), none, none, none, some (.ref tk), none, none, none, none, none, none, none]) :: (tk, .list (tRefs vs.reverse)) :: (sd, .sdict (tKV ss) ep) :: (gl, .list (gs.map .str)) :: (c0, .cell (some (.ref nm))) :: (c1, .cell (some (.ref sd))) :: (c2, .cell none) :: (c3, .cell none) :: (85, .tab) :: (tLed vs ++ tLed ss)) (by tlg_ne) ?_
      refine Tr.sub (l' := (L, .ns nm_law [some (.ref p), some (.ref mn), some (.ref gl), none, none, none, some (.ref tk), none, none, none, none, none, none, none]) :: (tk, .list (tRefs ts)) :: (sd, .sdict (tKV ss) ep) :: (gl, .list (gs.map .str)) :: (c0, .cell (some (.ref nm))) :: (c1, .cell (some (.ref sd))) :: (c2, .cell none) :: (c3, .cell none) :: (85, .tab) :: (tLed ts ++ tLed ss)) ?_ (law4 hG hg hE hr' hfrs hgn hgm hgl hsg hso (by rw [hts]; exact hvg) (by rw [hts]; exact hvo2))
      rw [hts]
      refine .keep (.keep (.keep (.keep (.keep (.keep (.keep (.keep (.keep ?_))))))))
      exact .perm (((List.reverse_perm vs).map _).symm.append_right _)
end
theorem not_in_take {gs : List Str} (h : gs.Nodup) {k : Nat} {g : Str} (hk : gs[k]? = some g) : g ∉ gs.take k := fun hm => by
  obtain ⟨i, hi, e⟩ := List.mem_iff_getElem.mp hm
  rw [List.length_take] at hi
  rw [List.getElem_take] at e
  have hkl : k < gs.length := by
    rcases Nat.lt_or_ge k gs.length with q | q
    · exact q
    · rw [List.getElem?_eq_none q] at hk; cases hk
  rw [List.getElem?_eq_getElem hkl, Option.some.injEq] at hk
  have := (List.getElem_inj h).mp (e.trans hk.symm)
  omega
section
variable {G : Gd} {A : Around} {l l' : Led} {X : Xp} {R : AV → Led → Prop}
theorem law2 (hG : Ok G) (hg : GlobOk G gtab) {n : Nat} {env : Env} {L c0 c1 c2 c3 p mn gl nm : Addr} {gs : List Str} (hE : EnvOk env nm_law L [(Str.ofString "left", c3), (Str.ofString "due", c2), (Str.ofString "said", c1), (Str.ofString "names", c0)]) (hr' : Room A (n + 9))
    (hfrs : ∀ vs l, FrsIn A ((L, .ns nm_law vs) :: l)) (hgn : gs.Nodup) (hgm : ∀ g ∈ gs, g ∈ menuL) (hgl : gs.length ≤ 6) :
    BB G A env ((bodyOf (fdAt G.w.params 244)).drop 4) ((L, .ns nm_law [some (.ref p), some (.ref mn), some (.ref gl), none, none, none, none, none, none, none, none, none, none, none]) :: (mn, .list (menuL.map .str)) :: (gl, .list (gs.map .str)) :: (nm, .list (namesL.map .str)) :: (c0, .cell (some (.ref nm))) :: (c1, .cell none) :: (c2, .cell none) :: (c3, .cell none) :: (85, .tab) :: []) (fun fl l₂ => fl = .ret (.bool true) ∧ (85, AO.tab) ∈ l₂) noX := by
  refine BB.cons ?_
  refine SS.assignDictC hE (by kct_strs) ?_
  refine EE.dictcomp (cn := [(Str.ofString ".0", .local), (Str.ofString "glob", .cell), (Str.ofString "names", .free)]) (cn' := [(Str.ofString ".0", .local), (Str.ofString "glob", .cell), (Str.ofString "names", .cell)]) (cl2 := [(Str.ofString "names", c0)]) (ownk := [Str.ofString "glob"]) (vals := [none, none, none]) hg hE ⟨rfl, rfl, rfl, rfl, rfl, by decide, by decide, (show ([Str.ofString "glob", Str.ofString "names"] : List Str).Nodup by decide), by decide, rfl, rfl⟩ ?_
  kpc_turns
  refine iter_list (by keq_rows) fun it => ?_
  refine (PL.m7_4 gs.length _ _ _ _ _ ((L, .ns nm_law [some (.ref p), some (.ref mn), some (.ref gl), none, none, none, none, none, none, none, none, none, none, none]) :: (mn, .list (menuL.map .str)) :: (nm, .list (namesL.map .str)) :: (c0, .cell (some (.ref nm))) :: (c1, .cell none) :: (c2, .cell none) :: (c3, .cell none) :: (85, .tab) :: []) (by
    have := walk_list (G := G) (A := A) (it := it) (p := gl) (xs := gs.map .str) hr'.h
    rw [List.length_map] at this
    exact this) trivial (by omega) (by dsimp only [List.cons_append, List.nil_append]; tlg_ne) (fun C acc own cenv hown hEc => ?_))
  obtain ⟨cg, rfl⟩ : ∃ cg, own = [(Str.ofString "glob", cg)] := by
    match own, hown with
    | [(a, cg)], e => exact ⟨cg, by simp at e; rw [e]⟩
  rw [List.cons_append, List.nil_append] at hEc
  refine (PL.m1_2 (fun k kvs K => ∃ us cv, us.reverse.map TR.g = gs.take k ∧ (∀ u ∈ us, u.own = saidOf u.g) ∧ kvs = tKV us.reverse ∧ K = (cg, .cell cv) :: (L, .ns nm_law [some (.ref p), some (.ref mn), some (.ref gl), none, none, none, none, none, none, none, none, none, none, none]) :: (mn, .list (menuL.map .str)) :: (nm, .list (namesL.map .str)) :: (c0, .cell (some (.ref nm))) :: (c1, .cell none) :: (c2, .cell none) :: (c3, .cell none) :: (85, .tab) :: tLed us) ((PL.m2_3 ([]) none rfl ((fun u hu => by cases hu)) rfl rfl)) ?_ ?_)
  · (rintro k kvs ep _ _ K hkl ⟨hgk, rfl⟩; refine PL.j2_3 ?_; rintro us cv hug huo rfl rfl)
    rw [List.getElem?_map, Option.map_eq_some_iff] at hgk
    (revert hgk; refine PL.j1_1 ?_; rintro g hgk rfl)
    dsimp only [List.cons_append, List.nil_append]
    kpc_turns
    refine (PL.m1_1 g rfl ?_)
    refine EE.listcomp (cn := [(Str.ofString ".0", .local), (Str.ofString "name", .local), (Str.ofString "_law_said", .globalImplicit), (Str.ofString "glob", .free)]) (cn' := [(Str.ofString ".0", .local), (Str.ofString "name", .local), (Str.ofString "_law_said", .globalImplicit), (Str.ofString "glob", .cell)]) (cl2 := [(Str.ofString "glob", cg)]) (ownk := []) (vals := [none, none, none, none]) hEc ⟨rfl, rfl, rfl, rfl, rfl, by decide, by decide, (show ([Str.ofString "glob"] : List Str).Nodup by decide), by decide, rfl, rfl⟩ ?_
    kpc_turns
    refine iter_list (by keq_rows) fun it2 => ?_
    refine (PL.m7_4 namesL.length _ _ _ _ _ ((C, .ns [(Str.ofString ".0", .local), (Str.ofString "glob", .cell), (Str.ofString "names", .cell)] [none, none, none]) :: (acc, .sdict (tKV us.reverse) ep) :: (cg, .cell (some (.str g))) :: (it, .listiter gl (k + 1)) :: (gl, .list (gs.map .str)) :: (L, .ns nm_law [some (.ref p), some (.ref mn), some (.ref gl), none, none, none, none, none, none, none, none, none, none, none]) :: (mn, .list (menuL.map .str)) :: (c0, .cell (some (.ref nm))) :: (c1, .cell none) :: (c2, .cell none) :: (c3, .cell none) :: (85, .tab) :: tLed us) (by
      have := walk_list (G := G) (A := A) (it := it2) (p := nm) (xs := namesL.map .str) hr'.h
      rw [List.length_map] at this
      exact this) trivial (by decide) (by dsimp only [List.cons_append, List.nil_append]; tlg_ne) (fun C2 acc2 own2 cenv2 hown2 hEc2 => ?_))
    obtain rfl : own2 = [] := by simpa using hown2
    rw [List.nil_append] at hEc2
    refine (PL.m1_2 (fun k2 xs K => xs = ((namesL.take k2).filter (said g)).map .str ∧ K = (C, .ns [(Str.ofString ".0", .local), (Str.ofString "glob", .cell), (Str.ofString "names", .cell)] [none, none, none]) :: (acc, .sdict (tKV us.reverse) ep) :: (cg, .cell (some (.str g))) :: (it, .listiter gl (k + 1)) :: (gl, .list (gs.map .str)) :: (L, .ns nm_law [some (.ref p), some (.ref mn), some (.ref gl), none, none, none, none, none, none, none, none, none, none, none]) :: (mn, .list (menuL.map .str)) :: (c0, .cell (some (.ref nm))) :: (c1, .cell none) :: (c2, .cell none) :: (c3, .cell none) :: (85, .tab) :: tLed us) (⟨rfl, rfl⟩) ?_ ?_)
    · rintro k2 xs x _ K hk2 ⟨hxk, rfl⟩ ⟨rfl, rfl⟩
      rw [List.getElem?_map, Option.map_eq_some_iff] at hxk
      (revert hxk; refine PL.j1_1 ?_; rintro nm1 hxk rfl)
      dsimp only [List.cons_append, List.nil_append]
      kpc_turns
      refine IT.one ?_
      kpc_turns
      refine cc_said hG hg hr' (Nat.le_of_lt (namesL_len nm1 (List.mem_of_getElem? hxk))) ?_
      kpc_turns
      refine ⟨fun hb => ?_, fun hb => ?_⟩
      · kpc_turns
        refine CEnd.mk ⟨?_, rfl⟩ (by dsimp only [List.cons_append, List.nil_append]; tlg_ne)
        exact (filt_yes (p := said g) _ hxk hb).symm
      · refine CEnd.mk ⟨?_, rfl⟩ (by dsimp only [List.cons_append, List.nil_append]; tlg_ne)
        exact (filt_no (p := said g) _ hxk hb).symm
    · rintro xs K ⟨rfl, rfl⟩
      rw [List.take_length]
      dsimp only [List.cons_append, List.nil_append]
      have hnk : ¬ g ∈ (tKV us.reverse).map (·.1) := fun hm => by
        rw [List.map_map] at hm
        exact not_in_take hgn hgk (by rw [← hug]; exact hm)
      refine DEnd.mk (ep := ep) (K := (cg, .cell (some (.str g))) :: (L, .ns nm_law [some (.ref p), some (.ref mn), some (.ref gl), none, none, none, none, none, none, none, none, none, none, none]) :: (mn, .list (menuL.map .str)) :: (nm, .list (namesL.map .str)) :: (c0, .cell (some (.ref nm))) :: (c1, .cell none) :: (c2, .cell none) :: (c3, .cell none) :: (85, .tab) :: (acc2, .list ((saidOf g).map .str)) :: tLed us) (PL.m2_3 (⟨g, acc2, saidOf g⟩ :: us) _ ?_ ?_ ?_ rfl) (by dsimp only [List.cons_append, List.nil_append]; tlg_ne)
      · rw [List.reverse_cons, List.map_append, hug, List.take_add_one, hgk]; rfl
      · intro u hu
        rcases List.mem_cons.mp hu with rfl | hu
        · rfl
        · exact huo u hu
      · unfold storedAV
        rw [if_neg hnk, List.reverse_cons]
        unfold tKV
        rw [List.map_append]
        rfl
  · (rintro kvs ep K; refine PL.j2_3 ?_; rintro us cv hug huo rfl rfl)
    dsimp only [List.cons_append, List.nil_append]
    tb_rel
    refine Then.next ?_
    rw [List.take_length] at hug
    refine Tr.sub (l' := (L, .ns nm_law [some (.ref p), some (.ref mn), some (.ref gl), none, none, none, none, none, none, none, none, none, none, none]) :: (acc, .sdict (tKV us.reverse) ep) :: (mn, .list (menuL.map .str)) :: (gl, .list (gs.map .str)) :: (nm, .list (namesL.map .str)) :: (c0, .cell (some (.ref nm))) :: (c1, .cell (some (.ref acc))) :: (c2, .cell none) :: (c3, .cell none) :: (85, .tab) :: tLed us) (by tlg_ne) ?_
    refine Tr.sub (l' := (L, .ns nm_law [some (.ref p), some (.ref mn), some (.ref gl), none, none, none, none, none, none, none, none, none, none, none]) :: (acc, .sdict (tKV us.reverse) ep) :: (mn, .list (menuL.map .str)) :: (gl, .list (gs.map .str)) :: (nm, .list (namesL.map .str)) :: (c0, .cell (some (.ref nm))) :: (c1, .cell (some (.ref acc))) :: (c2, .cell none) :: (c3, .cell none) :: (85, .tab) :: tLed us.reverse) ?_ (law3 hG hg hE hr' hfrs hgn hgm hgl hug (fun u hu => huo u (List.mem_reverse.mp hu)))
    refine .keep (.keep (.keep (.keep (.keep (.keep (.keep (.keep (.keep (.keep ?_)))))))))
    exact .perm ((List.reverse_perm us).map _).symm
end
section
variable {G : Gd} {A : Around} {l l' : Led} {X : Xp} {R : AV → Led → Prop}
theorem bb_law (hG : Ok G) (hg : GlobOk G gtab) {n : Nat} {env : Env} {L c0 c1 c2 c3 p : Addr} {ns : List Int} (hE : EnvOk env nm_law L [(Str.ofString "left", c3), (Str.ofString "due", c2), (Str.ofString "said", c1), (Str.ofString "names", c0)]) (hr' : Room A (n + 9))
    (hfrs : ∀ vs l, FrsIn A ((L, .ns nm_law vs) :: l)) (hk : KList G p ns) (hz : ns.length < 1000000) :
    BB G A env (bodyOf (fdAt G.w.params 244)) ((L, .ns nm_law [some (.ref p), none, none, none, none, none, none, none, none, none, none, none, none, none]) :: (c0, .cell none) :: (c1, .cell none) :: (c2, .cell none) :: (c3, .cell none) :: (85, .tab) :: []) (fun fl l₂ => fl = .ret (.bool true) ∧ (85, AO.tab) ∈ l₂) noX := by
  refine BB.cons ?_
  kpc_turns
  refine ⟨by show 8 ≤ 1000; decide, fun mn => ?_⟩
  rewrite [show [AV.str (Str.ofString "*"), AV.str (Str.ofString "a*"), AV.str (Str.ofString "*b"), AV.str (Str.ofString "?"), AV.str (Str.ofString "a?"), AV.str (Str.ofString "?*"), AV.str (Str.ofString "ab"), AV.str (Str.ofString "[!b]*")] = menuL.map AV.str from rfl]
  kpc_turns
  refine ⟨by decide, fun gl => ?_⟩
  kpc_turns
  refine SS.forH ?_
  kpc_turns
  refine ⟨by show 2 ≤ 1000; decide, fun zo => ?_⟩
  kpc_turns
  refine EE.slice ?_
  refine EPt.no ?_
  refine EPt.yes ?_
  kpc_turns
  intro sl
  refine SubOp.klist hk ?_
  refine Get.klistSlice hk (by keq_rows) .none .int hz fun sq => ?_
  have hpu : pickAV (ns.map AV.int) none (some 4) = (ns.take 4).map .int := by
    rw [show (4 : Int) = ((4 : Nat) : Int) from rfl, pickAV_upto, List.map_take]
  rewrite [hpu]
  refine Op2.ladd (by kas_types) (by kas_types) (by simp; omega) fun sr => ?_
  rewrite [show [AV.int 0, AV.int 1] ++ (ns.take 4).map .int = ([0, 1] ++ ns.take 4).map .int from rfl]
  obtain ⟨xs, hxs, hxl⟩ : ∃ xs : List Int, [0, 1] ++ ns.take 4 = xs ∧ xs.length ≤ 6 := (PL.m1_1 _ rfl (by simp; omega))
  rewrite [hxs]
  refine iter_list Pick.head fun it => ?_
  refine ⟨xs.length, _, _, _, _, _, (L, .ns nm_law [some (.ref p), some (.ref mn), some (.ref gl), none, none, none, none, none, none, none, none, none, none, none]) :: (mn, .list (menuL.map .str)) :: (gl, .list (((xs.take 0).foldl (addG menuL) []).map .str)) :: (c0, .cell none) :: (c1, .cell none) :: (c2, .cell none) :: (c3, .cell none) :: (85, .tab) :: [], by
    have := walk_list (G := G) (A := A) (it := it) (p := sr) (xs := xs.map .int) hr'.h
    rw [List.length_map] at this
    exact this, trivial, ?_, fun k K => K = (L, .ns nm_law [some (.ref p), some (.ref mn), some (.ref gl), none, none, none, none, none, none, none, none, none, none, none]) :: (mn, .list (menuL.map .str)) :: (gl, .list (((xs.take k).foldl (addG menuL) []).map .str)) :: (c0, .cell none) :: (c1, .cell none) :: (c2, .cell none) :: (c3, .cell none) :: (85, .tab) :: [], rfl, ?_, ?_⟩
  · dsimp only [List.cons_append, List.nil_append]
    show Sub ((it, .listiter sr 0) :: (sr, .list (xs.map .int)) :: (L, .ns nm_law [some (.ref p), some (.ref mn), some (.ref gl), none, none, none, none, none, none, none, none, none, none, none]) :: (mn, .list (menuL.map .str)) :: (gl, .list []) :: (c0, .cell none) :: (c1, .cell none) :: (c2, .cell none) :: (c3, .cell none) :: (85, .tab) :: []) ((it, .listiter sr 0) :: (sr, .list (xs.map .int)) :: _)
    tlg_ne
  · rintro FF1 hF1 k _ _ K hkl ⟨hxk, rfl⟩ rfl
    rw [List.getElem?_map, Option.map_eq_some_iff] at hxk
    (revert hxk; refine PL.j1_1 ?_; rintro x hxk rfl)
    dsimp only [List.cons_append, List.nil_append]
    kpc_turns
    have hm8 : (menuL.map AV.str)[(x.fmod 8).toNat]? = some (.str (mAt menuL x)) := by
      rw [List.getElem?_map]
      exact congrArg (Option.map AV.str) (mAt_get (M := menuL) (by decide) x).1
    have hf0 : 0 ≤ x.fmod 8 := Int.fmod_nonneg_of_pos x (by decide)
    have hf8 : x.fmod 8 < 8 := Int.fmod_lt_of_pos x (by decide)
    have hgl : ((xs.take k).foldl (addG menuL) []).length ≤ 6 := by
      have := (globs_facts (M := menuL) (by decide) (xs.take k) [] List.nodup_nil (fun g hg => by cases hg)).2.2
      simp only [List.length_take, List.length_nil] at this
      omega
    have hst := foldl_take (addG menuL) [] hxk
    refine SS.if ?_
    kpc_turns
    refine Op2.mod (by decide) ?_
    kpc_turns
    refine Get.list (by keq_rows) hf0 (by omega) hm8 ?_
    kpc_turns
    refine Op2.notinStrsM (by kas_types) ?_
    kpc_turns
    refine ⟨fun hb => ?_, fun hb => ?_⟩
    · kpc_turns
      refine Op2.mod (by decide) ?_
      kpc_turns
      refine Get.list (by keq_rows) hf0 (by omega) hm8 ?_
      kpc_turns
      refine CC.appends (by keq_rows) (by omega) ?_
      kpc_turns
      refine hF1.next rfl ?_
      rewrite [hst, addG, if_pos hb]
      dsimp only [List.cons_append, List.nil_append]
      tlg_ne
    · kpc_turns
      refine hF1.next rfl ?_
      rewrite [hst, addG, if_neg (by rw [hb]; decide)]
      dsimp only [List.cons_append, List.nil_append]
      tlg_ne
  · rintro K rfl
    rw [List.take_length]
    obtain ⟨gs, hgs⟩ : ∃ gs, gs = globsOf menuL xs := ⟨_, rfl⟩
    obtain ⟨hgn, hgm, hgl⟩ : gs.Nodup ∧ (∀ g ∈ gs, g ∈ menuL) ∧ gs.length ≤ 6 := by
      (refine PL.x0_2 (globs_facts (M := menuL) (by decide) xs [] List.nodup_nil (fun g hg => by cases hg)) ?_; rintro a b c)
      rw [hgs]
      exact (PL.m0_2 a b (Nat.le_trans c (by simpa using hxl)))
    rewrite [show xs.foldl (addG menuL) [] = gs from hgs.symm]
    clear hgs
    dsimp only [List.cons_append, List.nil_append]
    kpc_turns
    refine ⟨by show 7 ≤ 1000; decide, fun nm => ?_⟩
    rewrite [show [AV.str (Str.ofString ""), AV.str (Str.ofString "a"), AV.str (Str.ofString "b"), AV.str (Str.ofString "aa"), AV.str (Str.ofString "ab"), AV.str (Str.ofString "ba"), AV.str (Str.ofString "bb")] = namesL.map AV.str from rfl]
    tb_rel
    refine Then.next ?_
    refine Tr.sub (l' := (L, .ns nm_law [some (.ref p), some (.ref mn), some (.ref gl), none, none, none, none, none, none, none, none, none, none, none]) :: (mn, .list (menuL.map .str)) :: (gl, .list (gs.map .str)) :: (nm, .list (namesL.map .str)) :: (c0, .cell (some (.ref nm))) :: (c1, .cell none) :: (c2, .cell none) :: (c3, .cell none) :: (85, .tab) :: []) (by tlg_ne) ?_
    exact law2 hG hg hE hr' hfrs hgn hgm hgl
end
end PL
end
section
open PySem PySem.W PyProof.Rows PySem.Calls
set_option maxRecDepth 100000
set_option maxHeartbeats 0
namespace PL
theorem ok_of {p : Program} {loose : List Str} {mean : ExcName → Option Value} {mg mb : Str → Option Value} {G : Gd} (X : (KK G.w.params).In G.t) (T : Top p loose mean mg mb G.t) : Ok G := by
  refine ⟨X, T.nolimit, ⟨mg, mb, T.g, T.b, T.builtins⟩, mg, T.g, ?_⟩
  obtain ⟨bm, ob, h1, h2, h3, h4, h5, h6⟩ := T.bmain
  refine ⟨bm, ob, h1, h2, fun e => ?_, h3, h4, h5, h6⟩
  obtain ⟨o, es, ep, ho, r⟩ := T.g
  subst e
  rw [h3] at ho
  cases ho
  rw [h6] at r
  exact absurd r.1 (by simp)
theorem look_mem {y : Str} {k : NameKind} {b : AV} {ns : List (Str × NameKind)} {vs : List (Option AV)} (h : Look y k b ns vs) : some b ∈ vs := by
  induction h with
  | here => exact .head _
  | there _ ih => exact .tail _ ih
theorem nsIs_one {x : Str} {k : NameKind} {ns : List (Str × NameKind)} {a : AV} {m : Str → Option Value} {v : Value} (hm : m x = some v) (hv : a.Is v) {vs : List (Option AV)} (hn : ∀ o ∈ vs, o = none) : NsIs ((x, k) :: ns) (some a :: vs) m := by
  intro y k' b hl
  cases hl with
  | here => exact ⟨v, hm, hv⟩
  | there h => exact absurd (hn _ (look_mem h)) (by simp)
theorem allIs_ints : ∀ {vs : List Value} {ns : List Int}, IntsAre vs ns → AllIs (ns.map .int) vs
  | _, _, .nil => .nil
  | _, _, .cons _ _ h => .cons ⟨_, rfl⟩ (allIs_ints h)
theorem start_rep {G : Gd} {s : Shared} {L p : Addr} {m : Str → Option Value} {o3 o2 o1 o0 : Obj} {v3 v2 v1 v0 : Option Value} (F : Fr G.t L s.heap m) (N : News G.t L s.heap [(L + 1 + 1 + 1 + 1, o3), (L + 1 + 1 + 1, o2), (L + 1 + 1, o1), (L + 1, o0), (85, tabObj #[])])
    (e3 : o3.data = .cell v3) (e2 : o2.data = .cell v2) (e1 : o1.data = .cell v1) (e0 : o0.data = .cell v0) (hm : m (Str.ofString "script") = some (.ref p)) (hL : 85 < L) (hg : s.gens = #[]) (ho : s.os = G.os) :
    Rep G s ((L, .ns nm_law [some (.ref p), none, none, none, none, none, none, none, none, none, none, none, none, none]) :: (L + 1, .cell none) :: (L + 1 + 1, .cell none) :: (L + 1 + 1 + 1, .cell none) :: (L + 1 + 1 + 1 + 1, .cell none) :: (85, .tab) :: []) := by
  refine ⟨F.keep, ?_, fun q hq => ?_, hg, ho⟩
  · have h : ∀ L : Nat, 85 < L → ([L, L + 1, L + 1 + 1, L + 1 + 1 + 1, L + 1 + 1 + 1 + 1, 85] : List Nat).Nodup := fun L hL => by
      simp only [List.nodup_cons, List.mem_cons, List.not_mem_nil, or_false, not_or, List.nodup_nil, and_true, not_false_iff]
      omega
    exact h L hL
  · simp only [List.mem_cons, List.not_mem_nil, or_false] at hq
    rcases hq with rfl | rfl | rfl | rfl | rfl | rfl
    · exact ⟨Heap.get?_none_of_le F.above, m, F.ns, nsIs_one (a := .ref p) hm rfl (by simp)⟩
    · obtain ⟨h1, _, h2⟩ := N _ (.tail _ (.tail _ (.tail _ (.head _))))
      exact ⟨h2, v0, ⟨o0, h1, e0⟩, trivial⟩
    · obtain ⟨h1, _, h2⟩ := N _ (.tail _ (.tail _ (.head _)))
      exact ⟨h2, v1, ⟨o1, h1, e1⟩, trivial⟩
    · obtain ⟨h1, _, h2⟩ := N _ (.tail _ (.head _))
      exact ⟨h2, v2, ⟨o2, h1, e2⟩, trivial⟩
    · obtain ⟨h1, _, h2⟩ := N _ (.head _)
      exact ⟨h2, v3, ⟨o3, h1, e3⟩, trivial⟩
    · obtain ⟨h1, _, h2⟩ := N _ (.tail _ (.tail _ (.tail _ (.tail _ (.head _)))))
      exact ⟨h2, #[], h1, trivial⟩
end PL
theorem PySem.Challenge.cw_ij0184_02_holds : PySem.Challenge.rw_ij0184_02.Holds := by
  refine HD.hd ?_
  k_go0
  rename_i w s₀ s₁ mg mb Gr Y fa o pm cd doc ho hcd hg X V T B TE TW ns hs hlay0 hL1 hr1 hl2 as8 as7 p vs as4 hL ra w1 r0 hI hr hc1 hc2 hD h₁ tk₁ o3 o2 o1 o0 l2 l1 l0a r0a X0 X' T' K' F' N' l0
  refine wpAny_mono (Q := fun f s' => f = .ret (.bool true) ∧ ∃ l', PL.Rep ⟨PySem.Challenge.rw_ij0184_02.row.prog, w, ghostOf s₁.heap [(89, 85)], s₁.os⟩ s' l' ∧ (85, PL.AO.tab) ∈ l') (E := fun _ _ => False) ?_ (fun f s' hf => ?_) (fun e s' he => he.elim)
  · have hG : PL.Ok ⟨PySem.Challenge.rw_ij0184_02.row.prog, w, ghostOf s₁.heap [(89, 85)], s₁.os⟩ := PL.ok_of X' T'
    have N0 := PL.start_rep (G := ⟨PySem.Challenge.rw_ij0184_02.row.prog, w, ghostOf s₁.heap [(89, 85)], s₁.os⟩) (s := { heap := h₁, gens := s₁.gens, drawn := s₁.drawn, toks := tk₁, os := s₁.os }) (p := p) F' N' l2 l1 l0a r0a rfl l0 hg rfl
    refine wpAny_mono (PL.bb_law (G := ⟨PySem.Challenge.rw_ij0184_02.row.prog, w, ghostOf s₁.heap [(89, 85)], s₁.os⟩) (n := 0) (ns := ns) hG (PL.gtab_ok hG) ⟨rfl, rfl, by decide, rfl, rfl, (show ([Str.ofString "left", Str.ofString "due", Str.ofString "said", Str.ofString "names"] : List Str).Nodup by decide), rfl, rfl, by decide⟩ ⟨rfl, (by show 1 + claimMargin + 1 + (0 + 9) < recursionLimit; decide), (by show 4 + 3 + 3 * (0 + 9) + 200 < cLine; decide)⟩ (fun vs l => ⟨[_], rfl, fun e he => ?_⟩) ⟨⟨vs.toArray, lifted, by simpa using PL.allIs_ints hI⟩⟩ (by omega) _ N0) (fun v s' hv => ?_) (fun e s' z => ?_)
    · simp only [List.mem_singleton] at he
      subst he
      exact ⟨(show ScopeKind.function ≠ ScopeKind.module by decide), _, _, _, rfl, .head _⟩
    · obtain ⟨b, l', hb, N, rfl, hm⟩ := hv
      obtain ⟨u, rfl, hu⟩ := hb
      cases hu
      exact ⟨rfl, l', N, hm⟩
    · obtain ⟨a, l', _, _, hx⟩ := z
      exact hx.elim
  · obtain ⟨rfl, l', N, hm⟩ := hf
    refine ⟨⟨.inl ⟨.bool true, .bool true, [], rfl, fun _ => rfl, ?_, ?_, fun _ => ⟨List.nodup_nil, fun a ha => by cases ha⟩⟩, N.keep, N.os, N.gens⟩, ?_, trivial⟩
    · exact .bool _
    · first
        | (with_unfolding_all rfl)
        | (show (WShape.has _ _ _ && WTm.holds _ _ _) = true; simp [WShape.has, WTm.holds, WTm.eval])
    · obtain ⟨ps, h1, _⟩ := N.atM hm
      exact ⟨ps, h1⟩
end

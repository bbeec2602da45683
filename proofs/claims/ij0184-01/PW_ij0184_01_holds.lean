import PyProof.Rows.All
import KE.KLam
import Wide.FinOn
import OpenK.AllK
import Wide.All
import Lean
import PySem.Challenge.RW_ij0184_01
set_option Elab.async false
set_option compiler.extract_closed false
set_option linter.unusedVariables false
section
set_option autoImplicit false
namespace PL
universe u1 u2 u3 u4 u5 u6 u7 u8
theorem m0_2  {P0 P1 P2 : Prop}  (h0 : P0) (h1 : P1) (h2 : P2) : P0 ∧ P1 ∧ P2 := ⟨h0, h1, h2⟩
theorem x0_2  {P0 P1 P2 : Prop} {g : Prop} (h : P0 ∧ P1 ∧ P2) (k : P0 → P1 → P2 → g) : g := k  h.1 h.2.1 h.2.2
theorem j0_2  {P0 P1 P2 : Prop} {g : Prop} (k : P0 → P1 → P2 → g) (h : P0 ∧ P1 ∧ P2) : g := x0_2 h k
theorem m0_3  {P0 P1 P2 P3 : Prop}  (h0 : P0) (h1 : P1) (h2 : P2) (h3 : P3) : P0 ∧ P1 ∧ P2 ∧ P3 := ⟨h0, h1, h2, h3⟩
theorem x0_3  {P0 P1 P2 P3 : Prop} {g : Prop} (h : P0 ∧ P1 ∧ P2 ∧ P3) (k : P0 → P1 → P2 → P3 → g) : g := k  h.1 h.2.1 h.2.2.1 h.2.2.2
theorem m0_4  {P0 P1 P2 P3 P4 : Prop}  (h0 : P0) (h1 : P1) (h2 : P2) (h3 : P3) (h4 : P4) : P0 ∧ P1 ∧ P2 ∧ P3 ∧ P4 := ⟨h0, h1, h2, h3, h4⟩
theorem m0_5  {P0 P1 P2 P3 P4 P5 : Prop}  (h0 : P0) (h1 : P1) (h2 : P2) (h3 : P3) (h4 : P4) (h5 : P5) : P0 ∧ P1 ∧ P2 ∧ P3 ∧ P4 ∧ P5 := ⟨h0, h1, h2, h3, h4, h5⟩
theorem x0_5  {P0 P1 P2 P3 P4 P5 : Prop} {g : Prop} (h : P0 ∧ P1 ∧ P2 ∧ P3 ∧ P4 ∧ P5) (k : P0 → P1 → P2 → P3 → P4 → P5 → g) : g := k  h.1 h.2.1 h.2.2.1 h.2.2.2.1 h.2.2.2.2.1 h.2.2.2.2.2
theorem j0_5  {P0 P1 P2 P3 P4 P5 : Prop} {g : Prop} (k : P0 → P1 → P2 → P3 → P4 → P5 → g) (h : P0 ∧ P1 ∧ P2 ∧ P3 ∧ P4 ∧ P5) : g := x0_5 h k
theorem m1_1 {α1 : Sort u1} {P0 P1 : α1 → Prop} (v1 : α1) (h0 : P0 v1) (h1 : P1 v1) : ∃ v1, P0 v1 ∧ P1 v1 := ⟨v1, h0, h1⟩
theorem x1_1 {α1 : Sort u1} {P0 P1 : α1 → Prop} {g : Prop} (h : ∃ v1, P0 v1 ∧ P1 v1) (k : ∀ (v1 : α1), P0 v1 → P1 v1 → g) : g := h.elim fun v1 h => k v1 h.1 h.2
theorem j1_1 {α1 : Sort u1} {P0 P1 : α1 → Prop} {g : Prop} (k : ∀ (v1 : α1), P0 v1 → P1 v1 → g) (h : ∃ v1, P0 v1 ∧ P1 v1) : g := x1_1 h k
theorem m1_2 {α1 : Sort u1} {P0 P1 P2 : α1 → Prop} (v1 : α1) (h0 : P0 v1) (h1 : P1 v1) (h2 : P2 v1) : ∃ v1, P0 v1 ∧ P1 v1 ∧ P2 v1 := ⟨v1, h0, h1, h2⟩
theorem x1_2 {α1 : Sort u1} {P0 P1 P2 : α1 → Prop} {g : Prop} (h : ∃ v1, P0 v1 ∧ P1 v1 ∧ P2 v1) (k : ∀ (v1 : α1), P0 v1 → P1 v1 → P2 v1 → g) : g := h.elim fun v1 h => k v1 h.1 h.2.1 h.2.2
theorem j1_2 {α1 : Sort u1} {P0 P1 P2 : α1 → Prop} {g : Prop} (k : ∀ (v1 : α1), P0 v1 → P1 v1 → P2 v1 → g) (h : ∃ v1, P0 v1 ∧ P1 v1 ∧ P2 v1) : g := x1_2 h k
theorem m1_3 {α1 : Sort u1} {P0 P1 P2 P3 : α1 → Prop} (v1 : α1) (h0 : P0 v1) (h1 : P1 v1) (h2 : P2 v1) (h3 : P3 v1) : ∃ v1, P0 v1 ∧ P1 v1 ∧ P2 v1 ∧ P3 v1 := ⟨v1, h0, h1, h2, h3⟩
theorem x1_3 {α1 : Sort u1} {P0 P1 P2 P3 : α1 → Prop} {g : Prop} (h : ∃ v1, P0 v1 ∧ P1 v1 ∧ P2 v1 ∧ P3 v1) (k : ∀ (v1 : α1), P0 v1 → P1 v1 → P2 v1 → P3 v1 → g) : g := h.elim fun v1 h => k v1 h.1 h.2.1 h.2.2.1 h.2.2.2
theorem j1_3 {α1 : Sort u1} {P0 P1 P2 P3 : α1 → Prop} {g : Prop} (k : ∀ (v1 : α1), P0 v1 → P1 v1 → P2 v1 → P3 v1 → g) (h : ∃ v1, P0 v1 ∧ P1 v1 ∧ P2 v1 ∧ P3 v1) : g := x1_3 h k
theorem m1_4 {α1 : Sort u1} {P0 P1 P2 P3 P4 : α1 → Prop} (v1 : α1) (h0 : P0 v1) (h1 : P1 v1) (h2 : P2 v1) (h3 : P3 v1) (h4 : P4 v1) : ∃ v1, P0 v1 ∧ P1 v1 ∧ P2 v1 ∧ P3 v1 ∧ P4 v1 := ⟨v1, h0, h1, h2, h3, h4⟩
theorem x1_4 {α1 : Sort u1} {P0 P1 P2 P3 P4 : α1 → Prop} {g : Prop} (h : ∃ v1, P0 v1 ∧ P1 v1 ∧ P2 v1 ∧ P3 v1 ∧ P4 v1) (k : ∀ (v1 : α1), P0 v1 → P1 v1 → P2 v1 → P3 v1 → P4 v1 → g) : g := h.elim fun v1 h => k v1 h.1 h.2.1 h.2.2.1 h.2.2.2.1 h.2.2.2.2
theorem j1_4 {α1 : Sort u1} {P0 P1 P2 P3 P4 : α1 → Prop} {g : Prop} (k : ∀ (v1 : α1), P0 v1 → P1 v1 → P2 v1 → P3 v1 → P4 v1 → g) (h : ∃ v1, P0 v1 ∧ P1 v1 ∧ P2 v1 ∧ P3 v1 ∧ P4 v1) : g := x1_4 h k
theorem m2_0 {α1 : Sort u1} {α2 : Sort u2} {P0 : α1 → α2 → Prop} (v1 : α1) (v2 : α2) (h0 : P0 v1 v2) : ∃ v1 v2, P0 v1 v2 := ⟨v1, v2, h0⟩
theorem x2_0 {α1 : Sort u1} {α2 : Sort u2} {P0 : α1 → α2 → Prop} {g : Prop} (h : ∃ v1 v2, P0 v1 v2) (k : ∀ (v1 : α1) (v2 : α2), P0 v1 v2 → g) : g := h.elim fun v1 h => h.elim fun v2 h => k v1 v2 h
theorem m2_1 {α1 : Sort u1} {α2 : Sort u2} {P0 P1 : α1 → α2 → Prop} (v1 : α1) (v2 : α2) (h0 : P0 v1 v2) (h1 : P1 v1 v2) : ∃ v1 v2, P0 v1 v2 ∧ P1 v1 v2 := ⟨v1, v2, h0, h1⟩
theorem x2_1 {α1 : Sort u1} {α2 : Sort u2} {P0 P1 : α1 → α2 → Prop} {g : Prop} (h : ∃ v1 v2, P0 v1 v2 ∧ P1 v1 v2) (k : ∀ (v1 : α1) (v2 : α2), P0 v1 v2 → P1 v1 v2 → g) : g := h.elim fun v1 h => h.elim fun v2 h => k v1 v2 h.1 h.2
theorem j2_1 {α1 : Sort u1} {α2 : Sort u2} {P0 P1 : α1 → α2 → Prop} {g : Prop} (k : ∀ (v1 : α1) (v2 : α2), P0 v1 v2 → P1 v1 v2 → g) (h : ∃ v1 v2, P0 v1 v2 ∧ P1 v1 v2) : g := x2_1 h k
theorem m2_2 {α1 : Sort u1} {α2 : Sort u2} {P0 P1 P2 : α1 → α2 → Prop} (v1 : α1) (v2 : α2) (h0 : P0 v1 v2) (h1 : P1 v1 v2) (h2 : P2 v1 v2) : ∃ v1 v2, P0 v1 v2 ∧ P1 v1 v2 ∧ P2 v1 v2 := ⟨v1, v2, h0, h1, h2⟩
theorem x2_2 {α1 : Sort u1} {α2 : Sort u2} {P0 P1 P2 : α1 → α2 → Prop} {g : Prop} (h : ∃ v1 v2, P0 v1 v2 ∧ P1 v1 v2 ∧ P2 v1 v2) (k : ∀ (v1 : α1) (v2 : α2), P0 v1 v2 → P1 v1 v2 → P2 v1 v2 → g) : g := h.elim fun v1 h => h.elim fun v2 h => k v1 v2 h.1 h.2.1 h.2.2
theorem j2_2 {α1 : Sort u1} {α2 : Sort u2} {P0 P1 P2 : α1 → α2 → Prop} {g : Prop} (k : ∀ (v1 : α1) (v2 : α2), P0 v1 v2 → P1 v1 v2 → P2 v1 v2 → g) (h : ∃ v1 v2, P0 v1 v2 ∧ P1 v1 v2 ∧ P2 v1 v2) : g := x2_2 h k
theorem m2_3 {α1 : Sort u1} {α2 : Sort u2} {P0 P1 P2 P3 : α1 → α2 → Prop} (v1 : α1) (v2 : α2) (h0 : P0 v1 v2) (h1 : P1 v1 v2) (h2 : P2 v1 v2) (h3 : P3 v1 v2) : ∃ v1 v2, P0 v1 v2 ∧ P1 v1 v2 ∧ P2 v1 v2 ∧ P3 v1 v2 := ⟨v1, v2, h0, h1, h2, h3⟩
theorem x2_3 {α1 : Sort u1} {α2 : Sort u2} {P0 P1 P2 P3 : α1 → α2 → Prop} {g : Prop} (h : ∃ v1 v2, P0 v1 v2 ∧ P1 v1 v2 ∧ P2 v1 v2 ∧ P3 v1 v2) (k : ∀ (v1 : α1) (v2 : α2), P0 v1 v2 → P1 v1 v2 → P2 v1 v2 → P3 v1 v2 → g) : g := h.elim fun v1 h => h.elim fun v2 h => k v1 v2 h.1 h.2.1 h.2.2.1 h.2.2.2
theorem j2_3 {α1 : Sort u1} {α2 : Sort u2} {P0 P1 P2 P3 : α1 → α2 → Prop} {g : Prop} (k : ∀ (v1 : α1) (v2 : α2), P0 v1 v2 → P1 v1 v2 → P2 v1 v2 → P3 v1 v2 → g) (h : ∃ v1 v2, P0 v1 v2 ∧ P1 v1 v2 ∧ P2 v1 v2 ∧ P3 v1 v2) : g := x2_3 h k
theorem m2_4 {α1 : Sort u1} {α2 : Sort u2} {P0 P1 P2 P3 P4 : α1 → α2 → Prop} (v1 : α1) (v2 : α2) (h0 : P0 v1 v2) (h1 : P1 v1 v2) (h2 : P2 v1 v2) (h3 : P3 v1 v2) (h4 : P4 v1 v2) : ∃ v1 v2, P0 v1 v2 ∧ P1 v1 v2 ∧ P2 v1 v2 ∧ P3 v1 v2 ∧ P4 v1 v2 := ⟨v1, v2, h0, h1, h2, h3, h4⟩
theorem x2_4 {α1 : Sort u1} {α2 : Sort u2} {P0 P1 P2 P3 P4 : α1 → α2 → Prop} {g : Prop} (h : ∃ v1 v2, P0 v1 v2 ∧ P1 v1 v2 ∧ P2 v1 v2 ∧ P3 v1 v2 ∧ P4 v1 v2) (k : ∀ (v1 : α1) (v2 : α2), P0 v1 v2 → P1 v1 v2 → P2 v1 v2 → P3 v1 v2 → P4 v1 v2 → g) : g := h.elim fun v1 h => h.elim fun v2 h => k v1 v2 h.1 h.2.1 h.2.2.1 h.2.2.2.1 h.2.2.2.2
theorem j2_4 {α1 : Sort u1} {α2 : Sort u2} {P0 P1 P2 P3 P4 : α1 → α2 → Prop} {g : Prop} (k : ∀ (v1 : α1) (v2 : α2), P0 v1 v2 → P1 v1 v2 → P2 v1 v2 → P3 v1 v2 → P4 v1 v2 → g) (h : ∃ v1 v2, P0 v1 v2 ∧ P1 v1 v2 ∧ P2 v1 v2 ∧ P3 v1 v2 ∧ P4 v1 v2) : g := x2_4 h k
theorem m2_5 {α1 : Sort u1} {α2 : Sort u2} {P0 P1 P2 P3 P4 P5 : α1 → α2 → Prop} (v1 : α1) (v2 : α2) (h0 : P0 v1 v2) (h1 : P1 v1 v2) (h2 : P2 v1 v2) (h3 : P3 v1 v2) (h4 : P4 v1 v2) (h5 : P5 v1 v2) : ∃ v1 v2, P0 v1 v2 ∧ P1 v1 v2 ∧ P2 v1 v2 ∧ P3 v1 v2 ∧ P4 v1 v2 ∧ P5 v1 v2 := ⟨v1, v2, h0, h1, h2, h3, h4, h5⟩
theorem x2_5 {α1 : Sort u1} {α2 : Sort u2} {P0 P1 P2 P3 P4 P5 : α1 → α2 → Prop} {g : Prop} (h : ∃ v1 v2, P0 v1 v2 ∧ P1 v1 v2 ∧ P2 v1 v2 ∧ P3 v1 v2 ∧ P4 v1 v2 ∧ P5 v1 v2) (k : ∀ (v1 : α1) (v2 : α2), P0 v1 v2 → P1 v1 v2 → P2 v1 v2 → P3 v1 v2 → P4 v1 v2 → P5 v1 v2 → g) : g := h.elim fun v1 h => h.elim fun v2 h => k v1 v2 h.1 h.2.1 h.2.2.1 h.2.2.2.1 h.2.2.2.2.1 h.2.2.2.2.2
theorem j2_5 {α1 : Sort u1} {α2 : Sort u2} {P0 P1 P2 P3 P4 P5 : α1 → α2 → Prop} {g : Prop} (k : ∀ (v1 : α1) (v2 : α2), P0 v1 v2 → P1 v1 v2 → P2 v1 v2 → P3 v1 v2 → P4 v1 v2 → P5 v1 v2 → g) (h : ∃ v1 v2, P0 v1 v2 ∧ P1 v1 v2 ∧ P2 v1 v2 ∧ P3 v1 v2 ∧ P4 v1 v2 ∧ P5 v1 v2) : g := x2_5 h k
theorem m2_7 {α1 : Sort u1} {α2 : Sort u2} {P0 P1 P2 P3 P4 P5 P6 P7 : α1 → α2 → Prop} (v1 : α1) (v2 : α2) (h0 : P0 v1 v2) (h1 : P1 v1 v2) (h2 : P2 v1 v2) (h3 : P3 v1 v2) (h4 : P4 v1 v2) (h5 : P5 v1 v2) (h6 : P6 v1 v2) (h7 : P7 v1 v2) : ∃ v1 v2, P0 v1 v2 ∧ P1 v1 v2 ∧ P2 v1 v2 ∧ P3 v1 v2 ∧ P4 v1 v2 ∧ P5 v1 v2 ∧ P6 v1 v2 ∧ P7 v1 v2 := ⟨v1, v2, h0, h1, h2, h3, h4, h5, h6, h7⟩
theorem m3_0 {α1 : Sort u1} {α2 : Sort u2} {α3 : Sort u3} {P0 : α1 → α2 → α3 → Prop} (v1 : α1) (v2 : α2) (v3 : α3) (h0 : P0 v1 v2 v3) : ∃ v1 v2 v3, P0 v1 v2 v3 := ⟨v1, v2, v3, h0⟩
theorem x3_0 {α1 : Sort u1} {α2 : Sort u2} {α3 : Sort u3} {P0 : α1 → α2 → α3 → Prop} {g : Prop} (h : ∃ v1 v2 v3, P0 v1 v2 v3) (k : ∀ (v1 : α1) (v2 : α2) (v3 : α3), P0 v1 v2 v3 → g) : g := h.elim fun v1 h => h.elim fun v2 h => h.elim fun v3 h => k v1 v2 v3 h
theorem j3_0 {α1 : Sort u1} {α2 : Sort u2} {α3 : Sort u3} {P0 : α1 → α2 → α3 → Prop} {g : Prop} (k : ∀ (v1 : α1) (v2 : α2) (v3 : α3), P0 v1 v2 v3 → g) (h : ∃ v1 v2 v3, P0 v1 v2 v3) : g := x3_0 h k
theorem m3_1 {α1 : Sort u1} {α2 : Sort u2} {α3 : Sort u3} {P0 P1 : α1 → α2 → α3 → Prop} (v1 : α1) (v2 : α2) (v3 : α3) (h0 : P0 v1 v2 v3) (h1 : P1 v1 v2 v3) : ∃ v1 v2 v3, P0 v1 v2 v3 ∧ P1 v1 v2 v3 := ⟨v1, v2, v3, h0, h1⟩
theorem x3_1 {α1 : Sort u1} {α2 : Sort u2} {α3 : Sort u3} {P0 P1 : α1 → α2 → α3 → Prop} {g : Prop} (h : ∃ v1 v2 v3, P0 v1 v2 v3 ∧ P1 v1 v2 v3) (k : ∀ (v1 : α1) (v2 : α2) (v3 : α3), P0 v1 v2 v3 → P1 v1 v2 v3 → g) : g := h.elim fun v1 h => h.elim fun v2 h => h.elim fun v3 h => k v1 v2 v3 h.1 h.2
theorem j3_1 {α1 : Sort u1} {α2 : Sort u2} {α3 : Sort u3} {P0 P1 : α1 → α2 → α3 → Prop} {g : Prop} (k : ∀ (v1 : α1) (v2 : α2) (v3 : α3), P0 v1 v2 v3 → P1 v1 v2 v3 → g) (h : ∃ v1 v2 v3, P0 v1 v2 v3 ∧ P1 v1 v2 v3) : g := x3_1 h k
theorem m3_2 {α1 : Sort u1} {α2 : Sort u2} {α3 : Sort u3} {P0 P1 P2 : α1 → α2 → α3 → Prop} (v1 : α1) (v2 : α2) (v3 : α3) (h0 : P0 v1 v2 v3) (h1 : P1 v1 v2 v3) (h2 : P2 v1 v2 v3) : ∃ v1 v2 v3, P0 v1 v2 v3 ∧ P1 v1 v2 v3 ∧ P2 v1 v2 v3 := ⟨v1, v2, v3, h0, h1, h2⟩
theorem x3_2 {α1 : Sort u1} {α2 : Sort u2} {α3 : Sort u3} {P0 P1 P2 : α1 → α2 → α3 → Prop} {g : Prop} (h : ∃ v1 v2 v3, P0 v1 v2 v3 ∧ P1 v1 v2 v3 ∧ P2 v1 v2 v3) (k : ∀ (v1 : α1) (v2 : α2) (v3 : α3), P0 v1 v2 v3 → P1 v1 v2 v3 → P2 v1 v2 v3 → g) : g := h.elim fun v1 h => h.elim fun v2 h => h.elim fun v3 h => k v1 v2 v3 h.1 h.2.1 h.2.2
theorem j3_2 {α1 : Sort u1} {α2 : Sort u2} {α3 : Sort u3} {P0 P1 P2 : α1 → α2 → α3 → Prop} {g : Prop} (k : ∀ (v1 : α1) (v2 : α2) (v3 : α3), P0 v1 v2 v3 → P1 v1 v2 v3 → P2 v1 v2 v3 → g) (h : ∃ v1 v2 v3, P0 v1 v2 v3 ∧ P1 v1 v2 v3 ∧ P2 v1 v2 v3) : g := x3_2 h k
theorem m3_3 {α1 : Sort u1} {α2 : Sort u2} {α3 : Sort u3} {P0 P1 P2 P3 : α1 → α2 → α3 → Prop} (v1 : α1) (v2 : α2) (v3 : α3) (h0 : P0 v1 v2 v3) (h1 : P1 v1 v2 v3) (h2 : P2 v1 v2 v3) (h3 : P3 v1 v2 v3) : ∃ v1 v2 v3, P0 v1 v2 v3 ∧ P1 v1 v2 v3 ∧ P2 v1 v2 v3 ∧ P3 v1 v2 v3 := ⟨v1, v2, v3, h0, h1, h2, h3⟩
theorem x3_3 {α1 : Sort u1} {α2 : Sort u2} {α3 : Sort u3} {P0 P1 P2 P3 : α1 → α2 → α3 → Prop} {g : Prop} (h : ∃ v1 v2 v3, P0 v1 v2 v3 ∧ P1 v1 v2 v3 ∧ P2 v1 v2 v3 ∧ P3 v1 v2 v3) (k : ∀ (v1 : α1) (v2 : α2) (v3 : α3), P0 v1 v2 v3 → P1 v1 v2 v3 → P2 v1 v2 v3 → P3 v1 v2 v3 → g) : g := h.elim fun v1 h => h.elim fun v2 h => h.elim fun v3 h => k v1 v2 v3 h.1 h.2.1 h.2.2.1 h.2.2.2
theorem j3_3 {α1 : Sort u1} {α2 : Sort u2} {α3 : Sort u3} {P0 P1 P2 P3 : α1 → α2 → α3 → Prop} {g : Prop} (k : ∀ (v1 : α1) (v2 : α2) (v3 : α3), P0 v1 v2 v3 → P1 v1 v2 v3 → P2 v1 v2 v3 → P3 v1 v2 v3 → g) (h : ∃ v1 v2 v3, P0 v1 v2 v3 ∧ P1 v1 v2 v3 ∧ P2 v1 v2 v3 ∧ P3 v1 v2 v3) : g := x3_3 h k
theorem m3_4 {α1 : Sort u1} {α2 : Sort u2} {α3 : Sort u3} {P0 P1 P2 P3 P4 : α1 → α2 → α3 → Prop} (v1 : α1) (v2 : α2) (v3 : α3) (h0 : P0 v1 v2 v3) (h1 : P1 v1 v2 v3) (h2 : P2 v1 v2 v3) (h3 : P3 v1 v2 v3) (h4 : P4 v1 v2 v3) : ∃ v1 v2 v3, P0 v1 v2 v3 ∧ P1 v1 v2 v3 ∧ P2 v1 v2 v3 ∧ P3 v1 v2 v3 ∧ P4 v1 v2 v3 := ⟨v1, v2, v3, h0, h1, h2, h3, h4⟩
theorem x3_4 {α1 : Sort u1} {α2 : Sort u2} {α3 : Sort u3} {P0 P1 P2 P3 P4 : α1 → α2 → α3 → Prop} {g : Prop} (h : ∃ v1 v2 v3, P0 v1 v2 v3 ∧ P1 v1 v2 v3 ∧ P2 v1 v2 v3 ∧ P3 v1 v2 v3 ∧ P4 v1 v2 v3) (k : ∀ (v1 : α1) (v2 : α2) (v3 : α3), P0 v1 v2 v3 → P1 v1 v2 v3 → P2 v1 v2 v3 → P3 v1 v2 v3 → P4 v1 v2 v3 → g) : g := h.elim fun v1 h => h.elim fun v2 h => h.elim fun v3 h => k v1 v2 v3 h.1 h.2.1 h.2.2.1 h.2.2.2.1 h.2.2.2.2
theorem j3_4 {α1 : Sort u1} {α2 : Sort u2} {α3 : Sort u3} {P0 P1 P2 P3 P4 : α1 → α2 → α3 → Prop} {g : Prop} (k : ∀ (v1 : α1) (v2 : α2) (v3 : α3), P0 v1 v2 v3 → P1 v1 v2 v3 → P2 v1 v2 v3 → P3 v1 v2 v3 → P4 v1 v2 v3 → g) (h : ∃ v1 v2 v3, P0 v1 v2 v3 ∧ P1 v1 v2 v3 ∧ P2 v1 v2 v3 ∧ P3 v1 v2 v3 ∧ P4 v1 v2 v3) : g := x3_4 h k
theorem m3_6 {α1 : Sort u1} {α2 : Sort u2} {α3 : Sort u3} {P0 P1 P2 P3 P4 P5 P6 : α1 → α2 → α3 → Prop} (v1 : α1) (v2 : α2) (v3 : α3) (h0 : P0 v1 v2 v3) (h1 : P1 v1 v2 v3) (h2 : P2 v1 v2 v3) (h3 : P3 v1 v2 v3) (h4 : P4 v1 v2 v3) (h5 : P5 v1 v2 v3) (h6 : P6 v1 v2 v3) : ∃ v1 v2 v3, P0 v1 v2 v3 ∧ P1 v1 v2 v3 ∧ P2 v1 v2 v3 ∧ P3 v1 v2 v3 ∧ P4 v1 v2 v3 ∧ P5 v1 v2 v3 ∧ P6 v1 v2 v3 := ⟨v1, v2, v3, h0, h1, h2, h3, h4, h5, h6⟩
theorem x3_6 {α1 : Sort u1} {α2 : Sort u2} {α3 : Sort u3} {P0 P1 P2 P3 P4 P5 P6 : α1 → α2 → α3 → Prop} {g : Prop} (h : ∃ v1 v2 v3, P0 v1 v2 v3 ∧ P1 v1 v2 v3 ∧ P2 v1 v2 v3 ∧ P3 v1 v2 v3 ∧ P4 v1 v2 v3 ∧ P5 v1 v2 v3 ∧ P6 v1 v2 v3) (k : ∀ (v1 : α1) (v2 : α2) (v3 : α3), P0 v1 v2 v3 → P1 v1 v2 v3 → P2 v1 v2 v3 → P3 v1 v2 v3 → P4 v1 v2 v3 → P5 v1 v2 v3 → P6 v1 v2 v3 → g) : g := h.elim fun v1 h => h.elim fun v2 h => h.elim fun v3 h => k v1 v2 v3 h.1 h.2.1 h.2.2.1 h.2.2.2.1 h.2.2.2.2.1 h.2.2.2.2.2.1 h.2.2.2.2.2.2
theorem j3_6 {α1 : Sort u1} {α2 : Sort u2} {α3 : Sort u3} {P0 P1 P2 P3 P4 P5 P6 : α1 → α2 → α3 → Prop} {g : Prop} (k : ∀ (v1 : α1) (v2 : α2) (v3 : α3), P0 v1 v2 v3 → P1 v1 v2 v3 → P2 v1 v2 v3 → P3 v1 v2 v3 → P4 v1 v2 v3 → P5 v1 v2 v3 → P6 v1 v2 v3 → g) (h : ∃ v1 v2 v3, P0 v1 v2 v3 ∧ P1 v1 v2 v3 ∧ P2 v1 v2 v3 ∧ P3 v1 v2 v3 ∧ P4 v1 v2 v3 ∧ P5 v1 v2 v3 ∧ P6 v1 v2 v3) : g := x3_6 h k
theorem m3_7 {α1 : Sort u1} {α2 : Sort u2} {α3 : Sort u3} {P0 P1 P2 P3 P4 P5 P6 P7 : α1 → α2 → α3 → Prop} (v1 : α1) (v2 : α2) (v3 : α3) (h0 : P0 v1 v2 v3) (h1 : P1 v1 v2 v3) (h2 : P2 v1 v2 v3) (h3 : P3 v1 v2 v3) (h4 : P4 v1 v2 v3) (h5 : P5 v1 v2 v3) (h6 : P6 v1 v2 v3) (h7 : P7 v1 v2 v3) : ∃ v1 v2 v3, P0 v1 v2 v3 ∧ P1 v1 v2 v3 ∧ P2 v1 v2 v3 ∧ P3 v1 v2 v3 ∧ P4 v1 v2 v3 ∧ P5 v1 v2 v3 ∧ P6 v1 v2 v3 ∧ P7 v1 v2 v3 := ⟨v1, v2, v3, h0, h1, h2, h3, h4, h5, h6, h7⟩
theorem m4_1 {α1 : Sort u1} {α2 : Sort u2} {α3 : Sort u3} {α4 : Sort u4} {P0 P1 : α1 → α2 → α3 → α4 → Prop} (v1 : α1) (v2 : α2) (v3 : α3) (v4 : α4) (h0 : P0 v1 v2 v3 v4) (h1 : P1 v1 v2 v3 v4) : ∃ v1 v2 v3 v4, P0 v1 v2 v3 v4 ∧ P1 v1 v2 v3 v4 := ⟨v1, v2, v3, v4, h0, h1⟩
theorem x4_1 {α1 : Sort u1} {α2 : Sort u2} {α3 : Sort u3} {α4 : Sort u4} {P0 P1 : α1 → α2 → α3 → α4 → Prop} {g : Prop} (h : ∃ v1 v2 v3 v4, P0 v1 v2 v3 v4 ∧ P1 v1 v2 v3 v4) (k : ∀ (v1 : α1) (v2 : α2) (v3 : α3) (v4 : α4), P0 v1 v2 v3 v4 → P1 v1 v2 v3 v4 → g) : g := h.elim fun v1 h => h.elim fun v2 h => h.elim fun v3 h => h.elim fun v4 h => k v1 v2 v3 v4 h.1 h.2
theorem j4_1 {α1 : Sort u1} {α2 : Sort u2} {α3 : Sort u3} {α4 : Sort u4} {P0 P1 : α1 → α2 → α3 → α4 → Prop} {g : Prop} (k : ∀ (v1 : α1) (v2 : α2) (v3 : α3) (v4 : α4), P0 v1 v2 v3 v4 → P1 v1 v2 v3 v4 → g) (h : ∃ v1 v2 v3 v4, P0 v1 v2 v3 v4 ∧ P1 v1 v2 v3 v4) : g := x4_1 h k
theorem m4_2 {α1 : Sort u1} {α2 : Sort u2} {α3 : Sort u3} {α4 : Sort u4} {P0 P1 P2 : α1 → α2 → α3 → α4 → Prop} (v1 : α1) (v2 : α2) (v3 : α3) (v4 : α4) (h0 : P0 v1 v2 v3 v4) (h1 : P1 v1 v2 v3 v4) (h2 : P2 v1 v2 v3 v4) : ∃ v1 v2 v3 v4, P0 v1 v2 v3 v4 ∧ P1 v1 v2 v3 v4 ∧ P2 v1 v2 v3 v4 := ⟨v1, v2, v3, v4, h0, h1, h2⟩
theorem m4_3 {α1 : Sort u1} {α2 : Sort u2} {α3 : Sort u3} {α4 : Sort u4} {P0 P1 P2 P3 : α1 → α2 → α3 → α4 → Prop} (v1 : α1) (v2 : α2) (v3 : α3) (v4 : α4) (h0 : P0 v1 v2 v3 v4) (h1 : P1 v1 v2 v3 v4) (h2 : P2 v1 v2 v3 v4) (h3 : P3 v1 v2 v3 v4) : ∃ v1 v2 v3 v4, P0 v1 v2 v3 v4 ∧ P1 v1 v2 v3 v4 ∧ P2 v1 v2 v3 v4 ∧ P3 v1 v2 v3 v4 := ⟨v1, v2, v3, v4, h0, h1, h2, h3⟩
theorem x4_3 {α1 : Sort u1} {α2 : Sort u2} {α3 : Sort u3} {α4 : Sort u4} {P0 P1 P2 P3 : α1 → α2 → α3 → α4 → Prop} {g : Prop} (h : ∃ v1 v2 v3 v4, P0 v1 v2 v3 v4 ∧ P1 v1 v2 v3 v4 ∧ P2 v1 v2 v3 v4 ∧ P3 v1 v2 v3 v4) (k : ∀ (v1 : α1) (v2 : α2) (v3 : α3) (v4 : α4), P0 v1 v2 v3 v4 → P1 v1 v2 v3 v4 → P2 v1 v2 v3 v4 → P3 v1 v2 v3 v4 → g) : g := h.elim fun v1 h => h.elim fun v2 h => h.elim fun v3 h => h.elim fun v4 h => k v1 v2 v3 v4 h.1 h.2.1 h.2.2.1 h.2.2.2
theorem j4_3 {α1 : Sort u1} {α2 : Sort u2} {α3 : Sort u3} {α4 : Sort u4} {P0 P1 P2 P3 : α1 → α2 → α3 → α4 → Prop} {g : Prop} (k : ∀ (v1 : α1) (v2 : α2) (v3 : α3) (v4 : α4), P0 v1 v2 v3 v4 → P1 v1 v2 v3 v4 → P2 v1 v2 v3 v4 → P3 v1 v2 v3 v4 → g) (h : ∃ v1 v2 v3 v4, P0 v1 v2 v3 v4 ∧ P1 v1 v2 v3 v4 ∧ P2 v1 v2 v3 v4 ∧ P3 v1 v2 v3 v4) : g := x4_3 h k
theorem m4_7 {α1 : Sort u1} {α2 : Sort u2} {α3 : Sort u3} {α4 : Sort u4} {P0 P1 P2 P3 P4 P5 P6 P7 : α1 → α2 → α3 → α4 → Prop} (v1 : α1) (v2 : α2) (v3 : α3) (v4 : α4) (h0 : P0 v1 v2 v3 v4) (h1 : P1 v1 v2 v3 v4) (h2 : P2 v1 v2 v3 v4) (h3 : P3 v1 v2 v3 v4) (h4 : P4 v1 v2 v3 v4) (h5 : P5 v1 v2 v3 v4) (h6 : P6 v1 v2 v3 v4) (h7 : P7 v1 v2 v3 v4) : ∃ v1 v2 v3 v4, P0 v1 v2 v3 v4 ∧ P1 v1 v2 v3 v4 ∧ P2 v1 v2 v3 v4 ∧ P3 v1 v2 v3 v4 ∧ P4 v1 v2 v3 v4 ∧ P5 v1 v2 v3 v4 ∧ P6 v1 v2 v3 v4 ∧ P7 v1 v2 v3 v4 := ⟨v1, v2, v3, v4, h0, h1, h2, h3, h4, h5, h6, h7⟩
theorem x5_2 {α1 : Sort u1} {α2 : Sort u2} {α3 : Sort u3} {α4 : Sort u4} {α5 : Sort u5} {P0 P1 P2 : α1 → α2 → α3 → α4 → α5 → Prop} {g : Prop} (h : ∃ v1 v2 v3 v4 v5, P0 v1 v2 v3 v4 v5 ∧ P1 v1 v2 v3 v4 v5 ∧ P2 v1 v2 v3 v4 v5) (k : ∀ (v1 : α1) (v2 : α2) (v3 : α3) (v4 : α4) (v5 : α5), P0 v1 v2 v3 v4 v5 → P1 v1 v2 v3 v4 v5 → P2 v1 v2 v3 v4 v5 → g) : g := h.elim fun v1 h => h.elim fun v2 h => h.elim fun v3 h => h.elim fun v4 h => h.elim fun v5 h => k v1 v2 v3 v4 v5 h.1 h.2.1 h.2.2
theorem m5_3 {α1 : Sort u1} {α2 : Sort u2} {α3 : Sort u3} {α4 : Sort u4} {α5 : Sort u5} {P0 P1 P2 P3 : α1 → α2 → α3 → α4 → α5 → Prop} (v1 : α1) (v2 : α2) (v3 : α3) (v4 : α4) (v5 : α5) (h0 : P0 v1 v2 v3 v4 v5) (h1 : P1 v1 v2 v3 v4 v5) (h2 : P2 v1 v2 v3 v4 v5) (h3 : P3 v1 v2 v3 v4 v5) : ∃ v1 v2 v3 v4 v5, P0 v1 v2 v3 v4 v5 ∧ P1 v1 v2 v3 v4 v5 ∧ P2 v1 v2 v3 v4 v5 ∧ P3 v1 v2 v3 v4 v5 := ⟨v1, v2, v3, v4, v5, h0, h1, h2, h3⟩
theorem m5_5 {α1 : Sort u1} {α2 : Sort u2} {α3 : Sort u3} {α4 : Sort u4} {α5 : Sort u5} {P0 P1 P2 P3 P4 P5 : α1 → α2 → α3 → α4 → α5 → Prop} (v1 : α1) (v2 : α2) (v3 : α3) (v4 : α4) (v5 : α5) (h0 : P0 v1 v2 v3 v4 v5) (h1 : P1 v1 v2 v3 v4 v5) (h2 : P2 v1 v2 v3 v4 v5) (h3 : P3 v1 v2 v3 v4 v5) (h4 : P4 v1 v2 v3 v4 v5) (h5 : P5 v1 v2 v3 v4 v5) : ∃ v1 v2 v3 v4 v5, P0 v1 v2 v3 v4 v5 ∧ P1 v1 v2 v3 v4 v5 ∧ P2 v1 v2 v3 v4 v5 ∧ P3 v1 v2 v3 v4 v5 ∧ P4 v1 v2 v3 v4 v5 ∧ P5 v1 v2 v3 v4 v5 := ⟨v1, v2, v3, v4, v5, h0, h1, h2, h3, h4, h5⟩
theorem x5_5 {α1 : Sort u1} {α2 : Sort u2} {α3 : Sort u3} {α4 : Sort u4} {α5 : Sort u5} {P0 P1 P2 P3 P4 P5 : α1 → α2 → α3 → α4 → α5 → Prop} {g : Prop} (h : ∃ v1 v2 v3 v4 v5, P0 v1 v2 v3 v4 v5 ∧ P1 v1 v2 v3 v4 v5 ∧ P2 v1 v2 v3 v4 v5 ∧ P3 v1 v2 v3 v4 v5 ∧ P4 v1 v2 v3 v4 v5 ∧ P5 v1 v2 v3 v4 v5) (k : ∀ (v1 : α1) (v2 : α2) (v3 : α3) (v4 : α4) (v5 : α5), P0 v1 v2 v3 v4 v5 → P1 v1 v2 v3 v4 v5 → P2 v1 v2 v3 v4 v5 → P3 v1 v2 v3 v4 v5 → P4 v1 v2 v3 v4 v5 → P5 v1 v2 v3 v4 v5 → g) : g := h.elim fun v1 h => h.elim fun v2 h => h.elim fun v3 h => h.elim fun v4 h => h.elim fun v5 h => k v1 v2 v3 v4 v5 h.1 h.2.1 h.2.2.1 h.2.2.2.1 h.2.2.2.2.1 h.2.2.2.2.2
theorem m5_10 {α1 : Sort u1} {α2 : Sort u2} {α3 : Sort u3} {α4 : Sort u4} {α5 : Sort u5} {P0 P1 P2 P3 P4 P5 P6 P7 P8 P9 P10 : α1 → α2 → α3 → α4 → α5 → Prop} (v1 : α1) (v2 : α2) (v3 : α3) (v4 : α4) (v5 : α5) (h0 : P0 v1 v2 v3 v4 v5) (h1 : P1 v1 v2 v3 v4 v5) (h2 : P2 v1 v2 v3 v4 v5) (h3 : P3 v1 v2 v3 v4 v5) (h4 : P4 v1 v2 v3 v4 v5) (h5 : P5 v1 v2 v3 v4 v5) (h6 : P6 v1 v2 v3 v4 v5) (h7 : P7 v1 v2 v3 v4 v5) (h8 : P8 v1 v2 v3 v4 v5) (h9 : P9 v1 v2 v3 v4 v5) (h10 : P10 v1 v2 v3 v4 v5) : ∃ v1 v2 v3 v4 v5, P0 v1 v2 v3 v4 v5 ∧ P1 v1 v2 v3 v4 v5 ∧ P2 v1 v2 v3 v4 v5 ∧ P3 v1 v2 v3 v4 v5 ∧ P4 v1 v2 v3 v4 v5 ∧ P5 v1 v2 v3 v4 v5 ∧ P6 v1 v2 v3 v4 v5 ∧ P7 v1 v2 v3 v4 v5 ∧ P8 v1 v2 v3 v4 v5 ∧ P9 v1 v2 v3 v4 v5 ∧ P10 v1 v2 v3 v4 v5 := ⟨v1, v2, v3, v4, v5, h0, h1, h2, h3, h4, h5, h6, h7, h8, h9, h10⟩
theorem x5_10 {α1 : Sort u1} {α2 : Sort u2} {α3 : Sort u3} {α4 : Sort u4} {α5 : Sort u5} {P0 P1 P2 P3 P4 P5 P6 P7 P8 P9 P10 : α1 → α2 → α3 → α4 → α5 → Prop} {g : Prop} (h : ∃ v1 v2 v3 v4 v5, P0 v1 v2 v3 v4 v5 ∧ P1 v1 v2 v3 v4 v5 ∧ P2 v1 v2 v3 v4 v5 ∧ P3 v1 v2 v3 v4 v5 ∧ P4 v1 v2 v3 v4 v5 ∧ P5 v1 v2 v3 v4 v5 ∧ P6 v1 v2 v3 v4 v5 ∧ P7 v1 v2 v3 v4 v5 ∧ P8 v1 v2 v3 v4 v5 ∧ P9 v1 v2 v3 v4 v5 ∧ P10 v1 v2 v3 v4 v5) (k : ∀ (v1 : α1) (v2 : α2) (v3 : α3) (v4 : α4) (v5 : α5), P0 v1 v2 v3 v4 v5 → P1 v1 v2 v3 v4 v5 → P2 v1 v2 v3 v4 v5 → P3 v1 v2 v3 v4 v5 → P4 v1 v2 v3 v4 v5 → P5 v1 v2 v3 v4 v5 → P6 v1 v2 v3 v4 v5 → P7 v1 v2 v3 v4 v5 → P8 v1 v2 v3 v4 v5 → P9 v1 v2 v3 v4 v5 → P10 v1 v2 v3 v4 v5 → g) : g := h.elim fun v1 h => h.elim fun v2 h => h.elim fun v3 h => h.elim fun v4 h => h.elim fun v5 h => k v1 v2 v3 v4 v5 h.1 h.2.1 h.2.2.1 h.2.2.2.1 h.2.2.2.2.1 h.2.2.2.2.2.1 h.2.2.2.2.2.2.1 h.2.2.2.2.2.2.2.1 h.2.2.2.2.2.2.2.2.1 h.2.2.2.2.2.2.2.2.2.1 h.2.2.2.2.2.2.2.2.2.2
theorem m7_2 {α1 : Sort u1} {α2 : Sort u2} {α3 : Sort u3} {α4 : Sort u4} {α5 : Sort u5} {α6 : Sort u6} {α7 : Sort u7} {P0 P1 P2 : α1 → α2 → α3 → α4 → α5 → α6 → α7 → Prop} (v1 : α1) (v2 : α2) (v3 : α3) (v4 : α4) (v5 : α5) (v6 : α6) (v7 : α7) (h0 : P0 v1 v2 v3 v4 v5 v6 v7) (h1 : P1 v1 v2 v3 v4 v5 v6 v7) (h2 : P2 v1 v2 v3 v4 v5 v6 v7) : ∃ v1 v2 v3 v4 v5 v6 v7, P0 v1 v2 v3 v4 v5 v6 v7 ∧ P1 v1 v2 v3 v4 v5 v6 v7 ∧ P2 v1 v2 v3 v4 v5 v6 v7 := ⟨v1, v2, v3, v4, v5, v6, v7, h0, h1, h2⟩
theorem x7_2 {α1 : Sort u1} {α2 : Sort u2} {α3 : Sort u3} {α4 : Sort u4} {α5 : Sort u5} {α6 : Sort u6} {α7 : Sort u7} {P0 P1 P2 : α1 → α2 → α3 → α4 → α5 → α6 → α7 → Prop} {g : Prop} (h : ∃ v1 v2 v3 v4 v5 v6 v7, P0 v1 v2 v3 v4 v5 v6 v7 ∧ P1 v1 v2 v3 v4 v5 v6 v7 ∧ P2 v1 v2 v3 v4 v5 v6 v7) (k : ∀ (v1 : α1) (v2 : α2) (v3 : α3) (v4 : α4) (v5 : α5) (v6 : α6) (v7 : α7), P0 v1 v2 v3 v4 v5 v6 v7 → P1 v1 v2 v3 v4 v5 v6 v7 → P2 v1 v2 v3 v4 v5 v6 v7 → g) : g := h.elim fun v1 h => h.elim fun v2 h => h.elim fun v3 h => h.elim fun v4 h => h.elim fun v5 h => h.elim fun v6 h => h.elim fun v7 h => k v1 v2 v3 v4 v5 v6 v7 h.1 h.2.1 h.2.2
theorem j7_2 {α1 : Sort u1} {α2 : Sort u2} {α3 : Sort u3} {α4 : Sort u4} {α5 : Sort u5} {α6 : Sort u6} {α7 : Sort u7} {P0 P1 P2 : α1 → α2 → α3 → α4 → α5 → α6 → α7 → Prop} {g : Prop} (k : ∀ (v1 : α1) (v2 : α2) (v3 : α3) (v4 : α4) (v5 : α5) (v6 : α6) (v7 : α7), P0 v1 v2 v3 v4 v5 v6 v7 → P1 v1 v2 v3 v4 v5 v6 v7 → P2 v1 v2 v3 v4 v5 v6 v7 → g) (h : ∃ v1 v2 v3 v4 v5 v6 v7, P0 v1 v2 v3 v4 v5 v6 v7 ∧ P1 v1 v2 v3 v4 v5 v6 v7 ∧ P2 v1 v2 v3 v4 v5 v6 v7) : g := x7_2 h k
theorem m7_3 {α1 : Sort u1} {α2 : Sort u2} {α3 : Sort u3} {α4 : Sort u4} {α5 : Sort u5} {α6 : Sort u6} {α7 : Sort u7} {P0 P1 P2 P3 : α1 → α2 → α3 → α4 → α5 → α6 → α7 → Prop} (v1 : α1) (v2 : α2) (v3 : α3) (v4 : α4) (v5 : α5) (v6 : α6) (v7 : α7) (h0 : P0 v1 v2 v3 v4 v5 v6 v7) (h1 : P1 v1 v2 v3 v4 v5 v6 v7) (h2 : P2 v1 v2 v3 v4 v5 v6 v7) (h3 : P3 v1 v2 v3 v4 v5 v6 v7) : ∃ v1 v2 v3 v4 v5 v6 v7, P0 v1 v2 v3 v4 v5 v6 v7 ∧ P1 v1 v2 v3 v4 v5 v6 v7 ∧ P2 v1 v2 v3 v4 v5 v6 v7 ∧ P3 v1 v2 v3 v4 v5 v6 v7 := ⟨v1, v2, v3, v4, v5, v6, v7, h0, h1, h2, h3⟩
theorem x7_3 {α1 : Sort u1} {α2 : Sort u2} {α3 : Sort u3} {α4 : Sort u4} {α5 : Sort u5} {α6 : Sort u6} {α7 : Sort u7} {P0 P1 P2 P3 : α1 → α2 → α3 → α4 → α5 → α6 → α7 → Prop} {g : Prop} (h : ∃ v1 v2 v3 v4 v5 v6 v7, P0 v1 v2 v3 v4 v5 v6 v7 ∧ P1 v1 v2 v3 v4 v5 v6 v7 ∧ P2 v1 v2 v3 v4 v5 v6 v7 ∧ P3 v1 v2 v3 v4 v5 v6 v7) (k : ∀ (v1 : α1) (v2 : α2) (v3 : α3) (v4 : α4) (v5 : α5) (v6 : α6) (v7 : α7), P0 v1 v2 v3 v4 v5 v6 v7 → P1 v1 v2 v3 v4 v5 v6 v7 → P2 v1 v2 v3 v4 v5 v6 v7 → P3 v1 v2 v3 v4 v5 v6 v7 → g) : g := h.elim fun v1 h => h.elim fun v2 h => h.elim fun v3 h => h.elim fun v4 h => h.elim fun v5 h => h.elim fun v6 h => h.elim fun v7 h => k v1 v2 v3 v4 v5 v6 v7 h.1 h.2.1 h.2.2.1 h.2.2.2
theorem m7_4 {α1 : Sort u1} {α2 : Sort u2} {α3 : Sort u3} {α4 : Sort u4} {α5 : Sort u5} {α6 : Sort u6} {α7 : Sort u7} {P0 P1 P2 P3 P4 : α1 → α2 → α3 → α4 → α5 → α6 → α7 → Prop} (v1 : α1) (v2 : α2) (v3 : α3) (v4 : α4) (v5 : α5) (v6 : α6) (v7 : α7) (h0 : P0 v1 v2 v3 v4 v5 v6 v7) (h1 : P1 v1 v2 v3 v4 v5 v6 v7) (h2 : P2 v1 v2 v3 v4 v5 v6 v7) (h3 : P3 v1 v2 v3 v4 v5 v6 v7) (h4 : P4 v1 v2 v3 v4 v5 v6 v7) : ∃ v1 v2 v3 v4 v5 v6 v7, P0 v1 v2 v3 v4 v5 v6 v7 ∧ P1 v1 v2 v3 v4 v5 v6 v7 ∧ P2 v1 v2 v3 v4 v5 v6 v7 ∧ P3 v1 v2 v3 v4 v5 v6 v7 ∧ P4 v1 v2 v3 v4 v5 v6 v7 := ⟨v1, v2, v3, v4, v5, v6, v7, h0, h1, h2, h3, h4⟩
theorem x7_4 {α1 : Sort u1} {α2 : Sort u2} {α3 : Sort u3} {α4 : Sort u4} {α5 : Sort u5} {α6 : Sort u6} {α7 : Sort u7} {P0 P1 P2 P3 P4 : α1 → α2 → α3 → α4 → α5 → α6 → α7 → Prop} {g : Prop} (h : ∃ v1 v2 v3 v4 v5 v6 v7, P0 v1 v2 v3 v4 v5 v6 v7 ∧ P1 v1 v2 v3 v4 v5 v6 v7 ∧ P2 v1 v2 v3 v4 v5 v6 v7 ∧ P3 v1 v2 v3 v4 v5 v6 v7 ∧ P4 v1 v2 v3 v4 v5 v6 v7) (k : ∀ (v1 : α1) (v2 : α2) (v3 : α3) (v4 : α4) (v5 : α5) (v6 : α6) (v7 : α7), P0 v1 v2 v3 v4 v5 v6 v7 → P1 v1 v2 v3 v4 v5 v6 v7 → P2 v1 v2 v3 v4 v5 v6 v7 → P3 v1 v2 v3 v4 v5 v6 v7 → P4 v1 v2 v3 v4 v5 v6 v7 → g) : g := h.elim fun v1 h => h.elim fun v2 h => h.elim fun v3 h => h.elim fun v4 h => h.elim fun v5 h => h.elim fun v6 h => h.elim fun v7 h => k v1 v2 v3 v4 v5 v6 v7 h.1 h.2.1 h.2.2.1 h.2.2.2.1 h.2.2.2.2
end PL
end
section
open PySem PySem.Calls PyProof.Rows PySem.W
set_option autoImplicit false
set_option linter.unusedVariables false
namespace PL

/-- an abstract value: what a value says, without the marks of its making -/
inductive AV where
  | none
  | bool (b : Bool)
  | int (i : Int)
  | str (s : Str)
  | ref (a : Addr)
  | lit (v : Value)

noncomputable def AV.Is : AV → Value → Prop
  | .none, v => v = .none
  | .bool b, v => v = .bool b
  | .int i, v => ∃ t, v = .int i t
  | .str s, v => ∃ t, v = .str s t
  | .ref a, v => v = .ref a
  | .lit w, v => v = w

inductive All2 {α β : Type} (r : α → β → Prop) : List α → List β → Prop
  | nil : All2 r [] []
  | cons {a : α} {b : β} {as : List α} {bs : List β} : r a b → All2 r as bs → All2 r (a :: as) (b :: bs)

namespace All2
variable {α β : Type} {r : α → β → Prop}
theorem length {as : List α} {bs : List β} (h : All2 r as bs) : as.length = bs.length := by
  induction h with
  | nil => rfl
  | cons _ _ ih => simp [ih]
theorem get {as : List α} {bs : List β} (h : All2 r as bs) : ∀ {i : Nat} {a : α}, as[i]? = some a → ∃ b, bs[i]? = some b ∧ r a b := by
  induction h with
  | nil => intro i a e; simp at e
  | @cons a b as bs hab _ ih =>
    intro i a' e
    cases i with
    | zero => simp at e; subst e; exact (PL.m1_1 b (by simp) hab)
    | succ i => simp at e; simpa using ih e
theorem getR {as : List α} {bs : List β} (h : All2 r as bs) : ∀ {i : Nat} {b : β}, bs[i]? = some b → ∃ a, as[i]? = some a ∧ r a b := by
  induction h with
  | nil => intro i a e; simp at e
  | @cons a b as bs hab _ ih =>
    intro i b' e
    cases i with
    | zero => simp at e; subst e; exact (PL.m1_1 a (by simp) hab)
    | succ i => simp at e; simpa using ih e
theorem none {as : List α} {bs : List β} (h : All2 r as bs) {i : Nat} (e : as[i]? = .none) : bs[i]? = .none := by
  rw [List.getElem?_eq_none_iff] at e ⊢; rw [← h.length]; exact e
theorem append {as as' : List α} {bs bs' : List β} (h : All2 r as bs) (h' : All2 r as' bs') : All2 r (as ++ as') (bs ++ bs') := by
  induction h with
  | nil => exact h'
  | cons hab _ ih => exact .cons hab ih
theorem one {a : α} {b : β} (h : r a b) : All2 r [a] [b] := .cons h .nil
theorem set {as : List α} {bs : List β} (h : All2 r as bs) {a : α} {b : β} (hab : r a b) : ∀ i : Nat, All2 r (as.set i a) (bs.set i b) := by
  induction h with
  | nil => intro i; exact .nil
  | cons h1 hr ih =>
    intro i
    cases i with
    | zero => exact .cons hab hr
    | succ i => exact .cons h1 (ih i)
theorem take {as : List α} {bs : List β} (h : All2 r as bs) : ∀ n, All2 r (as.take n) (bs.take n) := by
  induction h with
  | nil => intro n; simp; exact .nil
  | cons h1 hr ih =>
    intro n
    cases n with
    | zero => exact .nil
    | succ n => exact .cons h1 (ih n)
theorem drop {as : List α} {bs : List β} (h : All2 r as bs) : ∀ n, All2 r (as.drop n) (bs.drop n) := by
  induction h with
  | nil => intro n; simp; exact .nil
  | cons h1 hr ih =>
    intro n
    cases n with
    | zero => exact .cons h1 hr
    | succ n => exact ih n
theorem nilL {bs : List β} (h : All2 r [] bs) : bs = [] := by cases h; rfl
theorem consL {a : α} {as : List α} {bs : List β} (h : All2 r (a :: as) bs) : ∃ b bs', bs = b :: bs' ∧ r a b ∧ All2 r as bs' := by
  cases h with | cons h1 h2 => exact (PL.m2_2 _ _ rfl h1 h2)
end All2

noncomputable abbrev AllIs (xs : List AV) (vs : List Value) : Prop := All2 AV.Is xs vs

structure Gd where
  prog : Program
  w : World
  t : Heap
  os : OsState

/-- an abstract object -/
inductive AO where
  | list (xs : List AV)
  | tuple (xs : List AV)
  | sdict (kvs : List (Str × AV)) (ep : Nat)
  | idict (kvs : List (Int × AV)) (ep : Nat)
  | sset (S : Str → Bool) (n : Nat)
  | ns (names : List (Str × NameKind)) (vs : List (Option AV))
  | cell (v : Option AV)
  | listiter (l : Addr) (i : Nat)
  | tupiter (l : Addr) (i : Nat)
  | keyiter (d : Addr) (i n ep : Nat)
  | valiter (d : Addr) (i n ep : Nat)
  | rangeiter (x left step : Int)
  | inst (C : Addr) (dx : Addr)
  | slots (C dx : Addr) (vs : List (Option AV))
  | fields (T : String) (vs : List AV)
  | raw (o : Obj)
  | tab
  | typed (T : String)
  | idct (kvs : List (Str × AV))
  | exc (c : Value) (T : Option Addr)
  | tb (fl : Value)

noncomputable def DRel (p : Str × AV) (e : DictEntry) : Prop := (∃ t, e.key = .str p.1 t) ∧ p.2.Is e.val
noncomputable def ORel : Option AV → Option Value → Prop
  | .none, _ => True
  | .some a, v => ∃ v', v = some v' ∧ a.Is v'

noncomputable def KRel {K : Type} (p : K × AV) (q : K × Value) : Prop := p.1 = q.1 ∧ p.2.Is q.2

/-- the name x stands in the list of names with its kind; its value stands at the same place -/
inductive Look (x : Str) (k : NameKind) (av : AV) : List (Str × NameKind) → List (Option AV) → Prop
  | here {ns : List (Str × NameKind)} {vs : List (Option AV)} : Look x k av ((x, k) :: ns) (some av :: vs)
  | there {p : Str × NameKind} {o : Option AV} {ns : List (Str × NameKind)} {vs : List (Option AV)} : Look x k av ns vs → Look x k av (p :: ns) (o :: vs)
inductive Put (x : Str) (k : NameKind) (av : AV) : List (Str × NameKind) → List (Option AV) → List (Option AV) → Prop
  | here {o : Option AV} {ns : List (Str × NameKind)} {vs : List (Option AV)} : Put x k av ((x, k) :: ns) (o :: vs) (some av :: vs)
  | there {p : Str × NameKind} {o : Option AV} {ns : List (Str × NameKind)} {vs vs' : List (Option AV)} : Put x k av ns vs vs' → Put x k av (p :: ns) (o :: vs) (o :: vs')
/-- the name stands in a table -/
inductive LookT {β : Type} (x : Str) (b : β) : List (Str × β) → Prop
  | here {l : List (Str × β)} : LookT x b ((x, b) :: l)
  | there {p : Str × β} {l : List (Str × β)} : LookT x b l → LookT x b (p :: l)
theorem LookT.mem {β : Type} {x : Str} {b : β} {l : List (Str × β)} (h : LookT x b l) : (x, b) ∈ l := by
  induction h with
  | here => exact .head _
  | there _ ih => exact .tail _ ih
theorem lookup_of_mem {β : Type} {x : Str} {b : β} : ∀ {l : List (Str × β)}, (l.map (·.1)).Nodup → (x, b) ∈ l → l.lookup x = some b
  | (k, v) :: r, hn, hm => by
    rw [List.map_cons, List.nodup_cons] at hn
    rcases List.mem_cons.mp hm with e | hm
    · cases e; simp
    · have hne : (x == k) = false := beq_eq_false_iff_ne.mpr fun e => hn.1 (e ▸ List.mem_map.mpr (PL.m1_1 ((x, b)) hm rfl))
      rw [List.lookup_cons, hne]
      exact lookup_of_mem hn.2 hm
theorem LookT.lookup {β : Type} {x : Str} {b : β} {l : List (Str × β)} (h : LookT x b l) (hn : (l.map (·.1)).Nodup) : l.lookup x = some b := lookup_of_mem hn h.mem
theorem Look.kind {x : Str} {k : NameKind} {av : AV} {ns : List (Str × NameKind)} {vs : List (Option AV)} (h : Look x k av ns vs) : LookT x k ns := by
  induction h with
  | here => exact .here
  | there _ ih => exact .there ih
theorem Put.kind {x : Str} {k : NameKind} {av : AV} {ns : List (Str × NameKind)} {vs vs' : List (Option AV)} (h : Put x k av ns vs vs') : LookT x k ns := by
  induction h with
  | here => exact .here
  | there _ ih => exact .there ih
/-- what the names hold -/
noncomputable def NsIs (ns : List (Str × NameKind)) (vs : List (Option AV)) (m : Str → Option Value) : Prop := ∀ x k av, Look x k av ns vs → ∃ v, m x = some v ∧ av.Is v

noncomputable def At (G : Gd) (h : Heap) (a : Addr) : AO → Prop
  | .list xs => ∃ vs, h.PlainList a vs ∧ AllIs xs vs.toList
  | .tuple xs => ∃ vs : List Value, h.get? a = some { cls := .type "tuple", data := .seq vs.toArray } ∧ AllIs xs vs
  | .sdict kvs ep => (a == sysModules) = false ∧ ∃ kvs', h.DictAt (strKind G.prog G.w) a kvs' ep ∧ All2 KRel kvs kvs'
  | .idict kvs ep => (a == sysModules) = false ∧ ∃ kvs', h.DictAt (intKind G.prog G.w) a kvs' ep ∧ All2 KRel kvs kvs'
  | .sset S n => h.SetOf (strKind G.prog G.w) a S n
  | .ns ns vs => ∃ m', h.Ns a m' ∧ NsIs ns vs m'
  | .cell v => ∃ v', h.IsCell a v' ∧ ORel v v'
  | .listiter l i => h.IsListIter a l i
  | .tupiter l i => h.IsTupleIter a l i
  | .keyiter d i n ep => h.IsKeyIter a d i n ep
  | .valiter d i n ep => h.IsValIter a d i n ep
  | .rangeiter x left step => IsRangeIter h a x left step
  | .inst C dx => h.get? a = some ⟨.ref C, some dx, .plain, #[]⟩
  | .slots C dx vs => ∃ vs' : List (Option Value), h.get? a = some ⟨.ref C, some dx, .plain, vs'.toArray⟩ ∧ All2 ORel vs vs'
  | .fields T vs => ∃ vs' : List Value, h.get? a = some { cls := .type T, data := .fields vs'.toArray } ∧ AllIs vs vs'
  | .raw o => h.get? a = some o
  | .tab => ∃ ps, h.get? a = some (tabObj ps) ∧ TriplesOk ps.toList
  | .typed T => ∃ o, h.get? a = some o ∧ o.cls = .type T
  | .idct kvs => ∃ es n, h.get? a = some (dictOf es n) ∧ All2 DRel kvs es
  | .exc c T => ∃ o vs, h.get? a = some o ∧ o.cls = c ∧ o.data = .fields vs ∧ vs[1]? = some (T.elim .none .ref)
  | .tb fl => ∃ o ts, h.get? a = some o ∧ o.data = .fields ts ∧ ts[3]? = some fl

theorem At.keep {G : Gd} {h h' : Heap} {a : Addr} {ao : AO} (x : At G h a ao) (e : ∀ o, h.get? a = some o → h'.get? a = some o) : At G h' a ao := by
  cases ao with
  | list xs => (revert x; refine PL.j1_1 ?_; rintro vs ⟨n, h1⟩ h2); exact (PL.m1_1 vs (⟨n, e _ h1⟩) h2)
  | tuple xs => (revert x; refine PL.j1_1 ?_; rintro vs h1 h2); exact (PL.m1_1 vs (e _ h1) h2)
  | sdict kvs ep => obtain ⟨h0, k', ⟨o, es, ho, r⟩, h2⟩ := x; exact ⟨h0, k', (PL.m2_1 o es (e _ ho) r), h2⟩
  | idict kvs ep => obtain ⟨h0, k', ⟨o, es, ho, r⟩, h2⟩ := x; exact ⟨h0, k', (PL.m2_1 o es (e _ ho) r), h2⟩
  | sset S n => (revert x; refine PL.j4_1 ?_; rintro o es ep t ho r); exact (PL.m4_1 o es ep t (e _ ho) r)
  | ns ns vs => (revert x; refine PL.j1_1 ?_; rintro m' ⟨o, es, ep, ho, r⟩ h2); exact (PL.m1_1 m' ((PL.m3_1 o es ep (e _ ho) r)) h2)
  | cell v => (revert x; refine PL.j1_1 ?_; rintro v' ⟨o, ho, r⟩ h2); exact (PL.m1_1 v' ((PL.m1_1 o (e _ ho) r)) h2)
  | listiter l i => (revert x; refine PL.j1_1 ?_; rintro o ho r); exact (PL.m1_1 o (e _ ho) r)
  | tupiter l i => (revert x; refine PL.j1_1 ?_; rintro o ho r); exact (PL.m1_1 o (e _ ho) r)
  | keyiter d i n ep => (revert x; refine PL.j1_1 ?_; rintro o ho r); exact (PL.m1_1 o (e _ ho) r)
  | valiter d i n ep => (revert x; refine PL.j1_1 ?_; rintro o ho r); exact (PL.m1_1 o (e _ ho) r)
  | rangeiter x l s => exact e _ x
  | inst C dx => exact e _ x
  | slots C dx vs => (revert x; refine PL.j1_1 ?_; rintro vs' h1 h2); exact (PL.m1_1 vs' (e _ h1) h2)
  | fields T vs => (revert x; refine PL.j1_1 ?_; rintro vs' h1 h2); exact (PL.m1_1 vs' (e _ h1) h2)
  | raw o => exact e _ x
  | tab => (revert x; refine PL.j1_1 ?_; rintro ps h1 h2); exact (PL.m1_1 ps (e _ h1) h2)
  | typed T => (revert x; refine PL.j1_1 ?_; rintro o h1 h2); exact (PL.m1_1 o (e _ h1) h2)
  | idct kvs => (revert x; refine PL.j2_1 ?_; rintro es n h1 h2); exact (PL.m2_1 es n (e _ h1) h2)
  | exc c T => (revert x; refine PL.j2_1 ?_; rintro o vs h1 h2); exact (PL.m2_1 o vs (e _ h1) h2)
  | tb fl => (revert x; refine PL.j2_1 ?_; rintro o vs h1 h2); exact (PL.m2_1 o vs (e _ h1) h2)

theorem At.some {G : Gd} {h : Heap} {a : Addr} {ao : AO} (x : At G h a ao) : ∃ o, h.get? a = some o := by
  cases ao with
  | list xs => (revert x; refine PL.j1_1 ?_; rintro vs ⟨n, h1⟩ h2); exact ⟨_, h1⟩
  | tuple xs => (revert x; refine PL.j1_1 ?_; rintro vs h1 h2); exact ⟨_, h1⟩
  | sdict kvs ep => obtain ⟨h0, k', ⟨o, es, ho, r⟩, h2⟩ := x; exact ⟨_, ho⟩
  | idict kvs ep => obtain ⟨h0, k', ⟨o, es, ho, r⟩, h2⟩ := x; exact ⟨_, ho⟩
  | sset S n => (revert x; refine PL.j4_1 ?_; rintro o es ep t ho r); exact ⟨_, ho⟩
  | ns ns vs => (revert x; refine PL.j1_1 ?_; rintro m' ⟨o, es, ep, ho, r⟩ h2); exact ⟨_, ho⟩
  | cell v => (revert x; refine PL.j1_1 ?_; rintro v' ⟨o, ho, r⟩ h2); exact ⟨_, ho⟩
  | listiter l i => (revert x; refine PL.j1_1 ?_; rintro o ho r); exact ⟨_, ho⟩
  | tupiter l i => (revert x; refine PL.j1_1 ?_; rintro o ho r); exact ⟨_, ho⟩
  | keyiter d i n ep => (revert x; refine PL.j1_1 ?_; rintro o ho r); exact ⟨_, ho⟩
  | valiter d i n ep => (revert x; refine PL.j1_1 ?_; rintro o ho r); exact ⟨_, ho⟩
  | rangeiter x l s => exact ⟨_, x⟩
  | inst C dx => exact ⟨_, x⟩
  | slots C dx vs => (revert x; refine PL.j1_1 ?_; rintro vs' h1 h2); exact ⟨_, h1⟩
  | fields T vs => (revert x; refine PL.j1_1 ?_; rintro vs' h1 h2); exact ⟨_, h1⟩
  | raw o => exact ⟨_, x⟩
  | tab => (revert x; refine PL.j1_1 ?_; rintro ps h1 h2); exact ⟨_, h1⟩
  | typed T => (revert x; refine PL.j1_1 ?_; rintro o h1 h2); exact ⟨_, h1⟩
  | idct kvs => (revert x; refine PL.j2_1 ?_; rintro es n h1 h2); exact ⟨_, h1⟩
  | exc c T => (revert x; refine PL.j2_1 ?_; rintro o vs h1 h2); exact ⟨_, h1⟩
  | tb fl => (revert x; refine PL.j2_1 ?_; rintro o vs h1 h2); exact ⟨_, h1⟩

noncomputable abbrev Led := List (Addr × AO)

inductive Pick {α : Type} (p : α) : List α → List α → Prop
  | head {l : List α} : Pick p (p :: l) l
  | tail {q : α} {l l' : List α} : Pick p l l' → Pick p (q :: l) (q :: l')

namespace Pick
variable {α : Type} {p : α} {l l' : List α}
theorem perm (h : Pick p l l') : l.Perm (p :: l') := by
  induction h with
  | head => exact .refl _
  | tail _ ih => exact (ih.cons _).trans (.swap ..)
theorem mem (h : Pick p l l') : p ∈ l := h.perm.mem_iff.mpr (.head _)
theorem ofMem (h : p ∈ l) : ∃ l', Pick p l l' := by
  induction l with
  | nil => cases h
  | cons q l ih =>
    rcases List.mem_cons.mp h with rfl | h
    · exact ⟨l, .head⟩
    · obtain ⟨l', h'⟩ := ih h; exact ⟨q :: l', .tail h'⟩
end Pick

/-- an object told less -/
noncomputable def AOle (ao' ao : AO) : Prop := ∀ G h a, At G h a ao → At G h a ao'
theorem AOle.refl (ao : AO) : AOle ao ao := fun _ _ _ h => h
inductive VLe : List (Option AV) → List (Option AV) → Prop
  | nil : VLe [] []
  | same {o : Option AV} {vs' vs : List (Option AV)} : VLe vs' vs → VLe (o :: vs') (o :: vs)
  | less {o : Option AV} {vs' vs : List (Option AV)} : VLe vs' vs → VLe (none :: vs') (o :: vs)
theorem VLe.look {x : Str} {k : NameKind} {a : AV} {vs' vs : List (Option AV)} (h : VLe vs' vs) : ∀ {ns : List (Str × NameKind)}, Look x k a ns vs' → Look x k a ns vs := by
  induction h with
  | nil => intro ns q; cases q
  | same _ ih => intro ns q; cases q with
    | here => exact .here
    | there q => exact .there (ih q)
  | less _ ih => intro ns q; cases q with
    | there q => exact .there (ih q)
theorem AOle.ns {names : List (Str × NameKind)} {vs' vs : List (Option AV)} (h : VLe vs' vs) : AOle (.ns names vs') (.ns names vs) := fun _ _ _ ⟨m, h1, h2⟩ => (PL.m1_1 m h1 (fun x k a q => h2 x k a (h.look q)))
theorem AOle.cell {o : Option AV} : AOle (.cell none) (.cell o) := fun _ _ _ ⟨v, h1, _⟩ => (PL.m1_1 v h1 trivial)

/-- what a ledger says less -/
inductive Sub : Led → Led → Prop
  | refl (l : Led) : Sub l l
  | nil {l : Led} : Sub [] l
  | cons {a : Addr} {ao ao' : AO} {l l₁ l' : Led} : Pick (a, ao) l l₁ → AOle ao' ao → Sub l' l₁ → Sub ((a, ao') :: l') l
  | skip {p : Addr × AO} {l l' : Led} : Sub l' l → Sub l' (p :: l)
  | perm {l l' : Led} : l.Perm l' → Sub l' l
  | trans {l l' l'' : Led} : Sub l'' l' → Sub l' l → Sub l'' l
namespace Sub
variable {p : Addr × AO} {l l' l'' : Led}
theorem tail : Sub l (p :: l) := .skip (.refl l)
theorem same {a : Addr} {ao : AO} {l₁ : Led} (h : Pick (a, ao) l l₁) (h' : Sub l' l₁) : Sub ((a, ao) :: l') l := .cons h (.refl ao) h'
theorem keep (h : Sub l' l) : Sub (p :: l') (p :: l) := by obtain ⟨a, ao⟩ := p; exact .same .head h
theorem left {x : Led} : Sub l (x ++ l) := by
  induction x with
  | nil => exact .refl l
  | cons p x ih => exact ih.skip
theorem keys (h : Sub l' l) : ∀ x, x ∈ l'.map (·.1) → x ∈ l.map (·.1) := by
  induction h with
  | refl => exact fun _ h => h
  | nil => intro x h; cases h
  | cons hp _ _ ih =>
    intro x hx
    rw [(hp.perm.map (·.1)).mem_iff]
    rcases List.mem_cons.mp hx with rfl | hx
    · exact .head _
    · exact .tail _ (ih x hx)
  | skip _ ih => intro x hx; exact .tail _ (ih x hx)
  | perm h => intro x hx; exact (h.map (·.1)).mem_iff.mpr hx
  | trans _ _ i1 i2 => intro x hx; exact i2 x (i1 x hx)
end Sub

structure Rep (G : Gd) (s : Shared) (l : Led) : Prop where
  keep : ∀ b o, G.t.get? b = some o → s.heap.get? b = some o
  nodup : (l.map (·.1)).Nodup
  has : ∀ p ∈ l, G.t.get? p.1 = none ∧ At G s.heap p.1 p.2
  gens : s.gens = #[]
  os : s.os = G.os

namespace Rep
variable {G : Gd} {s : Shared} {l l' : Led} {a : Addr} {ao ao' : AO}
theorem «at» (N : Rep G s l) (h : Pick (a, ao) l l') : At G s.heap a ao := (N.has _ h.mem).2
theorem atM (N : Rep G s l) (h : (a, ao) ∈ l) : At G s.heap a ao := (N.has _ h).2
theorem perm (N : Rep G s l) (h : l.Perm l') : Rep G s l' := ⟨N.keep, (h.map (·.1)).nodup_iff.mp N.nodup, fun p hp => N.has p (h.mem_iff.mpr hp), N.gens, N.os⟩
theorem sub (N : Rep G s l) (h : Sub l' l) : Rep G s l' := by
  induction h with
  | refl => exact N
  | nil => exact ⟨N.keep, List.nodup_nil, fun p hp => (List.not_mem_nil hp).elim, N.gens, N.os⟩
  | @cons a ao ao' l l₁ l' hp hle hs ih =>
    have N₁ := N.perm hp.perm
    have nd := N₁.nodup
    rw [List.map_cons, List.nodup_cons] at nd
    have N₂ : Rep G s l₁ := ⟨N.keep, nd.2, fun p hp => N₁.has p (.tail _ hp), N.gens, N.os⟩
    have N₃ := ih N₂
    refine ⟨N.keep, ?_, ?_, N.gens, N.os⟩
    · rw [List.map_cons, List.nodup_cons]
      exact ⟨fun q => nd.1 (hs.keys _ q), N₃.nodup⟩
    · intro p hp'
      rcases List.mem_cons.mp hp' with rfl | hp'
      · exact ⟨(N₁.has _ (.head _)).1, hle G _ _ (N₁.has _ (.head _)).2⟩
      · exact N₃.has p hp'
  | skip _ ih =>
    have nd := N.nodup
    rw [List.map_cons, List.nodup_cons] at nd
    exact ih ⟨N.keep, nd.2, fun p hp => N.has p (.tail _ hp), N.gens, N.os⟩
  | perm h => exact N.perm h
  | trans _ _ i1 i2 => exact i1 (i2 N)
theorem toks (N : Rep G s l) (t : Nat) : Rep G { s with toks := t } l := ⟨N.keep, N.nodup, N.has, N.gens, N.os⟩
theorem fresh (N : Rep G s l) (h : Pick (a, ao) l l') : G.t.get? a = none := (N.has _ h.mem).1
theorem ne (N : Rep G s l) (h : Pick (a, ao) l l') : ∀ p ∈ l', p.1 ≠ a := by
  intro p hp e
  have := (h.perm.map (·.1)).nodup_iff.mp N.nodup
  rw [List.map_cons, List.nodup_cons] at this
  exact this.1 (List.mem_map.mpr (PL.m1_1 p hp e))
/-- the heap grows, nothing turns -/
theorem ext {h' : Heap} {tk : Nat} (N : Rep G s l) (hk : ∀ b o, s.heap.get? b = some o → h'.get? b = some o) : Rep G { s with heap := h', toks := tk } l :=
  ⟨fun b o e => hk b o (N.keep b o e), N.nodup, fun p hp => ⟨(N.has p hp).1, (N.has p hp).2.keep fun o e => hk _ _ e⟩, N.gens, N.os⟩
/-- one object turns -/
theorem upd {h' : Heap} {tk : Nat} (N : Rep G s l) (h : Pick (a, ao) l l') (hs : Heap.ExtBut a s.heap h') (ha : At G h' a ao') : Rep G { s with heap := h', toks := tk } ((a, ao') :: l') := by
  have hf := N.fresh h
  refine ⟨fun b o e => hs b o (fun q => by rw [q] at e; rw [hf] at e; cases e) (N.keep b o e), ?_, ?_, N.gens, N.os⟩
  · have := (h.perm.map (·.1)).nodup_iff.mp N.nodup
    exact this
  · intro p hp
    rcases List.mem_cons.mp hp with rfl | hp
    · exact ⟨hf, ha⟩
    · have hp' := N.has p (h.perm.mem_iff.mpr (.tail _ hp))
      exact ⟨hp'.1, hp'.2.keep fun o e => hs _ _ (N.ne h p hp) e⟩
/-- a new object comes -/
theorem new {h' : Heap} {tk : Nat} (N : Rep G s l) (hn : s.heap.get? a = none) (hk : ∀ b o, s.heap.get? b = some o → h'.get? b = some o) (ha : At G h' a ao) : Rep G { s with heap := h', toks := tk } ((a, ao) :: l) := by
  refine ⟨fun b o e => hk b o (N.keep b o e), ?_, ?_, N.gens, N.os⟩
  · rw [List.map_cons, List.nodup_cons]
    refine ⟨fun q => ?_, N.nodup⟩
    (refine PL.x1_1 (List.mem_map.mp q) ?_; rintro p hp e)
    obtain ⟨o, ho⟩ := (N.has p hp).2.some
    rw [e] at ho
    rw [hn] at ho; cases ho
  · intro p hp
    rcases List.mem_cons.mp hp with rfl | hp
    · refine ⟨?_, ha⟩
      cases q : G.t.get? a with
      | none => rfl
      | some o => rw [N.keep _ _ q] at hn; cases hn
    · exact ⟨(N.has p hp).1, (N.has p hp).2.keep fun o e => hk _ _ e⟩
/-- new objects come -/
theorem more {h' : Heap} {tk : Nat} (N : Rep G s l) (es : Led) (hk : ∀ b o, s.heap.get? b = some o → h'.get? b = some o) (nd : (es.map (·.1)).Nodup) (hn : ∀ p ∈ es, s.heap.get? p.1 = none) (ha : ∀ p ∈ es, At G h' p.1 p.2) : Rep G { s with heap := h', toks := tk } (es ++ l) := by
  refine ⟨fun b o e => hk b o (N.keep b o e), ?_, ?_, N.gens, N.os⟩
  · rw [List.map_append, List.nodup_append]
    refine (PL.m0_2 nd N.nodup (fun a ha1 b hb1 e => ?_))
    (refine PL.x1_1 (List.mem_map.mp ha1) ?_; rintro p hp rfl)
    (refine PL.x1_1 (List.mem_map.mp hb1) ?_; rintro q hq e')
    obtain ⟨o, ho⟩ := (N.has q hq).2.some
    rw [e', ← e, hn p hp] at ho; cases ho
  · intro p hp
    rcases List.mem_append.mp hp with hp | hp
    · refine ⟨?_, ha p hp⟩
      cases q : G.t.get? p.1 with
      | none => rfl
      | some o => have := N.keep _ _ q; rw [hn p hp] at this; cases this
    · exact ⟨(N.has p hp).1, (N.has p hp).2.keep fun o e => hk _ _ e⟩
theorem push {o : Obj} (N : Rep G s l) (hf : o.isFreed = false) (ha : At G (s.heap.push o) s.heap.objs.size ao) : Rep G { s with heap := s.heap.push o } ((s.heap.objs.size, ao) :: l) :=
  let N' := N.new (tk := s.toks) (Heap.get?_none_of_le (Nat.le_refl _)) (fun _ _ e => Heap.get?_push_of_some o e) ha
  let _ := hf
  N'

end Rep

noncomputable def Xp := Addr → Led → Prop
noncomputable def noX : Xp := fun _ _ => False

inductive Po {α β : Type} (G : Gd) (rel : β → α → Prop) (R : β → Led → Prop) (v : α) (s : Shared) : Prop where
  | mk (b : β) (l : Led) (h1 : rel b v) (h2 : Rep G s l) (h3 : R b l)
inductive Px (G : Gd) (X : Xp) (e : Value) (s : Shared) : Prop where
  | mk (a : Addr) (l : Led) (h1 : e = .ref a) (h2 : Rep G s l) (h3 : X a l)
noncomputable def Tr {α β : Type} (G : Gd) (A : Around) (tree : Sem α) (rel : β → α → Prop) (l : Led) (R : β → Led → Prop) (X : Xp) : Prop :=
  ∀ s, Rep G s l → wpAny (model G.prog G.w) A tree (Po G rel R) (Px G X) s

section
variable {α β γ δ : Type} {G : Gd} {A : Around} {l l' : Led} {X X' : Xp}
theorem Tr.mono {m : Sem α} {rel : β → α → Prop} {R R' : β → Led → Prop} (h : Tr G A m rel l R X) (hR : ∀ b l', R b l' → R' b l') (hX : ∀ a l', X a l' → X' a l') : Tr G A m rel l R' X' :=
  fun s N => wpAny_mono (h s N) (fun _ _ ⟨b, l', h1, h2, h3⟩ => ⟨b, l', h1, h2, hR _ _ h3⟩) fun _ _ ⟨a, l', h1, h2, h3⟩ => ⟨a, l', h1, h2, hX _ _ h3⟩
theorem Tr.sub {m : Sem α} {rel : β → α → Prop} {R : β → Led → Prop} (hs : Sub l' l) (h : Tr G A m rel l' R X) : Tr G A m rel l R X := fun s N => h s (N.sub hs)
end

/-- eval -/
noncomputable def EE (G : Gd) (A : Around) (env : Env) (e : Expr) (l : Led) (R : AV → Led → Prop) (X : Xp) : Prop := Tr G A (eval e env) AV.Is l R X
/-- a test -/
noncomputable def TT (G : Gd) (A : Around) (env : Env) (e : Expr) (l : Led) (R : Bool → Led → Prop) (X : Xp) : Prop := Tr G A (isTrue e env (eval e env)) (fun (b v : Bool) => v = b) l R X

inductive AF where
  | next | brk | cont
  | ret (v : AV)
noncomputable def AF.Is : AF → Flow → Prop
  | .next, f => f = .next
  | .brk, f => f = .brk
  | .cont, f => f = .cont
  | .ret a, f => ∃ v, f = .ret v ∧ a.Is v
/-- a statement, a block -/
noncomputable def SS (G : Gd) (A : Around) (env : Env) (st : Stmt) (l : Led) (R : AF → Led → Prop) (X : Xp) : Prop := Tr G A (exec st env) AF.Is l R X
noncomputable def BB (G : Gd) (A : Around) (env : Env) (st : List Stmt) (l : Led) (R : AF → Led → Prop) (X : Xp) : Prop := Tr G A (execs st env) AF.Is l R X

noncomputable def Op1 (G : Gd) (A : Around) (f : Value → Sem Value) (a : AV) (l : Led) (R : AV → Led → Prop) (X : Xp) : Prop := ∀ v, a.Is v → Tr G A (f v) AV.Is l R X
noncomputable def Op2 (G : Gd) (A : Around) (f : Value → Value → Sem Value) (a b : AV) (l : Led) (R : AV → Led → Prop) (X : Xp) : Prop := ∀ v u, a.Is v → b.Is u → Tr G A (f v u) AV.Is l R X
noncomputable def Truth (G : Gd) (A : Around) (a : AV) (l : Led) (R : Bool → Led → Prop) (X : Xp) : Prop := ∀ v, a.Is v → Tr G A (truthy v) (fun (b v : Bool) => v = b) l R X
/-- a call -/
noncomputable def CC (G : Gd) (A : Around) (f : AV) (args : List AV) (l : Led) (R : AV → Led → Prop) (X : Xp) : Prop := ∀ v vs, f.Is v → AllIs args vs → Tr G A (call v vs) AV.Is l R X

end PL
end
section
open PySem PySem.Calls PyProof.Rows PySem.W
set_option autoImplicit false
set_option linter.unusedVariables false
namespace PL

theorem Look.memName {x : Str} {k : NameKind} {av : AV} {ns : List (Str × NameKind)} {vs : List (Option AV)} (h : Look x k av ns vs) : x ∈ ns.map (·.1) := List.mem_map.mpr (PL.m1_1 _ h.kind.mem rfl)
theorem Put.look' {x y : Str} {k k' : NameKind} {av av' : AV} {ns : List (Str × NameKind)} {vs vs' : List (Option AV)} (h : Put x k av ns vs vs') (hn : (ns.map (·.1)).Nodup) :
    Look y k' av' ns vs' → (y = x ∧ av' = av) ∨ (y ≠ x ∧ Look y k' av' ns vs) := by
  induction h with
  | here => intro q; cases q with
    | here => exact .inl ⟨rfl, rfl⟩
    | there q =>
      rw [List.map_cons, List.nodup_cons] at hn
      exact .inr ⟨fun e => hn.1 (e ▸ q.memName), .there q⟩
  | there hp ih => intro q; rw [List.map_cons, List.nodup_cons] at hn; cases q with
    | here => exact .inr ⟨fun e => hn.1 (by rw [show _ = _ from e]; exact List.mem_map.mpr (PL.m1_1 _ hp.kind.mem rfl)), .here⟩
    | there q => exact (ih hn.2 q).imp id fun ⟨a, b⟩ => ⟨a, .there b⟩
theorem NsIs.put {x : Str} {k : NameKind} {av : AV} {ns : List (Str × NameKind)} {vs vs' : List (Option AV)} {m : Str → Option Value} {v : Value} (h : NsIs ns vs m) (hp : Put x k av ns vs vs') (hn : (ns.map (·.1)).Nodup) (hv : av.Is v) :
    NsIs ns vs' (fun y => if y = x then some v else m y) := by
  intro y k' av' q
  rcases hp.look' hn q with ⟨rfl, rfl⟩ | ⟨hy, q⟩
  · exact (PL.m1_1 v (by simp) hv)
  · (refine PL.x1_1 (h y k' av' q) ?_; rintro u hu ha); exact (PL.m1_1 u (by simp [hy, hu]) ha)

/-- a frame's environment -/
structure EnvOk (env : Env) (names : List (Str × NameKind)) (L : Addr) (cl : List (Str × Addr)) : Prop where
  kind : env.scope.kind = .function
  hnames : env.scope.names = names
  nodup : (names.map fun p => p.1).Nodup
  locals : env.locals = L
  hcells : env.cells = cl
  cnodup : (cl.map fun p => p.1).Nodup
  globals : env.globals = mainGlobals
  builtins : env.builtins = builtinsNs
  plain : ∀ p ∈ names, (p.1 == ("__debug__" : Str)) = false ∧ (p.1 == ("__classdict__" : Str)) = false

theorem EnvOk.kindOf {env : Env} {names : List (Str × NameKind)} {L : Addr} {cl : List (Str × Addr)} (h : EnvOk env names L cl) {x : Str} {k : NameKind} (q : LookT x k names) : env.kindOf x = some k := by
  show env.scope.names.lookup x = some k
  rw [h.hnames]; exact q.lookup h.nodup
theorem EnvOk.cell {env : Env} {names : List (Str × NameKind)} {L : Addr} {cl : List (Str × Addr)} (h : EnvOk env names L cl) {x : Str} {c : Addr} (q : LookT x c cl) : env.cells.lookup x = some c := by
  rw [h.hcells]; exact q.lookup h.cnodup

/-- the module's names that the walk reads -/
noncomputable def GlobOk (G : Gd) (gt : List (Str × AV)) : Prop := ∃ mg mb, G.t.Ns mainGlobals mg ∧ G.t.Ns builtinsNs mb ∧ ∀ x a, LookT x a gt → ∃ v, a.Is v ∧ (mg x = some v ∨ (mg x = none ∧ mb x = some v))

section
variable {G : Gd} {A : Around} {env : Env} {l l' : Led} {X : Xp} {R : AV → Led → Prop} {names : List (Str × NameKind)} {L : Addr} {cl : List (Str × Addr)} {vs vs' : List (Option AV)}

theorem EE.int {i : Int} {k : Nat} {pos : Pos} (h : R (.int i) l) : EE G A env (.Constant (.int i) k pos) l R X := fun _ N => wpAny_Constant_int ⟨.int i, l, ⟨_, rfl⟩, N.toks _, h⟩
theorem EE.str {x : Str} {k : Nat} {pos : Pos} (h : R (.str x) l) : EE G A env (.Constant (.str x) k pos) l R X := fun _ N => wpAny_Constant_str ⟨.str x, l, ⟨_, rfl⟩, N.toks _, h⟩
theorem EE.none {k : Nat} {pos : Pos} (h : R .none l) : EE G A env (.Constant .none k pos) l R X := fun _ N => wpAny_Constant_none ⟨.none, l, rfl, N, h⟩
theorem EE.bool {b : Bool} {k : Nat} {pos : Pos} (h : R (.bool b) l) : EE G A env (.Constant (.bool b) k pos) l R X := fun _ N => wpAny_Constant_bool ⟨.bool b, l, rfl, N, h⟩

theorem EE.loc {x : Str} {pos : Pos} {av : AV} (hE : EnvOk env names L cl) (hp : Pick (L, .ns names vs) l l') (hx : Look x .local av names vs) (h : R av l) :
    EE G A env (.Name x pos) l R X := fun _ N => by
  (refine PL.x1_1 (N.at hp) ?_; rintro m hn hi)
  (refine PL.x1_1 (hi _ _ _ hx) ?_; rintro v hv ha)
  exact wpAny_Name (wpAny_loadName_local hE.kind (hE.kindOf hx.kind) (hE.locals ▸ hn) hv ⟨av, l, ha, N, h⟩) (hE.plain _ hx.kind.mem).1
theorem EE.cel {x : Str} {pos : Pos} {c : Addr} {av : AV} (hE : EnvOk env names L cl) (hx : LookT x .cell names) (hc : LookT x c cl) (hp : Pick (c, .cell (some av)) l l') (h : R av l) :
    EE G A env (.Name x pos) l R X := fun _ N => by
  obtain ⟨v', hc', v, rfl, ha⟩ := N.at hp
  exact wpAny_Name (wpAny_loadName_cell hE.kind (hE.kindOf hx) (hE.cell hc) hc' ⟨av, l, ha, N, h⟩) (hE.plain _ hx.mem).1
theorem EE.glob {x : Str} {pos : Pos} {av : AV} {gt : List (Str × AV)} (hE : EnvOk env names L cl) (hg : GlobOk G gt) (hx : LookT x .globalImplicit names) (ha : LookT x av gt) (h : R av l) :
    EE G A env (.Name x pos) l R X := fun s N => by
  (revert hg; refine PL.j2_2 ?_; rintro mg mb n1 n2 hh)
  (refine PL.x1_1 (hh _ _ ha) ?_; rintro v hv (h1 | ⟨h1, h2⟩))
  · exact Name_function_global hE.kind (hE.kindOf hx) (loadGlobal_global (by rw [hE.globals]; exact n1.keeps N.keep) h1 ⟨av, l, hv, N, h⟩) (hE.plain _ hx.mem).1
  · exact Name_function_global hE.kind (hE.kindOf hx) (loadGlobal_builtin (by rw [hE.globals]; exact n1.keeps N.keep) h1 (by rw [hE.builtins]; exact n2.keeps N.keep) h2 ⟨av, l, hv, N, h⟩) (hE.plain _ hx.mem).1

theorem EE.binop {e1 e2 : Expr} {op : Operator} {pos : Pos} (h : EE G A env e1 l (fun a l₁ => EE G A env e2 l₁ (fun b l₂ => Op2 G A (binaryOp op) a b l₂ R X) X) X) : EE G A env (.BinOp e1 op e2 pos) l R X :=
  fun s N => wpAny_BinOp (wpAny_mono (h s N) (fun v s₁ ⟨a, l₁, ha, N₁, h₁⟩ => wpAny_mono (h₁ s₁ N₁) (fun u s₂ ⟨b, l₂, hb, N₂, h₂⟩ => h₂ v u ha hb s₂ N₂) fun _ _ y => y) fun _ _ y => y)
theorem EE.cmp {e1 e2 : Expr} {op : CmpOp} {pos : Pos} (h : EE G A env e1 l (fun a l₁ => EE G A env e2 l₁ (fun b l₂ => Op2 G A (compareOp op) a b l₂ R X) X) X) (hm : behindInMarks op e2 = false := by with_unfolding_all rfl) :
    EE G A env (.Compare e1 [op] [e2] pos) l R X :=
  fun s N => wpAny_Compare1 (wpAny_mono (h s N) (fun v s₁ ⟨a, l₁, ha, N₁, h₁⟩ => wpAny_mono (h₁ s₁ N₁) (fun u s₂ ⟨b, l₂, hb, N₂, h₂⟩ => h₂ v u ha hb s₂ N₂) fun _ _ y => y) fun _ _ y => y) hm
theorem TT.cmp {e1 e2 : Expr} {op : CmpOp} {pos : Pos} {R : Bool → Led → Prop} (h : EE G A env e1 l (fun a l₁ => EE G A env e2 l₁ (fun b l₂ => Op2 G A (compareOp op) a b l₂ (fun c l₃ => Truth G A c l₃ R X) X) X) X) (hm : behindInMarks op e2 = false := by with_unfolding_all rfl) :
    TT G A env (.Compare e1 [op] [e2] pos) l R X :=
  fun s N => wpAny_isTrue_Compare1 (wpAny_mono (h s N) (fun v s₁ ⟨a, l₁, ha, N₁, h₁⟩ => wpAny_mono (h₁ s₁ N₁) (fun u s₂ ⟨b, l₂, hb, N₂, h₂⟩ => wpAny_mono (h₂ v u ha hb s₂ N₂) (fun c s₃ ⟨d, l₃, hd, N₃, h₃⟩ => h₃ c hd s₃ N₃) fun _ _ y => y) fun _ _ y => y) fun _ _ y => y) hm
theorem TT.not {e : Expr} {pos : Pos} {R : Bool → Led → Prop} (h : TT G A env e l (fun b l₁ => R (!b) l₁) X) : TT G A env (.UnaryOp .Not e pos) l R X :=
  fun s N => wpAny_isTrue_Not (wpAny_mono (h s N) (fun v s₁ ⟨b, l₁, hb, N₁, h₁⟩ => ⟨!b, l₁, by rw [hb], N₁, h₁⟩) fun _ _ y => y)
theorem TT.and {es : List Expr} {pos : Pos} {R : Bool → Led → Prop} (h : Tr G A (allTrue .And es env) (fun (b v : Bool) => v = b) l R X) : TT G A env (.BoolOp .And es pos) l R X := fun s N => wpAny_isTrue_BoolOp (h s N)
theorem TT.or {es : List Expr} {pos : Pos} {R : Bool → Led → Prop} (h : Tr G A (allTrue .Or es env) (fun (b v : Bool) => v = b) l R X) : TT G A env (.BoolOp .Or es pos) l R X := fun s N => wpAny_isTrue_BoolOp (h s N)
theorem AT.nilAnd {R : Bool → Led → Prop} (h : R true l) : Tr G A (allTrue .And [] env) (fun (b v : Bool) => v = b) l R X := fun s N => wpAny_allTrue_And_nil ⟨true, l, rfl, N, h⟩
theorem AT.and {e : Expr} {es : List Expr} {R : Bool → Led → Prop} (h : TT G A env e l (fun b l₁ => (b = true → Tr G A (allTrue .And es env) (fun (b v : Bool) => v = b) l₁ R X) ∧ (b = false → R false l₁)) X) :
    Tr G A (allTrue .And (e :: es) env) (fun (b v : Bool) => v = b) l R X :=
  fun s N => wpAny_allTrue_And_cons (wpAny_mono (h s N) (fun v s₁ ⟨b, l₁, hb, N₁, h₁, h₂⟩ => by
    subst hb
    cases v with
    | true => simpa using h₁ rfl s₁ N₁
    | false => simp only [Bool.false_eq_true, if_false]; exact ⟨false, l₁, rfl, N₁, h₂ rfl⟩) fun _ _ y => y)
theorem AT.or {e : Expr} {es : List Expr} {R : Bool → Led → Prop} (h : TT G A env e l (fun b l₁ => (b = false → Tr G A (allTrue .Or es env) (fun (b v : Bool) => v = b) l₁ R X) ∧ (b = true → R true l₁)) X) :
    Tr G A (allTrue .Or (e :: es) env) (fun (b v : Bool) => v = b) l R X :=
  fun s N => wpAny_allTrue_Or_cons (wpAny_mono (h s N) (fun v s₁ ⟨b, l₁, hb, N₁, h₁, h₂⟩ => by
    subst hb
    cases v with
    | false => simpa using h₁ rfl s₁ N₁
    | true => simp only [if_true]; exact ⟨true, l₁, rfl, N₁, h₂ rfl⟩) fun _ _ y => y)
/-- the plain test: the value, its truth -/
theorem TT.val {e : Expr} {R : Bool → Led → Prop} (h : EE G A env e l (fun a l₁ => Truth G A a l₁ R X) X)
    (he : ∀ whole, PySem.isTrue e env whole = (do let v ← whole; standAt e.pos; holding [v] (truthy v)) := by intro _; with_unfolding_all rfl) : TT G A env e l R X :=
  fun s N => wpAny_isTrue_value (wpAny_mono (h s N) (fun v s₁ ⟨a, l₁, ha, N₁, h₁⟩ => h₁ v ha s₁ N₁) fun _ _ y => y) (he _)
theorem EE.neg {e : Expr} {pos : Pos} (h : EE G A env e l (fun a l₁ => ∃ i, a = .int i ∧ R (.int (-i)) l₁) X) : EE G A env (.UnaryOp .USub e pos) l R X :=
  fun s N => wpAny_UnaryOp (wpAny_mono (h s N) (fun v s₁ ⟨a, l₁, ha, N₁, i, hi, h₁⟩ => by subst hi; obtain ⟨t, rfl⟩ := ha; exact PyProof.Rows.neg_int ⟨.int _, l₁, ⟨_, rfl⟩, N₁.toks _, h₁⟩) fun _ _ y => y)
/-- and, or of two as values -/
theorem EE.and2 {e1 e2 : Expr} {pos : Pos} (h : EE G A env e1 l (fun a l₁ => Truth G A a l₁ (fun b l₂ => (b = true → EE G A env e2 l₂ R X) ∧ (b = false → R a l₂)) X) X) : EE G A env (.BoolOp .And [e1, e2] pos) l R X :=
  fun s N => wpAny_And2 (wpAny_mono (h s N) (fun v s₁ ⟨a, l₁, ha, N₁, h₁⟩ => wpAny_mono (h₁ v ha s₁ N₁) (fun c s₂ ⟨b, l₂, hb, N₂, h₂, h₃⟩ => by
    subst hb
    cases c with
    | true => simpa using h₂ rfl s₂ N₂
    | false => simp only [Bool.false_eq_true, if_false]; exact ⟨a, l₂, ha, N₂, h₃ rfl⟩) fun _ _ y => y) fun _ _ y => y)
theorem EE.walrus {e1 e2 : Expr} {pos : Pos} (h : EE G A env e2 l (fun a l₁ => ∀ v, a.Is v → Tr G A (assign e1 env v) (fun (_ _ : Unit) => True) l₁ (fun _ l₂ => R a l₂) X) X) : EE G A env (.NamedExpr e1 e2 pos) l R X :=
  fun s N => wpAny_NamedExpr (wpAny_mono (h s N) (fun v s₁ ⟨a, l₁, ha, N₁, h₁⟩ => wpAny_mono (h₁ v ha s₁ N₁) (fun _ s₂ ⟨_, l₂, _, N₂, h₂⟩ => ⟨a, l₂, ha, N₂, h₂⟩) fun _ _ y => y) fun _ _ y => y)

/-- the arguments, one after the other -/
noncomputable def EA (G : Gd) (A : Around) (ts : List (Bool × Sem Value)) (l : Led) (R : List AV → Led → Prop) (X : Xp) : Prop := Tr G A (spliced ts) AllIs l R X
theorem EA.nil {R : List AV → Led → Prop} (h : R [] l) : EA G A [] l R X := fun s N => spliced_nil ⟨[], l, .nil, N, h⟩
theorem EA.cons {t : Sem Value} {ts : List (Bool × Sem Value)} {R : List AV → Led → Prop} (h : Tr G A t AV.Is l (fun a l₁ => EA G A ts l₁ (fun as l₂ => R (a :: as) l₂) X) X) : EA G A ((false, t) :: ts) l R X := fun s N => by
  show wpAny _ _ (spliced ((false, t) :: ts)) _ _ s
  rw [spliced]
  refine wpAny_bind (wpAny_mono (h s N) (fun v s₁ ⟨a, l₁, ha, N₁, h₁⟩ => ?_) fun _ _ y => y)
  simp only [Bool.false_eq_true, if_false]
  refine wpAny_bind (wpAny_pure (wpAny_bind (wpAny_holding (wpAny_mono (h₁ s₁ N₁) (fun us s₂ ⟨as, l₂, has, N₂, h₂⟩ => wpAny_pure ⟨a :: as, l₂, .cons ha has, N₂, h₂⟩) fun _ _ y => y))))

theorem EE.list {es : List Expr} {pos : Pos} (h : EA G A (backTo pos (starEach es env)) l (fun as l₁ => as.length ≤ 1000 ∧ ∀ a, R (.ref a) ((a, .list as) :: l₁)) X) : EE G A env (.List es pos) l R X :=
  fun s N => wpAny_List_spliced (wpAny_mono (h s N) (fun vs s₁ ⟨as, l₁, has, N₁, hl, h₁⟩ =>
    ⟨by rw [← has.length]; exact Nat.le_trans hl (by decide), ⟨.ref s₁.heap.objs.size, _, rfl, N₁.push (ao := .list as) rfl (PL.m1_1 _ (⟨0, Heap.get?_push_size _ rfl⟩) (by simpa using has)), h₁ _⟩⟩) fun _ _ y => y)
theorem EE.tuple {es : List Expr} {k : Nat} {pos : Pos} (h : EA G A (backTo pos (starEach es env)) l (fun as l₁ => as.length ≤ 1000 ∧ ∀ a, R (.ref a) ((a, .tuple as) :: l₁)) X) : EE G A env (.Tuple es k pos) l R X :=
  fun s N => wpAny_Tuple_spliced (wpAny_mono (h s N) (fun vs s₁ ⟨as, l₁, has, N₁, hl, h₁⟩ =>
    ⟨by rw [← has.length]; exact Nat.le_trans hl (by decide), ⟨.ref s₁.heap.objs.size, _, rfl, N₁.push (ao := .tuple as) rfl (PL.m1_1 _ (Heap.get?_push_size _ rfl) has), h₁ _⟩⟩) fun _ _ y => y)
end

/-! operations on plain values -/
section
variable {G : Gd} {A : Around} {l l' : Led} {X : Xp} {R : AV → Led → Prop} {a b : Int} {x y : Str}
theorem Op2.add (h : R (.int (a + b)) l) : Op2 G A (binaryOp .Add) (.int a) (.int b) l R X := fun _ _ ⟨_, e⟩ ⟨_, e'⟩ s N => by subst e e'; exact PyProof.Rows.add_int ⟨.int _, l, ⟨_, rfl⟩, N.toks _, h⟩
theorem Op2.sub (h : R (.int (a - b)) l) : Op2 G A (binaryOp .Sub) (.int a) (.int b) l R X := fun _ _ ⟨_, e⟩ ⟨_, e'⟩ s N => by subst e e'; exact PyProof.Rows.sub_int ⟨.int _, l, ⟨_, rfl⟩, N.toks _, h⟩
theorem Op2.mul (h1 : -(2 ^ 64) < a) (h2 : a < 2 ^ 64) (h : R (.int (a * b)) l) : Op2 G A (binaryOp .Mult) (.int a) (.int b) l R X := fun _ _ ⟨_, e⟩ ⟨_, e'⟩ s N => by
  subst e e'
  exact PyProof.Rows.mul_int ⟨.int _, l, ⟨_, rfl⟩, N.toks _, h⟩ (IntMulOk.of_left (intBits_le_64 h1 h2))
theorem Op2.mod (hb : b ≠ 0) (h : R (.int (a.fmod b)) l) : Op2 G A (binaryOp .Mod) (.int a) (.int b) l R X := fun _ _ ⟨_, e⟩ ⟨_, e'⟩ s N => by subst e e'; exact PyProof.Rows.mod_int' hb ⟨.int _, l, ⟨_, rfl⟩, N.toks _, h⟩
theorem Op2.fdiv (hb : b ≠ 0) (hs : b.natAbs.log2 < 9000) (h : R (.int (a.fdiv b)) l) : Op2 G A (binaryOp .FloorDiv) (.int a) (.int b) l R X := fun _ _ ⟨_, e⟩ ⟨_, e'⟩ s N => by
  subst e e'; exact PyProof.Rows.floordiv_int hb ⟨.int _, l, ⟨_, rfl⟩, N.toks _, h⟩ (Or.inl (PyProof.noPylong_of_log2 hs))
theorem Op2.pow {n : Int} (hn : 0 ≤ n) (hn2 : n ≤ 1000000) (ha : a.natAbs < 2 ^ 64) (h : R (.int (a ^ n.toNat)) l) : Op2 G A (binaryOp .Pow) (.int a) (.int n) l R X := fun _ _ ⟨_, e⟩ ⟨_, e'⟩ s N => by
  subst e e'; exact pow_int_small hn hn2 ha ⟨.int _, l, ⟨_, rfl⟩, N.toks _, h⟩
theorem Op2.shr (hb : 0 ≤ b) (h : R (.int (a.fdiv (2 ^ b.toNat))) l) : Op2 G A (binaryOp .RShift) (.int a) (.int b) l R X := fun _ _ ⟨_, e⟩ ⟨_, e'⟩ s N => by
  subst e e'; exact rshift_int hb ⟨.int _, l, ⟨_, rfl⟩, N.toks _, h⟩
theorem Op2.iadd (h : R (.int (a + b)) l) : Op2 G A (inplaceOp .Add) (.int a) (.int b) l R X := fun _ _ ⟨_, e⟩ ⟨_, e'⟩ s N => by subst e e'; exact PyProof.Rows.iadd_int ⟨.int _, l, ⟨_, rfl⟩, N.toks _, h⟩
theorem Op2.lt (h : R (.bool (decide (a < b))) l) : Op2 G A (compareOp .Lt) (.int a) (.int b) l R X := fun _ _ ⟨_, e⟩ ⟨_, e'⟩ s N => by subst e e'; exact PyProof.Rows.lt_int ⟨.bool _, l, rfl, N, h⟩
theorem Op2.gt (h : R (.bool (decide (b < a))) l) : Op2 G A (compareOp .Gt) (.int a) (.int b) l R X := fun _ _ ⟨_, e⟩ ⟨_, e'⟩ s N => by subst e e'; exact PyProof.Rows.gt_int ⟨.bool _, l, rfl, N, h⟩
theorem Op2.ge (h : R (.bool (decide (b ≤ a))) l) : Op2 G A (compareOp .GtE) (.int a) (.int b) l R X := fun _ _ ⟨_, e⟩ ⟨_, e'⟩ s N => by subst e e'; exact PyProof.Rows.ge_int ⟨.bool _, l, rfl, N, h⟩
theorem Op2.eq (h : R (.bool (a == b)) l) : Op2 G A (compareOp .Eq) (.int a) (.int b) l R X := fun _ _ ⟨_, e⟩ ⟨_, e'⟩ s N => by subst e e'; exact PyProof.Rows.eq_int ⟨.bool _, l, rfl, N, h⟩
theorem Op2.ne (h : R (.bool (a != b)) l) : Op2 G A (compareOp .NotEq) (.int a) (.int b) l R X := fun _ _ ⟨_, e⟩ ⟨_, e'⟩ s N => by subst e e'; exact PyProof.Rows.ne_int ⟨.bool _, l, rfl, N, h⟩
theorem Op2.seq (h : R (.bool (x == y)) l) : Op2 G A (compareOp .Eq) (.str x) (.str y) l R X := fun _ _ ⟨_, e⟩ ⟨_, e'⟩ s N => by subst e e'; exact PyProof.Rows.eq_str ⟨.bool _, l, rfl, N, h⟩
theorem Op2.sne (h : R (.bool (x != y)) l) : Op2 G A (compareOp .NotEq) (.str x) (.str y) l R X := fun _ _ ⟨_, e⟩ ⟨_, e'⟩ s N => by subst e e'; exact PyProof.Rows.ne_str ⟨.bool _, l, rfl, N, h⟩
theorem Op2.slt (h : R (.bool (decide (x.cps.toList < y.cps.toList))) l) : Op2 G A (compareOp .Lt) (.str x) (.str y) l R X := fun _ _ ⟨_, e⟩ ⟨_, e'⟩ s N => by subst e e'; exact PyProof.Rows.lt_str ⟨.bool _, l, rfl, N, h⟩
theorem Op2.sadd (hz : x.length + y.length ≤ 10000) (h : R (.str (x ++ y)) l) : Op2 G A (binaryOp .Add) (.str x) (.str y) l R X := fun _ _ ⟨_, e⟩ ⟨_, e'⟩ s N => by
  subst e e'; exact PyProof.Rows.add_str (fun t' tk => ⟨.str _, l, ⟨_, rfl⟩, N.toks _, h⟩) (Nat.le_trans hz (by decide))
theorem Truth.bool {R : Bool → Led → Prop} {b : Bool} (h : R b l) : Truth G A (.bool b) l R X := fun _ e s N => by cases e; exact wpAny_truthy_bool ⟨_, l, rfl, N, h⟩
theorem Truth.none {R : Bool → Led → Prop} (h : R false l) : Truth G A .none l R X := fun _ e s N => by cases e; exact truthy_none ⟨_, l, rfl, N, h⟩
theorem Truth.list {R : Bool → Led → Prop} {p : Addr} {xs : List AV} (hp : Pick (p, .list xs) l l') (hz : xs.length < 1000000) (h : R (!xs.isEmpty) l) : Truth G A (.ref p) l R X := fun _ e s N => by
  cases e
  (refine PL.x1_1 (N.at hp) ?_; rintro vs hv ha)
  have hlen := ha.length
  refine wpAny_truthy_list hv.isList (by rw [← Array.length_toList, ← hlen]; lia) ⟨_, l, ?_, N.toks _, h⟩
  cases xs with
  | nil => have := ha.nilL; have : vs = #[] := by simpa using this
           subst this; rfl
  | cons a as => (refine PL.x2_1 (ha.consL) ?_; rintro b bs e _); obtain ⟨vs⟩ := vs; subst e; rfl
end

/-! statements -/
section
variable {G : Gd} {A : Around} {env : Env} {l l' : Led} {X : Xp} {R : AF → Led → Prop} {names : List (Str × NameKind)} {L : Addr} {cl : List (Str × Addr)} {vs vs' : List (Option AV)}
theorem BB.nil (h : R .next l) : BB G A env [] l R X := fun s N => wpAny_execs_nil ⟨.next, l, rfl, N, h⟩
noncomputable def Then (G : Gd) (A : Around) (env : Env) (rest : List Stmt) (R : AF → Led → Prop) (X : Xp) : AF → Led → Prop
  | .next, l => BB G A env rest l R X
  | f, l => R f l
theorem Then.next {rest : List Stmt} (h : BB G A env rest l R X) : Then G A env rest R X .next l := h
theorem Then.brk {rest : List Stmt} (h : R .brk l) : Then G A env rest R X .brk l := h
theorem Then.cont {rest : List Stmt} (h : R .cont l) : Then G A env rest R X .cont l := h
theorem Then.ret {rest : List Stmt} {v : AV} (h : R (.ret v) l) : Then G A env rest R X (.ret v) l := h
theorem BB.cons {st : Stmt} {rest : List Stmt} (h : SS G A env st l (Then G A env rest R X) X) : BB G A env (st :: rest) l R X :=
  fun s N => wpAny_execs_cons (wpAny_mono (h s N) (fun f s₁ ⟨b, l₁, hb, N₁, h₁⟩ => by
    cases b with
    | next => cases hb; exact h₁ s₁ N₁
    | brk => cases hb; exact ⟨.brk, l₁, rfl, N₁, h₁⟩
    | cont => cases hb; exact ⟨.cont, l₁, rfl, N₁, h₁⟩
    | ret v => (revert hb; refine PL.j1_1 ?_; rintro u rfl hu); exact ⟨.ret v, l₁, (PL.m1_1 u rfl hu), N₁, h₁⟩) fun _ _ y => y)
/-- a store into a name -/
noncomputable def StN (G : Gd) (A : Around) (env : Env) (x : Str) (a : AV) (l : Led) (R : Led → Prop) (X : Xp) : Prop := ∀ v, a.Is v → Tr G A (storeName env x v) (fun (_ _ : Unit) => True) l (fun _ l' => R l') X
theorem StN.loc {x : Str} {a : AV} {R : Led → Prop} (hE : EnvOk env names L cl) (hp : Pick (L, .ns names vs) l l') (hx : Put x .local a names vs vs') (h : R ((L, .ns names vs') :: l')) : StN G A env x a l R X := fun v hv s N => by
  (refine PL.x1_1 (N.at hp) ?_; rintro m hn hi)
  refine wpAny_storeName_local (hE.kindOf hx.kind) (hE.locals ▸ hn) (fun h' hn' hs' => ⟨(), _, trivial, N.upd (ao' := .ns names vs') hp (hE.locals ▸ hs'.extBut) (PL.m1_1 _ (hE.locals ▸ hn') (hi.put hx hE.nodup hv)), h⟩) ?_
  rw [hE.kind]; rfl
theorem StN.cel {x : Str} {a : AV} {c : Addr} {o : Option AV} {R : Led → Prop} (hE : EnvOk env names L cl) (hx : LookT x .cell names) (hc : LookT x c cl) (hp : Pick (c, .cell o) l l') (h : R ((c, .cell (some a)) :: l')) : StN G A env x a l R X := fun v hv s N => by
  (refine PL.x1_1 (N.at hp) ?_; rintro v' hc' _)
  exact wpAny_storeName_cell hE.kind (hE.kindOf hx) (hE.cell hc) hc' fun h' hv' hs' => ⟨(), _, trivial, N.upd (tk := s.toks) (ao' := .cell (some a)) hp hs'.extBut ⟨some v, hv', v, rfl, hv⟩, h⟩
/-- an assignment to a target -/
noncomputable def Asg (G : Gd) (A : Around) (env : Env) (t : Expr) (a : AV) (l : Led) (R : Led → Prop) (X : Xp) : Prop := ∀ v, a.Is v → Tr G A (assign t env v) (fun (_ _ : Unit) => True) l (fun _ l' => R l') X
theorem Asg.name {x : Str} {pos : Pos} {a : AV} {R : Led → Prop} (h : StN G A env x a l R X) : Asg G A env (.Name x pos) a l R X := fun v hv s N => wpAny_assign_Name (h v hv s N)
theorem EE.walrus' {e1 e2 : Expr} {pos : Pos} {R : AV → Led → Prop} (h : EE G A env e2 l (fun a l₁ => Asg G A env e1 a l₁ (R a) X) X) : EE G A env (.NamedExpr e1 e2 pos) l R X := EE.walrus h
theorem SS.assign {x : Str} {p1 pos : Pos} {value : Expr} (h : EE G A env value l (fun a l₁ => StN G A env x a l₁ (fun l₂ => R .next l₂) X) X) (hs : swapsWith value (some (.Name x p1)) pos.line env = pure false := by with_unfolding_all rfl) :
    SS G A env (.Assign [.Name x p1] value pos) l R X :=
  fun s N => wpAny_Assign_Name (wpAny_mono (h s N) (fun v s₁ ⟨a, l₁, ha, N₁, h₁⟩ => wpAny_mono (h₁ v ha s₁ N₁) (fun _ s₂ ⟨_, l₂, _, N₂, h₂⟩ => ⟨.next, l₂, rfl, N₂, h₂⟩) fun _ _ y => y) fun _ _ y => y) hs
theorem SS.if {t : Expr} {b1 b2 : List Stmt} {pos : Pos} (h : TT G A env t l (fun b l₁ => (b = true → BB G A env b1 l₁ R X) ∧ (b = false → BB G A env b2 l₁ R X)) X) : SS G A env (.If t b1 b2 pos) l R X :=
  fun s N => wpAny_If (wpAny_mono (h s N) (fun v s₁ ⟨b, l₁, hb, N₁, h₁, h₂⟩ => by
    subst hb
    cases v with
    | true => simpa using h₁ rfl s₁ N₁
    | false => simpa using h₂ rfl s₁ N₁) fun _ _ y => y)
theorem SS.ret {e : Expr} {pos : Pos} (h : EE G A env e l (fun a l₁ => R (.ret a) l₁) X) : SS G A env (.Return (some e) pos) l R X :=
  fun s N => wpAny_Return_some (wpAny_mono (h s N) (fun v s₁ ⟨a, l₁, ha, N₁, h₁⟩ => ⟨.ret a, l₁, (PL.m1_1 v rfl ha), N₁, h₁⟩) fun _ _ y => y)
theorem SS.expr {e : Expr} {pos : Pos} (hE : EnvOk env names L cl) (h : EE G A env e l (fun _ l₁ => R .next l₁) X) (hs : swapsWith e none pos.line env = pure false := by with_unfolding_all rfl) : SS G A env (.Expr e pos) l R X :=
  fun s N => wpAny_Expr_any (wpAny_mono (h s N) (fun v s₁ ⟨a, l₁, ha, N₁, h₁⟩ => ⟨.next, l₁, rfl, N₁, h₁⟩) fun _ _ y => y) (by unfold interactive; rw [hE.kind]; rfl) hs
theorem SS.brk {pos : Pos} (h : R .brk l) : SS G A env (.Break pos) l R X := fun s N => wpAny_Break ⟨.brk, l, rfl, N, h⟩
theorem SS.cont {pos : Pos} (h : R .cont l) : SS G A env (.Continue pos) l R X := fun s N => wpAny_Continue ⟨.cont, l, rfl, N, h⟩
theorem SS.assert {t : Expr} {m : Option Expr} {pos : Pos} (h : TT G A env t l (fun b l₁ => b = true ∧ R .next l₁) X) : SS G A env (.Assert t m pos) l R X :=
  fun s N => wpAny_Assert_holds (wpAny_mono (h s N) (fun v s₁ ⟨b, l₁, hb, N₁, h₁, h₂⟩ => ⟨by rw [hb]; exact h₁, ⟨.next, l₁, rfl, N₁, h₂⟩⟩) fun _ _ y => y)
end
end PL
end
section
open PySem PySem.Calls PyProof.Rows PySem.W
set_option autoImplicit false
set_option linter.unusedVariables false
namespace PL

section
variable {G : Gd} {A : Around} {env : Env} {l l' : Led} {X : Xp} {R : AV → Led → Prop}

/-! subscripts -/
noncomputable def SubOp (G : Gd) (A : Around) (value slice : Expr) (a i : AV) (l : Led) (R : AV → Led → Prop) (X : Xp) : Prop := Op2 G A (fun v u => subscriptTail value slice v u) a i l R X
theorem EE.sub {value slice : Expr} {pos : Pos} (h : EE G A env value l (fun a l₁ => EE G A env slice l₁ (fun i l₂ => SubOp G A value slice a i l₂ R X) X) X) : EE G A env (.Subscript value slice pos) l R X :=
  fun s N => Subscript_ (wpAny_mono (h s N) (fun v s₁ ⟨a, l₁, ha, N₁, h₁⟩ => wpAny_mono (h₁ s₁ N₁) (fun u s₂ ⟨b, l₂, hb, N₂, h₂⟩ => h₂ v u ha hb s₂ N₂) fun _ _ y => y) fun _ _ y => y)
theorem SubOp.list {value slice : Expr} {p : Addr} {xs : List AV} {i : AV} (hp : Pick (p, .list xs) l l') (h : Op2 G A getItem (.ref p) i l R X)
    (hs : ∀ v u, ∃ ops, subscripted slice false v u = operate ops (getItem v u) := by intro _ _; with_unfolding_all exact ⟨_, rfl⟩) : SubOp G A value slice (.ref p) i l R X := fun v u hv hu s N => by
  (refine PL.x1_1 (N.at hp) ?_; rintro vs hl _)
  obtain ⟨ops, e⟩ := hs v u
  cases hv
  exact tail_any hl.isList.typeIs slot_list_getitem.lookup (h _ u rfl hu s N) e
theorem SubOp.str {value slice : Expr} {x : Str} {i : AV} (h : Op2 G A getItem (.str x) i l R X)
    (hs : ∀ v u, ∃ ops, subscripted slice false v u = operate ops (getItem v u) := by intro _ _; with_unfolding_all exact ⟨_, rfl⟩) : SubOp G A value slice (.str x) i l R X := fun v u hv hu s N => by
  obtain ⟨ops, e⟩ := hs v u
  obtain ⟨t, rfl⟩ := hv
  exact tail_any (T := "str") rfl F.slot_str_getitem.lookup (h _ u ⟨t, rfl⟩ hu s N) e
theorem SubOp.sdict {value slice : Expr} {p : Addr} {kvs : List (Str × AV)} {ep : Nat} {i : AV} (hp : Pick (p, .sdict kvs ep) l l') (h : Op2 G A getItem (.ref p) i l R X)
    (hs : ∀ v u, ∃ ops, subscripted slice false v u = operate ops (getItem v u) := by intro _ _; with_unfolding_all exact ⟨_, rfl⟩) : SubOp G A value slice (.ref p) i l R X := fun v u hv hu s N => by
  obtain ⟨_, kvs', hd, _⟩ := N.at hp
  obtain ⟨ops, e⟩ := hs v u
  cases hv
  exact tail_any hd.dictOf.typeIs F.slot_dict_getitem.lookup (h _ u rfl hu s N) e
theorem SubOp.idict {value slice : Expr} {p : Addr} {kvs : List (Int × AV)} {ep : Nat} {i : AV} (hp : Pick (p, .idict kvs ep) l l') (h : Op2 G A getItem (.ref p) i l R X)
    (hs : ∀ v u, ∃ ops, subscripted slice false v u = operate ops (getItem v u) := by intro _ _; with_unfolding_all exact ⟨_, rfl⟩) : SubOp G A value slice (.ref p) i l R X := fun v u hv hu s N => by
  obtain ⟨_, kvs', hd, _⟩ := N.at hp
  obtain ⟨ops, e⟩ := hs v u
  cases hv
  exact tail_any hd.dictOf.typeIs F.slot_dict_getitem.lookup (h _ u rfl hu s N) e

theorem Get.list {p : Addr} {xs : List AV} {k : Int} {a : AV} (hp : Pick (p, .list xs) l l') (h0 : 0 ≤ k) (hz : k < 2 ^ 63) (hx : xs[k.toNat]? = some a) (h : R a l) : Op2 G A getItem (.ref p) (.int k) l R X := fun v u hv hu s N => by
  (refine PL.x1_1 (N.at hp) ?_; rintro vs hl ha)
  (refine PL.x1_1 (ha.get hx) ?_; rintro b hb hab)
  cases hv; obtain ⟨t, rfl⟩ := hu
  exact wpAny_getItem_list hl.isList h0 hz (by rw [← Array.getElem?_toList]; exact hb) ⟨a, l, hab, N, h⟩
/-- the last item -/
theorem Get.last {p : Addr} {xs : List AV} {a : AV} (hp : Pick (p, .list (xs ++ [a])) l l') (hz : xs.length < 1000000) (h : R a l) : Op2 G A getItem (.ref p) (.int (-1)) l R X := fun v u hv hu s N => by
  (refine PL.x1_1 (N.at hp) ?_; rintro vs hl ha)
  have hlen : vs.size = xs.length + 1 := by rw [← Array.length_toList, ← ha.length, List.length_append, List.length_singleton]
  (refine PL.x1_1 (ha.get (i := xs.length) (a := a) (by simp)) ?_; rintro b hb hab)
  cases hv; obtain ⟨t, rfl⟩ := hu
  exact wpAny_getItem_list_neg hl.isList (by decide) (by lia) (by decide) (x := b) (by rw [hlen, show (-1 + ((xs.length + 1 : Nat) : Int)).toNat = xs.length by lia, ← Array.getElem?_toList]; exact hb) ⟨a, l, hab, N, h⟩
theorem valueAt_of {K : Type} [DecidableEq K] {kvs : List (K × AV)} {kvs' : List (K × Value)} (h : All2 KRel kvs kvs') {k : K} {a : AV} (hk : (kvs.map (·.1)).Nodup) (hm : (k, a) ∈ kvs) : ∃ v, valueAt kvs' k = some v ∧ a.Is v := by
  induction h with
  | nil => cases hm
  | @cons p q ps qs hpq _ ih =>
    obtain ⟨pk, pa⟩ := p; obtain ⟨qk, qv⟩ := q
    obtain ⟨e1, e2⟩ := hpq
    cases e1
    rw [List.map_cons, List.nodup_cons] at hk
    rcases List.mem_cons.mp hm with e | hm
    · cases e; exact (PL.m1_1 qv (by simp [valueAt]) e2)
    · have : k ≠ pk := fun e => hk.1 (e ▸ List.mem_map.mpr (PL.m1_1 ((k, a)) hm rfl))
      (refine PL.x1_1 (ih hk.2 hm) ?_; rintro v hv ha)
      refine (PL.m1_1 v ?_ ha)
      unfold valueAt at hv ⊢
      rw [List.find?_cons, decide_eq_false (by simpa using fun e => this e.symm)]
      exact hv
theorem keys_of {K : Type} {kvs : List (K × AV)} {kvs' : List (K × Value)} (h : All2 KRel kvs kvs') : kvs.map (·.1) = kvs'.map (·.1) := by
  induction h with
  | nil => rfl
  | cons hpq _ ih => rw [List.map_cons, List.map_cons, hpq.1, ih]
theorem Get.sdict {p : Addr} {kvs : List (Str × AV)} {ep : Nat} {k : Str} {a : AV} (hp : Pick (p, .sdict kvs ep) l l') (hm : (k, a) ∈ kvs) (h : R a l) : Op2 G A getItem (.ref p) (.str k) l R X := fun v u hv hu s N => by
  obtain ⟨_, kvs', hd, hr⟩ := N.at hp
  (refine PL.x1_1 (valueAt_of hr (by rw [keys_of hr]; exact hd.nodup) hm) ?_; rintro v' hv' ha)
  cases hv; obtain ⟨t, rfl⟩ := hu
  exact wpAny_getItem_of (knd := PySem.strKind G.prog G.w) (k := k) (by show Value.isStrOf k (.str k t) = true; simp [Value.isStrOf]) hd.dictOf.mapOf hv' ⟨a, l, ha, N.toks _, h⟩
theorem Get.idict {p : Addr} {kvs : List (Int × AV)} {ep : Nat} {k : Int} {a : AV} (hp : Pick (p, .idict kvs ep) l l') (hm : (k, a) ∈ kvs) (h : R a l) : Op2 G A getItem (.ref p) (.int k) l R X := fun v u hv hu s N => by
  obtain ⟨_, kvs', hd, hr⟩ := N.at hp
  (refine PL.x1_1 (valueAt_of hr (by rw [keys_of hr]; exact hd.nodup) hm) ?_; rintro v' hv' ha)
  cases hv; obtain ⟨t, rfl⟩ := hu
  exact wpAny_getItem_of (knd := intKind G.prog G.w) (k := k) (by show Value.isInt k (.int k t) = true; simp [Value.isInt]) hd.dictOf.mapOf hv' ⟨a, l, ha, N.toks _, h⟩

/-! a store at a place of a list -/
noncomputable def SetI (G : Gd) (A : Around) (o i a : AV) (l : Led) (R : Led → Prop) (X : Xp) : Prop := ∀ v u x, o.Is v → i.Is u → a.Is x → Tr G A (setItem v u x) (fun (_ _ : Unit) => True) l (fun _ l' => R l') X
theorem SetI.list {p : Addr} {xs : List AV} {k : Int} {a : AV} {R : Led → Prop} (hp : Pick (p, .list xs) l l') (h0 : 0 ≤ k) (hz : k < 2 ^ 63) (hk : k < xs.length) (h : R ((p, .list (xs.set k.toNat a)) :: l')) : SetI G A (.ref p) (.int k) a l R X := fun v u x hv hu hx s N => by
  (refine PL.x1_1 (N.at hp) ?_; rintro vs hl ha)
  have hlen : vs.size = xs.length := by rw [← Array.length_toList, ← ha.length]
  cases hv; obtain ⟨t, rfl⟩ := hu
  obtain ⟨n, ho⟩ := id hl
  unfold setItem
  refine wpAny_holding ?_
  refine wpAny_bind (wpAny_sequenceKey hl.isList.typeIs (by decide) ?_)
  refine wpAny_bind (wpAny_callSpecial?_slot (name := Str.ofString "__setitem__") hl.isList.typeIs slot_list_setitem (wpAny_call_entry slot_list_setitem hl.isList.typeIs entry_list_setitem ?_ (args_list_setitem _ _ _)))
  show wpAny _ _ (Builtin.List.listSubscript? (.int k t) >>= _) _ _ s
  refine wpAny_bind (wpAny_listSubscript_int (fitsIndex_of h0 hz) ?_)
  obtain ⟨j, rfl⟩ := Int.eq_ofNat_of_zero_le h0
  have hj : j < vs.size := by lia
  show wpAny _ _ ((seqItemAt p j >>= fun r => pure (r.map (j, ·))) >>= _) _ _ s
  refine wpAny_bind (wpAny_bind (wpAny_seqItemAt ho rfl (wpAny_pure ?_)))
  rw [Array.getElem?_eq_getElem hj]
  show wpAny _ _ (setSeqItemAt p j x >>= _) _ _ s
  refine wpAny_bind (wpAny_setSeqItemAt ho rfl ?_)
  have fin : Rep G { s with heap := s.heap.update p (Obj.mapSeq (·.setIfInBounds j x)) } ((p, .list (xs.set j a)) :: l') := by
    refine N.upd (tk := s.toks) (ao' := .list (xs.set j a)) hp (Heap.SameBut.update ..).extBut (PL.m1_1 (vs.setIfInBounds j x) (⟨n, ?_⟩) ?_)
    · refine (Heap.get?_update_self _ ho rfl).trans ?_
      simp [Obj.mapSeq]
    · rw [Array.toList_setIfInBounds]; exact ha.set hx j
  exact wpAny_pure (PL.m1_1 (.none) rfl (wpAny_pure ⟨(), _, trivial, fin, h⟩))
theorem SS.setitem {o i value : Expr} {p1 pos : Pos} {R : AF → Led → Prop} (h : EE G A env value l (fun a l₁ => EE G A env o l₁ (fun ov l₂ => EE G A env i l₂ (fun iv l₃ => SetI G A ov iv a l₃ (fun l₄ => R .next l₄) X) X) X) X)
    (hs : swapsWith value (some (.Subscript o i p1)) pos.line env = pure false := by with_unfolding_all rfl) : SS G A env (.Assign [.Subscript o i p1] value pos) l R X :=
  fun s N => wpAny_Assign_Subscript (wpAny_mono (h s N) (fun v s₁ ⟨a, l₁, ha, N₁, h₁⟩ => wpAny_mono (h₁ s₁ N₁) (fun u s₂ ⟨b, l₂, hb, N₂, h₂⟩ => wpAny_mono (h₂ s₂ N₂) (fun w s₃ ⟨c, l₃, hc, N₃, h₃⟩ => wpAny_mono (h₃ u w v hb hc ha s₃ N₃)
    (fun _ s₄ ⟨_, l₄, _, N₄, h₄⟩ => ⟨.next, l₄, rfl, N₄, h₄⟩) fun _ _ y => y) fun _ _ y => y) fun _ _ y => y) fun _ _ y => y) hs

/-! calls -/
/-- the callee is one that the machine or a frame keeps -/
structure Kept (G : Gd) (f : AV) : Prop where
  keep : ∀ v, f.Is v → ∀ h : Heap, (∀ b o, G.t.get? b = some o → h.get? b = some o) → ∃ k, (k = Keeper.frame ∨ k = Keeper.machine ∨ k = Keeper.boundFrame) ∧ Looks (model G.prog G.w) h (keeperOf v) k
theorem Kept.lit {f : Value} (hf : keeperOf f = pure .machine) : Kept G (.lit f) := ⟨fun v e h _ => (PL.m1_1 (.machine) (.inr (.inl rfl)) (by cases e; exact Looks.of_pure hf))⟩
theorem Kept.fn {f : Addr} {o : Obj} {fd : FuncData} (ho : G.t.get? f = some o) (hd : o.data = .func fd) : Kept G (.ref f) := ⟨fun v e h hk => (PL.m1_1 (.frame) (.inl rfl) (by
  cases e
  intro A Q E s k q
  unfold keeperOf
  refine wpAny_bind (wpAny_load (k _ _ (hk _ _ ho)) ?_)
  rw [hd]
  exact wpAny_pure q))⟩

theorem callWith_args {f : AV} {first : List AV} {fv : Value} {firstv : List Value} {pos : Pos} {ts : List (Bool × Sem Value)} (hk : Kept G f) (hf : f.Is fv) (hfirst : AllIs first firstv) (hst : (ts.any (·.1)) = false)
    (h : EA G A ts l (fun as l₁ => CC G A f (first ++ as) l₁ R X) X) : Tr G A (callWith pos fv firstv ts []) AV.Is l R X := fun s N => by
  refine callWith_of (P := fun h => ∀ b o, G.t.get? b = some o → h.get? b = some o) (by simpa using hst) (fun h hh => hk.keep fv hf h hh) ?_
  have go : ∀ {ts : List (Bool × Sem Value)} {Q : Args → Shared → Prop} {E : Value → Shared → Prop}, (ts.any (·.1)) = false → wpAny (model G.prog G.w) A (spliced ts) (fun vs s' => Q { pos := vs } s') E s → wpAny (model G.prog G.w) A (evalArgs fv true ts []) Q E s := by
    intro ts Q E hst h
    cases ts with
    | nil =>
      unfold evalArgs
      show wpAny _ _ (spliced [] >>= _) _ _ s
      refine wpAny_bind (wpAny_mono h (fun vs s₁ h₁ => ?_) fun _ _ y => y)
      refine wpAny_bind (wpAny_pure (wpAny_holding ?_))
      show wpAny _ _ (evalAll [] >>= _) _ _ s₁
      exact wpAny_bind (wpAny_evalAll_nil (wpAny_bind (wpAny_pure (wpAny_pure h₁))))
    | cons t ts =>
      obtain ⟨b, t⟩ := t
      cases b with
      | true => simp at hst
      | false => exact evalArgs_plain h
  exact go hst (wpAny_mono (h s N) (fun vs s₁ ⟨as, l₁, has, N₁, h₁⟩ => ⟨N₁.keep, h₁ fv (firstv ++ vs) hf (hfirst.append has) s₁ N₁⟩) fun _ _ y => y)
end
end PL
end
section
open PySem PySem.Calls PyProof.Rows PySem.W
set_option autoImplicit false
set_option linter.unusedVariables false
namespace PL

section
variable {G : Gd} {A : Around} {env : Env} {l l' : Led} {X : Xp} {R : AV → Led → Prop}


theorem get1 {a : AV} {vs : List Value} (h : AllIs [a] vs) : ∃ v, vs = [v] ∧ a.Is v := by
  (refine PL.x2_2 (h.consL) ?_; rintro v us rfl hv h)
  cases h; exact (PL.m1_1 v rfl hv)
theorem get2 {a b : AV} {vs : List Value} (h : AllIs [a, b] vs) : ∃ v u, vs = [v, u] ∧ a.Is v ∧ b.Is u := by
  (refine PL.x2_2 (h.consL) ?_; rintro v us rfl hv h)
  (refine PL.x1_1 (get1 h) ?_; rintro u rfl hu); exact (PL.m2_2 v u rfl hv hu)
theorem get3 {a b c : AV} {vs : List Value} (h : AllIs [a, b, c] vs) : ∃ v u w, vs = [v, u, w] ∧ a.Is v ∧ b.Is u ∧ c.Is w := by
  (refine PL.x2_2 (h.consL) ?_; rintro v us rfl hv h)
  (refine PL.x2_2 (get2 h) ?_; rintro u w rfl hu hw); exact (PL.m3_3 v u w rfl hv hu hw)
/-- a method is looked for -/
noncomputable def GM (G : Gd) (A : Around) (name : Str) (a : AV) (l : Led) (R : AV → List AV → Led → Prop) (X : Xp) : Prop :=
  ∀ v pl, a.Is v → Tr G A (getMethod v name pl) (fun (p : AV × List AV) (q : Value × List Value) => p.1.Is q.1 ∧ AllIs p.2 q.2) l (fun p l' => R p.1 p.2 l') X
theorem EE.mcall {o : Expr} {name : Str} {apos pos : Pos} {es : List Expr} {pl : Sem Bool} (h : EE G A env o l (fun a l₁ => GM G A name a l₁ (fun f first l₂ => Kept G f ∧ EA G A (backTo pos (starEach es env)) l₂ (fun as l₃ => CC G A f (first ++ as) l₃ R X) X) X) X)
    (hst : (backTo pos (starEach es env)).any (·.1) = false := by with_unfolding_all rfl)
    (he : eval (.Call (.Attribute o name apos) es [] pos) env = (do
      let ov ← eval o env
      standAt apos.atName
      let (f, first) ← holding [ov] (getMethod ov name pl)
      callWith pos f first (backTo pos (starEach es env)) (backToKw pos (keywordEach [] env))) := by with_unfolding_all rfl) :
    EE G A env (.Call (.Attribute o name apos) es [] pos) l R X :=
  fun s N => methodCall_KW (wpAny_mono (h s N) (fun v s₁ ⟨a, l₁, ha, N₁, h₁⟩ => wpAny_mono (h₁ v pl ha s₁ N₁) (fun q s₂ ⟨p, l₂, hpq, N₂, hk, h₂⟩ => callWith_args (first := p.2) hk hpq.1 hpq.2 hst h₂ s₂ N₂) fun _ _ y => y) fun _ _ y => y) he

structure BM (T : String) (name : Str) (id : String) : Prop where
  plain : PlainAttrs T
  slot : Slot T name id
  typ : typeOf (.builtin id) = pure (.type "method_descriptor")
/-- the value is of a built-in type -/
noncomputable def OfT (G : Gd) (a : AV) (T : String) (l : Led) : Prop := ∀ v s, a.Is v → Rep G s l → s.TypeIs v T ∧ ∀ b, v = .ref b → ∃ ob, s.heap.get? b = some ob ∧ ob.dict = none
theorem OfT.str {x : Str} : OfT G (.str x) "str" l := fun v s ⟨t, e⟩ N => by subst e; exact ⟨rfl, fun b e => by cases e⟩
theorem OfT.list {p : Addr} {xs : List AV} (hp : Pick (p, .list xs) l l') : OfT G (.ref p) "list" l := fun v s e N => by
  cases e
  (refine PL.x1_1 (N.at hp) ?_; rintro vs hl _)
  exact ⟨hl.isList.typeIs, fun b e => by cases e; obtain ⟨n, h⟩ := hl; exact (PL.m1_1 _ h rfl)⟩
theorem OfT.sdict {p : Addr} {kvs : List (Str × AV)} {ep : Nat} (hp : Pick (p, .sdict kvs ep) l l') : OfT G (.ref p) "dict" l := fun v s e N => by
  cases e
  obtain ⟨_, vs, hl, _⟩ := N.at hp
  exact ⟨hl.dictOf.typeIs, fun b e => hl.dictOf.mapOf.noDict b e⟩
theorem OfT.sset {p : Addr} {S : Str → Bool} {n : Nat} (hp : Pick (p, .sset S n) l l') : OfT G (.ref p) "set" l := fun v s e N => by
  cases e
  have hl : s.heap.SetOf (PySem.strKind G.prog G.w) p S n := N.at hp
  exact ⟨hl.typeIs, fun b e => hl.noDict b e⟩
theorem GM.builtin {name : Str} {T id : String} {a : AV} {R : AV → List AV → Led → Prop} (hB : BM T name id) (hT : OfT G a T l) (h : R (.lit (.builtin id)) [a] l) : GM G A name a l R X := fun v pl ha s N =>
  _root_.PySem.getMethod_builtin (hT v s ha N).1 hB.plain hB.slot hB.typ (hT v s ha N).2 ⟨(.lit (.builtin id), [a]), l, ⟨rfl, .one ha⟩, N, h⟩
theorem Kept.builtin {id : String} : Kept G (.lit (.builtin id)) := .lit rfl
theorem Kept.type {T : String} : Kept G (.lit (.type T)) := .lit rfl

theorem bm_append : BM "list" "append" "list.append" := ⟨F.plainAttrs_list, F.slot_list_append, F.type_list_append⟩
theorem bm_pop : BM "list" "pop" "list.pop" := ⟨F.plainAttrs_list, F.slot_list_pop, F.type_list_pop⟩
theorem bm_clear : BM "list" "clear" "list.clear" := ⟨F.plainAttrs_list, F.slot_list_clear, F.type_list_clear⟩
theorem bm_dget : BM "dict" "get" "dict.get" := ⟨F.plainAttrs_dict, F.slot_dict_get, F.type_dict_get⟩
theorem bm_dvalues : BM "dict" "values" "dict.values" := ⟨F.plainAttrs_dict, F.slot_dict_values, F.type_dict_values⟩
theorem bm_sadd : BM "set" "add" "set.add" := ⟨F.plainAttrs_set, F.slot_set_add, F.type_set_add⟩
theorem bm_find : BM "str" "find" "str.find" := ⟨F.plainAttrs_str, F.slot_str_find, F.type_str_find⟩
theorem bm_join : BM "str" "join" "str.join" := ⟨F.plainAttrs_str, F.slot_str_join, F.type_str_join⟩
theorem bm_replace : BM "str" "replace" "str.replace" := ⟨F.plainAttrs_str, F.slot_str_replace, F.type_str_replace⟩
theorem bm_translate : BM "str" "translate" "str.translate" := ⟨F.plainAttrs_str, F.slot_str_translate, F.type_str_translate⟩

theorem CC.append {p : Addr} {xs : List AV} {a : AV} (hp : Pick (p, .list xs) l l') (hz : xs.length < 1000000) (h : R .none ((p, .list (xs ++ [a])) :: l')) : CC G A (.lit (.builtin "list.append")) [.ref p, a] l R X := fun f vs hf hvs s N => by
  cases hf
  (refine PL.x2_2 (get2 hvs) ?_; rintro v u rfl hv hu)
  cases hv
  (refine PL.x1_1 (N.at hp) ?_; rintro ws hl ha)
  exact wpAny_list_append_plain hl (fun h' hl' hs' => ⟨.none, _, rfl, N.upd (tk := s.toks) (ao' := .list (xs ++ [a])) hp hs'.extBut (PL.m1_1 _ hl' (by rw [Array.toList_push]; exact ha.append (.one hu))), h⟩)
    (by rw [← Array.length_toList, ← ha.length]; exact Nat.le_trans (Nat.le_of_lt hz) (by decide))
theorem CC.pop {p : Addr} {xs : List AV} {a : AV} (hp : Pick (p, .list (xs ++ [a])) l l') (hz : xs.length < 1000000) (h : R a ((p, .list xs) :: l')) : CC G A (.lit (.builtin "list.pop")) [.ref p] l R X := fun f vs hf hvs s N => by
  cases hf
  (refine PL.x1_1 (get1 hvs) ?_; rintro v rfl hv)
  cases hv
  (refine PL.x1_1 (N.at hp) ?_; rintro ws ⟨n, hl⟩ ha)
  have hlen : ws.size = xs.length + 1 := by rw [← Array.length_toList, ← ha.length, List.length_append, List.length_singleton]
  (refine PL.x1_1 (ha.get (i := xs.length) (a := a) (by simp)) ?_; rintro b hb hab)
  refine call_meets F.slot_list_pop (PL.m1_1 _ hl rfl) F.entry_list_pop (F.args_list_pop_1 _) (MeetsSeq.list_pop_last p ws n b (by rw [hlen, Nat.add_sub_cancel, ← Array.getElem?_toList]; exact hb) (by rw [hlen]; exact Nat.le_trans (Nat.succ_le_succ (Nat.le_of_lt hz)) (by decide))) ⟨hl, ?_⟩
  refine ⟨a, _, hab, N.upd (tk := s.toks) (ao' := .list xs) hp (Heap.SameBut.update ..).extBut (PL.m1_1 (ws.eraseIdxIfInBounds (ws.size - 1)) (⟨_, Heap.get?_update_self _ hl rfl⟩) ?_), h⟩
  have e : (ws.eraseIdxIfInBounds (ws.size - 1)).toList = ws.toList.take xs.length := by
    rw [hlen, Nat.add_sub_cancel, Array.toList_eraseIdxIfInBounds, List.eraseIdx_eq_take_drop_succ, List.drop_eq_nil_of_le (by rw [Array.length_toList, hlen]; exact Nat.le_refl _), List.append_nil]
  rw [e]
  have := ha.take xs.length
  simpa using this
theorem CC.clear {p : Addr} {xs : List AV} (hp : Pick (p, .list xs) l l') (hz : xs.length < 1000000) (h : R .none ((p, .list []) :: l')) : CC G A (.lit (.builtin "list.clear")) [.ref p] l R X := fun f vs hf hvs s N => by
  cases hf
  (refine PL.x1_1 (get1 hvs) ?_; rintro v rfl hv)
  cases hv
  (refine PL.x1_1 (N.at hp) ?_; rintro ws ⟨n, hl⟩ ha)
  have hlen : ws.size = xs.length := by rw [← Array.length_toList, ← ha.length]
  refine call_meets F.slot_list_clear (PL.m1_1 _ hl rfl) F.entry_list_clear (F.args_list_clear_1 _) (AutoSeq1.list_clear_list_0 p ws n (by rw [hlen]; exact Nat.le_trans (Nat.le_of_lt hz) (by decide))) ⟨hl, ?_⟩
  exact ⟨.none, _, rfl, N.upd (tk := s.toks) (ao' := .list []) hp (Heap.SameBut.update ..).extBut (PL.m1_1 (#[]) (⟨_, Heap.get?_update_self _ hl rfl⟩) (.nil)), h⟩
theorem CC.len_list {p : Addr} {xs : List AV} (hp : Pick (p, .list xs) l l') (hz : xs.length < 1000000) (h : R (.int xs.length) l) : CC G A (.lit (.builtin "len")) [.ref p] l R X := fun f vs hf hvs s N => by
  cases hf
  (refine PL.x1_1 (get1 hvs) ?_; rintro v rfl hv)
  cases hv
  (refine PL.x1_1 (N.at hp) ?_; rintro ws hl ha)
  have hlen : ws.size = xs.length := by rw [← Array.length_toList, ← ha.length]
  exact call_len_list hl.isList (by rw [hlen]; lia) ⟨.int xs.length, l, ⟨_, by rw [hlen]⟩, N.toks _, h⟩
theorem CC.len_str {x : Str} (hz : x.length < 1000000) (h : R (.int x.length) l) : CC G A (.lit (.builtin "len")) [.str x] l R X := fun f vs hf hvs s N => by
  cases hf
  obtain ⟨v, rfl, t, rfl⟩ := get1 hvs
  exact PyProof.Rows.len_str (by lia) ⟨.int x.length, l, ⟨_, rfl⟩, N.toks _, h⟩
theorem CC.newset (h : ∀ p, R (.ref p) ((p, .sset (fun _ => false) 0) :: l)) : CC G A (.lit (.type "set")) [] l R X := fun f vs hf hvs s N => by
  cases hf
  cases hvs.nilL
  exact call_set_0 fun led => ⟨.ref s.heap.objs.size, _, rfl, N.push (ao := .sset (fun _ => false) 0) rfl (PL.m4_7 _ (#[]) 0 _ (Heap.get?_push_size _ rfl) ((PL.m0_2 rfl rfl rfl)) rfl (fun e he => by simp at he) (fun k => by simp) (by decide) (by rfl) rfl), h _⟩
theorem CC.sadd {p : Addr} {S : Str → Bool} {n : Nat} {k : Str} (hp : Pick (p, .sset S n) l l') (hn : n < 1000) (h : R .none ((p, .sset (fun k' => S k' || decide (k' = k)) (if S k then n else n + 1)) :: l')) : CC G A (.lit (.builtin "set.add")) [.ref p, .str k] l R X := fun f vs hf hvs s N => by
  cases hf
  obtain ⟨v, u, rfl, hv, t, rfl⟩ := get2 hvs
  cases hv
  have hS : s.heap.SetOf (PySem.strKind G.prog G.w) p S n := N.at hp
  exact call_set_add (knd := PySem.strKind G.prog G.w) (k := k) (by show Value.isStrOf k (.str k t) = true; simp [Value.isStrOf]) rfl hS (Nat.lt_of_le_of_lt (Nat.succ_le_of_lt hn) (by decide))
    fun h' hs' hS' => ⟨.none, _, rfl, N.upd (ao' := .sset _ _) hp hs'.extBut hS', h⟩
theorem Op2.inset {p : Addr} {S : Str → Bool} {n : Nat} {k : Str} (hp : Pick (p, .sset S n) l l') (h : R (.bool (S k)) l) : Op2 G A (compareOp .In) (.str k) (.ref p) l R X := fun v u ⟨t, hv⟩ hu s N => by
  subst hv; cases hu
  have hS : s.heap.SetOf (PySem.strKind G.prog G.w) p S n := N.at hp
  exact wpAny_inSet_of (knd := PySem.strKind G.prog G.w) (k := k) (by show Value.isStrOf k (.str k t) = true; simp [Value.isStrOf]) rfl hS ⟨.bool (S k), l, rfl, N.toks _, h⟩
/-- a dict's get: there, not there -/
theorem valueAt_none {K : Type} [DecidableEq K] {kvs : List (K × AV)} {kvs' : List (K × Value)} (h : All2 KRel kvs kvs') {k : K} (hk : k ∉ kvs.map (·.1)) : valueAt kvs' k = none := by
  rw [keys_of h] at hk
  unfold valueAt
  rw [List.find?_eq_none.mpr]; rfl
  intro p hp e
  exact hk (List.mem_map.mpr (PL.m1_1 p hp (of_decide_eq_true e)))
end
end PL
end
section
open PySem PySem.Calls PyProof.Rows PySem.W
set_option autoImplicit false
set_option linter.unusedVariables false
namespace PL

/-! a call of one of the text's own defs -/
noncomputable abbrev Bind := Str × AV
/-- the first values of a frame's names -/
inductive Init (bs : List Bind) : List (Str × NameKind) → List (Option AV) → Prop
  | nil : Init bs [] []
  | loc {x : Str} {a : AV} {ns : List (Str × NameKind)} {vs : List (Option AV)} : LookT x a bs → Init bs ns vs → Init bs ((x, .local) :: ns) (some a :: vs)
  | skip {p : Str × NameKind} {ns : List (Str × NameKind)} {vs : List (Option AV)} : Init bs ns vs → Init bs (p :: ns) (none :: vs)
/-- the first values of a frame's cells -/
inductive CInit (bs : List Bind) : List Str → List (Option AV) → Prop
  | nil : CInit bs [] []
  | val {x : Str} {a : AV} {ns : List Str} {vs : List (Option AV)} : LookT x a bs → CInit bs ns vs → CInit bs (x :: ns) (some a :: vs)
  | skip {x : Str} {ns : List Str} {vs : List (Option AV)} : CInit bs ns vs → CInit bs (x :: ns) (none :: vs)
inductive BKind (names : List (Str × NameKind)) : List Bind → Prop
  | nil : BKind names []
  | loc {x : Str} {a : AV} {bs : List Bind} : LookT x .local names → BKind names bs → BKind names ((x, a) :: bs)
  | cel {x : Str} {a : AV} {bs : List Bind} : LookT x .cell names → BKind names bs → BKind names ((x, a) :: bs)

theorem lookT_of_mem {β : Type} {x : Str} {b : β} : ∀ {l : List (Str × β)}, (x, b) ∈ l → LookT x b l
  | _ :: _, h => by
    rcases List.mem_cons.mp h with e | h
    · cases e; exact .here
    · exact .there (lookT_of_mem h)
theorem Init.look {bs : List Bind} {ns : List (Str × NameKind)} {vs : List (Option AV)} (h : Init bs ns vs) {x : Str} {k : NameKind} {a : AV} (q : Look x k a ns vs) : k = .local ∧ LookT x a bs := by
  induction h with
  | nil => cases q
  | loc hx _ ih => cases q with
    | here => exact ⟨rfl, hx⟩
    | there q => exact ih q
  | skip _ ih => cases q with
    | there q => exact ih q

noncomputable abbrev BRel (bs : List Bind) (us : List (Str × Value)) : Prop := All2 (fun (p : Bind) (q : Str × Value) => p.1 = q.1 ∧ p.2.Is q.2) bs us
theorem BRel.names {bs : List Bind} {us : List (Str × Value)} (h : BRel bs us) : bs.map (·.1) = us.map (·.1) := by
  induction h with
  | nil => rfl
  | cons h _ ih => rw [List.map_cons, List.map_cons, h.1, ih]

theorem bindL_not {kindOf : Str → Option NameKind} : ∀ {us : List (Str × Value)} {m : Str → Option Value} {x : Str}, x ∉ us.map (·.1) → bindL kindOf us m x = m x
  | [], _, _, _ => rfl
  | (n, v) :: r, m, x, h => by
    rw [List.map_cons, List.mem_cons, not_or] at h
    unfold bindL
    rw [bindL_not h.2]
    split
    · simp [h.1]
    · rfl
theorem bindC_not {kindOf : Str → Option NameKind} : ∀ {us : List (Str × Value)} {m : Str → Option Value} {x : Str}, x ∉ us.map (·.1) → bindC kindOf us m x = m x
  | [], _, _, _ => rfl
  | (n, v) :: r, m, x, h => by
    rw [List.map_cons, List.mem_cons, not_or] at h
    unfold bindC
    rw [bindC_not h.2]
    split
    · rfl
    · simp [h.1]
theorem BRel.bindL {kindOf : Str → Option NameKind} {bs : List Bind} {us : List (Str × Value)} (h : BRel bs us) : ∀ {m : Str → Option Value}, (bs.map (·.1)).Nodup → ∀ {x : Str} {a : AV}, LookT x a bs → kindOf x = some .local → ∃ v, PySem.bindL kindOf us m x = some v ∧ a.Is v := by
  induction h with
  | nil => intro m _ x a q; cases q
  | @cons p q ps qs hpq hr ih =>
    intro m hn x a hx hk
    obtain ⟨pn, pa⟩ := p; obtain ⟨qn, qv⟩ := q
    obtain ⟨e, ha⟩ := hpq
    cases e
    rw [List.map_cons, List.nodup_cons] at hn
    cases hx with
    | here =>
      unfold PySem.bindL
      rw [bindL_not (by rw [← BRel.names hr]; exact hn.1), if_pos hk]
      exact (PL.m1_1 qv (by simp) ha)
    | there hx =>
      unfold PySem.bindL
      exact ih hn.2 hx hk
theorem BRel.bindC {kindOf : Str → Option NameKind} {bs : List Bind} {us : List (Str × Value)} (h : BRel bs us) : ∀ {m : Str → Option Value}, (bs.map (·.1)).Nodup → ∀ {x : Str} {a : AV}, LookT x a bs → kindOf x = some .cell → ∃ v, PySem.bindC kindOf us m x = some v ∧ a.Is v := by
  induction h with
  | nil => intro m _ x a q; cases q
  | @cons p q ps qs hpq hr ih =>
    intro m hn x a hx hk
    obtain ⟨pn, pa⟩ := p; obtain ⟨qn, qv⟩ := q
    obtain ⟨e, ha⟩ := hpq
    cases e
    rw [List.map_cons, List.nodup_cons] at hn
    cases hx with
    | here =>
      unfold PySem.bindC
      rw [bindC_not (by rw [← BRel.names hr]; exact hn.1), if_neg (by rw [hk]; decide)]
      exact (PL.m1_1 qv (by simp) ha)
    | there hx =>
      unfold PySem.bindC
      exact ih hn.2 hx hk

theorem cells_isSome : ∀ (names : List (Str × NameKind)) (n : Nat) (acc : List (Str × Addr)) (x : Str), ((x, NameKind.cell) ∈ names ∨ (acc.lookup x).isSome = true) → ((cellsFrom n names acc).lookup x).isSome = true
  | [], n, acc, x, h => by simpa [cellsFrom] using h
  | (y, k) :: r, n, acc, x, h => by
    unfold cellsFrom
    split
    · refine cells_isSome r _ _ x ?_
      rcases h with h | h
      · rcases List.mem_cons.mp h with e | h
        · cases e; right; simp
        · exact .inl h
      · right
        rw [List.lookup_cons]
        cases x == y with
        | true => rfl
        | false => exact h
    · rename_i hk
      refine cells_isSome r _ _ x ?_
      rcases h with h | h
      · rcases List.mem_cons.mp h with e | h
        · cases e; simp at hk
        · exact .inl h
      · exact .inr h
/-- the cells' names, the last first -/
noncomputable def cellKeys : List (Str × NameKind) → List Str → List Str
  | [], acc => acc
  | (x, k) :: r, acc => if k == .cell then cellKeys r (x :: acc) else cellKeys r acc
theorem cellKeys_of : ∀ (names : List (Str × NameKind)) (n : Nat) (acc : List (Str × Addr)), (cellsFrom n names acc).map (·.1) = cellKeys names (acc.map (·.1))
  | [], n, acc => rfl
  | (x, k) :: r, n, acc => by
    unfold cellsFrom cellKeys
    split
    · exact cellKeys_of r _ _
    · exact cellKeys_of r _ _
theorem cellKeys_mem : ∀ (names : List (Str × NameKind)) (acc : List Str) (x : Str), x ∈ cellKeys names acc → x ∈ acc ∨ (x, NameKind.cell) ∈ names
  | [], acc, x, h => .inl h
  | (y, k) :: r, acc, x, h => by
    unfold cellKeys at h
    split at h
    · rename_i hk
      have hk' : k = .cell := by simpa using hk
      rcases cellKeys_mem r _ x h with h | h
      · rcases List.mem_cons.mp h with rfl | h
        · right; rw [hk']; exact .head _
        · exact .inl h
      · exact .inr (.tail _ h)
    · rcases cellKeys_mem r _ x h with h | h
      · exact .inl h
      · exact .inr (.tail _ h)

/-- the ledger's part of the cells -/
noncomputable def cellLed : List (Str × Addr) → List (Option AV) → Led
  | (_, c) :: cl, o :: os => (c, .cell o) :: cellLed cl os
  | _, _ => []

noncomputable def retOf : AF → AV
  | .ret v => v
  | _ => .none

structure FnOk (G : Gd) (f : Addr) (fd : FuncData) (body : List Stmt) (names : List (Str × NameKind)) : Prop where
  obj : ∃ o, G.t.get? f = some o ∧ o.data = .func fd
  code : G.t.CodeRec fd.code fd.qualname
  nolimit : G.t.NoLimit
  body : fd.body = .stmts body
  hnames : fd.scope.names = names
  nodup : (names.map fun p => p.1).Nodup
  clos : fd.closure = []
  plain : ∀ p ∈ names, (p.1 == ("__debug__" : Str)) = false ∧ (p.1 == ("__classdict__" : Str)) = false
  globals : fd.globals = mainGlobals
  builtins : fd.builtins = builtinsNs
  co : fd.scope.isCoroutine = false
  gen : fd.scope.isGenerator = false
  kind : fd.scope.kind = .function


section
variable {G : Gd} {A : Around} {l l' : Led} {X : Xp} {R : AV → Led → Prop}
/-- the binding of plain positional arguments -/
theorem bind_plain {fd : FuncData} {args : List AV} {xs : List Str} {R : List Bind → Led → Prop} (h : R (xs.zip args) l) (hl : xs.length = args.length)
    (hb : ∀ vs : List Value, vs.length = args.length → bindArgs fd ⟨vs, []⟩ = pure (xs.zip vs)) : ∀ vs, AllIs args vs → Tr G A (bindArgs fd ⟨vs, []⟩) BRel l R X := fun vs hvs s N => by
  rw [hb vs hvs.length.symm]
  refine wpAny_pure ⟨xs.zip args, l, ?_, N, h⟩
  clear h hb N
  induction xs generalizing args vs with
  | nil => simp; exact .nil
  | cons x xs ih =>
    cases args with
    | nil => simp at hl
    | cons a as =>
      (refine PL.x2_2 (hvs.consL) ?_; rintro v us rfl ha hu)
      exact .cons ⟨rfl, ha⟩ (ih (by simpa using hl) us hu)

/-- a call, at the code's own level -/
noncomputable def CK (G : Gd) (A : Around) (f : AV) (args : List AV) (l : Led) (R : AV → Led → Prop) (X : Xp) : Prop := ∀ v vs, f.Is v → AllIs args vs → ∀ s, Rep G s l →
  codeAny (model G.prog G.w) A (.call v ⟨vs, []⟩) (fun r s' => match r with | .ok (.ret v) => Po G AV.Is R v s' | .ok _ => False | .error e => Px G X e s') s
theorem CC.ofK {f : AV} {args : List AV} (h : CK G A f args l R X) : CC G A f args l R X := fun v vs hv hvs s N => wpAny_call (h v vs hv hvs s N)
/-- an exception leaves a frame -/
noncomputable def LeaveX (G : Gd) (A : Around) (env : Env) (X : Xp) : Xp := fun e l => Tr G A (leaving env (.ref e)) (fun (_ _ : Unit) => True) l (fun _ l₃ => ∃ l₄, Sub l₄ l₃ ∧ X e l₄) noX
theorem CK.fnX {f : Addr} {fd : FuncData} {body : List Stmt} {names : List (Str × NameKind)} {args : List AV} (hF : FnOk G f fd body names) (hroom : A.depth < recursionLimit)
    (hbind : ∀ vs, AllIs args vs → Tr G A.in1 (bindArgs fd ⟨vs, []⟩) BRel l (fun bs l₁ => (bs.map fun p => p.1).Nodup ∧ BKind names bs ∧ ∃ vals ci, Init bs names vals ∧ CInit bs (cellKeys names []) ci ∧
      ∀ L cl env A', cl.map (fun p : Str × Addr => p.1) = cellKeys names [] → EnvOk env names L cl → A' = A.deeper env → env.code = fd.code → env.frame = some L → BB G A' env body ((L, .ns names vals) :: (cellLed cl ci ++ l₁)) (fun fl l₂ => ∃ l₃, Sub l₃ l₂ ∧ R (retOf fl) l₃) (LeaveX G A' env X)) X) :
    CK G A (.ref f) args l R X := fun v vs hv hvs s N => by
  cases hv
  (refine PL.x1_1 (hF.obj) ?_; rintro o ho hd)
  refine codeAny_call_function hroom (N.keep _ _ ho) hd hF.co hF.gen hF.body (hF.code.keeps N.keep) ?_
  refine wpAny_mono (hbind vs hvs s N) (fun us s₁ hq1 => ?_) (fun _ _ y => y)
  obtain ⟨bs, l₁, hbs, N₁, hnd, hbk, vals, ci, hi, hc, hbody⟩ := hq1
  rw [hF.clos]
  have hkinds : ∀ {bs : List Bind} {us : List (Str × Value)}, BRel bs us → BKind names bs → ∀ x ∈ us, fd.scope.names.lookup x.1 = some .local ∨ (fd.scope.names.lookup x.1 = some .cell ∧ ((cellsFrom (s₁.heap.objs.size + 1) fd.scope.names []).lookup x.1).isSome = true) := by
    intro bs us hr hb
    induction hr with
    | nil => intro x hx; cases hx
    | @cons p q ps qs hpq _ ih =>
      intro x hx
      have this : BKind names ps ∧ (LookT p.1 .local names ∨ LookT p.1 .cell names) := by
        cases hb with
        | loc h1 h2 => exact ⟨h2, .inl h1⟩
        | cel h1 h2 => exact ⟨h2, .inr h1⟩
      rcases List.mem_cons.mp hx with rfl | hx
      · rw [← hpq.1, hF.hnames]
        rcases this.2 with h1 | h1
        · exact .inl (h1.lookup hF.nodup)
        · exact .inr ⟨h1.lookup hF.nodup, cells_isSome _ _ _ _ (.inl h1.mem)⟩
      · exact ih this.1 x hx
  refine wpAny_newFunctionEnv_cells hF.kind (hkinds hbs hbk) fun env he s₂ y => ?_
  obtain ⟨⟨⟨h', tk, rfl⟩, hns, hkeep, hfresh⟩, hcell, hapart, habove⟩ := y
  have hE : EnvOk env names s₁.heap.objs.size (cellsFrom (s₁.heap.objs.size + 1) fd.scope.names []) := by
    subst he
    refine ⟨hF.kind, hF.hnames, hF.nodup, rfl, rfl, ?_, hF.globals, hF.builtins, hF.plain⟩
    have e := cellKeys_of fd.scope.names (s₁.heap.objs.size + 1) []
    rw [e, hF.hnames]
    have nd : ∀ (names : List (Str × NameKind)) (acc : List Str), (names.map (·.1)).Nodup → acc.Nodup → (∀ x ∈ acc, x ∉ names.map (·.1)) → (cellKeys names acc).Nodup := by
      intro names
      induction names with
      | nil => intro acc _ h _; exact h
      | cons p r ih =>
        intro acc hn ha hd
        obtain ⟨x, k⟩ := p
        rw [List.map_cons, List.nodup_cons] at hn
        unfold cellKeys
        split
        · refine ih _ hn.2 (List.nodup_cons.mpr ⟨fun q => hd x q (by simp), ha⟩) fun y hy => ?_
          rcases List.mem_cons.mp hy with rfl | hy
          · exact hn.1
          · exact fun q => hd y hy (by rw [List.map_cons]; exact .tail _ q)
        · exact ih _ hn.2 ha fun y hy q => hd y hy (by rw [List.map_cons]; exact .tail _ q)
    exact nd names [] hF.nodup List.nodup_nil fun x hx => by cases hx
  have eL : env.locals = s₁.heap.objs.size := by subst he; rfl
  have eC : env.cells = cellsFrom (s₁.heap.objs.size + 1) fd.scope.names [] := by subst he; rfl
  have hkind : ∀ {x k}, LookT x k names → env.kindOf x = some k := fun q => hE.kindOf q
  have hcn : ((cellsFrom (s₁.heap.objs.size + 1) fd.scope.names []).map (·.1)).Nodup := by have := hE.cnodup; exact this
  have hck : ∀ n, n ∈ (cellsFrom (s₁.heap.objs.size + 1) fd.scope.names []).map (·.1) → (n, NameKind.cell) ∈ names := fun n hn => by
    rw [cellKeys_of fd.scope.names (s₁.heap.objs.size + 1) [], hF.hnames] at hn
    exact (cellKeys_mem names [] n hn).elim (fun h => by cases h) id
  have N₂ : Rep G { s₁ with heap := h', toks := tk } (((s₁.heap.objs.size, .ns names vals) :: cellLed (cellsFrom (s₁.heap.objs.size + 1) fd.scope.names []) ci) ++ l₁) := by
    have led : ∀ (cl : List (Str × Addr)) (ci : List (Option AV)), CInit bs (cl.map (·.1)) ci → (∀ p ∈ cl, p ∈ cellsFrom (s₁.heap.objs.size + 1) fd.scope.names []) → cl.Pairwise (fun x y => x.2 ≠ y.2) →
        ((cellLed cl ci).map (·.1)).Nodup ∧ (∀ p ∈ cellLed cl ci, (∃ n, (n, p.1) ∈ cl) ∧ At G h' p.1 p.2) := by
      intro cl
      induction cl with
      | nil => intro ci _ _ _; exact ⟨List.nodup_nil, fun p hp => by cases hp⟩
      | cons q cl ih =>
        intro ci hci hm hp
        obtain ⟨n, c⟩ := q
        obtain ⟨hp1, hp2⟩ := List.pairwise_cons.mp hp
        have hmem := hm (n, c) (.head _)
        have hcl := hcell n c (by rw [eC]; exact lookup_of_mem hcn hmem)
        have mk : ∀ (o : Option AV) (ci' : List (Option AV)), CInit bs (cl.map (·.1)) ci' → At G h' c (.cell o) → ((cellLed ((n, c) :: cl) (o :: ci')).map (·.1)).Nodup ∧ (∀ p ∈ cellLed ((n, c) :: cl) (o :: ci'), (∃ n', (n', p.1) ∈ (n, c) :: cl) ∧ At G h' p.1 p.2) := by
          intro o ci' h1 h2
          obtain ⟨i1, i2⟩ := ih ci' h1 (fun p hp => hm p (.tail _ hp)) hp2
          refine ⟨?_, ?_⟩
          · show (c :: (cellLed cl ci').map (·.1)).Nodup
            refine List.nodup_cons.mpr ⟨fun q => ?_, i1⟩
            (refine PL.x1_1 (List.mem_map.mp q) ?_; rintro p hp e)
            obtain ⟨⟨n', hn'⟩, _⟩ := i2 p hp
            exact hp1 _ hn' e.symm
          · intro p hp
            rcases List.mem_cons.mp hp with rfl | hp
            · exact ⟨⟨n, .head _⟩, h2⟩
            · obtain ⟨⟨n', hn'⟩, h3⟩ := i2 p hp
              exact ⟨⟨n', .tail _ hn'⟩, h3⟩
        cases hci with
        | val hx hr =>
          (refine PL.x1_1 (BRel.bindC hbs (m := fun _ => none) hnd hx (hE.kindOf (x := n) (k := .cell) (by
            have := hck n (List.mem_map.mpr (PL.m1_1 _ hmem rfl))
            exact lookT_of_mem this))) ?_; rintro u hu hau)
          exact mk _ _ hr ⟨some u, by rw [← hu]; exact hcl, u, rfl, hau⟩
        | skip hr => exact mk _ _ hr (PL.m1_1 _ hcl trivial)
    obtain ⟨l1, l2⟩ := led _ ci (by rw [cellKeys_of, hF.hnames]; exact hc) (fun _ hp => hp) (by rw [← eC]; exact hapart)
    have low : ∀ p ∈ cellLed (cellsFrom (s₁.heap.objs.size + 1) fd.scope.names []) ci, s₁.heap.objs.size < p.1 := fun p hp => by
      obtain ⟨⟨n, hn⟩, _⟩ := l2 p hp
      have := habove n p.1 (by rw [eC]; exact hn)
      rw [eL] at this; exact this
    refine N₁.more _ hkeep ?_ ?_ ?_
    · show (s₁.heap.objs.size :: (cellLed (cellsFrom (s₁.heap.objs.size + 1) fd.scope.names []) ci).map (·.1)).Nodup
      refine List.nodup_cons.mpr ⟨fun q => ?_, l1⟩
      (refine PL.x1_1 (List.mem_map.mp q) ?_; rintro p hp e)
      exact Nat.lt_irrefl _ (e ▸ low p hp)
    · intro p hp
      rcases List.mem_cons.mp hp with rfl | hp
      · exact Heap.get?_none_of_le (Nat.le_refl _)
      · exact Heap.get?_none_of_le (Nat.le_of_lt (low p hp))
    · intro p hp
      rcases List.mem_cons.mp hp with rfl | hp
      · refine (PL.m1_1 _ (by rw [← eL]; exact hns) (fun x k a q => ?_))
        obtain ⟨rfl, hx⟩ := hi.look q
        exact BRel.bindL hbs hnd hx (hE.kindOf q.kind)
      · exact (l2 p hp).2
  have go := hbody s₁.heap.objs.size (cellsFrom (s₁.heap.objs.size + 1) fd.scope.names []) env (A.deeper env) (by rw [cellKeys_of, hF.hnames]; rfl) hE rfl (by subst he; rfl) (by subst he; rfl) _ N₂
  refine ⟨hF.nolimit.keeps N₂.keep, codeAny_func ?_⟩
  refine wpAny_mono go (fun fl s₃ ⟨a, l₂, ha, N₃, l₃, hs, hr⟩ => ?_) (fun e s₃ ⟨ex, l₂, he, N₃, hlv⟩ => by
    subst he
    exact wpAny_mono (hlv s₃ N₃) (fun _ s₄ ⟨_, l₃, _, N₄, l₄, hs, hX⟩ => ⟨ex, l₄, rfl, N₄.sub hs, hX⟩) fun _ _ ⟨_, _, _, _, h⟩ => h.elim)
  cases a with
  | next => cases ha; exact ⟨.none, l₃, rfl, N₃.sub hs, hr⟩
  | brk => cases ha; exact ⟨.none, l₃, rfl, N₃.sub hs, hr⟩
  | cont => cases ha; exact ⟨.none, l₃, rfl, N₃.sub hs, hr⟩
  | ret v => (revert ha; refine PL.j1_1 ?_; rintro u rfl hu); exact ⟨v, l₃, hu, N₃.sub hs, hr⟩
theorem CC.fn {f : Addr} {fd : FuncData} {body : List Stmt} {names : List (Str × NameKind)} {args : List AV} (hF : FnOk G f fd body names) (hroom : A.depth < recursionLimit)
    (hbind : ∀ vs, AllIs args vs → Tr G A.in1 (bindArgs fd ⟨vs, []⟩) BRel l (fun bs l₁ => (bs.map fun p => p.1).Nodup ∧ BKind names bs ∧ ∃ vals ci, Init bs names vals ∧ CInit bs (cellKeys names []) ci ∧
      ∀ L cl env A', cl.map (fun p : Str × Addr => p.1) = cellKeys names [] → EnvOk env names L cl → A' = A.deeper env → env.code = fd.code → env.frame = some L → BB G A' env body ((L, .ns names vals) :: (cellLed cl ci ++ l₁)) (fun fl l₂ => ∃ l₃, Sub l₃ l₂ ∧ R (retOf fl) l₃) noX) X) :
    CC G A (.ref f) args l R X := by
  refine CC.ofK (CK.fnX hF hroom fun vs hvs => (hbind vs hvs).mono (fun bs l₁ hq => ?_) fun _ _ h => h)
  obtain ⟨h1, h2, vals, ci, h3, h4, h5⟩ := hq
  exact ⟨h1, h2, vals, ci, h3, h4, fun L cl env A' a b c d e => Tr.mono (h5 L cl env A' a b c d e) (fun _ _ h => h) fun _ _ h => h.elim⟩
end
end PL
end
section
open PySem PySem.Calls PyProof.Rows PySem.W
set_option autoImplicit false
set_option linter.unusedVariables false
namespace PL

noncomputable def OX : Option AV → Option Value → Prop
  | .none, v => v = .none
  | .some a, v => ∃ u, v = some u ∧ a.Is u
/-- the next one -/
noncomputable def Nx (G : Gd) (A : Around) (it : AV) (l : Led) (R : Option AV → Led → Prop) (X : Xp) : Prop := ∀ v, it.Is v → Tr G A (pyNext v) OX l R X
/-- what a for lets go ahead of its target -/
noncomputable def LG (G : Gd) (A : Around) (target : Expr) (it a : AV) (l : Led) (R : Led → Prop) (X : Xp) : Prop := ∀ v u, it.Is v → a.Is u → Tr G A (letOwnedTupleGo target v u) (fun (_ _ : Unit) => True) l (fun _ l' => R l') X

structure Walk (G : Gd) (A : Around) (it : AV) (n : Nat) (F : Nat → Led) (Fm : Nat → AV → Led) (Fe : Led) (P : Nat → AV → Led → Prop) (T : Expr → Prop) : Prop where
  next : ∀ k L R X, k < n → (∀ a E, P k a E → R (some a) (E ++ (Fm (k + 1) a ++ L))) → Nx G A it (F k ++ L) R X
  go : ∀ k L a E target R X, T target → P k a E → R (E ++ (F (k + 1) ++ L)) → LG G A target it a (E ++ (Fm (k + 1) a ++ L)) R X
  stop : ∀ L R X, R none (Fe ++ L) → Nx G A it (F n ++ L) R X
  again : ∀ L R X, R it (F 0 ++ L) → Op1 G A pyIter it (F 0 ++ L) R X

noncomputable def IsName : Expr → Prop
  | .Name .. => True
  | _ => False
noncomputable def NameOrTuple : Expr → Prop
  | .Name .. => True
  | .Tuple .. => True
  | _ => False

section
variable {G : Gd} {A : Around} {env : Env} {l l' : Led} {X : Xp}

theorem walk_list {it p : Addr} {xs : List AV} (hh : A.handled = none) : Walk G A (.ref it) xs.length (fun k => [(it, .listiter p k), (p, .list xs)]) (fun k _ => [(it, .listiter p k), (p, .list xs)]) [(p, .list xs)] (fun k a E => xs[k]? = some a ∧ E = []) NameOrTuple where
  next k L R X hk h v hv s N := by
    cases hv
    have hit : s.heap.IsListIter it p k := N.at (ao := .listiter p k) .head
    (refine PL.x1_1 (N.at (ao := .list xs) (.tail .head)) ?_; rintro vs hl ha)
    obtain ⟨a, hxa⟩ : ∃ a, xs[k]? = some a := ⟨xs[k], List.getElem?_eq_getElem hk⟩
    (refine PL.x1_1 (ha.get hxa) ?_; rintro b hb hab)
    exact wpAny_pyNext_list_item hit hl.isList (by rw [← Array.getElem?_toList]; exact hb) fun h' hit' hs' => ⟨some a, _, (PL.m1_1 b rfl hab), N.upd (tk := s.toks) (ao' := .listiter p (k + 1)) .head hs'.extBut hit', h a [] ⟨hxa, rfl⟩⟩
  go k L a E target R X ht hp h v u hv hu s N := by
    obtain ⟨_, rfl⟩ := hp
    cases hv
    cases target with
    | Name => exact wpAny_pure ⟨(), _, trivial, N, h⟩
    | Tuple elts n pos =>
      have hit : s.heap.IsListIter it p (k + 1) := N.at (ao := .listiter p (k + 1)) .head
      cases u with
      | ref a' => exact wpAny_letOwnedTupleGo_listiter hit ⟨(), _, trivial, N, h⟩
      | _ => exact wpAny_pure ⟨(), _, trivial, N, h⟩
    | _ => cases ht
  stop L R X h v hv s N := by
    cases hv
    have hit : s.heap.IsListIter it p xs.length := N.at (ao := .listiter p xs.length) .head
    (refine PL.x1_1 (N.at (ao := .list xs) (.tail .head)) ?_; rintro vs hl ha)
    refine wpAny_pyNext_list_end hh hit hl.isList (by rw [← Array.getElem?_toList]; exact ha.none (by simp)) fun h' hs' => ⟨none, _, rfl, ?_, h⟩
    have N₁ := N.sub (l' := (p, .list xs) :: L) .tail
    exact ⟨fun b o e => hs' b o (fun q => by have := N.fresh (a := it) .head; rw [q] at e; rw [this] at e; cases e) (N.keep b o e), N₁.nodup, fun q hq => ⟨(N₁.has q hq).1, (N₁.has q hq).2.keep fun o e => hs' _ _ (N.ne .head q hq) e⟩, N.gens, N.os⟩
  again L R X h v hv s N := by
    cases hv
    have hit : s.heap.IsListIter it p 0 := N.at (ao := .listiter p 0) .head
    exact wpAny_pyIter_listiter hit ⟨.ref it, _, rfl, N, h⟩
theorem iter_list {p : Addr} {xs : List AV} {R : AV → Led → Prop} (hp : Pick (p, .list xs) l l') (h : ∀ it, R (.ref it) ([(it, .listiter p 0), (p, .list xs)] ++ l')) : Op1 G A pyIter (.ref p) l R X := fun v hv s N => by
  cases hv
  (refine PL.x1_1 (N.at hp) ?_; rintro vs hl ha)
  refine wpAny_pyIter_list hl.isList ⟨.ref s.heap.objs.size, _, rfl, (N.push (ao := .listiter p 0) rfl (PL.m1_2 _ (Heap.get?_push_size _ rfl) rfl rfl)).sub (.keep (.perm hp.perm)), h _⟩

theorem walk_tuple {it p : Addr} {xs : List AV} (hh : A.handled = none) : Walk G A (.ref it) xs.length (fun k => [(it, .tupiter p k), (p, .tuple xs)]) (fun k _ => [(it, .tupiter p k), (p, .tuple xs)]) [(p, .tuple xs)] (fun k a E => xs[k]? = some a ∧ E = []) IsName where
  next k L R X hk h v hv s N := by
    cases hv
    have hit : s.heap.IsTupleIter it p k := N.at (ao := .tupiter p k) .head
    (refine PL.x1_1 (N.at (ao := .tuple xs) (.tail .head)) ?_; rintro vs hl ha)
    obtain ⟨a, hxa⟩ : ∃ a, xs[k]? = some a := ⟨xs[k], List.getElem?_eq_getElem hk⟩
    (refine PL.x1_1 (ha.get hxa) ?_; rintro b hb hab)
    exact wpAny_pyNext_tuple_item hit (items := vs.toArray) ⟨_, hl, rfl, _, rfl⟩ (by simpa using hb) fun h' hit' hs' => ⟨some a, _, (PL.m1_1 b rfl hab), N.upd (tk := s.toks) (ao' := .tupiter p (k + 1)) .head hs'.extBut hit', h a [] ⟨hxa, rfl⟩⟩
  go k L a E target R X ht hp h v u hv hu s N := by
    obtain ⟨_, rfl⟩ := hp
    cases target with
    | Name => exact wpAny_pure ⟨(), _, trivial, N, h⟩
    | _ => cases ht
  stop L R X h v hv s N := by
    cases hv
    have hit : s.heap.IsTupleIter it p xs.length := N.at (ao := .tupiter p xs.length) .head
    (refine PL.x1_1 (N.at (ao := .tuple xs) (.tail .head)) ?_; rintro vs hl ha)
    refine wpAny_pyNext_tuple_end hh hit (items := vs.toArray) ⟨_, hl, rfl, _, rfl⟩ (by have := ha.none (i := xs.length) (by simp); simpa using this) fun h' hs' => ⟨none, _, rfl, ?_, h⟩
    have N₁ := N.sub (l' := (p, .tuple xs) :: L) .tail
    exact ⟨fun b o e => hs' b o (fun q => by have := N.fresh (a := it) .head; rw [q] at e; rw [this] at e; cases e) (N.keep b o e), N₁.nodup, fun q hq => ⟨(N₁.has q hq).1, (N₁.has q hq).2.keep fun o e => hs' _ _ (N.ne .head q hq) e⟩, N.gens, N.os⟩
  again L R X h v hv s N := by
    cases hv
    have hit : s.heap.IsTupleIter it p 0 := N.at (ao := .tupiter p 0) .head
    exact wpAny_pyIter_tupleiter hit ⟨.ref it, _, rfl, N, h⟩
theorem iter_tuple {p : Addr} {xs : List AV} {R : AV → Led → Prop} (hp : Pick (p, .tuple xs) l l') (h : ∀ it, R (.ref it) ([(it, .tupiter p 0), (p, .tuple xs)] ++ l')) : Op1 G A pyIter (.ref p) l R X := fun v hv s N => by
  cases hv
  (refine PL.x1_1 (N.at hp) ?_; rintro vs hl ha)
  refine wpAny_pyIter_tuple (items := vs.toArray) ⟨_, hl, rfl, _, rfl⟩ ⟨.ref s.heap.objs.size, _, rfl, (N.push (ao := .tupiter p 0) rfl (PL.m1_2 _ (Heap.get?_push_size _ rfl) rfl rfl)).sub (.keep (.perm hp.perm)), h _⟩

theorem walk_range {it : Addr} {a : Int} {n : Nat} (hh : A.handled = none) : Walk G A (.ref it) n (fun k => [(it, .rangeiter (a + (k : Int)) ((n : Int) - (k : Int)) 1)]) (fun k _ => [(it, .rangeiter (a + (k : Int)) ((n : Int) - (k : Int)) 1)]) [] (fun k v E => v = .int (a + (k : Int)) ∧ E = []) IsName where
  next k L R X hk h v hv s N := by
    cases hv
    have hit : IsRangeIter s.heap it (a + (k : Int)) ((n : Int) - (k : Int)) 1 := N.at (ao := .rangeiter (a + (k : Int)) ((n : Int) - (k : Int)) 1) .head
    refine wpAny_pyNext_range_item hit (by lia) fun h' hit' hs' => ⟨some (.int (a + (k : Int))), _, ⟨_, rfl, _, rfl⟩, N.upd (ao' := .rangeiter (a + ((k + 1 : Nat) : Int)) ((n : Int) - ((k + 1 : Nat) : Int)) 1) .head hs'.extBut ?_, h _ [] ⟨rfl, rfl⟩⟩
    show IsRangeIter h' it _ _ 1
    rw [show a + ((k + 1 : Nat) : Int) = a + (k : Int) + 1 by lia, show (n : Int) - ((k + 1 : Nat) : Int) = (n : Int) - (k : Int) - 1 by lia]
    exact hit'
  go k L a' E target R X ht hp h v u hv hu s N := by
    obtain ⟨_, rfl⟩ := hp
    cases target with
    | Name => exact wpAny_pure ⟨(), _, trivial, N, h⟩
    | _ => cases ht
  stop L R X h v hv s N := by
    cases hv
    have hit : IsRangeIter s.heap it (a + (n : Int)) ((n : Int) - (n : Int)) 1 := N.at (ao := .rangeiter (a + (n : Int)) ((n : Int) - (n : Int)) 1) .head
    refine wpAny_pyNext_range_end hh hit (by lia) fun h' hs' => ⟨none, _, rfl, ?_, h⟩
    have N₁ := N.sub (l' := L) .tail
    exact ⟨fun b o e => hs' b o (fun q => by have := N.fresh (a := it) .head; rw [q] at e; rw [this] at e; cases e) (N.keep b o e), N₁.nodup, fun q hq => ⟨(N₁.has q hq).1, (N₁.has q hq).2.keep fun o e => hs' _ _ (N.ne .head q hq) e⟩, N.gens, N.os⟩
  again L R X h v hv s N := by
    cases hv
    have hit : IsRangeIter s.heap it (a + ((0 : Nat) : Int)) ((n : Int) - ((0 : Nat) : Int)) 1 := N.at (ao := .rangeiter (a + ((0 : Nat) : Int)) ((n : Int) - ((0 : Nat) : Int)) 1) .head
    exact wpAny_pyIter_rangeiter hit ⟨.ref it, _, rfl, N, h⟩

/-! loops -/
noncomputable def LoopK (n : Nat) (J : Nat → Led → Prop) (R : AF → Led → Prop) : AF → Led → Prop
  | .next, l => ∃ m l', m < n ∧ Sub l' l ∧ J m l'
  | .cont, l => ∃ m l', m < n ∧ Sub l' l ∧ J m l'
  | .brk, l => R .next l
  | .ret v, l => R (.ret v) l

theorem SS.while {test : Expr} {body orelse : List Stmt} {pos : Pos} {R : AF → Led → Prop} (n : Nat) (J : Nat → Led → Prop) (h0 : J n l)
    (turn : ∀ n l, J n l → TT G A env test l (fun b l₁ => (b = true → BB G A env body l₁ (LoopK n J R) noX) ∧ (b = false → BB G A env orelse l₁ R noX)) noX) : SS G A env (.While test body orelse pos) l R X := fun s N => by
  refine wpAny_While (codeAny_whileLoop (fun n s => ∃ l, Rep G s l ∧ J n l) (fun n s ⟨l, N, hJ⟩ => ?_) n (PL.m1_1 l N h0))
  refine wpAny_mono (turn n l hJ s N) (fun b s₁ hq1 => ?_) (fun _ _ ⟨_, _, _, _, h⟩ => h.elim)
  obtain ⟨c, l₁, hb, N₁, h₁, h₂⟩ := hq1
  subst hb
  cases b with
  | true =>
    simp only [if_true]
    refine wpAny_mono (h₁ rfl s₁ N₁) (fun f s₂ ⟨a, l₂, ha, N₂, h₃⟩ => ?_) (fun _ _ ⟨_, _, _, _, h⟩ => h.elim)
    cases a with
    | next => cases ha; (revert h₃; refine PL.j2_2 ?_; rintro m l' hm hs hJ'); exact ⟨m, hm, l', N₂.sub hs, hJ'⟩
    | cont => cases ha; (revert h₃; refine PL.j2_2 ?_; rintro m l' hm hs hJ'); exact ⟨m, hm, l', N₂.sub hs, hJ'⟩
    | brk => cases ha; exact ⟨.next, l₂, rfl, N₂, h₃⟩
    | ret v => (revert ha; refine PL.j1_1 ?_; rintro u rfl hu); exact ⟨.ret v, l₂, (PL.m1_1 u rfl hu), N₂, h₃⟩
  | false =>
    simp only [Bool.false_eq_true, if_false]
    exact wpAny_mono (h₂ rfl s₁ N₁) (fun f s₂ h => h) (fun _ _ ⟨_, _, _, _, h⟩ => h.elim)

/-- the turn's end of a for: the walk's part, the rest -/
noncomputable def ForK (F : Led) (J : Led → Prop) (R : AF → Led → Prop) : AF → Led → Prop
  | .next, l => ∃ L, Sub (F ++ L) l ∧ J L
  | .cont, l => ∃ L, Sub (F ++ L) l ∧ J L
  | .brk, l => R .next l
  | .ret v, l => R (.ret v) l
theorem SS.for {target iter : Expr} {body : List Stmt} {pos : Pos} {R : AF → Led → Prop}
    (h : EE G A env iter l (fun x l₁ => Op1 G A pyIter x l₁ (fun it l₂ => ∃ n F Fm Fe P T L₀, Walk G A it n F Fm Fe P T ∧ T target ∧ Sub (F 0 ++ L₀) l₂ ∧ ∃ J : Nat → Led → Prop, J 0 L₀ ∧
      (∀ k a E L, k < n → P k a E → J k L → Asg G A env target a (E ++ (F (k + 1) ++ L)) (fun l₃ => BB G A env body l₃ (ForK (F (k + 1)) (J (k + 1)) R) noX) noX) ∧
      (∀ L, J n L → R .next (Fe ++ L))) X) X)
    (hs : ∀ x, foldedSetIterable iter env x = pure x := by intro _; with_unfolding_all rfl) : SS G A env (.For target iter body [] pos) l R X := fun s N => by
  refine wpAny_For (wpAny_mono (h s N) (fun v s₁ ⟨x, l₁, hx, N₁, h₁⟩ => wpAny_mono (h₁ v hx s₁ N₁) (fun iv s₂ hp5 => ?_) fun _ _ y => y) fun _ _ y => y) hs
  obtain ⟨it, l₂, hit, N₂, h5⟩ := hp5
  (refine PL.x7_3 h5 ?_; rintro n F Fm Fe P T L₀ W hT hsub h6)
  (refine PL.x1_2 h6 ?_; rintro J hJ0 turn fin)
  refine codeAny_forLoop_any (fun m s => ∃ k L, m = n - k ∧ k ≤ n ∧ Rep G s (F k ++ L) ∧ J k L) (fun m s hq2 => ?_) n (PL.m2_3 0 L₀ (by lia) (Nat.zero_le _) (N₂.sub hsub) hJ0)
  (revert hq2; refine PL.j2_3 ?_; rintro k L hm hk N hJ)
  by_cases hlt : k < n
  · refine wpAny_mono (W.next k L (fun o l => ∃ a E, o = some a ∧ P k a E ∧ l = E ++ (Fm (k + 1) a ++ L)) noX hlt (fun a E hp => (PL.m2_2 a E rfl hp rfl)) iv hit s N) (fun r s₁ hq3 => ?_) (fun _ _ ⟨_, _, _, _, h⟩ => h.elim)
    obtain ⟨o, l₁, ho, N₁, a, E, e, hp, el⟩ := hq3
    subst e el
    (revert ho; refine PL.j1_1 ?_; rintro u rfl hu)
    refine wpAny_mono (W.go k L a E target (fun l => l = E ++ (F (k + 1) ++ L)) noX hT hp rfl iv u hit hu s₁ N₁) (fun _ s₂ ⟨_, l₂, _, N₂, e⟩ => ?_) (fun _ _ ⟨_, _, _, _, h⟩ => h.elim)
    subst e
    refine wpAny_mono (turn k a E L hlt hp hJ u hu s₂ N₂) (fun _ s₃ ⟨_, l₃, _, N₃, h₃⟩ => ?_) (fun _ _ ⟨_, _, _, _, h⟩ => h.elim)
    refine wpAny_mono (h₃ s₃ N₃) (fun f s₄ ⟨b, l₄, hb, N₄, h₄⟩ => ?_) (fun _ _ ⟨_, _, _, _, h⟩ => h.elim)
    cases b with
    | next => cases hb; (revert h₄; refine PL.j1_1 ?_; rintro L' hs hJ'); exact ⟨n - (k + 1), by lia, k + 1, L', rfl, hlt, N₄.sub hs, hJ'⟩
    | cont => cases hb; (revert h₄; refine PL.j1_1 ?_; rintro L' hs hJ'); exact ⟨n - (k + 1), by lia, k + 1, L', rfl, hlt, N₄.sub hs, hJ'⟩
    | brk => cases hb; exact ⟨.next, l₄, rfl, N₄, h₄⟩
    | ret v => (revert hb; refine PL.j1_1 ?_; rintro u rfl hu); exact ⟨.ret v, l₄, (PL.m1_1 u rfl hu), N₄, h₄⟩
  · have : k = n := by lia
    subst this
    refine wpAny_mono (W.stop L (fun o l => o = none ∧ l = Fe ++ L) noX ⟨rfl, rfl⟩ iv hit s N) (fun r s₁ hq4 => ?_) (fun _ _ ⟨_, _, _, _, h⟩ => h.elim)
    obtain ⟨o, l₁, ho, N₁, e, el⟩ := hq4
    subst e el
    cases ho
    exact wpAny_execs_nil ⟨.next, _, rfl, N₁, fin L hJ⟩
end
end PL
end
section
open PySem PySem.Calls PyProof.Rows PySem.W
set_option autoImplicit false
set_option linter.unusedVariables false
namespace PL
theorem lookup_zip {x : Str} : ∀ {xs : List Str} {vs : List Value}, xs.length ≤ vs.length → x ∈ xs → ((xs.zip vs).lookup x).isSome = true
  | y :: ys, v :: vs, hl, h => by
    rw [List.zip_cons_cons, List.lookup_cons]
    cases hxy : x == y with
    | true => rfl
    | false =>
      rcases List.mem_cons.mp h with rfl | h
      · simp at hxy
      · exact lookup_zip (by simpa using hl) h
theorem zip_again : ∀ {xs : List Str} {vs : List Value}, xs.Nodup → xs.length ≤ vs.length → (xs.filterMap fun n => ((xs.zip vs).lookup n).map (n, ·)) = xs.zip vs
  | [], _, _, _ => rfl
  | x :: xs, v :: vs, hn, hl => by
    rw [List.nodup_cons] at hn
    have ih := zip_again (vs := vs) hn.2 (by simpa using hl)
    rw [List.filterMap_cons]
    simp only [List.zip_cons_cons, List.lookup_cons, beq_self_eq_true, Option.map_some]
    congr 1
    refine Eq.trans ?_ ih
    have go : ∀ ys : List Str, x ∉ ys → (ys.filterMap fun n => (match n == x with | true => some v | false => (xs.zip vs).lookup n).map (n, ·)) = ys.filterMap fun n => ((xs.zip vs).lookup n).map (n, ·) := by
      intro ys
      induction ys with
      | nil => intro _; rfl
      | cons y ys ih' =>
        intro hy
        rw [List.mem_cons, not_or] at hy
        have : (y == x) = false := beq_eq_false_iff_ne.mpr fun e => hy.1 e.symm
        rw [List.filterMap_cons, List.filterMap_cons, ih' hy.2, this]
    exact go xs hn.1
theorem no_missing {xs : List Str} {vs : List Value} (hl : xs.length ≤ vs.length) (n : Nat) : (xs.take n).filter (fun n => ((xs.zip vs).lookup n).isNone) = [] := by
  rw [List.filter_eq_nil_iff]
  intro x hx
  have := lookup_zip hl (List.mem_of_mem_take hx)
  rw [Option.isSome_iff_exists] at this
  obtain ⟨v, hv⟩ := this
  rw [hv]; simp
theorem bind_eq {fd : FuncData} {xs : List Str} {vs : List Value} (h1 : fd.params.posonlyargs = []) (h2 : fd.params.args.map (·.arg) = xs) (h3 : fd.params.kwonlyargs = []) (h4 : fd.params.vararg = none) (h5 : fd.params.kwarg = none) (h6 : fd.defaults = .none)
    (hn : xs.Nodup) (hl : vs.length = xs.length) : bindArgs fd ⟨vs, []⟩ = pure (xs.zip vs) := by
  have e := no_missing (xs := xs) (vs := vs) (by lia)
  have hz := zip_again (xs := xs) (vs := vs) hn (by lia)
  have hs : seqItems? .none = (pure none : Sem _) := rfl
  have pb : ∀ {α β : Type} (a : α) (f : α → Sem β), ((pure a : Sem α) >>= f) = f a := fun _ _ => rfl
  have hl' : ¬ vs.length > xs.length := by lia
  unfold bindArgs
  simp only [h1, h2, h3, h4, h5, h6, List.map_nil, List.nil_append, List.append_nil, hs, pb, List.forIn_nil, hl', if_false, Option.getD_none, List.drop_nil, List.zip_nil_right, e, List.isEmpty_nil, Bool.not_true, Bool.false_eq_true, hz, List.filter_nil, List.length_nil]
  rfl
theorem bind_var {fd : FuncData} {xs : List Str} {vs : List Value} {a : Arg} (h1 : fd.params.posonlyargs = []) (h2 : fd.params.args.map (·.arg) = xs) (h3 : fd.params.kwonlyargs = []) (h4 : fd.params.vararg = some a) (h5 : fd.params.kwarg = none) (h6 : fd.defaults = .none)
    (hn : xs.Nodup) (hl : xs.length ≤ vs.length) : bindArgs fd ⟨vs, []⟩ = (do let t ← newTuple (vs.drop xs.length); pure (xs.zip vs ++ [(a.arg, t)])) := by
  have e := no_missing (xs := xs) (vs := vs) hl
  have hz := zip_again (xs := xs) (vs := vs) hn hl
  have hs : seqItems? .none = (pure none : Sem _) := rfl
  have pb : ∀ {α β : Type} (a : α) (f : α → Sem β), ((pure a : Sem α) >>= f) = f a := fun _ _ => rfl
  unfold bindArgs
  simp only [h1, h2, h3, h4, h5, h6, List.map_nil, List.nil_append, List.append_nil, hs, pb, List.forIn_nil, if_false, Option.getD_none, List.drop_nil, List.zip_nil_right, e, List.isEmpty_nil, Bool.not_true, Bool.false_eq_true, hz, List.filter_nil, List.length_nil, Option.isNone_some, Bool.and_false]
structure PlainBind (fd : FuncData) (xs : List Str) (va : Option Str) : Prop where
  h1 : fd.params.posonlyargs = []
  h2 : fd.params.args.map (·.arg) = xs
  h3 : fd.params.kwonlyargs = []
  h4 : fd.params.vararg.map (·.arg) = va
  h5 : fd.params.kwarg = none
  h6 : fd.defaults = .none
  hn : xs.Nodup
structure Room (A : Around) (n : Nat) : Prop where
  h : A.handled = none
  d : A.depth + n < recursionLimit
  u : A.units + 3 * n + 200 < cLine
theorem Room.deeper {A : Around} {n : Nat} {env : Env} (r : Room A (n + 1)) : Room (A.deeper env) n := ⟨r.h, by have := r.d; show A.depth + 1 + n < _; lia, by have := r.u; show A.units + 3 + 3 * n + 200 < _; lia⟩
theorem Room.call {A : Around} {n : Nat} (r : Room A n) : A.depth < recursionLimit := by have := r.d; lia
section
variable {G : Gd} {A : Around} {l l' : Led} {X : Xp} {R : AV → Led → Prop}
inductive Zip : List Str → List AV → List Bind → Prop
  | nil : Zip [] [] []
  | cons {x : Str} {a : AV} {xs : List Str} {as : List AV} {bs : List Bind} : Zip xs as bs → Zip (x :: xs) (a :: as) ((x, a) :: bs)
theorem Zip.zip {xs : List Str} {as : List AV} {bs : List Bind} (h : Zip xs as bs) : xs.zip as = bs ∧ xs.length = as.length := by
  induction h with
  | nil => exact ⟨rfl, rfl⟩
  | cons _ ih => exact ⟨by rw [List.zip_cons_cons, ih.1], by simp [ih.2]⟩
structure InFr (A A' : Around) (env : Env) (code : Value) (L : Addr) : Prop where
  code : env.code = code
  frame : env.frame = some L
  deeper : A' = A.deeper env
/-- a call of a plain def: its arguments are its first names -/
theorem CC.def {f : Addr} {fd : FuncData} {body : List Stmt} {names : List (Str × NameKind)} {args : List AV} {bs : List Bind} {n : Nat} (hF : FnOk G f fd body names) (hroom : Room A (n + 1)) (xs ck : List Str) {vals ci : List (Option AV)}
    (hl : Zip xs args bs) (hb : PlainBind fd xs none) (hck : cellKeys names [] = ck) (hk : BKind names bs) (hi : Init bs names vals) (hc : CInit bs ck ci)
    (h : ∀ L cl env A', cl.map (fun p : Str × Addr => p.1) = ck → EnvOk env names L cl → Room A' n → InFr A A' env fd.code L → BB G A' env body ((L, .ns names vals) :: (cellLed cl ci ++ l)) (fun fl l₂ => ∃ l₃, Sub l₃ l₂ ∧ R (retOf fl) l₃) noX) :
    CC G A (.ref f) args l R X := by
  obtain ⟨rfl, hl'⟩ := hl.zip
  subst hck
  refine CC.fn hF hroom.call (bind_plain (xs := xs) ⟨?_, hk, vals, ci, hi, hc, fun L cl env A' hcl hE hA h1 h2 => h L cl env A' hcl hE (by subst hA; exact hroom.deeper) ⟨h1, h2, hA⟩⟩ hl' (fun vs hvs => bind_eq hb.h1 hb.h2 hb.h3 (by have := hb.h4; simpa using this) hb.h5 hb.h6 hb.hn (by lia)))
  rw [List.map_fst_zip (by lia)]; exact hb.hn
theorem map_consL {cl : List (Str × Addr)} {k : Str} {ks : List Str} (h : cl.map (fun p : Str × Addr => p.1) = k :: ks) : ∃ c cl', cl = (k, c) :: cl' ∧ cl'.map (fun p : Str × Addr => p.1) = ks := by
  cases cl with
  | nil => cases h
  | cons p cl => cases h; exact (PL.m2_1 p.2 cl rfl rfl)
theorem CC.def0 {f : Addr} {fd : FuncData} {body : List Stmt} {names : List (Str × NameKind)} {args : List AV} {bs : List Bind} {n : Nat} (hF : FnOk G f fd body names) (hroom : Room A (n + 1)) (xs : List Str) {vals : List (Option AV)}
    (hl : Zip xs args bs) (hb : PlainBind fd xs none) (hck : cellKeys names [] = []) (hk : BKind names bs) (hi : Init bs names vals) (hc : CInit bs [] [])
    (h : ∀ L  env A', EnvOk env names L [] → Room A' n → InFr A A' env fd.code L → BB G A' env body ((L, .ns names vals) :: l) (fun fl l₂ => ∃ l₃, Sub l₃ l₂ ∧ R (retOf fl) l₃) noX) :
    CC G A (.ref f) args l R X := by
  refine CC.def hF hroom xs _ hl hb hck hk hi hc fun L cl env A' hcl hE hr hx => ?_
  cases List.map_eq_nil_iff.mp hcl
  exact h L env A' hE hr hx
theorem CC.def1 {f : Addr} {fd : FuncData} {body : List Stmt} {names : List (Str × NameKind)} {args : List AV} {bs : List Bind} {n : Nat} {k0 : Str} {o0 : Option AV} (hF : FnOk G f fd body names) (hroom : Room A (n + 1)) (xs : List Str) {vals : List (Option AV)}
    (hl : Zip xs args bs) (hb : PlainBind fd xs none) (hck : cellKeys names [] = [k0]) (hk : BKind names bs) (hi : Init bs names vals) (hc : CInit bs [k0] [o0])
    (h : ∀ L c0 env A', EnvOk env names L [(k0, c0)] → Room A' n → InFr A A' env fd.code L → BB G A' env body ((L, .ns names vals) :: (c0, .cell o0) :: l) (fun fl l₂ => ∃ l₃, Sub l₃ l₂ ∧ R (retOf fl) l₃) noX) :
    CC G A (.ref f) args l R X := by
  refine CC.def hF hroom xs _ hl hb hck hk hi hc fun L cl env A' hcl hE hr hx => ?_
  (refine PL.x2_1 (map_consL hcl) ?_; rintro c0 cl0 rfl g0)
  cases List.map_eq_nil_iff.mp g0
  exact h L c0 env A' hE hr hx
theorem CC.def2 {f : Addr} {fd : FuncData} {body : List Stmt} {names : List (Str × NameKind)} {args : List AV} {bs : List Bind} {n : Nat} {k0 k1 : Str} {o0 o1 : Option AV} (hF : FnOk G f fd body names) (hroom : Room A (n + 1)) (xs : List Str) {vals : List (Option AV)}
    (hl : Zip xs args bs) (hb : PlainBind fd xs none) (hck : cellKeys names [] = [k0, k1]) (hk : BKind names bs) (hi : Init bs names vals) (hc : CInit bs [k0, k1] [o0, o1])
    (h : ∀ L c0 c1 env A', EnvOk env names L [(k0, c0), (k1, c1)] → Room A' n → InFr A A' env fd.code L → BB G A' env body ((L, .ns names vals) :: (c0, .cell o0) :: (c1, .cell o1) :: l) (fun fl l₂ => ∃ l₃, Sub l₃ l₂ ∧ R (retOf fl) l₃) noX) :
    CC G A (.ref f) args l R X := by
  refine CC.def hF hroom xs _ hl hb hck hk hi hc fun L cl env A' hcl hE hr hx => ?_
  (refine PL.x2_1 (map_consL hcl) ?_; rintro c0 cl0 rfl g0)
  (refine PL.x2_1 (map_consL g0) ?_; rintro c1 cl1 rfl g1)
  cases List.map_eq_nil_iff.mp g1
  exact h L c0 c1 env A' hE hr hx
theorem CC.def3 {f : Addr} {fd : FuncData} {body : List Stmt} {names : List (Str × NameKind)} {args : List AV} {bs : List Bind} {n : Nat} {k0 k1 k2 : Str} {o0 o1 o2 : Option AV} (hF : FnOk G f fd body names) (hroom : Room A (n + 1)) (xs : List Str) {vals : List (Option AV)}
    (hl : Zip xs args bs) (hb : PlainBind fd xs none) (hck : cellKeys names [] = [k0, k1, k2]) (hk : BKind names bs) (hi : Init bs names vals) (hc : CInit bs [k0, k1, k2] [o0, o1, o2])
    (h : ∀ L c0 c1 c2 env A', EnvOk env names L [(k0, c0), (k1, c1), (k2, c2)] → Room A' n → InFr A A' env fd.code L → BB G A' env body ((L, .ns names vals) :: (c0, .cell o0) :: (c1, .cell o1) :: (c2, .cell o2) :: l) (fun fl l₂ => ∃ l₃, Sub l₃ l₂ ∧ R (retOf fl) l₃) noX) :
    CC G A (.ref f) args l R X := by
  refine CC.def hF hroom xs _ hl hb hck hk hi hc fun L cl env A' hcl hE hr hx => ?_
  (refine PL.x2_1 (map_consL hcl) ?_; rintro c0 cl0 rfl g0)
  (refine PL.x2_1 (map_consL g0) ?_; rintro c1 cl1 rfl g1)
  (refine PL.x2_1 (map_consL g1) ?_; rintro c2 cl2 rfl g2)
  cases List.map_eq_nil_iff.mp g2
  exact h L c0 c1 c2 env A' hE hr hx
theorem CC.def4 {f : Addr} {fd : FuncData} {body : List Stmt} {names : List (Str × NameKind)} {args : List AV} {bs : List Bind} {n : Nat} {k0 k1 k2 k3 : Str} {o0 o1 o2 o3 : Option AV} (hF : FnOk G f fd body names) (hroom : Room A (n + 1)) (xs : List Str) {vals : List (Option AV)}
    (hl : Zip xs args bs) (hb : PlainBind fd xs none) (hck : cellKeys names [] = [k0, k1, k2, k3]) (hk : BKind names bs) (hi : Init bs names vals) (hc : CInit bs [k0, k1, k2, k3] [o0, o1, o2, o3])
    (h : ∀ L c0 c1 c2 c3 env A', EnvOk env names L [(k0, c0), (k1, c1), (k2, c2), (k3, c3)] → Room A' n → InFr A A' env fd.code L → BB G A' env body ((L, .ns names vals) :: (c0, .cell o0) :: (c1, .cell o1) :: (c2, .cell o2) :: (c3, .cell o3) :: l) (fun fl l₂ => ∃ l₃, Sub l₃ l₂ ∧ R (retOf fl) l₃) noX) :
    CC G A (.ref f) args l R X := by
  refine CC.def hF hroom xs _ hl hb hck hk hi hc fun L cl env A' hcl hE hr hx => ?_
  (refine PL.x2_1 (map_consL hcl) ?_; rintro c0 cl0 rfl g0)
  (refine PL.x2_1 (map_consL g0) ?_; rintro c1 cl1 rfl g1)
  (refine PL.x2_1 (map_consL g1) ?_; rintro c2 cl2 rfl g2)
  (refine PL.x2_1 (map_consL g2) ?_; rintro c3 cl3 rfl g3)
  cases List.map_eq_nil_iff.mp g3
  exact h L c0 c1 c2 c3 env A' hE hr hx
theorem Get.nat {p : Addr} {xs : List AV} {k : Nat} {a : AV} (hp : Pick (p, .list xs) l l') (hz : k < 1000000) (hx : xs[k]? = some a) (h : R a l) : Op2 G A getItem (.ref p) (.int k) l R X :=
  Get.list hp (by lia) (by lia) (by simpa using hx) h
theorem Get.strs {p : Addr} {xs : List Str} {k : Nat} {a : Str} (hp : Pick (p, .list (xs.map .str)) l l') (hz : xs.length < 1000000) (hx : xs[k]? = some a) (h : R (.str a) l) : Op2 G A getItem (.ref p) (.int k) l R X :=
  Get.nat hp (by have : k < xs.length := by rcases Nat.lt_or_ge k xs.length with h | h
                                            · exact h
                                            · rw [List.getElem?_eq_none h] at hx; cases hx
                 lia) (by rw [List.getElem?_map, hx]; rfl) h
theorem SetI.strs {p : Addr} {xs : List Str} {k : Nat} {a : Str} {R : Led → Prop} (hp : Pick (p, .list (xs.map .str)) l l') (hz : xs.length < 1000000) (hk : k < xs.length) (h : R ((p, .list ((xs.set k a).map .str)) :: l')) : SetI G A (.ref p) (.int k) (.str a) l R X :=
  SetI.list hp (by lia) (by lia) (by simpa using hk) (by rw [List.map_set] at h; simpa using h)
theorem set_same {α : Type} {xs : List α} {k : Nat} {a : α} (h : xs[k]? = some a) : xs.set k a = xs := by
  apply List.ext_getElem?
  intro i
  by_cases e : k = i
  · subst e
    rw [h, List.getElem?_set_self]
    rcases Nat.lt_or_ge k xs.length with h' | h'
    · exact h'
    · rw [List.getElem?_eq_none h'] at h; cases h
  · rw [List.getElem?_set_ne e]
theorem CC.sub {f : AV} {args : List AV} (hs : Sub l' l) (h : CC G A f args l' R X) : CC G A f args l R X := fun v vs hv hvs => Tr.sub hs (h v vs hv hvs)
theorem CC.pick {f : AV} {args : List AV} {q : Addr × AO} (hp : Pick q l l') (h : CC G A f args (q :: l') R X) : CC G A f args l R X := h.sub (.perm hp.perm)
end
/-- roads that meet -/
noncomputable def JoinK (Q : Led → Prop) (R : AF → Led → Prop) : AF → Led → Prop
  | .next, l => ∃ l', Sub l' l ∧ Q l'
  | f, l => R f l
section
variable {G : Gd} {A : Around} {env : Env} {l l' : Led} {X : Xp} {R : AF → Led → Prop}
theorem SS.join {st : Stmt} (Q : Led → Prop) (h : SS G A env st l (JoinK Q R) X) (hq : ∀ l, Q l → R .next l) : SS G A env st l R X := fun s N =>
  wpAny_mono (h s N) (fun f s₁ ⟨b, l₁, hb, N₁, h₁⟩ => by
    cases b with
    | next => (revert h₁; refine PL.j1_1 ?_; rintro l' hs hQ); exact ⟨.next, l', hb, N₁.sub hs, hq _ hQ⟩
    | brk => exact ⟨.brk, l₁, hb, N₁, h₁⟩
    | cont => exact ⟨.cont, l₁, hb, N₁, h₁⟩
    | ret v => exact ⟨.ret v, l₁, hb, N₁, h₁⟩) fun _ _ y => y
theorem JoinK.next {Q : Led → Prop} (hQ : Q l') (hs : Sub l' l) : JoinK Q R .next l := (PL.m1_1 l' hs hQ)
theorem JoinK.ret {Q : Led → Prop} {v : AV} (h : R (.ret v) l) : JoinK Q R (.ret v) l := h
theorem JoinK.brk {Q : Led → Prop} (h : R .brk l) : JoinK Q R .brk l := h
theorem JoinK.cont {Q : Led → Prop} (h : R .cont l) : JoinK Q R .cont l := h
theorem LoopK.next {n m : Nat} {J : Nat → Led → Prop} (hJ : J m l') (hm : m < n) (hs : Sub l' l) : LoopK n J R .next l := (PL.m2_2 m l' hm hs hJ)
theorem LoopK.cont {n m : Nat} {J : Nat → Led → Prop} (hJ : J m l') (hm : m < n) (hs : Sub l' l) : LoopK n J R .cont l := (PL.m2_2 m l' hm hs hJ)
theorem LoopK.brk {n : Nat} {J : Nat → Led → Prop} (h : R .next l) : LoopK n J R .brk l := h
theorem LoopK.ret {n : Nat} {J : Nat → Led → Prop} {v : AV} (h : R (.ret v) l) : LoopK n J R (.ret v) l := h
theorem ForK.next {F L : Led} {J : Led → Prop} (hJ : J L) (hs : Sub (F ++ L) l) : ForK F J R .next l := (PL.m1_1 L hs hJ)
theorem ForK.cont {F L : Led} {J : Led → Prop} (hJ : J L) (hs : Sub (F ++ L) l) : ForK F J R .cont l := (PL.m1_1 L hs hJ)
theorem ForK.brk {F : Led} {J : Led → Prop} (h : R .next l) : ForK F J R .brk l := h
theorem ForK.ret {F : Led} {J : Led → Prop} {v : AV} (h : R (.ret v) l) : ForK F J R (.ret v) l := h
theorem brT {p q P Q : Prop} (h : ¬ q) (x : P) : (p → P) ∧ (q → Q) := ⟨fun _ => x, fun e => absurd e h⟩
theorem brF {p q P Q : Prop} (h : ¬ p) (x : Q) : (p → P) ∧ (q → Q) := ⟨fun e => absurd e h, fun _ => x⟩
structure HJ (Q : Led → Prop) (R J : AF → Led → Prop) : Prop where
  next : ∀ {l l'}, Q l' → Sub l' l → J .next l
  ret : ∀ {v l}, R (.ret v) l → J (.ret v) l
  brk : ∀ {l}, R .brk l → J .brk l
  cont : ∀ {l}, R .cont l → J .cont l
theorem SS.joinH {st : Stmt} {R : AF → Led → Prop} (Q : Led → Prop) (h : ∀ J, HJ Q R J → SS G A env st l J X) (hq : ∀ l, Q l → R .next l) : SS G A env st l R X :=
  SS.join Q (h (JoinK Q R) ⟨JoinK.next, JoinK.ret, JoinK.brk, JoinK.cont⟩) hq
structure HL (I : Nat → Led → Prop) (R : AF → Led → Prop) (K : Nat → AF → Led → Prop) (E : AF → Led → Prop) : Prop where
  next : ∀ {n m l l'}, I m l' → m < n → Sub l' l → K n .next l
  cont : ∀ {n m l l'}, I m l' → m < n → Sub l' l → K n .cont l
  brk : ∀ {n l}, R .next l → K n .brk l
  ret : ∀ {n v l}, R (.ret v) l → K n (.ret v) l
  els : ∀ {f l}, R f l → E f l
theorem SS.whileH {test : Expr} {body orelse : List Stmt} {pos : Pos} {R : AF → Led → Prop} (n : Nat) (J : Nat → Led → Prop) (h0 : J n l)
    (turn : ∀ K E, HL J R K E → ∀ n l, J n l → TT G A env test l (fun b l₁ => (b = true → BB G A env body l₁ (K n) noX) ∧ (b = false → BB G A env orelse l₁ E noX)) noX) : SS G A env (.While test body orelse pos) l R X :=
  SS.while n J h0 (turn (fun n => LoopK n J R) R ⟨LoopK.next, LoopK.cont, LoopK.brk, LoopK.ret, id⟩)
structure HF (F : Nat → Led) (J : Nat → Led → Prop) (R : AF → Led → Prop) (K : Nat → AF → Led → Prop) : Prop where
  next : ∀ {k l L}, J k L → Sub (F k ++ L) l → K k .next l
  cont : ∀ {k l L}, J k L → Sub (F k ++ L) l → K k .cont l
  brk : ∀ {k l}, R .next l → K k .brk l
  ret : ∀ {k v l}, R (.ret v) l → K k (.ret v) l
theorem SS.forH {target iter : Expr} {body : List Stmt} {pos : Pos} {R : AF → Led → Prop}
    (h : EE G A env iter l (fun x l₁ => Op1 G A pyIter x l₁ (fun it l₂ => ∃ n F Fm Fe P T L₀, Walk G A it n F Fm Fe P T ∧ T target ∧ Sub (F 0 ++ L₀) l₂ ∧ ∃ J : Nat → Led → Prop, J 0 L₀ ∧
      (∀ K, HF F J R K → ∀ k a E L, k < n → P k a E → J k L → Asg G A env target a (E ++ (F (k + 1) ++ L)) (fun l₃ => BB G A env body l₃ (K (k + 1)) noX) noX) ∧
      (∀ L, J n L → R .next (Fe ++ L))) X) X)
    (hs : ∀ x, foldedSetIterable iter env x = pure x := by intro _; with_unfolding_all rfl) : SS G A env (.For target iter body [] pos) l R X :=
  SS.for (fun s N => wpAny_mono (h s N) (fun _ _ ⟨x, l₁, hx, N₁, h₁⟩ => ⟨x, l₁, hx, N₁, fun v hv s N => wpAny_mono (h₁ v hv s N) (fun _ _ hp5 => by
    obtain ⟨it, l₂, hit, N₂, h5⟩ := hp5
    (refine PL.x7_3 h5 ?_; rintro n F Fm Fe P T L₀ W hT hsub h6)
    (refine PL.x1_2 h6 ?_; rintro J hJ0 turn fin)
    exact ⟨it, l₂, hit, N₂, PL.m7_3 n F Fm Fe P T L₀ W hT hsub (PL.m1_2 J hJ0 (turn (fun k => ForK (F k) (J k) R) ⟨ForK.next, ForK.cont, ForK.brk, ForK.ret⟩) fin)⟩) fun _ _ y => y⟩) fun _ _ y => y) hs
theorem BB.sub {b : List Stmt} (hs : Sub l' l) (h : BB G A env b l' R X) : BB G A env b l R X := Tr.sub hs h
theorem EE.negc {i : Int} {k : Nat} {p pos : Pos} {R : AV → Led → Prop} (h : R (.int (-i)) l) : EE G A env (.UnaryOp .USub (.Constant (.int i) k p) pos) l R X := EE.neg (EE.int (PL.m1_1 i rfl h))
theorem EA.ex {e : Expr} {es : List Expr} {pos : Pos} {R : List AV → Led → Prop} (h : EE G A env e l (fun a l₁ => EA G A (backTo pos (starEach es env)) l₁ (fun as l₂ => R (a :: as) l₂) X) X) (hs : starEach (e :: es) env = (false, eval e env) :: starEach es env := by with_unfolding_all rfl) :
    EA G A (backTo pos (starEach (e :: es) env)) l R X := by
  rw [hs]; exact EA.cons h
theorem EA.nl {pos : Pos} {R : List AV → Led → Prop} (h : R [] l) : EA G A (backTo pos (starEach [] env)) l R X := EA.nil h
end
/-! the module's names -/
noncomputable def GlobT (mg mb : Str → Option Value) (gt : List (Str × AV)) : Prop := ∀ x a, LookT x a gt → ∃ v, a.Is v ∧ (mg x = some v ∨ (mg x = none ∧ mb x = some v))
theorem GlobT.nil {mg mb : Str → Option Value} : GlobT mg mb [] := fun x a q => by cases q
theorem GlobT.mod {K : Frag} {h : Heap} {mg mb : Str → Option Value} {x : Str} {v : Value} {a : AV} {gt : List (Str × AV)} (X : K.In h) (N : h.Ns mainGlobals mg) (e : nsIn K mainGlobals x = some (some v)) (ha : a.Is v) (r : GlobT mg mb gt) : GlobT mg mb ((x, a) :: gt) := fun y b q => by
  cases q with
  | here => exact (PL.m1_1 v ha (.inl (mg_of X N e)))
  | there q => exact r y b q
theorem GlobT.bi {K : Frag} {h : Heap} {mg mb : Str → Option Value} {x : Str} {v : Value} {a : AV} {gt : List (Str × AV)} (X : K.In h) (N : h.Ns mainGlobals mg) (hb : ∀ x : Str, x ≠ "__name__" → mb x = bootBuiltins x) (e : nsIn K mainGlobals x = some none) (ev : bootBuiltins x = some v) (hn : x ≠ "__name__") (ha : a.Is v) (r : GlobT mg mb gt) : GlobT mg mb ((x, a) :: gt) := fun y b q => by
  cases q with
  | here => exact (PL.m1_1 v ha (.inr ⟨mg_none_of X N e, (hb _ hn).trans ev⟩))
  | there q => exact r y b q
section
variable {G : Gd} {A : Around} {env : Env} {l l' : Led} {X : Xp} {R : AV → Led → Prop}
theorem CC.appends {p : Addr} {xs : List Str} {a : Str} (hp : Pick (p, .list (xs.map .str)) l l') (hz : xs.length < 1000000) (h : R .none ((p, .list ((xs ++ [a]).map .str)) :: l')) : CC G A (.lit (.builtin "list.append")) [.ref p, .str a] l R X :=
  CC.append hp (by simpa using hz) (by simpa using h)
theorem CC.pops {p : Addr} {xs : List Str} {a : Str} (hp : Pick (p, .list ((xs ++ [a]).map .str)) l l') (hz : xs.length < 1000000) (h : R (.str a) ((p, .list (xs.map .str)) :: l')) : CC G A (.lit (.builtin "list.pop")) [.ref p] l R X :=
  CC.pop (xs := xs.map .str) (a := .str a) (by simpa using hp) (by simpa using hz) h
theorem CC.lens {p : Addr} {xs : List Str} (hp : Pick (p, .list (xs.map .str)) l l') (hz : xs.length < 1000000) (h : R (.int xs.length) l) : CC G A (.lit (.builtin "len")) [.ref p] l R X :=
  CC.len_list hp (by simpa using hz) (by simpa using h)
theorem Truth.lists {R : Bool → Led → Prop} {p : Addr} {xs : List Str} (hp : Pick (p, .list (xs.map .str)) l l') (hz : xs.length < 1000000) (h : R (!xs.isEmpty) l) : Truth G A (.ref p) l R X :=
  Truth.list hp (by simpa using hz) (by simpa using h)
end
/-! one head alone: for the tactic's choice -/
section
variable {G : Gd} {A : Around} {env : Env} {l l' : Led} {X : Xp}
end
end PL
end
section
open PySem PySem.Calls PyProof.Rows PySem.W
set_option autoImplicit false
set_option linter.unusedVariables false
namespace HP
variable {α : Type}
structure Ord (lt : α → α → Bool) : Prop where
  asymm : ∀ a b, lt a b = true → lt b a = false
  trans : ∀ a b c, lt b a = false → lt c b = false → lt c a = false
noncomputable def leO (lt : α → α → Bool) : Option α → Option α → Prop
  | some a, some b => lt b a = false
  | _, _ => True
theorem leO.noneR {lt : α → α → Bool} {o : Option α} : leO lt o none := by cases o <;> trivial
theorem leO.trans {lt : α → α → Bool} (O : Ord lt) {a c : Option α} {b : α} (h1 : leO lt a (some b)) (h2 : leO lt (some b) c) : leO lt a c := by
  cases a with
  | none => trivial
  | some a => cases c with
    | none => trivial
    | some c => exact O.trans a b c h1 h2
theorem leO.refl {lt : α → α → Bool} (O : Ord lt) (a : Option α) : leO lt a a := by
  cases a with
  | none => trivial
  | some a =>
    cases h : lt a a with
    | false => exact h
    | true => have := O.asymm a a h; rw [h] at this; cases this

noncomputable def Heap (lt : α → α → Bool) (g : List α) : Prop := ∀ i, 0 < i → leO lt g[(i - 1) / 2]? g[i]?
noncomputable def SInv (lt : α → α → Bool) (g : List α) (pos : Nat) : Prop := (∀ i, 0 < i → i ≠ pos → leO lt g[(i - 1) / 2]? g[i]?) ∧ (∀ i, 0 < i → (i - 1) / 2 = pos → 0 < pos → leO lt g[(pos - 1) / 2]? g[i]?)
noncomputable def UInv (lt : α → α → Bool) (g : List α) (pos : Nat) : Prop := (∀ i, 0 < i → i ≠ pos → (i - 1) / 2 ≠ pos → leO lt g[(i - 1) / 2]? g[i]?) ∧ (∀ i, 0 < i → (i - 1) / 2 = pos → 0 < pos → leO lt g[(pos - 1) / 2]? g[i]?)

theorem SInv.done0 {lt : α → α → Bool} {g : List α} (h : SInv lt g 0) : Heap lt g := fun i hi => h.1 i hi (by lia)
theorem SInv.done {lt : α → α → Bool} {g : List α} {pos : Nat} (h : SInv lt g pos) (hp : leO lt g[(pos - 1) / 2]? g[pos]?) : Heap lt g := fun i hi => by
  by_cases e : i = pos
  · rw [e]; exact hp
  · exact h.1 i hi e

theorem perm_cons_set {a b : α} : ∀ {ys : List α} {j : Nat}, ys[j]? = some b → (b :: ys.set j a).Perm (a :: ys)
  | y :: ys, 0, h => by
    have e : y = b := by simpa using h
    subst e
    exact .swap ..
  | y :: ys, j + 1, h => by
    have h' : ys[j]? = some b := by simpa using h
    have := perm_cons_set (a := a) h'
    refine (List.Perm.swap ..).trans ?_
    refine (this.cons y).trans (.swap ..)
theorem perm_swap {a b : α} : ∀ {xs : List α} {i j : Nat}, xs[j]? = some b → i < xs.length → i ≠ j → ((xs.set i b).set j a).Perm (xs.set i a)
  | x :: xs, 0, 0, h, hi, hij => absurd rfl hij
  | x :: xs, 0, j + 1, h, hi, hij => by
    have h' : xs[j]? = some b := by simpa using h
    simpa using perm_cons_set h'
  | x :: xs, i + 1, 0, h, hi, hij => by
    have e : x = b := by simpa using h
    subst e
    have hi' : i < xs.length := by simpa using hi
    show (a :: xs.set i x).Perm (x :: xs.set i a)
    obtain ⟨y, hy⟩ : ∃ y, (xs.set i x)[i]? = some y := ⟨x, by simp [hi']⟩
    have hx : (xs.set i x)[i]? = some x := by simp [hi']
    have := perm_cons_set (a := a) hx
    rw [List.set_set] at this
    exact this.symm
  | x :: xs, i + 1, j + 1, h, hi, hij => by
    have h' : xs[j]? = some b := by simpa using h
    simpa using (perm_swap (a := a) h' (by simpa using hi) (by lia)).cons x

/-- one step up the tree -/
theorem SInv.step {lt : α → α → Bool} (O : Ord lt) {xs : List α} {pos : Nat} {new p : α} (h : SInv lt (xs.set pos new) pos) (h0 : 0 < pos) (hl : pos < xs.length) (hp : xs[(pos - 1) / 2]? = some p) (hlt : lt new p = true) :
    SInv lt ((xs.set pos p).set ((pos - 1) / 2) new) ((pos - 1) / 2) := by
  generalize hq : (pos - 1) / 2 = q at *
  have hqp : q < pos := by lia
  have gq : (xs.set pos new)[q]? = some p := by rw [List.getElem?_set_ne (by (exact Nat.ne_of_gt hqp))]; exact hp
  have at_q : ((xs.set pos p).set q new)[q]? = some new := by rw [List.getElem?_set_self (by rw [List.length_set]; lia)]
  have at_p : ((xs.set pos p).set q new)[pos]? = some p := by rw [List.getElem?_set_ne (by (exact Nat.ne_of_lt hqp)), List.getElem?_set_self hl]
  have at_o : ∀ i, i ≠ pos → i ≠ q → ((xs.set pos p).set q new)[i]? = (xs.set pos new)[i]? := fun i h1 h2 => by
    rw [List.getElem?_set_ne (by lia), List.getElem?_set_ne (by lia), List.getElem?_set_ne (by lia)]
  constructor
  · intro i hi hne
    by_cases e : i = pos
    · subst e; rw [hq, at_q, at_p]; exact O.asymm _ _ hlt
    · rw [at_o i e hne]
      by_cases e1 : (i - 1) / 2 = pos
      · rw [e1, at_p]
        have := h.2 i hi e1 h0
        rw [hq, gq] at this; exact this
      · by_cases e2 : (i - 1) / 2 = q
        · rw [e2, at_q]
          have h1 := h.1 i hi e
          rw [e2, gq] at h1
          exact leO.trans O (a := some new) (b := p) (O.asymm _ _ hlt) h1
        · rw [at_o _ e1 e2]; exact h.1 i hi e
  · intro i hi hpar hq0
    rw [at_o _ (by lia) (by lia)]
    have h1 := h.1 q hq0 (by (exact Nat.ne_of_lt hqp))
    rw [gq] at h1
    by_cases e : i = pos
    · subst e; rw [at_p]; exact h1
    · rw [at_o i e (by lia)]
      have h2 := h.1 i hi e
      rw [hpar, gq] at h2
      exact leO.trans O h1 h2

/-- one step down -/
theorem UInv.step {lt : α → α → Bool} {xs : List α} {pos c : Nat} {b : α} (h : UInv lt xs pos) (hl : pos < xs.length) (hc : (c - 1) / 2 = pos) (hc0 : 0 < c) (hb : xs[c]? = some b)
    (hmin : ∀ i, 0 < i → (i - 1) / 2 = pos → leO lt (some b) xs[i]?) : UInv lt (xs.set pos b) c := by
  have at_p : (xs.set pos b)[pos]? = some b := by rw [List.getElem?_set_self hl]
  have at_o : ∀ i, i ≠ pos → (xs.set pos b)[i]? = xs[i]? := fun i h1 => by rw [List.getElem?_set_ne (by lia)]
  constructor
  · intro i hi hne hpar
    by_cases e : i = pos
    · subst e
      rw [at_p, at_o _ (by lia), ← hb]
      exact h.2 c hc0 hc hi
    · rw [at_o i e]
      by_cases e1 : (i - 1) / 2 = pos
      · rw [e1, at_p]; exact hmin i hi e1
      · rw [at_o _ e1]; exact h.1 i hi e e1
  · intro i hi hpar _
    rw [hc, at_p, at_o i (by lia), ← hb]
    have := h.1 i hi (by lia) (by lia)
    rw [hpar] at this; exact this
theorem UInv.done {lt : α → α → Bool} {xs : List α} {pos : Nat} {new : α} (h : UInv lt xs pos) (hl : pos < xs.length) (hn : xs.length ≤ 2 * pos + 1) : SInv lt (xs.set pos new) pos := by
  constructor
  · intro i hi hne
    by_cases e1 : (i - 1) / 2 = pos
    · rw [List.getElem?_eq_none (l := xs.set pos new) (i := i) (by rw [List.length_set]; lia)]; exact leO.noneR
    · rw [List.getElem?_set_ne (by lia), List.getElem?_set_ne (by lia)]; exact h.1 i hi hne e1
  · intro i hi hpar _
    rw [List.getElem?_eq_none (l := xs.set pos new) (i := i) (by rw [List.length_set]; lia)]; exact leO.noneR
theorem UInv.start {lt : α → α → Bool} {xs : List α} {a b : α} (h : Heap lt (xs ++ [b])) : UInv lt (xs.set 0 a) 0 := by
  constructor
  · intro i hi hne hpar
    rw [List.getElem?_set_ne (by lia), List.getElem?_set_ne (by lia)]
    have := h i hi
    by_cases e : i < xs.length
    · rw [List.getElem?_append_left (by lia), List.getElem?_append_left e] at this; exact this
    · rw [List.getElem?_eq_none (l := xs) (i := i) (by lia)]; exact leO.noneR
  · intro i hi hpar h0; lia
theorem SInv.push {lt : α → α → Bool} {xs : List α} {a : α} (h : Heap lt xs) : SInv lt (xs ++ [a]) xs.length := by
  constructor
  · intro i hi hne
    by_cases e : i < xs.length
    · rw [List.getElem?_append_left (by lia), List.getElem?_append_left e]; exact h i hi
    · rw [List.getElem?_eq_none (l := xs ++ [a]) (i := i) (by simp; lia)]; exact leO.noneR
  · intro i hi hpar h0
    rw [List.getElem?_eq_none (l := xs ++ [a]) (i := i) (by simp; lia)]; exact leO.noneR
theorem Heap.root {lt : α → α → Bool} (O : Ord lt) {g : List α} (h : Heap lt g) : ∀ i : Nat, leO lt g[0]? g[i]? := by
  intro i
  induction i using Nat.strongRecOn with
  | ind i ih =>
    by_cases e : i = 0
    · subst e; exact leO.refl O _
    · by_cases hi : i < g.length
      · have h1 := ih ((i - 1) / 2) (by lia)
        have h2 := h i (by lia)
        obtain ⟨b, hb⟩ : ∃ b, g[(i - 1) / 2]? = some b := ⟨_, List.getElem?_eq_getElem (by lia)⟩
        rw [hb] at h1 h2
        exact leO.trans O h1 h2
      · rw [List.getElem?_eq_none (l := g) (i := i) (by lia)]; exact leO.noneR
theorem Heap.min {lt : α → α → Bool} (O : Ord lt) {a : α} {g : List α} (h : Heap lt (a :: g)) {b : α} (hb : b ∈ a :: g) : lt b a = false := by
  obtain ⟨i, hi⟩ := List.getElem?_of_mem hb
  have := h.root O i
  rw [hi] at this
  simpa [leO] using this
theorem Heap.nil {lt : α → α → Bool} : Heap lt ([] : List α) := fun i _ => by simp; trivial

/-- the order of texts -/
noncomputable def slt (x y : Str) : Bool := decide (x.cps.toList < y.cps.toList)
theorem slt_ord : Ord slt where
  asymm a b h := by
    have h' : a.cps.toList < b.cps.toList := of_decide_eq_true h
    exact decide_eq_false fun h2 => List.lt_asymm h' h2
  trans a b c h1 h2 := by
    have h1' := of_decide_eq_false h1
    have h2' := of_decide_eq_false h2
    refine decide_eq_false ?_
    rw [List.not_lt] at h1' h2' ⊢
    exact List.le_trans h1' h2'
end HP
end
section
open PySem PySem.Calls PyProof.Rows PySem.W
set_option autoImplicit false
set_option linter.unusedVariables false
set_option maxRecDepth 100000
set_option maxHeartbeats 0
namespace PL


theorem slot_mdget : Slot "method_descriptor" "__get__" "method_descriptor.__get__" :=
  .of (owner := "method_descriptor") (n := "__get__") (by rw [typeLookup_type, builtinLookup_eq_fast]; kernel_rfl) (by decide +kernel) (by decide +kernel) (by decide +kernel)
    (by first | exact .inl (by decide +kernel) | exact .inr (by decide +kernel)) (by rw [isSubtype_type]; kernel_rfl)
theorem entry_mdget : entryFor table "method_descriptor.__get__" = some Builtin.«method_descriptor.__get__» := entryFor_of_tree (by kernel_rfl)
theorem args_mdget (a b c : Value) : argsOk "method_descriptor.__get__" ⟨[a, b, c], []⟩ := by unfold argsOk; kernel_rfl
theorem md_set : typeLookup (.type "method_descriptor") "__set__" = pure none := by rw [typeLookup_type, builtinLookup_eq_fast]; kernel_rfl
theorem md_del : typeLookup (.type "method_descriptor") "__delete__" = pure none := by rw [typeLookup_type, builtinLookup_eq_fast]; kernel_rfl


theorem la_look : typeLookup (.type "list") "append" = pure (some (.builtin "list.append")) := by rw [typeLookup_type, builtinLookup_eq_fast]; kernel_rfl
theorem la_type : typeOf (.builtin "list.append") = pure (.type "method_descriptor") := by show builtinType _ = _; rw [builtinType_eq_fast]; kernel_rfl
theorem la_get : typeLookup (.type "method_descriptor") "__get__" = pure (some (.builtin "method_descriptor.__get__")) := by rw [typeLookup_type, builtinLookup_eq_fast]; kernel_rfl
theorem la_told : Manifest.toldItsClass.contains "list.append" = false := by decide +kernel
theorem la_sub : isSubtype (.type "list") (.type (".".intercalate ("list.append".cutAt '.').dropLast)) = pure true := by
  rw [show ".".intercalate ("list.append".cutAt '.').dropLast = "list" by decide +kernel, isSubtype_type]; kernel_rfl
theorem la_entry : entryFor table "list.__getattribute__" = some Builtin.«object.__getattribute__» := am_entry_list_getattribute
theorem la_bind {prog : Program} {w : World} {A : Around} {E : Value → Shared → Prop} {s : Shared} {a : Addr} {xs : Array Value} {k : Nat} {Q : Fin → Shared → Prop} (hx : s.heap.get? a = some { cls := .type "list", data := .seq xs k })
    (h : Q (.done (.ret (.ref s.heap.objs.size))) { s with heap := s.heap.push { cls := .type "builtin_function_or_method", data := .fields #[.builtin "list.append", .ref a] } }) :
    wpAny (model prog w) A (Builtin.«method_descriptor.__get__» ⟨[.builtin "list.append", .ref a, .type "list"], []⟩) Q E s := by
  obtain ⟨hp, g, d, tk, os⟩ := s
  have hT : (⟨hp, g, d, tk, os⟩ : Shared).TypeIs (.ref a) "list" := ⟨_, hx, rfl⟩
  have l1 := la_sub
  have l2 := la_told
  unfold Builtin.«method_descriptor.__get__»
  repeat (any_goals (first | assumption | wp_step))
theorem la_attr {prog : Program} {w : World} {A : Around} {E : Value → Shared → Prop} {s : Shared} {a : Addr} {u : Tok} {xs : Array Value} {k : Nat} {Q : Fin → Shared → Prop} (hx : s.heap.get? a = some { cls := .type "list", data := .seq xs k })
    (h : Q (.done (.ret (.ref s.heap.objs.size))) { s with heap := s.heap.push { cls := .type "builtin_function_or_method", data := .fields #[.builtin "list.append", .ref a] } }) :
    wpAny (model prog w) A (Builtin.«object.__getattribute__» ⟨[.ref a, .str "append" u], []⟩) Q E s := by
  obtain ⟨hp, g, d, tk, os⟩ := s
  have hT : (⟨hp, g, d, tk, os⟩ : Shared).TypeIs (.ref a) "list" := ⟨_, hx, rfl⟩
  have l1 := la_look
  have l2 := la_type
  have l3 := la_get
  have l4 := md_set
  have l5 := md_del
  unfold Builtin.«object.__getattribute__»
  repeat (any_goals (first | assumption | wp_step))
  have hD : (⟨hp, g, d, tk, os⟩ : Shared).TypeIs (.builtin "list.append") "method_descriptor" := la_type
  refine codeAny_call_builtin slot_mdget.plain entry_mdget (slot_mdget.check _ _ _ _ _ _ _ _ hD (args_mdget _ _ _) ?_)
  exact la_bind hx (wpAny_pure h)
theorem slot_wdget : Slot "wrapper_descriptor" "__get__" "wrapper_descriptor.__get__" :=
  .of (owner := "wrapper_descriptor") (n := "__get__") (by rw [typeLookup_type, builtinLookup_eq_fast]; kernel_rfl) (by decide +kernel) (by decide +kernel) (by decide +kernel)
    (by first | exact .inl (by decide +kernel) | exact .inr (by decide +kernel)) (by rw [isSubtype_type]; kernel_rfl)
theorem entry_wdget : entryFor table "wrapper_descriptor.__get__" = some Builtin.«wrapper_descriptor.__get__» := entryFor_of_tree (by kernel_rfl)
theorem args_wdget (a b c : Value) : argsOk "wrapper_descriptor.__get__" ⟨[a, b, c], []⟩ := by unfold argsOk; kernel_rfl
theorem wd_set : typeLookup (.type "wrapper_descriptor") "__set__" = pure none := by rw [typeLookup_type, builtinLookup_eq_fast]; kernel_rfl
theorem wd_del : typeLookup (.type "wrapper_descriptor") "__delete__" = pure none := by rw [typeLookup_type, builtinLookup_eq_fast]; kernel_rfl


theorem ln_look : typeLookup (.type "list_iterator") "__next__" = pure (some (.builtin "list_iterator.__next__")) := by rw [typeLookup_type, builtinLookup_eq_fast]; kernel_rfl
theorem ln_type : typeOf (.builtin "list_iterator.__next__") = pure (.type "wrapper_descriptor") := by show builtinType _ = _; rw [builtinType_eq_fast]; kernel_rfl
theorem ln_get : typeLookup (.type "wrapper_descriptor") "__get__" = pure (some (.builtin "wrapper_descriptor.__get__")) := by rw [typeLookup_type, builtinLookup_eq_fast]; kernel_rfl
theorem ln_told : Manifest.toldItsClass.contains "list_iterator.__next__" = false := by decide +kernel
theorem ln_sub : isSubtype (.type "list_iterator") (.type (".".intercalate ("list_iterator.__next__".cutAt '.').dropLast)) = pure true := by
  rw [show ".".intercalate ("list_iterator.__next__".cutAt '.').dropLast = "list_iterator" by decide +kernel, isSubtype_type]; kernel_rfl
theorem slot_ln_ga : Slot "list_iterator" "__getattribute__" "object.__getattribute__" :=
  .of (owner := "object") (n := "__getattribute__") (by rw [typeLookup_type, builtinLookup_eq_fast]; kernel_rfl) (by decide +kernel) (by decide +kernel) (by decide +kernel)
    (by first | exact .inl (by decide +kernel) | exact .inr (by decide +kernel)) (by rw [isSubtype_type]; kernel_rfl)
theorem ln_entry : entryFor table "object.__getattribute__" = some Builtin.«object.__getattribute__» := entryFor_of_tree (by kernel_rfl)
theorem ln_args (a b : Value) : argsOk "object.__getattribute__" ⟨[a, b], []⟩ := by unfold argsOk; kernel_rfl
theorem ln_bind {prog : Program} {w : World} {A : Around} {E : Value → Shared → Prop} {s : Shared} {a : Addr} {vs : Array Value} {Q : Fin → Shared → Prop} (hx : s.heap.get? a = some { cls := .type "list_iterator", data := .fields vs })
    (h : Q (.done (.ret (.ref s.heap.objs.size))) { s with heap := s.heap.push { cls := .type "method-wrapper", data := .fields #[.builtin "list_iterator.__next__", .ref a] } }) :
    wpAny (model prog w) A (Builtin.«wrapper_descriptor.__get__» ⟨[.builtin "list_iterator.__next__", .ref a, .type "list_iterator"], []⟩) Q E s := by
  obtain ⟨hp, g, d, tk, os⟩ := s
  have hT : (⟨hp, g, d, tk, os⟩ : Shared).TypeIs (.ref a) "list_iterator" := ⟨_, hx, rfl⟩
  have l1 := ln_sub
  have l2 := ln_told
  unfold Builtin.«wrapper_descriptor.__get__»
  repeat (any_goals (first | assumption | wp_step))
theorem ln_attr {prog : Program} {w : World} {A : Around} {E : Value → Shared → Prop} {s : Shared} {a : Addr} {u : Tok} {vs : Array Value} {Q : Fin → Shared → Prop} (hx : s.heap.get? a = some { cls := .type "list_iterator", data := .fields vs })
    (h : Q (.done (.ret (.ref s.heap.objs.size))) { s with heap := s.heap.push { cls := .type "method-wrapper", data := .fields #[.builtin "list_iterator.__next__", .ref a] } }) :
    wpAny (model prog w) A (Builtin.«object.__getattribute__» ⟨[.ref a, .str "__next__" u], []⟩) Q E s := by
  obtain ⟨hp, g, d, tk, os⟩ := s
  have hT : (⟨hp, g, d, tk, os⟩ : Shared).TypeIs (.ref a) "list_iterator" := ⟨_, hx, rfl⟩
  have l1 := ln_look
  have l2 := ln_type
  have l3 := ln_get
  have l4 := wd_set
  have l5 := wd_del
  unfold Builtin.«object.__getattribute__»
  repeat (any_goals (first | assumption | wp_step))
  have hD : (⟨hp, g, d, tk, os⟩ : Shared).TypeIs (.builtin "list_iterator.__next__") "wrapper_descriptor" := ln_type
  refine codeAny_call_builtin slot_wdget.plain entry_wdget (slot_wdget.check _ _ _ _ _ _ _ _ hD (args_wdget _ _ _) ?_)
  exact ln_bind hx (wpAny_pure h)

theorem la_getAttr {prog : Program} {w : World} {A : Around} {E : Value → Shared → Prop} {s : Shared} {a : Addr} {xs : Array Value} {k : Nat} {Q : Value → Shared → Prop} (hx : s.heap.get? a = some { cls := .type "list", data := .seq xs k })
    (h : ∀ tk, Q (.ref s.heap.objs.size) { s with heap := s.heap.push { cls := .type "builtin_function_or_method", data := .fields #[.builtin "list.append", .ref a] }, toks := tk }) : wpAny (model prog w) A (getAttr (.ref a) "append" true) Q E s := by
  obtain ⟨hp, g, d, tk, os⟩ := s
  have hT : ∀ tk', (⟨hp, g, d, tk', os⟩ : Shared).TypeIs (.ref a) "list" := fun _ => ⟨_, hx, rfl⟩
  have f3 := F.slot_list_getattribute.lookup
  have f4 := F.slot_list_getattribute.bind (.ref a)
  unfold getAttr getAttrBy
  repeat (any_goals (first | assumption | exact hT _ | wp_step))
  exact codeAny_call_builtin F.slot_list_getattribute.plain la_entry (F.slot_list_getattribute.check _ _ _ _ _ _ _ _ (hT _) (F.args_list_getattribute_2 _ _) (la_attr hx (wpAny_pure (h _))))

theorem ln_getAttr {prog : Program} {w : World} {A : Around} {E : Value → Shared → Prop} {s : Shared} {a : Addr} {vs : Array Value} {Q : Value → Shared → Prop} (hx : s.heap.get? a = some { cls := .type "list_iterator", data := .fields vs })
    (h : ∀ tk, Q (.ref s.heap.objs.size) { s with heap := s.heap.push { cls := .type "method-wrapper", data := .fields #[.builtin "list_iterator.__next__", .ref a] }, toks := tk }) : wpAny (model prog w) A (getAttr (.ref a) "__next__" true) Q E s := by
  obtain ⟨hp, g, d, tk, os⟩ := s
  have hT : ∀ tk', (⟨hp, g, d, tk', os⟩ : Shared).TypeIs (.ref a) "list_iterator" := fun _ => ⟨_, hx, rfl⟩
  have f3 := slot_ln_ga.lookup
  have f4 := slot_ln_ga.bind (.ref a)
  unfold getAttr getAttrBy
  repeat (any_goals (first | assumption | exact hT _ | wp_step))
  exact codeAny_call_builtin slot_ln_ga.plain ln_entry (slot_ln_ga.check _ _ _ _ _ _ _ _ (hT _) (ln_args _ _) (ln_attr hx (wpAny_pure (h _))))

theorem list_no_module : isSubtype (.type "list") (.type "module") = pure false := by rw [isSubtype_type]; kernel_rfl
theorem la_call {prog : Program} {w : World} {A : Around} {E : Value → Shared → Prop} {s : Shared} {a b : Addr} {x : Value} {xs : Array Value} {k : Nat} {Q : Value → Shared → Prop} (hx : s.heap.get? a = some { cls := .type "list", data := .seq xs k })
    (hb : s.heap.get? b = some { cls := .type "builtin_function_or_method", data := .fields #[.builtin "list.append", .ref a] })
    (h : wpAny (model prog w) A.in1 (Builtin.«list.append» ⟨[.ref a, x], []⟩) (fun f s' => ∃ v, f = .done (.ret v) ∧ Q v s') E s) : wpAny (model prog w) A (call (.ref b) [x]) Q E s := by
  obtain ⟨hp, g, d, tk, os⟩ := s
  have hT : (⟨hp, g, d, tk, os⟩ : Shared).TypeIs (.ref a) "list" := ⟨_, hx, rfl⟩
  have l1 := list_no_module
  refine wpAny_call (codeAny_of_tree ?_)
  show wpAny _ _ (callAny (.ref b) _) _ _ _
  unfold callAny
  repeat (any_goals (first | assumption | wp_step))
  refine ⟨plainId_quiet F.slot_list_append.plain _, codeAny_builtin entry_list_append ?_⟩
  rw [Around.under_plainId F.slot_list_append.plain]
  exact wpAny_mono h (fun f s' ⟨v, e, q⟩ => by subst e; exact q) fun _ _ q => q
theorem iter_no_module : isSubtype (.type "list_iterator") (.type "module") = pure false := by rw [isSubtype_type]; kernel_rfl
theorem ln_call {prog : Program} {w : World} {A : Around} {E : Value → Shared → Prop} {s : Shared} {a b : Addr} {o : Obj} {Q : Value → Shared → Prop} (hx : s.heap.get? a = some o) (hc : o.cls = .type "list_iterator")
    (hb : s.heap.get? b = some { cls := .type "method-wrapper", data := .fields #[.builtin "list_iterator.__next__", .ref a] })
    (h : wpAny (model prog w) A.in1 (Builtin.«list_iterator.__next__» ⟨[.ref a], []⟩) (fun f s' => ∃ v, f = .done (.ret v) ∧ Q v s') E s) : wpAny (model prog w) A (call (.ref b) []) Q E s := by
  obtain ⟨hp, g, d, tk, os⟩ := s
  have hT : (⟨hp, g, d, tk, os⟩ : Shared).TypeIs (.ref a) "list_iterator" := ⟨_, hx, hc⟩
  have l1 := iter_no_module
  refine wpAny_call (codeAny_of_tree ?_)
  show wpAny _ _ (callAny (.ref b) _) _ _ _
  unfold callAny
  repeat (any_goals (first | assumption | wp_step))
  refine ⟨plainId_quiet slot_listiter_next.plain _, codeAny_builtin entry_listiter_next ?_⟩
  rw [Around.under_plainId slot_listiter_next.plain]
  exact wpAny_mono h (fun f s' ⟨v, e, q⟩ => by subst e; exact q) fun _ _ q => q
end PL
end
section
open PySem PySem.Calls PyProof.Rows PySem.W
set_option autoImplicit false
set_option linter.unusedVariables false
set_option maxRecDepth 100000
set_option maxHeartbeats 0
namespace PL

/-! what a value reads -/
mutual
inductive RD (l : Led) : AV → PyData → Prop
  | none : RD l .none .none
  | bool {b : Bool} : RD l (.bool b) (.bool b)
  | int {i : Int} : RD l (.int i) (.int i)
  | str {x : Str} : RD l (.str x) (.str x)
  | list {p : Addr} {xs : List AV} {ds : List PyData} : (p, .list xs) ∈ l → RDs l xs ds → RD l (.ref p) (.list ds)
  | tuple {p : Addr} {xs : List AV} {ds : List PyData} : (p, .tuple xs) ∈ l → RDs l xs ds → RD l (.ref p) (.tuple ds)
inductive RDs (l : Led) : List AV → List PyData → Prop
  | nil : RDs l [] []
  | cons {x : AV} {d : PyData} {xs : List AV} {ds : List PyData} : RD l x d → RDs l xs ds → RDs l (x :: xs) (d :: ds)
end
theorem RD.reads {G : Gd} {s : Shared} {l : Led} (N : Rep G s l) {a : AV} {d : PyData} (h : RD l a d) : ∀ v, a.Is v → ∃ as, Reads s.heap v d as := by
  refine RD.rec (motive_1 := fun a d _ => ∀ v, a.Is v → ∃ as, Reads s.heap v d as) (motive_2 := fun xs ds _ => ∀ vs, AllIs xs vs → ∃ as, ReadsAll s.heap vs ds as) ?_ ?_ ?_ ?_ ?_ ?_ ?_ ?_ h
  · intro v h; cases h; exact ⟨_, .none⟩
  · intro b v h; cases h; exact ⟨_, .bool _⟩
  · intro i v h; cases h with | intro t h => cases h; exact ⟨_, .int _ _⟩
  · intro x v h; cases h with | intro t h => cases h; exact ⟨_, .str _ _⟩
  · intro p xs ds hm _ ih v h
    cases h
    (refine PL.x1_1 (N.atM hm) ?_; rintro vs ⟨n, hl⟩ ha)
    obtain ⟨as, r⟩ := ih _ ha
    exact ⟨_, .list hl rfl rfl r⟩
  · intro p xs ds hm _ ih v h
    cases h
    (refine PL.x1_1 (N.atM hm) ?_; rintro vs hl ha)
    obtain ⟨as, r⟩ := ih _ ha
    exact ⟨_, .tuple hl rfl rfl r⟩
  · intro vs h; cases h; exact ⟨_, .nil⟩
  · intro x d xs ds _ _ ih1 ih2 vs h
    (refine PL.x2_2 (h.consL) ?_; rintro v us rfl hv hu)
    obtain ⟨as, r⟩ := ih1 v hv
    obtain ⟨bs, r'⟩ := ih2 us hu
    exact ⟨_, .cons r r'⟩
theorem RDs.strs {l : Led} : ∀ (ss : List Str), RDs l (ss.map .str) (ss.map .str)
  | [] => .nil
  | _ :: ss => .cons .str (RDs.strs ss)
section
variable {G : Gd} {A : Around} {l l' : Led} {X : Xp} {R : AV → Led → Prop}
theorem Op2.inData {a c : AV} {xs : List PyData} {d : PyData} {n : Nat} (hr : Room A n) (hc : RD l c (.list xs)) (ha : RD l a d) (hxs : PyData.canLayAll0 xs = true) (hd : d.canLay0 = true) (hu : PyData.depthAll xs ≤ 50) (h : R (.bool (xs.any fun y => PyData.eqv y d)) l) :
    Op2 G A (compareOp .In) a c l R X := fun v u hv hu' s N => by
  obtain ⟨as, rc⟩ := hc.reads N u hu'
  obtain ⟨bs, ra⟩ := ha.reads N v hv
  exact SeqAt.in_list_reads rc ra hxs hd (by have := hr.u; lia) ⟨.bool _, l, rfl, N, h⟩
theorem strsAre {ss : List Str} {vs : List Value} (h : AllIs (ss.map .str) vs) : StrsAre vs ss := by
  induction ss generalizing vs with
  | nil => cases h.nilL; exact .nil
  | cons x ss ih =>
    (refine PL.x2_2 (h.consL) ?_; rintro v us rfl ⟨t, rfl⟩ hu)
    exact .cons _ _ (ih hu)
theorem any_strs (k : Str) (ss : List Str) : (ss.any (· == k)) = ss.contains k := by
  induction ss with
  | nil => rfl
  | cons s ss ih =>
    rw [List.any_cons, ih, List.contains_cons]
    congr 1
    exact Bool.eq_iff_iff.mpr ⟨fun h => by simpa using (by simpa using h : s = k).symm, fun h => by simpa using (by simpa using h : k = s).symm⟩
theorem Op2.notinStrs {p : Addr} {ss : List Str} {k : Str} (hp : Pick (p, .list (ss.map .str)) l l') (h : R (.bool (!ss.contains k)) l) : Op2 G A (compareOp .NotIn) (.str k) (.ref p) l R X := fun v u ⟨t, hv⟩ hu s N => by
  subst hv; cases hu
  (refine PL.x1_1 (N.at hp) ?_; rintro vs hl ha)
  exact PyProof.Rows.notin_list_strs (vs := vs.toList) (by simpa using hl.isList) (strsAre ha) ⟨.bool _, l, rfl, N, by rw [any_strs]; exact h⟩
theorem Op2.eqData {a c : AV} {d e : PyData} {n : Nat} (hr : Room A n) (ha : RD l a d) (hc : RD l c e) (hd : d.canLay0 = true) (he : e.canLay0 = true) (hu : d.depth ≤ 100) (h : R (.bool (d.eqv e)) l) :
    Op2 G A (compareOp .Eq) a c l R X := fun v u hv hu' s N => by
  obtain ⟨as, ra⟩ := ha.reads N v hv
  obtain ⟨bs, rc⟩ := hc.reads N u hu'
  exact SeqAt.compareEq_reads ra rc hd he (by have := hr.u; lia) ⟨.bool _, l, rfl, N, h⟩
/-- in a text -/
theorem Op2.inText {x y : Str} (h : R (.bool (!(Builtin.Str.occurrences x y 0 x.length 1).isEmpty)) l) : Op2 G A (compareOp .In) (.str y) (.str x) l R X := fun _ _ ⟨_, e⟩ ⟨_, e'⟩ s N => by subst e e'; exact P.in_str ⟨.bool _, l, rfl, N, h⟩
theorem Op2.notinText {x y : Str} (h : R (.bool (!(!(Builtin.Str.occurrences x y 0 x.length 1).isEmpty))) l) : Op2 G A (compareOp .NotIn) (.str y) (.str x) l R X := fun _ _ ⟨_, e⟩ ⟨_, e'⟩ s N => by subst e e'; exact P.notIn_str ⟨.bool _, l, rfl, N, h⟩
/-- is -/
theorem Op2.isNone {a : AV} (ha : ∀ v, a.Is v → v ≠ .none ∧ plainIs v .none = true) (h : R (.bool false) l) : Op2 G A (compareOp .Is) a .none l R X := fun v u hv hu s N => by cases hu; exact wpAny_is_other (ha v hv).2 (ha v hv).1 ⟨.bool _, l, rfl, N, h⟩
theorem Op2.isNoneRef {p : Addr} (h : R (.bool false) l) : Op2 G A (compareOp .Is) (.ref p) .none l R X := Op2.isNone (fun v e => by cases e; exact ⟨nofun, rfl⟩) h
theorem Op2.isNoneNone (h : R (.bool true) l) : Op2 G A (compareOp .Is) .none .none l R X := fun v u hv hu s N => by cases hv; cases hu; exact wpAny_is_self rfl ⟨.bool _, l, rfl, N, h⟩
theorem Op2.isnotNoneNone (h : R (.bool false) l) : Op2 G A (compareOp .IsNot) .none .none l R X := fun v u hv hu s N => by cases hv; cases hu; exact wpAny_isNot_self rfl ⟨.bool _, l, rfl, N, h⟩
theorem Op2.isStrRef {x : Str} {p : Addr} (h : R (.bool false) l) : Op2 G A (compareOp .Is) (.str x) (.ref p) l R X := fun v u ⟨t, hv⟩ hu s N => by subst hv; cases hu; exact wpAny_is_other rfl nofun ⟨.bool _, l, rfl, N, h⟩
theorem Op2.isnotStrRef {x : Str} {p : Addr} (h : R (.bool true) l) : Op2 G A (compareOp .IsNot) (.str x) (.ref p) l R X := fun v u ⟨t, hv⟩ hu s N => by subst hv; cases hu; exact wpAny_isNot_other rfl nofun ⟨.bool _, l, rfl, N, h⟩
theorem Op2.isRef {p : Addr} (h : R (.bool true) l) : Op2 G A (compareOp .Is) (.ref p) (.ref p) l R X := fun v u hv hu s N => by cases hv; cases hu; exact wpAny_is_ref_self ⟨.bool _, l, rfl, N, h⟩
theorem Truth.str {R : Bool → Led → Prop} {x : Str} (hz : x.length < 1000000) (h : R (x.length != 0) l) : Truth G A (.str x) l R X := fun _ ⟨_, e⟩ s N => by
  subst e
  refine P.truthy_str (by lia) ⟨_, l, ?_, (N.toks _).toks _, h⟩
  cases x.length with
  | zero => rfl
  | succ n => simp; lia
/-- an item of a text -/
theorem Get.str {x : Str} {i : Int} {c : Nat} (h1 : -1000000 < i) (h2 : i < 1000000) (hc : (seqIndex? i x.length).bind (x.cps[·]?) = some c) (h : R (.str ⟨#[c]⟩) l) : Op2 G A getItem (.str x) (.int i) l R X := fun v u ⟨_, e⟩ ⟨_, e'⟩ s N => by
  subst e e'
  exact P.getItem_str (by rw [Bool.or_eq_false_iff]; exact ⟨decide_eq_false (by lia), decide_eq_false (by lia)⟩) hc ⟨.str _, l, ⟨_, rfl⟩, N.toks _, h⟩
/-- replace: nothing is there -/
theorem CC.replace0 {x y z : Str} (h0 : (Builtin.Str.occurrences x y 0 x.length (x.length + 1)).isEmpty = true) (h : R (.str x) l) : CC G A (.lit (.builtin "str.replace")) [.str x, .str y, .str z] l R X := fun f vs hf hvs s N => by
  cases hf
  (refine PL.x3_3 (get3 hvs) ?_; rintro v u w rfl ⟨t, rfl⟩ ⟨t', rfl⟩ ⟨t'', rfl⟩)
  refine call_gives F.slot_str_replace (typeIs_str _ _ _) F.entry_str_replace (F.args_str_replace_3 _ _ _) (gives_str_replace x y z t t' t'' fun q => by rw [h0] at q; cases q) ?_
  rw [h0]
  exact ⟨.str x, l, ⟨t, rfl⟩, N, h⟩
end
/-! attributes -/
section
variable {G : Gd} {A : Around} {env : Env} {l l' : Led} {X : Xp} {R : AV → Led → Prop}
noncomputable def GAt (G : Gd) (A : Around) (name : Str) (a : AV) (l : Led) (R : AV → Led → Prop) (X : Xp) : Prop := Op1 G A (fun v => getAttr v name true) a l R X
theorem EE.attr {value : Expr} {name : Str} {pos : Pos} (h : EE G A env value l (fun a l₁ => GAt G A name a l₁ R X) X)
    (he : eval (.Attribute value name pos) env = (do
      let o ← eval value env
      standAt pos.atName
      let r ← holding [o] (getAttr o name true)
      letTemporaryGo value o r
      pure r) := by with_unfolding_all rfl) : EE G A env (.Attribute value name pos) l R X :=
  fun s N => Attribute_any_ (wpAny_mono (h s N) (fun v s₁ ⟨a, l₁, ha, N₁, h₁⟩ => h₁ v ha s₁ N₁) fun _ _ y => y) he
noncomputable abbrev boundAppend (p : Addr) : Obj := { cls := .type "builtin_function_or_method", data := .fields #[.builtin "list.append", .ref p] }
theorem GAt.append {p : Addr} {xs : List AV} (hp : Pick (p, .list xs) l l') (h : ∀ b, R (.ref b) ((b, .raw (boundAppend p)) :: l)) : GAt G A "append" (.ref p) l R X := fun v hv s N => by
  cases hv
  (refine PL.x1_1 (N.at hp) ?_; rintro vs ⟨n, hl⟩ ha)
  exact la_getAttr hl fun tk => ⟨.ref s.heap.objs.size, _, rfl, (N.push (ao := .raw (boundAppend p)) rfl (Heap.get?_push_size _ rfl)).toks tk, h _⟩
noncomputable abbrev boundNext (it : Addr) : Obj := { cls := .type "method-wrapper", data := .fields #[.builtin "list_iterator.__next__", .ref it] }
noncomputable abbrev iterObj (p : Addr) : Obj := { cls := .type "list_iterator", data := .fields #[.ref p, .int 0 0] }
theorem GAt.next {it p : Addr} (hp : Pick (it, .raw (iterObj p)) l l') (h : ∀ b, R (.ref b) ((b, .raw (boundNext it)) :: (it, .listiter p 0) :: l')) : GAt G A "__next__" (.ref it) l R X := fun v hv s N => by
  cases hv
  have hx : s.heap.get? it = some (iterObj p) := N.at hp
  refine ln_getAttr hx fun tk => ⟨.ref s.heap.objs.size, _, rfl, ((N.sub (.cons hp (ao' := .listiter p 0) (fun G h a e => (PL.m1_2 _ e rfl rfl)) (.refl l'))).push (ao := .raw (boundNext it)) rfl (Heap.get?_push_size _ rfl)).toks tk, h _⟩
/-- a call of a bound built-in -/
theorem callWith_bound {b : Addr} {o : Obj} {vs : Array Value} {fv : Value} {pos : Pos} {ts : List (Bool × Sem Value)} (hf : AV.Is (.ref b) fv) (ho : o.data = .fields vs) (hc : (o.cls == .type "builtin_function_or_method" || o.cls == .type "method-wrapper") = true) (hst : (ts.any (·.1)) = false)
    (h : EA G A ts l (fun as l₁ => (∃ l₂, Pick (b, .raw o) l₁ l₂) ∧ CC G A (.ref b) as l₁ R X) X) : Tr G A (callWith pos fv [] ts []) AV.Is l R X := fun s N => by
  cases hf
  refine callWith_of (P := fun h => h.get? b = some o) (by simpa using hst) (fun h hh => (PL.m1_1 (.machine) (.inr (.inl rfl)) ?_)) ?_
  · intro A Q E s k q
    unfold keeperOf
    refine wpAny_bind (wpAny_load (k _ _ hh) ?_)
    rw [ho]
    have hm : (o.cls != .type "method") = true := by
      rcases Bool.or_eq_true_iff.mp hc with e | e <;> (rw [beq_iff_eq.mp e]; rfl)
    simp only [hm, if_true, hc]
    exact wpAny_pure q
  · have go : ∀ {ts : List (Bool × Sem Value)} {Q : Args → Shared → Prop} {E : Value → Shared → Prop}, (ts.any (·.1)) = false → wpAny (model G.prog G.w) A (spliced ts) (fun vs s' => Q { pos := vs } s') E s → wpAny (model G.prog G.w) A (evalArgs (.ref b) true ts []) Q E s := by
      intro ts Q E hst h
      cases ts with
      | nil =>
        unfold evalArgs
        show wpAny _ _ (spliced [] >>= _) _ _ s
        refine wpAny_bind (wpAny_mono h (fun vs s₁ h₁ => ?_) fun _ _ y => y)
        refine wpAny_bind (wpAny_pure (wpAny_holding ?_))
        show wpAny _ _ (evalAll [] >>= _) _ _ s₁
        exact wpAny_bind (wpAny_evalAll_nil (wpAny_bind (wpAny_pure (wpAny_pure h₁))))
      | cons t ts =>
        obtain ⟨b', t⟩ := t
        cases b' with
        | true => simp at hst
        | false => exact evalArgs_plain h
    exact go hst (wpAny_mono (h s N) (fun vs s₁ ⟨as, l₁, has, N₁, ⟨l₂, hp⟩, h₁⟩ => ⟨N₁.at hp, h₁ (.ref b) ([] ++ vs) rfl has s₁ N₁⟩) fun _ _ y => y)
theorem EE.callB {f : Expr} {pos : Pos} {es : List Expr} (h : EE G A env f l (fun a l₁ => ∃ b o vs, a = .ref b ∧ o.data = .fields vs ∧ (o.cls == .type "builtin_function_or_method" || o.cls == .type "method-wrapper") = true ∧
      EA G A (backTo pos (starEach es env)) l₁ (fun as l₂ => (∃ l₃, Pick (b, .raw o) l₂ l₃) ∧ CC G A (.ref b) as l₂ R X) X) X)
    (hst : (backTo pos (starEach es env)).any (·.1) = false := by with_unfolding_all rfl)
    (he : eval (.Call f es [] pos) env = (do callWith pos (← eval f env) [] (backTo pos (starEach es env)) (backToKw pos (keywordEach [] env))) := by with_unfolding_all rfl) : EE G A env (.Call f es [] pos) l R X := fun s N => by
  rw [he]
  exact wpAny_bind (wpAny_mono (h s N) (fun v s₁ hq => by
    obtain ⟨a, l₁, ha, N₁, b, o, vs, e, h1, h2, h₁⟩ := hq
    subst e
    exact callWith_bound ha h1 h2 hst h₁ s₁ N₁) fun _ _ y => y)
theorem EE.callU {x : Str} {np pos : Pos} {es : List Expr} (h : EE G A env (.Name x np) l (fun f l₁ => (Kept G f ∧ EA G A (backTo pos (starEach es env)) l₁ (fun as l₂ => CC G A f as l₂ R X) X) ∨
      (∃ b o vs, f = .ref b ∧ o.data = .fields vs ∧ (o.cls == .type "builtin_function_or_method" || o.cls == .type "method-wrapper") = true ∧
        EA G A (backTo pos (starEach es env)) l₁ (fun as l₂ => (∃ l₃, Pick (b, .raw o) l₂ l₃) ∧ CC G A (.ref b) as l₂ R X) X)) X)
    (hst : (backTo pos (starEach es env)).any (·.1) = false := by with_unfolding_all rfl) : EE G A env (.Call (.Name x np) es [] pos) l R X :=
  fun s N => wpAny_Call_NameR (wpAny_mono (h s N) (fun v s₁ ⟨a, l₁, ha, N₁, h₁⟩ => by
    rcases h₁ with ⟨hk, h₁⟩ | ⟨b, o, vs, e, h1, h2, h₁⟩
    · exact callWith_args (first := []) hk ha .nil hst h₁ s₁ N₁
    · subst e; exact callWith_bound ha h1 h2 hst h₁ s₁ N₁) fun _ _ y => y)
theorem CC.bappend {b p : Addr} {xs : List AV} {a : AV} (hb : (b, .raw (boundAppend p)) ∈ l) (hp : Pick (p, .list xs) l l') (hz : xs.length < 1000000) (h : R .none ((p, .list (xs ++ [a])) :: l')) : CC G A (.ref b) [a] l R X := fun f vs hf hvs s N => by
  cases hf
  (refine PL.x1_1 (get1 hvs) ?_; rintro u rfl hu)
  have hbo : s.heap.get? b = some (boundAppend p) := N.atM hb
  (refine PL.x1_1 (N.at hp) ?_; rintro ws ⟨n, hl⟩ ha)
  refine la_call hl hbo ?_
  show wpAny _ _ (updateSeq p (·.push u) >>= fun _ => ret .none) _ _ s
  have hsz : ws.size ≤ sizeLine := by rw [← Array.length_toList, ← ha.length]; exact Nat.le_trans (Nat.le_of_lt hz) (by decide)
  refine wpAny_bind (wpAny_updateSeq hl rfl (wpAny_pure ⟨.none, rfl, .none, _, rfl, N.upd (tk := s.toks) (ao' := .list (xs ++ [a])) hp (Heap.SameBut.update ..).extBut (PL.m1_1 (ws.push u) (⟨n + 1, ?_⟩) ?_), h⟩))
  · rw [Heap.get?_update_self _ hl (by rw [Obj.mapSeq_push_plain]; rfl), Obj.mapSeq_push_plain]
  · rw [Array.toList_push]; exact ha.append (.one hu)
end
end PL
end
section
open PySem PySem.Calls PyProof.Rows PySem.W
set_option autoImplicit false
set_option linter.unusedVariables false
set_option maxRecDepth 100000
set_option maxHeartbeats 0
namespace PL
open Builtin Builtin.Str

theorem key_sub : isSubtype (.type "KeyError") (.type "LookupError") = pure true := by rw [isSubtype_type]; kernel_rfl
theorem isInt_self {prog : Program} {w : World} (i : Int) (t : Tok) : (intKind prog w).is i (.int i t) = true := by show PySem.Value.isInt i (.int i t) = true; simp [PySem.Value.isInt]
section
variable {prog : Program} {w : World} {A : Around} {E : Value → Shared → Prop} {s : Shared} {d : Addr} {c : Nat} {f : Int → Option Value}
theorem tableLookup_miss {Q : Mapped → Shared → Prop} (hh : A.handled = none) (hd : (d == sysModules) = false) (hm : s.heap.MapOf (intKind prog w) d f) (hf : f c = none)
    (h : ∀ h' tk, (∀ b o, s.heap.get? b = some o → h'.get? b = some o) → Q .keep { s with heap := h', toks := tk }) : wpAny (model prog w) A (tableLookup (.ref d) c) Q E s := by
  unfold tableLookup
  refine wpAny_bind (wpAny_attempt (wpAny_bind (wpAny_mkInt' ?_)))
  refine wpAny_getItem_missing_of (knd := intKind prog w) (k := (c : Int)) (s := { s with toks := s.toks + 1 }) (isInt_self _ _) hd hh hm hf fun h' e hx => ?_
  refine wpAny_bind (wpAny_isInstance (T := "KeyError") (b := true) (let ⟨ob, t, he, hc, hdd⟩ := hx.there; (PL.m1_1 ob he hc)) key_sub ?_)
  simp only [if_true]
  exact wpAny_bind (wpAny_rule (wpAny_pure (h h' _ hx.keeps)))
theorem tableLookup_text {t : Str} {tk : Tok} {Q : Mapped → Shared → Prop} (hm : s.heap.MapOf (intKind prog w) d f) (hf : f c = some (.str t tk))
    (h : ∀ tk, Q (.text t) { s with toks := tk }) : wpAny (model prog w) A (tableLookup (.ref d) c) Q E s := by
  unfold tableLookup
  refine wpAny_bind (wpAny_attempt (wpAny_bind (wpAny_mkInt' ?_)))
  refine wpAny_getItem_of (knd := intKind prog w) (k := (c : Int)) (s := { s with toks := s.toks + 1 }) (isInt_self _ _) hm hf ?_
  refine wpAny_bind (wpAny_of_eq (a := none) rfl ?_)
  exact wpAny_bind (wpAny_of_eq (a := some t) rfl (wpAny_pure (h _)))
theorem translate_miss {t : Tok} {Q : Fin → Shared → Prop} (hh : A.handled = none) (hd : (d == sysModules) = false) (hm : s.heap.MapOf (intKind prog w) d f) (hf : f c = none) (hc : c < 128)
    (h : ∀ h' tk u, (∀ b o, s.heap.get? b = some o → h'.get? b = some o) → Q (.done (.ret (.str ⟨#[c]⟩ u))) { s with heap := h', toks := tk }) : wpAny (model prog w) A (Builtin.«str.translate» ⟨[.str ⟨#[c]⟩ t, .ref d], []⟩) Q E s := by
  unfold Builtin.«str.translate»
  repeat (any_goals (first | assumption | ((with_reducible show wpAny _ _ (tableLookup _ _) _ _ _); refine tableLookup_miss (c := c) hh hd hm hf fun h' tk hk => ?_) | wp_step))
  exact h h' _ _ hk
theorem translate_text {t : Tok} {x : Str} {tx : Tok} {Q : Fin → Shared → Prop} (hm : s.heap.MapOf (intKind prog w) d f) (hf : f c = some (.str x tx)) (hc : c < 128) (hx : (x.length == 1) = false) (hz : x.length ≤ 1000)
    (h : ∀ tk u, Q (.done (.ret (.str x u))) { s with toks := tk }) : wpAny (model prog w) A (Builtin.«str.translate» ⟨[.str ⟨#[c]⟩ t, .ref d], []⟩) Q E s := by
  unfold Builtin.«str.translate»
  repeat (any_goals (first | assumption | ((with_reducible show wpAny _ _ (tableLookup _ _) _ _ _); refine tableLookup_text (c := c) hm hf fun tk => ?_) | wp_step))
  simp only [hx, Bool.false_and, Bool.false_eq_true, if_false]
  repeat (any_goals (first | assumption | ((with_reducible show wpAny _ _ (tableLookup _ _) _ _ _); refine tableLookup_text (c := c) hm hf fun tk => ?_) | wp_step))
  have hl : tooLong (0 + x.length) = false := by unfold tooLong sizeLine; exact decide_eq_false (by lia)
  simp only [hl, Bool.false_eq_true, if_false, List.reverse_singleton, List.foldl_cons, List.foldl_nil]
  have e : (#[] ++ x.cps : Array Nat) = x.cps := by simp
  rw [e]
  refine wpAny_bind (wpAny_mkStr (wpAny_pure (h _ _)) ?_)
  exact Nat.le_trans hz (by decide)
end
section
variable {G : Gd} {A : Around} {env : Env} {l l' : Led} {X : Xp} {R : AV → Led → Prop}
theorem mapOf_keeps {K : Type} [DecidableEq K] {prog : Program} {w : World} {knd : KeyKind prog w K} {h h' : Heap} {d : Addr} {f : K → Option Value} (hm : h.MapOf knd d f) (k : ∀ b o, h.get? b = some o → h'.get? b = some o) : h'.MapOf knd d f := by
  (revert hm; refine PL.j3_1 ?_; rintro o es ep ho r)
  exact (PL.m3_1 o es ep (k _ _ ho) r)
theorem CC.tr_miss {d : Addr} {c n : Nat} {f : Int → Option Value} (hr : Room A n) (hd : (d == sysModules) = false) (hm : G.t.MapOf (intKind G.prog G.w) d f) (hf : f c = none) (hc : c < 128) (h : R (.str ⟨#[c]⟩) l) :
    CC G A (.lit (.builtin "str.translate")) [.str ⟨#[c]⟩, .ref d] l R X := fun g vs hg hvs s N => by
  cases hg
  (refine PL.x2_2 (get2 hvs) ?_; rintro v u rfl ⟨t, rfl⟩ hu)
  cases hu
  refine wpAny_call (codeAny_call_builtin F.slot_str_translate.plain F.entry_str_translate (F.slot_str_translate.check _ _ _ _ _ _ _ _ (typeIs_str s _ t) (F.args_str_translate_2 _ _) ?_))
  exact translate_miss hr.h hd (mapOf_keeps hm N.keep) hf hc fun h' tk u hk => ⟨.str ⟨#[c]⟩, l, ⟨u, rfl⟩, N.ext hk, h⟩
theorem CC.tr_text {d : Addr} {c : Nat} {x : Str} {tx : Tok} {f : Int → Option Value} (hm : G.t.MapOf (intKind G.prog G.w) d f) (hf : f c = some (.str x tx)) (hc : c < 128) (hx : (x.length == 1) = false) (hz : x.length ≤ 1000) (h : R (.str x) l) :
    CC G A (.lit (.builtin "str.translate")) [.str ⟨#[c]⟩, .ref d] l R X := fun g vs hg hvs s N => by
  cases hg
  (refine PL.x2_2 (get2 hvs) ?_; rintro v u rfl ⟨t, rfl⟩ hu)
  cases hu
  refine wpAny_call (codeAny_call_builtin F.slot_str_translate.plain F.entry_str_translate (F.slot_str_translate.check _ _ _ _ _ _ _ _ (typeIs_str s _ t) (F.args_str_translate_2 _ _) ?_))
  exact translate_text (mapOf_keeps hm N.keep) hf hc hx hz fun tk u => ⟨.str x, l, ⟨u, rfl⟩, N.toks _, h⟩
theorem CC.isstr {x : Str} (h : R (.bool true) l) : CC G A (.lit (.builtin "isinstance")) [.str x, .lit (.type "str")] l R X := fun g vs hg hvs s N => by
  cases hg
  (refine PL.x2_2 (get2 hvs) ?_; rintro v u rfl ⟨t, rfl⟩ hu)
  cases hu
  exact call_isinstance_yes (Tx := "str") (T := "str") (typeIs_str s x t) (by kernel_rfl) isSubtype_str_str ⟨.bool true, l, rfl, N, h⟩
end
end PL
end
section
open PySem PySem.Calls PyProof.Rows PySem.W
set_option autoImplicit false
set_option linter.unusedVariables false
set_option maxRecDepth 100000
set_option maxHeartbeats 0
namespace PL
section
variable {G : Gd} {A : Around} {env : Env} {l l' : Led} {X : Xp} {R : AV → Led → Prop}
/-! slices -/
noncomputable def EPt (G : Gd) (A : Around) (env : Env) (e : Option Expr) (l : Led) (R : AV → Led → Prop) (X : Xp) : Prop := Tr G A (evalPart e env) AV.Is l R X
theorem EPt.no (h : R .none l) : EPt G A env Option.none l R X := fun _ N => wpAny_pure ⟨.none, l, rfl, N, h⟩
theorem EPt.yes {e : Expr} (h : EE G A env e l R X) : EPt G A env (Option.some e) l R X := h
theorem EE.slice {lo hi : Option Expr} {pos : Pos} (h : EPt G A env lo l (fun a l₁ => EPt G A env hi l₁ (fun b l₂ => ∀ sl, R (.ref sl) ((sl, .fields "slice" [a, b, .none]) :: l₂)) X) X) : EE G A env (.Slice lo hi Option.none pos) l R X := fun s N =>
  wpAny_Slice (wpAny_mono (h s N) (fun v s₁ ⟨a, l₁, ha, N₁, h₁⟩ => wpAny_mono (h₁ s₁ N₁) (fun u s₂ ⟨b, l₂, hb, N₂, h₂⟩ => wpAny_pure
    ⟨.ref s₂.heap.objs.size, _, rfl, N₂.push (ao := .fields "slice" [a, b, .none]) rfl (PL.m1_1 ([v, u, .none]) (Heap.get?_push_size _ rfl) (.cons ha (.cons hb (.one rfl)))), h₂ _⟩) fun _ _ y => y) fun _ _ y => y)
inductive IPart : AV → Option Int → Prop
  | none : IPart .none Option.none
  | int {a : Int} : IPart (.int a) (Option.some a)
theorem IPart.of {a : AV} {i : Option Int} (h : IPart a i) {v : Value} (hv : a.Is v) : ∃ p : Option (Int × Tok), partValue p = v ∧ p.map (·.1) = i ∧ IsPart v i := by
  cases h with
  | none => cases hv; exact (PL.m1_2 (.none) rfl rfl (.none))
  | int => obtain ⟨t, rfl⟩ := hv; exact (PL.m1_2 (.some (_, t)) rfl rfl (.int _ _))
theorem Get.strSlice {x : Str} {sl : Addr} {a b : AV} {lo hi : Option Int} (hp : Pick (sl, .fields "slice" [a, b, .none]) l l') (ha : IPart a lo) (hb : IPart b hi) (hz : x.length ≤ 1000000) (h : R (.str (Txt.slice x lo hi)) l') : Op2 G A getItem (.str x) (.ref sl) l R X := fun v u ⟨t, hv⟩ hu s N => by
  subst hv; cases hu
  (refine PL.x1_1 (N.at hp) ?_; rintro vs ho hvs)
  (refine PL.x3_3 (get3 hvs) ?_; rintro va vb vc rfl h1 h2 h3)
  cases h3
  (refine PL.x1_2 (ha.of h1) ?_; rintro p rfl rfl _)
  (refine PL.x1_2 (hb.of h2) ?_; rintro q rfl rfl _)
  have N' := N.sub (l' := l') (.trans .tail (.perm hp.perm))
  exact wpAny_getItem_str_slice (l := p) (u := q) (st := .none) (PL.m1_2 _ ho rfl rfl) rfl
    (post_val_or_str ⟨Nat.le_trans (Txt.slice_le x _ _) (Nat.le_trans hz (by decide)), fun t' k => ⟨.str _, l', ⟨t', rfl⟩, N'.toks _, h⟩⟩)
theorem pick_all2 {xs : List AV} {vs : Array Value} (ha : AllIs xs vs.toList) : ∀ ns : List Nat, AllIs (ns.filterMap (xs[·]?)) (ns.filterMap (vs[·]?))
  | [] => .nil
  | n :: ns => by
    rw [List.filterMap_cons, List.filterMap_cons]
    cases e : xs[n]? with
    | none =>
      have := ha.none e
      rw [Array.getElem?_toList] at this
      rw [this]; exact pick_all2 ha ns
    | some a =>
      (refine PL.x1_1 (ha.get e) ?_; rintro b hb hab)
      rw [Array.getElem?_toList] at hb
      rw [hb]; exact .cons hab (pick_all2 ha ns)
/-- the items that a slice of a list picks -/
noncomputable def pickAV (xs : List AV) (lo hi : Option Int) : List AV := (sliceRange (sliceBounds lo hi none xs.length).1 (sliceBounds lo hi none xs.length).2.1 (sliceBounds lo hi none xs.length).2.2).filterMap (xs[·]?)
theorem Get.listSlice {p sl : Addr} {xs : List AV} {a b : AV} {lo hi : Option Int} (hs : Pick (sl, .fields "slice" [a, b, .none]) l l') {l'' : Led} (hp : Pick (p, .list xs) l' l'') (ha : IPart a lo) (hb : IPart b hi) (hz : xs.length < 1000000)
    (h : ∀ q, R (.ref q) ((q, .list (pickAV xs lo hi)) :: l')) : Op2 G A getItem (.ref p) (.ref sl) l R X := fun v u hv hu s N => by
  cases hv; cases hu
  (refine PL.x1_1 (N.at hs) ?_; rintro vs ho hvs)
  (refine PL.x3_3 (get3 hvs) ?_; rintro va vb vc rfl h1 h2 h3)
  cases h3
  (refine PL.x1_2 (ha.of h1) ?_; rintro _ _ _ pa)
  (refine PL.x1_2 (hb.of h2) ?_; rintro _ _ _ pb)
  have N' := N.sub (l' := l') (.trans .tail (.perm hs.perm))
  (refine PL.x1_1 (N'.at hp) ?_; rintro ws hl hw)
  have hlen : ws.size = xs.length := by rw [← Array.length_toList, ← hw.length]
  refine wpAny_getItem_list_slice hl.isList (PL.m1_2 _ ho rfl rfl) pa pb .none (by simp) ?_ (by rw [hlen]; exact Nat.le_trans (Nat.le_of_lt hz) (by decide))
  refine ⟨.ref s.heap.objs.size, _, rfl, N'.push (ao := .list (pickAV xs lo hi)) rfl (PL.m1_1 _ (⟨0, Heap.get?_push_size _ rfl⟩) ?_), h _⟩
  unfold slicePick pickAV
  rw [hlen]
  exact pick_all2 hw _
/-! the tail of a subscript by a slice -/
end
/-! two stores at once -/
section
variable {G : Gd} {A : Around} {env : Env} {l l' : Led} {X : Xp} {names : List (Str × NameKind)} {L : Addr} {cl : List (Str × Addr)}
theorem stores2 {a b : Str} {pa pb tp vp : Pos} {k k2 : Nat} {v1 v2 : Expr} (hE : EnvOk env names L cl) (ha : LookT a .local names) (hb : LookT b .local names) (hl : (pb.line == pa.line) = true) (hab : (b == a) = false)
    (h1 : ([v1, v2].any fun | .Starred .. => true | _ => false) = false) (h2 : [v1, v2].all (foldedForSure 8) = false) (h3 : [v1, v2].all (constantsAlone 8) = false) :
    swappedStores [.Tuple [.Name a pa, .Name b pb] k tp] (.Tuple [v1, v2] k2 vp) env = pure (some [a, b]) := by
  have ka := hE.kindOf ha
  have kb := hE.kindOf hb
  have bk : (env.blockKind != .function) = false := by
    unfold Env.blockKind; rw [hE.kind]; rfl
  have e : [a, b].eraseDups = [a, b] := by simp [List.eraseDups_cons, hab]
  have fin : ∀ N : List Str, N = [a, b] → (do
      if N.length != 2 || N.eraseDups.length != N.length then return none
      if [v1, v2].all (foldedForSure 8) then return none
      if [v1, v2].all (constantsAlone 8) then unsupported "assign.tuple-of-constant-expressions:order-of-the-stores"
      return some N : Sem (Option (List Str))) = pure (some [a, b]) := by
    intro N h
    subst h
    rw [e, h2, h3]
    rfl
  unfold swappedStores
  refine Eq.trans (if_neg (by rw [bk]; exact Bool.false_ne_true)) (Eq.trans (if_neg (by rw [Bool.not_eq_true]; exact h1)) (fin _ ?_))
  have one : ∀ (f : Expr → Option Str) (x y : Expr), f x = some a → f y = some b → [x, y].filterMap f = [a, b] := fun f x y hx hy => by
    rw [List.filterMap_cons_some hx, List.filterMap_cons_some hy]
    rfl
  refine one _ _ _ (if_pos ?_) (if_pos ?_)
  · rw [ka]; exact Bool.and_eq_true_iff.mpr ⟨rfl, beq_self_eq_true _⟩
  · rw [kb]; exact Bool.and_eq_true_iff.mpr ⟨rfl, hl⟩
/-- the stores, one after the other -/
noncomputable def AIO (G : Gd) (A : Around) (ts : List (Value → Sem Unit)) (as : List AV) (l : Led) (R : Led → Prop) (X : Xp) : Prop := ∀ vs, AllIs as vs → Tr G A (assignInOrder ts vs) (fun (_ _ : Unit) => True) l (fun _ l' => R l') X
theorem AIO.nil {as : List AV} {R : Led → Prop} (h : R l) : AIO G A [] as l R X := fun vs _ s N => by cases vs <;> exact assignInOrder_nil ⟨(), l, trivial, N, h⟩
theorem AIO.cons {t : Value → Sem Unit} {ts : List (Value → Sem Unit)} {a : AV} {as : List AV} {R : Led → Prop} (h : ∀ v, a.Is v → Tr G A (t v) (fun (_ _ : Unit) => True) l (fun _ l₁ => AIO G A ts as l₁ R X) X) : AIO G A (t :: ts) (a :: as) l R X := fun vs hvs s N => by
  (refine PL.x2_2 (hvs.consL) ?_; rintro v us rfl hv hu)
  exact assignInOrder_cons (wpAny_mono (h v hv s N) (fun _ s₁ ⟨_, l₁, _, N₁, h₁⟩ => h₁ us hu s₁ N₁) fun _ _ y => y)
theorem AIO.asg {e : Expr} {ts : List (Value → Sem Unit)} {a : AV} {as : List AV} {R : Led → Prop} (h : Asg G A env e a l (fun l₁ => AIO G A ts as l₁ R X) X) : AIO G A (assign e env :: ts) (a :: as) l R X := AIO.cons h
theorem AIO.bind {x : Str} {ts : List (Value → Sem Unit)} {a : AV} {as : List AV} {R : Led → Prop} (h : StN G A env x a l (fun l₁ => AIO G A ts as l₁ R X) X) : AIO G A ((fun v => bindName env x v) :: ts) (a :: as) l R X := AIO.cons fun v hv s N => bindName_ (h v hv s N)
theorem StN.mono {x : Str} {a : AV} {R R' : Led → Prop} (h : StN G A env x a l R X) (hR : ∀ l, R l → R' l) : StN G A env x a l R' X := fun v hv => (h v hv).mono (fun _ _ q => hR _ q) fun _ _ q => q
theorem SS.swap2 {a b : Str} {pa pb tp vp pos : Pos} {k k2 n : Nat} {v1 v2 : Expr} {R : AF → Led → Prop} (hr : Room A n) (hE : EnvOk env names L cl) (ha : LookT a .local names) (hb : LookT b .local names)
    (h : EE G A env (.Tuple [v1, v2] k2 vp) l (fun t l₁ => ∃ p x y l₂, t = .ref p ∧ Pick (p, .tuple [x, y]) l₁ l₂ ∧ StN G A env b y l₂ (fun l₃ => StN G A env a x l₃ (fun l₄ => R .next l₄) X) X) X)
    (hl : (pb.line == pa.line) = true := by rfl) (hab : (b == a) = false := by decide)
    (h1 : ([v1, v2].any fun | .Starred .. => true | _ => false) = false := by with_unfolding_all rfl) (h2 : [v1, v2].all (foldedForSure 8) = false := by with_unfolding_all rfl) (h3 : [v1, v2].all (constantsAlone 8) = false := by with_unfolding_all rfl) :
    SS G A env (.Assign [.Tuple [.Name a pa, .Name b pb] k tp] (.Tuple [v1, v2] k2 vp) pos) l R X := fun s N =>
  Assign_Tuple_swapped (wpAny_mono (h s N) (fun v s₁ hq => by
    obtain ⟨t, l₁, ht, N₁, p, x, y, l₂, e, hp, h₁⟩ := hq
    subst e; cases ht
    (refine PL.x1_1 (N₁.at hp) ?_; rintro vs ho hvs)
    (refine PL.x2_2 (get2 hvs) ?_; rintro u w rfl hu hw)
    refine wpAny_unpackItems_tuple (items := #[u, w]) hr.h ⟨_, ho, rfl, 0, rfl⟩ fun h' hk => ?_
    have N' : Rep G { s₁ with heap := h' } l₂ := (N₁.sub (.trans .tail (.perm hp.perm))).ext (tk := s₁.toks) fun b o e => hk b o (Nat.ne_of_lt (Heap.lt_size e)) e
    show wpAny _ _ (assignInOrder [fun v => bindName env b v, fun v => bindName env a v] [w, u]) _ _ _
    refine wpAny_mono (AIO.bind (R := fun l => R .next l) (StN.mono h₁ fun l₃ h₃ => AIO.bind (StN.mono h₃ fun l₄ h₄ => AIO.nil h₄)) [w, u] (.cons hw (.cons hu .nil)) _ N') (fun _ s₃ ⟨_, l₃, _, N₃, h₃⟩ => ⟨.next, l₃, rfl, N₃, h₃⟩) fun _ _ y => y) fun _ _ y => y) rfl (stores2 hE ha hb hl hab h1 h2 h3)
end
end PL
end
section
open PySem PySem.Calls PyProof.Rows PySem.W
set_option autoImplicit false
set_option linter.unusedVariables false
set_option maxRecDepth 100000
set_option maxHeartbeats 0
namespace PL
structure CodeOk (G : Gd) (c P : Addr) : Prop where
  hd : CodeHd G.t c P
  bm : ∃ mg, G.t.Ns mainGlobals mg ∧ ∃ bm ob, mg "__builtins__" = some (.ref bm) ∧ bm ≠ builtinsNs ∧ bm ≠ mainGlobals ∧ G.t.get? bm = some ob ∧ ob.cls = .type "module" ∧ ob.dict = some builtinsNs ∧ ob.data = .plain
section
variable {G : Gd} {A : Around} {env : Env} {l l' : Led} {X : Xp} {R : AV → Led → Prop} {names : List (Str × NameKind)} {L : Addr} {cl : List (Str × Addr)}
theorem EE.lambda {params : Arguments} {body : Expr} {scope : Scope} {pos : Pos} {c P : Addr} (hE : EnvOk env names L cl) (hc : env.code = .ref c) (hC : CodeOk G c P) (hp : Pick (P, .tab) l l')
    (h : ∀ f, R (.ref f) ((f, .typed "function") :: (P, .tab) :: l')) (hdef : defaultsOf params env = ([], []) := by with_unfolding_all rfl) (hcl : closureFor scope env = pure [] := by with_unfolding_all rfl) : EE G A env (.Lambda params body scope pos) l R X := fun s N => by
  (refine PL.x1_1 (N.at hp) ?_; rintro ps hP ht)
  obtain ⟨mg, hg, bm, ob, b1, b2, b3, b4, b5, b6, b7⟩ := hC.bm
  have hPt : G.t.get? P = Option.none := N.fresh hp
  have hbP : bm ≠ P := fun q => by rw [q, hPt] at b4; cases b4
  have hgP : mainGlobals ≠ P := fun q => by (revert hg; refine PL.j3_1 ?_; rintro o es ep e _); rw [q, hPt] at e; cases e
  have hB : s.heap.BuiltinsAt mg P := (PL.m2_7 bm ob b1 b2 b3 hbP (N.keep _ _ b4) b5 b6 b7)
  refine kla_eval hdef ?_
  cases hf : codeAmong pos ps.toList with
  | none =>
    refine kla_makeFunction hcl hE.globals (hg.keeps N.keep) hc (hC.hd.keeps N.keep) hP ht hf hgP hB fun c' ctv h' tk hx hge hlt hrec htb => ?_
    refine ⟨.ref h'.objs.size, _, rfl, ?_, h _⟩
    have N₁ := N.upd (tk := tk) (ao' := .tab) hp hx (PL.m1_1 _ htb (by simp only [Array.toList_append]; exact TriplesOk_snoc _ _ _ _ ht))
    exact N₁.push (ao := .typed "function") rfl (PL.m1_1 _ (Heap.get?_push_size _ rfl) rfl)
  | some cv =>
    refine kla_makeFunctionHit hcl hE.globals (hg.keeps N.keep) hc (hC.hd.keeps N.keep) hP ht hf hB fun ctv h' tk hk hsz => ?_
    refine ⟨.ref h'.objs.size, _, rfl, ?_, h _⟩
    have N₁ := (N.sub (l' := (P, .tab) :: l') (.perm hp.perm)).ext (tk := tk) hk
    exact N₁.push (ao := .typed "function") rfl (PL.m1_1 _ (Heap.get?_push_size _ rfl) rfl)
end
/-! the pattern's sub, where nothing is found -/
open Builtin Builtin.Re
noncomputable def drive : Nat → Sre.M → Sre.M
  | 0, m => m
  | n + 1, m => if (m.runFor reTurnSteps).outcome.isSome then m.runFor reTurnSteps else drive n (m.runFor reTurnSteps)
section
variable {M : Model} {A : Around} {E : Value → Shared → Prop} {s : Shared}
theorem wp_drive {Q : Sre.M → Shared → Prop} : ∀ (n k : Nat) (m : Sre.M), n ≤ k → (drive n m).outcome.isSome = true → Q (drive n m) s → m.outcome.isSome = false → wpAny M A (reDrive k m) Q E s
  | 0, k, m, _, ho, hq, hm => by rw [drive] at ho; rw [ho] at hm; cases hm
  | n + 1, 0, m, hk, _, _, _ => by lia
  | n + 1, k + 1, m, hk, ho, hq, hm => by
    unfold reDrive
    rw [drive] at ho hq
    show wpAny M A (if (m.runFor reTurnSteps).outcome.isSome then pure (m.runFor reTurnSteps) else do rule "sre.turn"; reDrive k (m.runFor reTurnSteps)) Q E s
    cases e : (m.runFor reTurnSteps).outcome.isSome with
    | true =>
      simp only [e, if_true] at ho hq
      rw [if_pos rfl]
      exact wpAny_pure hq
    | false =>
      simp only [e, Bool.false_eq_true, if_false] at ho hq
      rw [if_neg (by decide)]
      refine wpAny_bind (wpAny_rule ?_)
      exact wp_drive n k _ (by lia) ho hq e
theorem wp_rules {Q : Unit → Shared → Prop} (f : Nat → Bool) (g : Nat → String) : ∀ (ns : List Nat), Q () s → wpAny M A (forIn ns PUnit.unit fun i _ => if f i = true then do rule (g i); pure (ForInStep.yield PUnit.unit) else pure (ForInStep.yield PUnit.unit)) (fun _ => Q ()) E s
  | [], h => wpAny_pure h
  | n :: ns, h => by
    rw [List.forIn_cons]
    refine wpAny_bind ?_
    cases e : f n with
    | true =>
      rw [if_pos rfl]
      refine wpAny_bind (wpAny_rule (wpAny_pure ?_))
      exact wp_rules f g ns h
    | false =>
      rw [if_neg (by decide)]
      refine wpAny_pure ?_
      exact wp_rules f g ns h
theorem wp_found_none {t : ReTarget} {start : Nat} {must : Bool} {Q : Option Sre.M → Shared → Prop} (n : Nat) (hn : n ≤ 2 ^ 64) (h0 : (Sre.forSearch t.code t.text t.groups start t.lim must).outcome.isSome = false)
    (h1 : (drive n (Sre.forSearch t.code t.text t.groups start t.lim must)).outcome = some .failed) (h : Q none s) : wpAny M A (reNextFound t start must) Q E s := by
  unfold reNextFound reRunToEnd
  refine wpAny_bind (wp_drive n _ _ hn (by rw [h1]; rfl) ?_ h0)
  refine wpAny_bind (wpAny_mono (wp_rules (Q := fun _ s' => Q none s') _ _ _ h) (fun _ s' h' => ?_) fun _ _ y => y)
  rw [h1]
  exact wpAny_pure h'
end
/-- the concrete text and code -/
noncomputable def subCode : Array Nat := #[14, 14, 4, 1, 1, 9, 0, 64, 0, 1342177280, 0, 0, 0, 0, 0, 17, 0, 13, 11, 9, 0, 64, 0, 1342177280, 0, 0, 0, 0, 0, 17, 1, 1]
noncomputable def isFailed : Option Sre.Outcome → Bool
  | some .failed => true
  | _ => false
theorem isFailed_eq {o : Option Sre.Outcome} (h : isFailed o = true) : o = some .failed := by
  unfold isFailed at h
  split at h
  · rfl
  · cases h
noncomputable def noneFound (x : Str) : Bool := (Sre.forSearch subCode x.cps 1 0 x.cps.size false).outcome.isSome == false && isFailed (drive 64 (Sre.forSearch subCode x.cps 1 0 x.cps.size false)).outcome
theorem nf1 : noneFound "!a" = true := by decide +kernel
theorem nf2 : noneFound "ab" = true := by decide +kernel
theorem nf3 : noneFound "!b" = true := by decide +kernel
end PL
end
section
open PySem PySem.Calls PyProof.Rows PySem.W
set_option autoImplicit false
set_option linter.unusedVariables false
set_option maxRecDepth 100000
set_option maxHeartbeats 0
namespace PL
open Builtin Builtin.Re
theorem sub_entry : entryFor table "re.Pattern.sub" = some Builtin.«re.Pattern.sub» := entryFor_of_tree (by kernel_rfl)
theorem subl_entry : entryFor table "re.Pattern.sub.loop" = some Builtin.«re.Pattern.sub.loop» := entryFor_of_tree (by kernel_rfl)
theorem slot_sub : Slot "re.Pattern" "sub" "re.Pattern.sub" :=
  .of (owner := "re.Pattern") (n := "sub") (by rw [typeLookup_type, builtinLookup_eq_fast]; kernel_rfl) (by decide +kernel) (by decide +kernel) (by decide +kernel)
    (by first | exact .inl (by decide +kernel) | exact .inr (by decide +kernel)) (by rw [isSubtype_type]; kernel_rfl)
theorem args_sub (a b c : Value) : argsOk "re.Pattern.sub" ⟨[a, b, c], []⟩ := by unfold argsOk; kernel_rfl
theorem fn_call : typeLookup (.type "function") "__call__" = pure (some (.builtin "function.__call__")) := by rw [typeLookup_type, builtinLookup_eq_fast]; kernel_rfl
theorem sub_plain : PlainAttrs "re.Pattern" :=
  ⟨(PL.m1_1 ("object.__getattribute__") (by rw [typeLookup_type, builtinLookup_eq_fast]; kernel_rfl) (by decide +kernel)), by rw [typeLookup_type, builtinLookup_eq_fast]; kernel_rfl⟩
theorem sub_type : typeOf (.builtin "re.Pattern.sub") = pure (.type "method_descriptor") := by show builtinType _ = _; rw [builtinType_eq_fast]; kernel_rfl
theorem str_ba : isSubtype (.type "str") (.type "bytearray") = pure false := by rw [isSubtype_type]; kernel_rfl
theorem named (a b : Value) : reNamed "re.Pattern.sub" "sub" ["repl", "string", "count"] 2 [a, b] [] = pure [some a, some b, none] := by with_unfolding_all rfl

theorem sub_outer {prog : Program} {w : World} {A : Around} {E : Value → Shared → Prop} {s : Shared} {pat cd f : Addr} {x : Str} {t : Tok} {a0 : Value} {fl : Int} {tf tg th : Tok} {items : Array Value} {k : Nat} {of : Obj} {Q : Fin → Shared → Prop}
    (hp : s.heap.get? pat = some { cls := .type "re.Pattern", data := .fields #[a0, .int fl tf, .int 1 tg, .none, .none, .ref cd, .int 0 th] })
    (hcd : s.heap.get? cd = some { cls := .type "tuple", data := .seq items k }) (hf : s.heap.get? f = some of) (hfc : of.cls = .type "function")
    (h : ∀ p h' tk, p = s.heap.objs.size → h' = s.heap.push { cls := .type "list", data := .seq #[] } → Q (.again (.builtin "re.Pattern.sub.loop" ⟨[.ref pat, .str x t, .ref f, rawInt 1, rawInt 0, rawInt 0, rawInt 0, rawInt 0, .bool false, .ref p, .bool false], []⟩)) { s with heap := h', toks := tk }) :
    wpAny (model prog w) A (Builtin.«re.Pattern.sub» ⟨[.ref pat, .ref f, .str x t], []⟩) Q E s := by
  obtain ⟨hp', g, d, tk, os⟩ := s
  have hT : (⟨hp', g, d, tk, os⟩ : Shared).TypeIs (.ref f) "function" := (PL.m1_1 _ hf hfc)
  have l1 := fn_call
  have l2 := str_ba
  unfold Builtin.«re.Pattern.sub» reSubstitute
  show wpAny _ _ (reNamed "re.Pattern.sub" "sub" ["repl", "string", "count"] 2 [.ref f, .str x t] [] >>= _) _ _ _
  rw [named]
  repeat (any_goals (first | assumption | wp_step))
  exact h _ _ _ rfl rfl

noncomputable def Stop (p : Prop) : Prop := p
theorem found_stop {M : Model} {A : Around} {E : Value → Shared → Prop} {s : Shared} {t : ReTarget} {start : Nat} {must : Bool} {Q : Option Sre.M → Shared → Prop} (h0 : (Sre.forSearch t.code t.text t.groups start t.lim must).outcome.isSome = false)
    (h1 : (drive 64 (Sre.forSearch t.code t.text t.groups start t.lim must)).outcome = some .failed) (h : Stop (Q none s)) : wpAny M A (reNextFound t start must) Q E s := wp_found_none 64 (by decide) h0 h1 h
theorem join_one {prog : Program} {w : World} {A : Around} {E : Value → Shared → Prop} {s : Shared} {p : Addr} {k : Nat} {y x : Str} {t u : Tok} {Q : Value → Shared → Prop} (hp : s.heap.get? p = some { cls := .type "list", data := .seq #[.str x t] k })
    (h : Q (.str x t) s) : wpAny (model prog w) A (call (.builtin "str.join") [.str y u, .ref p]) Q E s := by
  refine wpAny_call_entry F.slot_str_join (typeIs_str s y u) F.entry_str_join ?_ (F.args_str_join_2 _ _)
  obtain ⟨other, e⟩ := join_tree y u p
  rw [e]
  refine wpAny_bind (wpAny_typeOf (T := "list") (PL.m1_1 _ hp rfl) ?_)
  rw [if_pos (by decide)]
  refine wpAny_bind (wpAny_seqItems hp rfl ?_)
  show wpAny _ _ (do rule "str.join.same-object"; ret (.str x t)) _ _ _
  exact wpAny_bind (wpAny_rule (wpAny_pure (PL.m1_1 _ rfl h)))
theorem sub_loop {prog : Program} {w : World} {A : Around} {E : Value → Shared → Prop} {s : Shared} {pat cd f p : Addr} {x : Str} {t : Tok} {a0 : Value} {fl : Int} {tf tg th : Tok} {items : Array Value} {k : Nat} {Q : Fin → Shared → Prop}
    (hp : s.heap.get? pat = some { cls := .type "re.Pattern", data := .fields #[a0, .int fl tf, .int 1 tg, .none, .none, .ref cd, .int 0 th] })
    (hcd : s.heap.get? cd = some { cls := .type "tuple", data := .seq items k }) (hit : (items.map reRawOf).map (·.toNat) = subCode) (hl : s.heap.get? p = some { cls := .type "list", data := .seq #[] }) (hx : noneFound x = true) (h0 : 0 < x.cps.size) (hz : x.cps.size ≤ 1000)
    (h : ∀ h' tk u, Heap.ExtBut p s.heap h' → Q (.done (.ret (.str x u))) { s with heap := h', toks := tk }) :
    wpAny (model prog w) A (Builtin.«re.Pattern.sub.loop» ⟨[.ref pat, .str x t, .ref f, rawInt 1, rawInt 0, rawInt 0, rawInt 0, rawInt 0, .bool false, .ref p, .bool false], []⟩) Q E s := by
  obtain ⟨hp', g, d, tk, os⟩ := s
  have hx' := Bool.and_eq_true_iff.mp hx
  unfold Builtin.«re.Pattern.sub.loop»
  have ha : (Sre.forSearch subCode x.cps 1 0 x.cps.size false).outcome.isSome = false := by simpa using hx'.1
  have hb := isFailed_eq hx'.2
  rw [← hit] at ha hb
  repeat (any_goals (first | assumption | ((with_reducible show wpAny _ _ (reNextFound _ _ _) _ _ _); refine found_stop ?h0 ?h1 ?_) | wp_step))
  unfold Stop
  show wpAny _ _ (do if (0 : Int).toNat < x.cps.size then updateSeq p (·.push (← mkStr ⟨x.cps.extract 0 x.cps.size⟩))
                     let joiner ← mkStr ⟨x.cps.extract 0 0⟩
                     let text ← if ((← seqItems? (.ref p)).getD #[]).isEmpty then pure joiner else call (.builtin "str.join") [joiner, .ref p]
                     ret text) _ _ _
  have hex : x.cps.extract 0 x.cps.size = x.cps := by simp
  have hfit : x.cps.size ≤ sizeLine := Nat.le_trans hz (by decide)
  dsimp only
  rw [if_pos (show Int.toNat 0 < x.cps.size from h0), hex]
  refine wpAny_bind (wpAny_mkStr ?_ hfit)
  refine wpAny_bind (wpAny_updateSeq hl rfl ?_)
  refine wpAny_bind (wpAny_mkStr ?_ (by simp [Str.length]))
  have hl' := Heap.get?_update_self (Obj.mapSeq (·.push (.str x tk))) hl (by rw [Obj.mapSeq_push_plain]; rfl)
  rw [Obj.mapSeq_push_plain] at hl'
  refine wpAny_bind (wpAny_seqItems hl' rfl ?_)
  rw [if_neg (by simp)]
  refine wpAny_bind (join_one hl' ?_)
  exact wpAny_pure (h _ _ _ (Heap.SameBut.update ..).extBut)
structure SubOk (G : Gd) (pat : Addr) : Prop where
  ok : ∃ a0 fl tf tg cd th items k, G.t.get? pat = some { cls := .type "re.Pattern", data := .fields #[a0, .int fl tf, .int 1 tg, .none, .none, .ref cd, .int 0 th] } ∧ G.t.get? cd = some { cls := .type "tuple", data := .seq items k } ∧ (items.map reRawOf).map (·.toNat) = subCode
theorem subl_plain : plainId "re.Pattern.sub.loop" = true := by decide +kernel
section
variable {G : Gd} {A : Around} {env : Env} {l l' : Led} {X : Xp} {R : AV → Led → Prop}
theorem OfT.keep {a : Addr} {o : Obj} {T : String} (ho : G.t.get? a = some o) (hc : o.cls = .type T) (hd : o.dict = none) : OfT G (.ref a) T l := fun v s e N => by
  cases e
  exact ⟨(PL.m1_1 o (N.keep _ _ ho) hc), fun b e => by cases e; exact (PL.m1_1 o (N.keep _ _ ho) hd)⟩
theorem bm_sub : BM "re.Pattern" "sub" "re.Pattern.sub" := ⟨sub_plain, slot_sub, sub_type⟩
theorem GM.sub {pat : Addr} {R : AV → List AV → Led → Prop} (hS : SubOk G pat) (h : R (.lit (.builtin "re.Pattern.sub")) [.ref pat] l) : GM G A "sub" (.ref pat) l R X := by
  obtain ⟨_, _, _, _, _, _, _, _, h1, _⟩ := hS.ok
  exact GM.builtin bm_sub (OfT.keep h1 rfl rfl) h
theorem CC.resub {pat f : Addr} {x : Str} (hS : SubOk G pat) (hf : Pick (f, .typed "function") l l') (hx : noneFound x = true) (h0 : 0 < x.cps.size) (hz : x.cps.size ≤ 1000) (h : R (.str x) l) : CC G A (.lit (.builtin "re.Pattern.sub")) [.ref pat, .ref f, .str x] l R X := fun g vs hg hvs s N => by
  cases hg
  obtain ⟨v, u, w, rfl, hv, hu, t, rfl⟩ := get3 hvs
  cases hv; cases hu
  obtain ⟨a0, fl, tf, tg, cd, th, items, k, h1, h2, h3⟩ := hS.ok
  obtain ⟨of, hfo, hfc⟩ := N.at hf
  have k1 := N.keep _ _ h1
  have k2 := N.keep _ _ h2
  refine wpAny_call (codeAny_call_builtin slot_sub.plain sub_entry (slot_sub.check _ _ _ _ _ _ _ _ ⟨_, k1, rfl⟩ (args_sub _ _ _) ?_))
  refine sub_outer k1 k2 hfo hfc fun p h' tk e1 e2 => ?_
  subst e1 e2
  refine ⟨plainId_quiet subl_plain _, codeAny_builtin subl_entry ?_⟩
  rw [Around.under_plainId subl_plain]
  have hk : ∀ b o, s.heap.get? b = some o → (s.heap.push { cls := .type "list", data := .seq #[] }).get? b = some o := fun b o e => Heap.get?_push_of_some _ e
  refine sub_loop (hk _ _ k1) (hk _ _ k2) h3 (Heap.get?_push_size _ rfl) hx h0 hz fun h' tk' u hx' => ?_
  refine ⟨.str x, l, ⟨u, rfl⟩, ?_, h⟩
  exact N.ext fun b o e => hx' b o (Nat.ne_of_lt (Heap.lt_size e)) (hk _ _ e)
end
end PL
end
section
open PySem PySem.Calls PyProof.Rows PySem.W
set_option autoImplicit false
set_option linter.unusedVariables false
set_option maxRecDepth 100000
set_option maxHeartbeats 0
namespace PL
section
variable {G : Gd} {A : Around} {env : Env} {l l' : Led} {X : Xp} {R : AV → Led → Prop} {names : List (Str × NameKind)} {L : Addr} {cl : List (Str × Addr)}
/-! f-strings -/
theorem EE.fmt {value : Expr} {pos : Pos} (h : EE G A env value l (fun a l₁ => ∃ x, a = .str x ∧ x.length ≤ 10000 ∧ R (.str x) l₁) X) : EE G A env (.FormattedValue value (-1) Option.none pos) l R X := fun s N =>
  FormattedValue_plain (wpAny_mono (h s N) (fun v s₁ ⟨a, l₁, ha, N₁, x, e, hz, h₁⟩ => by
    subst e; obtain ⟨t, rfl⟩ := ha
    exact formatField_str (fun t' tk => ⟨.str x, l₁, ⟨t', rfl⟩, N₁.toks _, h₁⟩) (Nat.le_trans hz (by decide))) fun _ _ y => y)
noncomputable def JP (G : Gd) (A : Around) (out : Str) (ts : List (Sem Value)) (l : Led) (R : AV → Led → Prop) (X : Xp) : Prop := Tr G A (joinParts out ts) AV.Is l R X
theorem JP.nil {out : Str} (hz : out.length ≤ 10000) (h : R (.str out) l) : JP G A out [] l R X := fun s N => joinParts_nil ⟨.str out, l, ⟨_, rfl⟩, N.toks _, h⟩ (Nat.le_trans hz (by decide))
theorem JP.cons {out : Str} {e : Expr} {ts : List (Sem Value)} (h : EE G A env e l (fun a l₁ => ∃ y, a = .str y ∧ (out ++ y).length ≤ 10000 ∧ JP G A (out ++ y) ts l₁ R X) X) : JP G A out (eval e env :: ts) l R X := fun s N =>
  joinParts_cons (wpAny_mono (h s N) (fun v s₁ ⟨a, l₁, ha, N₁, y, e, hz, h₁⟩ => by
    subst e; obtain ⟨t, rfl⟩ := ha
    exact ⟨Nat.le_trans hz (by decide), h₁ s₁ N₁⟩) fun _ _ y => y)
theorem EE.joined {v1 v2 v3 : Expr} {pos : Pos} (h : JP G A Str.empty [eval v1 env, eval v2 env, eval v3 env] l R X) : EE G A env (.JoinedStr [v1, v2, v3] pos) l R X := fun s N => JoinedStr_many (h s N)
theorem EE.joined1 {v1 : Expr} {pos : Pos} (h : EE G A env v1 l R X) : EE G A env (.JoinedStr [v1] pos) l R X := fun s N => JoinedStr_one (h s N)
/-! in a tuple -/
theorem Op2.inDataT {a c : AV} {xs : List PyData} {d : PyData} {n : Nat} (hr : Room A n) (hc : RD l c (.tuple xs)) (ha : RD l a d) (hxs : PyData.canLayAll0 xs = true) (hd : d.canLay0 = true) (hu : PyData.depthAll xs ≤ 50) (h : R (.bool (xs.any fun y => PyData.eqv y d)) l) :
    Op2 G A (compareOp .In) a c l R X := fun v u hv hu' s N => by
  obtain ⟨as, rc⟩ := hc.reads N u hu'
  obtain ⟨bs, ra⟩ := ha.reads N v hv
  exact SeqAt.in_tuple_reads rc ra hxs hd (by have := hr.u; lia) ⟨.bool _, l, rfl, N, h⟩
/-! a tuple of targets -/
theorem Asg.tup {elts : List Expr} {k : Nat} {pos : Pos} {p : Addr} {as : List AV} {n : Nat} {R : Led → Prop} (hr : Room A n) (hp : Pick (p, .tuple as) l l') {ts : List (Value → Sem Unit)} (h : AIO G A ts as l' R X)
    (hts : (assignEach elts env).map (·.2) = ts := by with_unfolding_all rfl) (hn : (assignEach elts env).length = as.length := by with_unfolding_all rfl) (hst : (assignEach elts env).findIdx? (·.1) = Option.none := by with_unfolding_all rfl) : Asg G A env (.Tuple elts k pos) (.ref p) l R X := fun v hv s N => by
  cases hv
  (refine PL.x1_1 (N.at hp) ?_; rintro vs ho ha)
  refine wpAny_assign_Tuple (items := vs.toArray) hr.h ⟨_, ho, rfl, 0, rfl⟩ (by rw [hn, ha.length]; simp) hst fun h' hk => ?_
  have N' : Rep G { s with heap := h' } l' := (N.sub (.trans .tail (.perm hp.perm))).ext (tk := s.toks) fun b o e => hk b o (Nat.ne_of_lt (Heap.lt_size e)) e
  rw [hts]
  exact h _ ha _ N'
end
end PL
end
section
open PySem PySem.Calls PyProof.Rows PySem.W
set_option autoImplicit false
set_option linter.unusedVariables false
set_option maxRecDepth 100000
set_option maxHeartbeats 0
namespace PL
/-! comprehensions -/
noncomputable def relN (cn names : List (Str × NameKind)) : List (Str × NameKind) := cn.map fun (n, k) => if (k == .free && names.lookup n == some .cell) then (n, .cell) else (n, k)
noncomputable def closL (cl : List (Str × Addr)) : List (Str × NameKind) → List (Str × Addr) → List (Str × Addr)
  | [], acc => acc
  | (x, k) :: r, acc => if k == .free then (match cl.lookup x with | some c => closL cl r ((x, c) :: acc) | none => closL cl r acc) else closL cl r acc
theorem relabel_eq {env : Env} {names : List (Str × NameKind)} {L : Addr} {cl : List (Str × Addr)} {scope : Scope} (hE : EnvOk env names L cl) : (relabel scope env).names = relN scope.names names := by
  unfold relabel relN
  dsimp only
  apply List.map_congr_left
  intro p hp
  obtain ⟨n, k⟩ := p
  have : env.kindOf n = names.lookup n := by show env.scope.names.lookup n = _; rw [hE.hnames]
  rw [this, hE.kind]
  simp
theorem closure_eq {env : Env} {names : List (Str × NameKind)} {L : Addr} {cl : List (Str × Addr)} {scope : Scope} (hE : EnvOk env names L cl) (h : (scope.names.all fun p => p.2 != .free || (cl.lookup p.1).isSome) = true) : closureFor scope env = pure (closL cl scope.names []) := by
  unfold closureFor
  have go : ∀ (cn : List (Str × NameKind)) (acc : List (Str × Addr)), (cn.all fun p => p.2 != .free || (cl.lookup p.1).isSome) = true →
      (forIn cn acc fun (x : Str × NameKind) (cs : List (Str × Addr)) => if x.2 == .free then (do let c ← cellOf env x.1; pure (ForInStep.yield ((x.1, c) :: cs))) else pure (ForInStep.yield cs) : Sem (List (Str × Addr))) = pure (closL cl cn acc) := by
    intro cn
    induction cn with
    | nil => intro acc _; rfl
    | cons p r ih =>
      obtain ⟨x, k⟩ := p
      intro acc hp
      rw [List.all_cons, Bool.and_eq_true] at hp
      rw [List.forIn_cons]
      unfold closL
      cases hk : k == NameKind.free with
      | true =>
        have e : k = .free := by simpa using hk
        have hs : (cl.lookup x).isSome = true := by have := hp.1; rw [e] at this; simpa using this
        obtain ⟨c, hc⟩ := Option.isSome_iff_exists.mp hs
        have hcell : cellOf env x = pure c := by unfold cellOf; rw [hE.hcells, hc]
        dsimp only
        rw [hcell, hc]
        exact ih _ hp.2
      | false => exact ih _ hp.2
  exact congrArg (fun t => t >>= fun cs => pure cs) (go scope.names [] h) |>.trans rfl
theorem cellsFrom_app : ∀ (cn : List (Str × NameKind)) (n : Nat) (acc : List (Str × Addr)), cellsFrom n cn acc = cellsFrom n cn [] ++ acc
  | [], n, acc => rfl
  | (x, k) :: r, n, acc => by
    unfold cellsFrom
    split
    · rw [cellsFrom_app r (n + 1) ((x, n) :: acc), cellsFrom_app r (n + 1) [(x, n)], List.append_assoc]; rfl
    · exact cellsFrom_app r n acc
noncomputable def cellNone : List (Str × Addr) → Led
  | [] => []
  | (_, c) :: r => (c, .cell none) :: cellNone r
theorem cellNone_mem {cs : List (Str × Addr)} : ∀ {p : Addr × AO}, p ∈ cellNone cs → ∃ n, (n, p.1) ∈ cs ∧ p.2 = .cell none := by
  induction cs with
  | nil => intro p h; cases h
  | cons q r ih =>
    obtain ⟨n, c⟩ := q
    intro p h
    rcases List.mem_cons.mp h with rfl | h
    · exact (PL.m1_1 n (.head _) rfl)
    · (refine PL.x1_1 (ih h) ?_; rintro m h1 h2); exact (PL.m1_1 m (.tail _ h1) h2)
theorem cellNone_nodup {cs : List (Str × Addr)} (h : cs.Pairwise fun x y => x.2 ≠ y.2) : ((cellNone cs).map (·.1)).Nodup := by
  induction cs with
  | nil => exact List.nodup_nil
  | cons q r ih =>
    obtain ⟨n, c⟩ := q
    obtain ⟨h1, h2⟩ := List.pairwise_cons.mp h
    show (c :: (cellNone r).map (·.1)).Nodup
    refine List.nodup_cons.mpr ⟨fun hm => ?_, ih h2⟩
    (refine PL.x1_1 (List.mem_map.mp hm) ?_; rintro p hp e)
    (refine PL.x1_1 (cellNone_mem hp) ?_; rintro m hm' _)
    exact h1 _ hm' e.symm
section
variable {G : Gd} {A : Around} {env : Env} {l l' : Led} {X : Xp} {names : List (Str × NameKind)} {L : Addr} {cl : List (Str × Addr)}
/-- the comprehension's environment -/
theorem comp_env {scope : Scope} {cl2 : List (Str × Addr)} (hE : EnvOk env names L cl) (hk : scope.kind = .function) (hnd : ((relN scope.names names).map fun p => p.1).Nodup) (hcd : (cellKeys scope.names (cl2.map fun p => p.1)).Nodup)
    (hpl : ∀ p ∈ relN scope.names names, (p.1 == ("__debug__" : Str)) = false ∧ (p.1 == ("__classdict__" : Str)) = false)
    {s : Shared} (N : Rep G s l) {Q : Env → Shared → Prop} {Ex : Value → Shared → Prop}
    (h : ∀ cenv C own s', cenv.locals = C → own.map (fun p : Str × Addr => p.1) = cellKeys scope.names [] → EnvOk { cenv with scope := relabel scope env } (relN scope.names names) C (own ++ cl2) →
      Rep G s' ((C, .ns (relN scope.names names) (scope.names.map fun _ => none)) :: (cellNone own ++ l)) → Q cenv s') :
    wpAny (model G.prog G.w) A (newFunctionEnv scope env.globals cl2 [] env.qual none .none (some env)) Q Ex s := by
  simp only [newFunctionEnv, Option.isSome_some, if_true]
  refine wpAny_bind (wpAny_alloc ?_)
  refine wpAny_bind (wpAny_layCells _ (fun name kind cells => by cases hkc : kind == NameKind.cell <;> simp [hkc]) _ _ _ _ ?_)
  rw [List.forIn_nil]
  refine wpAny_bind (wpAny_pure ?_)
  have ok := cellsFrom_ok scope.names (s.heap.push { cls := .type "dict", data := .dict #[] }) (s.heap.objs.size + 1) [] ⟨fun _ _ hm => (nomatch hm), List.Pairwise.nil⟩ (by rw [Heap.size_push]; exact Nat.le_refl _)
  rw [Heap.size_push] at ok
  rw [show ({ s with heap := s.heap.push { cls := .type "dict", data := .dict #[] } } : Shared).heap.objs.size = s.heap.objs.size + 1 from Heap.size_push ..]
  have happ := cellsFrom_app scope.names (s.heap.objs.size + 1) cl2
  refine wpAny_pure (h _ s.heap.objs.size (cellsFrom (s.heap.objs.size + 1) scope.names []) _ rfl ?_ ?_ ?_)
  · rw [cellKeys_of]; rfl
  · refine ⟨hk, relabel_eq hE, hnd, rfl, happ, ?_, hE.globals, hE.builtins, hpl⟩
    have e := cellKeys_of scope.names (s.heap.objs.size + 1) cl2
    rw [happ] at e
    rw [e]; exact hcd
  · have keep : ∀ b o, s.heap.get? b = some o → (pushCells (s.heap.push { cls := .type "dict", data := .dict #[] }) scope.names).get? b = some o := fun b o e => pushCells_keeps _ _ b o (Heap.get?_push_of_some _ e)
    have low : ∀ p ∈ cellNone (cellsFrom (s.heap.objs.size + 1) scope.names []), s.heap.objs.size < p.1 := fun p hp => by
      (refine PL.x1_1 (cellNone_mem hp) ?_; rintro n hn _)
      exact (ok.empty n p.1 hn).2
    have := N.more (h' := pushCells (s.heap.push { cls := .type "dict", data := .dict #[] }) scope.names) (tk := s.toks) ((s.heap.objs.size, .ns (relN scope.names names) (scope.names.map fun _ => none)) :: cellNone (cellsFrom (s.heap.objs.size + 1) scope.names [])) keep ?_ ?_ ?_
    · exact this
    · show (s.heap.objs.size :: (cellNone _).map (·.1)).Nodup
      refine List.nodup_cons.mpr ⟨fun hm => ?_, cellNone_nodup ok.apart⟩
      (refine PL.x1_1 (List.mem_map.mp hm) ?_; rintro p hp e)
      exact Nat.lt_irrefl _ (e ▸ low p hp)
    · intro p hp
      rcases List.mem_cons.mp hp with rfl | hp
      · exact Heap.get?_none_of_le (Nat.le_refl _)
      · exact Heap.get?_none_of_le (Nat.le_of_lt (low p hp))
    · intro p hp
      rcases List.mem_cons.mp hp with rfl | hp
      · refine (PL.m1_1 _ ((Heap.Ns.new s.heap (.type "dict")).keeps (pushCells_keeps _ _)) (fun x k a q => ?_))
        exfalso
        have go : ∀ (ns : List (Str × NameKind)) (vs : List (Option AV)), (∀ o ∈ vs, o = none) → ¬ Look x k a ns vs := by
          intro ns vs hv q
          induction q with
          | here => have := hv _ (.head _); cases this
          | there _ ih => exact ih fun o ho => hv o (.tail _ ho)
        exact go _ _ (fun o ho => by (refine PL.x1_1 (List.mem_map.mp ho) ?_; rintro _ _ e); exact e.symm) q
      · (refine PL.x1_1 (cellNone_mem hp) ?_; rintro n hn e)
        rw [e]
        exact (PL.m1_1 none ((ok.empty n p.1 hn).1) trivial)
end
noncomputable def IT (G : Gd) (A : Around) (env : Env) (ifs : List Expr) (l : Led) (R : Bool → Led → Prop) (X : Xp) : Prop := Tr G A (forIn ifs true fun c r => if r = true then do let ok ← isTrue c env (eval c env); pure (ForInStep.yield ok) else pure (ForInStep.yield r)) (fun (b v : Bool) => v = b) l R X
section
variable {G : Gd} {A : Around} {env cenv : Env} {l l' : Led} {X : Xp}
theorem IT.nil {R : Bool → Led → Prop} (h : R true l) : IT G A env [] l R X := fun s N => wpAny_tests_nil ⟨true, l, rfl, N, h⟩
theorem IT.one {c : Expr} {R : Bool → Led → Prop} (h : TT G A env c l R X) : IT G A env [c] l R X := fun s N => wpAny_tests_one (h s N)
/-- the turn's end: the frame, what has been gathered, the rest -/
noncomputable def CEnd (F : Led) (C acc : Addr) (cn : List (Str × NameKind)) (vals : List (Option AV)) (xs : List AV) (J : Led → Prop) (l : Led) : Prop := ∃ K, Sub (F ++ ((C, .ns cn vals) :: (acc, .list xs) :: K)) l ∧ J K
theorem CEnd.mk {F : Led} {C acc : Addr} {cn : List (Str × NameKind)} {vals : List (Option AV)} {xs : List AV} {J : Led → Prop} {K : Led} (hJ : J K) (hs : Sub (F ++ ((C, .ns cn vals) :: (acc, .list xs) :: K)) l) : CEnd F C acc cn vals xs J l := (PL.m1_1 K hs hJ)
theorem comp_loop {elt target iter : Expr} {ifs : List Expr} {scope : Scope} {pos : Pos} {it : AV} {n : Nat} {F : Nat → Led} {Fm : Nat → AV → Led} {Fe : Led} {P : Nat → AV → Led → Prop} {T : Expr → Prop} (W : Walk G A it n F Fm Fe P T) (hT : T target) (hn : n < 1000000) {C acc : Addr} {cn : List (Str × NameKind)} {vals : List (Option AV)}
    (J : Nat → List AV → Led → Prop)
    (turn : ∀ k xs a E K, k < n → P k a E → J k xs K → Asg G A cenv target a (E ++ (F (k + 1) ++ ((C, .ns cn vals) :: (acc, .list xs) :: K))) (fun l₃ => IT G A cenv ifs l₃ (fun b l₄ =>
      (b = true → EE G A cenv elt l₄ (fun y l₅ => CEnd (F (k + 1)) C acc cn vals xs (J (k + 1) (xs ++ [y])) l₅) noX) ∧ (b = false → CEnd (F (k + 1)) C acc cn vals xs (J (k + 1) xs) l₄)) noX) noX)
    {R : Result → Shared → Prop} (fin : ∀ f s' xs K, Rep G s' (Fe ++ ((C, .ns cn vals) :: (acc, .list xs) :: K)) → J n xs K → R (.ok f) s')
    {iv : Value} (hit : it.Is iv) {s : Shared} {K₀ : Led} (N : Rep G s (F 0 ++ ((C, .ns cn vals) :: (acc, .list []) :: K₀))) (hJ0 : J 0 [] K₀) :
    codeAny (model G.prog G.w) A (.compStart (.ListComp elt [⟨target, iter, ifs, 0⟩] scope pos) 0 iv (.ref acc) cenv) R s := by
  have loop : ∀ {iv : Value} {s : Shared}, it.Is iv → Rep G s (F 0 ++ ((C, .ns cn vals) :: (acc, .list []) :: K₀)) → codeAny (model G.prog G.w) A (.compLoop (.ListComp elt [⟨target, iter, ifs, 0⟩] scope pos) 0 iv (.ref acc) cenv) R s := by
    intro iv s hit N
    refine codeAny_loop rfl (fun m s => ∃ k xs K, m = n - k ∧ k ≤ n ∧ xs.length ≤ k ∧ Rep G s (F k ++ ((C, .ns cn vals) :: (acc, .list xs) :: K)) ∧ J k xs K) (fun m s hq1 => ?_) n (PL.m3_4 0 ([]) K₀ (by lia) (Nat.zero_le _) (Nat.le_refl _) N hJ0)
    (revert hq1; refine PL.j3_4 ?_; rintro k xs K hm hk hxl N hJ)
    show wpAny _ A ((compTurn (.ListComp elt [⟨target, iter, ifs, 0⟩] scope pos) 0 iv (.ref acc) cenv).onRaise (fun x => do noteFrame x cenv; theTreesLotGoes x)) _ _ s
    refine wpAny_noted ?_
    rw [compTurn_list]
    refine wpAny_bind (wpAny_standAt (wpAny_bind ?_))
    have none_ex : ∀ {Q : Value → Shared → Prop} (e : Value) (s' : Shared), Px G noX e s' → Q e s' := fun e s' ⟨_, _, _, _, h⟩ => h.elim
    by_cases hlt : k < n
    · refine wpAny_mono (W.next k _ (fun o l => ∃ a E, o = some a ∧ P k a E ∧ l = E ++ (Fm (k + 1) a ++ ((C, .ns cn vals) :: (acc, .list xs) :: K))) noX hlt (fun a E hp => (PL.m2_2 a E rfl hp rfl)) iv hit s N) (fun r s₁ hq2 => ?_) none_ex
      obtain ⟨o, l₁, ho, N₁, a, E, e, hp, el⟩ := hq2
      subst e el
      (revert ho; refine PL.j1_1 ?_; rintro u rfl hu)
      refine wpAny_bind (wpAny_mono (W.go k _ a E target (fun l => l = E ++ (F (k + 1) ++ ((C, .ns cn vals) :: (acc, .list xs) :: K))) noX hT hp rfl iv u hit hu s₁ N₁) (fun _ s₂ ⟨_, l₂, _, N₂, e⟩ => ?_) none_ex)
      subst e
      refine wpAny_bind (wpAny_mono (turn k xs a E K hlt hp hJ u hu s₂ N₂) (fun _ s₃ ⟨_, l₃, _, N₃, h₃⟩ => ?_) none_ex)
      refine wpAny_bind (wpAny_mono (h₃ s₃ N₃) (fun ok s₄ hq3 => ?_) none_ex)
      obtain ⟨b, l₄, hb, N₄, h₄, h₅⟩ := hq3
      subst hb
      cases ok with
      | false =>
        (refine PL.x1_1 (h₅ rfl) ?_; rintro K' hs hJ')
        exact wpAny_pure ⟨rfl, n - (k + 1), by lia, k + 1, xs, K', rfl, hlt, by lia, N₄.sub hs, hJ'⟩
      | true =>
        refine wpAny_bind (wpAny_bind (wpAny_mono (h₄ rfl s₄ N₄) (fun y s₅ ⟨b, l₅, hb, N₅, K', hs, hJ'⟩ => wpAny_bind ?_) none_ex))
        have N₆ : Rep G s₅ ((acc, .list xs) :: (F (k + 1) ++ ((C, .ns cn vals) :: K'))) := N₅.sub (.trans (.perm (by
          refine List.Perm.trans ?_ List.perm_middle
          exact List.Perm.append_left _ (List.Perm.swap ..))) hs)
        have := CC.append (G := G) (A := A) (X := noX) (p := acc) (xs := xs) (a := b) (l := (acc, .list xs) :: (F (k + 1) ++ ((C, .ns cn vals) :: K'))) .head (by lia) (R := fun _ l => l = (acc, .list (xs ++ [b])) :: (F (k + 1) ++ ((C, .ns cn vals) :: K'))) rfl _ _ rfl (.cons rfl (.cons hb .nil)) s₅ N₆
        refine wpAny_mono this (fun _ s₆ ⟨_, l₆, _, N₇, e⟩ => ?_) none_ex
        subst e
        refine wpAny_pure (wpAny_pure ⟨rfl, n - (k + 1), by lia, k + 1, xs ++ [b], K', rfl, hlt, by simp; omega, N₇.sub (.perm ?_), hJ'⟩)
        refine (List.Perm.trans ?_ List.perm_middle).symm
        exact List.Perm.append_left _ (List.Perm.swap ..)
    · have : k = n := by lia
      subst this
      refine wpAny_mono (W.stop _ (fun o l => o = none ∧ l = Fe ++ ((C, .ns cn vals) :: (acc, .list xs) :: K)) noX ⟨rfl, rfl⟩ iv hit s N) (fun r s₁ hq4 => ?_) none_ex
      obtain ⟨o, l₁, ho, N₁, e, el⟩ := hq4
      subst e el
      cases ho
      exact wpAny_pure (fin _ _ xs K N₁ hJ)
  refine codeAny_compStart_list (loop hit N) ?_
  refine wpAny_mono (W.again _ (fun a l => a = it ∧ l = F 0 ++ ((C, .ns cn vals) :: (acc, .list []) :: K₀)) noX ⟨rfl, rfl⟩ iv hit s N) (fun iv' s' hq5 => ?_) (fun e s' ⟨_, _, _, _, h⟩ => h.elim)
  obtain ⟨a, l₁, ha, N', e, el⟩ := hq5
  subst e el
  exact loop ha N'
end
theorem Rep.drop {G : Gd} {s : Shared} {a : Addr} {ao : AO} {l : Led} {h' : Heap} {tk : Nat} (N : Rep G s ((a, ao) :: l)) (hs : Heap.ExtBut a s.heap h') : Rep G { s with heap := h', toks := tk } l := by
  have N₁ := N.sub (l' := l) .tail
  exact ⟨fun b o e => hs b o (fun q => by have := N.fresh (a := a) .head; rw [q] at e; rw [this] at e; cases e) (N.keep b o e), N₁.nodup, fun q hq => ⟨(N₁.has q hq).1, (N₁.has q hq).2.keep fun o e => hs _ _ (N.ne .head q hq) e⟩, N.gens, N.os⟩
structure CompOk (scope : Scope) (names cn cn' : List (Str × NameKind)) (cl cl2 : List (Str × Addr)) (own : List Str) (vals : List (Option AV)) : Prop where
  hkind : scope.kind = .function
  hcn : scope.names = cn
  hcn' : relN cn names = cn'
  hclos : (cn.all fun p => p.2 != .free || (cl.lookup p.1).isSome) = true
  hcl2 : closL cl cn [] = cl2
  hnodup : (cn'.map fun p => p.1).Nodup
  hloc : ∀ x ∈ cn, x.2 = .local → cn.lookup x.1 = some .local
  hks : (cellKeys cn (cl2.map fun p => p.1)).Nodup
  hplain : ∀ p ∈ cn', (p.1 == ("__debug__" : Str)) = false ∧ (p.1 == ("__classdict__" : Str)) = false
  hown : cellKeys cn [] = own
  hvals : (cn.map fun _ => none) = vals
section
variable {G : Gd} {A : Around} {env : Env} {l l' : Led} {X : Xp} {names cn cn' : List (Str × NameKind)} {L : Addr} {cl cl2 : List (Str × Addr)} {ownk : List Str} {vals : List (Option AV)}
/-- what a comprehension over one iterable asks -/
noncomputable def CompAsk (G : Gd) (A : Around) (env : Env) (scope : Scope) (cn' : List (Str × NameKind)) (cl2 : List (Str × Addr)) (ownk : List Str) (vals : List (Option AV)) (elt target : Expr) (ifs : List Expr) (R : Addr → Led → Prop) (it : AV) (l₂ : Led) : Prop :=
  ∃ n F Fm Fe P T L₀, Walk G A it n F Fm Fe P T ∧ T target ∧ n < 1000000 ∧ Sub (F 0 ++ L₀) l₂ ∧ ∀ C acc own cenv, own.map (fun p : Str × Addr => p.1) = ownk → EnvOk cenv cn' C (own ++ cl2) →
    ∃ J : Nat → List AV → Led → Prop, J 0 [] (cellNone own ++ L₀) ∧
      (∀ k xs a E K, k < n → P k a E → J k xs K → Asg G A cenv target a (E ++ (F (k + 1) ++ ((C, .ns cn' vals) :: (acc, .list xs) :: K))) (fun l₃ => IT G A cenv ifs l₃ (fun b l₄ =>
        (b = true → EE G A cenv elt l₄ (fun y l₅ => CEnd (F (k + 1)) C acc cn' vals xs (J (k + 1) (xs ++ [y])) l₅) noX) ∧ (b = false → CEnd (F (k + 1)) C acc cn' vals xs (J (k + 1) xs) l₄)) noX) noX) ∧
      (∀ xs K, J n xs K → R acc ((acc, .list xs) :: (Fe ++ K)))
theorem comp_list {elt target iter : Expr} {ifs : List Expr} {scope : Scope} {pos : Pos} {use : Option (Value → Sem Unit)} (hE : EnvOk env names L cl) (hS : CompOk scope names cn cn' cl cl2 ownk vals)
    {Q : Value → Shared → Prop} {s : Shared} (N : Rep G s l) {Ex : Value → Shared → Prop} {R : Addr → Led → Prop}
    (h : EE G A env iter l (fun x l₁ => Op1 G A pyIter x l₁ (CompAsk G A env scope cn' cl2 ownk vals elt target ifs R) X) X)
    (hEx : ∀ e s', Px G X e s' → Ex e s')
    (fin : ∀ acc C s' l₃ , R acc l₃ → Rep G s' ((C, .ns cn' vals) :: l₃) → compPost (model G.prog G.w) A Ex use Q (.ref acc) C (.ok .next) s')
    (hs : ∀ x, foldedSetIterable iter env x = pure x := by intro _; with_unfolding_all rfl) :
    wpAny (model G.prog G.w) A (comprehension (.ListComp elt [⟨target, iter, ifs, 0⟩] scope pos) scope env (firstIterPos [⟨target, iter, ifs, 0⟩] pos) (newList []) false (eval iter env) use) Q Ex s := by
  obtain ⟨hk, e1, e2, e3, e4, e5, e6, e7, e8, e9, e10⟩ := hS
  subst e1
  refine wpAny_comprehension_free (cl := cl2) rfl hs (by rw [closure_eq hE e3, e4]) hk e6 ?_
  refine wpAny_mono (h s N) (fun x s₁ ⟨a, l₁, ha, N₁, h₁⟩ => ?_) hEx
  refine wpAny_mono (h₁ x ha s₁ N₁) (fun iv s₂ hp5 => ?_) hEx
  obtain ⟨it, l₂, hit, N₂, h5⟩ := hp5
  (refine PL.x7_4 h5 ?_; rintro n F Fm Fe P T L₀ W hT hn hsub h₂)
  refine wpAny_newObj_type ?_ (by size_fits)
  have N₃ : Rep G { s₂ with heap := s₂.heap.push { cls := .type "list", data := .seq #[] } } ((s₂.heap.objs.size, .list []) :: (F 0 ++ L₀)) := (N₂.sub hsub).push (ao := .list []) rfl (PL.m1_1 (#[]) (⟨0, Heap.get?_push_size _ rfl⟩) (.nil))
  refine comp_env hE hk (by rw [e2]; exact e5) e7 (by rw [e2]; exact e8) N₃ fun cenv C own s₄ hC hown hEc N₄ => ?_
  rw [e2] at hEc N₄
  rw [e10] at N₄
  rw [e9] at hown
  (refine PL.x1_2 (h₂ C s₂.heap.objs.size own _ hown hEc) ?_; rintro J hJ0 turn hfin)
  subst hC
  refine comp_loop W hT hn (acc := s₂.heap.objs.size) (cn := cn') (vals := vals) (C := cenv.locals) J turn (fun f s' xs K N' hJ => ?_) hit (K₀ := cellNone own ++ L₀) ?_ hJ0
  · have := fin s₂.heap.objs.size cenv.locals s' _ (hfin xs K hJ) (N'.perm (by
      refine List.Perm.trans List.perm_middle (List.Perm.cons _ ?_)
      exact List.perm_middle))
    cases use <;> exact this
  · refine N₄.perm ?_
    refine List.Perm.trans ?_ List.perm_middle.symm
    refine List.Perm.cons _ ?_
    refine List.Perm.trans ?_ List.perm_middle.symm
    refine List.Perm.trans List.perm_middle (List.Perm.cons _ ?_)
    rw [← List.append_assoc, ← List.append_assoc]
    exact List.Perm.append_right _ List.perm_append_comm
theorem EE.listcomp {elt target iter : Expr} {ifs : List Expr} {scope : Scope} {pos : Pos} {R : AV → Led → Prop} (hE : EnvOk env names L cl) (hS : CompOk scope names cn cn' cl cl2 ownk vals)
    (h : EE G A env iter l (fun x l₁ => Op1 G A pyIter x l₁ (CompAsk G A env scope cn' cl2 ownk vals elt target ifs (fun acc l => R (.ref acc) l)) X) X)
    (hs : ∀ x, foldedSetIterable iter env x = pure x := by intro _; with_unfolding_all rfl) : EE G A env (.ListComp elt [⟨target, iter, ifs, 0⟩] scope pos) l R X := fun s N => by
  show wpAny _ _ (comprehension (.ListComp elt [⟨target, iter, ifs, 0⟩] scope pos) scope env (firstIterPos [⟨target, iter, ifs, 0⟩] pos) (newList []) false (eval iter env) Option.none) _ _ s
  refine comp_list hE hS N h (fun _ _ y => y) (fun acc C s' l₃ hR N' => ?_) hs
  (refine PL.x1_1 (N'.at .head) ?_; rintro m hm _)
  exact (PL.m1_1 m hm (fun h' hh => ⟨.ref acc, l₃, rfl, N'.drop hh.extBut, hR⟩))
/-- the store of a comprehension, its frame still there -/
noncomputable def StC (G : Gd) (A : Around) (env : Env) (x : Str) (a : AV) (l : Led) (R : Led → Prop) (X : Xp) : Prop := ∀ C cn vs, StN G A env x a ((C, .ns cn vs) :: l) (fun l₂ => ∃ l₃, Sub ((C, .ns cn vs) :: l₃) l₂ ∧ R l₃) X
theorem StC.loc {x : Str} {a : AV} {R : Led → Prop} {vs vs' : List (Option AV)} (hE : EnvOk env names L cl) (hp : Pick (L, .ns names vs) l l') (hx : Put x .local a names vs vs') (h : R ((L, .ns names vs') :: l')) : StC G A env x a l R X := fun C cn ws =>
  StN.loc hE (.tail hp) hx (PL.m1_1 _ (.perm (List.Perm.swap ..)) h)
theorem swaps_true {elt : Expr} {gens : List Comprehension} {scope : Scope} {cpos p1 : Pos} {x : Str} {line : Nat} (hE : EnvOk env names L cl) (hx : LookT x .local names) (hl : (p1.line == cpos.line) = true) (hn : (scope.names.any fun (n, k) => n == x && (k == .local || k == .cell)) = false) :
    swapsWith (.ListComp elt gens scope cpos) (some (.Name x p1)) line env = pure true := by
  have bk : (env.blockKind == .function) = true := by unfold Env.blockKind; rw [hE.kind]; rfl
  unfold swapsWith
  dsimp only
  rw [bk, hE.kindOf hx, hn]
  rw [show (p1.line == (Expr.ListComp elt gens scope cpos).pos.line) = true from hl]
  rfl
theorem swaps_cell {elt : Expr} {gens : List Comprehension} {scope : Scope} {cpos p1 : Pos} {x : Str} {line : Nat} (hE : EnvOk env names L cl) (hx : LookT x .cell names) :
    swapsWith (.ListComp elt gens scope cpos) (some (.Name x p1)) line env = pure false := by
  unfold swapsWith
  dsimp only
  rw [hE.kindOf hx, show (some NameKind.cell == some NameKind.local) = false from rfl, Bool.and_false, Bool.false_and, Bool.false_and]
theorem SS.assignComp {elt target iter : Expr} {ifs : List Expr} {scope : Scope} {cpos p1 pos : Pos} {x : Str} {R : AF → Led → Prop} (hE : EnvOk env names L cl) (hS : CompOk scope names cn cn' cl cl2 ownk vals) (hx : LookT x .local names)
    (h : EE G A env iter l (fun y l₁ => Op1 G A pyIter y l₁ (CompAsk G A env scope cn' cl2 ownk vals elt target ifs (fun acc l => StC G A env x (.ref acc) l (fun l₂ => R .next l₂) X)) X) X)
    (hl : (p1.line == cpos.line) = true := by with_unfolding_all rfl) (hn : (scope.names.any fun (n, k) => n == x && (k == .local || k == .cell)) = false := by with_unfolding_all rfl)
    (hs : ∀ x, foldedSetIterable iter env x = pure x := by intro _; with_unfolding_all rfl) : SS G A env (.Assign [.Name x p1] (.ListComp elt [⟨target, iter, ifs, 0⟩] scope cpos) pos) l R X := fun s N => by
  rw [exec_Assign_Name_used _ _ _ _ (swaps_true hE hx hl hn)]
  refine wpAny_bind (wpAny_standAt (wpAny_bind ?_))
  show wpAny _ _ (do let _ ← comprehension (.ListComp elt [⟨target, iter, ifs, 0⟩] scope cpos) scope env (firstIterPos [⟨target, iter, ifs, 0⟩] cpos) (newList []) false (eval iter env) (some (PySem.assign (.Name x p1) env))) _ _ s
  refine wpAny_bind (comp_list hE hS N h (fun _ _ y => y) (fun acc C s' l₃ hR N' => ?_) hs)
  refine wpAny_assign_Name (wpAny_mono (hR C cn' vals (.ref acc) rfl s' N') (fun _ s₂ hq6 => ?_) fun _ _ y => y)
  obtain ⟨_, l₂, _, N₂, l₄, hsub, hR'⟩ := hq6
  have N₃ := N₂.sub hsub
  (refine PL.x1_1 (N₃.at .head) ?_; rintro m hm _)
  exact (PL.m1_1 m hm (fun h' hh => wpAny_pure (wpAny_pure ⟨.next, l₄, rfl, N₃.drop hh.extBut, hR'⟩)))
theorem SS.assignCompC {elt target iter : Expr} {ifs : List Expr} {scope : Scope} {cpos p1 pos : Pos} {x : Str} {R : AF → Led → Prop} (hE : EnvOk env names L cl) (hx : LookT x .cell names)
    (h : EE G A env (.ListComp elt [⟨target, iter, ifs, 0⟩] scope cpos) l (fun a l₁ => StN G A env x a l₁ (fun l₂ => R .next l₂) X) X) : SS G A env (.Assign [.Name x p1] (.ListComp elt [⟨target, iter, ifs, 0⟩] scope cpos) pos) l R X :=
  SS.assign (x := x) (p1 := p1) (value := .ListComp elt [⟨target, iter, ifs, 0⟩] scope cpos) h (swaps_cell hE hx)
end
end PL
end
section
open PySem PySem.Calls PyProof.Rows PySem.W
set_option autoImplicit false
set_option linter.unusedVariables false
set_option maxRecDepth 100000
set_option maxHeartbeats 0
namespace PL
section
variable {G : Gd} {A : Around} {env : Env} {l l' : Led} {X : Xp} {R : AV → Led → Prop}
theorem CC.tupleOf {p : Addr} {xs : List AV} (hp : Pick (p, .list xs) l l') (hz : xs.length < 1000000) (h : ∀ t, R (.ref t) ((t, .tuple xs) :: l)) : CC G A (.lit (.type "tuple")) [.ref p] l R X := fun g vs hg hvs s N => by
  cases hg
  (refine PL.x1_1 (get1 hvs) ?_; rintro v rfl hv)
  cases hv
  (refine PL.x1_1 (N.at hp) ?_; rintro ws hl ha)
  have hlen : ws.size = xs.length := by rw [← Array.length_toList, ← ha.length]
  refine call_tuple_list hl.isList (fun h' hk => ?_) (by rw [hlen]; exact Nat.le_trans (Nat.le_of_lt hz) (by decide))
  have N₁ := N.ext (tk := s.toks) hk
  exact ⟨.ref h'.objs.size, _, rfl, N₁.push (ao := .tuple xs) rfl (PL.m1_1 ws.toList (by have := Heap.get?_push_size h' (o := { cls := .type "tuple", data := .seq ws }) rfl; simpa using this) ha), h _⟩
theorem CC.range1 {n : Int} (h : ∀ r, R (.ref r) ((r, .fields "range" [.int 0, .int n, .int 1]) :: l)) : CC G A (.lit (.type "range")) [.int n] l R X := fun g vs hg hvs s N => by
  cases hg
  obtain ⟨v, rfl, t, rfl⟩ := get1 hvs
  exact call_range_1 ⟨.ref s.heap.objs.size, _, rfl, (N.push (ao := .fields "range" [.int 0, .int n, .int 1]) rfl (PL.m1_1 _ (Heap.get?_push_size _ rfl) (.cons ⟨_, rfl⟩ (.cons ⟨_, rfl⟩ (.cons ⟨_, rfl⟩ .nil))))).toks _, h _⟩
theorem iter_range {r : Addr} {n : Nat} {R : AV → Led → Prop} (hp : Pick (r, .fields "range" [.int 0, .int (n : Int), .int 1]) l l') (hz : n < 1000000) (h : ∀ it, R (.ref it) ([(it, .rangeiter (0 + ((0 : Nat) : Int)) ((n : Int) - ((0 : Nat) : Int)) 1)] ++ l)) : Op1 G A pyIter (.ref r) l R X := fun v hv s N => by
  cases hv
  (refine PL.x1_1 (N.at hp) ?_; rintro vs ho hvs)
  (refine PL.x3_3 (get3 hvs) ?_; rintro a b c rfl ⟨t, rfl⟩ ⟨u, rfl⟩ ⟨w, rfl⟩)
  have hsz : Builtin.Range.rangeSize 0 (n : Int) 1 = n := by
    rw [rangeSize_one]; split <;> lia
  refine wpAny_pyIter_range (t := t) (u := u) (v := w) ho ?_ ⟨.ref s.heap.objs.size, _, rfl, N.push (ao := .rangeiter (0 + ((0 : Nat) : Int)) ((n : Int) - ((0 : Nat) : Int)) 1) rfl ?_, h _⟩
  · unfold Builtin.Range.small
    rw [hsz]
    have f : ∀ i : Int, 0 ≤ i → i < 1000000 → Builtin.Range.rangeFitsLong i = true := fun i h1 h2 => by
      unfold Builtin.Range.rangeFitsLong
      simp only [Bool.and_eq_true, decide_eq_true_eq]; lia
    simp only [f 0 (by decide) (by decide), f 1 (by decide) (by decide), f n (by lia) (by lia), Bool.and_true]
    rw [if_pos (by decide), f _ (by lia) (by lia), Bool.or_true]; rfl
  · show _ = _
    rw [Heap.get?_push_size _ rfl, hsz]
    simp [rawInt]
end
end PL
end
section
open PySem PySem.Calls PyProof.Rows PySem.W
set_option autoImplicit false
set_option linter.unusedVariables false
set_option maxRecDepth 100000
set_option maxHeartbeats 0
namespace PL
theorem Rep.many {G : Gd} {s : Shared} {ch ch' k es : Led} {h' : Heap} {tk : Nat} (N : Rep G s (ch ++ k)) (hk : ch'.map (·.1) = ch.map (·.1)) (hs : ∀ c o, c ∉ ch.map (·.1) → s.heap.get? c = some o → h'.get? c = some o)
    (ha : ∀ p ∈ ch', At G h' p.1 p.2) (nd : (es.map (·.1)).Nodup) (hn : ∀ p ∈ es, s.heap.get? p.1 = none) (hae : ∀ p ∈ es, At G h' p.1 p.2) : Rep G { s with heap := h', toks := tk } (es ++ (ch' ++ k)) := by
  have nd1 := N.nodup
  rw [List.map_append, List.nodup_append] at nd1
  have memk : ∀ p ∈ ch', ∃ q ∈ ch, q.1 = p.1 := fun p hp => by
    have : p.1 ∈ ch.map (·.1) := by rw [← hk]; exact List.mem_map.mpr (PL.m1_1 p hp rfl)
    (refine PL.x1_1 (List.mem_map.mp this) ?_; rintro q hq e)
    exact (PL.m1_1 q hq e)
  refine ⟨fun b o e => hs b o (fun q => ?_) (N.keep b o e), ?_, ?_, N.gens, N.os⟩
  · (refine PL.x1_1 (List.mem_map.mp q) ?_; rintro p hp rfl)
    have := (N.has p (List.mem_append_left _ hp)).1
    rw [this] at e; cases e
  · rw [List.map_append, List.map_append, hk, ← List.map_append, List.nodup_append]
    refine (PL.m0_2 nd N.nodup (fun a ha1 b hb1 e => ?_))
    (refine PL.x1_1 (List.mem_map.mp ha1) ?_; rintro p hp rfl)
    (refine PL.x1_1 (List.mem_map.mp hb1) ?_; rintro q hq e')
    obtain ⟨o, ho⟩ := (N.has q hq).2.some
    rw [e', ← e, hn p hp] at ho; cases ho
  · intro p hp
    rcases List.mem_append.mp hp with hp | hp
    · refine ⟨?_, hae p hp⟩
      cases q : G.t.get? p.1 with
      | none => rfl
      | some o => have := N.keep _ _ q; rw [hn p hp] at this; cases this
    · rcases List.mem_append.mp hp with hp | hp
      · (refine PL.x1_1 (memk p hp) ?_; rintro q hq e)
        exact ⟨by rw [← e]; exact (N.has q (List.mem_append_left _ hq)).1, ha p hp⟩
      · have hh := N.has p (List.mem_append_right _ hp)
        exact ⟨hh.1, hh.2.keep fun o e => hs _ _ (fun q => nd1.2.2 _ q _ (List.mem_map.mpr (PL.m1_1 p hp rfl)) rfl) e⟩
section
variable {G : Gd} {A : Around} {env : Env} {l l' : Led} {X : Xp}
noncomputable abbrev zipF (z TI TO : Addr) (f0 : AV) : Addr × AO := (z, .fields "zip" [f0, .bool false, .bool false, .ref TI, .ref TO])
noncomputable def zto (xs ys : List AV) : Nat → List AV
  | 0 => [.none, .none]
  | k + 1 => [xs.getD k .none, ys.getD k .none]
noncomputable def zipL (z TI TO i1 i2 p q : Addr) (xs ys : List AV) (f0 : AV) (k : Nat) : Led := [zipF z TI TO f0, (TO, .tuple (zto xs ys k)), (i1, .listiter p k), (i2, .listiter q k), (TI, .tuple [.ref i1, .ref i2]), (p, .list xs), (q, .list ys)]
noncomputable def zipM (a : AV) : AV := match a with
  | .ref T => .lit (rawInt T)
  | _ => .none
theorem get5 {a b c d e : AV} {vs : List Value} (h : AllIs [a, b, c, d, e] vs) : ∃ v1 v2 v3 v4 v5, vs = [v1, v2, v3, v4, v5] ∧ a.Is v1 ∧ b.Is v2 ∧ c.Is v3 ∧ d.Is v4 ∧ e.Is v5 := by
  (refine PL.x2_2 (h.consL) ?_; rintro v1 us rfl h1 h)
  (refine PL.x2_2 (h.consL) ?_; rintro v2 us rfl h2 h)
  (refine PL.x3_3 (get3 h) ?_; rintro v3 v4 v5 rfl h3 h4 h5)
  exact (PL.m5_5 _ _ _ _ _ rfl h1 h2 h3 h4 h5)
theorem two_of {α : Type} : ∀ {xs : List α}, xs.length = 2 → ∃ a b, xs = [a, b]
  | [a, b], _ => (PL.m2_0 a b rfl)
theorem zip_parts {s : Shared} {z TI TO i1 i2 p q : Addr} {xs ys : List AV} {f0 : AV} {k : Nat} {L : Led} (N : Rep G s (zipL z TI TO i1 i2 p q xs ys f0 k ++ L)) :
    ∃ w a b vs us, f0.Is w ∧ IsZip s.heap z TI TO w ∧ IsPair s.heap TI (.ref i1) (.ref i2) ∧ IsPair s.heap TO a b ∧ s.heap.IsListIter i1 p k ∧ s.heap.IsListIter i2 q k ∧ s.heap.IsList p vs ∧ AllIs xs vs.toList ∧ s.heap.IsList q us ∧ AllIs ys us.toList ∧ ZipApart z TI TO i1 i2 p q := by
  (refine PL.x1_1 (N.at (a := z) (ao := .fields "zip" [f0, .bool false, .bool false, .ref TI, .ref TO]) .head) ?_; rintro v hz hv)
  (refine PL.x5_5 (get5 hv) ?_; rintro v1 v2 v3 v4 v5 rfl h1 h2 h3 h4 h5)
  cases h2; cases h3; cases h4; cases h5
  (refine PL.x1_1 (N.at (a := TO) (ao := .tuple (zto xs ys k)) (.tail .head)) ?_; rintro tv hto htv)
  obtain ⟨t1, t2, rfl⟩ : ∃ t1 t2, tv = [t1, t2] := by
    exact two_of (by rw [← htv.length]; cases k <;> rfl)
  have e1 : s.heap.IsListIter i1 p k := N.at (ao := .listiter p k) (.tail (.tail .head))
  have e2 : s.heap.IsListIter i2 q k := N.at (ao := .listiter q k) (.tail (.tail (.tail .head)))
  (refine PL.x1_1 (N.at (a := TI) (ao := .tuple [.ref i1, .ref i2]) (.tail (.tail (.tail (.tail .head))))) ?_; rintro iv hti hiv)
  (refine PL.x2_2 (get2 hiv) ?_; rintro j1 j2 rfl g1 g2)
  cases g1; cases g2
  (refine PL.x1_1 (N.at (a := p) (ao := .list xs) (.tail (.tail (.tail (.tail (.tail .head)))))) ?_; rintro vs hl1 ha1)
  (refine PL.x1_1 (N.at (a := q) (ao := .list ys) (.tail (.tail (.tail (.tail (.tail (.tail .head))))))) ?_; rintro us hl2 ha2)
  have nd := N.nodup
  simp only [zipL, zipF, List.map_append, List.map_cons, List.map_nil, List.cons_append, List.nil_append, List.nodup_cons, List.mem_cons, List.mem_append, not_or] at nd
  (revert nd; refine PL.j0_5 ?_; rintro ha hb hc hd _ _)
  exact (PL.m5_10 v1 t1 t2 vs us h1 hz hti hto e1 e2 hl1.isList ha1 hl2.isList ha2 (⟨Ne.symm ha.2.2.2.1, Ne.symm ha.1, Ne.symm ha.2.1, Ne.symm ha.2.2.1, Ne.symm hb.2.2.1, Ne.symm hc.2.1, Ne.symm hd.1, hb.1, hb.2.1, hc.1, Ne.symm ha.2.2.2.2.1, Ne.symm hb.2.2.2.1, Ne.symm hc.2.2.1, Ne.symm hd.2.1, Ne.symm ha.2.2.2.2.2.1, Ne.symm hb.2.2.2.2.1, Ne.symm hc.2.2.2.1, Ne.symm hd.2.2.1⟩))
theorem walk_zip {z TI TO i1 i2 p q : Addr} {xs ys : List AV} (hh : A.handled = none) (hl : xs.length = ys.length) : Walk G A (.ref z) xs.length (fun k => zipL z TI TO i1 i2 p q xs ys .none k) (fun k a => zipL z TI TO i1 i2 p q xs ys (zipM a) k) [(p, .list xs), (q, .list ys)]
    (fun k a E => ∃ x y T, xs[k]? = some x ∧ ys[k]? = some y ∧ a = .ref T ∧ E = [(T, .tuple [x, y])]) (fun t => ∃ elts n pos, t = .Tuple elts n pos) where
  next k L R X hk h v hv s N := by
    cases hv
    (refine PL.x5_10 (zip_parts N) ?_; rintro w a b vs us hw hz hti hto e1 e2 hl1 ha1 hl2 ha2 D)
    cases hw
    obtain ⟨x, hx⟩ : ∃ x, xs[k]? = some x := ⟨xs[k], List.getElem?_eq_getElem hk⟩
    obtain ⟨y, hy⟩ : ∃ y, ys[k]? = some y := ⟨_, List.getElem?_eq_getElem (by lia)⟩
    (refine PL.x1_1 (ha1.get hx) ?_; rintro vx hvx hxv)
    (refine PL.x1_1 (ha2.get hy) ?_; rintro vy hvy hyv)
    refine wpAny_pyNext_zip_item D hz hti hto e1 e2 hl1 hl2 (by rw [← Array.getElem?_toList]; exact hvx) (by rw [← Array.getElem?_toList]; exact hvy) fun h' hz' hto' e1' e2' hp' hsz hk' => ?_
    refine ⟨some (.ref s.heap.objs.size), _, (PL.m1_1 _ rfl rfl), ?_, h (.ref s.heap.objs.size) [(s.heap.objs.size, .tuple [x, y])] (PL.m3_3 x y _ hx hy rfl rfl)⟩
    have ex : xs.getD k .none = x := by simp [List.getD, hx]
    have ey : ys.getD k .none = y := by simp [List.getD, hy]
    have := N.many (h' := h') (tk := s.toks) (ch := [zipF z TI TO .none, (TO, .tuple (zto xs ys k)), (i1, .listiter p k), (i2, .listiter q k)]) (k := [(TI, .tuple [.ref i1, .ref i2]), (p, .list xs), (q, .list ys)] ++ L)
      (ch' := [zipF z TI TO (.lit (rawInt s.heap.objs.size)), (TO, .tuple [x, y]), (i1, .listiter p (k + 1)), (i2, .listiter q (k + 1))]) (es := [(s.heap.objs.size, .tuple [x, y])]) rfl
      (fun c o hc e => hk' c o (fun q => hc (by subst q; simp [zipF])) (fun q => hc (by subst q; simp [zipF])) (fun q => hc (by subst q; simp [zipF])) (fun q => hc (by subst q; simp [zipF])) e)
      (fun pp hpp => by
        simp only [List.mem_cons, List.not_mem_nil, or_false] at hpp
        rcases hpp with rfl | rfl | rfl | rfl
        · exact (PL.m1_1 _ hz' (.cons rfl (.cons rfl (.cons rfl (.cons rfl (.one rfl))))))
        · exact (PL.m1_1 ([vx, vy]) hto' (.cons hxv (.one hyv)))
        · exact e1'
        · exact e2') (by simp) (fun pp hpp => by simp only [List.mem_singleton] at hpp; subst hpp; exact Heap.get?_none_of_le (Nat.le_refl _))
      (fun pp hpp => by simp only [List.mem_singleton] at hpp; subst hpp; exact (PL.m1_1 ([vx, vy]) hp' (.cons hxv (.one hyv))))
    simp only [zipL, zto, ex, ey, zipM]
    exact this
  go k L a E target R X ht hp h v u hv hu s N := by
    (revert hp; refine PL.j3_3 ?_; rintro x y T hx hy rfl rfl)
    (revert ht; refine PL.j3_0 ?_; rintro elts n pos rfl)
    cases hv; cases hu
    (refine PL.x5_10 (zip_parts (N.sub (l' := zipL z TI TO i1 i2 p q xs ys (.lit (rawInt T)) (k + 1) ++ L) .tail)) ?_; rintro w a b vs us hw hz hti hto e1 e2 hl1 ha1 hl2 ha2 D)
    cases hw
    refine wpAny_letOwnedTupleGo_zip hz fun h' hz' hs' => ⟨(), _, trivial, ?_, h⟩
    have N' := N.upd (tk := s.toks) (a := z) (ao := .fields "zip" [.lit (rawInt T), .bool false, .bool false, .ref TI, .ref TO]) (ao' := .fields "zip" [.none, .bool false, .bool false, .ref TI, .ref TO]) (.tail .head) hs'.extBut (PL.m1_1 _ hz' (.cons rfl (.cons rfl (.cons rfl (.cons rfl (.one rfl))))))
    exact N'.perm (List.Perm.swap ..)
  stop L R X h v hv s N := by
    cases hv
    (refine PL.x5_10 (zip_parts N) ?_; rintro w a b vs us hw hz hti hto e1 e2 hl1 ha1 hl2 ha2 D)
    cases hw
    refine wpAny_pyNext_zip_end hh D hz hti hto e1 e2 hl1 hl2 (.inl (by rw [← Array.getElem?_toList]; exact ha1.none (by simp))) fun h' hk' => ⟨none, _, rfl, ?_, h⟩
    have N₁ : Rep G s ([zipF z TI TO .none, (TO, .tuple (zto xs ys xs.length)), (i1, .listiter p xs.length), (i2, .listiter q xs.length)] ++ ([(TI, .tuple [.ref i1, .ref i2]), (p, .list xs), (q, .list ys)] ++ L)) := N
    have nd := N₁.nodup
    rw [List.map_append, List.nodup_append] at nd
    refine ⟨fun c o e => ?_, (List.nodup_cons.mp nd.2.1).2, fun pp hpp => ?_, N.gens, N.os⟩
    · have ne : ∀ r ∈ [zipF z TI TO .none, (TO, .tuple (zto xs ys xs.length)), (i1, .listiter p xs.length), (i2, .listiter q xs.length)], c ≠ r.1 := fun r hr q => by
        have := (N₁.has r (List.mem_append_left _ hr)).1
        rw [← q, e] at this; cases this
      exact hk' c o (ne _ (.head _)) (ne _ (.tail _ (.head _))) (ne _ (.tail _ (.tail _ (.head _)))) (ne _ (.tail _ (.tail _ (.tail _ (.head _))))) (N.keep c o e)
    · have hm : pp ∈ [(TI, AO.tuple [.ref i1, .ref i2]), (p, .list xs), (q, .list ys)] ++ L := .tail _ hpp
      have hh := N₁.has pp (List.mem_append_right _ hm)
      have ne : ∀ r ∈ [zipF z TI TO .none, (TO, .tuple (zto xs ys xs.length)), (i1, .listiter p xs.length), (i2, .listiter q xs.length)], pp.1 ≠ r.1 := fun r hr e => nd.2.2 _ (List.mem_map.mpr (PL.m1_1 r hr rfl)) _ (List.mem_map.mpr (PL.m1_1 pp hm rfl)) e.symm
      exact ⟨hh.1, hh.2.keep fun o e => hk' _ o (ne _ (.head _)) (ne _ (.tail _ (.head _))) (ne _ (.tail _ (.tail _ (.head _)))) (ne _ (.tail _ (.tail _ (.tail _ (.head _))))) e⟩
  again L R X h v hv s N := by
    cases hv
    (refine PL.x5_2 (zip_parts N) ?_; rintro w a b vs us hw hz _)
    exact wpAny_pyIter_zip hz ⟨.ref z, _, rfl, N, h⟩
theorem CC.zip {p q : Addr} {xs ys : List AV} {R : AV → Led → Prop} (hp : Pick (p, .list xs) l l') {l'' : Led} (hq : Pick (q, .list ys) l' l'') (h : ∀ z TI TO i1 i2, R (.ref z) (zipL z TI TO i1 i2 p q xs ys .none 0 ++ l'')) : CC G A (.lit (.type "zip")) [.ref p, .ref q] l R X := fun g vs hg hvs s N => by
  cases hg
  (refine PL.x2_2 (get2 hvs) ?_; rintro v u rfl hv hu)
  cases hv; cases hu
  (refine PL.x1_1 (N.at hp) ?_; rintro ws hl1 ha1)
  have N' := N.sub (l' := (p, .list xs) :: l') (.perm hp.perm)
  (refine PL.x1_1 (N'.at (.tail hq)) ?_; rintro us hl2 ha2)
  refine call_zip_2 hl1.isList hl2.isList fun h' hz hti hto e1 e2 hsz hk => ?_
  refine ⟨.ref (s.heap.objs.size + 4), _, rfl, ?_, h _ (s.heap.objs.size + 2) (s.heap.objs.size + 3) s.heap.objs.size (s.heap.objs.size + 1)⟩
  have N₂ := (N'.sub (l' := (p, .list xs) :: (q, .list ys) :: l'') (.keep (.perm hq.perm))).more (h' := h') (tk := s.toks)
    [zipF (s.heap.objs.size + 4) (s.heap.objs.size + 2) (s.heap.objs.size + 3) .none, (s.heap.objs.size + 3, .tuple [.none, .none]), (s.heap.objs.size, .listiter p 0), (s.heap.objs.size + 1, .listiter q 0), (s.heap.objs.size + 2, .tuple [.ref s.heap.objs.size, .ref (s.heap.objs.size + 1)])] hk
    (by simp [zipF]) (fun pp hpp => by
      simp only [List.mem_cons, List.not_mem_nil, or_false] at hpp
      rcases hpp with rfl | rfl | rfl | rfl | rfl <;> exact Heap.get?_none_of_le (by simp [zipF])) (fun pp hpp => by
      simp only [List.mem_cons, List.not_mem_nil, or_false] at hpp
      rcases hpp with rfl | rfl | rfl | rfl | rfl
      · exact (PL.m1_1 _ hz (.cons rfl (.cons rfl (.cons rfl (.cons rfl (.one rfl))))))
      · exact (PL.m1_1 ([.none, .none]) hto (.cons rfl (.one rfl)))
      · exact e1
      · exact e2
      · exact (PL.m1_1 ([.ref _, .ref _]) hti (.cons rfl (.one rfl))))
  exact N₂
theorem iter_zip {z TI TO i1 i2 p q : Addr} {xs ys : List AV} {R : AV → Led → Prop} (h : R (.ref z) (zipL z TI TO i1 i2 p q xs ys .none 0 ++ l)) : Op1 G A pyIter (.ref z) (zipL z TI TO i1 i2 p q xs ys .none 0 ++ l) R X := fun v hv s N => by
  cases hv
  (refine PL.x5_2 (zip_parts N) ?_; rintro w a b vs us hw hz _)
  exact wpAny_pyIter_zip hz ⟨.ref z, _, rfl, N, h⟩
end
end PL
end
section
open PySem PySem.Calls PyProof.Rows PySem.W Builtin Builtin.ObjectAttr
set_option autoImplicit false
set_option linter.unusedVariables false
set_option maxRecDepth 100000
set_option maxHeartbeats 0
namespace PL
/-! own instances -/
noncomputable def Handed (a : AV) : Prop := ∀ v, a.Is v → handedIn v = true
theorem Handed.none : Handed .none := fun v h => by cases h; rfl
theorem Handed.int {i : Int} : Handed (.int i) := fun v ⟨_, h⟩ => by subst h; rfl
theorem Handed.str {i : Str} : Handed (.str i) := fun v ⟨_, h⟩ => by subst h; rfl
theorem Handed.ref {i : Addr} : Handed (.ref i) := fun v h => by cases h; rfl
noncomputable def putAV (k : Str) (a : AV) : List (Str × AV) → List (Str × AV)
  | [] => [(k, a)]
  | (k', b) :: r => if k' = k then (k', a) :: r else (k', b) :: putAV k a r
theorem isStr_key {e : DictEntry} {x k : Str} {t : Tok} (h : e.key = .str x t) : e.key.isStr k = decide (x = k) := by
  rw [h]; show (x == k) = _
  by_cases q : x = k <;> simp [q]
theorem getL_some {kvs : List (Str × AV)} {es : List DictEntry} (h : All2 DRel kvs es) {k : Str} {a : AV} (hl : kvs.lookup k = some a) : ∃ v, getL k es = some (some v) ∧ a.Is v := by
  have : ∃ e, es.find? (·.key.isStr k) = some e ∧ a.Is e.val := by
    induction h with
    | nil => cases hl
    | @cons p e ps es hpe _ ih =>
      obtain ⟨⟨t, hk⟩, hv⟩ := hpe
      obtain ⟨x, b⟩ := p
      rw [List.find?_cons, isStr_key hk]
      rw [List.lookup_cons] at hl
      cases hx : k == x with
      | true => rw [hx] at hl; cases hl; exact (PL.m1_1 e (by rw [beq_iff_eq] at hx; simp [hx]) hv)
      | false =>
        rw [hx] at hl
        have : x ≠ k := fun q => by subst q; simp at hx
        simp only [this, decide_false]
        exact ih hl
  (revert this; refine PL.j1_1 ?_; rintro e he hv)
  exact (PL.m1_1 e.val (by unfold getL; rw [he]) hv)
theorem getL_none {kvs : List (Str × AV)} {es : List DictEntry} (h : All2 DRel kvs es) {k : Str} (hl : kvs.lookup k = none) : getL k es = some none := by
  have : es.find? (·.key.isStr k) = none ∧ es.any (·.refKey) = false := by
    induction h with
    | nil => exact ⟨rfl, rfl⟩
    | @cons p e ps es hpe _ ih =>
      obtain ⟨⟨t, hk⟩, hv⟩ := hpe
      obtain ⟨x, b⟩ := p
      rw [List.find?_cons, isStr_key hk]
      rw [List.lookup_cons] at hl
      cases hx : k == x with
      | true => rw [hx] at hl; cases hl
      | false =>
        rw [hx] at hl
        have : x ≠ k := fun q => by subst q; simp at hx
        simp only [this, decide_false]
        refine ⟨(ih hl).1, ?_⟩
        rw [List.any_cons, (ih hl).2]
        unfold DictEntry.refKey; rw [hk]; rfl
  unfold getL
  rw [this.1]; simp [this.2]
theorem putL_rel {kvs : List (Str × AV)} {es : List DictEntry} (h : All2 DRel kvs es) {k : Str} {a : AV} {v : Value} {hs : Int} {t : Tok} (hv : a.Is v) : All2 DRel (putAV k a kvs) (putL k hs (.str k t) v es) := by
  induction h with
  | nil => exact .cons ⟨⟨t, rfl⟩, hv⟩ .nil
  | @cons p e ps es hpe hr ih =>
    obtain ⟨⟨t', hk⟩, hv'⟩ := hpe
    obtain ⟨x, b⟩ := p
    unfold putAV putL
    rw [isStr_key hk]
    by_cases q : x = k
    · simp only [q, if_true, decide_true]; exact .cons ⟨⟨t', by rw [hk, q]⟩, hv⟩ hr
    · simp only [q, if_false, decide_false, Bool.false_eq_true]; exact .cons ⟨⟨t', hk⟩, hv'⟩ ih
theorem noRef {kvs : List (Str × AV)} {es : List DictEntry} (h : All2 DRel kvs es) : es.any (·.refKey) = false := by
  induction h with
  | nil => rfl
  | cons hpe _ ih =>
    rw [List.any_cons, ih, Bool.or_false]
    obtain ⟨⟨t, hk⟩, _⟩ := hpe; unfold DictEntry.refKey; rw [hk]
theorem putAV_len (k : Str) (a : AV) : ∀ kvs : List (Str × AV), (putAV k a kvs).length ≤ kvs.length + 1
  | [] => Nat.le_refl _
  | (x, b) :: r => by
    unfold putAV
    split
    · simp
    · have := putAV_len k a r; simp; omega
theorem All2.len2 {α β : Type} {r : α → β → Prop} {as : List α} {bs : List β} (h : All2 r as bs) : bs.length = as.length := h.length.symm
section
variable {G : Gd} {A : Around} {env : Env} {l l' : Led} {X : Xp} {R : AV → Led → Prop} {K : Frag} {x C dx p : Addr} {kvs : List (Str × AV)} {name : Str}
theorem instAt {s : Shared} (N : Rep G s l) (h1 : (x, .inst C dx) ∈ l) (h2 : (dx, .idct kvs) ∈ l) : ∃ es n, InstAt s.heap x (instObj C dx) C (some (dictOf es n)) ∧ All2 DRel kvs es ∧ s.heap.get? dx = some (dictOf es n) := by
  (refine PL.x2_1 (N.atM h2) ?_; rintro es n he hr)
  exact (PL.m2_2 es n (⟨N.atM h1, rfl, rfl, he⟩) hr he)
theorem slotsAt {s : Shared} {vs : List (Option AV)} (N : Rep G s l) (h1 : (x, .slots C dx vs) ∈ l) (h2 : (dx, .idct kvs) ∈ l) : ∃ (vs' : List (Option Value)) (od : Obj), InstAt s.heap x ⟨.ref C, some dx, .plain, vs'.toArray⟩ C (some od) ∧ All2 ORel vs vs' := by
  (refine PL.x2_1 (N.atM h2) ?_; rintro es n he hr)
  (refine PL.x1_1 (N.atM h1) ?_; rintro vs' hx hv)
  exact (PL.m2_1 vs' _ (⟨hx, rfl, rfl, he⟩) hv)
theorem GAt.own {attr : Option Value} {a : AV} (hK : K.In G.t) (hg : plainGet K C name = true) (hh : hasDictIn K C = true) (ha : findIn K (.ref C) name = some attr) (hn : noGet K attr = true)
    (h1 : (x, .inst C dx) ∈ l) (h2 : (dx, .idct kvs) ∈ l) (hl : kvs.lookup name = some a) (hd : Handed a) (h : R a l) : GAt G A name (.ref x) l R X := fun v hv s N => by
  cases hv
  (refine PL.x2_2 (instAt N h1 h2) ?_; rintro es n I hr _)
  (refine PL.x1_1 (getL_some hr hl) ?_; rintro u hu hau)
  exact get_value (hK.keeps N.keep) I (plainGet_of hg).1 (findObj_own hh ha hn hu) (hd u hau) ⟨a, l, hau, N.toks _, h⟩
theorem GAt.slot {vs : List (Option AV)} {a : AV} {i : Nat} (hK : K.In G.t) (hg : plainGet K C name = true) (hc : isClsIn K C = true) (ha : findIn K (.ref C) name = some (some (.ref p)))
    (hn : specialIn K (.ref p) "__get__" = some (some (.builtin "member_descriptor.__get__"))) (ht : takesIn K (.ref p) = some true) (hp : slotIn K p C = some i)
    (h1 : (x, .slots C dx vs) ∈ l) (h2 : (dx, .idct kvs) ∈ l) (hl : vs[i]? = some (some a)) (hd : Handed a) (h : R a l) : GAt G A name (.ref x) l R X := fun v hv s N => by
  cases hv
  (refine PL.x2_1 (slotsAt N h1 h2) ?_; rintro vs' od I hr)
  (refine PL.x1_1 (hr.get hl) ?_; rintro b hb hab)
  (revert hab; refine PL.j1_1 ?_; rintro u rfl hau)
  have X' := hK.keeps N.keep
  refine get_bind X' I (plainGet_of hg).1 (findObj_data hc ha hn ht) (plainGet_of hg).2 (wpAny_call (slot_get (v := u) (s := { s with toks := s.toks + 1 }) X' I hp ?_ ?_))
  · show ((vs'.toArray)[i]?).join = some u
    rw [List.getElem?_toArray, hb]; rfl
  · exact handed_on (hd u hau) ⟨a, l, hau, N.toks _, h⟩
theorem GM.inst {f : Addr} {R : AV → List AV → Led → Prop} (hK : K.In G.t) (hg : plainGet K C name = true) (hf : findIn K (.ref C) name = some (some (.ref f))) (ht : typeIn K (.ref f) = some (.type "function"))
    (h1 : (x, .inst C dx) ∈ l) (h2 : (dx, .idct kvs) ∈ l) (hl : kvs.lookup name = none) (h : R (.ref f) [.ref x] l) : GM G A name (.ref x) l R X := fun v pl hv s N => by
  cases hv
  (refine PL.x2_2 (instAt N h1 h2) ?_; rintro es n I hr _)
  refine method_fn (hK.keeps N.keep) I (plainGet_of hg).1 (plainGet_of hg).2 hf ht ?_ ⟨(.ref f, [.ref x]), l, ⟨rfl, .one rfl⟩, N, h⟩
  show (lookIn name (dictOf es n)).map (·.isSome) = some false
  rw [lookIn_dict, getL_none hr hl]; rfl
/-- an attribute is stored -/
noncomputable def SAt (G : Gd) (A : Around) (name : Str) (o a : AV) (l : Led) (R : Led → Prop) (X : Xp) : Prop := ∀ v u, o.Is v → a.Is u → Tr G A (setAttr v name u) (fun (_ _ : Unit) => True) l (fun _ l' => R l') X
theorem SAt.own {a : AV} {R : Led → Prop} (hK : K.In G.t) (hs : findIn K (.ref C) "__setattr__" = some (some (.builtin "object.__setattr__"))) (hp : plainOver K C = true) (ht : takerIn K C name = some none) (hh : hasDictIn K C = true)
    (h1 : (x, .inst C dx) ∈ l) (h2 : Pick (dx, .idct kvs) l l') (hz : kvs.length ≤ 900) (h : R ((dx, .idct (putAV name a kvs)) :: l')) : SAt G A name (.ref x) a l R X := fun v u hv hu s N => by
  cases hv
  (refine PL.x2_2 (instAt N h1 h2.mem) ?_; rintro es n I hr hD)
  have X' := hK.keeps N.keep
  refine set_plain X' I hs (osa_open (s := { s with toks := s.toks + 1 }) X' I hp ht fun b => ?_)
  (refine PL.x1_1 (any_some hh) ?_; rintro cd hc hd)
  have hx : s.heap.get? x = some (instObj C dx) := I.at_
  refine wpAny_bind (wpAny_pure (wpAny_bind (wpAny_bind (wpAny_loadPart hx (wpAny_bind ((looks_clsIn X' hc).at ?_))))))
  rw [hd]
  refine wpAny_pure (a := some dx) (wpAny_bind (wpAny_pure (wpAny_bind ?_)))
  unfold nsSet
  refine wpAny_bind (wpAny_bind (wpAny_askSetting (wpAny_pure (wpAny_bind (wpAny_mkText (wpAny_bind (wpAny_loadPart hD ?_)))))))
  dsimp only
  have hany : es.toArray.any (·.refKey) = false := by rw [List.any_toArray]; exact noRef hr
  rw [aRefKeyMayBeTheName_at, hany, Bool.and_false]
  have hput := putName_dict name (PyData.keyHash G.w.params name) (.str name (s.toks + 1)) u es n
  have hnew := Heap.get?_update_self (Obj.putName name (PyData.keyHash G.w.params name) (.str name (s.toks + 1)) u) hD (by rw [hput]; rfl)
  refine wpAny_updatePart hD ?_
  refine wpAny_bind (wpAny_lookBehind hnew (by
    rw [hput]
    refine pastItsLine_dict ?_
    have e1 := All2.len2 (putL_rel hr (k := name) (hs := PyData.keyHash G.w.params name) (t := s.toks + 1) hu)
    have e2 := putAV_len name a kvs
    rw [List.size_toArray, e1, sizeLine_eq]; lia) ?_)
  refine wpAny_pure ⟨(), _, trivial, N.upd (tk := s.toks + 1 + 1) (ao' := .idct (putAV name a kvs)) h2 (Heap.SameBut.update ..).extBut (PL.m2_1 (putL name (PyData.keyHash G.w.params name) (.str name (s.toks + 1)) u es) (putN name es n) (hnew.trans (congrArg some hput)) (putL_rel hr hu)), h⟩
end
end PL
end
section
open PySem PySem.Calls PyProof.Rows PySem.W
set_option autoImplicit false
set_option linter.unusedVariables false
set_option maxRecDepth 100000
set_option maxHeartbeats 0
namespace PL
/-! stores into attributes -/
section
variable {G : Gd} {A : Around} {env : Env} {l l' : Led} {X : Xp} {names : List (Str × NameKind)} {L : Addr} {cl : List (Str × Addr)}
theorem SS.setattr {o value : Expr} {attr : Str} {p1 pos : Pos} {R : AF → Led → Prop} (h : EE G A env value l (fun a l₁ => EE G A env o l₁ (fun ov l₂ => SAt G A attr ov a l₂ (fun l₃ => R .next l₃) X) X) X)
    (hs : swapsWith value (some (.Attribute o attr p1)) pos.line env = pure false := by with_unfolding_all rfl) : SS G A env (.Assign [.Attribute o attr p1] value pos) l R X :=
  fun s N => plainObj_wpAny_Assign_Attribute (wpAny_mono (h s N) (fun v s₁ ⟨a, l₁, ha, N₁, h₁⟩ => wpAny_mono (h₁ s₁ N₁) (fun u s₂ ⟨b, l₂, hb, N₂, h₂⟩ => wpAny_mono (h₂ u v hb ha s₂ N₂)
    (fun _ s₃ ⟨_, l₃, _, N₃, h₃⟩ => ⟨.next, l₃, rfl, N₃, h₃⟩) fun _ _ y => y) fun _ _ y => y) fun _ _ y => y) hs
theorem SS.augattr {o value : Expr} {attr : Str} {p1 pos : Pos} {op : Operator} {R : AF → Led → Prop}
    (h : EE G A env o l (fun ov l₁ => GAt G A attr ov l₁ (fun old l₂ => EE G A env value l₂ (fun a l₃ => Op2 G A (inplaceOp op) old a l₃ (fun new l₄ => SAt G A attr ov new l₄ (fun l₅ => R .next l₅) X) X) X) X) X) : SS G A env (.AugAssign (.Attribute o attr p1) op value pos) l R X :=
  fun s N => wpAny_AugAssign_AttributeAny (wpAny_mono (h s N) (fun v s₁ ⟨a, l₁, ha, N₁, h₁⟩ => wpAny_mono (h₁ v ha s₁ N₁) (fun u s₂ ⟨b, l₂, hb, N₂, h₂⟩ => wpAny_mono (h₂ s₂ N₂) (fun w s₃ ⟨c, l₃, hc, N₃, h₃⟩ =>
    wpAny_mono (h₃ u w hb hc s₃ N₃) (fun x s₄ ⟨d, l₄, hd, N₄, h₄⟩ => wpAny_mono (h₄ v x ha hd s₄ N₄) (fun _ s₅ ⟨_, l₅, _, N₅, h₅⟩ => ⟨.next, l₅, rfl, N₅, h₅⟩) fun _ _ y => y) fun _ _ y => y) fun _ _ y => y) fun _ _ y => y) fun _ _ y => y)
theorem Op2.isub {a b : Int} {R : AV → Led → Prop} (h : R (.int (a - b)) l) : Op2 G A (inplaceOp .Sub) (.int a) (.int b) l R X := fun _ _ ⟨_, e⟩ ⟨_, e'⟩ s N => by subst e e'; exact PyProof.Rows.isub_int ⟨.int _, l, ⟨_, rfl⟩, N.toks _, h⟩
/-- two targets -/
theorem Asg.sub {o i : Expr} {pos : Pos} {a : AV} {R : Led → Prop} (h : EE G A env o l (fun ov l₁ => EE G A env i l₁ (fun iv l₂ => SetI G A ov iv a l₂ R X) X) X) : Asg G A env (.Subscript o i pos) a l R X := fun v hv s N => by
  rw [arm_assign_Subscript]
  refine wpAny_bind (wpAny_holding (wpAny_mono (h s N) (fun u s₁ ⟨a', l₁, ha, N₁, h₁⟩ => ?_) fun _ _ y => y))
  refine wpAny_bind (wpAny_holding (wpAny_mono (h₁ s₁ N₁) (fun w s₂ ⟨b, l₂, hb, N₂, h₂⟩ => ?_) fun _ _ y => y))
  refine wpAny_bind (wpAny_standAt (wpAny_bind (wpAny_holding (wpAny_mono (h₂ u w v ha hb hv s₂ N₂) (fun _ s₃ h₃ => ?_) fun _ _ y => y))))
  exact wpAny_release h₃
theorem SS.assign2 {t1 t2 value : Expr} {pos : Pos} {R : AF → Led → Prop} (h : EE G A env value l (fun a l₁ => Asg G A env t1 a l₁ (fun l₂ => Asg G A env t2 a l₂ (fun l₃ => R .next l₃) X) X) X)
    (he : (assignEach [t1, t2] env).map (·.2) = [PySem.assign t1 env, PySem.assign t2 env] := by with_unfolding_all rfl) (hw : swappedStores [t1, t2] value env = pure Option.none := by with_unfolding_all rfl) : SS G A env (.Assign [t1, t2] value pos) l R X :=
  fun s N => wpAny_Assign_two (wpAny_mono (h s N) (fun v s₁ ⟨a, l₁, ha, N₁, h₁⟩ => wpAny_mono (h₁ v ha s₁ N₁) (fun _ s₂ ⟨_, l₂, _, N₂, h₂⟩ => wpAny_mono (h₂ v ha s₂ N₂) (fun _ s₃ ⟨_, l₃, _, N₃, h₃⟩ => ⟨.next, l₃, rfl, N₃, h₃⟩) fun _ _ y => y) fun _ _ y => y) fun _ _ y => y) he hw
end
/-! dicts -/
theorem valueAt_strs {kvs : List (Str × AV)} {kvs' : List (Str × Value)} (h : All2 KRel kvs kvs') (k : Str) : (valueAt kvs' k).isSome = (kvs.map (·.1)).contains k := by
  induction h with
  | nil => rfl
  | @cons p q ps qs hpq _ ih =>
    rw [List.map_cons, List.contains_cons, ← ih]
    unfold valueAt
    rw [List.find?_cons, hpq.1]
    by_cases e : q.1 = k
    · simp [e]
    · have : (k == q.1) = false := beq_eq_false_iff_ne.mpr fun x => e x.symm
      simp [e, this]
noncomputable def storedAV (kvs : List (Str × AV)) (k : Str) (a : AV) : List (Str × AV) := if k ∈ kvs.map (·.1) then kvs.map (fun kv => if kv.1 = k then (kv.1, a) else kv) else kvs ++ [(k, a)]
theorem stored_rel {kvs : List (Str × AV)} {kvs' : List (Str × Value)} (h : All2 KRel kvs kvs') {k : Str} {a : AV} {v : Value} (hv : a.Is v) : All2 KRel (storedAV kvs k a) (stored kvs' k v) := by
  have e : (kvs'.any fun kv => decide (kv.1 = k)) = decide (k ∈ kvs.map (·.1)) := by
    rw [keys_of h]
    by_cases q : k ∈ kvs'.map (·.1)
    · rw [decide_eq_true q]
      (refine PL.x1_1 (List.mem_map.mp q) ?_; rintro kv h1 h2)
      exact List.any_eq_true.mpr (PL.m1_1 kv h1 (by simpa using h2))
    · rw [decide_eq_false q, List.any_eq_false]
      intro kv hkv hk
      exact q (List.mem_map.mpr (PL.m1_1 kv hkv (by simpa using hk)))
  unfold storedAV stored
  rw [e]
  by_cases q : k ∈ kvs.map (·.1)
  · rw [if_pos q, if_pos (decide_eq_true q)]
    clear e q
    induction h with
    | nil => exact .nil
    | @cons p q ps qs hpq _ ih =>
      refine .cons ?_ ih
      dsimp only
      rw [hpq.1]
      by_cases e : q.1 = k
      · rw [if_pos e, if_pos e]; exact ⟨rfl, hv⟩
      · rw [if_neg e, if_neg e]; exact hpq
  · rw [if_neg q, if_neg (by simpa using q)]
    exact h.append (.one ⟨rfl, hv⟩)
theorem without_rel {kvs : List (Str × AV)} {kvs' : List (Str × Value)} (h : All2 KRel kvs kvs') (k : Str) : All2 KRel (kvs.filter fun kv => decide (kv.1 ≠ k)) (without kvs' k) := by
  unfold without
  induction h with
  | nil => exact .nil
  | @cons p q ps qs hpq _ ih =>
    rw [List.filter_cons, List.filter_cons, hpq.1]
    by_cases e : q.1 = k
    · rw [if_neg (by simpa using e), if_neg (by simpa using e)]; exact ih
    · rw [if_pos (by simpa using e), if_pos (by simpa using e)]; exact .cons hpq ih
theorem strIs {G : Gd} (k : Str) (t : Tok) : (PySem.strKind G.prog G.w).is k (.str k t) = true := by show Value.isStrOf k (.str k t) = true; simp [Value.isStrOf]
section
variable {G : Gd} {A : Around} {env : Env} {l l' : Led} {X : Xp} {R : AV → Led → Prop} {d : Addr} {kvs : List (Str × AV)} {ep : Nat} {k : Str}
theorem Op2.indict (hp : Pick (d, .sdict kvs ep) l l') (h : R (.bool ((kvs.map (·.1)).contains k)) l) : Op2 G A (compareOp .In) (.str k) (.ref d) l R X := fun v u ⟨t, hv⟩ hu s N => by
  subst hv; cases hu
  obtain ⟨hd, kvs', hm, hr⟩ := N.at hp
  exact wpAny_in_of (knd := PySem.strKind G.prog G.w) (k := k) (strIs k t) hd hm.dictOf.mapOf ⟨.bool _, l, rfl, N.toks _, by rw [valueAt_strs hr]; exact h⟩
theorem CC.dget {a : AV} (hp : Pick (d, .sdict kvs ep) l l') (hm : (k, a) ∈ kvs) (h : R a l) : CC G A (.lit (.builtin "dict.get")) [.ref d, .str k] l R X := fun f vs hf hvs s N => by
  cases hf
  obtain ⟨v, u, rfl, hv, t, rfl⟩ := get2 hvs
  cases hv
  obtain ⟨hd, kvs', hD, hr⟩ := N.at hp
  (refine PL.x1_1 (valueAt_of hr (by rw [keys_of hr]; exact hD.nodup) hm) ?_; rintro w hw haw)
  exact call_meetsIn F.slot_dict_get hD.dictOf.typeIs F.entry_dict_get (F.args_dict_get_2 _ _) (meets_dict_get (PySem.strKind G.prog G.w) d (strIs k t) hd) ⟨_, hD.dictOf.mapOf, a, l, by rw [hw]; exact haw, N.toks _, h⟩
theorem CC.dget0 (hp : Pick (d, .sdict kvs ep) l l') (hm : k ∉ kvs.map (·.1)) (h : R .none l) : CC G A (.lit (.builtin "dict.get")) [.ref d, .str k] l R X := fun f vs hf hvs s N => by
  cases hf
  obtain ⟨v, u, rfl, hv, t, rfl⟩ := get2 hvs
  cases hv
  obtain ⟨hd, kvs', hD, hr⟩ := N.at hp
  have hw := valueAt_none hr hm
  exact call_meetsIn F.slot_dict_get hD.dictOf.typeIs F.entry_dict_get (F.args_dict_get_2 _ _) (meets_dict_get (PySem.strKind G.prog G.w) d (strIs k t) hd) ⟨_, hD.dictOf.mapOf, .none, l, by rw [hw]; rfl, N.toks _, h⟩
theorem SetI.sdict {a : AV} {R : Led → Prop} (hp : Pick (d, .sdict kvs ep) l l') (hz : kvs.length ≤ 1000000) (h : ∀ ep', R ((d, .sdict (storedAV kvs k a) ep') :: l')) : SetI G A (.ref d) (.str k) a l R X := fun v u x hv ⟨t, hu⟩ hx s N => by
  cases hv; subst hu
  obtain ⟨hd, kvs', hD, hr⟩ := N.at hp
  have hlen : kvs'.length = kvs.length := hr.length.symm
  exact wpAny_setItem_pairs (knd := PySem.strKind G.prog G.w) (k := k) (hsz := by rw [hlen]; exact Nat.le_trans hz (by decide)) (strIs k t) hD.dictOf fun h' hD' hs' => by
    obtain ⟨ep', hD'⟩ := hD'.dictAt
    exact ⟨(), _, trivial, N.upd (tk := s.toks + 1) (ao' := .sdict (storedAV kvs k a) ep') hp hs'.extBut ⟨hd, _, hD', stored_rel hr hx⟩, h ep'⟩
theorem EE.dict0 {pos : Pos} {gt : List (Str × AV)} (hg : GlobOk G gt) (h : ∀ p ep, R (.ref p) ((p, .sdict [] ep) :: l)) : EE G A env (.Dict [] [] pos) l R X := fun s N => by
  (revert hg; refine PL.j2_2 ?_; rintro mg mb n1 n2 _)
  have hz : mainGlobals < s.heap.objs.size := (n1.keeps N.keep).lt
  have hne : (s.heap.objs.size == sysModules) = false := beq_eq_false_iff_ne.mpr fun e => by
    rw [e] at hz; exact absurd hz (by decide)
  refine wpAny_Dict_empty ⟨.ref s.heap.objs.size, _, rfl, N.push (ao := .sdict [] 0) rfl ⟨hne, [], ?_, .nil⟩, h _ _⟩
  exact (PL.m2_5 _ (#[]) (Heap.get?_push_size _ rfl) ((PL.m0_2 rfl rfl rfl)) rfl (fun _ he => by simp at he) Pairs.nil List.nodup_nil)
/-- an item of a dict goes -/
theorem SS.del1 {o i : Expr} {p1 pos : Pos} {R : AF → Led → Prop} (h : EE G A env o l (fun ov l₁ => EE G A env i l₁ (fun iv l₂ => ∃ d kvs ep k l₃, ov = .ref d ∧ iv = .str k ∧ Pick (d, .sdict kvs ep) l₂ l₃ ∧ kvs.length ≤ 1000000 ∧ k ∈ kvs.map (·.1) ∧
      ∀ ep', R .next ((d, .sdict (kvs.filter fun kv => decide (kv.1 ≠ k)) ep') :: l₃)) X) X) : SS G A env (.Delete [.Subscript o i p1] pos) l R X := fun s N => by
  refine wpAny_Delete (wpAny_deleteEach_cons ?_)
  rw [arm_delete_Subscript]
  refine wpAny_bind (wpAny_mono (h s N) (fun v s₁ ⟨a, l₁, ha, N₁, h₁⟩ => ?_) fun _ _ y => y)
  refine wpAny_bind (wpAny_holding (wpAny_mono (h₁ s₁ N₁) (fun u s₂ hq1 => ?_) fun _ _ y => y))
  obtain ⟨b, l₂, hb, N₂, d, kvs, ep, k, l₃, ea, eb, hp, hz, hk, hR⟩ := hq1
  subst ea eb
  cases ha
  obtain ⟨t, rfl⟩ := hb
  obtain ⟨hd, kvs', hD, hr⟩ := N₂.at hp
  have hlen : kvs'.length = kvs.length := hr.length.symm
  have fin : wpAny (model G.prog G.w) A (delItem (.ref d) (.str k t)) (fun _ s' => wpAny (model G.prog G.w) A (deleteEach [] env) (fun _ s₁ => Po G AF.Is R .next s₁) (Px G X) s') (Px G X) s₂ := by
    refine wpAny_delItem_slot hD.dictOf.typeIs (by decide) F.slot_dict_delitem (call_meetsIn F.slot_dict_delitem hD.dictOf.typeIs F.entry_dict_delitem (F.args_dict_delitem_2 _ _) (meets_dict_delitem_pairs (PySem.strKind G.prog G.w) d (strIs k t)) (PL.m1_3 kvs' hD.dictOf (by rw [hlen]; exact Nat.le_trans hz (by decide)) ?_ (fun h' hD' hs' => ?_)))
    · rw [valueAt_strs hr]; simpa using hk
    · obtain ⟨ep', hD'⟩ := hD'.dictAt
      exact wpAny_deleteEach_nil ⟨.next, _, rfl, N₂.upd (tk := s₂.toks + 1) (ao' := .sdict (kvs.filter fun kv => decide (kv.1 ≠ k)) ep') hp hs'.extBut ⟨hd, _, hD', without_rel hr k⟩, hR ep'⟩
  exact wpAny_bind (wpAny_standAt (wpAny_bind (wpAny_holding (wpAny_mono fin (fun _ s₃ h₃ => wpAny_release h₃) fun _ _ y => y))))
theorem CC.values (hp : Pick (d, .sdict kvs ep) l l') (h : ∀ v, R (.ref v) ((v, .fields "dict_values" [.ref d]) :: l)) : CC G A (.lit (.builtin "dict.values")) [.ref d] l R X := fun f vs hf hvs s N => by
  cases hf
  (refine PL.x1_1 (get1 hvs) ?_; rintro v rfl hv)
  cases hv
  obtain ⟨hd, kvs', hD, hr⟩ := N.at hp
  exact call_meetsIn F.slot_dict_values hD.dictOf.typeIs F.entry_dict_values (F.args_dict_values_1 _) (meets_dict_values (PySem.strKind G.prog G.w) d hd) ⟨⟨_, hD.dictOf⟩, .ref s.heap.objs.size, _, rfl, N.push (ao := .fields "dict_values" [.ref d]) rfl (PL.m1_1 ([.ref d]) (Heap.get?_push_size _ rfl) (.one rfl)), h _⟩
theorem getKR {kvs : List (Str × AV)} {kvs' : List (Str × Value)} (h : All2 KRel kvs kvs') {i : Nat} {k : Str} {a : AV} (hx : kvs[i]? = some (k, a)) : ∃ v, kvs'[i]? = some (k, v) ∧ a.Is v := by
  (refine PL.x1_2 (h.get hx) ?_; rintro ⟨k', v⟩ h1 h2 h3)
  cases h2
  exact (PL.m1_1 v h1 h3)
theorem walk_keys {it : Addr} (hh : A.handled = none) : Walk G A (.ref it) kvs.length (fun k => [(it, .keyiter d k kvs.length ep), (d, .sdict kvs ep)]) (fun k _ => [(it, .keyiter d k kvs.length ep), (d, .sdict kvs ep)]) [(d, .sdict kvs ep)] (fun i a E => ∃ k b, kvs[i]? = some (k, b) ∧ a = .str k ∧ E = []) IsName where
  next i L R X hk h v hv s N := by
    cases hv
    have hit : s.heap.IsKeyIter it d i kvs.length ep := N.at (ao := .keyiter d i kvs.length ep) .head
    obtain ⟨hd, kvs', hD, hr⟩ := N.at (ao := .sdict kvs ep) (.tail .head)
    obtain ⟨k, b, hb⟩ : ∃ k b, kvs[i]? = some (k, b) := (PL.m2_0 (kvs[i].1) (kvs[i].2) (List.getElem?_eq_getElem hk))
    (refine PL.x1_1 (getKR hr hb) ?_; rintro u hu _)
    rw [hr.length] at hit
    exact wpAny_pyNext_dict_item hit hD hu fun key h' hkey hit' hs' => ⟨some (.str k), _, (PL.m1_1 key rfl (by
      cases key <;> simp [PySem.strKind, Value.isStrOf] at hkey
      exact ⟨_, by rw [hkey]⟩)), N.upd (tk := s.toks) (ao' := .keyiter d (i + 1) kvs.length ep) .head hs'.extBut (by rw [hr.length]; exact hit'), h (.str k) [] (PL.m2_2 k b hb rfl rfl)⟩
  go k L a E target R X ht hp h v u hv hu s N := by
    (revert hp; refine PL.j2_2 ?_; rintro _ _ _ _ rfl)
    cases target with
    | Name => exact wpAny_pure ⟨(), _, trivial, N, h⟩
    | _ => cases ht
  stop L R X h v hv s N := by
    cases hv
    have hit : s.heap.IsKeyIter it d kvs.length kvs.length ep := N.at (ao := .keyiter d kvs.length kvs.length ep) .head
    obtain ⟨hd, kvs', hD, hr⟩ := N.at (ao := .sdict kvs ep) (.tail .head)
    rw [hr.length] at hit
    exact wpAny_pyNext_dict_end hh hit hD (by simp) fun h' hs' => ⟨none, _, rfl, N.drop (tk := s.toks) hs', h⟩
  again L R X h v hv s N := by
    cases hv
    have hit : s.heap.IsKeyIter it d 0 kvs.length ep := N.at (ao := .keyiter d 0 kvs.length ep) .head
    exact wpAny_pyIter_keyiter hit ⟨.ref it, _, rfl, N, h⟩
theorem iter_dict {R : AV → Led → Prop} (hp : Pick (d, .sdict kvs ep) l l') (h : ∀ it, R (.ref it) ([(it, .keyiter d 0 kvs.length ep), (d, .sdict kvs ep)] ++ l')) : Op1 G A pyIter (.ref d) l R X := fun v hv s N => by
  cases hv
  obtain ⟨hd, kvs', hD, hr⟩ := N.at hp
  refine wpAny_pyIter_dict hd hD ⟨.ref s.heap.objs.size, _, rfl, (N.push (ao := .keyiter d 0 kvs.length ep) rfl (PL.m1_2 _ (Heap.get?_push_size _ rfl) rfl ?_)).sub (.keep (.perm hp.perm)), h _⟩
  rw [hr.length]; rfl
theorem walk_vals {it : Addr} (hh : A.handled = none) : Walk G A (.ref it) kvs.length (fun k => [(it, .valiter d k kvs.length ep), (d, .sdict kvs ep)]) (fun k _ => [(it, .valiter d k kvs.length ep), (d, .sdict kvs ep)]) [(d, .sdict kvs ep)] (fun i a E => ∃ k, kvs[i]? = some (k, a) ∧ E = []) IsName where
  next i L R X hk h v hv s N := by
    cases hv
    have hit : s.heap.IsValIter it d i kvs.length ep := N.at (ao := .valiter d i kvs.length ep) .head
    obtain ⟨hd, kvs', hD, hr⟩ := N.at (ao := .sdict kvs ep) (.tail .head)
    obtain ⟨k, b, hb⟩ : ∃ k b, kvs[i]? = some (k, b) := (PL.m2_0 (kvs[i].1) (kvs[i].2) (List.getElem?_eq_getElem hk))
    (refine PL.x1_1 (getKR hr hb) ?_; rintro u hu hbu)
    rw [hr.length] at hit
    exact wpAny_pyNext_values_item hit hD hu fun h' hit' hs' => ⟨some b, _, (PL.m1_1 u rfl hbu), N.upd (tk := s.toks) (ao' := .valiter d (i + 1) kvs.length ep) .head hs'.extBut (by rw [hr.length]; exact hit'), h b [] (PL.m1_1 k hb rfl)⟩
  go k L a E target R X ht hp h v u hv hu s N := by
    (revert hp; refine PL.j1_1 ?_; rintro _ _ rfl)
    cases target with
    | Name => exact wpAny_pure ⟨(), _, trivial, N, h⟩
    | _ => cases ht
  stop L R X h v hv s N := by
    cases hv
    have hit : s.heap.IsValIter it d kvs.length kvs.length ep := N.at (ao := .valiter d kvs.length kvs.length ep) .head
    obtain ⟨hd, kvs', hD, hr⟩ := N.at (ao := .sdict kvs ep) (.tail .head)
    rw [hr.length] at hit
    exact wpAny_pyNext_values_end hh hit hD (by simp) fun h' hs' => ⟨none, _, rfl, N.drop (tk := s.toks) hs', h⟩
  again L R X h v hv s N := by
    cases hv
    have hit : s.heap.IsValIter it d 0 kvs.length ep := N.at (ao := .valiter d 0 kvs.length ep) .head
    exact wpAny_pyIter_valiter hit ⟨.ref it, _, rfl, N, h⟩
theorem iter_values {v : Addr} {R : AV → Led → Prop} (hv : Pick (v, .fields "dict_values" [.ref d]) l l') {l'' : Led} (hp : Pick (d, .sdict kvs ep) l' l'') (h : ∀ it, R (.ref it) ([(it, .valiter d 0 kvs.length ep), (d, .sdict kvs ep)] ++ l'')) : Op1 G A pyIter (.ref v) l R X := fun w hw s N => by
  cases hw
  (refine PL.x1_1 (N.at hv) ?_; rintro vs ho hvs)
  (refine PL.x1_1 (get1 hvs) ?_; rintro u rfl hu)
  cases hu
  have N' := N.sub (l' := l') (.trans .tail (.perm hv.perm))
  obtain ⟨hd, kvs', hD, hr⟩ := N'.at hp
  refine wpAny_pyIter_values (PL.m1_2 _ ho rfl rfl) hD ⟨.ref s.heap.objs.size, _, rfl, (N'.push (ao := .valiter d 0 kvs.length ep) rfl (PL.m1_2 _ (Heap.get?_push_size _ rfl) rfl ?_)).sub (.keep (.perm hp.perm)), h _⟩
  rw [hr.length]; rfl
end
end PL
end
section
open PySem PySem.Calls PyProof.Rows PySem.W Builtin Builtin.ObjectAttr Builtin.Getset_descriptor
set_option autoImplicit false
set_option linter.unusedVariables false
set_option maxRecDepth 100000
set_option maxHeartbeats 0
namespace PL
section
variable {G : Gd} {A : Around} {env : Env} {l l' : Led} {X : Xp} {R : AV → Led → Prop} {K : Frag} {x C dx p : Addr} {kvs : List (Str × AV)} {name : Str}
/-! a slot is stored -/
theorem slots_store {vs : List (Option AV)} {vs' : List (Option Value)} {a : AV} {u : Value} {i : Nat} (hr : All2 ORel vs vs') (hi : i < vs.length) (hu : a.Is u) :
    ∃ ws : List (Option Value), ((vs'.toArray ++ Array.replicate (i + 1 - vs'.toArray.size) Option.none).setIfInBounds i (some u)) = ws.toArray ∧ All2 ORel (vs.set i (some a)) ws := by
  have hlen := hr.length
  refine (PL.m1_1 (vs'.set i (some u)) ?_ (hr.set (show ORel (some a) (some u) from (PL.m1_1 u rfl hu)) i))
  have : i + 1 - vs'.toArray.size = 0 := by simp; lia
  rw [this]
  simp
theorem slots_store_new {vs : List (Option AV)} {vs' : List (Option Value)} {a : AV} {u : Value} {i : Nat} (hr : All2 ORel vs vs') (hi : i = vs.length) (hu : a.Is u) :
    ∃ ws : List (Option Value), ((vs'.toArray ++ Array.replicate (i + 1 - vs'.toArray.size) Option.none).setIfInBounds i (some u)) = ws.toArray ∧ All2 ORel (vs ++ [some a]) ws := by
  have hlen := hr.length
  subst hi
  refine (PL.m1_1 (vs' ++ [some u]) ?_ (hr.append (.one (show ORel (some a) (some u) from (PL.m1_1 u rfl hu)))))
  have : vs.length + 1 - vs'.toArray.size = 1 := by simp; lia
  rw [this, hlen]
  simp
theorem SAt.slot {vs vs2 : List (Option AV)} {a : AV} {i : Nat} {R : Led → Prop} (hK : K.In G.t) (hs : findIn K (.ref C) "__setattr__" = some (some (.builtin "object.__setattr__"))) (hp : plainOver K C = true) (ht : takerIn K C name = some (some (.ref p)))
    (hT : typeIn K (.ref p) = some (.type "member_descriptor")) (hi : slotIn K p C = some i) (hz : i < 1000)
    (h1 : Pick (x, .slots C dx vs) l l') (h2 : (dx, .idct kvs) ∈ l) (hv : (i < vs.length ∧ vs2 = vs.set i (some a)) ∨ (i = vs.length ∧ vs2 = vs ++ [some a])) (h : R ((x, .slots C dx vs2) :: l')) : SAt G A name (.ref x) a l R X := fun v u hv' hu s N => by
  cases hv'
  obtain ⟨vs', od, I, hr⟩ := slotsAt N h1.mem h2
  have X' := hK.keeps N.keep
  obtain ⟨ws, hws, hrel⟩ : ∃ ws : List (Option Value), ((vs'.toArray ++ Array.replicate (i + 1 - vs'.toArray.size) Option.none).setIfInBounds i (some u)) = ws.toArray ∧ All2 ORel vs2 ws := by
    rcases hv with ⟨h1, rfl⟩ | ⟨h1, rfl⟩
    · exact slots_store hr h1 hu
    · exact slots_store_new hr h1 hu
  refine set_plain X' I hs (osa_descr (s := { s with toks := s.toks + 1 }) KF.slot_mset X' I hp ht hT ?_)
  obtain ⟨n, tn, owner, behind, tb, d, sl, cd, ho, hc, hm, hb, rfl⟩ := slot_of X' hi
  have fin : Rep G { s with heap := s.heap.update x fun o => { o with slots := (o.slots ++ Array.replicate (cd.slotNames.length - 1 - behind.toNat + 1 - o.slots.size) Option.none).setIfInBounds (cd.slotNames.length - 1 - behind.toNat) (some u) }, toks := s.toks + 1 } ((x, .slots C dx vs2) :: l') := by
    refine N.upd (tk := s.toks + 1) (ao' := .slots C dx vs2) h1 (Heap.SameBut.update ..).extBut (PL.m1_1 ws ?_ hrel)
    refine (Heap.get?_update_self _ I.at_ rfl).trans ?_
    dsimp only
    rw [hws]
  obtain ⟨hh, g, dr, t, os⟩ := s
  have L0 := I.type (M := model G.prog G.w)
  have L1 := looks_mroIn (M := model G.prog G.w) X' hm
  have L2 : Looks (model G.prog G.w) hh (Slots.slotNamesOf (.ref C)) cd.slotNames := (looks_clsIn X' hc).andThen .now
  have hx := I.at_
  dsimp only at ho hx L0 L1
  have f0 := looks_field (M := model G.prog G.w) ho 0 (v := .str n tn) rfl
  have f1 := looks_field (M := model G.prog G.w) ho 1 (v := owner) rfl
  have f3 := looks_field (M := model G.prog G.w) ho 3 (v := .builtin "proto.slot#set") rfl
  have f4 := looks_field (M := model G.prog G.w) ho 4 (v := .int behind tb) rfl
  refine codeAny_call_builtin KF.slot_mset.plain KF.entry_mset (KF.slot_mset.check _ _ _ _ _ _ _ _ (PL.m1_1 _ ho rfl) (KF.args_mset _ _ _) ?_)
  unfold Builtin.«member_descriptor.__set__» descrSet descrStoreThrough descrCheckInstance descrNameAndClass isInstance
  have f5 : Looks (model G.prog G.w) hh (descrItself (.ref p)) [.ref p] := ((Looks.ld (part := Option.none) ho).andThen .now).andThen (Looks.of_pure (by kernel_rfl))
  repeat lk
  refine ⟨Code.quiet_builtin _ (by decide +kernel), codeAny_builtin KF.entry_slotset ?_⟩
  unfold Builtin.«proto.slot#set» Slots.target
  repeat lk
  rw [if_neg hb]
  refine wpAny_pure (wpAny_bind ?_)
  unfold setSlotAt
  dsimp only
  rw [if_neg (by rw [sizeLine_eq]; lia)]
  exact wpAny_updatePart hx (wpAny_pure ⟨(), _, trivial, fin, h⟩)
/-! a class is called -/
theorem AOle.slots0 : AOle (.slots C dx []) (.inst C dx) := fun _ _ _ h => (PL.m1_1 ([]) h (.nil))
theorem Room.make {n : Nat} {C : Addr} {vals : List Value} (r : Room A (n + 1)) : Room (A.under (.builtin "type.__call__" ⟨.ref C :: vals, []⟩)) n := ⟨r.h, by have := r.d; show A.depth + 1 + n < _; lia, by
  have := r.u
  rw [units_under_make]; lia⟩
theorem CC.make {fI : Addr} {args : List AV} {n : Nat} (hK : K.In G.t) (hr : Room A (n + 1)) (hm : makesIn K C = true) (hi : findIn K (.ref C) "__init__" = some (some (.ref fI))) (hf : typeIn K (.ref fI) = some (.type "function"))
    (h : ∀ x dx A', Room A' n → CK G A' (.ref fI) (.ref x :: args) ((x, .inst C dx) :: (dx, .idct []) :: l) (fun r l' => r = .none ∧ R (.ref x) l') X) : CC G A (.ref C) args l R X := fun v vs hv hvs s N => by
  cases hv
  have X' := hK.keeps N.keep
  have N₁ := N.push (o := emptyDict) (ao := .idct []) rfl (PL.m2_1 ([]) 0 (Heap.get?_push_size _ rfl) (.nil))
  have N₂ := N₁.push (o := instObj C s.heap.objs.size) (ao := .inst C s.heap.objs.size) rfl (Heap.get?_push_size _ rfl)
  have e : (s.heap.push emptyDict).objs.size = s.heap.objs.size + 1 := Heap.size_push ..
  rw [e] at N₂
  obtain ⟨hh, g, d, t, os⟩ := s
  refine wpAny_call (make_core (makes_of X' hm) (looks_findIn X' hi) (fun self => bind_fn X' self hf) (.inl rfl) ?_)
  refine codeAny_mono (h _ _ _ hr.make (.ref fI) (.ref _ :: vs) rfl (.cons rfl hvs) _ N₂) fun r s' z => ?_
  rcases r with e | (v | _ | _ | _)
  · exact z
  · exact z.elim
  · exact z.elim
  · exact z.elim
  · obtain ⟨b, l', hb, N', rfl, hR⟩ := z
    exact ⟨hb, .ref (hh.objs.size + 1), l', rfl, N', hR⟩
/-! a call of a method, the last argument starred: a list -/
/-! a def with a starred parameter; a def whose last parameter has a default -/
theorem BRel.zip {xs : List Str} {args : List AV} : ∀ {vs : List Value}, AllIs args vs → BRel (xs.zip args) (xs.zip vs) := by
  induction xs generalizing args with
  | nil => intro vs _; simp; exact .nil
  | cons x xs ih =>
    intro vs h
    cases args with
    | nil => cases h; simp; exact .nil
    | cons a as =>
      (refine PL.x2_2 (h.consL) ?_; rintro v us rfl ha hu)
      exact .cons ⟨rfl, ha⟩ (ih hu)
theorem zip_left {α β : Type} : ∀ (xs : List α) (as bs : List β), xs.length = as.length → xs.zip (as ++ bs) = xs.zip as
  | [], _, _, _ => by simp
  | x :: xs, [], _, h => by simp at h
  | x :: xs, a :: as, bs, h => by
    rw [List.cons_append, List.zip_cons_cons, List.zip_cons_cons, zip_left xs as bs (by simpa using h)]
theorem CC.defV {f : Addr} {fd : FuncData} {body : List Stmt} {names : List (Str × NameKind)} {as rest : List AV} {bs : List Bind} {n : Nat} (hF : FnOk G f fd body names) (hroom : Room A (n + 1)) (xs : List Str) (va : Arg) {vals : Addr → List (Option AV)}
    (hl : Zip xs as bs) (hb : PlainBind fd xs (some va.arg)) (hva : fd.params.vararg = some va) (hrest : rest.length < 1000000) (hck : cellKeys names [] = []) (hnd : (xs ++ [va.arg]).Nodup)
    (hk : ∀ t, BKind names (bs ++ [(va.arg, .ref t)])) (hi : ∀ t, Init (bs ++ [(va.arg, .ref t)]) names (vals t))
    (h : ∀ t L env A', EnvOk env names L [] → Room A' n → InFr A A' env fd.code L → BB G A' env body ((L, .ns names (vals t)) :: (t, .tuple rest) :: l) (fun fl l₂ => ∃ l₃, Sub l₃ l₂ ∧ R (retOf fl) l₃) noX) :
    CC G A (.ref f) (as ++ rest) l R X := by
  obtain ⟨rfl, hl'⟩ := hl.zip
  refine CC.fn hF hroom.call fun vs hvs s N => ?_
  have hlen := hvs.length
  rw [bind_var hb.h1 hb.h2 hb.h3 hva hb.h5 hb.h6 hb.hn (by rw [List.length_append] at hlen; lia)]
  have hz : (vs.drop xs.length).length = rest.length := by rw [List.length_drop, ← hlen, List.length_append]; lia
  unfold newTuple
  refine wpAny_bind (wpAny_newObj_type ?_ (by show (vs.drop xs.length).toArray.size ≤ sizeLine; rw [List.size_toArray, hz]; exact Nat.le_trans (Nat.le_of_lt hrest) (by decide)))
  have hr : AllIs rest (vs.drop xs.length) := by
    have := hvs.drop xs.length
    rwa [hl', List.drop_left, ← hl'] at this
  have N₁ := N.push (o := { cls := .type "tuple", data := .seq (vs.drop xs.length).toArray }) (ao := .tuple rest) rfl (PL.m1_1 _ (Heap.get?_push_size _ rfl) hr)
  have hz1 : AllIs as (vs.take xs.length) := by
    have := hvs.take xs.length
    rwa [hl', List.take_left, ← hl'] at this
  have ez : xs.zip vs = xs.zip (vs.take xs.length) := by
    have h1 := zip_left xs (vs.take xs.length) (vs.drop xs.length) (by rw [← hz1.length, hl'])
    rw [List.take_append_drop] at h1
    exact h1
  refine wpAny_pure ⟨xs.zip as ++ [(va.arg, .ref s.heap.objs.size)], _, ?_, N₁, ?_, hk _, vals _, [], hi _, ?_, fun L cl env A' hcl hE hA h1 h2 => ?_⟩
  · rw [ez]; exact (BRel.zip hz1).append (.one ⟨rfl, rfl⟩)
  · rw [List.map_append, List.map_fst_zip (by lia)]; exact hnd
  · rw [hck]; exact .nil
  · rw [hck] at hcl
    match cl, hcl with
    | [], _ => exact h _ L env A' hE (by subst hA; exact hroom.deeper) ⟨h1, h2, hA⟩
theorem CK.defB {f : Addr} {fd : FuncData} {body : List Stmt} {names : List (Str × NameKind)} {args : List AV} {bs : List Bind} {n : Nat} (hF : FnOk G f fd body names) (hroom : Room A (n + 1)) {vals : List (Option AV)}
    (hb : ∀ vs s, AllIs args vs → Rep G s l → ∃ us, BindsTo s fd ⟨vs, []⟩ us ∧ BRel bs us) (hck : cellKeys names [] = []) (hnd : (bs.map fun p => p.1).Nodup)
    (hk : BKind names bs) (hi : Init bs names vals)
    (h : ∀ L env A', EnvOk env names L [] → Room A' n → InFr A A' env fd.code L → BB G A' env body ((L, .ns names vals) :: l) (fun fl l₂ => ∃ l₃, Sub l₃ l₂ ∧ R (retOf fl) l₃) (LeaveX G A' env X)) :
    CK G A (.ref f) args l R X := by
  refine CK.fnX hF hroom.call fun vs hvs s N => ?_
  (refine PL.x1_1 (hb vs s hvs N) ?_; rintro us h1 h2)
  refine h1 _ _ _ _ ⟨bs, l, h2, N, hnd, hk, vals, [], hi, by rw [hck]; exact .nil, fun L cl env A' hcl hE hA e1 e2 => ?_⟩
  rw [hck] at hcl
  match cl, hcl with
  | [], _ => exact h L env A' hE (by subst hA; exact hroom.deeper) ⟨e1, e2, hA⟩
theorem binds_plain {fd : FuncData} {args : List AV} {xs : List Str} {bs : List Bind} (hl : Zip xs args bs) (hb : PlainBind fd xs none) : ∀ vs s, AllIs args vs → Rep G s l → ∃ us, BindsTo s fd ⟨vs, []⟩ us ∧ BRel bs us := fun vs s hvs _ => by
  obtain ⟨rfl, hl'⟩ := hl.zip
  refine (PL.m1_1 (xs.zip vs) (BindsTo.of_eq (bind_eq hb.h1 hb.h2 hb.h3 (by have := hb.h4; simpa using this) hb.h5 hb.h6 hb.hn ?_)) (BRel.zip hvs))
  rw [← hvs.length]; lia
end
end PL
end
section
open PySem PySem.Calls PyProof.Rows PySem.W
set_option autoImplicit false
set_option linter.unusedVariables false
set_option maxRecDepth 100000
set_option maxHeartbeats 0
namespace PL
/-! exceptions -/
theorem Rep.one {G : Gd} {s : Shared} {l : Led} (N : Rep G s l) {p q : Addr × AO} (hp : p ∈ l) (hq : q ∈ l) (e : p.1 = q.1) : p = q := by
  have nd := N.nodup
  clear N
  induction l with
  | nil => cases hp
  | cons r l ih =>
    rw [List.map_cons, List.nodup_cons] at nd
    rcases List.mem_cons.mp hp with e1 | hp1
    · rcases List.mem_cons.mp hq with e2 | hq1
      · exact e1.trans e2.symm
      · exact (nd.1 (List.mem_map.mpr (PL.m1_1 q hq1 (by rw [← e, e1])))).elim
    · rcases List.mem_cons.mp hq with e2 | hq1
      · exact (nd.1 (List.mem_map.mpr (PL.m1_1 p hp1 (by rw [e, e2])))).elim
      · exact ih hp1 hq1 nd.2
theorem Rep.slots {G : Gd} {s : Shared} {l : Led} {h' : Heap} {S : List Addr} (N : Rep G s l) (hs : Heap.SlotsOnly S s.heap h') (hS : ∀ b ∈ S, ∃ names vs, (b, .ns names vs) ∈ l) : Rep G { s with heap := h' } l := by
  refine ⟨fun b o e => ?_, N.nodup, fun p hp => ⟨(N.has p hp).1, ?_⟩, N.gens, N.os⟩
  · refine (hs.2.1 b fun q => ?_).trans (N.keep b o e)
    (refine PL.x2_0 (hS b q) ?_; rintro names vs hm)
    have := (N.has _ hm).1
    rw [e] at this; cases this
  · by_cases q : p.1 ∈ S
    · (refine PL.x2_0 (hS _ q) ?_; rintro names vs hm)
      have e := N.one hp hm rfl
      obtain ⟨a, ao⟩ := p
      cases e
      (refine PL.x1_1 (N.atM hm) ?_; (rintro m; refine PL.j3_2 ?_; rintro o es ep ho hd r hi))
      obtain ⟨sl, hsl⟩ := hs.2.2 a o ho
      exact (PL.m1_1 m ((PL.m3_2 _ es ep hsl hd r)) hi)
    · exact (N.has p hp).2.keep fun o e => (hs.2.1 _ q).trans e
/-- a frame stands in the ledger -/
noncomputable def FrIn (l : Led) (e : Env) : Prop := e.scope.kind ≠ .module ∧ ∃ L names vs, e.frame = some L ∧ (L, .ns names vs) ∈ l
noncomputable def FrsIn (A : Around) (l : Led) : Prop := ∃ es, A.frames = some es ∧ ∀ e ∈ es, FrIn l e
theorem FrIn.sub {l l' : Led} {e : Env} (h : FrIn l e) (hs : ∀ p ∈ l, p ∈ l') : FrIn l' e := ⟨h.1, let ⟨L, n, v, a, b⟩ := h.2; (PL.m3_1 L n v a (hs _ b))⟩
theorem funFrames {G : Gd} {s : Shared} {l : Led} (N : Rep G s l) : ∀ {es : List Env}, (∀ e ∈ es, FrIn l e) → s.heap.FunFrames G.t es
  | [], _ => trivial
  | e :: es, h => by
    obtain ⟨hk, L, names, vs, hf, hm⟩ := h e (.head _)
    (refine PL.x1_1 (N.atM hm) ?_; (rintro m; refine PL.j3_2 ?_; rintro o es' ep ho hd r hi))
    exact (PL.m0_2 hk ((PL.m2_3 L o hf ((N.has _ hm).1) ho (fun ws q => by rw [hd] at q; cases q))) (funFrames N fun e' he' => h e' (.tail _ he')))
section
variable {G : Gd} {A : Around} {env : Env} {l l' : Led} {X : Xp}
theorem note_first {s : Shared} {es : List Env} {e L : Addr} {c : Value} {Q : Unit → Shared → Prop} {E : Value → Shared → Prop} (N : Rep G s l) (hp : Pick (e, .exc c none) l l') (hfr : A.frames = some (env :: es)) (hin : ∀ x ∈ env :: es, FrIn l' x) (hf : env.frame = some L)
    (h : ∀ s' T, Rep G s' ((T, .tb (rawInt L)) :: (e, .exc c (some T)) :: l') → Q () s') : wpAny (model G.prog G.w) A (noteFrame (.ref e) env) Q E s := by
  have hin' : ∀ x ∈ env :: es, FrIn l x := fun x hx => (hin x hx).sub fun p hp' => hp.perm.mem_iff.mpr (.tail _ hp')
  (refine PL.x2_3 (N.at hp) ?_; rintro oe vs he hc hd h1)
  have h1' : vs[1]? = some .none := h1
  have hsz : 1 < vs.size := (Array.getElem?_eq_some_iff.mp h1').1
  unfold noteFrame
  simp only [hf]
  refine wpAny_bind (wpAny_field he hd h1' ?_)
  rw [if_neg (by decide)]
  refine wpAny_bind (wpAny_frameOf_fun hfr (funFrames N hin') hf fun h₁ hs₁ => ?_)
  have N₁ := N.slots hs₁ fun b hb => by
    rw [List.mem_filterMap] at hb
    (revert hb; refine PL.j1_1 ?_; rintro x hx hxf)
    obtain ⟨_, L', names, ws, e1, e2⟩ := hin' x hx
    rw [e1] at hxf; cases hxf
    exact (PL.m2_0 names ws e2)
  (refine PL.x2_3 (N₁.at hp) ?_; rintro oe vs he hc hd h1)
  have h1' : vs[1]? = some .none := h1
  have hsz : 1 < vs.size := (Array.getElem?_eq_some_iff.mp h1').1
  refine wpAny_bind (wpAny_entryPlaceOf fun pl hpl => ?_)
  unfold EntryCells.newEntry newFields
  refine wpAny_bind (wpAny_newObj_type ?_ (hpl.sizeOk5 _ _ _ _ _))
  have N₂ := N₁.push (o := { cls := .type "traceback", dict := none, data := .fields ([Value.none, .ref L, .none, rawInt L, .none] ++ (if pl.isEmpty then List.replicate 6 Value.none else pl)).toArray }) (ao := .tb (rawInt L)) rfl
    (PL.m2_2 _ _ (Heap.get?_push_size _ rfl) rfl (by first | (simp; done) | (rcases hpl with rfl | ⟨_, _, _, _, _, _, _, rfl⟩ <;> simp)))
  have he₂ := Heap.get?_push_of_some (h := h₁) { cls := .type "traceback", dict := none, data := .fields ([Value.none, .ref L, .none, rawInt L, .none] ++ (if pl.isEmpty then List.replicate 6 Value.none else pl)).toArray } he
  refine wpAny_setField he₂ hd hsz (h _ h₁.objs.size ?_)
  have hd₃ := Obj.data_mapFields hd (·.setIfInBounds 1 (Value.ref h₁.objs.size))
  have he₃ := Heap.get?_update_self (Obj.mapFields (·.setIfInBounds 1 (Value.ref h₁.objs.size))) he₂ (Obj.isFreed_of_fields hd₃)
  have N₃ := N₂.upd (tk := s.toks) (ao' := .exc c (some h₁.objs.size)) (.tail hp) (Heap.SameBut.update ..).extBut (PL.m2_3 _ _ he₃ ((Obj.cls_mapFields _ _).trans hc) hd₃ (by simp [hsz]))
  exact N₃.perm (List.Perm.swap ..)
theorem flight_none {s : Shared} {e T : Addr} {c fl : Value} {Q : Unit → Shared → Prop} {E : Value → Shared → Prop} (N : Rep G s ((T, .tb fl) :: (e, .exc c (some T)) :: l)) (h : ∀ s', Rep G s' ((T, .tb .none) :: (e, .exc c (some T)) :: l) → Q () s') : wpAny (model G.prog G.w) A (setFlight (.ref e) none) Q E s := by
  (refine PL.x2_3 (N.at (.tail .head)) ?_; rintro oe vs he hc hd h1)
  have h1' : vs[1]? = some (.ref T) := h1
  (refine PL.x2_2 (N.at .head) ?_; rintro ot ts ht hdt h3)
  have h3' := (Array.getElem?_eq_some_iff.mp h3).1
  refine wpAny_setFlight_none he hd h1' ht hdt h3' (h _ ?_)
  have hd₃ := Obj.data_mapFields hdt (·.setIfInBounds 3 Value.none)
  exact N.upd (tk := s.toks) (ao' := .tb .none) .head (Heap.SameBut.update ..).extBut (PL.m2_2 _ _ (Heap.get?_update_self _ ht (Obj.isFreed_of_fields hd₃)) hd₃ (by simp [h3']))
/-! the bound next of a list's iterator -/
theorem CC.bnext {b it p : Addr} {xs : List AV} {i : Nat} {a : AV} {R : AV → Led → Prop} (hb : (b, .raw (boundNext it)) ∈ l) (hi : Pick (it, .listiter p i) l l') (hp : (p, .list xs) ∈ l') (hx : xs[i]? = some a) (h : R a ((it, .listiter p (i + 1)) :: l')) : CC G A (.ref b) [] l R X := fun f vs hf hvs s N => by
  cases hf
  cases hvs.nilL
  have hbo : s.heap.get? b = some (boundNext it) := N.atM hb
  have hit : s.heap.IsListIter it p i := N.at hi
  (refine PL.x1_1 (N.atM (hi.perm.mem_iff.mpr (.tail _ hp))) ?_; rintro ws hl ha)
  (refine PL.x1_1 (ha.get hx) ?_; rintro v hv hav)
  (refine PL.x1_2 (id hit) ?_; rintro o ho hc hd)
  obtain ⟨n, hol⟩ := hl
  refine ln_call ho hc hbo ?_
  show wpAny _ _ (field (.ref it) 0 >>= _) _ _ s
  refine wpAny_bind (wpAny_field ho hd (x := .ref p) rfl ?_)
  show wpAny _ _ (if (Value.ref p == Value.none) = true then _ else _) _ _ s
  rw [if_neg (show ¬ ((Value.ref p == Value.none) = true) from Bool.false_ne_true)]
  show wpAny _ _ (field (.ref it) 1 >>= _) _ _ s
  refine wpAny_bind (wpAny_field ho hd (x := .int i 0) rfl ?_)
  show wpAny _ _ (seqItems? (.ref p) >>= _) _ _ s
  refine wpAny_bind (wpAny_seqItems hol rfl ?_)
  have hv' : ws[i]? = some v := by rw [← Array.getElem?_toList]; exact hv
  simp only [Int.toNat_natCast, hv']
  refine wpAny_bind (wpAny_setField ho hd (by simp) ?_)
  have hit' : (s.heap.update it (Obj.mapFields (·.setIfInBounds 1 (rawInt ((i : Int) + 1))))).IsListIter it p (i + 1) :=
    (PL.m1_2 _ (Heap.get?_update_self _ ho (Obj.isFreed_of_fields (Obj.data_mapFields hd _))) ((Obj.cls_mapFields ..).trans hc) (by rw [Obj.data_mapFields hd]; simp [rawInt]))
  exact wpAny_pure ⟨v, rfl, a, _, hav, N.upd (tk := s.toks) (ao' := .listiter p (i + 1)) hi (Heap.SameBut.update ..).extBut hit', h⟩
theorem CC.bnext_end {b it p : Addr} {xs : List AV} {i : Nat} {R : AV → Led → Prop} (hh : A.handled = none) (hb : (b, .raw (boundNext it)) ∈ l) (hi : Pick (it, .listiter p i) l l') (hp : (p, .list xs) ∈ l') (hx : xs[i]? = none) (h : ∀ e, X e ((e, .exc (.type "StopIteration") none) :: l')) : CC G A (.ref b) [] l R X := fun f vs hf hvs s N => by
  cases hf
  cases hvs.nilL
  have hbo : s.heap.get? b = some (boundNext it) := N.atM hb
  have hit : s.heap.IsListIter it p i := N.at hi
  (refine PL.x1_1 (N.atM (hi.perm.mem_iff.mpr (.tail _ hp))) ?_; rintro ws hl ha)
  have hv := ha.none hx
  (refine PL.x1_2 (id hit) ?_; rintro o ho hc hd)
  obtain ⟨n, hol⟩ := hl
  refine ln_call ho hc hbo ?_
  show wpAny _ _ (field (.ref it) 0 >>= _) _ _ s
  refine wpAny_bind (wpAny_field ho hd (x := .ref p) rfl ?_)
  show wpAny _ _ (if (Value.ref p == Value.none) = true then _ else _) _ _ s
  rw [if_neg (show ¬ ((Value.ref p == Value.none) = true) from Bool.false_ne_true)]
  show wpAny _ _ (field (.ref it) 1 >>= _) _ _ s
  refine wpAny_bind (wpAny_field ho hd (x := .int i 0) rfl ?_)
  show wpAny _ _ (seqItems? (.ref p) >>= _) _ _ s
  refine wpAny_bind (wpAny_seqItems hol rfl ?_)
  have hv' : ws[i]? = none := by rw [← Array.getElem?_toList]; exact hv
  simp only [Int.toNat_natCast, hv']
  refine wpAny_bind (wpAny_rule (wpAny_bind (wpAny_setField ho hd (by simp) ?_)))
  have N₁ : Rep G { s with heap := s.heap.update it (Obj.mapFields (·.setIfInBounds 0 Value.none)) } l' := (N.perm hi.perm).drop (tk := s.toks) (Heap.SameBut.update ..).extBut
  show wpAny _ _ (newExc (.type "StopIteration") [] >>= _) _ _ _
  refine wpAny_bind ?_
  simp only [newExc, newTuple]
  refine wpAny_bind (wpAny_newObj_type ?_ (by size_fits))
  refine wpAny_bind (m := firstArgMember _ _) (wpAny_of_eq (a := Value.none) (by first | rfl | (simp only [firstArgMember]; rfl)) ?_)
  refine wpAny_newObj_type ?_ (by size_fits)
  simp only [raiseNew]
  refine wpAny_bind (wpAny_handled ?_)
  rw [show A.in1.handled = none from hh]
  refine wpAny_bind (wpAny_pure (wpAny_throw ⟨_, _, rfl, ((N₁.ext (tk := s.toks) fun b o e => Heap.get?_push_of_some _ e).push (ao := .exc (.type "StopIteration") none) rfl (PL.m2_3 _ _ (Heap.get?_push_size _ rfl) rfl rfl rfl)), h _⟩))
/-- what a try's one clause asks of an exception -/
noncomputable def TryX (G : Gd) (A : Around) (env : Env) (es : List Env) (c : Value) (suite : List Stmt) (R : AF → Led → Prop) : Xp := fun e l₁ => ∃ l₂, Pick (e, .exc c none) l₁ l₂ ∧ (∀ x ∈ env :: es, FrIn l₂ x) ∧ BB G (A.mark (some (.ref e))) env suite l₂ R noX
theorem TryX.mk {es : List Env} {c : Value} {suite : List Stmt} {R : AF → Led → Prop} {e : Addr} {l₂ : Led} (h1 : Pick (e, .exc c none) l l₂) (h2 : ∀ x ∈ env :: es, FrIn l₂ x) (h3 : BB G (A.mark (some (.ref e))) env suite l₂ R noX) : TryX G A env es c suite R e l := (PL.m1_2 l₂ h1 h2 h3)
/-- a try whose one clause is a built-in class -/
theorem SS.try1 {C T : String} {body suite : List Stmt} {b₀ : Stmt} {t : Expr} {hpos pos : Pos} {es : List Env} {L : Addr} {R : AF → Led → Prop} (hfr : A.frames = some (env :: es)) (hf : env.frame = some L)
    (hexc : isSubtype (.type T) (.type "BaseException") = pure true) (hnt : isSubtype (.type ((Manifest.find? T).elim "type" fun x => x.metatype)) (.type "tuple") = pure false) (hsub : isSubtype (.type C) (.type T) = pure true)
    (ht : ∀ A l R, R (.lit (.type T)) l → EE G A env t l R noX)
    (h : BB G A env body l R (TryX G A env es (.type C) (b₀ :: suite) R)) :
    SS G A env (.Try body [.ExceptHandler (some t) Option.none (b₀ :: suite) hpos] [] [] pos) l R X := fun s N => by
  have no : ∀ {Q : Value → Shared → Prop} (e : Value) (s' : Shared), Px G noX e s' → Q e s' := fun e s' ⟨_, _, _, _, h⟩ => h.elim
  refine wpAny_Try_except (wpAny_mono (h s N) (fun f s₁ ⟨b, l₁, hb, N₁, h₁⟩ => ?_) fun e s₁ ⟨a, l₁, he, N₁, l₂, hp, hin, h₁⟩ => ?_)
  · cases b with
    | next => cases hb; exact wpAny_execs_nil ⟨.next, l₁, rfl, N₁, h₁⟩
    | brk => cases hb; exact ⟨.brk, l₁, rfl, N₁, h₁⟩
    | cont => cases hb; exact ⟨.cont, l₁, rfl, N₁, h₁⟩
    | ret v => (revert hb; refine PL.j1_1 ?_; rintro u rfl hu); exact ⟨.ret v, l₁, (PL.m1_1 u rfl hu), N₁, h₁⟩
  · subst he
    refine note_first N₁ hp hfr hin hf fun s₂ Tb N₂ => ?_
    refine flight_none N₂ fun s₃ N₃ => ?_
    refine wpAny_handleBy_builtin hexc hnt hsub (wpAny_mono (ht _ _ (fun v l => v = .lit (.type T) ∧ l = (Tb, .tb .none) :: (a, .exc (.type C) (some Tb)) :: l₂) ⟨rfl, rfl⟩ s₃ N₃) (fun c s₄ hq1 => ?_) no)
    obtain ⟨b, l₄, hb, N₄, e1, e2⟩ := hq1
    subst e1 e2
    refine (PL.m0_2 hb ?_ ?_)
    · (refine PL.x2_2 (N₄.at (.tail .head)) ?_; rintro o vs ho hc _)
      exact (PL.m1_1 o ho hc)
    · simp only [if_true]
      refine flight_none N₄ fun s₅ N₅ => ?_
      exact wpAny_mono (h₁ s₅ (N₅.sub (.skip (.skip (.refl l₂))))) (fun _ _ h => h) no
end
theorem isExc_stop : isSubtype (.type "StopIteration") (.type "BaseException") = pure true := by rw [isSubtype_type]; kernel_rfl
theorem notTuple_stop : isSubtype (.type ((Manifest.find? "StopIteration").elim "type" fun x => x.metatype)) (.type "tuple") = pure false := by
  rw [find?_eq_fast]
  first | (rw [isSubtype_type]; kernel_rfl) | kernel_rfl
end PL
end
section
open PySem PySem.Calls PyProof.Rows PySem.W
set_option autoImplicit false
set_option linter.unusedVariables false
set_option maxRecDepth 100000
set_option maxHeartbeats 0
namespace PL
section
variable {G : Gd} {A : Around} {env : Env} {l l' : Led} {X : Xp} {R : AV → Led → Prop}
theorem Op2.ladd {p q : Addr} {xs ys : List AV} (hp : (p, .list xs) ∈ l) (hq : (q, .list ys) ∈ l) (hz : xs.length + ys.length ≤ 1000000) (h : ∀ r, R (.ref r) ((r, .list (xs ++ ys)) :: l)) : Op2 G A (binaryOp .Add) (.ref p) (.ref q) l R X := fun v u hv hu s N => by
  cases hv; cases hu
  (refine PL.x1_1 (N.atM hp) ?_; rintro ws ⟨n, hl⟩ hw)
  (refine PL.x1_1 (N.atM hq) ?_; rintro us ⟨m, hl2⟩ hu)
  have e1 : ws.size = xs.length := by rw [← Array.length_toList, ← hw.length]
  have e2 : us.size = ys.length := by rw [← Array.length_toList, ← hu.length]
  exact P.add_list hl hl2 ⟨.ref s.heap.objs.size, _, rfl, N.push (ao := .list (xs ++ ys)) rfl (PL.m1_1 _ (⟨0, Heap.get?_push_size _ rfl⟩) (by rw [Array.toList_append]; exact hw.append hu)), h _⟩ (by rw [e1, e2]; exact Nat.le_trans hz (by decide))
theorem CC.iterList {p : Addr} {xs : List AV} (hp : (p, .list xs) ∈ l) (h : ∀ it, R (.ref it) ((it, .raw (iterObj p)) :: l)) : CC G A (.lit (.builtin "iter")) [.ref p] l R X := fun f vs hf hvs s N => by
  cases hf
  (refine PL.x1_1 (get1 hvs) ?_; rintro v rfl hv)
  cases hv
  (refine PL.x1_1 (N.atM hp) ?_; rintro ws hl hw)
  refine call_function_entry (by decide +kernel) (by decide +kernel) kdk_entry_iter (kdk_args_iter _) ?_
  unfold Builtin.«iter»
  refine wpAny_bind (m := someArgs "iter" 1 2 _) (wpAny_of_eq (a := [Value.ref p]) (by first | rfl | kernel_rfl!) ?_)
  show wpAny _ _ (pyIter (.ref p) >>= _) _ _ _
  refine wpAny_bind (wpAny_pyIter_list hl.isList ?_)
  exact wpAny_pure ⟨_, rfl, .ref s.heap.objs.size, _, rfl, N.push (ao := .raw (iterObj p)) rfl (Heap.get?_push_size _ rfl), h _⟩
/-! the least of texts -/
theorem getD_at {xs : List Str} {i : Nat} (h : i < xs.length) : xs.getD i Str.empty = xs[i] := by simp [List.getD, h]
theorem argBest_str (num : Nat → Str) : ∀ k, argBest (fun i j => HP.slt (num i) (num j)) k ≤ k ∧ ∀ j, j ≤ k → HP.slt (num j) (num (argBest (fun i j => HP.slt (num i) (num j)) k)) = false
  | 0 => ⟨Nat.le_refl _, fun j hj => by
      have : j = 0 := by lia
      subst this
      show HP.slt (num 0) (num 0) = false
      cases h : HP.slt (num 0) (num 0) with
      | false => rfl
      | true => exact (HP.slt_ord.asymm _ _ h).symm.trans h |>.symm ▸ rfl⟩
  | k + 1 => by
    obtain ⟨h1, h2⟩ := argBest_str num k
    simp only [argBest]
    by_cases hc : HP.slt (num (k + 1)) (num (argBest (fun i j => HP.slt (num i) (num j)) k)) = true
    · rw [if_pos hc]
      refine ⟨Nat.le_refl _, fun j hj => ?_⟩
      rcases Nat.lt_or_ge j (k + 1) with hlt | hge
      · exact HP.slt_ord.trans _ _ _ (HP.slt_ord.asymm _ _ hc) (h2 j (by lia))
      · have : j = k + 1 := by lia
        subst this
        cases h : HP.slt (num (k + 1)) (num (k + 1)) with
        | false => rfl
        | true => exact (h.symm.trans (HP.slt_ord.asymm _ _ h)).symm ▸ rfl
    · rw [if_neg hc]
      refine ⟨by lia, fun j hj => ?_⟩
      rcases Nat.lt_or_ge j (k + 1) with hlt | hge
      · exact h2 j (by lia)
      · have : j = k + 1 := by lia
        subst this
        simpa using hc
theorem CC.min {p : Addr} {xs : List Str} (hh : A.handled = none) (hp : (p, AO.list (xs.map AV.str)) ∈ l) (hne : xs ≠ []) (h : ∀ m, m ∈ xs → (∀ b ∈ xs, HP.slt b m = false) → R (.str m) l) : CC G A (.lit (.builtin "min")) [.ref p] l R X := fun f vs hf hvs s N => by
  cases hf
  obtain ⟨v, rfl, hv⟩ := get1 hvs
  cases hv
  obtain ⟨ws, hl, hw⟩ := N.atM hp
  have hlen : ws.size = xs.length := by rw [← Array.length_toList, ← hw.length, List.length_map]
  have hpos : 0 < xs.length := List.length_pos_iff.mpr hne
  have hval : ∀ (i : Nat) (v : Value), ws[i]? = some v → ∃ t, v = Value.str (xs.getD i Str.empty) t := fun i v hv => by
    rw [← Array.getElem?_toList] at hv
    obtain ⟨a, ha, hav⟩ := All2.getR (as := xs.map AV.str) hw hv
    rw [List.getElem?_map, Option.map_eq_some_iff] at ha
    obtain ⟨x, hx, rfl⟩ := ha
    obtain ⟨t, rfl⟩ := hav
    exact ⟨t, by simp [List.getD, hx]⟩
  have hlt : p < s.heap.objs.size := by obtain ⟨n, e⟩ := hl; exact Heap.lt_size e
  refine call_min_walk (wpAny_pyIter_list hl.isList ?_)
  refine ⟨_, _, _, _, _, _, fun i j => HP.slt (xs.getD i Str.empty) (xs.getD j Str.empty), rfl, Walks.list (A := A.in1) hh _ p (Nat.ne_of_lt hlt) ws, ⟨⟨_, Heap.get?_push_size _ rfl, rfl, rfl⟩, hl.isList.push _⟩, fun b hb => ?_, by rw [hlen]; exact hpos, fun i j vi vj s Q E hi hj h => ?_, fun v h' tk hP hk => ?_⟩
  · show b < (s.heap.push _).objs.size
    rw [Heap.size_push]
    rcases List.mem_cons.mp hb with rfl | hb
    · exact Nat.lt_succ_self _
    · rcases List.mem_cons.mp hb with rfl | hb
      · exact Nat.lt_succ_of_lt hlt
      · cases hb
  · obtain ⟨t, rfl⟩ := hval i vi hi
    obtain ⟨u, rfl⟩ := hval j vj hj
    exact richCompare_gives (op := .Lt) (typeIs_str s _ t) (typeIs_str s _ u) F.slot_str_lt F.entry_str_lt (F.args_str_lt_2 _ _) (gives_str_lt _ _ t u) (fun x => nomatch x) h
  · obtain ⟨hb1, hb2⟩ := argBest_str (fun i => xs.getD i Str.empty) (ws.size - 1)
    obtain ⟨t, rfl⟩ := hval _ _ hP
    have hbl : argBest (fun i j => HP.slt (xs.getD i Str.empty) (xs.getD j Str.empty)) (ws.size - 1) < xs.length := by lia
    refine ⟨.str _, l, ⟨t, rfl⟩, N.ext (tk := tk) fun b o e => hk b o (fun hm => ?_) (Heap.get?_push_of_some _ e), h _ ?_ fun b hb => ?_⟩
    · rcases List.mem_cons.mp hm with e1 | hm
      · exact absurd (e1 ▸ Heap.lt_size e) (Nat.lt_irrefl _)
      · cases hm
    · rw [getD_at hbl]; exact List.getElem_mem _
    · obtain ⟨j, hj, rfl⟩ := List.mem_iff_getElem.mp hb
      have := hb2 j (by lia)
      rwa [getD_at hj] at this
/-! the script: a list that was there before -/
structure KList (G : Gd) (p : Addr) (ns : List Int) : Prop where
  h : ∃ vs : Array Value, G.t.IsList p vs ∧ AllIs (ns.map .int) vs.toList
theorem SubOp.klist {value slice : Expr} {p : Addr} {ns : List Int} {i : AV} (hk : KList G p ns) (h : Op2 G A getItem (.ref p) i l R X)
    (hs : ∀ v u, ∃ ops, subscripted slice false v u = operate ops (getItem v u) := by intro _ _; with_unfolding_all exact ⟨_, rfl⟩) : SubOp G A value slice (.ref p) i l R X := fun v u hv hu s N => by
  (refine PL.x1_1 (hk.h) ?_; rintro vs ⟨o, ho, hc, hd⟩ _)
  obtain ⟨ops, e⟩ := hs v u
  cases hv
  have hl : s.heap.IsList p vs := (PL.m1_2 o (N.keep _ _ ho) hc hd)
  exact tail_any hl.typeIs slot_list_getitem.lookup (h _ u rfl hu s N) e
theorem Get.klistSlice {p sl : Addr} {ns : List Int} {a b : AV} {lo hi : Option Int} (hk : KList G p ns) (hs : Pick (sl, .fields "slice" [a, b, .none]) l l') (ha : IPart a lo) (hb : IPart b hi) (hz : ns.length < 1000000)
    (h : ∀ q, R (.ref q) ((q, .list (pickAV (ns.map .int) lo hi)) :: l')) : Op2 G A getItem (.ref p) (.ref sl) l R X := fun v u hv hu s N => by
  cases hv; cases hu
  (refine PL.x1_1 (N.at hs) ?_; rintro vs ho hvs)
  (refine PL.x3_3 (get3 hvs) ?_; rintro va vb vc rfl h1 h2 h3)
  cases h3
  (refine PL.x1_2 (ha.of h1) ?_; rintro _ _ _ pa)
  (refine PL.x1_2 (hb.of h2) ?_; rintro _ _ _ pb)
  have N' := N.sub (l' := l') (.trans .tail (.perm hs.perm))
  (refine PL.x1_1 (hk.h) ?_; rintro ws ⟨o, hol, hc, hd⟩ hw)
  have hl : s.heap.IsList p ws := (PL.m1_2 o (N.keep _ _ hol) hc hd)
  have hlen : ws.size = (ns.map AV.int).length := by rw [← Array.length_toList, ← hw.length]
  refine wpAny_getItem_list_slice hl (PL.m1_2 _ ho rfl rfl) pa pb .none (by simp) ?_ (by rw [hlen, List.length_map]; exact Nat.le_trans (Nat.le_of_lt hz) (by decide))
  refine ⟨.ref s.heap.objs.size, _, rfl, N'.push (ao := .list (pickAV (ns.map .int) lo hi)) rfl (PL.m1_1 _ (⟨0, Heap.get?_push_size _ rfl⟩) ?_), h _⟩
  unfold slicePick pickAV
  rw [hlen]
  exact pick_all2 hw _
end
end PL
end
section
open PySem PySem.Calls PyProof.Rows PySem.W
set_option autoImplicit false
set_option linter.unusedVariables false
set_option maxRecDepth 100000
set_option maxHeartbeats 0
namespace PL
/-- a node of the sorter: its name, its count, its successors -/
structure Nd where
  name : Str
  np : Int
  succ : List Str
structure NR where
  nd : Nd
  a : Addr
  dx : Addr
  sl : Addr
noncomputable abbrev nrS (NI : Addr) (r : NR) : Addr × AO := (r.a, .slots NI r.dx [some (.str r.nd.name), some (.int r.nd.np), some (.ref r.sl)])
noncomputable abbrev nrL (r : NR) : Addr × AO := (r.sl, .list (r.nd.succ.map .str))
noncomputable abbrev nrD (r : NR) : Addr × AO := (r.dx, .idct [])
noncomputable def nsLed (NI : Addr) : List NR → Led
  | [] => []
  | r :: g => nrS NI r :: nrL r :: nrD r :: nsLed NI g
noncomputable def nsKV (g : List NR) : List (Str × AV) := g.map fun r => (r.nd.name, .ref r.a)
noncomputable def abs (g : List NR) : List Nd := g.map NR.nd
noncomputable def names (g : List Nd) : List Str := g.map Nd.name
theorem nsLed_app (NI : Addr) : ∀ g g', nsLed NI (g ++ g') = nsLed NI g ++ nsLed NI g'
  | [], _ => rfl
  | r :: g, g' => by rw [List.cons_append, nsLed, nsLed, nsLed_app NI g g']; rfl
theorem nsLed_perm (NI : Addr) (pre : List NR) (r : NR) (post : List NR) : (nsLed NI (pre ++ r :: post)).Perm (nrS NI r :: nrL r :: nrD r :: nsLed NI (pre ++ post)) := by
  rw [nsLed_app, nsLed_app, nsLed]
  refine List.Perm.trans List.perm_middle (List.Perm.cons _ ?_)
  refine List.Perm.trans List.perm_middle (List.Perm.cons _ ?_)
  exact List.perm_middle
theorem ns_open {NI : Addr} {pre : List NR} {r : NR} {post : List NR} {l : Led} : Sub (nrS NI r :: nrL r :: nrD r :: (nsLed NI (pre ++ post) ++ l)) (nsLed NI (pre ++ r :: post) ++ l) := .perm ((nsLed_perm NI pre r post).append_right l)
theorem ns_close {NI : Addr} {pre : List NR} {r : NR} {post : List NR} {l : Led} : Sub (nsLed NI (pre ++ r :: post) ++ l) (nrS NI r :: nrL r :: nrD r :: (nsLed NI (pre ++ post) ++ l)) := .perm ((nsLed_perm NI pre r post).append_right l).symm
theorem ns_mem {NI : Addr} {g : List NR} {r : NR} (h : r ∈ g) (l : Led) : nrS NI r ∈ nsLed NI g ++ l ∧ nrL r ∈ nsLed NI g ++ l ∧ nrD r ∈ nsLed NI g ++ l := by
  (refine PL.x2_0 (List.append_of_mem h) ?_; rintro pre post rfl)
  have hp := (nsLed_perm NI pre r post).append_right l
  exact (PL.m0_2 (hp.mem_iff.mpr (.head _)) (hp.mem_iff.mpr (.tail _ (.head _))) (hp.mem_iff.mpr (.tail _ (.tail _ (.head _)))))
theorem nsKV_names (g : List NR) : (nsKV g).map (·.1) = names (abs g) := by simp [nsKV, names, abs]
theorem nsKV_mem {g : List NR} {r : NR} (h : r ∈ g) : (r.nd.name, AV.ref r.a) ∈ nsKV g := List.mem_map.mpr (PL.m1_1 r h rfl)
theorem nsKV_upd {pre post : List NR} {r r' : NR} (h1 : r'.nd.name = r.nd.name) (h2 : r'.a = r.a) : nsKV (pre ++ r' :: post) = nsKV (pre ++ r :: post) := by simp [nsKV, h1, h2]
noncomputable def getN (g : List Nd) (x : Str) : List Nd := if x ∈ names g then g else g ++ [⟨x, 0, []⟩]
noncomputable def updN (g : List Nd) (x : Str) (f : Nd → Nd) : List Nd := g.map fun n => if n.name = x then f n else n
noncomputable def addE (x : Str) (g : List Nd) (p : Str) : List Nd := updN (getN g p) p fun n => { n with succ := n.succ ++ [x] }
noncomputable def addS (g : List Nd) (x : Str) (ps : List Str) : List Nd := ps.foldl (addE x) (updN (getN g x) x fun n => { n with np := n.np + ps.length })
theorem names_upd (g : List Nd) (x : Str) (f : Nd → Nd) (hf : ∀ n, (f n).name = n.name) : names (updN g x f) = names g := by
  unfold names updN
  rw [List.map_map]
  apply List.map_congr_left
  intro n _
  show (if n.name = x then f n else n).name = n.name
  split
  · exact hf n
  · rfl
theorem names_get (g : List Nd) (x : Str) : names (getN g x) = if x ∈ names g then names g else names g ++ [x] := by
  unfold getN; split <;> simp [names]
theorem nodup_get {g : List Nd} {x : Str} (h : (names g).Nodup) : (names (getN g x)).Nodup := by
  rw [names_get]
  split
  · exact h
  · rename_i hx
    rw [List.nodup_append]
    refine (PL.m0_2 h (by simp) (fun a ha b hb e => ?_))
    simp only [List.mem_singleton] at hb
    exact hx (by rw [← hb, ← e]; exact ha)
theorem mem_get (g : List Nd) (x : Str) : x ∈ names (getN g x) := by
  rw [names_get]; split
  · assumption
  · simp
theorem upd_abs {pre post : List NR} {r : NR} (h : (names (abs (pre ++ r :: post))).Nodup) (f : Nd → Nd) : updN (abs (pre ++ r :: post)) r.nd.name f = abs (pre ++ { r with nd := f r.nd } :: post) := by
  unfold names abs at h
  rw [List.map_map, List.map_append, List.map_cons, List.nodup_append] at h
  (revert h; refine PL.j0_2 ?_; rintro _ h2 h3)
  rw [List.nodup_cons] at h2
  unfold updN abs
  rw [List.map_append, List.map_append, List.map_cons, List.map_cons, List.map_append, List.map_cons, if_pos rfl]
  have e1 : ∀ g : List NR, (∀ q ∈ g, q.nd.name ≠ r.nd.name) → (g.map NR.nd).map (fun n => if n.name = r.nd.name then f n else n) = g.map NR.nd := by
    intro g hg
    rw [List.map_map]
    apply List.map_congr_left
    intro q hq
    show (if q.nd.name = r.nd.name then f q.nd else q.nd) = q.nd
    rw [if_neg (hg q hq)]
  rw [e1 pre fun q hq e => h3 _ (List.mem_map.mpr (PL.m1_1 q hq rfl)) _ (.head _) e, e1 post fun q hq e => h2.1 (List.mem_map.mpr (PL.m1_1 q hq e))]
theorem names_split {g : List NR} {x : Str} (h : x ∈ names (abs g)) : ∃ pre r post, g = pre ++ r :: post ∧ r.nd.name = x := by
  unfold names abs at h
  rw [List.map_map] at h
  (refine PL.x1_1 (List.mem_map.mp h) ?_; rintro r hr e)
  (refine PL.x2_0 (List.append_of_mem hr) ?_; rintro pre post rfl)
  exact (PL.m3_1 pre r post rfl e)
theorem names_addE (x : Str) (g : List Nd) (p : Str) : names (addE x g p) = names (getN g p) := names_upd _ _ _ fun _ => rfl
theorem nodup_addE {x : Str} {g : List Nd} {p : Str} (h : (names g).Nodup) : (names (addE x g p)).Nodup := by rw [names_addE]; exact nodup_get h
theorem len_get (g : List Nd) (x : Str) : (getN g x).length ≤ g.length + 1 := by unfold getN; split <;> simp
theorem len_upd (g : List Nd) (x : Str) (f : Nd → Nd) : (updN g x f).length = g.length := by simp [updN]
theorem len_addE (x : Str) (g : List Nd) (p : Str) : (addE x g p).length ≤ g.length + 1 := by unfold addE; rw [len_upd]; exact len_get g p
noncomputable def outS (g : List Nd) (ys : List Str) : List Nd := ys.foldl (fun g y => updN g y fun n => { n with np := -1 }) g
noncomputable def SB (g : List Nd) (m : Nat) : Prop := ∀ n ∈ g, n.succ.length ≤ m
theorem SB.get {g : List Nd} {m : Nat} (h : SB g m) (x : Str) : SB (getN g x) m := fun n hn => by
  unfold getN at hn
  split at hn
  · exact h n hn
  · rcases List.mem_append.mp hn with hn | hn
    · exact h n hn
    · simp only [List.mem_singleton] at hn; subst hn; exact Nat.zero_le _
theorem SB.upd {g : List Nd} {m m' : Nat} (h : SB g m) (x : Str) (f : Nd → Nd) (hm : m ≤ m') (hf : ∀ n : Nd, n.succ.length ≤ m → (f n).succ.length ≤ m') : SB (updN g x f) m' := fun n hn => by
  (refine PL.x1_1 (List.mem_map.mp hn) ?_; rintro q hq rfl)
  split
  · exact hf q (h q hq)
  · exact Nat.le_trans (h q hq) hm
theorem SB.addE {g : List Nd} {m : Nat} (h : SB g m) (x p : Str) : SB (addE x g p) (m + 1) := (h.get p).upd p _ (Nat.le_succ m) fun n hn => by simp; exact hn
theorem foldl_take {α β : Type} (f : β → α → β) (b : β) {xs : List α} {k : Nat} {a : α} (h : xs[k]? = some a) : (xs.take (k + 1)).foldl f b = f ((xs.take k).foldl f b) a := by
  rw [List.take_add_one, h, List.foldl_append]; rfl
section
variable {G : Gd} {A : Around} {l l' : Led} {X : Xp} {R : AV → Led → Prop}
theorem CC.len_tuple {p : Addr} {xs : List AV} (hp : (p, .tuple xs) ∈ l) (hz : xs.length < 1000000) (h : R (.int xs.length) l) : CC G A (.lit (.builtin "len")) [.ref p] l R X := fun f vs hf hvs s N => by
  cases hf
  (refine PL.x1_1 (get1 hvs) ?_; rintro v rfl hv)
  cases hv
  (refine PL.x1_1 (N.atM hp) ?_; rintro ws hl ha)
  have hlen : ws.length = xs.length := ha.length.symm
  exact PyProof.Rows.len_tuple (items := ws.toArray) ⟨_, hl, rfl, _, rfl⟩ (by rw [List.size_toArray, hlen]; lia) ⟨.int xs.length, l, ⟨_, by rw [List.size_toArray, hlen]⟩, N.toks (s.toks + 1 + 1), h⟩
theorem GAt.sub {name : Str} {a : AV} (hs : Sub l' l) (h : GAt G A name a l' R X) : GAt G A name a l R X := fun v hv => Tr.sub hs (h v hv)
theorem SAt.sub {name : Str} {o a : AV} {R : Led → Prop} (hs : Sub l' l) (h : SAt G A name o a l' R X) : SAt G A name o a l R X := fun v u hv hu => Tr.sub hs (h v u hv hu)
theorem fr_in4 {p q r t : Addr × AO} {fr N l : Led} : Sub (p :: q :: r :: t :: (N ++ (fr ++ l))) (fr ++ (p :: q :: r :: t :: (N ++ l))) := .perm (by
  have := (List.perm_append_comm_assoc fr (p :: q :: r :: t :: N) l)
  simpa using this)
theorem fr_out4 {p q r t : Addr × AO} {fr N l : Led} : Sub (fr ++ (p :: q :: r :: t :: (N ++ l))) (p :: q :: r :: t :: (N ++ (fr ++ l))) := .perm (by
  have := (List.perm_append_comm_assoc fr (p :: q :: r :: t :: N) l).symm
  simpa using this)
theorem fr_out5 {p q r t u : Addr × AO} {fr N l : Led} : Sub (fr ++ (p :: q :: r :: t :: u :: (N ++ l))) (p :: q :: r :: t :: u :: (N ++ (fr ++ l))) := .perm (by
  have := (List.perm_append_comm_assoc fr (p :: q :: r :: t :: u :: N) l).symm
  simpa using this)
theorem CC.post {f : AV} {args : List AV} (h : CC G A f args l (fun b l₁ => ∃ l₂, Sub l₂ l₁ ∧ R b l₂) X) : CC G A f args l R X := fun v vs hv hvs s N =>
  wpAny_mono (h v vs hv hvs s N) (fun u s₁ ⟨b, l₁, hb, N₁, l₂, hs, hR⟩ => ⟨b, l₂, hb, N₁.sub hs, hR⟩) fun _ _ y => y
theorem fr_in {p q r : Addr × AO} {fr N l : Led} : Sub (p :: q :: r :: (N ++ (fr ++ l))) (fr ++ (p :: q :: r :: (N ++ l))) := .perm (by
  have := (List.perm_append_comm_assoc fr (p :: q :: r :: N) l)
  simpa using this)
theorem fr_out {p q r : Addr × AO} {fr N l : Led} : Sub (fr ++ (p :: q :: r :: (N ++ l))) (p :: q :: r :: (N ++ (fr ++ l))) := .perm (by
  have := (List.perm_append_comm_assoc fr (p :: q :: r :: N) l).symm
  simpa using this)
end
end PL
end
section
open PySem PySem.Calls PyProof.Rows PySem.W
set_option autoImplicit false
set_option linter.unusedVariables false
set_option maxRecDepth 100000
set_option maxHeartbeats 0
namespace PL
noncomputable def nsS (NI : Addr) : List NR → Led
  | [] => []
  | r :: g => nrS NI r :: nrD r :: nsS NI g
noncomputable def nsQ : List (Addr × List Str) → Led
  | [] => []
  | q :: qs => (q.1, .list (q.2.map .str)) :: nsQ qs
noncomputable def qOf (g : List NR) : List (Addr × List Str) := g.map fun r => (r.sl, r.nd.succ)
theorem nsS_app (NI : Addr) : ∀ g g', nsS NI (g ++ g') = nsS NI g ++ nsS NI g'
  | [], _ => rfl
  | r :: g, g' => by rw [List.cons_append, nsS, nsS, nsS_app NI g g']; rfl
theorem nsQ_app : ∀ g g', nsQ (g ++ g') = nsQ g ++ nsQ g'
  | [], _ => rfl
  | r :: g, g' => by rw [List.cons_append, nsQ, nsQ, nsQ_app g g']; rfl
theorem nsLed_split (NI : Addr) : ∀ g, (nsLed NI g).Perm (nsQ (qOf g) ++ nsS NI g)
  | [] => .refl _
  | r :: g => by
    have ih := nsLed_split NI g
    show (nrS NI r :: nrL r :: nrD r :: nsLed NI g).Perm (nrL r :: (nsQ (qOf g) ++ (nrS NI r :: nrD r :: nsS NI g)))
    refine List.Perm.trans (List.Perm.swap ..) (List.Perm.cons _ ?_)
    refine List.Perm.trans ((ih.cons _).cons _) ?_
    exact ((List.perm_middle (a := nrS NI r)).trans ((List.perm_middle (a := nrD r)).cons _)).symm
theorem nsS_perm (NI : Addr) (pre : List NR) (r : NR) (post : List NR) : (nsS NI (pre ++ r :: post)).Perm (nrS NI r :: nrD r :: nsS NI (pre ++ post)) := by
  rw [nsS_app, nsS_app, nsS]
  exact (List.perm_middle (a := nrS NI r)).trans ((List.perm_middle (a := nrD r)).cons _)
theorem nsQ_perm (p : List (Addr × List Str)) (a : Addr × List Str) (q : List (Addr × List Str)) : (nsQ (p ++ a :: q)).Perm ((a.1, .list (a.2.map .str)) :: nsQ (p ++ q)) := by
  rw [nsQ_app, nsQ_app, nsQ]
  exact List.perm_middle
theorem nsS_open {NI : Addr} {pre : List NR} {r : NR} {post : List NR} {l : Led} : Sub (nrS NI r :: nrD r :: (nsS NI (pre ++ post) ++ l)) (nsS NI (pre ++ r :: post) ++ l) := .perm ((nsS_perm NI pre r post).append_right l)
theorem nsS_close {NI : Addr} {pre : List NR} {r : NR} {post : List NR} {l : Led} : Sub (nsS NI (pre ++ r :: post) ++ l) (nrS NI r :: nrD r :: (nsS NI (pre ++ post) ++ l)) := .perm ((nsS_perm NI pre r post).append_right l).symm
/-- the whole opened at one node's list: its list, the records, the other lists -/
theorem ns_lists {NI : Addr} {pre : List NR} {r : NR} {post : List NR} {l : Led} : Sub (nrL r :: (nsS NI (pre ++ r :: post) ++ (nsQ (qOf pre ++ qOf post) ++ l))) (nsLed NI (pre ++ r :: post) ++ l) := by
  have h1 : (nsLed NI (pre ++ r :: post) ++ l).Perm ((nsQ (qOf (pre ++ r :: post)) ++ nsS NI (pre ++ r :: post)) ++ l) := (nsLed_split NI _).append_right l
  refine .perm (h1.trans ?_)
  have e : qOf (pre ++ r :: post) = qOf pre ++ (r.sl, r.nd.succ) :: qOf post := by simp [qOf]
  rw [e, nsQ_app, nsQ_app, nsQ, List.append_assoc, List.append_assoc]
  refine List.perm_middle.trans (List.Perm.cons _ ?_)
  have := List.perm_append_comm_assoc (nsQ (qOf pre) ++ nsQ (qOf post)) (nsS NI (pre ++ r :: post)) l
  simpa [List.append_assoc] using this
theorem ns_lists_back {NI : Addr} {g : List NR} {p q : List (Addr × List Str)} {sl : Addr} {su : List Str} {l : Led} (h : qOf g = p ++ (sl, su) :: q) : Sub (nsLed NI g ++ l) ((sl, .list (su.map .str)) :: (nsS NI g ++ (nsQ (p ++ q) ++ l))) := by
  have h1 : (nsLed NI g ++ l).Perm ((nsQ (qOf g) ++ nsS NI g) ++ l) := (nsLed_split NI _).append_right l
  refine .perm (List.Perm.trans ?_ h1.symm)
  rw [h]
  have h2 := ((nsQ_perm p (sl, su) q).append_right (nsS NI g)).append_right l
  refine List.Perm.trans ?_ h2.symm
  refine List.Perm.cons _ ?_
  have := (List.perm_append_comm_assoc (nsQ (p ++ q)) (nsS NI g) l).symm
  simpa [List.append_assoc] using this
noncomputable def npOf (g : List Nd) (s : Str) : Int := ((g.find? fun n => decide (n.name = s)).map Nd.np).getD 1
noncomputable def succOf (g : List Nd) (s : Str) : List Str := ((g.find? fun n => decide (n.name = s)).map Nd.succ).getD []
noncomputable def decS (st : List Nd × List Str) (s : Str) : List Nd × List Str :=
  (updN st.1 s fun n => { n with np := n.np - 1 }, if npOf st.1 s - 1 = 0 then st.2 ++ [s] else st.2)
noncomputable def doneS (st : List Nd × List Str) (x : Str) : List Nd × List Str := (succOf st.1 x).foldl decS (updN st.1 x fun n => { n with np := -2 }, st.2)
theorem find_split {pre post : List NR} {r : NR} (h : (names (abs (pre ++ r :: post))).Nodup) : (abs (pre ++ r :: post)).find? (fun n => decide (n.name = r.nd.name)) = some r.nd := by
  unfold names abs at *
  rw [List.map_append, List.map_cons] at *
  rw [List.map_append, List.map_cons, List.nodup_append] at h
  rw [List.find?_append, List.find?_cons]
  have : (pre.map NR.nd).find? (fun n => decide (n.name = r.nd.name)) = none := by
    rw [List.find?_eq_none]
    intro n hn e
    exact h.2.2 _ (List.mem_map.mpr (PL.m1_1 n hn rfl)) _ (.head _) (by simpa using e)
  rw [this]; simp
theorem npOf_split {pre post : List NR} {r : NR} (h : (names (abs (pre ++ r :: post))).Nodup) : npOf (abs (pre ++ r :: post)) r.nd.name = r.nd.np := by unfold npOf; rw [find_split h]; rfl
theorem succOf_split {pre post : List NR} {r : NR} (h : (names (abs (pre ++ r :: post))).Nodup) : succOf (abs (pre ++ r :: post)) r.nd.name = r.nd.succ := by unfold succOf; rw [find_split h]; rfl
end PL
end
section
open PySem
set_option autoImplicit false
set_option linter.unusedVariables false
set_option linter.unusedSectionVars false
namespace FC
variable {α : Type} [DecidableEq α]
/-- the finished ones, the last first: each one's successors were finished before -/
inductive Topo (sc : α → List α) : List α → Prop
  | nil : Topo sc []
  | cons {x : α} {f : List α} : (∀ s ∈ sc x, s ∈ f) → Topo sc f → Topo sc (x :: f)
/-- the stack, the top first; what hangs above it -/
noncomputable def Ch (sc : α → List α) (fin : List α) : List (α × Nat) → Option α → Prop
  | [], _ => True
  | (x, k) :: r, some v => (0 < k ∧ (sc x)[k - 1]? = some v ∧ ∀ j, j < k - 1 → ∀ s, (sc x)[j]? = some s → s ∈ fin) ∧ Ch sc fin r (some x)
  | (x, k) :: r, none => (∀ j, j < k → ∀ s, (sc x)[j]? = some s → s ∈ fin) ∧ Ch sc fin r (some x)
structure Inv (gn : List α) (sc : α → List α) (st : List (α × Nat)) (fin : List α) (p : Option α) : Prop where
  nodup : (st.map (·.1) ++ fin).Nodup
  sub : ∀ x ∈ st.map (·.1) ++ fin, x ∈ gn
  topo : Topo sc fin
  ch : Ch sc fin st p
theorem Ch.mono {sc : α → List α} {fin fin' : List α} (hf : ∀ x ∈ fin, x ∈ fin') : ∀ {st : List (α × Nat)} {p : Option α}, Ch sc fin st p → Ch sc fin' st p
  | [], _, _ => trivial
  | (x, k) :: r, some v, h => ⟨(PL.m0_2 h.1.1 h.1.2.1 (fun j hj s hs => hf _ (h.1.2.2 j hj s hs))), Ch.mono hf h.2⟩
  | (x, k) :: r, none, h => ⟨fun j hj s hs => hf _ (h.1 j hj s hs), Ch.mono hf h.2⟩
section
variable {gn : List α} {sc : α → List α} {st r : List (α × Nat)} {fin : List α} {v x : α} {k : Nat}
theorem Inv.push (h : Inv gn sc st fin (some v)) (hv : v ∈ gn) (h1 : v ∉ st.map (·.1)) (h2 : v ∉ fin) : Inv gn sc ((v, 0) :: st) fin none := by
  refine ⟨?_, ?_, h.topo, ⟨fun j hj => absurd hj (Nat.not_lt_zero j), h.ch⟩⟩
  · rw [List.map_cons, List.cons_append, List.nodup_cons]
    exact ⟨fun q => (List.mem_append.mp q).elim h1 h2, h.nodup⟩
  · intro y hy
    rw [List.map_cons, List.cons_append] at hy
    rcases List.mem_cons.mp hy with rfl | hy
    · exact hv
    · exact h.sub y hy
theorem Inv.settle (h : Inv gn sc st fin (some v)) (h2 : v ∈ fin) : Inv gn sc st fin none := by
  refine ⟨h.nodup, h.sub, h.topo, ?_⟩
  have hc := h.ch
  match st, hc with
  | [], _ => trivial
  | (x, k) :: r, hc =>
    refine ⟨fun j hj s hs => ?_, hc.2⟩
    by_cases e : j = k - 1
    · subst e
      rw [hc.1.2.1] at hs
      cases hs
      exact h2
    · exact hc.1.2.2 j (by lia) s hs
theorem Inv.next (h : Inv gn sc ((x, k) :: r) fin none) {s : α} (hs : (sc x)[k]? = some s) : Inv gn sc ((x, k + 1) :: r) fin (some s) :=
  ⟨h.nodup, h.sub, h.topo, ⟨(PL.m0_2 (Nat.succ_pos k) (by simpa using hs) (fun j hj s hs => h.ch.1 j (by assumption) s hs)), h.ch.2⟩⟩
theorem Inv.pop (h : Inv gn sc ((x, k) :: r) fin none) (hs : (sc x)[k]? = none) : Inv gn sc r (x :: fin) none := by
  have hsub : ∀ y ∈ fin, y ∈ x :: fin := fun y hy => .tail _ hy
  refine ⟨?_, ?_, .cons (fun s hs' => ?_) h.topo, ?_⟩
  · have := h.nodup
    rw [List.map_cons, List.cons_append] at this
    exact (List.perm_middle (l₁ := r.map (·.1)) (a := x) (l₂ := fin)).nodup_iff.mpr this
  · intro y hy
    refine h.sub y ?_
    rw [List.map_cons, List.cons_append]
    exact (List.perm_middle (l₁ := r.map (·.1)) (a := x) (l₂ := fin)).mem_iff.mp hy
  · obtain ⟨j, hj, rfl⟩ := List.mem_iff_getElem.mp hs'
    have hjk : j < k := by
      rcases Nat.lt_or_ge j k with q | q
      · exact q
      · rw [List.getElem?_eq_none_iff] at hs; lia
    exact h.ch.1 j hjk _ (List.getElem?_eq_getElem hj)
  · have hc := h.ch.2
    match r, hc with
    | [], _ => trivial
    | (y, ky) :: r', hc =>
      refine ⟨fun j hj s hs => ?_, Ch.mono hsub hc.2⟩
      by_cases e : j = ky - 1
      · subst e
        rw [hc.1.2.1] at hs
        cases hs
        exact .head _
      · exact .tail _ (hc.1.2.2 j (by lia) s hs)
theorem nodup_len : ∀ {l m : List α}, l.Nodup → (∀ x ∈ l, x ∈ m) → l.length ≤ m.length
  | [], _, _, _ => Nat.zero_le _
  | x :: l, m, hn, hs => by
    rw [List.nodup_cons] at hn
    have hx : x ∈ m := hs x (.head _)
    have := nodup_len (l := l) (m := m.erase x) hn.2 fun y hy => (List.mem_erase_of_ne (fun e => hn.1 (by rw [← e]; exact hy))).mpr (hs y (.tail _ hy))
    rw [List.length_erase_of_mem hx] at this
    have hp : 0 < m.length := List.length_pos_of_mem hx
    simp only [List.length_cons]
    lia
theorem Inv.len {gn : List α} {sc : α → List α} {st : List (α × Nat)} {fin : List α} {p : Option α} (h : Inv gn sc st fin p) : st.length + fin.length ≤ gn.length := by
  have := nodup_len h.nodup h.sub
  simpa using this
/-- a ring -/
theorem ring_of : ∀ {st : List (α × Nat)} {w : α}, Ch sc fin st (some w) → v ∈ st.map (·.1) →
    ∃ C : List α, v ∈ C ∧ (∀ y ∈ C, y = v ∨ ∃ z ∈ C, y ∈ sc z) ∧ (∃ z ∈ C, w ∈ sc z) ∧ ∀ y ∈ C, y ∈ st.map (·.1)
  | (x, k) :: r, w, h, hv => by
    have hw : w ∈ sc x := List.mem_of_getElem? h.1.2.1
    rcases List.mem_cons.mp hv with e | hv
    · have e : v = x := e
      subst e
      exact (PL.m1_3 ([v]) (.head _) (fun y hy => .inl (List.mem_singleton.mp hy)) ((PL.m1_1 v (.head _) hw)) (fun y hy => by rw [List.mem_singleton.mp hy]; exact .head _))
    · (refine PL.x1_3 (ring_of h.2 hv) ?_; rintro C h1 h2 ⟨z, hz, hxz⟩ h4)
      refine (PL.m1_3 (x :: C) (.tail _ h1) (fun y hy => ?_) ((PL.m1_1 x (.head _) hw)) (fun y hy => ?_))
      · rcases List.mem_cons.mp hy with rfl | hy
        · exact .inr (PL.m1_1 z (.tail _ hz) hxz)
        · rcases h2 y hy with e | ⟨z', hz', e⟩
          · exact .inl e
          · exact .inr (PL.m1_1 z' (.tail _ hz') e)
      · rcases List.mem_cons.mp hy with rfl | hy
        · exact .head _
        · exact .tail _ (h4 y hy)
theorem Inv.ring (h : Inv gn sc st fin (some v)) (hv : v ∈ st.map (·.1)) : ∃ C : List α, C ≠ [] ∧ (∀ y ∈ C, y ∈ gn) ∧ ∀ y ∈ C, ∃ z ∈ C, y ∈ sc z := by
  (refine PL.x1_3 (ring_of h.ch hv) ?_; rintro C h1 h2 ⟨z, hz, hvz⟩ h4)
  refine (PL.m1_2 C ((fun e => by rw [e] at h1; cases h1)) (fun y hy => h.sub y (List.mem_append_left _ (h4 y hy))) (fun y hy => ?_))
  rcases h2 y hy with rfl | q
  · exact (PL.m1_1 z hz hvz)
  · exact q
end
/-- the measure -/
noncomputable def rest (sc : α → List α) (P : α → Bool) : List α → Nat
  | [] => 0
  | x :: g => (if P x then 0 else (sc x).length + 2) + rest sc P g
noncomputable def stw (sc : α → List α) : List (α × Nat) → Nat
  | [] => 0
  | p :: r => ((sc p.1).length - p.2 + 1) + stw sc r
noncomputable def seen (st : List (α × Nat)) (fin : List α) (x : α) : Bool := (st.map (·.1) ++ fin).contains x
noncomputable def msr (gn : List α) (sc : α → List α) (st : List (α × Nat)) (fin : List α) : Nat := rest sc (seen st fin) gn + stw sc st
theorem seen_push {st : List (α × Nat)} {fin : List α} {v : α} (k : Nat) : (fun x => seen st fin x || decide (x = v)) = seen ((v, k) :: st) fin := by
  funext x
  unfold seen
  rw [List.map_cons, List.cons_append, List.contains_cons, Bool.or_comm]
  congr 1
theorem seen_pop {r : List (α × Nat)} {fin : List α} {x : α} {k : Nat} : seen ((x, k) :: r) fin = seen r (x :: fin) := by
  funext y
  unfold seen
  rw [List.map_cons]
  refine Bool.eq_iff_iff.mpr ?_
  simp only [List.contains_iff_mem]
  exact (List.perm_middle (l₁ := r.map (·.1)) (a := x) (l₂ := fin)).mem_iff.symm
theorem seen_iff {st : List (α × Nat)} {fin : List α} {x : α} : seen st fin x = true ↔ x ∈ st.map (·.1) ∨ x ∈ fin := by
  unfold seen; simp
theorem rest_congr {sc : α → List α} {P Q : α → Bool} : ∀ {g : List α}, (∀ x ∈ g, P x = Q x) → rest sc P g = rest sc Q g
  | [], _ => rfl
  | x :: g, h => by rw [rest, rest, h x (.head _), rest_congr fun y hy => h y (.tail _ hy)]
theorem rest_push {sc : α → List α} {P Q : α → Bool} {v : α} (hQ : ∀ x, Q x = (P x || decide (x = v))) (hP : P v = false) : ∀ {g : List α}, g.Nodup → v ∈ g → rest sc Q g + ((sc v).length + 2) = rest sc P g
  | x :: g, hn, hv => by
    rw [List.nodup_cons] at hn
    rcases List.mem_cons.mp hv with rfl | hv
    · have e := rest_congr (sc := sc) (P := Q) (Q := P) (g := g) fun y hy => by
        have hy2 : y ≠ v := fun q => hn.1 (by rw [← q]; exact hy)
        rw [hQ, decide_eq_false hy2, Bool.or_false]
      rw [rest, rest, hQ, hP, e]
      simp; lia
    · have hx : x ≠ v := fun q => hn.1 (q ▸ hv)
      have ih := rest_push (sc := sc) hQ hP hn.2 hv
      rw [rest, rest, hQ, decide_eq_false hx, Bool.or_false]
      lia
section
variable {gn : List α} {sc : α → List α} {st r : List (α × Nat)} {fin : List α} {v x : α} {k : Nat}
theorem msr_push (hg : gn.Nodup) (hv : v ∈ gn) (h1 : v ∉ st.map (·.1)) (h2 : v ∉ fin) : msr gn sc ((v, 0) :: st) fin < msr gn sc st fin := by
  have e := rest_push (sc := sc) (P := seen st fin) (Q := seen ((v, 0) :: st) fin) (v := v) (fun x => by
    unfold seen
    rw [List.map_cons, List.cons_append, List.contains_cons, Bool.or_comm]
    congr 1) (by
    unfold seen
    rw [Bool.eq_false_iff]
    intro q
    have : v ∈ st.map (·.1) ++ fin := by simpa using q
    exact (List.mem_append.mp this).elim h1 h2) hg hv
  unfold msr
  rw [stw]
  dsimp only
  lia
theorem msr_next {s : α} (hs : (sc x)[k]? = some s) : msr gn sc ((x, k + 1) :: r) fin < msr gn sc ((x, k) :: r) fin := by
  have hk : k < (sc x).length := by
    rcases Nat.lt_or_ge k (sc x).length with q | q
    · exact q
    · rw [List.getElem?_eq_none q] at hs; cases hs
  have e : rest sc (seen ((x, k + 1) :: r) fin) gn = rest sc (seen ((x, k) :: r) fin) gn := rest_congr fun y _ => rfl
  unfold msr
  rw [e, stw, stw]
  dsimp only
  lia
theorem msr_pop : msr gn sc r (x :: fin) < msr gn sc ((x, k) :: r) fin := by
  have e : rest sc (seen r (x :: fin)) gn = rest sc (seen ((x, k) :: r) fin) gn := rest_congr fun y _ => by
    unfold seen
    rw [List.map_cons]
    refine Bool.eq_iff_iff.mpr ?_
    simp only [List.contains_iff_mem]
    exact (List.perm_middle (l₁ := r.map (·.1)) (a := x) (l₂ := fin)).mem_iff
  unfold msr
  rw [e, stw]
  dsimp only
  lia
end
end FC
end
section
open PySem PySem.Calls PyProof.Rows PySem.W
set_option autoImplicit false
set_option linter.unusedVariables false
set_option maxRecDepth 100000
set_option maxHeartbeats 0
namespace PL
/-- an element of find_cycle's stack -/
structure SE where
  node : Str
  b : Addr
  it : Addr
  sl : Addr
  k : Nat
noncomputable def itLed : List SE → Led
  | [] => []
  | e :: r => (e.b, .raw (boundNext e.it)) :: (e.it, .listiter e.sl e.k) :: itLed r
noncomputable def stOf (r : List SE) : List (Str × Nat) := r.map fun e => (e.node, e.k)
noncomputable def stkL (r : List SE) : List Str := (r.map SE.node).reverse
noncomputable def bsL (r : List SE) : List AV := (r.map fun e => AV.ref e.b).reverse
noncomputable def idxKV : List SE → List (Str × AV)
  | [] => []
  | e :: r => idxKV r ++ [(e.node, .int r.length)]
noncomputable def SOk (g : List NR) (r : List SE) : Prop := ∀ e ∈ r, ∃ q ∈ g, q.nd.name = e.node ∧ q.sl = e.sl
theorem stOf_names (r : List SE) : (stOf r).map (·.1) = r.map SE.node := by simp [stOf]
theorem idx_names : ∀ r : List SE, (idxKV r).map (·.1) = stkL r
  | [] => rfl
  | e :: r => by rw [idxKV, List.map_append, idx_names r]; simp [stkL]
theorem stkL_cons (e : SE) (r : List SE) : stkL (e :: r) = stkL r ++ [e.node] := by simp [stkL]
theorem bsL_cons (e : SE) (r : List SE) : bsL (e :: r) = bsL r ++ [.ref e.b] := by simp [bsL]
theorem mem_stkL {r : List SE} {v : Str} : v ∈ stkL r ↔ v ∈ (stOf r).map (·.1) := by rw [stOf_names]; simp [stkL]
theorem len_stkL (r : List SE) : (stkL r).length = r.length := by simp [stkL]
theorem len_bsL (r : List SE) : (bsL r).length = r.length := by simp [bsL]
theorem len_idx (r : List SE) : (idxKV r).length = r.length := by
  have := congrArg List.length (idx_names r)
  rwa [List.length_map, len_stkL] at this
theorem idx_push {r : List SE} {e : SE} (h : e.node ∉ (stOf r).map (·.1)) : storedAV (idxKV r) e.node (.int r.length) = idxKV (e :: r) := by
  unfold storedAV
  rw [if_neg (by rw [idx_names, mem_stkL]; exact h)]
  rfl
theorem idx_pop {r : List SE} {e : SE} (h : e.node ∉ (stOf r).map (·.1)) : (idxKV (e :: r)).filter (fun kv => decide (kv.1 ≠ e.node)) = idxKV r := by
  rw [idxKV, List.filter_append]
  have h1 : (idxKV r).filter (fun kv => decide (kv.1 ≠ e.node)) = idxKV r := by
    rw [List.filter_eq_self]
    intro kv hkv
    have : kv.1 ∈ (stOf r).map (·.1) := by rw [← mem_stkL, ← idx_names]; exact List.mem_map.mpr (PL.m1_1 kv hkv rfl)
    simp only [ne_eq, decide_not, Bool.not_eq_true', decide_eq_false_iff_not]
    exact fun q => h (q ▸ this)
  rw [h1]; simp
theorem idx_get {r : List SE} {v : Str} (h : v ∈ (stOf r).map (·.1)) : ∃ i : Nat, (v, AV.int i) ∈ idxKV r ∧ i < r.length := by
  induction r with
  | nil => cases h
  | cons e r ih =>
    by_cases q : v ∈ (stOf r).map (·.1)
    · (refine PL.x1_1 (ih q) ?_; rintro i h1 h2)
      exact (PL.m1_1 i (List.mem_append_left _ h1) (by simp; lia))
    · rcases List.mem_cons.mp h with e' | h
      · have e' : v = e.node := e'
        subst e'
        exact (PL.m1_1 r.length (List.mem_append_right _ (.head _)) (by simp))
      · exact (q h).elim
theorem succ_mem {g : List NR} {q : NR} (h : q ∈ g) (hnd : (names (abs g)).Nodup) : succOf (abs g) q.nd.name = q.nd.succ := by
  (refine PL.x2_0 (List.append_of_mem h) ?_; rintro pre post rfl)
  exact succOf_split hnd
theorem filterMap_range {α : Type} (xs : List α) : ∀ m, (List.range m).filterMap (xs[·]?) = xs.take m
  | 0 => rfl
  | m + 1 => by
    rw [List.range_succ, List.filterMap_append, filterMap_range xs m, List.take_add_one]
    congr 1
theorem pickAV_upto (xs : List AV) (b : Nat) : pickAV xs none (some (b : Int)) = xs.take b := by
  unfold pickAV
  rw [sliceBounds_plain]
  show (sliceRange (0 : Nat) _ 1).filterMap _ = _
  rw [sliceRange_one]
  have e : ∀ m, (List.map (fun x => 0 + x) (List.range m)) = List.range m := fun m => by simp
  rw [e, filterMap_range]
  show xs.take (clipAt xs.length b - 0) = _
  rw [clipAt_nat, Nat.sub_zero]
  rcases Nat.le_total b xs.length with q | q
  · rw [Nat.min_eq_left q]
  · rw [Nat.min_eq_right q, List.take_length, List.take_of_length_le q]
theorem pick_len {xs : List AV} {vs : Array Value} (h : xs.length = vs.size) : ∀ ns : List Nat, (ns.filterMap (xs[·]?)).length = (ns.filterMap (vs[·]?)).length
  | [] => rfl
  | n :: ns => by
    rw [List.filterMap_cons, List.filterMap_cons]
    rcases Nat.lt_or_ge n xs.length with q | q
    · rw [List.getElem?_eq_getElem q, Array.getElem?_eq_getElem (by lia)]
      simp [pick_len h ns]
    · rw [List.getElem?_eq_none q, Array.getElem?_eq_none (by lia)]
      exact pick_len h ns
theorem pickAV_len (xs : List AV) (lo hi : Option Int) : (pickAV xs lo hi).length ≤ xs.length := by
  have h1 := slicePick_size_le (Array.replicate xs.length Value.none) lo hi none
  have h2 := pick_len (xs := xs) (vs := Array.replicate xs.length Value.none) (by simp) (sliceRange (sliceBounds lo hi none xs.length).1 (sliceBounds lo hi none xs.length).2.1 (sliceBounds lo hi none xs.length).2.2)
  unfold pickAV
  rw [h2]
  unfold slicePick at h1
  simp only [Array.size_replicate] at h1
  simpa using h1
section
variable {G : Gd} {A : Around} {env : Env} {l l' : Led} {X : Xp}
theorem SS.sub {st : Stmt} {R : AF → Led → Prop} (hs : Sub l' l) (h : SS G A env st l' R X) : SS G A env st l R X := Tr.sub hs h
end
theorem binds_dfl {s : Shared} {fd : FuncData} {x y : Str} {v d : Value} {T : Addr} {o : Obj} {n : Nat} (h1 : fd.params.posonlyargs = []) (h2 : fd.params.args.map (·.arg) = [x, y]) (h3 : fd.params.kwonlyargs = []) (h4 : fd.params.vararg = none) (h5 : fd.params.kwarg = none) (h6 : fd.defaults = .ref T)
    (hxy : (y == x) = false) (ho : s.heap.get? T = some o) (hs : o.data = .seq #[d] n) : BindsTo s fd ⟨[v], []⟩ [(x, v), (y, d)] := fun M A E Q hq => by
  unfold bindArgs
  simp only [h1, h2, h3, h4, h5, h6, List.map_nil, List.nil_append, List.append_nil, List.forIn_nil]
  refine wpAny_bind (wpAny_pure ?_)
  refine wpAny_bind (wpAny_seqItems ho hs ?_)
  simp [hxy, List.lookup_cons]
  exact wpAny_pure hq
end PL
end
section
open PySem PySem.Calls PyProof.Rows PySem.W
set_option autoImplicit false
set_option linter.unusedVariables false
set_option maxRecDepth 100000
set_option maxHeartbeats 0
namespace PL
/-- a part of a glob: none is the star -/
noncomputable abbrev Prt := Option Str
noncomputable def prtAV (star : Addr) : Prt → AV
  | none => .ref star
  | some s => .str s
noncomputable def escOf (c : Nat) : Str := if c = 46 then "\\." else ⟨#[c]⟩
noncomputable def brOf (st : Str) : Option Str := if st = "!a" then some "[^a]" else if st = "!b" then some "[^b]" else if st = "ab" then some "[ab]" else none
noncomputable def tstep (P : Str) (i : Nat) (res : List Prt) : Option (Nat × List Prt) := match P.cps[i]? with
  | some c =>
    if c = 42 then (match res.getLast? with | some none => none | _ => some (i + 1, res ++ [none]))
    else if c = 63 then some (i + 1, res ++ [some (Str.ofString ".")])
    else if c = 91 then (match P.cps[i + 1]?, P.cps[i + 2]?, P.cps[i + 3]? with
      | some a, some b, some d => if d = 93 ∧ a ≠ 93 ∧ b ≠ 93 then (brOf ⟨#[a, b]⟩).map fun s => (i + 4, res ++ [some s]) else none
      | _, _, _ => none)
    else if c = 97 ∨ c = 98 ∨ c = 46 then some (i + 1, res ++ [some (escOf c)]) else none
  | none => none
noncomputable def truns (P : Str) : Nat → Nat → List Prt → Option (List Prt)
  | 0, i, res => if i = P.length then some res else none
  | k + 1, i, res => if i = P.length then some res else (tstep P i res).bind fun p => truns P k p.1 p.2
theorem tstep_cases {P : Str} {i : Nat} {res r' : List Prt} {i' c : Nat} (h : tstep P i res = some (i', r')) (hc : P.cps[i]? = some c) :
    (c = 42 ∧ (res = [] ∨ ∃ ini s, res = ini ++ [some s]) ∧ i' = i + 1 ∧ r' = res ++ [none]) ∨ (c = 63 ∧ i' = i + 1 ∧ r' = res ++ [some (Str.ofString ".")]) ∨
    (c = 91 ∧ ∃ a b s, P.cps[i + 1]? = some a ∧ P.cps[i + 2]? = some b ∧ P.cps[i + 3]? = some 93 ∧ a ≠ 93 ∧ b ≠ 93 ∧ brOf ⟨#[a, b]⟩ = some s ∧ i' = i + 4 ∧ r' = res ++ [some s]) ∨
    ((c = 97 ∨ c = 98 ∨ c = 46) ∧ i' = i + 1 ∧ r' = res ++ [some (escOf c)]) := by
  unfold tstep at h
  rw [hc] at h
  dsimp only at h
  split at h
  · rename_i e
    left
    refine ⟨e, ?_⟩
    split at h
    · cases h
    · rename_i hl
      simp only [Option.some.injEq, Prod.mk.injEq] at h
      refine (PL.m0_2 ?_ h.1.symm h.2.symm)
      cases hr : res with
      | nil => exact .inl rfl
      | cons x xs =>
        right
        have hne : x :: xs ≠ [] := by simp
        refine ⟨(x :: xs).dropLast, ?_⟩
        cases hg : (x :: xs).getLast hne with
        | none => exact absurd (by rw [hr, List.getLast?_eq_some_getLast hne, hg]) hl
        | some s => exact ⟨s, by rw [← hg]; exact (List.dropLast_concat_getLast hne).symm⟩
  · split at h
    · rename_i e
      simp only [Option.some.injEq, Prod.mk.injEq] at h
      exact .inr (.inl (PL.m0_2 e h.1.symm h.2.symm))
    · split at h
      · rename_i e
        right; right; left
        refine ⟨e, ?_⟩
        split at h
        · rename_i a b d ha hb hd
          split at h
          · rename_i hcond
            rw [Option.map_eq_some_iff] at h
            (revert h; refine PL.j1_1 ?_; rintro s hs e2)
            simp only [Prod.mk.injEq] at e2
            exact (PL.m3_7 a b s ha hb (by rw [hd, hcond.1]) hcond.2.1 hcond.2.2 hs e2.1.symm e2.2.symm)
          · cases h
        · cases h
      · split at h
        · rename_i e
          simp only [Option.some.injEq, Prod.mk.injEq] at h
          exact .inr (.inr (.inr (PL.m0_2 e h.1.symm h.2.symm)))
        · cases h
theorem getItem_at {P : Str} {i c : Nat} (h : P.cps[i]? = some c) : (seqIndex? (i : Int) P.length).bind (P.cps[·]?) = some c := by
  have hl : i < P.cps.size := by
    rcases Nat.lt_or_ge i P.cps.size with h' | h'
    · exact h'
    · rw [Array.getElem?_eq_none h'] at h; cases h
  have : (seqIndex? (i : Int) P.length) = some i := by
    have hl' : i < P.length := hl
    have e0 : ¬ ((i : Int) < 0) := by lia
    unfold seqIndex?
    simp only [if_neg e0]
    rw [if_pos (by simp only [ge_iff_le, Bool.and_eq_true, decide_eq_true_eq]; lia)]
    simp
  rw [this]
  exact h
theorem str2 {a b c d : Nat} (h : (⟨#[a, b]⟩ : Str) = ⟨#[c, d]⟩) : a = c ∧ b = d := by simpa using h
theorem br_cases {a b : Nat} {s : Str} (h : brOf ⟨#[a, b]⟩ = some s) : (a = 33 ∧ b = 97 ∧ s = Str.ofString "[^a]") ∨ (a = 33 ∧ b = 98 ∧ s = Str.ofString "[^b]") ∨ (a = 97 ∧ b = 98 ∧ s = Str.ofString "[ab]") := by
  unfold brOf at h
  split at h
  · rename_i e; have := str2 (c := 33) (d := 97) e; cases h; exact .inl (PL.m0_2 this.1 this.2 rfl)
  · split at h
    · rename_i e; have := str2 (c := 33) (d := 98) e; cases h; exact .inr (.inl (PL.m0_2 this.1 this.2 rfl))
    · split at h
      · rename_i e; have := str2 (c := 97) (d := 98) e; cases h; exact .inr (.inr (PL.m0_2 this.1 this.2 rfl))
      · cases h
theorem cps_lt {P : Str} {i c : Nat} (h : P.cps[i]? = some c) : i < P.length := by
  rcases Nat.lt_or_ge i P.cps.size with h' | h'
  · exact h'
  · rw [Array.getElem?_eq_none h'] at h; cases h
theorem slice_two {P : Str} {i a b c : Nat} (ha : P.cps[i]? = some a) (hb : P.cps[i + 1]? = some b) (hc : P.cps[i + 2]? = some c) : Txt.slice P (some (i : Int)) (some (i + 2 : Int)) = ⟨#[a, b]⟩ := by
  have hl := cps_lt hc
  have e : Builtin.Str.strSliceIndices (some (i : Int)) (some (i + 2 : Int)) 1 P.length = [i, i + 1] := by
    unfold Builtin.Str.strSliceIndices
    simp only [show (1 : Int) > 0 by decide, if_true, if_neg (show ¬ ((i : Int) < 0) by lia), if_neg (show ¬ ((i : Int) + 2 < 0) by lia)]
    rw [show max (0 : Int) (min (i : Int) (P.length : Int)) = i by lia, show max (0 : Int) (min ((i : Int) + 2) (P.length : Int)) = i + 2 by lia]
    unfold sliceRange
    simp only [show (1 : Int) > 0 by decide, if_true, if_pos (show (i : Int) < i + 2 by lia)]
    rw [show (((i : Int) + 2 - i + 1 - 1) / 1).toNat = 2 by lia]
    simp [List.range_succ]
  unfold Txt.slice
  rw [e]
  rw [if_neg (by simp; lia)]
  simp [ha, hb]
section
variable {G : Gd} {A : Around} {l l' : Led} {X : Xp} {R : AV → Led → Prop}
theorem CC.badd {b p star : Addr} {xs : List Prt} {x : Prt} {l₂ : Led} (hb : Pick (b, .raw (boundAppend p)) l l₂) (hp : Pick (p, .list (xs.map (prtAV star))) l l') (hz : xs.length < 1000000) (h : R .none ((p, .list ((xs ++ [x]).map (prtAV star))) :: l')) : CC G A (.ref b) [prtAV star x] l R X :=
  CC.bappend hb.mem hp (by simpa using hz) (by simpa using h)
theorem Get.lastP {p : Addr} {zs xs : List AV} {a : AV} (hp : Pick (p, .list zs) l l') (e : zs = xs ++ [a]) (hz : xs.length < 1000000) (h : R a l) : Op2 G A getItem (.ref p) (.int (-1)) l R X := by
  subst e; exact Get.last hp hz h
theorem CC.arg1 {f a a' : AV} (e : a = a') (h : CC G A f [a'] l R X) : CC G A f [a] l R X := by subst e; exact h
end
end PL
end
section
open PySem PySem.Calls PyProof.Rows PySem.W
set_option autoImplicit false
set_option linter.unusedVariables false
set_option maxRecDepth 100000
set_option maxHeartbeats 0
namespace PL
/-- what the law takes of a name -/
noncomputable def starP (es : List Nat) (e : Nat) : Bool := match es with
  | [] => false
  | e0 :: _ => decide (e0 ≤ e)
noncomputable def textP (tk : Str → Str → Bool) (nm p : Str) (e : Nat) : Bool := match nm.cps[e]? with
  | some c => tk p ⟨#[c]⟩
  | none => false
noncomputable def stepEndsB (tk : Str → Str → Bool) (nm : Str) (es : List Nat) : Prt → List Nat
  | none => (List.range (nm.length + 1)).filter (starP es)
  | some p => (es.filter (textP tk nm p)).map (· + 1)
noncomputable def takenOfB (tk : Str → Str → Bool) (parts : List Prt) (nms : List Str) : List Str := nms.filter fun nm => (parts.foldl (stepEndsB tk nm) [0]).contains nm.length
noncomputable abbrev natsAV (es : List Nat) : List AV := es.map fun i : Nat => AV.int i
noncomputable abbrev natsD (es : List Nat) : List PyData := es.map fun i : Nat => PyData.int i
theorem RDs.nats {l : Led} : ∀ es : List Nat, RDs l (natsAV es) (natsD es)
  | [] => .nil
  | _ :: es => .cons .int (RDs.nats es)
theorem canLay_nats : ∀ es : List Nat, PyData.canLayAll0 (natsD es) = true
  | [] => by simp [PyData.canLayAll0]
  | e :: es => by simp only [natsD, List.map_cons, PyData.canLayAll0, PyData.canLay0, Bool.true_and]; exact canLay_nats es
theorem depth_nats : ∀ es : List Nat, PyData.depthAll (natsD es) ≤ 1
  | [] => by simp [PyData.depthAll]
  | e :: es => by
    have := depth_nats es
    simp only [natsD, List.map_cons, PyData.depthAll, PyData.depth] at this ⊢
    assumption
theorem any_nats (n : Nat) : ∀ es : List Nat, ((natsD es).any fun y => PyData.eqv y (.int (n : Int))) = es.contains n
  | [] => rfl
  | e :: es => by
    have ih := any_nats n es
    simp only [natsD, List.map_cons, List.any_cons, List.contains_cons, PyData.eqv] at ih ⊢
    rw [ih]
    congr 1
    rw [Bool.eq_iff_iff]
    simp only [beq_iff_eq]
    lia
theorem filt_yes {α β : Type} {xs : List α} {p : α → Bool} (f : α → β) {k : Nat} {a : α} (h : xs[k]? = some a) (hp : p a = true) : ((xs.take (k + 1)).filter p).map f = ((xs.take k).filter p).map f ++ [f a] := by
  rw [List.take_add_one, h]
  simp [List.filter_append, hp]
theorem filt_no {α β : Type} {xs : List α} {p : α → Bool} (f : α → β) {k : Nat} {a : α} (h : xs[k]? = some a) (hp : p a = false) : ((xs.take (k + 1)).filter p).map f = ((xs.take k).filter p).map f := by
  rw [List.take_add_one, h]
  simp [List.filter_append, hp]
theorem rfilt_yes {β : Type} {p : Nat → Bool} (f : Nat → β) {k : Nat} (hp : p k = true) : ((List.range (k + 1)).filter p).map f = ((List.range k).filter p).map f ++ [f k] := by
  rw [List.range_succ]
  simp [List.filter_append, hp]
theorem rfilt_no {β : Type} {p : Nat → Bool} (f : Nat → β) {k : Nat} (hp : p k = false) : ((List.range (k + 1)).filter p).map f = ((List.range k).filter p).map f := by
  rw [List.range_succ]
  simp [List.filter_append, hp]
theorem stepEndsB_len {tk : Str → Str → Bool} {nm : Str} {es : List Nat} {M : Nat} (hn : nm.length < M) (he : es.length ≤ M) : ∀ p : Prt, (stepEndsB tk nm es p).length ≤ M
  | none => Nat.le_trans (List.length_filter_le _ _) (by rw [List.length_range]; assumption)
  | some p => by
    unfold stepEndsB
    rw [List.length_map]
    exact Nat.le_trans (List.length_filter_le _ _) he
theorem stepEndsB_le {tk : Str → Str → Bool} {nm : Str} {es : List Nat} {M : Nat} (hn : nm.length < M) : ∀ p : Prt, ∀ i ∈ stepEndsB tk nm es p, i ≤ M
  | none => fun i hi => by
    have := (List.mem_filter.mp hi).1
    rw [List.mem_range] at this
    lia
  | some p => fun i hi => by
    (refine PL.x1_1 (List.mem_map.mp hi) ?_; rintro j hj rfl)
    have h2 := (List.mem_filter.mp hj).2
    unfold textP at h2
    cases hc : nm.cps[j]? with
    | none => rw [hc] at h2; cases h2
    | some c =>
      have := (Array.getElem?_eq_some_iff.mp hc).1
      have h3 : nm.length = nm.cps.size := rfl
      lia
section
variable {G : Gd} {A : Around} {env : Env} {l l' : Led} {X : Xp} {R : AV → Led → Prop}
theorem Op2.inNats {p : Addr} {es : List Nat} {k n : Nat} (hr : Room A n) (hp : (p, .list (natsAV es)) ∈ l) (h : R (.bool (es.contains k)) l) : Op2 G A (compareOp .In) (.int (k : Int)) (.ref p) l R X :=
  Op2.inData hr (.list hp (RDs.nats es)) .int (canLay_nats es) (by simp [PyData.canLay0]) (Nat.le_trans (depth_nats es) (by decide)) (by rw [any_nats]; exact h)
theorem Op2.neNil {p q : Addr} {es : List Nat} {n : Nat} (hr : Room A n) (hp : (p, .list (natsAV es)) ∈ l) (hq : (q, .list []) ∈ l) (h : R (.bool (!es.isEmpty)) l) : Op2 G A (compareOp .NotEq) (.ref p) (.ref q) l R X := fun v u hv hu s N => by
  have ra : RD l (.ref p) (.list (natsD es)) := .list hp (RDs.nats es)
  have rb : RD l (.ref q) (.list []) := .list hq .nil
  obtain ⟨as, ra⟩ := ra.reads N v hv
  obtain ⟨bs, rb⟩ := rb.reads N u hu
  refine SeqAt.compareNe_reads ra rb (by simp only [PyData.canLay0]; exact canLay_nats es) (by simp [PyData.canLay0, PyData.canLayAll0]) ?_ ⟨.bool _, l, rfl, N, ?_⟩
  · have h1 : (PyData.list []).depth ≤ 1 := by simp [PyData.depth, PyData.depthAll]
    have h2 := hr.u
    have h3 : min (PyData.list (natsD es)).depth (PyData.list []).depth ≤ (PyData.list []).depth := Nat.min_le_right _ _
    lia
  · have e : (!PyData.eqv (.list (natsD es)) (.list [])) = !es.isEmpty := by
      cases es <;> simp [natsD, PyData.eqv, PyData.eqvAll]
    rw [e]; exact h
theorem Get.nats {p : Addr} {es : List Nat} {i k : Nat} (hp : (p, .list (natsAV es)) ∈ l) (hi : es[i]? = some k) (hz : i < 1000000) (h : R (.int (k : Int)) l) : Op2 G A getItem (.ref p) (.int (i : Int)) l R X := fun v u hv hu s N => by
  obtain ⟨l', hp'⟩ := Pick.ofMem hp
  exact Get.nat hp' hz (by rw [List.getElem?_map, hi]; rfl) h v u hv hu s N
theorem SubOp.listM {value slice : Expr} {p : Addr} {xs : List AV} {i : AV} (hp : (p, .list xs) ∈ l) (h : Op2 G A getItem (.ref p) i l R X)
    (hs : ∀ v u, ∃ ops, subscripted slice false v u = operate ops (getItem v u) := by intro _ _; with_unfolding_all exact ⟨_, rfl⟩) : SubOp G A value slice (.ref p) i l R X := fun v u hv hu s N => by
  obtain ⟨l', hp'⟩ := Pick.ofMem hp
  exact SubOp.list hp' h hs v u hv hu s N
end
end PL
end
section
open PySem PySem.Calls PyProof.Rows PySem.W
set_option autoImplicit false
set_option linter.unusedVariables false
set_option maxRecDepth 100000
set_option maxHeartbeats 0
namespace PL
/-! lists of texts and lists of such lists, compared -/
noncomputable abbrev strsD (ss : List Str) : List PyData := ss.map PyData.str
noncomputable def okS (ss : List Str) : Bool := ss.all PyData.strOk
theorem canLay_strs : ∀ {ss : List Str}, okS ss = true → PyData.canLayAll0 (strsD ss) = true
  | [], _ => by simp [PyData.canLayAll0]
  | s :: ss, h => by
    simp only [okS, List.all_cons, Bool.and_eq_true] at h
    simp only [strsD, List.map_cons, PyData.canLayAll0, PyData.canLay0, Bool.and_eq_true]
    exact ⟨h.1, canLay_strs h.2⟩
theorem depth_strs : ∀ ss : List Str, PyData.depthAll (strsD ss) ≤ 1
  | [] => by simp [PyData.depthAll]
  | s :: ss => by
    have := depth_strs ss
    simp only [strsD, List.map_cons, PyData.depthAll, PyData.depth] at this ⊢
    assumption
theorem eqv_strs : ∀ a b : List Str, PyData.eqvAll (strsD a) (strsD b) = (a == b)
  | [], [] => by simp [PyData.eqvAll]
  | [], _ :: _ => by simp [PyData.eqvAll]
  | _ :: _, [] => by simp [PyData.eqvAll]
  | x :: a, y :: b => by
    have ih := eqv_strs a b
    simp only [strsD, List.map_cons, PyData.eqvAll, PyData.eqv] at ih ⊢
    rw [ih]
    rfl
section
variable {G : Gd} {A : Around} {env : Env} {l l' : Led} {X : Xp} {R : AV → Led → Prop}
theorem Op2.eqStrs {p q : Addr} {a b : List Str} {n : Nat} (hr : Room A n) (hp : (p, .list (a.map .str)) ∈ l) (hq : (q, .list (b.map .str)) ∈ l) (ha : okS a = true) (hb : okS b = true) (h : R (.bool (a == b)) l) : Op2 G A (compareOp .Eq) (.ref p) (.ref q) l R X :=
  Op2.eqData hr (.list hp (RDs.strs a)) (.list hq (RDs.strs b)) (by simp only [PyData.canLay0]; exact canLay_strs ha) (by simp only [PyData.canLay0]; exact canLay_strs hb)
    (by have := depth_strs a; simp only [PyData.depth]; rw [strsD] at this; lia) (by
      have e : PyData.eqv (.list (strsD a)) (.list (strsD b)) = (a == b) := by simp only [PyData.eqv]; exact eqv_strs a b
      rw [e]; exact h)
theorem Op2.neDatum {a c : AV} {d e : PyData} {n : Nat} (hr : Room A n) (ha : RD l a d) (hc : RD l c e) (hd : d.canLay0 = true) (he : e.canLay0 = true) (hu : d.depth ≤ 100) (h : R (.bool (!d.eqv e)) l) :
    Op2 G A (compareOp .NotEq) a c l R X := fun v u hv hu' s N => by
  obtain ⟨as, ra⟩ := ha.reads N v hv
  obtain ⟨bs, rc⟩ := hc.reads N u hu'
  exact SeqAt.compareNe_reads ra rc hd he (by have := hr.u; lia) ⟨.bool _, l, rfl, N, h⟩
theorem Op2.neStrs {p q : Addr} {a b : List Str} {n : Nat} (hr : Room A n) (hp : (p, .list (a.map .str)) ∈ l) (hq : (q, .list (b.map .str)) ∈ l) (ha : okS a = true) (hb : okS b = true) (h : R (.bool (a != b)) l) : Op2 G A (compareOp .NotEq) (.ref p) (.ref q) l R X :=
  Op2.neDatum hr (.list hp (RDs.strs a)) (.list hq (RDs.strs b)) (by simp only [PyData.canLay0]; exact canLay_strs ha) (by simp only [PyData.canLay0]; exact canLay_strs hb)
    (by have := depth_strs a; simp only [PyData.depth]; rw [strsD] at this; lia) (by
      have e : PyData.eqv (.list (strsD a)) (.list (strsD b)) = (a == b) := by simp only [PyData.eqv]; exact eqv_strs a b
      rw [e]; exact h)
theorem Op2.notinStrsM {p : Addr} {ss : List Str} {k : Str} (hp : (p, .list (ss.map .str)) ∈ l) (h : R (.bool (!ss.contains k)) l) : Op2 G A (compareOp .NotIn) (.str k) (.ref p) l R X := fun v u hv hu s N => by
  obtain ⟨l', hp'⟩ := Pick.ofMem hp
  exact Op2.notinStrs hp' h v u hv hu s N
end
end PL
end
section
open PySem PySem.Calls PyProof.Rows PySem.W
set_option autoImplicit false
set_option linter.unusedVariables false
set_option maxRecDepth 100000
set_option maxHeartbeats 0
namespace PL
/-! what the law's run does to the sorter -/
noncomputable abbrev GO := Str × List Str
theorem len_fold (x : Str) : ∀ (ps : List Str) (g : List Nd), (ps.foldl (addE x) g).length ≤ g.length + ps.length
  | [], g => Nat.le_refl _
  | p :: ps, g => by
    have := len_fold x ps (addE x g p)
    have h2 := len_addE x g p
    simp only [List.foldl_cons, List.length_cons]
    lia
theorem len_addS (g : List Nd) (x : Str) (ps : List Str) : (addS g x ps).length ≤ g.length + 1 + ps.length := by
  unfold addS
  refine Nat.le_trans (len_fold _ _ _) ?_
  rw [len_upd]
  have := len_get g x
  lia
theorem nodup_fold (x : Str) : ∀ (ps : List Str) (g : List Nd), (names g).Nodup → (names (ps.foldl (addE x) g)).Nodup
  | [], g, h => h
  | p :: ps, g, h => nodup_fold x ps _ (nodup_addE h)
theorem nodup_addS {g : List Nd} (x : Str) (ps : List Str) (h : (names g).Nodup) : (names (addS g x ps)).Nodup := by
  unfold addS
  refine nodup_fold _ _ _ ?_
  rw [names_upd (getN g x) x (fun n => { n with np := n.np + ps.length }) (fun _ => rfl)]
  exact nodup_get h
theorem SB_fold (x : Str) : ∀ (ps : List Str) (g : List Nd) (m : Nat), SB g m → SB (ps.foldl (addE x) g) (m + ps.length)
  | [], g, m, h => h
  | p :: ps, g, m, h => by
    have := SB_fold x ps _ _ (h.addE x p)
    simp only [List.foldl_cons, List.length_cons]
    rw [Nat.add_assoc, Nat.add_comm 1] at this
    exact this
theorem SB_addS {g : List Nd} {m : Nat} (x : Str) (ps : List Str) (h : SB g m) : SB (addS g x ps) (m + ps.length) := by
  unfold addS
  exact SB_fold _ _ _ _ ((h.get x).upd x _ (Nat.le_refl m) fun n hn => hn)
end PL
end
section
open PySem PySem.Calls PyProof.Rows PySem.W Builtin Builtin.ObjectAttr
set_option autoImplicit false
set_option linter.unusedVariables false
set_option maxRecDepth 100000
set_option maxHeartbeats 0
namespace PL
section
variable {G : Gd} {A : Around} {env : Env} {l l' : Led} {X : Xp} {R : AV → Led → Prop}
/-! a method asked for as a value, then called with its last argument starred -/
theorem CK.sub {f : AV} {args : List AV} (hs : Sub l' l) (h : CK G A f args l' R X) : CK G A f args l R X := fun v vs hv hvs s N => h v vs hv hvs s (N.sub hs)
theorem CK.post {f : AV} {args : List AV} (h : CK G A f args l (fun b l₁ => ∃ l₂, Sub l₂ l₁ ∧ R b l₂) X) : CK G A f args l R X := fun v vs hv hvs s N =>
  codeAny_mono (h v vs hv hvs s N) fun r s' z => by
    cases r with
    | error e => exact z
    | ok f =>
      cases f with
      | ret v => obtain ⟨b, l₁, hb, N₁, l₂, hs, hR⟩ := z; exact ⟨b, l₂, hb, N₁.sub hs, hR⟩
      | next => exact z.elim
      | brk => exact z.elim
      | cont => exact z.elim
theorem CK.fn {f : Addr} {fd : FuncData} {body : List Stmt} {names : List (Str × NameKind)} {args : List AV} (hF : FnOk G f fd body names) (hroom : A.depth < recursionLimit)
    (hbind : ∀ vs, AllIs args vs → Tr G A.in1 (bindArgs fd ⟨vs, []⟩) BRel l (fun bs l₁ => (bs.map fun p => p.1).Nodup ∧ BKind names bs ∧ ∃ vals ci, Init bs names vals ∧ CInit bs (cellKeys names []) ci ∧
      ∀ L cl env A', cl.map (fun p : Str × Addr => p.1) = cellKeys names [] → EnvOk env names L cl → A' = A.deeper env → env.code = fd.code → env.frame = some L → BB G A' env body ((L, .ns names vals) :: (cellLed cl ci ++ l₁)) (fun fl l₂ => ∃ l₃, Sub l₃ l₂ ∧ R (retOf fl) l₃) noX) X) :
    CK G A (.ref f) args l R X := CK.fnX hF hroom fun vs hvs => (hbind vs hvs).mono (fun bs l₁ ⟨h1, h2, vals, ci, h3, h4, h5⟩ => ⟨h1, h2, vals, ci, h3, h4, fun L cl env A' a b c d e => Tr.mono (h5 L cl env A' a b c d e) (fun _ _ h => h) fun _ _ h => h.elim⟩) fun _ _ h => h
theorem CK.defV {f : Addr} {fd : FuncData} {body : List Stmt} {names : List (Str × NameKind)} {as rest : List AV} {bs : List Bind} {n : Nat} (hF : FnOk G f fd body names) (hroom : Room A (n + 1)) (xs : List Str) (va : Arg) {vals : Addr → List (Option AV)}
    (hl : Zip xs as bs) (hb : PlainBind fd xs (some va.arg)) (hva : fd.params.vararg = some va) (hrest : rest.length < 1000000) (hck : cellKeys names [] = []) (hnd : (xs ++ [va.arg]).Nodup)
    (hk : ∀ t, BKind names (bs ++ [(va.arg, .ref t)])) (hi : ∀ t, Init (bs ++ [(va.arg, .ref t)]) names (vals t))
    (h : ∀ t L env A', EnvOk env names L [] → Room A' n → InFr A A' env fd.code L → BB G A' env body ((L, .ns names (vals t)) :: (t, .tuple rest) :: l) (fun fl l₂ => ∃ l₃, Sub l₃ l₂ ∧ R (retOf fl) l₃) noX) :
    CK G A (.ref f) (as ++ rest) l R X := by
  obtain ⟨rfl, hl'⟩ := hl.zip
  refine CK.fn hF hroom.call fun vs hvs s N => ?_
  have hlen := hvs.length
  rw [bind_var hb.h1 hb.h2 hb.h3 hva hb.h5 hb.h6 hb.hn (by rw [List.length_append] at hlen; lia)]
  have hz : (vs.drop xs.length).length = rest.length := by rw [List.length_drop, ← hlen, List.length_append]; lia
  unfold newTuple
  refine wpAny_bind (wpAny_newObj_type ?_ (by show (vs.drop xs.length).toArray.size ≤ sizeLine; rw [List.size_toArray, hz]; exact Nat.le_trans (Nat.le_of_lt hrest) (by decide)))
  have hr : AllIs rest (vs.drop xs.length) := by
    have := hvs.drop xs.length
    rwa [hl', List.drop_left, ← hl'] at this
  have N₁ := N.push (o := { cls := .type "tuple", data := .seq (vs.drop xs.length).toArray }) (ao := .tuple rest) rfl (PL.m1_1 _ (Heap.get?_push_size _ rfl) hr)
  have hz1 : AllIs as (vs.take xs.length) := by
    have := hvs.take xs.length
    rwa [hl', List.take_left, ← hl'] at this
  have ez : xs.zip vs = xs.zip (vs.take xs.length) := by
    have h1 := zip_left xs (vs.take xs.length) (vs.drop xs.length) (by rw [← hz1.length, hl'])
    rw [List.take_append_drop] at h1
    exact h1
  refine wpAny_pure ⟨xs.zip as ++ [(va.arg, .ref s.heap.objs.size)], _, ?_, N₁, ?_, hk _, vals _, [], hi _, ?_, fun L cl env A' hcl hE hA h1 h2 => ?_⟩
  · rw [ez]; exact (BRel.zip hz1).append (.one ⟨rfl, rfl⟩)
  · rw [List.map_append, List.map_fst_zip (by lia)]; exact hnd
  · rw [hck]; exact .nil
  · rw [hck] at hcl
    match cl, hcl with
    | [], _ => exact h _ L env A' hE (by subst hA; exact hroom.deeper) ⟨h1, h2, hA⟩
theorem GAt.meth {K : Frag} {C x dx f : Addr} {kvs : List (Str × AV)} {name : Str} (hK : K.In G.t) (hg : plainGet K C name = true) (hh : hasDictIn K C = true) (ha : findIn K (.ref C) name = some (some (.ref f))) (hf : typeIn K (.ref f) = some (.type "function"))
    (hgf : specialIn K (.ref f) "__get__" = some (some (.builtin "function.__get__"))) (ht : takesIn K (.ref f) = some false) (hc : copiedNames.contains name = false) (h1 : (x, .inst C dx) ∈ l) (h2 : (dx, .idct kvs) ∈ l) (hl : kvs.lookup name = none)
    (h : ∀ b, R (.ref b) ((b, .fields "method" [.ref f, .ref x]) :: l)) : GAt G A name (.ref x) l R X := fun v hv s N => by
  cases hv
  (refine PL.x2_2 (instAt N h1 h2) ?_; rintro es n I hr _)
  have X' := hK.keeps N.keep
  refine get_bind X' I (plainGet_of hg).1 (findObj_fn hh ha hgf ht hc (by show lookIn name (dictOf es n) = _; rw [lookIn_dict, getL_none hr hl])) (plainGet_of hg).2
    (wpAny_call (fn_get (s := { s with toks := s.toks + 1 }) X' hf (handed_on rfl ⟨.ref s.heap.objs.size, _, rfl, ?_, h _⟩)))
  exact (N.toks (s.toks + 1)).push (o := methodObj (.ref f) (.ref x)) (ao := .fields "method" [.ref f, .ref x]) rfl (PL.m1_1 _ (Heap.get?_push_size _ rfl) (.cons rfl (.one rfl)))
theorem callWith_starM {b g x : Addr} {pos : Pos} {t : Sem Value} {u : Sem Value} {o : Obj} {fd : FuncData} (ho : G.t.get? g = some o) (hd : o.data = .func fd)
    (h : Tr G A t AV.Is l (fun a l₁ => Tr G A u AV.Is l₁ (fun c l₂ => ∃ p xs l₃, c = .ref p ∧ Pick (p, .list xs) l₂ l₃ ∧ xs.length < 1000000 ∧ (b, .fields "method" [.ref g, .ref x]) ∈ l₂ ∧ CK G A (.ref g) (.ref x :: (a :: xs)) l₂ R X) X) X) :
    Tr G A (callWith pos (.ref b) [] [(false, t), (true, do let v ← u; standAt pos; pure v)] []) AV.Is l R X := fun s N => by
  refine ks_call (P := fun h => h.get? b = some (methodObj (.ref g) (.ref x)) ∧ ∀ b o, G.t.get? b = some o → h.get? b = some o) rfl (fun h hh => ?_) (evalArgs_plain ?_)
  · refine (PL.m1_1 (.boundFrame) (.inr (.inr rfl)) ((Looks.ld (part := none) hh.1).andThen ?_))
    refine (Looks.ld (part := none) (hh.2 _ _ ho)).andThen ?_
    rw [hd]
    exact .now
  refine spliced_cons (wpAny_mono (h s N) (fun v s₁ ⟨a, l₁, ha, N₁, h₁⟩ => ?_) fun _ _ y => y)
  refine ks_spliced (wpAny_mono (h₁ s₁ N₁) (fun w s₂ hq1 => ?_) fun _ _ y => y)
  obtain ⟨c, l₂, hb, N₂, p, xs, l₃, e, hp, hz, hm, h₂⟩ := hq1
  subst e
  cases hb
  (refine PL.x1_1 (N₂.at hp) ?_; rintro ws ⟨n, hl⟩ hw)
  have hlen : ws.size = xs.length := by rw [← Array.length_toList, ← hw.length]
  have hT : s₂.TypeIs (.ref p) "list" := (PL.m1_1 _ hl rfl)
  unfold StarOf notIterableAtAll
  refine wpAny_bind (wpAny_specialOf hT PySem.F.slot_list_iter.lookup (wpAny_pure ⟨rfl, ?_⟩))
  refine wpAny_collect_seq p (T := "list") (.inl rfl) hl rfl rfl (fun h' hk' => ?_) (by rw [hlen]; exact Nat.le_trans (Nat.le_of_lt hz) (by decide))
  refine spliced_nil ?_
  have N₃ : Rep G { s₂ with heap := h' } l₂ := N₂.ext (tk := s₂.toks) hk'
  (refine PL.x1_1 (N₃.atM hm) ?_; rintro fs hfo hfa)
  (refine PL.x2_2 (get2 hfa) ?_; rintro v1 v2 rfl e1 e2)
  cases e1; cases e2
  refine ⟨⟨hfo, N₃.keep⟩, wpAny_call (ks_codeAny_call_bound hfo ?_)⟩
  exact h₂ (.ref g) _ rfl (.cons rfl (.cons ha (by simpa using hw))) _ N₃
theorem EE.mcallM {o e1 e2 : Expr} {name : Str} {apos pos sp : Pos} (h : EE G A env o l (fun a l₁ => GAt G A name a l₁ (fun f l₂ => ∃ b g x o fd, f = .ref b ∧ G.t.get? g = some o ∧ o.data = .func fd ∧ EE G A env e1 l₂ (fun y l₃ => EE G A env e2 l₃ (fun c l₄ => ∃ p xs l₅, c = .ref p ∧ Pick (p, .list xs) l₄ l₅ ∧ xs.length < 1000000 ∧ (b, .fields "method" [.ref g, .ref x]) ∈ l₄ ∧ CK G A (.ref g) (.ref x :: (y :: xs)) l₄ R X) X) X) X) X)
    (hs : backTo pos (starEach [e1, .Starred e2 sp] env) = [(false, eval e1 env), (true, do let v ← eval e2 env; standAt pos; pure v)] := by with_unfolding_all rfl)
    (he : eval (.Call (.Attribute o name apos) [e1, .Starred e2 sp] [] pos) env = (do
      let ov ← eval o env
      standAt apos.atName
      let (f, first) ← holding [ov] (do pure (← getAttr ov name true, []))
      callWith pos f first (backTo pos (starEach [e1, .Starred e2 sp] env)) (backToKw pos (keywordEach [] env))) := by with_unfolding_all rfl) :
    EE G A env (.Call (.Attribute o name apos) [e1, .Starred e2 sp] [] pos) l R X := fun s N => by
  rw [he]
  refine wpAny_bind (wpAny_mono (h s N) (fun ov s₁ hp => ?_) fun _ _ y => y)
  obtain ⟨a, l₁, ha, N₁, h₁⟩ := hp
  refine wpAny_bind (wpAny_standAt (wpAny_bind (wpAny_holding (wpAny_bind (wpAny_mono (h₁ ov ha s₁ N₁) (fun fv s₂ hq => wpAny_pure ?_) fun _ _ y => y)))))
  obtain ⟨f, l₂, hf, N₂, b, g, x, o, fd, e, ho, hd, h₂⟩ := hq
  subst e
  cases hf
  rw [hs]
  exact callWith_starM ho hd h₂ s₂ N₂
end
end PL
end
section
open PySem PySem.Calls PyProof.Rows PySem.W
set_option autoImplicit false
set_option linter.unusedVariables false
set_option maxRecDepth 100000
set_option maxHeartbeats 0
namespace PL
/-! the plain law of the run: the sorter's graph, its counts, its order -/
noncomputable def ndAt (g : List Nd) (y : Str) : Option Nd := g.find? fun n => decide (n.name = y)
theorem npOf_at (g : List Nd) (y : Str) : npOf g y = ((ndAt g y).map Nd.np).getD 1 := rfl
theorem succOf_at (g : List Nd) (y : Str) : succOf g y = ((ndAt g y).map Nd.succ).getD [] := rfl
theorem ndAt_name {g : List Nd} {y : Str} {n : Nd} (h : ndAt g y = some n) : n.name = y := by
  have := List.find?_some h
  simpa using this
theorem mem_at {g : List Nd} {y : Str} : y ∈ names g ↔ (ndAt g y).isSome = true := by
  unfold names ndAt
  rw [List.find?_isSome]
  simp [List.mem_map]
theorem ndAt_upd (g : List Nd) (x : Str) (f : Nd → Nd) (hf : ∀ n, (f n).name = n.name) (y : Str) : ndAt (updN g x f) y = (ndAt g y).map fun n => if n.name = x then f n else n := by
  unfold ndAt updN
  rw [List.find?_map]
  congr 1
  congr 1
  funext n
  show decide ((if n.name = x then f n else n).name = y) = _
  split
  · rw [hf]
  · rfl
theorem ndAt_get (g : List Nd) (x y : Str) : ndAt (getN g x) y = if y = x ∧ x ∉ names g then some ⟨x, 0, []⟩ else ndAt g y := by
  unfold getN
  by_cases hx : x ∈ names g
  · rw [if_pos hx, if_neg (fun h => h.2 hx)]
  · rw [if_neg hx]
    unfold ndAt
    rw [List.find?_append]
    by_cases hy : y = x
    · subst hy
      rw [if_pos ⟨rfl, hx⟩]
      have : (g.find? fun n => decide (n.name = y)) = none := by
        have h2 : (ndAt g y).isSome = false := by
          cases h : (ndAt g y).isSome with
          | false => rfl
          | true => exact absurd (mem_at.mpr h) hx
        simpa [ndAt] using h2
      rw [this]
      simp
    · rw [if_neg fun h => hy h.1]
      have : ([(⟨x, 0, []⟩ : Nd)].find? fun n => decide (n.name = y)) = none := by
        simp only [List.find?_cons, List.find?_nil]
        rw [decide_eq_false (fun e => hy e.symm)]
      rw [this]
      simp
/-- the counts and the successors, 0 and none where there is no node -/
noncomputable def np0 (g : List Nd) (y : Str) : Int := ((ndAt g y).map Nd.np).getD 0
theorem npOf_np0 {g : List Nd} {y : Str} (h : y ∈ names g) : npOf g y = np0 g y := by
  rw [npOf_at, np0]
  obtain ⟨n, hn⟩ := Option.isSome_iff_exists.mp (mem_at.mp h)
  rw [hn]; rfl
theorem none_at {g : List Nd} {x : Str} (h : x ∉ names g) : ndAt g x = none := by
  cases hn : ndAt g x with
  | none => rfl
  | some n => exact absurd (mem_at.mpr (by rw [hn]; rfl)) h
theorem np0_get (g : List Nd) (x y : Str) : np0 (getN g x) y = np0 g y := by
  unfold np0
  rw [ndAt_get]
  split
  · rename_i h
    rw [h.1, none_at h.2]; rfl
  · rfl
theorem su_get (g : List Nd) (x y : Str) : succOf (getN g x) y = succOf g y := by
  rw [succOf_at, succOf_at, ndAt_get]
  split
  · rename_i h
    rw [h.1, none_at h.2]; rfl
  · rfl
theorem np0_upd_np (g : List Nd) (x : Str) (φ : Int → Int) (y : Str) : np0 (updN g x fun n => { n with np := φ n.np }) y = if y = x ∧ y ∈ names g then φ (np0 g y) else np0 g y := by
  unfold np0
  rw [ndAt_upd g x (fun n => { n with np := φ n.np }) (fun _ => rfl)]
  cases hn : ndAt g y with
  | none =>
    rw [if_neg]
    · rfl
    · intro h
      have := mem_at.mp h.2
      rw [hn] at this; cases this
  | some n =>
    have e := ndAt_name hn
    have hm : y ∈ names g := mem_at.mpr (by rw [hn]; rfl)
    by_cases hy : y = x
    · rw [if_pos ⟨hy, hm⟩]
      simp [e, hy]
    · rw [if_neg fun h => hy h.1]
      simp [e, hy]
theorem su_upd_np (g : List Nd) (x : Str) (φ : Int → Int) (y : Str) : succOf (updN g x fun n => { n with np := φ n.np }) y = succOf g y := by
  rw [succOf_at, succOf_at, ndAt_upd g x (fun n => { n with np := φ n.np }) (fun _ => rfl)]
  cases hn : ndAt g y with
  | none => rfl
  | some n =>
    simp only [Option.map_some]
    split <;> rfl
theorem np0_upd_su (g : List Nd) (x : Str) (φ : List Str → List Str) (y : Str) : np0 (updN g x fun n => { n with succ := φ n.succ }) y = np0 g y := by
  unfold np0
  rw [ndAt_upd g x (fun n => { n with succ := φ n.succ }) (fun _ => rfl)]
  cases hn : ndAt g y with
  | none => rfl
  | some n =>
    simp only [Option.map_some]
    split <;> rfl
theorem su_upd_su (g : List Nd) (x : Str) (φ : List Str → List Str) (y : Str) : succOf (updN g x fun n => { n with succ := φ n.succ }) y = if y = x ∧ y ∈ names g then φ (succOf g y) else succOf g y := by
  rw [succOf_at, succOf_at, ndAt_upd g x (fun n => { n with succ := φ n.succ }) (fun _ => rfl)]
  cases hn : ndAt g y with
  | none =>
    rw [if_neg]
    · rfl
    · intro h
      have := mem_at.mp h.2
      rw [hn] at this; cases this
  | some n =>
    have e := ndAt_name hn
    have hm : y ∈ names g := mem_at.mpr (by rw [hn]; rfl)
    by_cases hy : y = x
    · rw [if_pos ⟨hy, hm⟩]
      simp [e, hy]
    · rw [if_neg fun h => hy h.1]
      simp [e, hy]
/-! adding -/
theorem np0_addE (x : Str) (g : List Nd) (p y : Str) : np0 (addE x g p) y = np0 g y := by
  unfold addE; rw [np0_upd_su _ _ (fun s => s ++ [x]), np0_get]
theorem su_addE (x : Str) (g : List Nd) (p y : Str) : succOf (addE x g p) y = succOf g y ++ if y = p then [x] else [] := by
  unfold addE
  rw [su_upd_su _ _ (fun s => s ++ [x]), su_get]
  by_cases hy : y = p
  · subst hy
    rw [if_pos ⟨rfl, mem_get _ _⟩, if_pos rfl]
  · rw [if_neg fun h => hy h.1, if_neg hy, List.append_nil]
theorem mem_addE (x : Str) (g : List Nd) (p y : Str) : y ∈ names (addE x g p) ↔ y ∈ names g ∨ y = p := by
  rw [names_addE, names_get]
  split
  · rename_i h
    exact ⟨.inl, fun h' => h'.elim id fun e => e ▸ h⟩
  · simp
theorem fold_addE (x : Str) : ∀ (ps : List Str) (g : List Nd) (y : Str), ps.Nodup → np0 (ps.foldl (addE x) g) y = np0 g y ∧ succOf (ps.foldl (addE x) g) y = succOf g y ++ (if y ∈ ps then [x] else []) ∧ (y ∈ names (ps.foldl (addE x) g) ↔ y ∈ names g ∨ y ∈ ps)
  | [], g, y, _ => (PL.m0_2 rfl (by simp) (by simp))
  | p :: ps, g, y, hd => by
    obtain ⟨hp, hd⟩ := List.nodup_cons.mp hd
    (refine PL.x0_2 (fold_addE x ps (addE x g p) y hd) ?_; rintro h1 h2 h3)
    simp only [List.foldl_cons]
    refine (PL.m0_2 (by rw [h1, np0_addE]) ?_ ?_)
    · rw [h2, su_addE]
      by_cases e : y = p
      · subst e
        rw [if_pos rfl, if_neg hp, if_pos List.mem_cons_self, List.append_nil]
      · rw [if_neg e, List.append_nil]
        simp [List.mem_cons, e]
    · rw [h3, mem_addE, List.mem_cons, or_assoc]
theorem addS_facts (g : List Nd) (x : Str) (ps : List Str) (y : Str) (hd : ps.Nodup) : np0 (addS g x ps) y = np0 g y + (if y = x then (ps.length : Int) else 0) ∧ succOf (addS g x ps) y = succOf g y ++ (if y ∈ ps then [x] else []) ∧ (y ∈ names (addS g x ps) ↔ y ∈ names g ∨ y = x ∨ y ∈ ps) := by
  (refine PL.x0_2 (fold_addE x ps (updN (getN g x) x fun n => { n with np := n.np + ps.length }) y hd) ?_; rintro h1 h2 h3)
  unfold addS
  refine (PL.m0_2 ?_ ?_ ?_)
  · rw [h1, np0_upd_np _ _ (fun i => i + ps.length), np0_get]
    by_cases e : y = x
    · subst e
      rw [if_pos ⟨rfl, mem_get _ _⟩, if_pos rfl]
    · rw [if_neg fun h => e h.1, if_neg e, Int.add_zero]
  · rw [h2, su_upd_np _ _ (fun i => i + ps.length), su_get]
  · rw [h3, names_upd (getN g x) x (fun n => { n with np := n.np + ps.length }) (fun _ => rfl), names_get]
    split
    · rename_i h
      constructor
      · exact fun h' => h'.elim .inl fun q => .inr (.inr q)
      · exact fun h' => h'.elim .inl fun q => q.elim (fun e => .inl (e ▸ h)) .inr
    · simp [or_assoc]
/-! handing out, finishing -/
theorem outS_facts : ∀ (ys : List Str) (g : List Nd), names (outS g ys) = names g ∧ (∀ y, succOf (outS g ys) y = succOf g y) ∧ ∀ y, y ∈ names g → np0 (outS g ys) y = if y ∈ ys then -1 else np0 g y
  | [], g => (PL.m0_2 rfl (fun _ => rfl) (fun _ _ => by simp [outS]))
  | x :: ys, g => by
    (refine PL.x0_2 (outS_facts ys (updN g x fun n => { n with np := -1 })) ?_; rintro h1 h2 h3)
    have e0 : names (updN g x fun n => { n with np := -1 }) = names g := names_upd g x (fun n => { n with np := -1 }) (fun _ => rfl)
    have e : outS g (x :: ys) = outS (updN g x fun n => { n with np := -1 }) ys := rfl
    rw [e]
    refine (PL.m0_2 (by rw [h1, e0]) (fun y => by rw [h2, su_upd_np g x (fun _ => -1)]) (fun y hy => ?_))
    rw [h3 y (by rw [e0]; exact hy), np0_upd_np g x (fun _ => -1)]
    by_cases q : y ∈ ys
    · rw [if_pos q, if_pos (List.mem_cons_of_mem _ q)]
    · rw [if_neg q]
      by_cases e : y = x
      · rw [if_pos ⟨e, hy⟩, if_pos (by rw [e]; exact List.mem_cons_self)]
      · rw [if_neg fun h => e h.1, if_neg]
        intro h
        rcases List.mem_cons.mp h with h | h
        · exact e h
        · exact q h
/-! the whole graph -/
end PL
end
section
open PySem PySem.Calls PyProof.Rows PySem.W
set_option autoImplicit false
set_option linter.unusedVariables false
set_option maxRecDepth 100000
set_option maxHeartbeats 0
namespace PL
/-! the greedy order, and that the run keeps it -/
section
variable {P : List GO}
theorem slt_eq {a b : Str} (h1 : HP.slt a b = false) (h2 : HP.slt b a = false) : a = b := by
  have h1' : ¬ a.cps.toList < b.cps.toList := of_decide_eq_false h1
  have h2' : ¬ b.cps.toList < a.cps.toList := of_decide_eq_false h2
  have e : a.cps.toList = b.cps.toList := List.le_antisymm h2' h1'
  cases a; cases b
  simp only [Str.mk.injEq]
  exact Array.toList_inj.mp e
/-! the states of the run -/
theorem at_of_mem : ∀ {g : List Nd}, (names g).Nodup → ∀ {n : Nd}, n ∈ g → ndAt g n.name = some n
  | [], _, n, hm => by cases hm
  | q :: g, h, n, hm => by
    unfold names at h
    rw [List.map_cons, List.nodup_cons] at h
    unfold ndAt
    rw [List.find?_cons]
    rcases List.mem_cons.mp hm with rfl | hm
    · rw [decide_eq_true rfl]
    · rw [decide_eq_false fun e => h.1 (by rw [e]; exact List.mem_map.mpr (PL.m1_1 n hm rfl))]
      exact at_of_mem h.2 hm
noncomputable def readyB (g : List Nd) : List Str := (g.filter fun n => n.np == 0).map Nd.name
theorem mem_ready {g : List Nd} (h : (names g).Nodup) (y : Str) : y ∈ readyB g ↔ y ∈ names g ∧ np0 g y = 0 := by
  unfold readyB
  rw [List.mem_map]
  constructor
  · (refine PL.j1_1 ?_; rintro n hn rfl)
    rw [List.mem_filter] at hn
    refine ⟨List.mem_map.mpr (PL.m1_1 n hn.1 rfl), ?_⟩
    unfold np0
    rw [at_of_mem h hn.1]
    exact beq_iff_eq.mp hn.2
  · rintro ⟨hy, h0⟩
    (refine PL.x1_1 (List.mem_map.mp hy) ?_; rintro n hn rfl)
    unfold np0 at h0
    rw [at_of_mem h hn] at h0
    exact (PL.m1_1 n (List.mem_filter.mpr ⟨hn, beq_iff_eq.mpr h0⟩) rfl)
end
end PL
end
section
open PySem PySem.Calls PyProof.Rows PySem.W
set_option autoImplicit false
set_option linter.unusedVariables false
set_option maxRecDepth 100000
set_option maxHeartbeats 0
namespace PL
/-! law 1's own needs -/
noncomputable def findOf (x y : Str) : Int := match Builtin.Str.occurrences x y 0 x.length 1 with
  | i :: _ => (i : Int)
  | [] => -1
section
variable {G : Gd} {A : Around} {env : Env} {l l' : Led} {X : Xp} {R : AV → Led → Prop}
theorem CC.find {x y : Str} (h : R (.int (findOf x y)) l) : CC G A (.lit (.builtin "str.find")) [.str x, .str y] l R X := fun f vs hf hvs s N => by
  cases hf
  obtain ⟨v, u, rfl, ⟨t, rfl⟩, ⟨t', rfl⟩⟩ := get2 hvs
  refine call_gives F.slot_str_find (typeIs_str _ _ _) F.entry_str_find (F.args_str_find_2 _ _) (gives_str_find x y t t') ?_
  exact ⟨.int (findOf x y), l, ⟨_, rfl⟩, N.toks _, h⟩
theorem strVals : ∀ {xs : List Str} {vs : List Value}, AllIs (xs.map .str) vs → ∃ ps : List (Str × Tok), vs = strValues ps ∧ ps.map (·.1) = xs
  | [], vs, h => by cases h.nilL; exact ⟨[], rfl, rfl⟩
  | x :: xs, vs, h => by
    have h' : AllIs (AV.str x :: xs.map .str) vs := h
    obtain ⟨v, us, rfl, ⟨t, rfl⟩, hu⟩ := h'.consL
    obtain ⟨ps, rfl, hp⟩ := strVals hu
    exact ⟨(x, t) :: ps, rfl, by rw [List.map_cons, hp]⟩
theorem CC.join {p : Addr} {x : Str} {xs : List Str} (hp : (p, .list (xs.map .str)) ∈ l) (hok : JoinOk x xs = true) (h : R (.str (Txt.join x xs)) l) : CC G A (.lit (.builtin "str.join")) [.str x, .ref p] l R X := fun f vs hf hvs s N => by
  cases hf
  obtain ⟨v, u, rfl, ⟨t, rfl⟩, hu⟩ := get2 hvs
  cases hu
  obtain ⟨ws, hl, ha⟩ := N.atM hp
  obtain ⟨ps, e1, e2⟩ := strVals ha
  have hl' : s.heap.IsList p (strValues ps).toArray := by rw [← e1]; simpa using hl.isList
  exact SC.join hl' e2 hok fun t' k => ⟨.str (Txt.join x xs), l, ⟨t', rfl⟩, N.toks k, h⟩
end
end PL
end
section
open PySem PySem.Calls PyProof.Rows PySem.W
set_option autoImplicit false
set_option linter.unusedVariables false
set_option maxRecDepth 100000
set_option maxHeartbeats 0
namespace PL
/-! law 1: the plain law of the run, whatever the sorter is told -/
noncomputable abbrev Op := Str × List Str
noncomputable def addOps (ops : List Op) (g : List Nd) : List Nd := ops.foldl (fun g o => addS g o.1 o.2) g
noncomputable def plO (ops : List Op) (y : Str) : List Str := ops.flatMap fun o => if o.1 = y then o.2 else []
noncomputable def slO (ops : List Op) (z : Str) : List Str := (ops.filter fun o => decide (z ∈ o.2)).map (·.1)
theorem mem_plO {ops : List Op} {y z : Str} : z ∈ plO ops y ↔ ∃ o ∈ ops, o.1 = y ∧ z ∈ o.2 := by
  unfold plO
  rw [List.mem_flatMap]
  constructor
  · (refine PL.j1_1 ?_; rintro o ho h)
    by_cases e : o.1 = y
    · rw [if_pos e] at h; exact (PL.m1_2 o ho e h)
    · rw [if_neg e] at h; cases h
  · (refine PL.j1_2 ?_; rintro o ho e h)
    exact (PL.m1_1 o ho (by rw [if_pos e]; exact h))
theorem mem_slO {ops : List Op} {y z : Str} : y ∈ slO ops z ↔ z ∈ plO ops y := by
  rw [mem_plO]
  unfold slO
  rw [List.mem_map]
  constructor
  · (refine PL.j1_1 ?_; rintro o ho e)
    rw [List.mem_filter] at ho
    exact (PL.m1_2 o ho.1 e (of_decide_eq_true ho.2))
  · (refine PL.j1_2 ?_; rintro o ho e h)
    exact (PL.m1_1 o (List.mem_filter.mpr ⟨ho, decide_eq_true h⟩) e)
theorem addOps_gen : ∀ (ops : List Op) (g : List Nd), (∀ o ∈ ops, o.2.Nodup) → ∀ y, np0 (addOps ops g) y = np0 g y + (plO ops y).length ∧ succOf (addOps ops g) y = succOf g y ++ slO ops y ∧ (y ∈ names (addOps ops g) ↔ y ∈ names g ∨ ∃ o ∈ ops, y = o.1 ∨ y ∈ o.2)
  | [], g, _, y => (PL.m0_2 (by simp [addOps, plO]) (by simp [addOps, slO]) (by simp [addOps]))
  | q :: ops, g, hd, y => by
    (refine PL.x0_2 (addOps_gen ops (addS g q.1 q.2) (fun o ho => hd o (List.mem_cons_of_mem _ ho)) y) ?_; rintro h1 h2 h3)
    (refine PL.x0_2 (addS_facts g q.1 q.2 y (hd q List.mem_cons_self)) ?_; rintro f1 f2 f3)
    have e : addOps (q :: ops) g = addOps ops (addS g q.1 q.2) := rfl
    have e2 : plO (q :: ops) y = (if q.1 = y then q.2 else []) ++ plO ops y := rfl
    rw [e]
    refine (PL.m0_2 ?_ ?_ ?_)
    · rw [h1, f1, e2, List.length_append]
      by_cases c : y = q.1
      · rw [if_pos c, if_pos c.symm]; lia
      · rw [if_neg c, if_neg fun d => c d.symm, List.length_nil]; lia
    · rw [h2, f2, List.append_assoc]
      congr 1
      unfold slO
      rw [List.filter_cons]
      by_cases c : y ∈ q.2
      · rw [if_pos c, if_pos (decide_eq_true c)]; rfl
      · rw [if_neg c, if_neg (by simpa using c)]; rfl
    · rw [h3, f3]
      constructor
      · rintro ((h | h) | ⟨o, ho, h⟩)
        · exact .inl h
        · exact .inr (PL.m1_1 q List.mem_cons_self h)
        · exact .inr (PL.m1_1 o (List.mem_cons_of_mem _ ho) h)
      · rintro (h | ⟨o, ho, h⟩)
        · exact .inl (.inl h)
        · rcases List.mem_cons.mp ho with rfl | ho
          · exact .inl (.inr h)
          · exact .inr (PL.m1_1 o ho h)
theorem count_slO : ∀ (ops : List Op) (y z : Str), (∀ o ∈ ops, o.2.Nodup) → (slO ops z).count y = (plO ops y).count z
  | [], _, _, _ => rfl
  | q :: ops, y, z, hd => by
    have ih := count_slO ops y z fun o ho => hd o (List.mem_cons_of_mem _ ho)
    have e2 : plO (q :: ops) y = (if q.1 = y then q.2 else []) ++ plO ops y := rfl
    have e1 : slO (q :: ops) z = (if z ∈ q.2 then [q.1] else []) ++ slO ops z := by
      unfold slO
      rw [List.filter_cons]
      by_cases c : z ∈ q.2
      · rw [if_pos c, if_pos (decide_eq_true c)]; rfl
      · rw [if_neg c, if_neg (by simpa using c)]; rfl
    rw [e1, e2, List.count_append, List.count_append, ih]
    congr 1
    by_cases c : z ∈ q.2 <;> by_cases d : q.1 = y
    · rw [if_pos c, if_pos d, d, List.count_singleton_self, List.Nodup.count (hd q List.mem_cons_self), if_pos c]
    · rw [if_pos c, if_neg d, List.count_nil, List.count_eq_zero]
      simp only [List.mem_singleton]
      exact fun e => d e.symm
    · rw [if_neg c, if_pos d, List.count_nil, eq_comm, List.count_eq_zero]; exact c
    · rw [if_neg c, if_neg d]; rfl
theorem decM : ∀ (S : List Str) (g : List Nd) (ys : List Str), (∀ s ∈ S, s ∈ names g) → names (S.foldl decS (g, ys)).1 = names g ∧ (∀ y, succOf (S.foldl decS (g, ys)).1 y = succOf g y) ∧
    (∀ y ∈ names g, np0 (S.foldl decS (g, ys)).1 y = np0 g y - (S.count y : Int)) ∧ ∃ zs, (S.foldl decS (g, ys)).2 = ys ++ zs ∧ zs.Nodup ∧ ∀ y, y ∈ zs ↔ 0 < np0 g y ∧ np0 g y ≤ (S.count y : Int)
  | [], g, ys, _ => ⟨rfl, fun _ => rfl, fun _ _ => by simp, [], by simp, List.nodup_nil, fun y => ⟨fun h => (by cases h), fun h => (by have h1 := h.1; have h2 := h.2; rw [List.count_nil] at h2; lia)⟩⟩
  | s :: S, g, ys, hm => by
    have e0 : names (updN g s fun n => { n with np := n.np - 1 }) = names g := names_upd g s (fun n => { n with np := n.np - 1 }) (fun _ => rfl)
    have hsg : s ∈ names g := hm s List.mem_cons_self
    obtain ⟨h1, h2, h3, zs, h4, h5, h6⟩ := decM S (updN g s fun n => { n with np := n.np - 1 }) (if npOf g s - 1 = 0 then ys ++ [s] else ys) (fun t ht => by rw [e0]; exact hm t (List.mem_cons_of_mem _ ht))
    have e : (s :: S).foldl decS (g, ys) = S.foldl decS (updN g s fun n => { n with np := n.np - 1 }, if npOf g s - 1 = 0 then ys ++ [s] else ys) := rfl
    have en : ∀ y, np0 (updN g s fun n => { n with np := n.np - 1 }) y = if y = s then np0 g y - 1 else np0 g y := fun y => by
      rw [np0_upd_np g s (fun i => i - 1)]
      by_cases c : y = s
      · subst c; rw [if_pos ⟨rfl, hsg⟩, if_pos rfl]
      · rw [if_neg fun h => c h.1, if_neg c]
    rw [e]
    refine ⟨by rw [h1, e0], fun y => by rw [h2, su_upd_np g s (fun i => i - 1)], fun y hy => ?_, (if npOf g s - 1 = 0 then [s] else []) ++ zs, ?_, ?_, fun y => ?_⟩
    · rw [h3 y (by rw [e0]; exact hy), en]
      by_cases c : y = s
      · subst c; rw [if_pos rfl, List.count_cons_self]; lia
      · rw [if_neg c, List.count_cons_of_ne fun d => c d.symm]
    · rw [h4]
      split
      · rw [List.append_assoc]
      · rw [List.nil_append]
    · rw [npOf_np0 hsg]
      split
      · rename_i q
        rw [List.singleton_append, List.nodup_cons]
        refine ⟨fun h => ?_, h5⟩
        have := ((h6 s).mp h).1
        rw [en, if_pos rfl] at this
        lia
      · exact h5
    · rw [List.mem_append, h6, en, npOf_np0 hsg]
      by_cases c : y = s
      · subst c
        rw [if_pos rfl, List.count_cons_self]
        by_cases q : np0 g y - 1 = 0
        · rw [if_pos q]
          exact ⟨fun _ => ⟨by lia, by lia⟩, fun _ => .inl (List.mem_singleton.mpr rfl)⟩
        · rw [if_neg q]
          constructor
          · rintro (h | h)
            · cases h
            · exact ⟨by lia, by lia⟩
          · exact fun h => .inr ⟨by lia, by lia⟩
      · rw [if_neg c, List.count_cons_of_ne fun d => c d.symm]
        constructor
        · rintro (h | h)
          · split at h
            · exact absurd (List.mem_singleton.mp h) c
            · cases h
          · exact h
        · exact .inr
theorem doneM {g : List Nd} {ys : List Str} {m : Str} (hmg : m ∈ names g) (hs : ∀ s ∈ succOf g m, s ∈ names g) : names (doneS (g, ys) m).1 = names g ∧ (∀ y, succOf (doneS (g, ys) m).1 y = succOf g y) ∧
    (∀ y ∈ names g, np0 (doneS (g, ys) m).1 y = (if y = m then -2 else np0 g y) - ((succOf g m).count y : Int)) ∧ ∃ zs, (doneS (g, ys) m).2 = ys ++ zs ∧ zs.Nodup ∧ ∀ y, y ∈ zs ↔ y ≠ m ∧ 0 < np0 g y ∧ np0 g y ≤ ((succOf g m).count y : Int) := by
  have e0 : names (updN g m fun n => { n with np := -2 }) = names g := names_upd g m (fun n => { n with np := -2 }) (fun _ => rfl)
  have en : ∀ y, np0 (updN g m fun n => { n with np := -2 }) y = if y = m then -2 else np0 g y := fun y => by
    rw [np0_upd_np g m (fun _ => -2)]
    by_cases e : y = m
    · subst e; rw [if_pos ⟨rfl, hmg⟩, if_pos rfl]
    · rw [if_neg fun h => e h.1, if_neg e]
  obtain ⟨h1, h2, h3, zs, h4, h5, h6⟩ := decM (succOf g m) (updN g m fun n => { n with np := -2 }) ys (fun s hs' => by rw [e0]; exact hs s hs')
  have e : doneS (g, ys) m = (succOf g m).foldl decS (updN g m fun n => { n with np := -2 }, ys) := rfl
  rw [e]
  refine ⟨by rw [h1, e0], fun y => by rw [h2, su_upd_np g m (fun _ => -2)], fun y hy => ?_, zs, h4, h5, fun y => ?_⟩
  · rw [h3 y (by rw [e0]; exact hy), en y]
  · rw [h6, en]
    by_cases c : y = m
    · rw [if_pos c]; exact ⟨fun h => by lia, fun h => absurd c h.1⟩
    · rw [if_neg c]; exact ⟨fun h => ⟨c, h⟩, fun h => h.2⟩
/-! the greedy order -/
noncomputable def AvO (nms : List Str) (ops : List Op) (dl : List Str) (y : Str) : Prop := y ∈ nms ∧ y ∉ dl ∧ ∀ z ∈ plO ops y, z ∈ dl
inductive DueO (nms : List Str) (ops : List Op) : Nat → List Str → Prop where
  | zero : DueO nms ops 0 []
  | succ {k : Nat} {dl : List Str} {m : Str} : DueO nms ops k dl → AvO nms ops dl m → (∀ b, AvO nms ops dl b → HP.slt b m = false) → DueO nms ops (k + 1) (dl ++ [m])
  | stay {k : Nat} {dl : List Str} : DueO nms ops k dl → (∀ b, ¬ AvO nms ops dl b) → DueO nms ops (k + 1) dl
section
variable {nms : List Str} {ops : List Op}
theorem DueO.unique {k : Nat} {a : List Str} (ha : DueO nms ops k a) : ∀ {b : List Str}, DueO nms ops k b → a = b := by
  induction ha with
  | zero => intro b hb; cases hb; rfl
  | @succ k dl m _ hm hmin ih =>
    intro b hb
    cases hb with
    | @succ _ dl' m' h' hm' hmin' =>
      obtain rfl := ih h'
      rw [slt_eq (hmin' m hm) (hmin m' hm')]
    | stay h' hno =>
      obtain rfl := ih h'
      exact absurd hm (hno m)
  | @stay k dl _ hno ih =>
    intro b hb
    cases hb with
    | @succ _ dl' m' h' hm' hmin' =>
      obtain rfl := ih h'
      exact absurd hm' (hno m')
    | stay h' _ => exact ih h'
theorem DueO.facts {k : Nat} {dl : List Str} (h : DueO nms ops k dl) : dl.Nodup ∧ (∀ y ∈ dl, y ∈ nms) ∧ dl.length ≤ k := by
  induction h with
  | zero => exact (PL.m0_2 List.nodup_nil (fun y hy => (by cases hy)) (Nat.le_refl _))
  | @succ k dl m _ hm _ ih =>
    refine (PL.m0_2 ?_ (fun y hy => ?_) (by rw [List.length_append]; have := ih.2.2; simp; omega))
    · rw [List.nodup_append]
      refine (PL.m0_2 ih.1 (by simp) (fun a ha b hb e => ?_))
      simp only [List.mem_singleton] at hb
      exact hm.2.1 (by rw [← hb, ← e]; exact ha)
    · rcases List.mem_append.mp hy with hy | hy
      · exact ih.2.1 y hy
      · rw [List.mem_singleton.mp hy]; exact hm.1
  | stay _ _ ih => exact (PL.m0_2 ih.1 ih.2.1 (Nat.le_succ_of_le ih.2.2))
theorem DueO.ring {k : Nat} {dl C : List Str} (h : DueO nms ops k dl) (hC : ∀ y ∈ C, ∃ z ∈ C, y ∈ slO ops z) : ∀ y ∈ C, y ∉ dl := by
  induction h with
  | zero => exact fun y _ h => by cases h
  | @succ k dl m _ hm _ ih =>
    intro y hy h
    rcases List.mem_append.mp h with h | h
    · exact ih y hy h
    · rw [List.mem_singleton] at h
      subst h
      (refine PL.x1_1 (hC y hy) ?_; rintro z hz hs)
      exact ih z hz (hm.2.2 z (mem_slO.mp hs))
  | stay _ _ ih => exact ih
theorem DueO.ring_lt {k : Nat} {dl C : List Str} (hn : nms.Nodup) (h : DueO nms ops k dl) (h0 : C ≠ []) (h1 : ∀ y ∈ C, y ∈ nms) (hC : ∀ y ∈ C, ∃ z ∈ C, y ∈ slO ops z) : dl.length < nms.length := by
  obtain ⟨c, hc⟩ := List.exists_mem_of_ne_nil _ h0
  have h2 := h.ring hC c hc
  have h3 := h.facts
  have h4 : (c :: dl).Nodup := List.nodup_cons.mpr ⟨h2, h3.1⟩
  have := FC.nodup_len h4 (m := nms) fun x hx => by
    rcases List.mem_cons.mp hx with rfl | hx
    · exact h1 _ hc
    · exact h3.2.1 x hx
  rw [List.length_cons] at this
  assumption
theorem topo_rank {sc : Str → List Str} {f : List Str} (h : FC.Topo sc f) : (∀ z ∈ f, ∀ s ∈ sc z, s ∈ f) ∧ ∃ d : Str → Nat, ∀ z ∈ f, ∀ s ∈ sc z, d s < d z := by
  induction h with
  | nil => exact ⟨fun z hz => (by cases hz), fun _ => 0, fun z hz => (by cases hz)⟩
  | @cons x f hx _ ih =>
    obtain ⟨hc, d, hd⟩ := ih
    refine ⟨fun z hz s hs => ?_, ?_⟩
    · rcases List.mem_cons.mp hz with rfl | hz
      · exact List.mem_cons_of_mem _ (hx s hs)
      · exact List.mem_cons_of_mem _ (hc z hz s hs)
    · by_cases hxf : x ∈ f
      · exact ⟨d, fun z hz s hs => by
          rcases List.mem_cons.mp hz with rfl | hz
          · exact hd _ hxf s hs
          · exact hd z hz s hs⟩
      · have hmax : ∀ l : List Str, ∃ M, ∀ s ∈ l, d s < M := fun l => by
          induction l with
          | nil => exact ⟨0, fun s hs => by cases hs⟩
          | cons a l ih =>
            obtain ⟨M, hM⟩ := ih
            refine ⟨M + d a + 1, fun s hs => ?_⟩
            rcases List.mem_cons.mp hs with rfl | hs
            · lia
            · have := hM s hs; lia
        obtain ⟨M, hM⟩ := hmax f
        refine ⟨fun y => if y = x then M else d y, fun z hz s hs => ?_⟩
        rcases List.mem_cons.mp hz with rfl | hz
        · have h1 := hx s hs
          show (if s = z then M else d s) < if z = z then M else d z
          rw [if_pos rfl, if_neg (show ¬ s = z from fun e => hxf (e ▸ h1))]
          exact hM s h1
        · have h1 := hc z hz s hs
          show (if s = x then M else d s) < if z = x then M else d z
          rw [if_neg (show ¬ s = x from fun e => hxf (e ▸ h1)), if_neg (show ¬ z = x from fun e => hxf (e ▸ hz))]
          exact hd z hz s hs
theorem exists_max {d : Str → Nat} : ∀ {l : List Str}, l ≠ [] → ∃ b ∈ l, ∀ c ∈ l, d c ≤ d b
  | [], h => absurd rfl h
  | [a], _ => (PL.m1_1 a List.mem_cons_self (fun c hc => by rw [List.mem_singleton.mp hc]; exact Nat.le_refl _))
  | a :: b :: l, _ => by
    (refine PL.x1_1 (exists_max (d := d) (l := b :: l) (by simp)) ?_; rintro m hm h)
    by_cases q : d a ≤ d m
    · refine (PL.m1_1 m (List.mem_cons_of_mem _ hm) (fun c hc => ?_))
      rcases List.mem_cons.mp hc with rfl | hc
      · exact q
      · exact h c hc
    · refine (PL.m1_1 a List.mem_cons_self (fun c hc => ?_))
      rcases List.mem_cons.mp hc with rfl | hc
      · exact Nat.le_refl _
      · have := h c hc; lia
theorem avail {fin : List Str} (ht : FC.Topo (slO ops) fin) (hf : ∀ y ∈ nms, y ∈ fin) (hp : ∀ y, ∀ z ∈ plO ops y, z ∈ nms) {dl : List Str} (hl : ∃ y ∈ nms, y ∉ dl) : ∃ b, AvO nms ops dl b := by
  obtain ⟨_, d, hd⟩ := topo_rank ht
  (revert hl; refine PL.j1_1 ?_; rintro y hy hyd)
  (refine PL.x1_1 (exists_max (d := d) (l := nms.filter fun y => decide (y ∉ dl)) (List.ne_nil_of_mem (List.mem_filter.mpr ⟨hy, decide_eq_true hyd⟩))) ?_; rintro b hb hm)
  rw [List.mem_filter] at hb
  refine (PL.m1_2 b hb.1 (of_decide_eq_true hb.2) (fun z hz => ?_))
  by_cases q : z ∈ dl
  · exact q
  · have h1 := hp b z hz
    have h2 := hm z (List.mem_filter.mpr ⟨h1, decide_eq_true q⟩)
    have h3 := hd z (hf z h1) b (mem_slO.mpr hz)
    lia
theorem DueO.whole {k : Nat} {dl fin : List Str} (h : DueO nms ops k dl) (ht : FC.Topo (slO ops) fin) (hf : ∀ y ∈ nms, y ∈ fin) (hp : ∀ y, ∀ z ∈ plO ops y, z ∈ nms) (hn : nms.Nodup) : k ≤ nms.length → dl.length = k := by
  induction h with
  | zero => exact fun _ => rfl
  | succ _ _ _ ih => intro hk; rw [List.length_append, ih (by lia)]; rfl
  | @stay k dl h hno ih =>
    intro hk
    have h1 := ih (by lia)
    have : ∃ y ∈ nms, y ∉ dl := by
      by_cases q : ∃ y ∈ nms, y ∉ dl
      · exact q
      · have h2 : ∀ y ∈ nms, y ∈ dl := fun y hy => by
          by_cases r : y ∈ dl
          · exact r
          · exact absurd (PL.m1_1 y hy r) q
        have := FC.nodup_len hn h2
        lia
    obtain ⟨b, hb⟩ := avail ht hf hp this
    exact absurd hb (hno b)
/-! the states of the run -/
structure JO (nms : List Str) (ops : List Op) (k : Nat) (g : List Nd) (ys hp ord : List Str) : Prop where
  nd : (names g).Nodup
  nm : ∀ y, y ∈ names g ↔ y ∈ nms
  su : ∀ y, succOf g y = slO ops y
  due : DueO nms ops k ord
  np : ∀ t ∈ nms, t ∉ ord → t ∉ hp → np0 g t = (((plO ops t).filter fun z => decide (z ∉ ord)).length : Int)
  hpn : ∀ y ∈ hp, np0 g y = -1
  avn : (hp ++ ys).Nodup
  av : ∀ y, y ∈ hp ++ ys ↔ AvO nms ops ord y
theorem filt_step {L ord : List Str} {m : Str} (hm : m ∉ ord) : (L.filter fun z => decide (z ∉ ord)).length = (L.filter fun z => decide (z ∉ ord ++ [m])).length + L.count m := by
  induction L with
  | nil => rfl
  | cons x L ih =>
    rw [List.filter_cons, List.filter_cons]
    by_cases e : x = m
    · subst e
      rw [if_pos (decide_eq_true hm), if_neg (by simp), List.length_cons, List.count_cons_self, ih]; lia
    · rw [List.count_cons_of_ne e]
      by_cases q : x ∈ ord
      · rw [if_neg (by simpa using q), if_neg (by simp [q]), ih]
      · rw [if_pos (decide_eq_true q), if_pos (by simp [q, e]), List.length_cons, List.length_cons, ih]; lia
theorem JO.step (hn : nms.Nodup) (hz : nms.length ≤ 8) (hoz : ops.length < 800) (hod : ∀ o ∈ ops, o.2.Nodup) (hp1 : ∀ y, ∀ z ∈ plO ops y, z ∈ nms ∧ y ∈ nms) {k : Nat} {g : List Nd} {ys hp ord : List Str} (H : JO nms ops k g ys hp ord) :
    (names g).Nodup ∧ (∀ y ∈ ys, y ∈ names g) ∧ ys.length < 900 ∧ hp.length < 900 ∧ ord.length < 900 ∧ ∀ hp' : List Str, hp'.Perm (hp ++ ys) → (hp' = [] → JO nms ops (k + 1) (outS g ys) [] hp' ord) ∧ ∀ m rest, (m :: rest).Perm hp' → (∀ b ∈ hp', HP.slt b m = false) →
    (names (outS g ys)).Nodup ∧ m ∈ names (outS g ys) ∧ npOf (outS g ys) m = -1 ∧ (∀ s ∈ succOf (outS g ys) m, s ∈ names (outS g ys)) ∧ (succOf (outS g ys) m).length < 850 ∧ ∀ g2 ys2, (g2, ys2) = doneS (outS g ys, []) m → JO nms ops (k + 1) g2 ys2 rest (ord ++ [m]) := by
  have hav : ∀ y ∈ hp ++ ys, y ∈ nms := fun y hy => ((H.av y).mp hy).1
  have hlen := FC.nodup_len H.avn hav
  rw [List.length_append] at hlen
  (refine PL.x0_2 (outS_facts ys g) ?_; rintro o1 o2 o3)
  have hdf := H.due.facts
  have hdl := FC.nodup_len hdf.1 hdf.2.1
  refine (PL.m0_5 H.nd (fun y hy => (H.nm y).mpr (hav y (List.mem_append_right _ hy))) (by lia) (by lia) (by lia) (fun hp' hpp => ⟨fun e => ?_, fun m rest hmr hmin => ?_⟩))
  · subst e
    have e2 := hpp.nil_eq
    obtain ⟨rfl, rfl⟩ := List.append_eq_nil_iff.mp e2.symm
    exact ⟨H.nd, H.nm, H.su, .stay H.due fun b hb => (by have := (H.av b).mpr hb; cases this), H.np, H.hpn, H.avn, H.av⟩
  · have hmh : m ∈ hp' := hmr.mem_iff.mp List.mem_cons_self
    have hma : m ∈ hp ++ ys := hpp.mem_iff.mp hmh
    have hAv := (H.av m).mp hma
    (revert hAv; refine PL.j0_2 ?_; rintro m1 m2 m3)
    have hmg : m ∈ names g := (H.nm m).mpr m1
    have hmo : m ∈ names (outS g ys) := by rw [o1]; exact hmg
    have hg1 : ∀ y ∈ hp ++ ys, np0 (outS g ys) y = -1 := fun y hy => by
      rw [o3 y ((H.nm y).mpr (hav y hy))]
      by_cases q : y ∈ ys
      · rw [if_pos q]
      · rw [if_neg q]
        exact H.hpn y ((List.mem_append.mp hy).elim id fun h => absurd h q)
    have hsu : succOf (outS g ys) m = slO ops m := by rw [o2, H.su]
    have hsn : ∀ s ∈ succOf (outS g ys) m, s ∈ names (outS g ys) := fun s hs => by
      rw [hsu] at hs
      rw [o1]
      exact (H.nm s).mpr (hp1 s m (mem_slO.mp hs)).2
    have hsl : (succOf (outS g ys) m).length < 850 := by
      rw [hsu]
      unfold slO
      rw [List.length_map]
      have := List.length_filter_le (fun o : Op => decide (m ∈ o.2)) ops
      lia
    refine (PL.m0_5 (by rw [o1]; exact H.nd) hmo (by rw [npOf_np0 hmo]; exact hg1 m hma) hsn hsl (fun g2 ys2 hd2 => ?_))
    obtain ⟨d1, d2, d3, zs, d4, d5, d6⟩ := doneM (ys := []) hmo hsn
    have e1 : g2 = (doneS (outS g ys, []) m).1 := congrArg Prod.fst hd2
    have e2 : ys2 = zs := by rw [show ys2 = (doneS (outS g ys, []) m).2 from congrArg Prod.snd hd2, d4]; rfl
    subst e2
    have hnd1 : (m :: rest).Nodup := (hmr.trans hpp).nodup_iff.mpr H.avn
    obtain ⟨hmrest, hrn⟩ := List.nodup_cons.mp hnd1
    have hrest : ∀ y, y ∈ rest ↔ AvO nms ops ord y ∧ y ≠ m := fun y => by
      have h1 : y ∈ m :: rest ↔ y ∈ hp ++ ys := (hmr.trans hpp).mem_iff
      rw [← H.av y, ← h1, List.mem_cons]
      constructor
      · exact fun h => ⟨.inr h, fun e => hmrest (e ▸ h)⟩
      · exact fun h => h.1.elim (fun e => absurd e h.2) id
    have hcnt : ∀ y, ((succOf (outS g ys) m).count y : Int) = ((plO ops y).count m : Int) := fun y => by rw [hsu, count_slO ops y m hod]
    -- the counts of what is neither done nor handed out
    have hnp : ∀ y ∈ nms, y ∉ ord → y ∉ hp ++ ys → np0 (outS g ys) y = (((plO ops y).filter fun z => decide (z ∉ ord)).length : Int) := fun y hy h1 h2 => by
      rw [o3 y ((H.nm y).mpr hy), if_neg fun q => h2 (List.mem_append_right _ q)]
      exact H.np y hy h1 fun q => h2 (List.mem_append_left _ q)
    have hself : ∀ y ∈ hp ++ ys, (plO ops y).count m = 0 := fun y hy => by
      rw [List.count_eq_zero]
      exact fun q => m2 (((H.av y).mp hy).2.2 m q)
    have hys2 : ∀ y, y ∈ ys2 ↔ AvO nms ops (ord ++ [m]) y ∧ ¬ AvO nms ops ord y := fun y => by
      rw [d6, hcnt]
      constructor
      · (refine PL.j0_2 ?_; rintro h1 h2 h3)
        have hpos : 0 < (plO ops y).count m := by lia
        have hmem : m ∈ plO ops y := List.count_pos_iff.mp hpos
        have hyn := (hp1 y m hmem).2
        have hnav : y ∉ hp ++ ys := fun q => by have := hself y q; lia
        have hyo : y ∉ ord := fun q => by
          -- y is done: all that it needs was done before, so m too
          have : ∀ {k : Nat} {dl : List Str}, DueO nms ops k dl → y ∈ dl → ∀ z ∈ plO ops y, z ∈ dl := fun h => by
            induction h with
            | zero => exact fun h => by cases h
            | succ _ hm _ ih =>
              intro h z hz
              rcases List.mem_append.mp h with h | h
              · exact List.mem_append_left _ (ih h z hz)
              · rw [List.mem_singleton.mp h] at hz; exact List.mem_append_left _ (hm.2.2 z hz)
            | stay _ _ ih => exact ih
          exact m2 (this H.due q m hmem)
        have hq := hnp y hyn hyo hnav
        have hst := filt_step (L := plO ops y) m2
        have hz0 : ((plO ops y).filter fun z => decide (z ∉ ord ++ [m])).length = 0 := by lia
        refine ⟨(PL.m0_2 hyn (fun q => ?_) (fun z hz => ?_)), fun q => hnav ((H.av y).mpr q)⟩
        · rcases List.mem_append.mp q with q | q
          · exact hyo q
          · exact h1 (List.mem_singleton.mp q)
        · have := List.eq_nil_of_length_eq_zero hz0
          rw [List.filter_eq_nil_iff] at this
          have h5 := this z hz
          by_cases r : z ∈ ord ++ [m]
          · exact r
          · exact absurd (decide_eq_true r) h5
      · rintro ⟨⟨h1, h2, h3⟩, h4⟩
        have hym : y ≠ m := fun e => h2 (List.mem_append_right _ (List.mem_singleton.mpr e))
        have hyo : y ∉ ord := fun q => h2 (List.mem_append_left _ q)
        have hnav : y ∉ hp ++ ys := fun q => h4 ((H.av y).mp q)
        have hq := hnp y h1 hyo hnav
        have hst := filt_step (L := plO ops y) m2
        have hz0 : ((plO ops y).filter fun z => decide (z ∉ ord ++ [m])).length = 0 := by
          rw [List.length_eq_zero_iff, List.filter_eq_nil_iff]
          intro z hz
          rw [decide_eq_false fun q => q (h3 z hz)]
          decide
        have hne : (plO ops y).count m ≠ 0 := fun q => h4 (PL.m0_2 h1 hyo (fun z hz => by
          rcases List.mem_append.mp (h3 z hz) with r | r
          · exact r
          · rw [List.mem_singleton.mp r] at hz
            exact absurd hz (List.count_eq_zero.mp q)))
        exact (PL.m0_2 hym (by lia) (by lia))
    have hav2 : ∀ y, y ∈ rest ++ ys2 ↔ AvO nms ops (ord ++ [m]) y := fun y => by
      rw [List.mem_append, hrest, hys2]
      constructor
      · rintro (⟨⟨h1, h2, h3⟩, h4⟩ | h)
        · exact (PL.m0_2 h1 (fun q => (List.mem_append.mp q).elim h2 fun q => h4 (List.mem_singleton.mp q)) (fun z hz => List.mem_append_left _ (h3 z hz)))
        · exact h.1
      · intro h
        by_cases q : AvO nms ops ord y
        · exact .inl ⟨q, fun e => h.2.1 (List.mem_append_right _ (List.mem_singleton.mpr e))⟩
        · exact .inr ⟨h, q⟩
    rw [e1]
    refine ⟨by rw [d1, o1]; exact H.nd, fun y => by rw [d1, o1]; exact H.nm y, fun y => by rw [d2, o2, H.su], .succ H.due (PL.m0_2 m1 m2 m3) (fun b hb => hmin b (hpp.mem_iff.mpr ((H.av b).mpr hb))), fun t ht h1 h2 => ?_, fun y hy => ?_, ?_, hav2⟩
    · have htm : t ≠ m := fun e => h1 (List.mem_append_right _ (List.mem_singleton.mpr e))
      have hto : t ∉ ord := fun q => h1 (List.mem_append_left _ q)
      have hnav : t ∉ hp ++ ys := fun q => h2 ((hrest t).mpr ⟨(H.av t).mp q, htm⟩)
      rw [d3 t (by rw [o1]; exact (H.nm t).mpr ht), if_neg htm, hnp t ht hto hnav, hcnt]
      have hst := filt_step (L := plO ops t) m2
      lia
    · have hy1 := (hrest y).mp hy
      have hy2 : y ∈ hp ++ ys := (H.av y).mpr hy1.1
      rw [d3 y (by rw [o1]; exact (H.nm y).mpr hy1.1.1), if_neg hy1.2, hg1 y hy2, hcnt, hself y hy2]
      rfl
    · rw [List.nodup_append]
      refine (PL.m0_2 hrn d5 (fun a ha b hb e => ?_))
      subst e
      exact ((hys2 a).mp hb).2 ((hrest a).mp ha).1
end
end PL
end
section
open PySem PySem.Calls PyProof.Rows PySem.W
set_option autoImplicit false
set_option linter.unusedVariables false
set_option maxRecDepth 100000
set_option maxHeartbeats 0
namespace PL
theorem addOps_append (a b : List Op) (g : List Nd) : addOps (a ++ b) g = addOps b (addOps a g) := List.foldl_append
theorem addOps_size : ∀ (ops : List Op) (g : List Nd) (m : Nat), (∀ o ∈ ops, o.2.length ≤ 8) → (names g).Nodup → SB g m → (addOps ops g).length ≤ g.length + ops.length * 9 ∧ SB (addOps ops g) (m + ops.length * 8) ∧ (names (addOps ops g)).Nodup
  | [], g, m, _, hn, hs => (PL.m0_2 (Nat.le_refl _) hs hn)
  | q :: ops, g, m, hd, hn, hs => by
    have hq := hd q List.mem_cons_self
    have hs1 : SB (addS g q.1 q.2) (m + 8) := fun n hn => Nat.le_trans (SB_addS q.1 q.2 hs n hn) (Nat.add_le_add_left hq m)
    (refine PL.x0_2 (addOps_size ops (addS g q.1 q.2) (m + 8) (fun o ho => hd o (List.mem_cons_of_mem _ ho)) (nodup_addS _ _ hn) hs1) ?_; rintro h1 h2 h3)
    have h4 := len_addS g q.1 q.2
    have e : addOps (q :: ops) g = addOps ops (addS g q.1 q.2) := rfl
    rw [e, List.length_cons]
    refine (PL.m0_2 (by lia) (fun n hn => ?_) h3)
    have := h2 n hn
    lia
/-- what is told of the orders: all names are of nms, each of nms is told of, none is told of itself -/
structure OpsOk (nms : List Str) (ops : List Op) : Prop where
  nn : nms.Nodup
  nl : nms.length ≤ 8
  ol : ops.length < 80
  nd : ∀ o ∈ ops, o.2.Nodup
  ln : ∀ o ∈ ops, o.2.length ≤ 8
  inn : ∀ o ∈ ops, o.1 ∈ nms ∧ ∀ z ∈ o.2, z ∈ nms
  all : ∀ y ∈ nms, ∃ o ∈ ops, o.1 = y
namespace OpsOk
variable {nms : List Str} {ops : List Op}
theorem pl (h : OpsOk nms ops) (y : Str) : ∀ z ∈ plO ops y, z ∈ nms ∧ y ∈ nms := fun z hz => by
  (refine PL.x1_2 (mem_plO.mp hz) ?_; rintro o ho e hq)
  subst e
  exact ⟨(h.inn o ho).2 z hq, (h.inn o ho).1⟩
theorem size (h : OpsOk nms ops) : (addOps ops []).length < 900 ∧ SB (addOps ops []) (ops.length * 8) ∧ (names (addOps ops [])).Nodup := by
  (refine PL.x0_2 (addOps_size ops [] 0 h.ln List.nodup_nil (fun n hn => by cases hn)) ?_; rintro h1 h2 h3)
  have := h.ol
  refine (PL.m0_2 (by simp at h1; lia) (fun n hn => by have := h2 n hn; lia) h3)
theorem np (h : OpsOk nms ops) (y : Str) : np0 (addOps ops []) y = (plO ops y).length := by
  rw [(addOps_gen ops [] h.nd y).1, show np0 [] y = 0 from rfl, Int.zero_add]
theorem su (h : OpsOk nms ops) (y : Str) : succOf (addOps ops []) y = slO ops y := by
  rw [(addOps_gen ops [] h.nd y).2.1, show succOf [] y = [] from rfl, List.nil_append]
theorem mem (h : OpsOk nms ops) (y : Str) : y ∈ names (addOps ops []) ↔ y ∈ nms := by
  rw [(addOps_gen ops [] h.nd y).2.2]
  constructor
  · rintro (h' | ⟨o, ho, rfl | h'⟩)
    · cases h'
    · exact (h.inn o ho).1
    · exact (h.inn o ho).2 y h'
  · intro hy
    (refine PL.x1_1 (h.all y hy) ?_; rintro o ho e)
    exact .inr (PL.m1_1 o ho (.inl e.symm))
theorem closed (h : OpsOk nms ops) : ∀ y ∈ names (addOps ops []), ∀ s ∈ succOf (addOps ops []) y, s ∈ names (addOps ops []) := fun y _ s hs => by
  rw [h.su, mem_slO] at hs
  exact (h.mem s).mpr (h.pl s y hs).2
theorem start (h : OpsOk nms ops) : JO nms ops 0 (addOps ops []) (readyB (addOps ops [])) [] [] := by
  have g1 := h.size.2.2
  refine ⟨g1, h.mem, h.su, .zero, fun t ht _ _ => ?_, (fun y hy => by cases hy), ?_, fun y => ?_⟩
  · rw [h.np t, List.filter_eq_self.mpr]
    intro z _
    simp
  · rw [List.nil_append]
    unfold readyB
    exact g1.sublist (List.filter_sublist.map _)
  · rw [List.nil_append, mem_ready g1, h.mem, h.np]
    unfold AvO
    constructor
    · rintro ⟨h1, h2⟩
      refine (PL.m0_2 h1 (by simp) (fun z hz => ?_))
      have h5 : (plO ops y).length = 0 := by lia
      rw [List.eq_nil_of_length_eq_zero h5] at hz
      cases hz
    · (refine PL.j0_2 ?_; rintro h1 _ h3)
      refine ⟨h1, ?_⟩
      cases hp : plO ops y with
      | nil => rfl
      | cons z zs =>
        have := h3 z (by rw [hp]; exact List.mem_cons_self)
        cases this
end OpsOk
/-- what is asked of a family of states of the run that may stand still -/
structure RunLaw1 (N : Nat) (J : Nat → List Nd → List Str → List Str → List Str → Prop) : Prop where
  go : ∀ k g ys hp ord, k < N → J k g ys hp ord → (names g).Nodup ∧ (∀ y ∈ ys, y ∈ names g) ∧ ys.length < 900 ∧ hp.length < 900 ∧ ord.length < 900 ∧ ∀ hp' : List Str, hp'.Perm (hp ++ ys) → (hp' = [] → J (k + 1) (outS g ys) [] hp' ord) ∧ ∀ m rest, (m :: rest).Perm hp' → (∀ b ∈ hp', HP.slt b m = false) →
    (names (outS g ys)).Nodup ∧ m ∈ names (outS g ys) ∧ npOf (outS g ys) m = -1 ∧ (∀ s ∈ succOf (outS g ys) m, s ∈ names (outS g ys)) ∧ (succOf (outS g ys) m).length < 850 ∧ ∀ g2 ys2, (g2, ys2) = doneS (outS g ys, []) m → J (k + 1) g2 ys2 rest (ord ++ [m])
theorem OpsOk.law {nms : List Str} {ops : List Op} (h : OpsOk nms ops) : RunLaw1 nms.length (JO nms ops) :=
  ⟨fun k g ys hp ord _ H => JO.step h.nn h.nl (by have := h.ol; lia) h.nd h.pl H⟩
theorem OpsOk.end0 {nms : List Str} {ops : List Op} (h : OpsOk nms ops) {g : List Nd} {ys hp ord fin : List Str} (J : JO nms ops nms.length g ys hp ord) (ht : FC.Topo (succOf (addOps ops [])) fin) (hf : ∀ y ∈ names (addOps ops []), y ∈ fin) : ord.length = nms.length := by
  have e : succOf (addOps ops []) = slO ops := funext h.su
  rw [e] at ht
  exact J.due.whole ht (fun y hy => hf y ((h.mem y).mpr hy)) (fun y z hz => (h.pl y z hz).1) h.nn (Nat.le_refl _)
theorem OpsOk.end1 {nms : List Str} {ops : List Op} (h : OpsOk nms ops) {g : List Nd} {ys hp ord C : List Str} (J : JO nms ops nms.length g ys hp ord) (h0 : C ≠ []) (h1 : ∀ y ∈ C, y ∈ names (addOps ops [])) (hC : ∀ y ∈ C, ∃ z ∈ C, y ∈ succOf (addOps ops []) z) : ord.length < nms.length :=
  J.due.ring_lt h.nn h0 (fun y hy => (h.mem y).mp (h1 y hy)) fun y hy => by
    (refine PL.x1_1 (hC y hy) ?_; rintro z hz hs)
    exact (PL.m1_1 z hz (by rw [← h.su]; exact hs))
end PL
end
section
open PySem PySem.Calls PyProof.Rows PySem.W
set_option autoImplicit false
set_option linter.unusedVariables false
set_option maxRecDepth 100000
set_option maxHeartbeats 0
namespace PL
noncomputable def isStrKey (e : DictEntry) : Bool := match e.key with
  | .str _ _ => true
  | _ => false
theorem keysStr_of {es : Array DictEntry} (h : es.toList.all isStrKey = true) : StrKeys es := fun e he => by
  have := List.all_eq_true.mp h e (by simpa using he)
  unfold isStrKey at this
  split at this
  · rename_i x t hk; exact (PL.m2_0 x t hk)
  · cases this
/-! an own exception class: raised, on its way through a frame, caught -/
section
variable {G : Gd} {A : Around} {env : Env} {l l' : Led} {X : Xp}
theorem SS.raiseOwn {nm q : Str} {C N : Addr} {bs bm : List Value} {hdct : Bool} {sn : List Str} {sub : List Value} {ab : Bool} {col : Option Bool} {dd : Option Addr} {k0 k1 k2 k3 k5 : Option Value} {B newId initId : String} {K : Frag} {mN : Str → Option Value}
    (F : ExcBaseFacts B newId initId bm) (hK : K.In G.t) (hC : K.lookup C = some (excClassObj nm q C N bs bm hdct sn sub ab col dd k0 k1 k2 k3 k5 newId)) (hN : G.t.Ns N mN) (hni : mN "__init__" = none) (hh : A.handled = none)
    {x : Str} {np cpos pos : Pos} {args : List PySem.Expr} {R : AF → Led → Prop}
    (h : EE G A env (.Name x np) l (fun f l₁ => f = .ref C ∧ EA G A (backTo cpos (starEach args env)) l₁ (fun as l₂ => as.length ≤ 100 ∧ ∀ e, X e ((e, .exc (.ref C) none) :: l₂)) X) X)
    (hplain : (backTo cpos (starEach args env)).any (·.1) = false := by with_unfolding_all rfl) :
    SS G A env (.Raise (some (.Call (.Name x np) args [] cpos)) none pos) l R X := fun s Nr => by
  refine wpAny_Raise_call_sub (C := C) (nm := nm) (q := q) (N := N) (bs := bs) (bm := bm) (hdct := hdct) (sn := sn) (sub := sub) (ab := ab) (col := col) (dd := dd) (k0 := k0) (k1 := k1) (k2 := k2) (k3 := k3) (k5 := k5) (newId := newId) F hh hplain hni (wpAny_mono (h s Nr) (fun f s₁ hq1 => ?_) fun _ _ y => y)
  obtain ⟨a, l₁, ha, N₁, e, h₁⟩ := hq1
  subst e
  cases ha
  refine ⟨rfl, ?_⟩
  have go : ∀ {ts : List (Bool × Sem Value)} {Q : Args → Shared → Prop} {E : Value → Shared → Prop}, (ts.any (·.1)) = false → wpAny (model G.prog G.w) A (spliced ts) (fun vs s' => Q { pos := vs } s') E s₁ → wpAny (model G.prog G.w) A (evalArgs (.ref C) true ts []) Q E s₁ := by
    intro ts Q E hst h
    cases ts with
    | nil =>
      unfold evalArgs
      show wpAny _ _ (spliced [] >>= _) _ _ s₁
      refine wpAny_bind (wpAny_mono h (fun vs s₁ h₁ => ?_) fun _ _ y => y)
      refine wpAny_bind (wpAny_pure (wpAny_holding ?_))
      show wpAny _ _ (evalAll [] >>= _) _ _ s₁
      exact wpAny_bind (wpAny_evalAll_nil (wpAny_bind (wpAny_pure (wpAny_pure h₁))))
    | cons t ts =>
      obtain ⟨b, t⟩ := t
      cases b with
      | true => simp at hst
      | false => exact evalArgs_plain h
  refine go hplain (wpAny_mono (h₁ s₁ N₁) (fun vs s₂ hq2 => ?_) fun _ _ y => y)
  obtain ⟨as, l₂, has, N₂, hl, hX⟩ := hq2
  refine (PL.m0_4 rfl (by show vs.length ≤ _; rw [← has.length]; exact Nat.le_trans hl (by decide)) (N₂.keep _ _ (hK _ _ hC)) (hN.keeps N₂.keep) (fun h' e hm => ?_))
  (refine PL.x1_2 (hm.there) ?_; rintro t ht _ _)
  exact ⟨e, _, rfl, N₂.new (tk := s₂.toks) (ao := .exc (.ref C) none) hm.new hm.keeps (PL.m2_3 _ _ ht rfl rfl rfl), hX e⟩
theorem leaveX_own {es : List Env} {e L : Addr} {c : Value} (hp : Pick (e, .exc c none) l l') (hfr : A.frames = some (env :: es)) (hin : ∀ x ∈ env :: es, FrIn l' x) (hf : env.frame = some L)
    (h : ∀ T, ∃ l₄, Sub l₄ ((T, .tb .none) :: (e, .exc c (some T)) :: l') ∧ X e l₄) : LeaveX G A env X e l := fun s N => by
  show wpAny _ _ (leaving env (.ref e)) _ _ s
  unfold leaving
  refine wpAny_bind (note_first N hp hfr hin hf fun s' T N' => ?_)
  exact flight_none N' fun s'' N'' => ⟨(), _, trivial, N'', h T⟩
theorem note_next {s : Shared} {es : List Env} {e L T : Addr} {c : Value} {l₂ : Led} {Q : Unit → Shared → Prop} {E : Value → Shared → Prop} (N : Rep G s l) (hp : Pick (e, .exc c (some T)) l l') (hT : Pick (T, .tb .none) l' l₂) (hfr : A.frames = some (env :: es)) (hin : ∀ x ∈ env :: es, FrIn l₂ x) (hf : env.frame = some L)
    (h : ∀ s' T', Rep G s' ((T', .tb (rawInt L)) :: (e, .exc c (some T')) :: l₂) → Q () s') : wpAny (model G.prog G.w) A (noteFrame (.ref e) env) Q E s := by
  have N0 : Rep G s ((T, .tb .none) :: (e, .exc c (some T)) :: l₂) := N.perm (hp.perm.trans ((List.Perm.cons _ hT.perm).trans (List.Perm.swap ..)))
  have hin' : ∀ x ∈ env :: es, FrIn ((T, .tb .none) :: (e, .exc c (some T)) :: l₂) x := fun x hx => (hin x hx).sub fun p hp' => .tail _ (.tail _ hp')
  (refine PL.x2_3 (N0.at (.tail .head)) ?_; rintro oe vs he hc hd h1)
  have h1' : vs[1]? = some (.ref T) := h1
  (refine PL.x2_2 (N0.at .head) ?_; rintro ot ts ht hdt h3)
  have h3' : ts[3]? = some .none := h3
  have h3s := (Array.getElem?_eq_some_iff.mp h3').1
  unfold noteFrame
  simp only [hf]
  refine wpAny_bind (wpAny_field he hd h1' ?_)
  rw [if_pos (show (Value.ref T != Value.none) = true from rfl)]
  refine wpAny_bind (wpAny_field ht hdt h3' ?_)
  rw [if_neg (by simp [rawInt])]
  refine wpAny_bind (wpAny_setField ht hdt h3s ?_)
  have hd₃ := Obj.data_mapFields hdt (·.setIfInBounds 3 Value.none)
  have N1 : Rep G { s with heap := s.heap.update T (Obj.mapFields (·.setIfInBounds 3 Value.none)) } ((T, .tb .none) :: (e, .exc c (some T)) :: l₂) := N0.upd (tk := s.toks) (ao' := .tb .none) .head (Heap.SameBut.update ..).extBut (PL.m2_2 _ _ (Heap.get?_update_self _ ht (Obj.isFreed_of_fields hd₃)) hd₃ (by simp [h3s]))
  refine wpAny_bind (wpAny_frameOf_fun hfr (funFrames N1 hin') hf fun h₁ hs₁ => ?_)
  have N₁ := N1.slots hs₁ fun b hb => by
    rw [List.mem_filterMap] at hb
    (revert hb; refine PL.j1_1 ?_; rintro x hx hxf)
    obtain ⟨_, L', names, ws, e1, e2⟩ := hin' x hx
    rw [e1] at hxf; cases hxf
    exact (PL.m2_0 names ws e2)
  (refine PL.x2_3 (N₁.at (.tail .head)) ?_; rintro oe vs he hc hd h1)
  have h1' : vs[1]? = some (.ref T) := h1
  have hsz : 1 < vs.size := (Array.getElem?_eq_some_iff.mp h1').1
  refine wpAny_bind (wpAny_entryPlaceOf fun pl hpl => ?_)
  unfold EntryCells.newEntry newFields
  refine wpAny_bind (wpAny_newObj_type ?_ (hpl.sizeOk5 _ _ _ _ _))
  have N₂ := N₁.push (o := { cls := .type "traceback", dict := none, data := .fields ([Value.ref T, .ref L, .none, rawInt L, .none] ++ (if pl.isEmpty then List.replicate 6 Value.none else pl)).toArray }) (ao := .tb (rawInt L)) rfl
    (PL.m2_2 _ _ (Heap.get?_push_size _ rfl) rfl (by first | (simp; done) | (rcases hpl with rfl | ⟨_, _, _, _, _, _, _, rfl⟩ <;> simp)))
  have he₂ := Heap.get?_push_of_some (h := h₁) { cls := .type "traceback", dict := none, data := .fields ([Value.ref T, .ref L, .none, rawInt L, .none] ++ (if pl.isEmpty then List.replicate 6 Value.none else pl)).toArray } he
  refine wpAny_setField he₂ hd hsz (h _ h₁.objs.size ?_)
  have hd₃ := Obj.data_mapFields hd (·.setIfInBounds 1 (Value.ref h₁.objs.size))
  have he₃ := Heap.get?_update_self (Obj.mapFields (·.setIfInBounds 1 (Value.ref h₁.objs.size))) he₂ (Obj.isFreed_of_fields hd₃)
  have N₃ := N₂.upd (tk := s.toks) (ao' := .exc c (some h₁.objs.size)) (.tail (.tail .head)) (Heap.SameBut.update ..).extBut (PL.m2_3 _ _ he₃ ((Obj.cls_mapFields _ _).trans hc) hd₃ (by simp [hsz]))
  exact (N₃.perm (List.Perm.swap ..)).sub (.cons .head (.refl _) (.cons .head (.refl _) (.skip (.refl _))))
/-- what a try's one clause of an own class asks of an exception that came out of a call -/
noncomputable def TryO (G : Gd) (A : Around) (env : Env) (es : List Env) (C : Addr) (suite : List Stmt) (R : AF → Led → Prop) : Xp := fun e l₁ => ∃ T l₂ l₃, Pick (e, .exc (.ref C) (some T)) l₁ l₂ ∧ Pick (T, .tb .none) l₂ l₃ ∧ (∀ x ∈ env :: es, FrIn l₃ x) ∧ BB G (A.mark (some (.ref e))) env suite l₃ R noX
theorem SS.tryOwn {nm q : Str} {C N : Addr} {bs bm : List Value} {hdct : Bool} {sn : List Str} {sub : List Value} {ab : Bool} {col : Option Bool} {dd : Option Addr} {k0 k1 k2 k3 k5 : Option Value} {newId : String} {K : Frag}
    (hK : K.In G.t) (hC : K.lookup C = some (excClassObj nm q C N bs bm hdct sn sub ab col dd k0 k1 k2 k3 k5 newId)) (hbase : bm.contains (.type "BaseException") = true)
    {body suite : List Stmt} {b₀ : Stmt} {t : PySem.Expr} {hpos pos : Pos} {es : List Env} {L : Addr} {R : AF → Led → Prop} (hfr : A.frames = some (env :: es)) (hf : env.frame = some L)
    (ht : ∀ A l R, R (.ref C) l → EE G A env t l R noX) (h : BB G A env body l R (TryO G A env es C (b₀ :: suite) R)) :
    SS G A env (.Try body [.ExceptHandler (some t) Option.none (b₀ :: suite) hpos] [] [] pos) l R X := fun s N => by
  have no : ∀ {Q : Value → Shared → Prop} (e : Value) (s' : Shared), Px G noX e s' → Q e s' := fun e s' ⟨_, _, _, _, h⟩ => h.elim
  refine wpAny_Try_except (wpAny_mono (h s N) (fun f s₁ hq => ?_) fun e s₁ hq => ?_)
  · obtain ⟨b, l₁, hb, N₁, h₁⟩ := hq
    cases b with
    | next => cases hb; exact wpAny_execs_nil ⟨.next, l₁, rfl, N₁, h₁⟩
    | brk => cases hb; exact ⟨.brk, l₁, rfl, N₁, h₁⟩
    | cont => cases hb; exact ⟨.cont, l₁, rfl, N₁, h₁⟩
    | ret v => (revert hb; refine PL.j1_1 ?_; rintro u rfl hu); exact ⟨.ret v, l₁, (PL.m1_1 u rfl hu), N₁, h₁⟩
  · obtain ⟨a, l₁, he, N₁, T, l₂, l₃, hp, hT, hin, h₁⟩ := hq
    subst he
    refine note_next N₁ hp hT hfr hin hf fun s₂ Tb N₂ => ?_
    refine flight_none N₂ fun s₃ N₃ => ?_
    refine wpAny_handleBy_cons (codeAny_handlers_test (wpAny_mono (ht _ _ (fun v l => v = .ref C ∧ l = (Tb, .tb .none) :: (a, .exc (.ref C) (some Tb)) :: l₃) ⟨rfl, rfl⟩ s₃ N₃) (fun c s₄ hq3 => ?_) no)) (by intro q; cases q)
    obtain ⟨b, l₄, hb, N₄, e1, e2⟩ := hq3
    subst e1 e2
    cases hb
    (refine PL.x2_2 (N₄.at (.tail .head)) ?_; rintro o vs ho hc _)
    obtain ⟨hp4, g4, d4, t4, os4⟩ := s₄
    refine wpAny_excMatches_sub_self (N₄.keep _ _ (hK _ _ hC)) ho hc hbase ?_
    refine codeAny_handlers_suite (flight_none N₄ fun s₅ N₅ => ?_)
    exact wpAny_mono (h₁ s₅ (N₅.sub (.skip (.skip (.refl l₃))))) (fun _ _ h => h) no
end
end PL
end
section
open PySem PySem.Calls PyProof.Rows PySem.W
set_option autoImplicit false
set_option linter.unusedVariables false
set_option maxRecDepth 100000
set_option maxHeartbeats 0
namespace PL
/-! a dict of ints, by a comprehension with two fors -/
noncomputable def storedI (kvs : List (Int × AV)) (k : Int) (a : AV) : List (Int × AV) := if k ∈ kvs.map (·.1) then kvs.map (fun kv => if kv.1 = k then (kv.1, a) else kv) else kvs ++ [(k, a)]
theorem keysI_of {kvs : List (Int × AV)} {kvs' : List (Int × Value)} (h : All2 KRel kvs kvs') : kvs.map (·.1) = kvs'.map (·.1) := by
  induction h with
  | nil => rfl
  | cons h _ ih => rw [List.map_cons, List.map_cons, ih, h.1]
theorem storedI_rel {kvs : List (Int × AV)} {kvs' : List (Int × Value)} (h : All2 KRel kvs kvs') {k : Int} {a : AV} {v : Value} (hv : a.Is v) : All2 KRel (storedI kvs k a) (stored kvs' k v) := by
  have e : (kvs'.any fun kv => decide (kv.1 = k)) = decide (k ∈ kvs.map (·.1)) := by
    rw [keysI_of h]
    by_cases q : k ∈ kvs'.map (·.1)
    · rw [decide_eq_true q]
      (refine PL.x1_1 (List.mem_map.mp q) ?_; rintro kv h1 h2)
      exact List.any_eq_true.mpr (PL.m1_1 kv h1 (by simpa using h2))
    · rw [decide_eq_false q, List.any_eq_false]
      intro kv hkv hk
      exact q (List.mem_map.mpr (PL.m1_1 kv hkv (by simpa using hk)))
  unfold storedI stored
  rw [e]
  by_cases q : k ∈ kvs.map (·.1)
  · rw [if_pos q, if_pos (decide_eq_true q)]
    clear e q
    induction h with
    | nil => exact .nil
    | @cons x y xs ys hxy _ ih =>
      rw [List.map_cons, List.map_cons]
      refine .cons ?_ ih
      obtain ⟨h1, h2⟩ := hxy
      by_cases c : x.1 = k
      · rw [if_pos c, if_pos (h1 ▸ c)]; exact ⟨h1, hv⟩
      · rw [if_neg c, if_neg (h1 ▸ c)]; exact ⟨h1, h2⟩
  · rw [if_neg q, if_neg (by simpa using q)]
    clear e q
    induction h with
    | nil => exact .cons ⟨rfl, hv⟩ .nil
    | cons hxy _ ih => exact .cons hxy ih
theorem compTurn_d0 (kx vx t0 i0 t1 i1 : Expr) (scope : Scope) (pos : Pos) (it : Value) (D : Addr) (env : Env) :
    compTurn (.DictComp kx vx [⟨t0, i0, [], 0⟩, ⟨t1, i1, [], 0⟩] scope pos) 0 it (.ref D) env = (do
      standAt i0.pos
      match ← pyNext it with
      | none => pure (.done .next)
      | some v =>
        letOwnedTupleGo t0 it v
        assign t0 env v
        let mut ok := true
        for c in [] do
          if ok then ok ← isTrue c env (eval c env)
        if ok then
          match ([⟨t0, i0, [], 0⟩, ⟨t1, i1, [], 0⟩] : List Comprehension)[0 + 1]? with
          | some g' =>
            let x ← eval g'.iter env
            standAt g'.iter.pos
            let x ← if g'.is_async != 0 then foldedIterable g'.iter x else foldedSetIterable g'.iter env x
            let _ ← runOwn (.compStart (.DictComp kx vx [⟨t0, i0, [], 0⟩, ⟨t1, i1, [], 0⟩] scope pos) (0 + 1) (← holding [x] (if g'.is_async != 0 then asyncIter x else pyIter x)) (.ref D) env) env
          | none => do
            let kv ← eval kx env
            let vv ← holding [kv] (eval vx env)
            standAt { kx.pos with endLine := vx.pos.endLine, endCol := vx.pos.endCol }
            holding [kv, vv] (dictSet D kv vv)
        again (.compLoop (.DictComp kx vx [⟨t0, i0, [], 0⟩, ⟨t1, i1, [], 0⟩] scope pos) 0 it (.ref D) env)) := by rfl
theorem compTurn_d1 (kx vx t0 i0 t1 i1 : Expr) (scope : Scope) (pos : Pos) (it : Value) (D : Addr) (env : Env) :
    compTurn (.DictComp kx vx [⟨t0, i0, [], 0⟩, ⟨t1, i1, [], 0⟩] scope pos) 1 it (.ref D) env = (do
      standAt i1.pos
      match ← pyNext it with
      | none => pure (.done .next)
      | some v =>
        letOwnedTupleGo t1 it v
        assign t1 env v
        let mut ok := true
        for c in [] do
          if ok then ok ← isTrue c env (eval c env)
        if ok then
          (do
            let kv ← eval kx env
            let vv ← holding [kv] (eval vx env)
            standAt { kx.pos with endLine := vx.pos.endLine, endCol := vx.pos.endCol }
            holding [kv, vv] (dictSet D kv vv))
        again (.compLoop (.DictComp kx vx [⟨t0, i0, [], 0⟩, ⟨t1, i1, [], 0⟩] scope pos) 1 it (.ref D) env)) := by rfl
section
variable {G : Gd} {A : Around} {env cenv : Env} {l l' : Led} {X : Xp}
theorem compStart_d1 {kx vx t0 i0 t1 i1 : Expr} {scope : Scope} {pos : Pos} {it acc : Value} {env : Env} {R : Result → Shared → Prop} {s : Shared}
    (h0 : codeAny (model G.prog G.w) A (.compLoop (.DictComp kx vx [⟨t0, i0, [], 0⟩, ⟨t1, i1, [], 0⟩] scope pos) 1 it acc env) R s)
    (h : wpAny (model G.prog G.w) A (pyIter it) (fun it' s' => codeAny (model G.prog G.w) A (.compLoop (.DictComp kx vx [⟨t0, i0, [], 0⟩, ⟨t1, i1, [], 0⟩] scope pos) 1 it' acc env) R s')
      (notedBy (model G.prog G.w) A env fun x s' => R (.error x) s') s) :
    codeAny (model G.prog G.w) A (.compStart (.DictComp kx vx [⟨t0, i0, [], 0⟩, ⟨t1, i1, [], 0⟩] scope pos) 1 it acc env) R s := by
  refine codeAny_of_tree ?_
  show wpAny _ A ((compStart (.DictComp kx vx [⟨t0, i0, [], 0⟩, ⟨t1, i1, [], 0⟩] scope pos) 1 it acc env).onRaise (fun x => do noteFrame x env; standAt theWindowsPlace)) _ _ s
  refine wpAny_notedAt ?_
  unfold compStart
  show wpAny _ A (ask >>= _) _ _ s
  refine wpAny_bind (wpAny_askSetting (wpAny_ite ?_))
  split
  · first
      | exact wpAny_bind (wpAny_pure (wpAny_pure (And.intro rfl h0)))
      | exact wpAny_pure (And.intro rfl h0)
  · first
      | exact wpAny_bind (wpAny_rule (wpAny_bind (wpAny_standAt (wpAny_bind (wpAny_mono h (fun it' s' h' => wpAny_pure (And.intro rfl h')) fun _ _ x => x)))))
      | (refine wpAny_bind (wpAny_rule ?_); show wpAny _ _ (standAt i1.pos >>= _) _ _ s; exact wpAny_bind (wpAny_standAt (wpAny_bind (wpAny_mono h (fun it' s' h' => wpAny_pure (And.intro rfl h')) fun _ _ x => x))))
theorem none_ex2 {G : Gd} {Q : Value → Shared → Prop} (e : Value) (s' : Shared) (h : Px G noX e s') : Q e s' := by
  obtain ⟨_, _, _, _, h⟩ := h; exact h.elim
/-- the inner turn's end: the iterator's part, the frame, the dict, the rest -/
noncomputable def IEnd (F : Led) (C acc : Addr) (cn : List (Str × NameKind)) (vals : List (Option AV)) (kvs : List (Int × AV)) (J : Led → Prop) (l : Led) : Prop := ∃ K ep, Sub (F ++ ((C, .ns cn vals) :: (acc, .idict kvs ep) :: K)) l ∧ J K
theorem IEnd.mk {F : Led} {C acc : Addr} {cn : List (Str × NameKind)} {vals : List (Option AV)} {kvs : List (Int × AV)} {J : Led → Prop} {K : Led} {ep : Nat} (hJ : J K) (hs : Sub (F ++ ((C, .ns cn vals) :: (acc, .idict kvs ep) :: K)) l) : IEnd F C acc cn vals kvs J l := (PL.m2_1 K ep hs hJ)
theorem dcomp_in {kx vx t0 i0 t1 i1 : Expr} {scope : Scope} {pos : Pos} {it : AV} {n : Nat} {F : Nat → Led} {Fm : Nat → AV → Led} {Fe : Led} {P : Nat → AV → Led → Prop} {T : Expr → Prop} (W : Walk G A it n F Fm Fe P T) (hT : T t1) {C acc : Addr} {cn : List (Str × NameKind)} {vals : List (Option AV)}
    (J : Nat → List (Int × AV) → Led → Prop) (hsz : ∀ k kvs K, J k kvs K → kvs.length < 1000000)
    (turn : ∀ k kvs ep a E K, k < n → P k a E → J k kvs K → Asg G A cenv t1 a (E ++ (F (k + 1) ++ ((C, .ns cn vals) :: (acc, .idict kvs ep) :: K))) (fun l₃ => EE G A cenv kx l₃ (fun x l₄ => ∃ kk, x = .int kk ∧
      EE G A cenv vx l₄ (fun y l₅ => IEnd (F (k + 1)) C acc cn vals kvs (J (k + 1) (storedI kvs kk y)) l₅) noX) noX) noX)
    {R : Result → Shared → Prop} (fin : ∀ f s' kvs ep K, Rep G s' (Fe ++ ((C, .ns cn vals) :: (acc, .idict kvs ep) :: K)) → J n kvs K → R (.ok f) s')
    {iv : Value} (hit : it.Is iv) {s : Shared} {K₀ : Led} {kvs₀ : List (Int × AV)} {ep₀ : Nat} (N : Rep G s (F 0 ++ ((C, .ns cn vals) :: (acc, .idict kvs₀ ep₀) :: K₀))) (hJ0 : J 0 kvs₀ K₀) :
    codeAny (model G.prog G.w) A (.compStart (.DictComp kx vx [⟨t0, i0, [], 0⟩, ⟨t1, i1, [], 0⟩] scope pos) 1 iv (.ref acc) cenv) R s := by
  have loop : ∀ {iv : Value} {s : Shared}, it.Is iv → Rep G s (F 0 ++ ((C, .ns cn vals) :: (acc, .idict kvs₀ ep₀) :: K₀)) → codeAny (model G.prog G.w) A (.compLoop (.DictComp kx vx [⟨t0, i0, [], 0⟩, ⟨t1, i1, [], 0⟩] scope pos) 1 iv (.ref acc) cenv) R s := by
    intro iv s hit N
    refine codeAny_loop rfl (fun m s => ∃ k kvs ep K, m = n - k ∧ k ≤ n ∧ Rep G s (F k ++ ((C, .ns cn vals) :: (acc, .idict kvs ep) :: K)) ∧ J k kvs K) (fun m s hq1 => ?_) n (PL.m4_3 0 kvs₀ ep₀ K₀ (by lia) (Nat.zero_le _) N hJ0)
    (revert hq1; refine PL.j4_3 ?_; rintro k kvs ep K hm hk N hJ)
    show wpAny _ A ((compTurn (.DictComp kx vx [⟨t0, i0, [], 0⟩, ⟨t1, i1, [], 0⟩] scope pos) 1 iv (.ref acc) cenv).onRaise (fun x => do noteFrame x cenv; theTreesLotGoes x)) _ _ s
    refine wpAny_noted ?_
    rw [compTurn_d1]
    refine wpAny_bind (wpAny_standAt (wpAny_bind ?_))
    by_cases hlt : k < n
    · refine wpAny_mono (W.next k _ (fun o l => ∃ a E, o = some a ∧ P k a E ∧ l = E ++ (Fm (k + 1) a ++ ((C, .ns cn vals) :: (acc, .idict kvs ep) :: K))) noX hlt (fun a E hp => (PL.m2_2 a E rfl hp rfl)) iv hit s N) (fun r s₁ hq2 => ?_) none_ex2
      obtain ⟨o, l₁, ho, N₁, a, E, e, hp, el⟩ := hq2
      subst e el
      (revert ho; refine PL.j1_1 ?_; rintro u rfl hu)
      refine wpAny_bind (wpAny_mono (W.go k _ a E t1 (fun l => l = E ++ (F (k + 1) ++ ((C, .ns cn vals) :: (acc, .idict kvs ep) :: K))) noX hT hp rfl iv u hit hu s₁ N₁) (fun _ s₂ ⟨_, l₂, _, N₂, e⟩ => ?_) none_ex2)
      subst e
      refine wpAny_bind (wpAny_mono (turn k kvs ep a E K hlt hp hJ u hu s₂ N₂) (fun _ s₃ ⟨_, l₃, _, N₃, h₃⟩ => ?_) none_ex2)
      refine wpAny_bind (wpAny_tests_nil ?_)
      simp only [if_true]
      refine wpAny_bind (wpAny_bind (wpAny_mono (h₃ s₃ N₃) (fun kv s₄ hq3 => ?_) none_ex2))
      obtain ⟨x, l₄, hx, N₄, kk, ex, h₄⟩ := hq3
      subst ex
      obtain ⟨t, rfl⟩ := hx
      refine wpAny_bind (wpAny_holding (wpAny_mono (h₄ s₄ N₄) (fun vv s₅ hq4 => ?_) none_ex2))
      obtain ⟨y, l₅, hy, N₅, K', ep', hs, hJ'⟩ := hq4
      refine wpAny_bind (wpAny_standAt (wpAny_holding ?_))
      have N₆ : Rep G s₅ ((acc, .idict kvs ep') :: (F (k + 1) ++ ((C, .ns cn vals) :: K'))) := N₅.sub (.trans (.perm (by
          refine List.Perm.trans ?_ List.perm_middle
          exact List.Perm.append_left _ (List.Perm.swap ..))) hs)
      obtain ⟨hd, kvs', hD, hr⟩ := N₆.at (ao := .idict kvs ep') .head
      have hlen : kvs'.length = kvs.length := hr.length.symm
      have hz := hsz k kvs K hJ
      refine wpAny_dictSet_pairs (knd := PySem.intKind G.prog G.w) (k := kk) (hsz := by rw [hlen]; exact Nat.le_trans (by lia : kvs.length ≤ 1000000) (by decide)) (isInt_self kk t) hD.dictOf fun h' hD' hs' => ?_
      obtain ⟨ep2, hD'⟩ := hD'.dictAt
      have N₇ := N₆.upd (tk := s₅.toks + 1) (ao' := .idict (storedI kvs kk y) ep2) .head hs'.extBut ⟨hd, _, hD', storedI_rel hr hy⟩
      refine wpAny_pure ⟨rfl, n - (k + 1), by lia, k + 1, storedI kvs kk y, ep2, K', rfl, hlt, N₇.sub (.perm ?_), hJ'⟩
      refine (List.Perm.trans ?_ List.perm_middle).symm
      exact List.Perm.append_left _ (List.Perm.swap ..)
    · have : k = n := by lia
      subst this
      refine wpAny_mono (W.stop _ (fun o l => o = none ∧ l = Fe ++ ((C, .ns cn vals) :: (acc, .idict kvs ep) :: K)) noX ⟨rfl, rfl⟩ iv hit s N) (fun r s₁ hq5 => ?_) none_ex2
      obtain ⟨o, l₁, ho, N₁, e, el⟩ := hq5
      subst e el
      cases ho
      exact wpAny_pure (fin _ _ kvs ep K N₁ hJ)
  refine compStart_d1 (loop hit N) ?_
  refine wpAny_mono (W.again _ (fun a l => a = it ∧ l = F 0 ++ ((C, .ns cn vals) :: (acc, .idict kvs₀ ep₀) :: K₀)) noX ⟨rfl, rfl⟩ iv hit s N) (fun iv' s' hq6 => ?_) (fun e s' h => none_ex2 e s' h)
  obtain ⟨a, l₁, ha, N', e, el⟩ := hq6
  subst e el
  exact loop ha N'
end
end PL
end
section
open PySem PySem.Calls PyProof.Rows PySem.W
set_option autoImplicit false
set_option linter.unusedVariables false
set_option maxRecDepth 100000
set_option maxHeartbeats 0
namespace PL
section
variable {G : Gd} {A : Around} {env cenv : Env} {l l' : Led} {X : Xp}
/-- what the inner for asks, its iterator known -/
noncomputable def InAsk (G : Gd) (A : Around) (cenv : Env) (kx vx t1 : Expr) (C acc : Addr) (cn : List (Str × NameKind)) (vals : List (Option AV)) (F : Led) (J : List (Int × AV) → Led → Prop) (it : AV) (l₅ : Led) : Prop :=
  ∃ n F2 Fm Fe P T vals2 kvs ep L₀, Walk G A it n F2 Fm Fe P T ∧ T t1 ∧ Sub (F2 0 ++ ((C, .ns cn vals2) :: (acc, .idict kvs ep) :: L₀)) l₅ ∧ ∃ J2 : Nat → List (Int × AV) → Led → Prop, J2 0 kvs L₀ ∧ (∀ k kvs K, J2 k kvs K → kvs.length < 1000000) ∧
    (∀ k kvs ep a E K, k < n → P k a E → J2 k kvs K → Asg G A cenv t1 a (E ++ (F2 (k + 1) ++ ((C, .ns cn vals2) :: (acc, .idict kvs ep) :: K))) (fun l₃ => EE G A cenv kx l₃ (fun x l₄ => ∃ kk, x = .int kk ∧
      EE G A cenv vx l₄ (fun y l₅ => IEnd (F2 (k + 1)) C acc cn vals2 kvs (J2 (k + 1) (storedI kvs kk y)) l₅) noX) noX) noX) ∧
    (∀ kvs ep K, J2 n kvs K → IEnd F C acc cn vals kvs (J kvs) (Fe ++ ((C, .ns cn vals2) :: (acc, .idict kvs ep) :: K)))
theorem dcomp_out {kx vx t0 i0 t1 i1 : Expr} {scope : Scope} {pos : Pos} {it : AV} {n : Nat} {F : Nat → Led} {Fm : Nat → AV → Led} {Fe : Led} {P : Nat → AV → Led → Prop} {T : Expr → Prop} (W : Walk G A it n F Fm Fe P T) (hT : T t0) {C acc : Addr} {cn : List (Str × NameKind)} {vals : List (Option AV)}
    (hi1 : ∀ x, foldedSetIterable i1 cenv x = pure x)
    (J : Nat → List (Int × AV) → Led → Prop)
    (turn : ∀ k kvs ep a E K, k < n → P k a E → J k kvs K → Asg G A cenv t0 a (E ++ (F (k + 1) ++ ((C, .ns cn vals) :: (acc, .idict kvs ep) :: K))) (fun l₃ => EE G A cenv i1 l₃ (fun x l₄ =>
      Op1 G A pyIter x l₄ (InAsk G A cenv kx vx t1 C acc cn vals (F (k + 1)) (J (k + 1))) noX) noX) noX)
    {R : Result → Shared → Prop} (fin : ∀ f s' kvs ep K, Rep G s' (Fe ++ ((C, .ns cn vals) :: (acc, .idict kvs ep) :: K)) → J n kvs K → R (.ok f) s')
    {iv : Value} (hit : it.Is iv) {s : Shared} {K₀ : Led} {ep₀ : Nat} (N : Rep G s (F 0 ++ ((C, .ns cn vals) :: (acc, .idict [] ep₀) :: K₀))) (hJ0 : J 0 [] K₀) :
    codeAny (model G.prog G.w) A (.compStart (.DictComp kx vx [⟨t0, i0, [], 0⟩, ⟨t1, i1, [], 0⟩] scope pos) 0 iv (.ref acc) cenv) R s := by
  have loop : ∀ {iv : Value} {s : Shared}, it.Is iv → Rep G s (F 0 ++ ((C, .ns cn vals) :: (acc, .idict [] ep₀) :: K₀)) → codeAny (model G.prog G.w) A (.compLoop (.DictComp kx vx [⟨t0, i0, [], 0⟩, ⟨t1, i1, [], 0⟩] scope pos) 0 iv (.ref acc) cenv) R s := by
    intro iv s hit N
    refine codeAny_loop rfl (fun m s => ∃ k kvs ep K, m = n - k ∧ k ≤ n ∧ Rep G s (F k ++ ((C, .ns cn vals) :: (acc, .idict kvs ep) :: K)) ∧ J k kvs K) (fun m s hq1 => ?_) n (PL.m4_3 0 ([]) ep₀ K₀ (by lia) (Nat.zero_le _) N hJ0)
    (revert hq1; refine PL.j4_3 ?_; rintro k kvs ep K hm hk N hJ)
    show wpAny _ A ((compTurn (.DictComp kx vx [⟨t0, i0, [], 0⟩, ⟨t1, i1, [], 0⟩] scope pos) 0 iv (.ref acc) cenv).onRaise (fun x => do noteFrame x cenv; theTreesLotGoes x)) _ _ s
    refine wpAny_noted ?_
    rw [compTurn_d0]
    refine wpAny_bind (wpAny_standAt (wpAny_bind ?_))
    by_cases hlt : k < n
    · refine wpAny_mono (W.next k _ (fun o l => ∃ a E, o = some a ∧ P k a E ∧ l = E ++ (Fm (k + 1) a ++ ((C, .ns cn vals) :: (acc, .idict kvs ep) :: K))) noX hlt (fun a E hp => (PL.m2_2 a E rfl hp rfl)) iv hit s N) (fun r s₁ hq2 => ?_) none_ex2
      obtain ⟨o, l₁, ho, N₁, a, E, e, hp, el⟩ := hq2
      subst e el
      (revert ho; refine PL.j1_1 ?_; rintro u rfl hu)
      refine wpAny_bind (wpAny_mono (W.go k _ a E t0 (fun l => l = E ++ (F (k + 1) ++ ((C, .ns cn vals) :: (acc, .idict kvs ep) :: K))) noX hT hp rfl iv u hit hu s₁ N₁) (fun _ s₂ ⟨_, l₂, _, N₂, e⟩ => ?_) none_ex2)
      subst e
      refine wpAny_bind (wpAny_mono (turn k kvs ep a E K hlt hp hJ u hu s₂ N₂) (fun _ s₃ ⟨_, l₃, _, N₃, h₃⟩ => ?_) none_ex2)
      refine wpAny_bind (wpAny_tests_nil ?_)
      simp only [if_true]
      show wpAny _ _ (eval i1 cenv >>= _) _ _ s₃
      refine wpAny_bind (wpAny_mono (h₃ s₃ N₃) (fun xv s₄ ⟨x, l₄, hx, N₄, h₄⟩ => ?_) none_ex2)
      refine wpAny_bind (wpAny_standAt ?_)
      show wpAny _ _ (foldedSetIterable i1 cenv xv >>= _) _ _ s₄
      rw [hi1]
      refine wpAny_bind (wpAny_pure ?_)
      show wpAny _ _ (holding [xv] (pyIter xv) >>= _) _ _ s₄
      refine wpAny_bind (wpAny_holding (wpAny_mono (h₄ xv hx s₄ N₄) (fun iv2 s₅ hq3 => ?_) none_ex2))
      obtain ⟨it2, l₅, hit2, N₅, n2, F2, Fm2, Fe2, P2, T2, vals2, kvs2, ep2, L₀, W2, hT2, hsub, J2, hJ20, hsz, turn2, hfin⟩ := hq3
      refine wpAny_bind (wpAny_runOwn (h := none) ?_)
      refine dcomp_in (A := A) W2 hT2 J2 hsz turn2 (fun f s' kvs ep K N' hJ' => ?_) hit2 (N₅.sub hsub) hJ20
      (refine PL.x2_1 (hfin kvs ep K hJ') ?_; rintro K' ep' hs' hJ1)
      exact wpAny_pure ⟨rfl, n - (k + 1), by lia, k + 1, kvs, ep', K', rfl, hlt, N'.sub hs', hJ1⟩
    · have : k = n := by lia
      subst this
      refine wpAny_mono (W.stop _ (fun o l => o = none ∧ l = Fe ++ ((C, .ns cn vals) :: (acc, .idict kvs ep) :: K)) noX ⟨rfl, rfl⟩ iv hit s N) (fun r s₁ hq4 => ?_) none_ex2
      obtain ⟨o, l₁, ho, N₁, e, el⟩ := hq4
      subst e el
      cases ho
      exact wpAny_pure (fin _ _ kvs ep K N₁ hJ)
  refine codeAny_compStart_dict (loop hit N) ?_
  refine wpAny_mono (W.again _ (fun a l => a = it ∧ l = F 0 ++ ((C, .ns cn vals) :: (acc, .idict [] ep₀) :: K₀)) noX ⟨rfl, rfl⟩ iv hit s N) (fun iv' s' hq5 => ?_) (fun e s' h => none_ex2 e s' h)
  obtain ⟨a, l₁, ha, N', e, el⟩ := hq5
  subst e el
  exact loop ha N'
end
section
variable {G : Gd} {A : Around} {env : Env} {l l' : Led} {X : Xp} {names cn cn' : List (Str × NameKind)} {L : Addr} {cl cl2 : List (Str × Addr)} {ownk : List Str} {vals : List (Option AV)} {gt : List (Str × AV)}
noncomputable def DAsk2 (G : Gd) (A : Around) (env : Env) (scope : Scope) (cn' : List (Str × NameKind)) (cl2 : List (Str × Addr)) (ownk : List Str) (vals : List (Option AV)) (kx vx t0 t1 i1 : Expr) (R : AV → Led → Prop) (it : AV) (l₂ : Led) : Prop :=
  ∃ n F Fm Fe P T L₀, Walk G A it n F Fm Fe P T ∧ T t0 ∧ Sub (F 0 ++ L₀) l₂ ∧ ∀ C acc own cenv, own.map (fun p : Str × Addr => p.1) = ownk → EnvOk cenv cn' C (own ++ cl2) →
    (∀ x, foldedSetIterable i1 cenv x = pure x) ∧ ∃ J : Nat → List (Int × AV) → Led → Prop, J 0 [] (cellNone own ++ L₀) ∧
      (∀ k kvs ep a E K, k < n → P k a E → J k kvs K → Asg G A cenv t0 a (E ++ (F (k + 1) ++ ((C, .ns cn' vals) :: (acc, .idict kvs ep) :: K))) (fun l₃ => EE G A cenv i1 l₃ (fun x l₄ =>
        Op1 G A pyIter x l₄ (InAsk G A cenv kx vx t1 C acc cn' vals (F (k + 1)) (J (k + 1))) noX) noX) noX) ∧
      (∀ kvs ep K, J n kvs K → R (.ref acc) ((acc, .idict kvs ep) :: (Fe ++ K)))
theorem EE.dictcomp2 {kx vx t0 i0 t1 i1 : Expr} {scope : Scope} {pos : Pos} {R : AV → Led → Prop} (hg : GlobOk G gt) (hE : EnvOk env names L cl) (hS : CompOk scope names cn cn' cl cl2 ownk vals)
    (h : EE G A env i0 l (fun x l₁ => Op1 G A pyIter x l₁ (DAsk2 G A env scope cn' cl2 ownk vals kx vx t0 t1 i1 R) X) X)
    (hs : ∀ x, foldedSetIterable i0 env x = pure x := by intro _; with_unfolding_all rfl) : EE G A env (.DictComp kx vx [⟨t0, i0, [], 0⟩, ⟨t1, i1, [], 0⟩] scope pos) l R X := fun s N => by
  show wpAny _ _ (comprehension (.DictComp kx vx [⟨t0, i0, [], 0⟩, ⟨t1, i1, [], 0⟩] scope pos) scope env (firstIterPos [⟨t0, i0, [], 0⟩, ⟨t1, i1, [], 0⟩] pos) newDict false (eval i0 env) Option.none) _ _ s
  obtain ⟨hk, e1, e2, e3, e4, e5, e6, e7, e8, e9, e10⟩ := hS
  subst e1
  refine wpAny_comprehension_free (cl := cl2) rfl hs (by rw [closure_eq hE e3, e4]) hk e6 ?_
  refine wpAny_mono (h s N) (fun x s₁ ⟨a, l₁, ha, N₁, h₁⟩ => ?_) (fun _ _ y => y)
  refine wpAny_mono (h₁ x ha s₁ N₁) (fun iv s₂ hq6 => ?_) (fun _ _ y => y)
  obtain ⟨it, l₂, hit, N₂, n, F, Fm, Fe, P, T, L₀, W, hT, hsub, h₂⟩ := hq6
  simp only [newDict, newObj]
  refine wpAny_bind (wpAny_alloc (wpAny_pure ?_))
  (revert hg; refine PL.j2_2 ?_; rintro mg mb n1 n2 _)
  have hz : mainGlobals < s₂.heap.objs.size := (n1.keeps N₂.keep).lt
  have hne : (s₂.heap.objs.size == sysModules) = false := beq_eq_false_iff_ne.mpr fun e => by
    rw [e] at hz; exact absurd hz (by decide)
  have N₃ : Rep G { s₂ with heap := s₂.heap.push { cls := .type "dict", data := .dict #[] } } ((s₂.heap.objs.size, .idict [] 0) :: (F 0 ++ L₀)) := (N₂.sub hsub).push (ao := .idict [] 0) rfl
    ⟨hne, [], (PL.m2_5 _ (#[]) (Heap.get?_push_size _ rfl) ((PL.m0_2 rfl rfl rfl)) rfl (fun _ he => by simp at he) Pairs.nil List.nodup_nil), .nil⟩
  refine comp_env hE hk (by rw [e2]; exact e5) e7 (by rw [e2]; exact e8) N₃ fun cenv C own s₄ hC hown hEc N₄ => ?_
  rw [e2] at hEc N₄
  rw [e10] at N₄
  rw [e9] at hown
  obtain ⟨hi1, J, hJ0, turn, hfin⟩ := h₂ C s₂.heap.objs.size own _ hown hEc
  subst hC
  refine dcomp_out W hT hi1 (acc := s₂.heap.objs.size) (cn := cn') (vals := vals) (C := cenv.locals) J turn (fun f s' kvs ep K N' hJ => ?_) hit (K₀ := cellNone own ++ L₀) (ep₀ := 0) ?_ hJ0
  · have N'' := N'.perm (List.Perm.trans (List.perm_middle (l₁ := Fe)) (List.Perm.cons _ (List.perm_middle (l₁ := Fe))))
    (refine PL.x1_1 (N''.at .head) ?_; rintro m hm _)
    exact (PL.m1_1 m hm (fun h' hh => ⟨.ref s₂.heap.objs.size, _, rfl, N''.drop hh.extBut, hfin kvs ep K hJ⟩))
  · refine N₄.perm ?_
    refine List.Perm.trans ?_ List.perm_middle.symm
    refine List.Perm.cons _ ?_
    refine List.Perm.trans ?_ List.perm_middle.symm
    refine List.Perm.trans List.perm_middle (List.Perm.cons _ ?_)
    rw [← List.append_assoc, ← List.append_assoc]
    exact List.Perm.append_right _ List.perm_append_comm
end
end PL
end
section
open PySem PySem.Calls PyProof.Rows PySem.W
set_option autoImplicit false
set_option linter.unusedVariables false
set_option maxRecDepth 100000
set_option maxHeartbeats 0
namespace PL
section
variable {G : Gd} {A : Around} {env : Env} {l l' : Led} {X : Xp} {R : AV → Led → Prop}
theorem Asg.tupM {elts : List Expr} {k : Nat} {pos : Pos} {p : Addr} {as : List AV} {n : Nat} {R : Led → Prop} (hr : Room A n) (hm : (p, .tuple as) ∈ l) {ts : List (Value → Sem Unit)} (h : AIO G A ts as l R X)
    (hts : (assignEach elts env).map (·.2) = ts := by with_unfolding_all rfl) (hn : (assignEach elts env).length = as.length := by with_unfolding_all rfl) (hst : (assignEach elts env).findIdx? (·.1) = Option.none := by with_unfolding_all rfl) : Asg G A env (.Tuple elts k pos) (.ref p) l R X := fun v hv s N => by
  cases hv
  obtain ⟨l', hp⟩ := Pick.ofMem hm
  (refine PL.x1_1 (N.at hp) ?_; rintro vs ho ha)
  refine wpAny_assign_Tuple (items := vs.toArray) hr.h ⟨_, ho, rfl, 0, rfl⟩ (by rw [hn, ha.length]; simp) hst fun h' hk => ?_
  have N' : Rep G { s with heap := h' } l := N.ext (tk := s.toks) fun b o e => hk b o (Nat.ne_of_lt (Heap.lt_size e)) e
  rw [hts]
  exact h _ ha _ N'
theorem Get.natM {p : Addr} {xs : List AV} {k : Nat} {a : AV} (hp : (p, .list xs) ∈ l) (hz : k < 1000000) (hx : xs[k]? = some a) (h : R a l) : Op2 G A getItem (.ref p) (.int (k : Int)) l R X := fun v u hv hu s N => by
  obtain ⟨l', hp'⟩ := Pick.ofMem hp
  exact Get.nat hp' hz hx h v u hv hu s N
theorem Pick.app' {p : Addr × AO} {M M' : Led} (h : Pick p M M') : ∀ I : Led, Pick p (I ++ M) (I ++ M')
  | [] => h
  | _ :: I => .tail (Pick.app' h I)
theorem Sub.midI {p : Addr × AO} {M M' : Led} (h : Pick p M M') (I : Led) : Sub (I ++ M) (p :: (I ++ M')) := .perm ((List.Perm.append_left I h.perm).trans List.perm_middle).symm
theorem Sub.midO {p : Addr × AO} {M M' : Led} (h : Pick p M M') (I : Led) : Sub (p :: (I ++ M')) (I ++ M) := .perm ((List.Perm.append_left I h.perm).trans List.perm_middle)
end
end PL
end
section
open PySem PySem.Calls PyProof.Rows PySem.W
set_option autoImplicit false
set_option linter.unusedVariables false
set_option maxRecDepth 100000
set_option maxHeartbeats 0
namespace PL
section
variable {G : Gd} {A : Around} {env : Env} {l l' : Led} {X : Xp} {R : AV → Led → Prop} {d : Addr} {kvs : List (Int × AV)} {ep : Nat}
theorem getKRI {kvs : List (Int × AV)} {kvs' : List (Int × Value)} (h : All2 KRel kvs kvs') {i : Nat} {k : Int} {a : AV} (hx : kvs[i]? = some (k, a)) : ∃ v, kvs'[i]? = some (k, v) ∧ a.Is v := by
  (refine PL.x1_2 (h.get hx) ?_; rintro ⟨k', v⟩ h1 h2 h3)
  cases h2
  exact (PL.m1_1 v h1 h3)
theorem walk_keysI {it : Addr} (hh : A.handled = none) : Walk G A (.ref it) kvs.length (fun k => [(it, .keyiter d k kvs.length ep), (d, .idict kvs ep)]) (fun k _ => [(it, .keyiter d k kvs.length ep), (d, .idict kvs ep)]) [(d, .idict kvs ep)] (fun i a E => ∃ k b, kvs[i]? = some (k, b) ∧ a = .int k ∧ E = []) IsName where
  next i L R X hk h v hv s N := by
    cases hv
    have hit : s.heap.IsKeyIter it d i kvs.length ep := N.at (ao := .keyiter d i kvs.length ep) .head
    obtain ⟨hd, kvs', hD, hr⟩ := N.at (ao := .idict kvs ep) (.tail .head)
    obtain ⟨k, b, hb⟩ : ∃ k b, kvs[i]? = some (k, b) := (PL.m2_0 (kvs[i].1) (kvs[i].2) (List.getElem?_eq_getElem hk))
    (refine PL.x1_1 (getKRI hr hb) ?_; rintro u hu _)
    rw [hr.length] at hit
    exact wpAny_pyNext_dict_item hit hD hu fun key h' hkey hit' hs' => ⟨some (.int k), _, (PL.m1_1 key rfl (by
      cases key <;> simp [intKind, Value.isInt] at hkey
      exact ⟨_, by rw [hkey]⟩)), N.upd (tk := s.toks) (ao' := .keyiter d (i + 1) kvs.length ep) .head hs'.extBut (by rw [hr.length]; exact hit'), h (.int k) [] (PL.m2_2 k b hb rfl rfl)⟩
  go k L a E target R X ht hp h v u hv hu s N := by
    (revert hp; refine PL.j2_2 ?_; rintro _ _ _ _ rfl)
    cases target with
    | Name => exact wpAny_pure ⟨(), _, trivial, N, h⟩
    | _ => cases ht
  stop L R X h v hv s N := by
    cases hv
    have hit : s.heap.IsKeyIter it d kvs.length kvs.length ep := N.at (ao := .keyiter d kvs.length kvs.length ep) .head
    obtain ⟨hd, kvs', hD, hr⟩ := N.at (ao := .idict kvs ep) (.tail .head)
    rw [hr.length] at hit
    exact wpAny_pyNext_dict_end hh hit hD (by simp) fun h' hs' => ⟨none, _, rfl, N.drop (tk := s.toks) hs', h⟩
  again L R X h v hv s N := by
    cases hv
    have hit : s.heap.IsKeyIter it d 0 kvs.length ep := N.at (ao := .keyiter d 0 kvs.length ep) .head
    exact wpAny_pyIter_keyiter hit ⟨.ref it, _, rfl, N, h⟩
theorem iter_idict {R : AV → Led → Prop} (hp : Pick (d, .idict kvs ep) l l') (h : ∀ it, R (.ref it) ([(it, .keyiter d 0 kvs.length ep), (d, .idict kvs ep)] ++ l')) : Op1 G A pyIter (.ref d) l R X := fun v hv s N => by
  cases hv
  obtain ⟨hd, kvs', hD, hr⟩ := N.at hp
  refine wpAny_pyIter_dict hd hD ⟨.ref s.heap.objs.size, _, rfl, (N.push (ao := .keyiter d 0 kvs.length ep) rfl (PL.m1_2 _ (Heap.get?_push_size _ rfl) rfl ?_)).sub (.keep (.perm hp.perm)), h _⟩
  rw [hr.length]; rfl
theorem StN.sub {x : Str} {a : AV} {R : Led → Prop} (hs : Sub l' l) (h : StN G A env x a l' R X) : StN G A env x a l R X := fun v hv s N => h v hv s (N.sub hs)
theorem Op2.eqRun {p q a b : Addr} {t : Bool} {ss : List Str} {n : Nat} (hr : Room A n) (hp : (p, .tuple [.bool t, .ref a]) ∈ l) (hq : (q, .tuple [.bool t, .ref b]) ∈ l) (ha : (a, .list (ss.map .str)) ∈ l) (hb : (b, .list (ss.map .str)) ∈ l) (ho : okS ss = true) (h : R (.bool true) l) :
    Op2 G A (compareOp .Eq) (.ref p) (.ref q) l R X := by
  have hc : (PyData.tuple [.bool t, .list (strsD ss)]).canLay0 = true := by
    simp only [PyData.canLay0, PyData.canLayAll0, Bool.true_and, Bool.and_true]
    exact canLay_strs ho
  refine Op2.eqData hr (.tuple hp (.cons .bool (.cons (.list ha (RDs.strs ss)) .nil))) (.tuple hq (.cons .bool (.cons (.list hb (RDs.strs ss)) .nil))) hc hc ?_ ?_
  · have := depth_strs ss
    simp only [PyData.depth, PyData.depthAll]
    rw [strsD] at this
    lia
  · have e : PyData.eqv (.tuple [.bool t, .list (strsD ss)]) (.tuple [.bool t, .list (strsD ss)]) = true := by
      simp only [PyData.eqv, PyData.eqvAll]
      rw [eqv_strs]
      simp
    rw [e]
    exact h
end
theorem perm_tab {α : Type} (d f c : α) (I T R : List α) : (d :: (I ++ (T ++ (R ++ [f, c])))).Perm (f :: c :: (T ++ (d :: (I ++ R)))) := by
  have e1 : (d :: (I ++ (T ++ (R ++ [f, c])))) = (d :: I ++ T ++ R) ++ [f, c] := by simp
  have e2 : (f :: c :: (T ++ (d :: (I ++ R)))) = [f, c] ++ (T ++ (d :: I) ++ R) := by simp
  rw [e1, e2]
  refine List.perm_append_comm.trans (List.Perm.append_left _ ?_)
  exact List.Perm.append_right _ List.perm_append_comm
end PL
end
section
open PySem PySem.Calls PyProof.Rows PySem.W
set_option autoImplicit false
set_option compiler.extract_closed false
namespace PL
theorem Mem.h {α : Type} {a : α} {l : List α} : a ∈ a :: l := .head l
theorem Mem.t {α : Type} {a b : α} {l : List α} (h : a ∈ l) : a ∈ b :: l := .tail b h
section
variable {G : Gd} {l l' : Led} {name : Str} {T id : String} {R : AV → List AV → Led → Prop} {A : Around} {X : Xp}
theorem GM.list {p : Addr} {xs : List AV} (hB : BM "list" name id) (hp : Pick (p, .list xs) l l') (h : R (.lit (.builtin id)) [.ref p] l) : GM G A name (.ref p) l R X := .builtin hB (.list hp) h
theorem GM.sset {p : Addr} {S : Str → Bool} {n : Nat} (hB : BM "set" name id) (hp : Pick (p, .sset S n) l l') (h : R (.lit (.builtin id)) [.ref p] l) : GM G A name (.ref p) l R X := .builtin hB (.sset hp) h
theorem GM.sdict {p : Addr} {kvs : List (Str × AV)} {ep : Nat} (hB : BM "dict" name id) (hp : Pick (p, .sdict kvs ep) l l') (h : R (.lit (.builtin id)) [.ref p] l) : GM G A name (.ref p) l R X := .builtin hB (.sdict hp) h
theorem GM.str {x : Str} (hB : BM "str" name id) (h : R (.lit (.builtin id)) [.str x] l) : GM G A name (.str x) l R X := .builtin hB .str h
end
def wI (x : String) : Lean.Ident := Lean.mkIdent ((x.splitOn ".").foldl Lean.Name.mkStr `PL)
abbrev wT := Lean.MacroM (Lean.TSyntax `tactic)
def wS (x : String) : wT := match x with
  | "a" => `(tactic| assumption)
  | x => if x.any (· == '.') then `(tactic| apply $(wI x)) else pure ⟨Lean.mkNode ((`PySem.W).mkStr ("tactic" ++ x.capitalize)) #[Lean.mkAtom x]⟩
def wP (x : String) : Lean.MacroM Lean.Term := if x == "k" then `($(wI "kept_of") (by assumption) _ (by with_unfolding_all rfl)) else if x.startsWith "=" then pure (wI ((x.splitOn "=").getLast!)) else do `(by $(← wS x):tactic)
def wA (x : String) : wT := match x.splitOn ":" with
  | i :: w :: ws => do (w :: ws).foldlM (fun a w => do `(tactic| ($a; · $(← wS w):tactic))) (← `(tactic| apply $(wI i)))
  | _ => match x.splitOn "/" with
    | "" :: "" :: w :: _ => do `(tactic| refine Or.inl ⟨$(← wP w), ?_⟩)
    | "" :: w :: _ => do `(tactic| refine ⟨$(← wP w), ?_⟩)
    | i :: ws => do `(tactic| refine $(wI i) $(← ws.toArray.mapM wP)* ?_)
    | _ => wS x
def wB (x : String) : wT := if x.any (· == ':') then wA x else wS x
def wF (f : String → wT) (p c : String) : wT := do
  let ts ← (p.splitOn c).toArray.mapM fun x => do `(Lean.Parser.Tactic.tacticSeq| $(← f x):tactic)
  `(tactic| first $[| $ts]*)
def wR (f : String → wT) (p : String) : wT := do `(tactic| with_reducible repeat $(← wF f p " "):tactic)
def wQ (f : String → wT) (p c : String) : wT := do `(tactic| with_reducible $(← wF f p c):tactic)
def wG (x : String) : wT := match x.splitOn "!" with
  | [g, q] => do `(tactic| (refine (?_ : $(wI g) ..); $(← wF wA q " "):tactic))
  | _ => wF wA x " "
end PL
end
section
open PySem PySem.W PyProof.Rows
set_option maxRecDepth 100000
set_option maxHeartbeats 0
namespace HD
abbrev pw : Program := PySem.Challenge.rw_ij0184_01.row.prog
def stN (l : List Stmt) (n : Nat) : Stmt := l.getD n (.Pass default)
def fA : Stmt → Arguments
  | .FunctionDef _ a _ _ _ _ _ _ _ _ => a
  | _ => default
def fB : Stmt → List Stmt
  | .FunctionDef _ _ b _ _ _ _ _ _ _ => b
  | .ClassDef _ _ _ b _ _ _ _ _ _ _ => b
  | _ => []
def fS : Stmt → Scope
  | .FunctionDef _ _ _ _ _ _ s _ _ _ => s
  | _ => default
def fP : Stmt → Pos
  | .FunctionDef _ _ _ _ _ _ _ _ _ p => p
  | _ => default
def tp (n : Nat) : Stmt := stN pw.main.body n
def mt (n m : Nat) : Stmt := stN (fB (tp n)) m
def s (x : String) (t : Tok) : Value := .str (Str.ofString x) t
def e (P : Params) (x : String) (t : Tok) (v : Value) : DictEntry := { hash := PyData.keyHash P (Str.ofString x), key := .str (Str.ofString x) t, val := v }
def fo (n q : String) (st : Stmt) (df pm c : Value) : Obj := { cls := .type "function", data := .func { name := Str.ofString n, qualname := Str.ofString q, params := fA st, body := .stmts (fB st), scope := fS st, globals := 3, closure := [], defaults := df, kwdefaults := .none, pyModule := pm, code := c } }
noncomputable def hp : Params → Frag := fun P =>
  (nat_lit 3, { cls := (.type "dict"), data := .dict #[(e P "__name__" 165 (s "law_ij0184_01" 729)), (e P "__doc__" 166 .none), (e P "__package__" 167 .none), (e P "__loader__" 168 (.builtin "__main__.__loader__#opaque")), (e P "__spec__" 169 .none), (e P "__annotations__" 170 (.ref 6)), (e P "__builtins__" 171 (.ref 4)), (e P "__file__" 173 (s "/claim/cut.py" 172)), (e P "__cached__" 174 .none), (e P "_sre" 275 (.ref 12)), (e P "_wall" 288 (.ref 38)), (e P "_NODE_OUT" 293 (.int (-1) 292)), (e P "_NODE_DONE" 296 (.int (-2) 295)), (e P "_NodeInfo" 333 (.ref 57)), (e P "CycleError" 351 (.ref 72)), (e P "TopologicalSorter" 470 (.ref 154)), (e P "_twin_re_1" 508 (.ref 163)), (e P "_special_chars_map" 656 (.ref 165)), (e P "escape" 663 (.ref 175)), (e P "_translate" 684 (.ref 182)), (e P "heappush" 694 (.ref 189)), (e P "heappop" 703 (.ref 196)), (e P "_siftdown" 715 (.ref 203)), (e P "_siftup" 728 (.ref 210)), (e P "_law_names" 736 (.ref 215)), (e P "_law_takes" 744 (.ref 222)), (e P "_law_taken" 750 (.ref 227)), (e P "_law_tables" 756 (.ref 232)), (e P "_law_run" 762 (.ref 237)), (e P "_law_kinds" 771 (.ref 244)), (e P "_law_due" 777 (.ref 249)), (e P "law" 783 (.ref 254))] 32 }) ::
  (nat_lit 37, { cls := (.type "code"), data := .fields #[(s "_wall" 282), (s "_wall" 283), (s "/claim/cut.py" 284), (.int (2) 0), (.int (1) 0), (.int (0) 0), (.int (0) 0), (.int (3) 0), (.ref 32), (.bool true), (.int (276) 0), (.ref 33), .none, (.ref 34), (.ref 35), (.ref 36), (.int (286) 0), (.int (2) 0), (s "/claim/cut.py" 287)] }) ::
  (nat_lit 38, (fo "_wall" "_wall" (tp 1) .none (s "__main__" 164) (.ref 37))) ::
  (nat_lit 52, { cls := (.type "code"), data := .fields #[(s "__init__" 313), (s "_NodeInfo.__init__" 314), (s "/claim/cut.py" 315), (.int (11) 0), (.int (2) 0), (.int (0) 0), (.int (0) 0), (.int (3) 0), (.ref 47), (.bool true), (.int (276) 0), (.ref 48), .none, (.ref 49), (.ref 50), (.ref 51), (.int (318) 0), (.int (11) 0), (s "/claim/cut.py" 319)] }) ::
  (nat_lit 53, (fo "__init__" "_NodeInfo.__init__" (mt 5 1) .none (s "cpy313.graphlib" 289) (.ref 52))) ::
  (nat_lit 56, { cls := (.type "dict"), data := .dict #[(e P "__module__" 304 (s "cpy313.graphlib" 289)), (e P "__firstlineno__" 308 (.int (8) 307)), (e P "__slots__" 312 (.ref 46)), (e P "__init__" 320 (.ref 53)), (e P "__static_attributes__" 324 (.ref 54)), (e P "node" 326 (.ref 58)), (e P "npredecessors" 328 (.ref 59)), (e P "successors" 330 (.ref 60)), (e P "__doc__" 331 .none)] 5 }) ::
  (nat_lit 57, { cls := (.type "type"), data := .cls { name := (Str.ofString "_NodeInfo"), bases := [(.type "object")], mro := [(.ref 57), (.type "object")], ns := 56, qualname := (Str.ofString "_NodeInfo"), hasDict := false, slotNames := [(Str.ofString "node"), (Str.ofString "npredecessors"), (Str.ofString "successors")], subclasses := [], abstract := false, hasDel := false }, slots := #[none, none, some (s "_NodeInfo" 297), some (s "_NodeInfo" 305), some (.builtin "object.__new__"), some (.bool false)] }) ::
  (nat_lit 58, { cls := (.type "member_descriptor"), data := .fields #[(s "node" 325), (.ref 57), (.builtin "proto.slot"), (.builtin "proto.slot#set"), (.int (2) 0)] }) ::
  (nat_lit 59, { cls := (.type "member_descriptor"), data := .fields #[(s "npredecessors" 327), (.ref 57), (.builtin "proto.slot"), (.builtin "proto.slot#set"), (.int (1) 0)] }) ::
  (nat_lit 60, { cls := (.type "member_descriptor"), data := .fields #[(s "successors" 329), (.ref 57), (.builtin "proto.slot"), (.builtin "proto.slot#set"), (.int (0) 0)] }) ::
  (nat_lit 63, { cls := (.type "tuple"), data := .seq #[(.type "ValueError")] 0 }) ::
  (nat_lit 71, { cls := (.type "dict"), data := .dict #[(e P "__module__" 341 (s "cpy313.graphlib" 289)), (e P "__firstlineno__" 345 (.int (15) 344)), (e P "__static_attributes__" 346 (.ref 70)), (e P "__weakref__" 348 (.ref 73)), (e P "__doc__" 349 .none)] 3 }) ::
  (nat_lit 72, { cls := (.type "type"), data := .cls { name := (Str.ofString "CycleError"), bases := [(.type "ValueError")], mro := [(.ref 72), (.type "ValueError"), (.type "Exception"), (.type "BaseException"), (.type "object")], ns := 71, qualname := (Str.ofString "CycleError"), hasDict := true, slotNames := [], subclasses := [], abstract := false, hasDel := false }, slots := #[some (.ref 63), none, some (s "CycleError" 334), some (s "CycleError" 342), some (.builtin "ValueError.__new__"), some (.bool true)] }) ::
  (nat_lit 73, { cls := (.type "getset_descriptor"), data := .fields #[(s "__weakref__" 347), (.ref 72), (.builtin "ExceptionGroup.__weakref__"), .none] }) ::
  (nat_lit 83, { cls := (.type "tuple"), data := .seq #[.none] 0 }) ::
  (nat_lit 89, { cls := (.type "code"), data := .fields #[(s "__init__" 364), (s "TopologicalSorter.__init__" 365), (s "/claim/cut.py" 366), (.int (19) 0), (.int (2) 0), (.int (0) 0), (.int (0) 0), (.int (3) 0), (.ref 84), (.bool true), (.int (276) 0), (.ref 85), .none, (.ref 86), (.ref 87), (.ref 88), (.int (371) 0), (.int (19) 0), (s "/claim/cut.py" 372)] }) ::
  (nat_lit 90, (fo "__init__" "TopologicalSorter.__init__" (mt 7 0) (.ref 83) (s "cpy313.graphlib" 289) (.ref 89))) ::
  (nat_lit 96, { cls := (.type "code"), data := .fields #[(s "_get_nodeinfo" 374), (s "TopologicalSorter._get_nodeinfo" 375), (s "/claim/cut.py" 376), (.int (28) 0), (.int (2) 0), (.int (0) 0), (.int (0) 0), (.int (3) 0), (.ref 91), (.bool true), (.int (276) 0), (.ref 92), .none, (.ref 93), (.ref 94), (.ref 95), (.int (380) 0), (.int (28) 0), (s "/claim/cut.py" 381)] }) ::
  (nat_lit 97, (fo "_get_nodeinfo" "TopologicalSorter._get_nodeinfo" (mt 7 1) .none (s "cpy313.graphlib" 289) (.ref 96))) ::
  (nat_lit 103, { cls := (.type "code"), data := .fields #[(s "add" 383), (s "TopologicalSorter.add" 384), (s "/claim/cut.py" 385), (.int (33) 0), (.int (2) 0), (.int (0) 0), (.int (0) 0), (.int (7) 0), (.ref 98), (.bool true), (.int (276) 0), (.ref 99), .none, (.ref 100), (.ref 101), (.ref 102), (.int (392) 0), (.int (33) 0), (s "/claim/cut.py" 393)] }) ::
  (nat_lit 104, (fo "add" "TopologicalSorter.add" (mt 7 2) .none (s "cpy313.graphlib" 289) (.ref 103))) ::
  (nat_lit 108, { cls := (.type "code"), data := .fields #[(s "prepare" 395), (s "TopologicalSorter.prepare" 396), (s "/claim/cut.py" 397), (.int (42) 0), (.int (1) 0), (.int (0) 0), (.int (0) 0), (.int (3) 0), (.ref 105), (.bool true), (.int (276) 0), (.ref 106), .none, .none, .none, (.ref 107), (.int (398) 0), (.int (42) 0), (s "/claim/cut.py" 399)] }) ::
  (nat_lit 109, (fo "prepare" "TopologicalSorter.prepare" (mt 7 3) .none (s "cpy313.graphlib" 289) (.ref 108))) ::
  (nat_lit 115, { cls := (.type "code"), data := .fields #[(s "get_ready" 401), (s "TopologicalSorter.get_ready" 402), (s "/claim/cut.py" 403), (.int (50) 0), (.int (1) 0), (.int (0) 0), (.int (0) 0), (.int (3) 0), (.ref 110), (.bool true), (.int (276) 0), (.ref 111), .none, (.ref 112), (.ref 113), (.ref 114), (.int (408) 0), (.int (50) 0), (s "/claim/cut.py" 409)] }) ::
  (nat_lit 116, (fo "get_ready" "TopologicalSorter.get_ready" (mt 7 4) .none (s "cpy313.graphlib" 289) (.ref 115))) ::
  (nat_lit 122, { cls := (.type "code"), data := .fields #[(s "is_active" 411), (s "TopologicalSorter.is_active" 412), (s "/claim/cut.py" 413), (.int (61) 0), (.int (1) 0), (.int (0) 0), (.int (0) 0), (.int (3) 0), (.ref 117), (.bool true), (.int (276) 0), (.ref 118), .none, (.ref 119), (.ref 120), (.ref 121), (.int (415) 0), (.int (61) 0), (s "/claim/cut.py" 416)] }) ::
  (nat_lit 123, (fo "is_active" "TopologicalSorter.is_active" (mt 7 5) .none (s "cpy313.graphlib" 289) (.ref 122))) ::
  (nat_lit 129, { cls := (.type "code"), data := .fields #[(s "__bool__" 418), (s "TopologicalSorter.__bool__" 419), (s "/claim/cut.py" 420), (.int (66) 0), (.int (1) 0), (.int (0) 0), (.int (0) 0), (.int (3) 0), (.ref 124), (.bool true), (.int (276) 0), (.ref 125), .none, (.ref 126), (.ref 127), (.ref 128), (.int (422) 0), (.int (66) 0), (s "/claim/cut.py" 423)] }) ::
  (nat_lit 130, (fo "__bool__" "TopologicalSorter.__bool__" (mt 7 6) .none (s "cpy313.graphlib" 289) (.ref 129))) ::
  (nat_lit 136, { cls := (.type "code"), data := .fields #[(s "done" 425), (s "TopologicalSorter.done" 426), (s "/claim/cut.py" 427), (.int (69) 0), (.int (1) 0), (.int (0) 0), (.int (0) 0), (.int (7) 0), (.ref 131), (.bool true), (.int (276) 0), (.ref 132), .none, (.ref 133), (.ref 134), (.ref 135), (.int (436) 0), (.int (69) 0), (s "/claim/cut.py" 437)] }) ::
  (nat_lit 137, (fo "done" "TopologicalSorter.done" (mt 7 7) .none (s "cpy313.graphlib" 289) (.ref 136))) ::
  (nat_lit 143, { cls := (.type "code"), data := .fields #[(s "_find_cycle" 439), (s "TopologicalSorter._find_cycle" 440), (s "/claim/cut.py" 441), (.int (92) 0), (.int (1) 0), (.int (0) 0), (.int (0) 0), (.int (3) 0), (.ref 138), (.bool true), (.int (276) 0), (.ref 139), .none, (.ref 140), (.ref 141), (.ref 142), (.int (449) 0), (.int (92) 0), (s "/claim/cut.py" 450)] }) ::
  (nat_lit 144, (fo "_find_cycle" "TopologicalSorter._find_cycle" (mt 7 8) .none (s "cpy313.graphlib" 289) (.ref 143))) ::
  (nat_lit 150, { cls := (.type "code"), data := .fields #[(s "static_order" 452), (s "TopologicalSorter.static_order" 453), (s "/claim/cut.py" 454), (.int (121) 0), (.int (1) 0), (.int (0) 0), (.int (0) 0), (.int (3) 0), (.ref 145), (.bool true), (.int (276) 0), (.ref 146), .none, (.ref 147), (.ref 148), (.ref 149), (.int (456) 0), (.int (121) 0), (s "/claim/cut.py" 457)] }) ::
  (nat_lit 151, (fo "static_order" "TopologicalSorter.static_order" (mt 7 9) .none (s "cpy313.graphlib" 289) (.ref 150))) ::
  (nat_lit 153, { cls := (.type "dict"), data := .dict #[(e P "__module__" 359 (s "cpy313.graphlib" 289)), (e P "__firstlineno__" 363 (.int (17) 362)), (e P "__init__" 373 (.ref 90)), (e P "_get_nodeinfo" 382 (.ref 97)), (e P "add" 394 (.ref 104)), (e P "prepare" 400 (.ref 109)), (e P "get_ready" 410 (.ref 116)), (e P "is_active" 417 (.ref 123)), (e P "__bool__" 424 (.ref 130)), (e P "done" 438 (.ref 137)), (e P "_find_cycle" 451 (.ref 144)), (e P "static_order" 458 (.ref 151)), (e P "__static_attributes__" 463 (.ref 152)), (e P "__dict__" 465 (.ref 155)), (e P "__weakref__" 467 (.ref 156)), (e P "__doc__" 468 .none)] 4 }) ::
  (nat_lit 154, { cls := (.type "type"), data := .cls { name := (Str.ofString "TopologicalSorter"), bases := [(.type "object")], mro := [(.ref 154), (.type "object")], ns := 153, qualname := (Str.ofString "TopologicalSorter"), hasDict := true, slotNames := [], subclasses := [], abstract := false, hasDel := false }, slots := #[none, none, some (s "TopologicalSorter" 352), some (s "TopologicalSorter" 360), some (.builtin "object.__new__"), some (.bool true)] }) ::
  (nat_lit 155, { cls := (.type "getset_descriptor"), data := .fields #[(s "__dict__" 464), (.ref 154), (.builtin "function.__dict__"), (.builtin "function.__dict__#set")] }) ::
  (nat_lit 156, { cls := (.type "getset_descriptor"), data := .fields #[(s "__weakref__" 466), (.ref 154), (.builtin "ExceptionGroup.__weakref__"), .none] }) ::
  (nat_lit 162, { cls := (.type "tuple"), data := .seq #[(.int (14) 0), (.int (14) 0), (.int (4) 0), (.int (1) 0), (.int (1) 0), (.int (9) 0), (.int (0) 0), (.int (64) 0), (.int (0) 0), (.int (1342177280) 0), (.int (0) 0), (.int (0) 0), (.int (0) 0), (.int (0) 0), (.int (0) 0), (.int (17) 0), (.int (0) 0), (.int (13) 0), (.int (11) 0), (.int (9) 0), (.int (0) 0), (.int (64) 0), (.int (0) 0), (.int (1342177280) 0), (.int (0) 0), (.int (0) 0), (.int (0) 0), (.int (0) 0), (.int (0) 0), (.int (17) 0), (.int (1) 0), (.int (1) 0)] 0 }) ::
  (nat_lit 163, { cls := (.type "re.Pattern"), data := .fields #[(s "([&~|])" 472), (.int (32) 507), (.int (1) 0), .none, .none, (.ref 162), (.int (0) 0)] }) ::
  (nat_lit 165, { cls := (.type "dict"), data := .dict #[{ hash := 40, key := (.int (40) 512), val := (s "\\(" 516) }, { hash := 41, key := (.int (41) 518), val := (s "\\)" 522) }, { hash := 91, key := (.int (91) 524), val := (s "\\[" 528) }, { hash := 93, key := (.int (93) 530), val := (s "\\]" 534) }, { hash := 123, key := (.int (123) 536), val := (s "\\{" 540) }, { hash := 125, key := (.int (125) 542), val := (s "\\}" 546) }, { hash := 63, key := (.int (63) 548), val := (s "\\?" 552) }, { hash := 42, key := (.int (42) 554), val := (s "\\*" 558) }, { hash := 43, key := (.int (43) 560), val := (s "\\+" 564) }, { hash := 45, key := (.int (45) 566), val := (s "\\-" 570) }, { hash := 124, key := (.int (124) 572), val := (s "\\|" 576) }, { hash := 94, key := (.int (94) 578), val := (s "\\^" 582) }, { hash := 36, key := (.int (36) 584), val := (s "\\$" 588) }, { hash := 92, key := (.int (92) 590), val := (s "\\\\" 594) }, { hash := 46, key := (.int (46) 596), val := (s "\\." 600) }, { hash := 38, key := (.int (38) 602), val := (s "\\&" 606) }, { hash := 126, key := (.int (126) 608), val := (s "\\~" 612) }, { hash := 35, key := (.int (35) 614), val := (s "\\#" 618) }, { hash := 32, key := (.int (32) 620), val := (s "\\ " 624) }, { hash := 9, key := (.int (9) 626), val := (s "\\\t" 630) }, { hash := 10, key := (.int (10) 632), val := (s "\\\n" 636) }, { hash := 13, key := (.int (13) 638), val := (s "\\\x0d" 642) }, { hash := 11, key := (.int (11) 644), val := (s "\\\x0b" 648) }, { hash := 12, key := (.int (12) 650), val := (s "\\\x0c" 654) }] 24 }) ::
  (nat_lit 174, { cls := (.type "code"), data := .fields #[(s "escape" 657), (s "escape" 658), (s "/claim/cut.py" 659), (.int (126) 0), (.int (1) 0), (.int (0) 0), (.int (0) 0), (.int (3) 0), (.ref 169), (.bool true), (.int (276) 0), (.ref 170), .none, (.ref 171), (.ref 172), (.ref 173), (.int (661) 0), (.int (126) 0), (s "/claim/cut.py" 662)] }) ::
  (nat_lit 175, (fo "escape" "escape" (tp 11) .none (s "re" 509) (.ref 174))) ::
  (nat_lit 181, { cls := (.type "code"), data := .fields #[(s "_translate" 666), (s "_translate" 667), (s "/claim/cut.py" 668), (.int (133) 0), (.int (3) 0), (.int (0) 0), (.int (0) 0), (.int (3) 0), (.ref 176), (.bool true), (.int (276) 0), (.ref 177), .none, (.ref 178), (.ref 179), (.ref 180), (.int (682) 0), (.int (133) 0), (s "/claim/cut.py" 683)] }) ::
  (nat_lit 182, (fo "_translate" "_translate" (tp 13) .none (s "cpy313.fnmatch" 664) (.ref 181))) ::
  (nat_lit 188, { cls := (.type "code"), data := .fields #[(s "heappush" 687), (s "heappush" 688), (s "/claim/cut.py" 689), (.int (196) 0), (.int (2) 0), (.int (0) 0), (.int (0) 0), (.int (3) 0), (.ref 183), (.bool true), (.int (276) 0), (.ref 184), .none, (.ref 185), (.ref 186), (.ref 187), (.int (692) 0), (.int (196) 0), (s "/claim/cut.py" 693)] }) ::
  (nat_lit 189, (fo "heappush" "heappush" (tp 15) .none (s "cpy313.heapq" 685) (.ref 188))) ::
  (nat_lit 195, { cls := (.type "code"), data := .fields #[(s "heappop" 695), (s "heappop" 696), (s "/claim/cut.py" 697), (.int (199) 0), (.int (1) 0), (.int (0) 0), (.int (0) 0), (.int (3) 0), (.ref 190), (.bool true), (.int (276) 0), (.ref 191), .none, (.ref 192), (.ref 193), (.ref 194), (.int (701) 0), (.int (199) 0), (s "/claim/cut.py" 702)] }) ::
  (nat_lit 196, (fo "heappop" "heappop" (tp 16) .none (s "cpy313.heapq" 685) (.ref 195))) ::
  (nat_lit 202, { cls := (.type "code"), data := .fields #[(s "_siftdown" 704), (s "_siftdown" 705), (s "/claim/cut.py" 706), (.int (207) 0), (.int (3) 0), (.int (0) 0), (.int (0) 0), (.int (3) 0), (.ref 197), (.bool true), (.int (276) 0), (.ref 198), .none, (.ref 199), (.ref 200), (.ref 201), (.int (713) 0), (.int (207) 0), (s "/claim/cut.py" 714)] }) ::
  (nat_lit 203, (fo "_siftdown" "_siftdown" (tp 17) .none (s "cpy313.heapq" 685) (.ref 202))) ::
  (nat_lit 209, { cls := (.type "code"), data := .fields #[(s "_siftup" 716), (s "_siftup" 717), (s "/claim/cut.py" 718), (.int (218) 0), (.int (2) 0), (.int (0) 0), (.int (0) 0), (.int (3) 0), (.ref 204), (.bool true), (.int (276) 0), (.ref 205), .none, (.ref 206), (.ref 207), (.ref 208), (.int (726) 0), (.int (218) 0), (s "/claim/cut.py" 727)] }) ::
  (nat_lit 210, (fo "_siftup" "_siftup" (tp 18) .none (s "cpy313.heapq" 685) (.ref 209))) ::
  (nat_lit 214, { cls := (.type "code"), data := .fields #[(s "_law_names" 731), (s "_law_names" 732), (s "/claim/cut.py" 733), (.int (233) 0), (.int (1) 0), (.int (0) 0), (.int (0) 0), (.int (3) 0), (.ref 211), (.bool true), (.int (276) 0), (.ref 212), .none, .none, .none, (.ref 213), (.int (734) 0), (.int (233) 0), (s "/claim/cut.py" 735)] }) ::
  (nat_lit 215, (fo "_law_names" "_law_names" (tp 20) .none (s "law_ij0184_01" 729) (.ref 214))) ::
  (nat_lit 221, { cls := (.type "code"), data := .fields #[(s "_law_takes" 737), (s "_law_takes" 738), (s "/claim/cut.py" 739), (.int (240) 0), (.int (2) 0), (.int (0) 0), (.int (0) 0), (.int (3) 0), (.ref 216), (.bool true), (.int (276) 0), (.ref 217), .none, (.ref 218), (.ref 219), (.ref 220), (.int (742) 0), (.int (240) 0), (s "/claim/cut.py" 743)] }) ::
  (nat_lit 222, (fo "_law_takes" "_law_takes" (tp 21) .none (s "law_ij0184_01" 729) (.ref 221))) ::
  (nat_lit 226, { cls := (.type "code"), data := .fields #[(s "_law_taken" 745), (s "_law_taken" 746), (s "/claim/cut.py" 747), (.int (248) 0), (.int (2) 0), (.int (0) 0), (.int (0) 0), (.int (3) 0), (.ref 223), (.bool true), (.int (276) 0), (.ref 224), .none, .none, .none, (.ref 225), (.int (748) 0), (.int (248) 0), (s "/claim/cut.py" 749)] }) ::
  (nat_lit 227, (fo "_law_taken" "_law_taken" (tp 22) .none (s "law_ij0184_01" 729) (.ref 226))) ::
  (nat_lit 231, { cls := (.type "code"), data := .fields #[(s "_law_tables" 751), (s "_law_tables" 752), (s "/claim/cut.py" 753), (.int (262) 0), (.int (2) 0), (.int (0) 0), (.int (0) 0), (.int (3) 0), (.ref 228), (.bool true), (.int (276) 0), (.ref 229), .none, .none, .none, (.ref 230), (.int (754) 0), (.int (262) 0), (s "/claim/cut.py" 755)] }) ::
  (nat_lit 232, (fo "_law_tables" "_law_tables" (tp 23) .none (s "law_ij0184_01" 729) (.ref 231))) ::
  (nat_lit 236, { cls := (.type "code"), data := .fields #[(s "_law_run" 757), (s "_law_run" 758), (s "/claim/cut.py" 759), (.int (265) 0), (.int (3) 0), (.int (0) 0), (.int (0) 0), (.int (3) 0), (.ref 233), (.bool true), (.int (276) 0), (.ref 234), .none, .none, .none, (.ref 235), (.int (760) 0), (.int (265) 0), (s "/claim/cut.py" 761)] }) ::
  (nat_lit 237, (fo "_law_run" "_law_run" (tp 24) .none (s "law_ij0184_01" 729) (.ref 236))) ::
  (nat_lit 243, { cls := (.type "code"), data := .fields #[(s "_law_kinds" 763), (s "_law_kinds" 764), (s "/claim/cut.py" 765), (.int (284) 0), (.int (1) 0), (.int (0) 0), (.int (0) 0), (.int (3) 0), (.ref 238), (.bool true), (.int (276) 0), (.ref 239), .none, (.ref 240), (.ref 241), (.ref 242), (.int (769) 0), (.int (284) 0), (s "/claim/cut.py" 770)] }) ::
  (nat_lit 244, (fo "_law_kinds" "_law_kinds" (tp 25) .none (s "law_ij0184_01" 729) (.ref 243))) ::
  (nat_lit 248, { cls := (.type "code"), data := .fields #[(s "_law_due" 772), (s "_law_due" 773), (s "/claim/cut.py" 774), (.int (288) 0), (.int (3) 0), (.int (0) 0), (.int (0) 0), (.int (3) 0), (.ref 245), (.bool true), (.int (276) 0), (.ref 246), .none, .none, .none, (.ref 247), (.int (775) 0), (.int (288) 0), (s "/claim/cut.py" 776)] }) ::
  (nat_lit 249, (fo "_law_due" "_law_due" (tp 26) .none (s "law_ij0184_01" 729) (.ref 248))) ::
  (nat_lit 253, { cls := (.type "code"), data := .fields #[(s "law" 778), (s "law" 779), (s "/claim/cut.py" 780), (.int (300) 0), (.int (1) 0), (.int (0) 0), (.int (0) 0), (.int (3) 0), (.ref 250), (.bool true), (.int (276) 0), (.ref 251), .none, .none, .none, (.ref 252), (.int (781) 0), (.int (300) 0), (s "/claim/cut.py" 782)] }) ::
  (nat_lit 254, (fo "law" "law" (tp 27) .none (s "law_ij0184_01" 729) (.ref 253))) :: []
def hpA : List Addr := nat_lit 3 :: nat_lit 37 :: nat_lit 38 :: nat_lit 52 :: nat_lit 53 :: nat_lit 56 :: nat_lit 57 :: nat_lit 58 :: nat_lit 59 :: nat_lit 60 :: nat_lit 63 :: nat_lit 71 :: nat_lit 72 :: nat_lit 73 :: nat_lit 83 :: nat_lit 89 :: nat_lit 90 :: nat_lit 96 :: nat_lit 97 :: nat_lit 103 :: nat_lit 104 :: nat_lit 108 :: nat_lit 109 :: nat_lit 115 :: nat_lit 116 :: nat_lit 122 :: nat_lit 123 :: nat_lit 129 :: nat_lit 130 :: nat_lit 136 :: nat_lit 137 :: nat_lit 143 :: nat_lit 144 :: nat_lit 150 :: nat_lit 151 :: nat_lit 153 :: nat_lit 154 :: nat_lit 155 :: nat_lit 156 :: nat_lit 162 :: nat_lit 163 :: nat_lit 165 :: nat_lit 174 :: nat_lit 175 :: nat_lit 181 :: nat_lit 182 :: nat_lit 188 :: nat_lit 189 :: nat_lit 195 :: nat_lit 196 :: nat_lit 202 :: nat_lit 203 :: nat_lit 209 :: nat_lit 210 :: nat_lit 214 :: nat_lit 215 :: nat_lit 221 :: nat_lit 222 :: nat_lit 226 :: nat_lit 227 :: nat_lit 231 :: nat_lit 232 :: nat_lit 236 :: nat_lit 237 :: nat_lit 243 :: nat_lit 244 :: nat_lit 248 :: nat_lit 249 :: nat_lit 253 :: nat_lit 254 :: []
def qv : Program := { pw with main := { pw.main with body := [tp 0, tp 27] } }
def lo : List Str := [Str.ofString "_NODE_OUT", Str.ofString "_NODE_DONE", Str.ofString "_NodeInfo", Str.ofString "CycleError", Str.ofString "TopologicalSorter", Str.ofString "_wall", Str.ofString "_twin_re_1", Str.ofString "_special_chars_map", Str.ofString "escape", Str.ofString "_translate", Str.ofString "heappush", Str.ofString "heappop", Str.ofString "_siftdown", Str.ofString "_siftup", Str.ofString "_law_names", Str.ofString "_law_takes", Str.ofString "_law_taken", Str.ofString "_law_tables", Str.ofString "_law_run", Str.ofString "_law_kinds", Str.ofString "_law_due"]
theorem hpA_eq (P : Params) : hpA = (hp P).map (·.1) := by kernel_rfl
noncomputable def hk : Hook := kmHook hp hpA hpA_eq [177]
theorem left_cut {p q : Program} {loose : List Str} {Xt : Shared → Bool} {α : Type} {Yf : Shared → α} {Ya : World → α} {N : Nat} {g0 : Bool}
    {tB : String → Option Builtin} {tG : (String → Option Builtin) → Program → World → Nat → Option Value → Nat → Shared → Thread → Option (Shared × Thread)}
    {tS : (String → Option Builtin) → Program → World → Nat → Option Value → Nat → Nat → Shared → Thread → Option (Flow × Shared × Code × Pos)}
    {tR : (String → Option Builtin) → Program → World → Nat → Option Value → Nat → Shared → Thread → Option Shared}
    {tI : (String → Option Builtin) → Program → World → Nat → Shared → Thread → Option Shared} {tF : Program → Shared → Option Shared} {tK : List Stmt → Env → Sem Unit} {tE : List Stmt → Env → Sem Flow} {tD : (String → Option Builtin) → Code → Sem Fin}
    (eB : treeTable = tB) (eG : topGo = tG) (eS : segRun = tS) (eR : topRun = tR) (eI : importEnds = tI) (eF : fenceModules? = tF) (eK : blockStart = tK) (eE : execs = tE) (eD : denote = tD)
    {b A M C : List Stmt} {bE : Env} {cE : Code} {q0 pb p8 p9 : Pos} {H8 H9 : World → Heap} {d : Drawn} {k8 k9 n₀ n nA nM nC : Nat} {ann : Option Value}
    (hc : cE = .body b bE) (hb : b = A ++ (M ++ C))
    (h1 : ∀ w : World, ((tI tB (opening p) w N (start (opening p)).1 (start (opening p)).2).bind (tF p)).map (fun s₀ => (s₀.heap.isNs mainGlobals && s₀.gens.size == 0, s₀.heap.objs.size, s₀.heap.nsMap mainGlobals "__annotations__",
      (tG tB p w n₀ ann n s₀ (topStub p)).bind fun x => (tS tB p w n₀ ann 1 2 x.1 ⟨(tK b bE).wrap (fun _ => doneF .next) deadEnd id id, cE, q0, [topFrame q0]⟩).bind fun y => (tS tB p w n₀ ann 1 nA y.2.1 ⟨(tE A bE).wrap doneF deadEnd id id, cE, y.2.2.2, [topFrame q0]⟩).map fun z =>
        (x.2, (y.1, y.2.2.1, y.2.2.2), (z.1, z.2.1.heap, z.2.1.gens, z.2.1.drawn, z.2.1.toks, z.2.2.1, z.2.2.2)))) =
      some (true, n₀, ann, some (⟨tD tB cE, cE, q0, [topFrame q0]⟩, (.next, cE, pb), (.next, H8 w, #[], d, k8, cE, p8))))
    (h2 : ∀ w : World, (fun os => tS tB p w n₀ ann 1 nM ⟨H8 w, #[], d, k8, os⟩ ⟨(tE M bE).wrap doneF deadEnd id id, cE, p8, [topFrame q0]⟩) = fun os => some (.next, ⟨H9 w, #[], d, k9, os⟩, cE, p9))
    (h3 : ∀ w : World, ((tI tB (opening p) w N (start (opening p)).1 (start (opening p)).2).bind (tF p)).map (fun s₀ => fun os => (tS tB p w n₀ ann 1 nC ⟨H9 w, #[], d, k9, os⟩ ⟨(tE C bE).wrap doneF deadEnd id id, cE, p9, [topFrame q0]⟩).bind fun y =>
      (tR tB p w n₀ ann 2 y.2.1 ⟨doneF .next, cE, y.2.2.2, [topFrame q0]⟩).map fun s₁ => ((y.1, y.2.2.1), (staticsOk (importedModules p.main.body) s₀.heap s₁.heap && namesBound p s₁.heap && gensDone s₁ && laidKept s₀.heap s₁.heap),
        openSeen q loose (importedModules p.main.body) Xt g0 s₁, Yf s₁)) = some (fun _ => some ((.next, cE), true, openGood q loose, Ya w)))
    (le : Nat.ble (n + (2 + (nA + (nM + (nC + 2))))) N = true) : LeftO p q loose Xt Yf Ya N g0 := fun w => by
  subst eB eG eS eR eI eF eK eE eD hc
  obtain ⟨s₀, e0, e1⟩ := Option.map_eq_some_iff.mp (h1 w)
  simp only [Prod.mk.injEq] at e1
  obtain ⟨z1, z2, z3, e2⟩ := e1
  obtain ⟨⟨sa, ta⟩, hx, e3⟩ := Option.bind_eq_some_iff.mp e2
  obtain ⟨⟨fb, sb, cb, qb⟩, hy, e4⟩ := Option.bind_eq_some_iff.mp e3
  obtain ⟨⟨fz, ⟨zh, zg, zd, zk, os⟩, cz, qz⟩, hz, e5⟩ := Option.map_eq_some_iff.mp e4
  simp only [Prod.mk.injEq] at e5
  obtain ⟨rfl, ⟨rfl, rfl, rfl⟩, rfl, rfl, rfl, rfl, rfl, rfl, rfl⟩ := e5
  obtain ⟨s₀', e0', e6⟩ := Option.map_eq_some_iff.mp (h3 w)
  obtain rfl : s₀ = s₀' := Option.some.inj (e0.symm.trans e0')
  obtain ⟨⟨fy, sy, cy, qy⟩, hy3, e7⟩ := Option.bind_eq_some_iff.mp (congrFun e6 os)
  obtain ⟨s₁, hs₁, e8⟩ := Option.map_eq_some_iff.mp e7
  simp only [Prod.mk.injEq] at e8
  obtain ⟨⟨rfl, rfl⟩, l1, l2, l3⟩ := e8
  have m := congrFun (h2 w) os
  have r0 : topRun treeTable p w n₀ ann (nC + 2) ⟨H9 w, #[], zd, k9, os⟩ (restOf C bE (.body b bE) p9 [topFrame q0]) = some s₁ := by
    have := piece_app (rest := []) hy3 (piece_nil hs₁)
    rwa [List.append_nil] at this
  have run : topRun treeTable p w n₀ ann (n + (2 + (nA + (nM + (nC + 2))))) s₀ (topStub p) = some s₁ := by
    refine go_top hx (piece_block hy ?_)
    have r := piece_app hz (piece_app m r0)
    rwa [← hb] at r
  have r := topRun_mono (N - (n + (2 + (nA + (nM + (nC + 2)))))) _ _ _ _ run
  rw [show (n + (2 + (nA + (nM + (nC + 2))))) + (N - (n + (2 + (nA + (nM + (nC + 2)))))) = N by have := Nat.le_of_ble_eq_true le; omega] at r
  have t : topFrom treeTable p w N s₀ = some s₁ := by
    unfold topFrom
    rw [z1, z2, z3]
    show (topRun treeTable p w n₀ ann N s₀ (topStub p)).bind _ = _
    rw [r]
    show (match staticsOk (importedModules p.main.body) s₀.heap s₁.heap && namesBound p s₁.heap && gensDone s₁ && laidKept s₀.heap s₁.heap with | true => _ | false => _) = _
    rw [l1]
  unfold openEnds fencedOpening
  rw [e0]
  show (topFrom treeTable p w N _).map _ = _
  rw [t]
  exact congrArg some (Prod.ext l2 l3)
noncomputable def fo0 (n q : String) (st : Stmt) : Obj := { cls := .none, data := .func { name := Str.ofString n, qualname := Str.ofString q, params := fA st, body := .stmts (fB st), scope := fS st, globals := 0, closure := [], defaults := .none, kwdefaults := .none } }
noncomputable def ob (w : World) (i : Nat) : Obj := (((PySem.W.Fast.tw10274390034422433532 PySem.W.Fast.tw14364793385576792824 (opening pw) w 5782 (start (opening pw)).1 (start (opening pw)).2).bind (PySem.W.Fast.tw14289696077712309145 pw)).bind fun s => s.heap.objs[i]?).getD default
noncomputable def h8 (w : World) : Heap := (fun P : Params => ({ objs := ⟨
  { cls := (.type "dict"), data := .dict #[(e P "__name__" 1 (s "builtins" 160)), (e P "__doc__" 2 (.builtin "builtins.__doc__:str#opaque")), (e P "__package__" 3 (.builtin "builtins.__package__:str#opaque")), (e P "__loader__" 4 (.builtin "builtins.__loader__:shared#opaque")), (e P "__spec__" 5 (.builtin "builtins.__spec__#opaque")), (e P "__build_class__" 6 (.builtin "__build_class__")), (e P "__import__" 7 (.builtin "__import__")), (e P "abs" 8 (.builtin "abs")), (e P "all" 9 (.builtin "all")), (e P "any" 10 (.builtin "any")), (e P "ascii" 11 (.builtin "ascii")), (e P "bin" 12 (.builtin "bin")), (e P "breakpoint" 13 (.builtin "breakpoint")), (e P "callable" 14 (.builtin "callable")), (e P "chr" 15 (.builtin "chr")), (e P "compile" 16 (.builtin "compile")), (e P "delattr" 17 (.builtin "delattr")), (e P "dir" 18 (.builtin "dir")), (e P "divmod" 19 (.builtin "divmod")), (e P "eval" 20 (.builtin "eval")), (e P "exec" 21 (.builtin "exec")), (e P "format" 22 (.builtin "format")), (e P "getattr" 23 (.builtin "getattr")), (e P "globals" 24 (.builtin "globals")), (e P "hasattr" 25 (.builtin "hasattr")), (e P "hash" 26 (.builtin "hash")), (e P "hex" 27 (.builtin "hex")), (e P "id" 28 (.builtin "id")), (e P "input" 29 (.builtin "input")), (e P "isinstance" 30 (.builtin "isinstance")), (e P "issubclass" 31 (.builtin "issubclass")), (e P "iter" 32 (.builtin "iter")), (e P "aiter" 33 (.builtin "aiter")), (e P "len" 34 (.builtin "len")), (e P "locals" 35 (.builtin "locals")), (e P "max" 36 (.builtin "max")), (e P "min" 37 (.builtin "min")), (e P "next" 38 (.builtin "next")), (e P "anext" 39 (.builtin "anext")), (e P "oct" 40 (.builtin "oct")), (e P "ord" 41 (.builtin "ord")), (e P "pow" 42 (.builtin "pow")), (e P "print" 43 (.builtin "print")), (e P "repr" 44 (.builtin "repr")), (e P "round" 45 (.builtin "round")), (e P "setattr" 46 (.builtin "setattr")), (e P "sorted" 47 (.builtin "sorted")), (e P "sum" 48 (.builtin "sum")), (e P "vars" 49 (.builtin "vars")), (e P "None" 50 .none), (e P "Ellipsis" 51 .ellipsis), (e P "NotImplemented" 52 .notImplemented), (e P "False" 53 (.bool false)), (e P "True" 54 (.bool true)), (e P "bool" 55 (.type "bool")), (e P "memoryview" 56 (.type "memoryview")), (e P "bytearray" 57 (.type "bytearray")), (e P "bytes" 58 (.type "bytes")), (e P "classmethod" 59 (.type "classmethod")), (e P "complex" 60 (.type "complex")), (e P "dict" 61 (.type "dict")), (e P "enumerate" 62 (.type "enumerate")), (e P "filter" 63 (.type "filter")), (e P "float" 64 (.type "float")), (e P "frozenset" 65 (.type "frozenset")), (e P "property" 66 (.type "property")), (e P "int" 67 (.type "int")), (e P "list" 68 (.type "list")), (e P "map" 69 (.type "map")), (e P "object" 70 (.type "object")), (e P "range" 71 (.type "range")), (e P "reversed" 72 (.type "reversed")), (e P "set" 73 (.type "set")), (e P "slice" 74 (.type "slice")), (e P "staticmethod" 75 (.type "staticmethod")), (e P "str" 76 (.type "str")), (e P "super" 77 (.type "super")), (e P "tuple" 78 (.type "tuple")), (e P "type" 79 (.type "type")), (e P "zip" 80 (.type "zip")), (e P "__debug__" 81 (.bool true)), (e P "BaseException" 82 (.type "BaseException")), (e P "BaseExceptionGroup" 83 (.type "BaseExceptionGroup")), (e P "Exception" 84 (.type "Exception")), (e P "GeneratorExit" 85 (.type "GeneratorExit")), (e P "KeyboardInterrupt" 86 (.type "KeyboardInterrupt")), (e P "SystemExit" 87 (.type "SystemExit")), (e P "ArithmeticError" 88 (.type "ArithmeticError")), (e P "AssertionError" 89 (.type "AssertionError")), (e P "AttributeError" 90 (.type "AttributeError")), (e P "BufferError" 91 (.type "BufferError")), (e P "EOFError" 92 (.type "EOFError")), (e P "ImportError" 93 (.type "ImportError")), (e P "LookupError" 94 (.type "LookupError")), (e P "MemoryError" 95 (.type "MemoryError")), (e P "NameError" 96 (.type "NameError")), (e P "OSError" 97 (.type "OSError")), (e P "ReferenceError" 98 (.type "ReferenceError")), (e P "RuntimeError" 99 (.type "RuntimeError")), (e P "StopAsyncIteration" 100 (.type "StopAsyncIteration")), (e P "StopIteration" 101 (.type "StopIteration")), (e P "SyntaxError" 102 (.type "SyntaxError")), (e P "SystemError" 103 (.type "SystemError")), (e P "TypeError" 104 (.type "TypeError")), (e P "ValueError" 105 (.type "ValueError")), (e P "Warning" 106 (.type "Warning")), (e P "FloatingPointError" 107 (.type "FloatingPointError")), (e P "OverflowError" 108 (.type "OverflowError")), (e P "ZeroDivisionError" 109 (.type "ZeroDivisionError")), (e P "BytesWarning" 110 (.type "BytesWarning")), (e P "DeprecationWarning" 111 (.type "DeprecationWarning")), (e P "EncodingWarning" 112 (.type "EncodingWarning")), (e P "FutureWarning" 113 (.type "FutureWarning")), (e P "ImportWarning" 114 (.type "ImportWarning")), (e P "PendingDeprecationWarning" 115 (.type "PendingDeprecationWarning")), (e P "ResourceWarning" 116 (.type "ResourceWarning")), (e P "RuntimeWarning" 117 (.type "RuntimeWarning")), (e P "SyntaxWarning" 118 (.type "SyntaxWarning")), (e P "UnicodeWarning" 119 (.type "UnicodeWarning")), (e P "UserWarning" 120 (.type "UserWarning")), (e P "BlockingIOError" 121 (.type "BlockingIOError")), (e P "ChildProcessError" 122 (.type "ChildProcessError")), (e P "ConnectionError" 123 (.type "ConnectionError")), (e P "FileExistsError" 124 (.type "FileExistsError")), (e P "FileNotFoundError" 125 (.type "FileNotFoundError")), (e P "InterruptedError" 126 (.type "InterruptedError")), (e P "IsADirectoryError" 127 (.type "IsADirectoryError")), (e P "NotADirectoryError" 128 (.type "NotADirectoryError")), (e P "PermissionError" 129 (.type "PermissionError")), (e P "ProcessLookupError" 130 (.type "ProcessLookupError")), (e P "TimeoutError" 131 (.type "TimeoutError")), (e P "IndentationError" 132 (.type "IndentationError")), (e P "_IncompleteInputError" 133 (.type "_IncompleteInputError")), (e P "IndexError" 134 (.type "IndexError")), (e P "KeyError" 135 (.type "KeyError")), (e P "ModuleNotFoundError" 136 (.type "ModuleNotFoundError")), (e P "NotImplementedError" 137 (.type "NotImplementedError")), (e P "PythonFinalizationError" 138 (.type "PythonFinalizationError")), (e P "RecursionError" 139 (.type "RecursionError")), (e P "UnboundLocalError" 140 (.type "UnboundLocalError")), (e P "UnicodeError" 141 (.type "UnicodeError")), (e P "BrokenPipeError" 142 (.type "BrokenPipeError")), (e P "ConnectionAbortedError" 143 (.type "ConnectionAbortedError")), (e P "ConnectionRefusedError" 144 (.type "ConnectionRefusedError")), (e P "ConnectionResetError" 145 (.type "ConnectionResetError")), (e P "TabError" 146 (.type "TabError")), (e P "UnicodeDecodeError" 147 (.type "UnicodeDecodeError")), (e P "UnicodeEncodeError" 148 (.type "UnicodeEncodeError")), (e P "UnicodeTranslateError" 149 (.type "UnicodeTranslateError")), (e P "ExceptionGroup" 150 (.type "ExceptionGroup")), (e P "EnvironmentError" 151 (.type "OSError")), (e P "IOError" 152 (.type "OSError")), (e P "open" 153 (.builtin "open")), (e P "quit" 154 (.builtin "builtins.quit#opaque")), (e P "exit" 155 (.builtin "builtins.exit#opaque")), (e P "copyright" 156 (.builtin "builtins.copyright#opaque")), (e P "credits" 157 (.builtin "builtins.credits#opaque")), (e P "license" 158 (.builtin "builtins.license#opaque")), (e P "help" 159 (.builtin "builtins.help#opaque"))] 159 } ::
  { cls := (.type "dict"), data := .dict #[(e P "builtins" 162 (.ref 4)), (e P "__main__" 163 (.ref 5)), (e P "_sre" 244 (.ref 12))] 3 } ::
  { cls := .none, data := .dict #[(e P "\x69mport.loaded._sre" 183 (.bool true)), (e P "class._frozen_importlib.BuiltinImporter" 185 (.ref 14)), (e P "watched.\x69mport" 206 (.ref 18)), (e P "class._frozen_importlib.ModuleSpec" 216 (.ref 22)), (e P "sys.modules.booked-epoch" 245 (.int (3) 0)), (e P "\x69mport.later-laid._sre" 270 (.bool true)), (e P "watched.library" 272 (.ref 27)), (e P "watched.library-objects" 0 (s "\x0c" 0)), (e P "watched.library-deep._sre" 273 (s "\x04\x00\x00\x0b\x04\x00\x00\x0b\x04\x00\x00\x03\x04\x00\x00\x0b\x08\x04dict\x02" 0))] 9 } ::
  { cls := (.type "dict"), data := .dict #[(e P "__name__" 165 (s "re" 509)), (e P "__doc__" 166 .none), (e P "__package__" 167 .none), (e P "__loader__" 168 (.builtin "__main__.__loader__#opaque")), (e P "__spec__" 169 .none), (e P "__annotations__" 170 (.ref 6)), (e P "__builtins__" 171 (.ref 4)), (e P "__file__" 173 (s "/claim/cut.py" 172)), (e P "__cached__" 174 .none), (e P "_sre" 275 (.ref 12)), (e P "_wall" 288 (.ref 38)), (e P "_NODE_OUT" 293 (.int (-1) 292)), (e P "_NODE_DONE" 296 (.int (-2) 295)), (e P "_NodeInfo" 333 (.ref 57)), (e P "CycleError" 351 (.ref 72)), (e P "TopologicalSorter" 470 (.ref 154)), (e P "_twin_re_1" 508 (.ref 163))] 17 } ::
  { cls := (.type "module"), data := .plain, dict := some 0 } ::
  { cls := (.type "module"), data := .plain, dict := some 3 } ::
  { cls := (.type "dict"), data := .dict #[] 0 } ::
  { cls := (.type "tuple"), data := .seq #[] 0 } ::
  { cls := .none, data := .fields #[] } ::
  { cls := (.type "code"), data := .fields #[(s "<module>" 176), (s "<module>" 177), (s "/claim/cut.py" 178), (.int (1) 0), (.int (0) 0), (.int (0) 0), (.int (0) 0), (.int (0) 0), (.ref 7), (.bool false), (.int (175) 0), (.ref 8), .none, .none, .none, .none, (.int (179) 0), (.int (1) 0), (s "/claim/cut.py" 180)] } ::
  { cls := (.type "frame"), data := .plain, slots := #[some (.ref 9), some (.ref 3), some (.ref 3), none, some (s "__main__" 164), none, some (.ref 0)] } ::
  { cls := (.type "dict"), data := .dict #[(e P "__name__" 247 (s "_sre" 246)), (e P "__doc__" 248 .none), (e P "__package__" 250 (s "" 249)), (e P "__loader__" 251 (.builtin "off-the-table:_sre.__loader__:shared#opaque")), (e P "__spec__" 252 (.builtin "off-the-table:_sre.__spec__:shared#opaque")), (e P "compile" 253 (.builtin "_sre.compile")), (e P "template" 254 (.builtin "off-the-table:_sre.template:shared#opaque")), (e P "getcodesize" 255 (.builtin "off-the-table:_sre.getcodesize:shared#opaque")), (e P "ascii_iscased" 256 (.builtin "off-the-table:_sre.ascii_iscased:shared#opaque")), (e P "unicode_iscased" 257 (.builtin "off-the-table:_sre.unicode_iscased:shared#opaque")), (e P "ascii_tolower" 258 (.builtin "off-the-table:_sre.ascii_tolower:shared#opaque")), (e P "unicode_tolower" 259 (.builtin "off-the-table:_sre.unicode_tolower:shared#opaque")), (e P "MAGIC" 261 (.int (20230612) 260)), (e P "CODESIZE" 263 (.int (4) 262)), (e P "MAXREPEAT" 265 (.int (4294967295) 264)), (e P "MAXGROUPS" 267 (.int (1073741823) 266)), (e P "copyright" 269 (s " SRE 2.2.2 Copyright (c) 1997-2002 by Secret Labs AB " 268))] 17 } ::
  { cls := (.type "module"), data := .plain, dict := some 11 } ::
  { cls := (.type "dict"), data := .dict #[(e P "__module__" 189 (s "_frozen_importlib" 186)), (e P "__firstlineno__" 190 (.int (971) 187)), (e P "__doc__" 191 (.builtin "_frozen_importlib.BuiltinImporter.__doc__:str#opaque")), (e P "_ORIGIN" 192 (s "built-in" 188)), (e P "find_spec" 193 (.builtin "_frozen_importlib.BuiltinImporter.find_spec#opaque")), (e P "create_module" 194 (.builtin "_frozen_importlib.BuiltinImporter.create_module#opaque")), (e P "exec_module" 195 (.builtin "_frozen_importlib.BuiltinImporter.exec_module#opaque")), (e P "get_code" 196 (.builtin "_frozen_importlib.BuiltinImporter.get_code#opaque")), (e P "get_source" 197 (.builtin "_frozen_importlib.BuiltinImporter.get_source#opaque")), (e P "is_package" 198 (.builtin "_frozen_importlib.BuiltinImporter.is_package#opaque")), (e P "load_module" 199 (.builtin "_frozen_importlib.BuiltinImporter.load_module#opaque")), (e P "__static_attributes__" 200 (.ref 15)), (e P "__dict__" 202 (.ref 16)), (e P "__weakref__" 204 (.ref 17))] 14 } ::
  { cls := (.type "type"), data := .cls { name := (Str.ofString "BuiltinImporter"), bases := [(.type "object")], mro := [(.ref 14), (.type "object")], ns := 13, qualname := (Str.ofString "BuiltinImporter"), hasDict := true, slotNames := [], subclasses := [], abstract := false, hasDel := false } } ::
  { cls := (.type "tuple"), data := .seq #[] 0 } ::
  { cls := (.type "getset_descriptor"), data := .fields #[(s "__dict__" 201), (.ref 14), (.builtin "function.__dict__"), (.builtin "function.__dict__#set")] } ::
  { cls := (.type "getset_descriptor"), data := .fields #[(s "__weakref__" 203), (.ref 14), (.builtin "ExceptionGroup.__weakref__"), .none] } ::
  (ob w 18) ::
  { cls := (.type "list"), data := .seq #[] 0 } ::
  { cls := (.type "dict"), data := .dict #[(e P "name" 208 (s "_sre" 207)), (e P "loader" 209 (.ref 14)), (e P "origin" 210 (s "built-in" 184)), (e P "loader_state" 211 .none), (e P "submodule_search_locations" 212 .none), (e P "_uninitialized_submodules" 213 (.ref 19)), (e P "_set_fileattr" 214 (.bool false)), (e P "_cached" 215 .none), (e P "_initializing" 243 (.bool false))] 9 } ::
  { cls := (.type "dict"), data := .dict #[(e P "__module__" 227 (s "_frozen_importlib" 217)), (e P "__firstlineno__" 228 (.int (562) 218)), (e P "__doc__" 229 (.builtin "_frozen_importlib.ModuleSpec.__doc__:str#opaque")), (e P "__init__" 230 (.builtin "_frozen_importlib.ModuleSpec.__init__#opaque")), (e P "__repr__" 231 (.builtin "_frozen_importlib.ModuleSpec.__repr__#opaque")), (e P "__eq__" 232 (.builtin "_frozen_importlib.ModuleSpec.__eq__#opaque")), (e P "cached" 233 (.builtin "_frozen_importlib.ModuleSpec.cached#opaque")), (e P "parent" 234 (.builtin "_frozen_importlib.ModuleSpec.parent#opaque")), (e P "has_location" 235 (.builtin "_frozen_importlib.ModuleSpec.has_location#opaque")), (e P "__static_attributes__" 236 (.ref 23)), (e P "__dict__" 238 (.ref 24)), (e P "__weakref__" 240 (.ref 25)), (e P "__hash__" 241 .none)] 13 } ::
  { cls := (.type "type"), data := .cls { name := (Str.ofString "ModuleSpec"), bases := [(.type "object")], mro := [(.ref 22), (.type "object")], ns := 21, qualname := (Str.ofString "ModuleSpec"), hasDict := true, slotNames := [], subclasses := [], abstract := false, hasDel := false } } ::
  { cls := (.type "tuple"), data := .seq #[(s "_cached" 219), (s "_set_fileattr" 220), (s "_uninitialized_submodules" 221), (s "loader" 222), (s "loader_state" 223), (s "name" 224), (s "origin" 225), (s "submodule_search_locations" 226)] 0 } ::
  { cls := (.type "getset_descriptor"), data := .fields #[(s "__dict__" 237), (.ref 22), (.builtin "function.__dict__"), (.builtin "function.__dict__#set")] } ::
  { cls := (.type "getset_descriptor"), data := .fields #[(s "__weakref__" 239), (.ref 22), (.builtin "ExceptionGroup.__weakref__"), .none] } ::
  { cls := (.ref 22), data := .plain, dict := some 20 } ::
  (ob w 27) ::
  { cls := (.type "tuple"), data := .seq #[] 0 } ::
  { cls := .none, data := .fields #[(.int (2) 0), (.int (0) 0), (.ref 37), (.int (8) 0), (.int (0) 0), (.ref 44), (.int (15) 0), (.int (0) 0), (.ref 68), (.int (17) 0), (.int (0) 0), (.ref 81)] } ::
  { cls := (.type "code"), data := .fields #[(s "<module>" 277), (s "<module>" 278), (s "/claim/cut.py" 279), (.int (1) 0), (.int (0) 0), (.int (0) 0), (.int (0) 0), (.int (0) 0), (.ref 28), (.bool false), (.int (276) 0), (.ref 29), .none, .none, .none, .none, (.int (280) 0), (.int (1) 0), (s "/claim/cut.py" 281)] } ::
  { cls := (.type "frame"), data := .plain, slots := #[some (.ref 30), some (.ref 3), some (.ref 3), none, some (s "__main__" 164), none, some (.ref 0)] } ::
  { cls := (.type "tuple"), data := .seq #[] 0 } ::
  { cls := .none, data := .fields #[] } ::
  { cls := (.type "tuple"), data := .seq #[(s "k" 285)] 0 } ::
  { cls := (.type "tuple"), data := .seq #[] 0 } ::
  (fo0 "_wall" "_wall" (tp 1)) ::
  { cls := (.type "code"), data := .fields #[(s "_wall" 282), (s "_wall" 283), (s "/claim/cut.py" 284), (.int (2) 0), (.int (1) 0), (.int (0) 0), (.int (0) 0), (.int (3) 0), (.ref 32), (.bool true), (.int (276) 0), (.ref 33), .none, (.ref 34), (.ref 35), (.ref 36), (.int (286) 0), (.int (2) 0), (s "/claim/cut.py" 287)] } ::
  (fo "_wall" "_wall" (tp 1) .none (s "__main__" 164) (.ref 37)) ::
  { cls := (.type "tuple"), data := .seq #[] 0 } ::
  { cls := (.type "builtin_function_or_method"), data := .fields #[(.builtin "type.__prepare__"), (.type "type")] } ::
  { cls := (.type "dict"), data := .dict #[(e P "__module__" 304 (s "cpy313.graphlib" 289)), (e P "__qualname__" 306 (s "_NodeInfo" 305)), (e P "__firstlineno__" 308 (.int (8) 307)), (e P "__slots__" 312 (.ref 46)), (e P "__init__" 320 (.ref 53)), (e P "__static_attributes__" 324 (.ref 54))] 6 } ::
  { cls := (.type "tuple"), data := .seq #[] 0 } ::
  { cls := .none, data := .fields #[(.int (11) 0), (.int (4) 0), (.ref 52)] } ::
  { cls := (.type "code"), data := .fields #[(s "_NodeInfo" 299), (s "_NodeInfo" 300), (s "/claim/cut.py" 301), (.int (8) 0), (.int (0) 0), (.int (0) 0), (.int (0) 0), (.int (0) 0), (.ref 42), (.bool false), (.int (276) 0), (.ref 43), .none, .none, .none, .none, (.int (302) 0), (.int (8) 0), (s "/claim/cut.py" 303)] } ::
  { cls := (.type "frame"), data := .plain, slots := #[some (.ref 44), some (.ref 3), some (.ref 41), none, some (s "cpy313.graphlib" 289), none, some (.ref 0)] } ::
  { cls := (.type "tuple"), data := .seq #[(s "node" 309), (s "npredecessors" 310), (s "successors" 311)] 0 } ::
  { cls := (.type "tuple"), data := .seq #[] 0 } ::
  { cls := .none, data := .fields #[] } ::
  { cls := (.type "tuple"), data := .seq #[(s "self" 316), (s "node" 317)] 0 } ::
  { cls := (.type "tuple"), data := .seq #[] 0 } ::
  (fo0 "__init__" "_NodeInfo.__init__" (mt 5 1)) ::
  { cls := (.type "code"), data := .fields #[(s "__init__" 313), (s "_NodeInfo.__init__" 314), (s "/claim/cut.py" 315), (.int (11) 0), (.int (2) 0), (.int (0) 0), (.int (0) 0), (.int (3) 0), (.ref 47), (.bool true), (.int (276) 0), (.ref 48), .none, (.ref 49), (.ref 50), (.ref 51), (.int (318) 0), (.int (11) 0), (s "/claim/cut.py" 319)] } ::
  (fo "__init__" "_NodeInfo.__init__" (mt 5 1) .none (s "cpy313.graphlib" 289) (.ref 52)) ::
  { cls := (.type "tuple"), data := .seq #[(s "node" 321), (s "npredecessors" 322), (s "successors" 323)] 0 } ::
  { cls := (.type "list"), data := .seq #[(s "node" 309), (s "npredecessors" 310), (s "successors" 311)] 1 } ::
  { cls := (.type "dict"), data := .dict #[(e P "__module__" 304 (s "cpy313.graphlib" 289)), (e P "__firstlineno__" 308 (.int (8) 307)), (e P "__slots__" 312 (.ref 46)), (e P "__init__" 320 (.ref 53)), (e P "__static_attributes__" 324 (.ref 54)), (e P "node" 326 (.ref 58)), (e P "npredecessors" 328 (.ref 59)), (e P "successors" 330 (.ref 60)), (e P "__doc__" 331 .none)] 5 } ::
  { cls := (.type "type"), data := .cls { name := (Str.ofString "_NodeInfo"), bases := [(.type "object")], mro := [(.ref 57), (.type "object")], ns := 56, qualname := (Str.ofString "_NodeInfo"), hasDict := false, slotNames := [(Str.ofString "node"), (Str.ofString "npredecessors"), (Str.ofString "successors")], subclasses := [], abstract := false, hasDel := false }, slots := #[none, none, some (s "_NodeInfo" 297), some (s "_NodeInfo" 305), some (.builtin "object.__new__"), some (.bool false)] } ::
  { cls := (.type "member_descriptor"), data := .fields #[(s "node" 325), (.ref 57), (.builtin "proto.slot"), (.builtin "proto.slot#set"), (.int (2) 0)] } ::
  { cls := (.type "member_descriptor"), data := .fields #[(s "npredecessors" 327), (.ref 57), (.builtin "proto.slot"), (.builtin "proto.slot#set"), (.int (1) 0)] } ::
  { cls := (.type "member_descriptor"), data := .fields #[(s "successors" 329), (.ref 57), (.builtin "proto.slot"), (.builtin "proto.slot#set"), (.int (0) 0)] } ::
  { cls := (.type "super"), data := .fields #[(.ref 57), (.ref 57), (.ref 57)] } ::
  { cls := (.type "builtin_function_or_method"), data := .fields #[(.builtin "object.__init_subclass__"), (.ref 57)] } ::
  { cls := (.type "tuple"), data := .seq #[(.type "ValueError")] 0 } ::
  { cls := (.type "builtin_function_or_method"), data := .fields #[(.builtin "type.__prepare__"), (.type "type")] } ::
  { cls := (.type "dict"), data := .dict #[(e P "__module__" 341 (s "cpy313.graphlib" 289)), (e P "__qualname__" 343 (s "CycleError" 342)), (e P "__firstlineno__" 345 (.int (15) 344)), (e P "__static_attributes__" 346 (.ref 70))] 4 } ::
  { cls := (.type "tuple"), data := .seq #[] 0 } ::
  { cls := .none, data := .fields #[] } ::
  { cls := (.type "code"), data := .fields #[(s "CycleError" 336), (s "CycleError" 337), (s "/claim/cut.py" 338), (.int (15) 0), (.int (0) 0), (.int (0) 0), (.int (0) 0), (.int (0) 0), (.ref 66), (.bool false), (.int (276) 0), (.ref 67), .none, .none, .none, .none, (.int (339) 0), (.int (15) 0), (s "/claim/cut.py" 340)] } ::
  { cls := (.type "frame"), data := .plain, slots := #[some (.ref 68), some (.ref 3), some (.ref 65), none, some (s "cpy313.graphlib" 289), none, some (.ref 0)] } ::
  { cls := (.type "tuple"), data := .seq #[] 0 } ::
  { cls := (.type "dict"), data := .dict #[(e P "__module__" 341 (s "cpy313.graphlib" 289)), (e P "__firstlineno__" 345 (.int (15) 344)), (e P "__static_attributes__" 346 (.ref 70)), (e P "__weakref__" 348 (.ref 73)), (e P "__doc__" 349 .none)] 3 } ::
  { cls := (.type "type"), data := .cls { name := (Str.ofString "CycleError"), bases := [(.type "ValueError")], mro := [(.ref 72), (.type "ValueError"), (.type "Exception"), (.type "BaseException"), (.type "object")], ns := 71, qualname := (Str.ofString "CycleError"), hasDict := true, slotNames := [], subclasses := [], abstract := false, hasDel := false }, slots := #[some (.ref 63), none, some (s "CycleError" 334), some (s "CycleError" 342), some (.builtin "ValueError.__new__"), some (.bool true)] } ::
  { cls := (.type "getset_descriptor"), data := .fields #[(s "__weakref__" 347), (.ref 72), (.builtin "ExceptionGroup.__weakref__"), .none] } ::
  { cls := (.type "super"), data := .fields #[(.ref 72), (.ref 72), (.ref 72)] } ::
  { cls := (.type "builtin_function_or_method"), data := .fields #[(.builtin "object.__init_subclass__"), (.ref 72)] } ::
  { cls := (.type "tuple"), data := .seq #[] 0 } ::
  { cls := (.type "builtin_function_or_method"), data := .fields #[(.builtin "type.__prepare__"), (.type "type")] } ::
  { cls := (.type "dict"), data := .dict #[(e P "__module__" 359 (s "cpy313.graphlib" 289)), (e P "__qualname__" 361 (s "TopologicalSorter" 360)), (e P "__firstlineno__" 363 (.int (17) 362)), (e P "__init__" 373 (.ref 90)), (e P "_get_nodeinfo" 382 (.ref 97)), (e P "add" 394 (.ref 104)), (e P "prepare" 400 (.ref 109)), (e P "get_ready" 410 (.ref 116)), (e P "is_active" 417 (.ref 123)), (e P "__bool__" 424 (.ref 130)), (e P "done" 438 (.ref 137)), (e P "_find_cycle" 451 (.ref 144)), (e P "static_order" 458 (.ref 151)), (e P "__static_attributes__" 463 (.ref 152))] 14 } ::
  { cls := (.type "tuple"), data := .seq #[] 0 } ::
  { cls := .none, data := .fields #[(.int (19) 0), (.int (4) 0), (.ref 89), (.int (28) 0), (.int (4) 0), (.ref 96), (.int (33) 0), (.int (4) 0), (.ref 103), (.int (42) 0), (.int (4) 0), (.ref 108), (.int (50) 0), (.int (4) 0), (.ref 115), (.int (61) 0), (.int (4) 0), (.ref 122), (.int (66) 0), (.int (4) 0), (.ref 129), (.int (69) 0), (.int (4) 0), (.ref 136), (.int (92) 0), (.int (4) 0), (.ref 143), (.int (121) 0), (.int (4) 0), (.ref 150)] } ::
  { cls := (.type "code"), data := .fields #[(s "TopologicalSorter" 354), (s "TopologicalSorter" 355), (s "/claim/cut.py" 356), (.int (17) 0), (.int (0) 0), (.int (0) 0), (.int (0) 0), (.int (0) 0), (.ref 79), (.bool false), (.int (276) 0), (.ref 80), .none, .none, .none, .none, (.int (357) 0), (.int (17) 0), (s "/claim/cut.py" 358)] } ::
  { cls := (.type "frame"), data := .plain, slots := #[some (.ref 81), some (.ref 3), some (.ref 78), none, some (s "cpy313.graphlib" 289), none, some (.ref 0)] } ::
  { cls := (.type "tuple"), data := .seq #[.none] 0 } ::
  { cls := (.type "tuple"), data := .seq #[] 0 } ::
  { cls := .none, data := .fields #[] } ::
  { cls := (.type "tuple"), data := .seq #[(s "self" 367), (s "graph" 368), (s "node" 369), (s "predecessors" 370)] 0 } ::
  { cls := (.type "tuple"), data := .seq #[] 0 } ::
  (fo0 "__init__" "TopologicalSorter.__init__" (mt 7 0)) ::
  { cls := (.type "code"), data := .fields #[(s "__init__" 364), (s "TopologicalSorter.__init__" 365), (s "/claim/cut.py" 366), (.int (19) 0), (.int (2) 0), (.int (0) 0), (.int (0) 0), (.int (3) 0), (.ref 84), (.bool true), (.int (276) 0), (.ref 85), .none, (.ref 86), (.ref 87), (.ref 88), (.int (371) 0), (.int (19) 0), (s "/claim/cut.py" 372)] } ::
  (fo "__init__" "TopologicalSorter.__init__" (mt 7 0) (.ref 83) (s "cpy313.graphlib" 289) (.ref 89)) ::
  { cls := (.type "tuple"), data := .seq #[] 0 } ::
  { cls := .none, data := .fields #[] } ::
  { cls := (.type "tuple"), data := .seq #[(s "self" 377), (s "node" 378), (s "result" 379)] 0 } ::
  { cls := (.type "tuple"), data := .seq #[] 0 } ::
  (fo0 "_get_nodeinfo" "TopologicalSorter._get_nodeinfo" (mt 7 1)) ::
  { cls := (.type "code"), data := .fields #[(s "_get_nodeinfo" 374), (s "TopologicalSorter._get_nodeinfo" 375), (s "/claim/cut.py" 376), (.int (28) 0), (.int (2) 0), (.int (0) 0), (.int (0) 0), (.int (3) 0), (.ref 91), (.bool true), (.int (276) 0), (.ref 92), .none, (.ref 93), (.ref 94), (.ref 95), (.int (380) 0), (.int (28) 0), (s "/claim/cut.py" 381)] } ::
  (fo "_get_nodeinfo" "TopologicalSorter._get_nodeinfo" (mt 7 1) .none (s "cpy313.graphlib" 289) (.ref 96)) ::
  { cls := (.type "tuple"), data := .seq #[] 0 } ::
  { cls := .none, data := .fields #[] } ::
  { cls := (.type "tuple"), data := .seq #[(s "self" 386), (s "node" 387), (s "predecessors" 388), (s "nodeinfo" 389), (s "pred" 390), (s "pred_info" 391)] 0 } ::
  { cls := (.type "tuple"), data := .seq #[] 0 } ::
  (fo0 "add" "TopologicalSorter.add" (mt 7 2)) ::
  { cls := (.type "code"), data := .fields #[(s "add" 383), (s "TopologicalSorter.add" 384), (s "/claim/cut.py" 385), (.int (33) 0), (.int (2) 0), (.int (0) 0), (.int (0) 0), (.int (7) 0), (.ref 98), (.bool true), (.int (276) 0), (.ref 99), .none, (.ref 100), (.ref 101), (.ref 102), (.int (392) 0), (.int (33) 0), (s "/claim/cut.py" 393)] } ::
  (fo "add" "TopologicalSorter.add" (mt 7 2) .none (s "cpy313.graphlib" 289) (.ref 103)) ::
  { cls := (.type "tuple"), data := .seq #[] 0 } ::
  { cls := .none, data := .fields #[] } ::
  (fo0 "prepare" "TopologicalSorter.prepare" (mt 7 3)) ::
  { cls := (.type "code"), data := .fields #[(s "prepare" 395), (s "TopologicalSorter.prepare" 396), (s "/claim/cut.py" 397), (.int (42) 0), (.int (1) 0), (.int (0) 0), (.int (0) 0), (.int (3) 0), (.ref 105), (.bool true), (.int (276) 0), (.ref 106), .none, .none, .none, (.ref 107), (.int (398) 0), (.int (42) 0), (s "/claim/cut.py" 399)] } ::
  (fo "prepare" "TopologicalSorter.prepare" (mt 7 3) .none (s "cpy313.graphlib" 289) (.ref 108)) ::
  { cls := (.type "tuple"), data := .seq #[] 0 } ::
  { cls := .none, data := .fields #[] } ::
  { cls := (.type "tuple"), data := .seq #[(s "self" 404), (s "result" 405), (s "n2i" 406), (s "node" 407)] 0 } ::
  { cls := (.type "tuple"), data := .seq #[] 0 } ::
  (fo0 "get_ready" "TopologicalSorter.get_ready" (mt 7 4)) ::
  { cls := (.type "code"), data := .fields #[(s "get_ready" 401), (s "TopologicalSorter.get_ready" 402), (s "/claim/cut.py" 403), (.int (50) 0), (.int (1) 0), (.int (0) 0), (.int (0) 0), (.int (3) 0), (.ref 110), (.bool true), (.int (276) 0), (.ref 111), .none, (.ref 112), (.ref 113), (.ref 114), (.int (408) 0), (.int (50) 0), (s "/claim/cut.py" 409)] } ::
  (fo "get_ready" "TopologicalSorter.get_ready" (mt 7 4) .none (s "cpy313.graphlib" 289) (.ref 115)) ::
  { cls := (.type "tuple"), data := .seq #[] 0 } ::
  { cls := .none, data := .fields #[] } ::
  { cls := (.type "tuple"), data := .seq #[(s "self" 414)] 0 } ::
  { cls := (.type "tuple"), data := .seq #[] 0 } ::
  (fo0 "is_active" "TopologicalSorter.is_active" (mt 7 5)) ::
  { cls := (.type "code"), data := .fields #[(s "is_active" 411), (s "TopologicalSorter.is_active" 412), (s "/claim/cut.py" 413), (.int (61) 0), (.int (1) 0), (.int (0) 0), (.int (0) 0), (.int (3) 0), (.ref 117), (.bool true), (.int (276) 0), (.ref 118), .none, (.ref 119), (.ref 120), (.ref 121), (.int (415) 0), (.int (61) 0), (s "/claim/cut.py" 416)] } ::
  (fo "is_active" "TopologicalSorter.is_active" (mt 7 5) .none (s "cpy313.graphlib" 289) (.ref 122)) ::
  { cls := (.type "tuple"), data := .seq #[] 0 } ::
  { cls := .none, data := .fields #[] } ::
  { cls := (.type "tuple"), data := .seq #[(s "self" 421)] 0 } ::
  { cls := (.type "tuple"), data := .seq #[] 0 } ::
  (fo0 "__bool__" "TopologicalSorter.__bool__" (mt 7 6)) ::
  { cls := (.type "code"), data := .fields #[(s "__bool__" 418), (s "TopologicalSorter.__bool__" 419), (s "/claim/cut.py" 420), (.int (66) 0), (.int (1) 0), (.int (0) 0), (.int (0) 0), (.int (3) 0), (.ref 124), (.bool true), (.int (276) 0), (.ref 125), .none, (.ref 126), (.ref 127), (.ref 128), (.int (422) 0), (.int (66) 0), (s "/claim/cut.py" 423)] } ::
  (fo "__bool__" "TopologicalSorter.__bool__" (mt 7 6) .none (s "cpy313.graphlib" 289) (.ref 129)) ::
  { cls := (.type "tuple"), data := .seq #[] 0 } ::
  { cls := .none, data := .fields #[] } ::
  { cls := (.type "tuple"), data := .seq #[(s "self" 428), (s "nodes" 429), (s "n2i" 430), (s "node" 431), (s "nodeinfo" 432), (s "stat" 433), (s "successor" 434), (s "successor_info" 435)] 0 } ::
  { cls := (.type "tuple"), data := .seq #[] 0 } ::
  (fo0 "done" "TopologicalSorter.done" (mt 7 7)) ::
  { cls := (.type "code"), data := .fields #[(s "done" 425), (s "TopologicalSorter.done" 426), (s "/claim/cut.py" 427), (.int (69) 0), (.int (1) 0), (.int (0) 0), (.int (0) 0), (.int (7) 0), (.ref 131), (.bool true), (.int (276) 0), (.ref 132), .none, (.ref 133), (.ref 134), (.ref 135), (.int (436) 0), (.int (69) 0), (s "/claim/cut.py" 437)] } ::
  (fo "done" "TopologicalSorter.done" (mt 7 7) .none (s "cpy313.graphlib" 289) (.ref 136)) ::
  { cls := (.type "tuple"), data := .seq #[] 0 } ::
  { cls := .none, data := .fields #[] } ::
  { cls := (.type "tuple"), data := .seq #[(s "self" 442), (s "n2i" 443), (s "stack" 444), (s "itstack" 445), (s "seen" 446), (s "node2stacki" 447), (s "node" 448)] 0 } ::
  { cls := (.type "tuple"), data := .seq #[] 0 } ::
  (fo0 "_find_cycle" "TopologicalSorter._find_cycle" (mt 7 8)) ::
  { cls := (.type "code"), data := .fields #[(s "_find_cycle" 439), (s "TopologicalSorter._find_cycle" 440), (s "/claim/cut.py" 441), (.int (92) 0), (.int (1) 0), (.int (0) 0), (.int (0) 0), (.int (3) 0), (.ref 138), (.bool true), (.int (276) 0), (.ref 139), .none, (.ref 140), (.ref 141), (.ref 142), (.int (449) 0), (.int (92) 0), (s "/claim/cut.py" 450)] } ::
  (fo "_find_cycle" "TopologicalSorter._find_cycle" (mt 7 8) .none (s "cpy313.graphlib" 289) (.ref 143)) ::
  { cls := (.type "tuple"), data := .seq #[] 0 } ::
  { cls := .none, data := .fields #[] } ::
  { cls := (.type "tuple"), data := .seq #[(s "self" 455)] 0 } ::
  { cls := (.type "tuple"), data := .seq #[] 0 } ::
  (fo0 "static_order" "TopologicalSorter.static_order" (mt 7 9)) ::
  { cls := (.type "code"), data := .fields #[(s "static_order" 452), (s "TopologicalSorter.static_order" 453), (s "/claim/cut.py" 454), (.int (121) 0), (.int (1) 0), (.int (0) 0), (.int (0) 0), (.int (3) 0), (.ref 145), (.bool true), (.int (276) 0), (.ref 146), .none, (.ref 147), (.ref 148), (.ref 149), (.int (456) 0), (.int (121) 0), (s "/claim/cut.py" 457)] } ::
  (fo "static_order" "TopologicalSorter.static_order" (mt 7 9) .none (s "cpy313.graphlib" 289) (.ref 150)) ::
  { cls := (.type "tuple"), data := .seq #[(s "_nfinished" 459), (s "_node2info" 460), (s "_npassedout" 461), (s "_ready_nodes" 462)] 0 } ::
  { cls := (.type "dict"), data := .dict #[(e P "__module__" 359 (s "cpy313.graphlib" 289)), (e P "__firstlineno__" 363 (.int (17) 362)), (e P "__init__" 373 (.ref 90)), (e P "_get_nodeinfo" 382 (.ref 97)), (e P "add" 394 (.ref 104)), (e P "prepare" 400 (.ref 109)), (e P "get_ready" 410 (.ref 116)), (e P "is_active" 417 (.ref 123)), (e P "__bool__" 424 (.ref 130)), (e P "done" 438 (.ref 137)), (e P "_find_cycle" 451 (.ref 144)), (e P "static_order" 458 (.ref 151)), (e P "__static_attributes__" 463 (.ref 152)), (e P "__dict__" 465 (.ref 155)), (e P "__weakref__" 467 (.ref 156)), (e P "__doc__" 468 .none)] 4 } ::
  { cls := (.type "type"), data := .cls { name := (Str.ofString "TopologicalSorter"), bases := [(.type "object")], mro := [(.ref 154), (.type "object")], ns := 153, qualname := (Str.ofString "TopologicalSorter"), hasDict := true, slotNames := [], subclasses := [], abstract := false, hasDel := false }, slots := #[none, none, some (s "TopologicalSorter" 352), some (s "TopologicalSorter" 360), some (.builtin "object.__new__"), some (.bool true)] } ::
  { cls := (.type "getset_descriptor"), data := .fields #[(s "__dict__" 464), (.ref 154), (.builtin "function.__dict__"), (.builtin "function.__dict__#set")] } ::
  { cls := (.type "getset_descriptor"), data := .fields #[(s "__weakref__" 466), (.ref 154), (.builtin "ExceptionGroup.__weakref__"), .none] } ::
  { cls := (.type "super"), data := .fields #[(.ref 154), (.ref 154), (.ref 154)] } ::
  { cls := (.type "builtin_function_or_method"), data := .fields #[(.builtin "object.__init_subclass__"), (.ref 154)] } ::
  { cls := (.type "list"), data := .seq #[(.int (14) 474), (.int (14) 475), (.int (4) 476), (.int (1) 477), (.int (1) 478), (.int (9) 479), (.int (0) 480), (.int (64) 481), (.int (0) 482), (.int (1342177280) 483), (.int (0) 484), (.int (0) 485), (.int (0) 486), (.int (0) 487), (.int (0) 488), (.int (17) 489), (.int (0) 490), (.int (13) 491), (.int (11) 492), (.int (9) 493), (.int (0) 494), (.int (64) 495), (.int (0) 496), (.int (1342177280) 497), (.int (0) 498), (.int (0) 499), (.int (0) 500), (.int (0) 501), (.int (0) 502), (.int (17) 503), (.int (1) 504), (.int (1) 505)] 0 } ::
  { cls := (.type "dict"), data := .dict #[] 0 } ::
  { cls := (.type "tuple"), data := .seq #[.none, .none] 0 } ::
  { cls := (.type "tuple"), data := .seq #[(.int (14) 0), (.int (14) 0), (.int (4) 0), (.int (1) 0), (.int (1) 0), (.int (9) 0), (.int (0) 0), (.int (64) 0), (.int (0) 0), (.int (1342177280) 0), (.int (0) 0), (.int (0) 0), (.int (0) 0), (.int (0) 0), (.int (0) 0), (.int (17) 0), (.int (0) 0), (.int (13) 0), (.int (11) 0), (.int (9) 0), (.int (0) 0), (.int (64) 0), (.int (0) 0), (.int (1342177280) 0), (.int (0) 0), (.int (0) 0), (.int (0) 0), (.int (0) 0), (.int (0) 0), (.int (17) 0), (.int (1) 0), (.int (1) 0)] 0 } ::
  { cls := (.type "re.Pattern"), data := .fields #[(s "([&~|])" 472), (.int (32) 507), (.int (1) 0), .none, .none, (.ref 162), (.int (0) 0)] } :: []⟩ } : Heap)) w.params
noncomputable def h9 (w : World) : Heap := (fun P : Params => ({ objs := ⟨
  { cls := (.type "dict"), data := .dict #[(e P "__name__" 1 (s "builtins" 160)), (e P "__doc__" 2 (.builtin "builtins.__doc__:str#opaque")), (e P "__package__" 3 (.builtin "builtins.__package__:str#opaque")), (e P "__loader__" 4 (.builtin "builtins.__loader__:shared#opaque")), (e P "__spec__" 5 (.builtin "builtins.__spec__#opaque")), (e P "__build_class__" 6 (.builtin "__build_class__")), (e P "__import__" 7 (.builtin "__import__")), (e P "abs" 8 (.builtin "abs")), (e P "all" 9 (.builtin "all")), (e P "any" 10 (.builtin "any")), (e P "ascii" 11 (.builtin "ascii")), (e P "bin" 12 (.builtin "bin")), (e P "breakpoint" 13 (.builtin "breakpoint")), (e P "callable" 14 (.builtin "callable")), (e P "chr" 15 (.builtin "chr")), (e P "compile" 16 (.builtin "compile")), (e P "delattr" 17 (.builtin "delattr")), (e P "dir" 18 (.builtin "dir")), (e P "divmod" 19 (.builtin "divmod")), (e P "eval" 20 (.builtin "eval")), (e P "exec" 21 (.builtin "exec")), (e P "format" 22 (.builtin "format")), (e P "getattr" 23 (.builtin "getattr")), (e P "globals" 24 (.builtin "globals")), (e P "hasattr" 25 (.builtin "hasattr")), (e P "hash" 26 (.builtin "hash")), (e P "hex" 27 (.builtin "hex")), (e P "id" 28 (.builtin "id")), (e P "input" 29 (.builtin "input")), (e P "isinstance" 30 (.builtin "isinstance")), (e P "issubclass" 31 (.builtin "issubclass")), (e P "iter" 32 (.builtin "iter")), (e P "aiter" 33 (.builtin "aiter")), (e P "len" 34 (.builtin "len")), (e P "locals" 35 (.builtin "locals")), (e P "max" 36 (.builtin "max")), (e P "min" 37 (.builtin "min")), (e P "next" 38 (.builtin "next")), (e P "anext" 39 (.builtin "anext")), (e P "oct" 40 (.builtin "oct")), (e P "ord" 41 (.builtin "ord")), (e P "pow" 42 (.builtin "pow")), (e P "print" 43 (.builtin "print")), (e P "repr" 44 (.builtin "repr")), (e P "round" 45 (.builtin "round")), (e P "setattr" 46 (.builtin "setattr")), (e P "sorted" 47 (.builtin "sorted")), (e P "sum" 48 (.builtin "sum")), (e P "vars" 49 (.builtin "vars")), (e P "None" 50 .none), (e P "Ellipsis" 51 .ellipsis), (e P "NotImplemented" 52 .notImplemented), (e P "False" 53 (.bool false)), (e P "True" 54 (.bool true)), (e P "bool" 55 (.type "bool")), (e P "memoryview" 56 (.type "memoryview")), (e P "bytearray" 57 (.type "bytearray")), (e P "bytes" 58 (.type "bytes")), (e P "classmethod" 59 (.type "classmethod")), (e P "complex" 60 (.type "complex")), (e P "dict" 61 (.type "dict")), (e P "enumerate" 62 (.type "enumerate")), (e P "filter" 63 (.type "filter")), (e P "float" 64 (.type "float")), (e P "frozenset" 65 (.type "frozenset")), (e P "property" 66 (.type "property")), (e P "int" 67 (.type "int")), (e P "list" 68 (.type "list")), (e P "map" 69 (.type "map")), (e P "object" 70 (.type "object")), (e P "range" 71 (.type "range")), (e P "reversed" 72 (.type "reversed")), (e P "set" 73 (.type "set")), (e P "slice" 74 (.type "slice")), (e P "staticmethod" 75 (.type "staticmethod")), (e P "str" 76 (.type "str")), (e P "super" 77 (.type "super")), (e P "tuple" 78 (.type "tuple")), (e P "type" 79 (.type "type")), (e P "zip" 80 (.type "zip")), (e P "__debug__" 81 (.bool true)), (e P "BaseException" 82 (.type "BaseException")), (e P "BaseExceptionGroup" 83 (.type "BaseExceptionGroup")), (e P "Exception" 84 (.type "Exception")), (e P "GeneratorExit" 85 (.type "GeneratorExit")), (e P "KeyboardInterrupt" 86 (.type "KeyboardInterrupt")), (e P "SystemExit" 87 (.type "SystemExit")), (e P "ArithmeticError" 88 (.type "ArithmeticError")), (e P "AssertionError" 89 (.type "AssertionError")), (e P "AttributeError" 90 (.type "AttributeError")), (e P "BufferError" 91 (.type "BufferError")), (e P "EOFError" 92 (.type "EOFError")), (e P "ImportError" 93 (.type "ImportError")), (e P "LookupError" 94 (.type "LookupError")), (e P "MemoryError" 95 (.type "MemoryError")), (e P "NameError" 96 (.type "NameError")), (e P "OSError" 97 (.type "OSError")), (e P "ReferenceError" 98 (.type "ReferenceError")), (e P "RuntimeError" 99 (.type "RuntimeError")), (e P "StopAsyncIteration" 100 (.type "StopAsyncIteration")), (e P "StopIteration" 101 (.type "StopIteration")), (e P "SyntaxError" 102 (.type "SyntaxError")), (e P "SystemError" 103 (.type "SystemError")), (e P "TypeError" 104 (.type "TypeError")), (e P "ValueError" 105 (.type "ValueError")), (e P "Warning" 106 (.type "Warning")), (e P "FloatingPointError" 107 (.type "FloatingPointError")), (e P "OverflowError" 108 (.type "OverflowError")), (e P "ZeroDivisionError" 109 (.type "ZeroDivisionError")), (e P "BytesWarning" 110 (.type "BytesWarning")), (e P "DeprecationWarning" 111 (.type "DeprecationWarning")), (e P "EncodingWarning" 112 (.type "EncodingWarning")), (e P "FutureWarning" 113 (.type "FutureWarning")), (e P "ImportWarning" 114 (.type "ImportWarning")), (e P "PendingDeprecationWarning" 115 (.type "PendingDeprecationWarning")), (e P "ResourceWarning" 116 (.type "ResourceWarning")), (e P "RuntimeWarning" 117 (.type "RuntimeWarning")), (e P "SyntaxWarning" 118 (.type "SyntaxWarning")), (e P "UnicodeWarning" 119 (.type "UnicodeWarning")), (e P "UserWarning" 120 (.type "UserWarning")), (e P "BlockingIOError" 121 (.type "BlockingIOError")), (e P "ChildProcessError" 122 (.type "ChildProcessError")), (e P "ConnectionError" 123 (.type "ConnectionError")), (e P "FileExistsError" 124 (.type "FileExistsError")), (e P "FileNotFoundError" 125 (.type "FileNotFoundError")), (e P "InterruptedError" 126 (.type "InterruptedError")), (e P "IsADirectoryError" 127 (.type "IsADirectoryError")), (e P "NotADirectoryError" 128 (.type "NotADirectoryError")), (e P "PermissionError" 129 (.type "PermissionError")), (e P "ProcessLookupError" 130 (.type "ProcessLookupError")), (e P "TimeoutError" 131 (.type "TimeoutError")), (e P "IndentationError" 132 (.type "IndentationError")), (e P "_IncompleteInputError" 133 (.type "_IncompleteInputError")), (e P "IndexError" 134 (.type "IndexError")), (e P "KeyError" 135 (.type "KeyError")), (e P "ModuleNotFoundError" 136 (.type "ModuleNotFoundError")), (e P "NotImplementedError" 137 (.type "NotImplementedError")), (e P "PythonFinalizationError" 138 (.type "PythonFinalizationError")), (e P "RecursionError" 139 (.type "RecursionError")), (e P "UnboundLocalError" 140 (.type "UnboundLocalError")), (e P "UnicodeError" 141 (.type "UnicodeError")), (e P "BrokenPipeError" 142 (.type "BrokenPipeError")), (e P "ConnectionAbortedError" 143 (.type "ConnectionAbortedError")), (e P "ConnectionRefusedError" 144 (.type "ConnectionRefusedError")), (e P "ConnectionResetError" 145 (.type "ConnectionResetError")), (e P "TabError" 146 (.type "TabError")), (e P "UnicodeDecodeError" 147 (.type "UnicodeDecodeError")), (e P "UnicodeEncodeError" 148 (.type "UnicodeEncodeError")), (e P "UnicodeTranslateError" 149 (.type "UnicodeTranslateError")), (e P "ExceptionGroup" 150 (.type "ExceptionGroup")), (e P "EnvironmentError" 151 (.type "OSError")), (e P "IOError" 152 (.type "OSError")), (e P "open" 153 (.builtin "open")), (e P "quit" 154 (.builtin "builtins.quit#opaque")), (e P "exit" 155 (.builtin "builtins.exit#opaque")), (e P "copyright" 156 (.builtin "builtins.copyright#opaque")), (e P "credits" 157 (.builtin "builtins.credits#opaque")), (e P "license" 158 (.builtin "builtins.license#opaque")), (e P "help" 159 (.builtin "builtins.help#opaque"))] 159 } ::
  { cls := (.type "dict"), data := .dict #[(e P "builtins" 162 (.ref 4)), (e P "__main__" 163 (.ref 5)), (e P "_sre" 244 (.ref 12))] 3 } ::
  { cls := .none, data := .dict #[(e P "\x69mport.loaded._sre" 183 (.bool true)), (e P "class._frozen_importlib.BuiltinImporter" 185 (.ref 14)), (e P "watched.\x69mport" 206 (.ref 18)), (e P "class._frozen_importlib.ModuleSpec" 216 (.ref 22)), (e P "sys.modules.booked-epoch" 245 (.int (3) 0)), (e P "\x69mport.later-laid._sre" 270 (.bool true)), (e P "watched.library" 272 (.ref 27)), (e P "watched.library-objects" 0 (s "\x0c" 0)), (e P "watched.library-deep._sre" 273 (s "\x04\x00\x00\x0b\x04\x00\x00\x0b\x04\x00\x00\x03\x04\x00\x00\x0b\x08\x04dict\x02" 0))] 9 } ::
  { cls := (.type "dict"), data := .dict #[(e P "__name__" 165 (s "re" 509)), (e P "__doc__" 166 .none), (e P "__package__" 167 .none), (e P "__loader__" 168 (.builtin "__main__.__loader__#opaque")), (e P "__spec__" 169 .none), (e P "__annotations__" 170 (.ref 6)), (e P "__builtins__" 171 (.ref 4)), (e P "__file__" 173 (s "/claim/cut.py" 172)), (e P "__cached__" 174 .none), (e P "_sre" 275 (.ref 12)), (e P "_wall" 288 (.ref 38)), (e P "_NODE_OUT" 293 (.int (-1) 292)), (e P "_NODE_DONE" 296 (.int (-2) 295)), (e P "_NodeInfo" 333 (.ref 57)), (e P "CycleError" 351 (.ref 72)), (e P "TopologicalSorter" 470 (.ref 154)), (e P "_twin_re_1" 508 (.ref 163)), (e P "_special_chars_map" 656 (.ref 165))] 18 } ::
  { cls := (.type "module"), data := .plain, dict := some 0 } ::
  { cls := (.type "module"), data := .plain, dict := some 3 } ::
  { cls := (.type "dict"), data := .dict #[] 0 } ::
  { cls := (.type "tuple"), data := .seq #[] 0 } ::
  { cls := .none, data := .fields #[] } ::
  { cls := (.type "code"), data := .fields #[(s "<module>" 176), (s "<module>" 177), (s "/claim/cut.py" 178), (.int (1) 0), (.int (0) 0), (.int (0) 0), (.int (0) 0), (.int (0) 0), (.ref 7), (.bool false), (.int (175) 0), (.ref 8), .none, .none, .none, .none, (.int (179) 0), (.int (1) 0), (s "/claim/cut.py" 180)] } ::
  { cls := (.type "frame"), data := .plain, slots := #[some (.ref 9), some (.ref 3), some (.ref 3), none, some (s "__main__" 164), none, some (.ref 0)] } ::
  { cls := (.type "dict"), data := .dict #[(e P "__name__" 247 (s "_sre" 246)), (e P "__doc__" 248 .none), (e P "__package__" 250 (s "" 249)), (e P "__loader__" 251 (.builtin "off-the-table:_sre.__loader__:shared#opaque")), (e P "__spec__" 252 (.builtin "off-the-table:_sre.__spec__:shared#opaque")), (e P "compile" 253 (.builtin "_sre.compile")), (e P "template" 254 (.builtin "off-the-table:_sre.template:shared#opaque")), (e P "getcodesize" 255 (.builtin "off-the-table:_sre.getcodesize:shared#opaque")), (e P "ascii_iscased" 256 (.builtin "off-the-table:_sre.ascii_iscased:shared#opaque")), (e P "unicode_iscased" 257 (.builtin "off-the-table:_sre.unicode_iscased:shared#opaque")), (e P "ascii_tolower" 258 (.builtin "off-the-table:_sre.ascii_tolower:shared#opaque")), (e P "unicode_tolower" 259 (.builtin "off-the-table:_sre.unicode_tolower:shared#opaque")), (e P "MAGIC" 261 (.int (20230612) 260)), (e P "CODESIZE" 263 (.int (4) 262)), (e P "MAXREPEAT" 265 (.int (4294967295) 264)), (e P "MAXGROUPS" 267 (.int (1073741823) 266)), (e P "copyright" 269 (s " SRE 2.2.2 Copyright (c) 1997-2002 by Secret Labs AB " 268))] 17 } ::
  { cls := (.type "module"), data := .plain, dict := some 11 } ::
  { cls := (.type "dict"), data := .dict #[(e P "__module__" 189 (s "_frozen_importlib" 186)), (e P "__firstlineno__" 190 (.int (971) 187)), (e P "__doc__" 191 (.builtin "_frozen_importlib.BuiltinImporter.__doc__:str#opaque")), (e P "_ORIGIN" 192 (s "built-in" 188)), (e P "find_spec" 193 (.builtin "_frozen_importlib.BuiltinImporter.find_spec#opaque")), (e P "create_module" 194 (.builtin "_frozen_importlib.BuiltinImporter.create_module#opaque")), (e P "exec_module" 195 (.builtin "_frozen_importlib.BuiltinImporter.exec_module#opaque")), (e P "get_code" 196 (.builtin "_frozen_importlib.BuiltinImporter.get_code#opaque")), (e P "get_source" 197 (.builtin "_frozen_importlib.BuiltinImporter.get_source#opaque")), (e P "is_package" 198 (.builtin "_frozen_importlib.BuiltinImporter.is_package#opaque")), (e P "load_module" 199 (.builtin "_frozen_importlib.BuiltinImporter.load_module#opaque")), (e P "__static_attributes__" 200 (.ref 15)), (e P "__dict__" 202 (.ref 16)), (e P "__weakref__" 204 (.ref 17))] 14 } ::
  { cls := (.type "type"), data := .cls { name := (Str.ofString "BuiltinImporter"), bases := [(.type "object")], mro := [(.ref 14), (.type "object")], ns := 13, qualname := (Str.ofString "BuiltinImporter"), hasDict := true, slotNames := [], subclasses := [], abstract := false, hasDel := false } } ::
  { cls := (.type "tuple"), data := .seq #[] 0 } ::
  { cls := (.type "getset_descriptor"), data := .fields #[(s "__dict__" 201), (.ref 14), (.builtin "function.__dict__"), (.builtin "function.__dict__#set")] } ::
  { cls := (.type "getset_descriptor"), data := .fields #[(s "__weakref__" 203), (.ref 14), (.builtin "ExceptionGroup.__weakref__"), .none] } ::
  (ob w 18) ::
  { cls := (.type "list"), data := .seq #[] 0 } ::
  { cls := (.type "dict"), data := .dict #[(e P "name" 208 (s "_sre" 207)), (e P "loader" 209 (.ref 14)), (e P "origin" 210 (s "built-in" 184)), (e P "loader_state" 211 .none), (e P "submodule_search_locations" 212 .none), (e P "_uninitialized_submodules" 213 (.ref 19)), (e P "_set_fileattr" 214 (.bool false)), (e P "_cached" 215 .none), (e P "_initializing" 243 (.bool false))] 9 } ::
  { cls := (.type "dict"), data := .dict #[(e P "__module__" 227 (s "_frozen_importlib" 217)), (e P "__firstlineno__" 228 (.int (562) 218)), (e P "__doc__" 229 (.builtin "_frozen_importlib.ModuleSpec.__doc__:str#opaque")), (e P "__init__" 230 (.builtin "_frozen_importlib.ModuleSpec.__init__#opaque")), (e P "__repr__" 231 (.builtin "_frozen_importlib.ModuleSpec.__repr__#opaque")), (e P "__eq__" 232 (.builtin "_frozen_importlib.ModuleSpec.__eq__#opaque")), (e P "cached" 233 (.builtin "_frozen_importlib.ModuleSpec.cached#opaque")), (e P "parent" 234 (.builtin "_frozen_importlib.ModuleSpec.parent#opaque")), (e P "has_location" 235 (.builtin "_frozen_importlib.ModuleSpec.has_location#opaque")), (e P "__static_attributes__" 236 (.ref 23)), (e P "__dict__" 238 (.ref 24)), (e P "__weakref__" 240 (.ref 25)), (e P "__hash__" 241 .none)] 13 } ::
  { cls := (.type "type"), data := .cls { name := (Str.ofString "ModuleSpec"), bases := [(.type "object")], mro := [(.ref 22), (.type "object")], ns := 21, qualname := (Str.ofString "ModuleSpec"), hasDict := true, slotNames := [], subclasses := [], abstract := false, hasDel := false } } ::
  { cls := (.type "tuple"), data := .seq #[(s "_cached" 219), (s "_set_fileattr" 220), (s "_uninitialized_submodules" 221), (s "loader" 222), (s "loader_state" 223), (s "name" 224), (s "origin" 225), (s "submodule_search_locations" 226)] 0 } ::
  { cls := (.type "getset_descriptor"), data := .fields #[(s "__dict__" 237), (.ref 22), (.builtin "function.__dict__"), (.builtin "function.__dict__#set")] } ::
  { cls := (.type "getset_descriptor"), data := .fields #[(s "__weakref__" 239), (.ref 22), (.builtin "ExceptionGroup.__weakref__"), .none] } ::
  { cls := (.ref 22), data := .plain, dict := some 20 } ::
  (ob w 27) ::
  { cls := (.type "tuple"), data := .seq #[] 0 } ::
  { cls := .none, data := .fields #[(.int (2) 0), (.int (0) 0), (.ref 37), (.int (8) 0), (.int (0) 0), (.ref 44), (.int (15) 0), (.int (0) 0), (.ref 68), (.int (17) 0), (.int (0) 0), (.ref 81)] } ::
  { cls := (.type "code"), data := .fields #[(s "<module>" 277), (s "<module>" 278), (s "/claim/cut.py" 279), (.int (1) 0), (.int (0) 0), (.int (0) 0), (.int (0) 0), (.int (0) 0), (.ref 28), (.bool false), (.int (276) 0), (.ref 29), .none, .none, .none, .none, (.int (280) 0), (.int (1) 0), (s "/claim/cut.py" 281)] } ::
  { cls := (.type "frame"), data := .plain, slots := #[some (.ref 30), some (.ref 3), some (.ref 3), none, some (s "__main__" 164), none, some (.ref 0)] } ::
  { cls := (.type "tuple"), data := .seq #[] 0 } ::
  { cls := .none, data := .fields #[] } ::
  { cls := (.type "tuple"), data := .seq #[(s "k" 285)] 0 } ::
  { cls := (.type "tuple"), data := .seq #[] 0 } ::
  (fo0 "_wall" "_wall" (tp 1)) ::
  { cls := (.type "code"), data := .fields #[(s "_wall" 282), (s "_wall" 283), (s "/claim/cut.py" 284), (.int (2) 0), (.int (1) 0), (.int (0) 0), (.int (0) 0), (.int (3) 0), (.ref 32), (.bool true), (.int (276) 0), (.ref 33), .none, (.ref 34), (.ref 35), (.ref 36), (.int (286) 0), (.int (2) 0), (s "/claim/cut.py" 287)] } ::
  (fo "_wall" "_wall" (tp 1) .none (s "__main__" 164) (.ref 37)) ::
  { cls := (.type "tuple"), data := .seq #[] 0 } ::
  { cls := (.type "builtin_function_or_method"), data := .fields #[(.builtin "type.__prepare__"), (.type "type")] } ::
  { cls := (.type "dict"), data := .dict #[(e P "__module__" 304 (s "cpy313.graphlib" 289)), (e P "__qualname__" 306 (s "_NodeInfo" 305)), (e P "__firstlineno__" 308 (.int (8) 307)), (e P "__slots__" 312 (.ref 46)), (e P "__init__" 320 (.ref 53)), (e P "__static_attributes__" 324 (.ref 54))] 6 } ::
  { cls := (.type "tuple"), data := .seq #[] 0 } ::
  { cls := .none, data := .fields #[(.int (11) 0), (.int (4) 0), (.ref 52)] } ::
  { cls := (.type "code"), data := .fields #[(s "_NodeInfo" 299), (s "_NodeInfo" 300), (s "/claim/cut.py" 301), (.int (8) 0), (.int (0) 0), (.int (0) 0), (.int (0) 0), (.int (0) 0), (.ref 42), (.bool false), (.int (276) 0), (.ref 43), .none, .none, .none, .none, (.int (302) 0), (.int (8) 0), (s "/claim/cut.py" 303)] } ::
  { cls := (.type "frame"), data := .plain, slots := #[some (.ref 44), some (.ref 3), some (.ref 41), none, some (s "cpy313.graphlib" 289), none, some (.ref 0)] } ::
  { cls := (.type "tuple"), data := .seq #[(s "node" 309), (s "npredecessors" 310), (s "successors" 311)] 0 } ::
  { cls := (.type "tuple"), data := .seq #[] 0 } ::
  { cls := .none, data := .fields #[] } ::
  { cls := (.type "tuple"), data := .seq #[(s "self" 316), (s "node" 317)] 0 } ::
  { cls := (.type "tuple"), data := .seq #[] 0 } ::
  (fo0 "__init__" "_NodeInfo.__init__" (mt 5 1)) ::
  { cls := (.type "code"), data := .fields #[(s "__init__" 313), (s "_NodeInfo.__init__" 314), (s "/claim/cut.py" 315), (.int (11) 0), (.int (2) 0), (.int (0) 0), (.int (0) 0), (.int (3) 0), (.ref 47), (.bool true), (.int (276) 0), (.ref 48), .none, (.ref 49), (.ref 50), (.ref 51), (.int (318) 0), (.int (11) 0), (s "/claim/cut.py" 319)] } ::
  (fo "__init__" "_NodeInfo.__init__" (mt 5 1) .none (s "cpy313.graphlib" 289) (.ref 52)) ::
  { cls := (.type "tuple"), data := .seq #[(s "node" 321), (s "npredecessors" 322), (s "successors" 323)] 0 } ::
  { cls := (.type "list"), data := .seq #[(s "node" 309), (s "npredecessors" 310), (s "successors" 311)] 1 } ::
  { cls := (.type "dict"), data := .dict #[(e P "__module__" 304 (s "cpy313.graphlib" 289)), (e P "__firstlineno__" 308 (.int (8) 307)), (e P "__slots__" 312 (.ref 46)), (e P "__init__" 320 (.ref 53)), (e P "__static_attributes__" 324 (.ref 54)), (e P "node" 326 (.ref 58)), (e P "npredecessors" 328 (.ref 59)), (e P "successors" 330 (.ref 60)), (e P "__doc__" 331 .none)] 5 } ::
  { cls := (.type "type"), data := .cls { name := (Str.ofString "_NodeInfo"), bases := [(.type "object")], mro := [(.ref 57), (.type "object")], ns := 56, qualname := (Str.ofString "_NodeInfo"), hasDict := false, slotNames := [(Str.ofString "node"), (Str.ofString "npredecessors"), (Str.ofString "successors")], subclasses := [], abstract := false, hasDel := false }, slots := #[none, none, some (s "_NodeInfo" 297), some (s "_NodeInfo" 305), some (.builtin "object.__new__"), some (.bool false)] } ::
  { cls := (.type "member_descriptor"), data := .fields #[(s "node" 325), (.ref 57), (.builtin "proto.slot"), (.builtin "proto.slot#set"), (.int (2) 0)] } ::
  { cls := (.type "member_descriptor"), data := .fields #[(s "npredecessors" 327), (.ref 57), (.builtin "proto.slot"), (.builtin "proto.slot#set"), (.int (1) 0)] } ::
  { cls := (.type "member_descriptor"), data := .fields #[(s "successors" 329), (.ref 57), (.builtin "proto.slot"), (.builtin "proto.slot#set"), (.int (0) 0)] } ::
  { cls := (.type "super"), data := .fields #[(.ref 57), (.ref 57), (.ref 57)] } ::
  { cls := (.type "builtin_function_or_method"), data := .fields #[(.builtin "object.__init_subclass__"), (.ref 57)] } ::
  { cls := (.type "tuple"), data := .seq #[(.type "ValueError")] 0 } ::
  { cls := (.type "builtin_function_or_method"), data := .fields #[(.builtin "type.__prepare__"), (.type "type")] } ::
  { cls := (.type "dict"), data := .dict #[(e P "__module__" 341 (s "cpy313.graphlib" 289)), (e P "__qualname__" 343 (s "CycleError" 342)), (e P "__firstlineno__" 345 (.int (15) 344)), (e P "__static_attributes__" 346 (.ref 70))] 4 } ::
  { cls := (.type "tuple"), data := .seq #[] 0 } ::
  { cls := .none, data := .fields #[] } ::
  { cls := (.type "code"), data := .fields #[(s "CycleError" 336), (s "CycleError" 337), (s "/claim/cut.py" 338), (.int (15) 0), (.int (0) 0), (.int (0) 0), (.int (0) 0), (.int (0) 0), (.ref 66), (.bool false), (.int (276) 0), (.ref 67), .none, .none, .none, .none, (.int (339) 0), (.int (15) 0), (s "/claim/cut.py" 340)] } ::
  { cls := (.type "frame"), data := .plain, slots := #[some (.ref 68), some (.ref 3), some (.ref 65), none, some (s "cpy313.graphlib" 289), none, some (.ref 0)] } ::
  { cls := (.type "tuple"), data := .seq #[] 0 } ::
  { cls := (.type "dict"), data := .dict #[(e P "__module__" 341 (s "cpy313.graphlib" 289)), (e P "__firstlineno__" 345 (.int (15) 344)), (e P "__static_attributes__" 346 (.ref 70)), (e P "__weakref__" 348 (.ref 73)), (e P "__doc__" 349 .none)] 3 } ::
  { cls := (.type "type"), data := .cls { name := (Str.ofString "CycleError"), bases := [(.type "ValueError")], mro := [(.ref 72), (.type "ValueError"), (.type "Exception"), (.type "BaseException"), (.type "object")], ns := 71, qualname := (Str.ofString "CycleError"), hasDict := true, slotNames := [], subclasses := [], abstract := false, hasDel := false }, slots := #[some (.ref 63), none, some (s "CycleError" 334), some (s "CycleError" 342), some (.builtin "ValueError.__new__"), some (.bool true)] } ::
  { cls := (.type "getset_descriptor"), data := .fields #[(s "__weakref__" 347), (.ref 72), (.builtin "ExceptionGroup.__weakref__"), .none] } ::
  { cls := (.type "super"), data := .fields #[(.ref 72), (.ref 72), (.ref 72)] } ::
  { cls := (.type "builtin_function_or_method"), data := .fields #[(.builtin "object.__init_subclass__"), (.ref 72)] } ::
  { cls := (.type "tuple"), data := .seq #[] 0 } ::
  { cls := (.type "builtin_function_or_method"), data := .fields #[(.builtin "type.__prepare__"), (.type "type")] } ::
  { cls := (.type "dict"), data := .dict #[(e P "__module__" 359 (s "cpy313.graphlib" 289)), (e P "__qualname__" 361 (s "TopologicalSorter" 360)), (e P "__firstlineno__" 363 (.int (17) 362)), (e P "__init__" 373 (.ref 90)), (e P "_get_nodeinfo" 382 (.ref 97)), (e P "add" 394 (.ref 104)), (e P "prepare" 400 (.ref 109)), (e P "get_ready" 410 (.ref 116)), (e P "is_active" 417 (.ref 123)), (e P "__bool__" 424 (.ref 130)), (e P "done" 438 (.ref 137)), (e P "_find_cycle" 451 (.ref 144)), (e P "static_order" 458 (.ref 151)), (e P "__static_attributes__" 463 (.ref 152))] 14 } ::
  { cls := (.type "tuple"), data := .seq #[] 0 } ::
  { cls := .none, data := .fields #[(.int (19) 0), (.int (4) 0), (.ref 89), (.int (28) 0), (.int (4) 0), (.ref 96), (.int (33) 0), (.int (4) 0), (.ref 103), (.int (42) 0), (.int (4) 0), (.ref 108), (.int (50) 0), (.int (4) 0), (.ref 115), (.int (61) 0), (.int (4) 0), (.ref 122), (.int (66) 0), (.int (4) 0), (.ref 129), (.int (69) 0), (.int (4) 0), (.ref 136), (.int (92) 0), (.int (4) 0), (.ref 143), (.int (121) 0), (.int (4) 0), (.ref 150)] } ::
  { cls := (.type "code"), data := .fields #[(s "TopologicalSorter" 354), (s "TopologicalSorter" 355), (s "/claim/cut.py" 356), (.int (17) 0), (.int (0) 0), (.int (0) 0), (.int (0) 0), (.int (0) 0), (.ref 79), (.bool false), (.int (276) 0), (.ref 80), .none, .none, .none, .none, (.int (357) 0), (.int (17) 0), (s "/claim/cut.py" 358)] } ::
  { cls := (.type "frame"), data := .plain, slots := #[some (.ref 81), some (.ref 3), some (.ref 78), none, some (s "cpy313.graphlib" 289), none, some (.ref 0)] } ::
  { cls := (.type "tuple"), data := .seq #[.none] 0 } ::
  { cls := (.type "tuple"), data := .seq #[] 0 } ::
  { cls := .none, data := .fields #[] } ::
  { cls := (.type "tuple"), data := .seq #[(s "self" 367), (s "graph" 368), (s "node" 369), (s "predecessors" 370)] 0 } ::
  { cls := (.type "tuple"), data := .seq #[] 0 } ::
  (fo0 "__init__" "TopologicalSorter.__init__" (mt 7 0)) ::
  { cls := (.type "code"), data := .fields #[(s "__init__" 364), (s "TopologicalSorter.__init__" 365), (s "/claim/cut.py" 366), (.int (19) 0), (.int (2) 0), (.int (0) 0), (.int (0) 0), (.int (3) 0), (.ref 84), (.bool true), (.int (276) 0), (.ref 85), .none, (.ref 86), (.ref 87), (.ref 88), (.int (371) 0), (.int (19) 0), (s "/claim/cut.py" 372)] } ::
  (fo "__init__" "TopologicalSorter.__init__" (mt 7 0) (.ref 83) (s "cpy313.graphlib" 289) (.ref 89)) ::
  { cls := (.type "tuple"), data := .seq #[] 0 } ::
  { cls := .none, data := .fields #[] } ::
  { cls := (.type "tuple"), data := .seq #[(s "self" 377), (s "node" 378), (s "result" 379)] 0 } ::
  { cls := (.type "tuple"), data := .seq #[] 0 } ::
  (fo0 "_get_nodeinfo" "TopologicalSorter._get_nodeinfo" (mt 7 1)) ::
  { cls := (.type "code"), data := .fields #[(s "_get_nodeinfo" 374), (s "TopologicalSorter._get_nodeinfo" 375), (s "/claim/cut.py" 376), (.int (28) 0), (.int (2) 0), (.int (0) 0), (.int (0) 0), (.int (3) 0), (.ref 91), (.bool true), (.int (276) 0), (.ref 92), .none, (.ref 93), (.ref 94), (.ref 95), (.int (380) 0), (.int (28) 0), (s "/claim/cut.py" 381)] } ::
  (fo "_get_nodeinfo" "TopologicalSorter._get_nodeinfo" (mt 7 1) .none (s "cpy313.graphlib" 289) (.ref 96)) ::
  { cls := (.type "tuple"), data := .seq #[] 0 } ::
  { cls := .none, data := .fields #[] } ::
  { cls := (.type "tuple"), data := .seq #[(s "self" 386), (s "node" 387), (s "predecessors" 388), (s "nodeinfo" 389), (s "pred" 390), (s "pred_info" 391)] 0 } ::
  { cls := (.type "tuple"), data := .seq #[] 0 } ::
  (fo0 "add" "TopologicalSorter.add" (mt 7 2)) ::
  { cls := (.type "code"), data := .fields #[(s "add" 383), (s "TopologicalSorter.add" 384), (s "/claim/cut.py" 385), (.int (33) 0), (.int (2) 0), (.int (0) 0), (.int (0) 0), (.int (7) 0), (.ref 98), (.bool true), (.int (276) 0), (.ref 99), .none, (.ref 100), (.ref 101), (.ref 102), (.int (392) 0), (.int (33) 0), (s "/claim/cut.py" 393)] } ::
  (fo "add" "TopologicalSorter.add" (mt 7 2) .none (s "cpy313.graphlib" 289) (.ref 103)) ::
  { cls := (.type "tuple"), data := .seq #[] 0 } ::
  { cls := .none, data := .fields #[] } ::
  (fo0 "prepare" "TopologicalSorter.prepare" (mt 7 3)) ::
  { cls := (.type "code"), data := .fields #[(s "prepare" 395), (s "TopologicalSorter.prepare" 396), (s "/claim/cut.py" 397), (.int (42) 0), (.int (1) 0), (.int (0) 0), (.int (0) 0), (.int (3) 0), (.ref 105), (.bool true), (.int (276) 0), (.ref 106), .none, .none, .none, (.ref 107), (.int (398) 0), (.int (42) 0), (s "/claim/cut.py" 399)] } ::
  (fo "prepare" "TopologicalSorter.prepare" (mt 7 3) .none (s "cpy313.graphlib" 289) (.ref 108)) ::
  { cls := (.type "tuple"), data := .seq #[] 0 } ::
  { cls := .none, data := .fields #[] } ::
  { cls := (.type "tuple"), data := .seq #[(s "self" 404), (s "result" 405), (s "n2i" 406), (s "node" 407)] 0 } ::
  { cls := (.type "tuple"), data := .seq #[] 0 } ::
  (fo0 "get_ready" "TopologicalSorter.get_ready" (mt 7 4)) ::
  { cls := (.type "code"), data := .fields #[(s "get_ready" 401), (s "TopologicalSorter.get_ready" 402), (s "/claim/cut.py" 403), (.int (50) 0), (.int (1) 0), (.int (0) 0), (.int (0) 0), (.int (3) 0), (.ref 110), (.bool true), (.int (276) 0), (.ref 111), .none, (.ref 112), (.ref 113), (.ref 114), (.int (408) 0), (.int (50) 0), (s "/claim/cut.py" 409)] } ::
  (fo "get_ready" "TopologicalSorter.get_ready" (mt 7 4) .none (s "cpy313.graphlib" 289) (.ref 115)) ::
  { cls := (.type "tuple"), data := .seq #[] 0 } ::
  { cls := .none, data := .fields #[] } ::
  { cls := (.type "tuple"), data := .seq #[(s "self" 414)] 0 } ::
  { cls := (.type "tuple"), data := .seq #[] 0 } ::
  (fo0 "is_active" "TopologicalSorter.is_active" (mt 7 5)) ::
  { cls := (.type "code"), data := .fields #[(s "is_active" 411), (s "TopologicalSorter.is_active" 412), (s "/claim/cut.py" 413), (.int (61) 0), (.int (1) 0), (.int (0) 0), (.int (0) 0), (.int (3) 0), (.ref 117), (.bool true), (.int (276) 0), (.ref 118), .none, (.ref 119), (.ref 120), (.ref 121), (.int (415) 0), (.int (61) 0), (s "/claim/cut.py" 416)] } ::
  (fo "is_active" "TopologicalSorter.is_active" (mt 7 5) .none (s "cpy313.graphlib" 289) (.ref 122)) ::
  { cls := (.type "tuple"), data := .seq #[] 0 } ::
  { cls := .none, data := .fields #[] } ::
  { cls := (.type "tuple"), data := .seq #[(s "self" 421)] 0 } ::
  { cls := (.type "tuple"), data := .seq #[] 0 } ::
  (fo0 "__bool__" "TopologicalSorter.__bool__" (mt 7 6)) ::
  { cls := (.type "code"), data := .fields #[(s "__bool__" 418), (s "TopologicalSorter.__bool__" 419), (s "/claim/cut.py" 420), (.int (66) 0), (.int (1) 0), (.int (0) 0), (.int (0) 0), (.int (3) 0), (.ref 124), (.bool true), (.int (276) 0), (.ref 125), .none, (.ref 126), (.ref 127), (.ref 128), (.int (422) 0), (.int (66) 0), (s "/claim/cut.py" 423)] } ::
  (fo "__bool__" "TopologicalSorter.__bool__" (mt 7 6) .none (s "cpy313.graphlib" 289) (.ref 129)) ::
  { cls := (.type "tuple"), data := .seq #[] 0 } ::
  { cls := .none, data := .fields #[] } ::
  { cls := (.type "tuple"), data := .seq #[(s "self" 428), (s "nodes" 429), (s "n2i" 430), (s "node" 431), (s "nodeinfo" 432), (s "stat" 433), (s "successor" 434), (s "successor_info" 435)] 0 } ::
  { cls := (.type "tuple"), data := .seq #[] 0 } ::
  (fo0 "done" "TopologicalSorter.done" (mt 7 7)) ::
  { cls := (.type "code"), data := .fields #[(s "done" 425), (s "TopologicalSorter.done" 426), (s "/claim/cut.py" 427), (.int (69) 0), (.int (1) 0), (.int (0) 0), (.int (0) 0), (.int (7) 0), (.ref 131), (.bool true), (.int (276) 0), (.ref 132), .none, (.ref 133), (.ref 134), (.ref 135), (.int (436) 0), (.int (69) 0), (s "/claim/cut.py" 437)] } ::
  (fo "done" "TopologicalSorter.done" (mt 7 7) .none (s "cpy313.graphlib" 289) (.ref 136)) ::
  { cls := (.type "tuple"), data := .seq #[] 0 } ::
  { cls := .none, data := .fields #[] } ::
  { cls := (.type "tuple"), data := .seq #[(s "self" 442), (s "n2i" 443), (s "stack" 444), (s "itstack" 445), (s "seen" 446), (s "node2stacki" 447), (s "node" 448)] 0 } ::
  { cls := (.type "tuple"), data := .seq #[] 0 } ::
  (fo0 "_find_cycle" "TopologicalSorter._find_cycle" (mt 7 8)) ::
  { cls := (.type "code"), data := .fields #[(s "_find_cycle" 439), (s "TopologicalSorter._find_cycle" 440), (s "/claim/cut.py" 441), (.int (92) 0), (.int (1) 0), (.int (0) 0), (.int (0) 0), (.int (3) 0), (.ref 138), (.bool true), (.int (276) 0), (.ref 139), .none, (.ref 140), (.ref 141), (.ref 142), (.int (449) 0), (.int (92) 0), (s "/claim/cut.py" 450)] } ::
  (fo "_find_cycle" "TopologicalSorter._find_cycle" (mt 7 8) .none (s "cpy313.graphlib" 289) (.ref 143)) ::
  { cls := (.type "tuple"), data := .seq #[] 0 } ::
  { cls := .none, data := .fields #[] } ::
  { cls := (.type "tuple"), data := .seq #[(s "self" 455)] 0 } ::
  { cls := (.type "tuple"), data := .seq #[] 0 } ::
  (fo0 "static_order" "TopologicalSorter.static_order" (mt 7 9)) ::
  { cls := (.type "code"), data := .fields #[(s "static_order" 452), (s "TopologicalSorter.static_order" 453), (s "/claim/cut.py" 454), (.int (121) 0), (.int (1) 0), (.int (0) 0), (.int (0) 0), (.int (3) 0), (.ref 145), (.bool true), (.int (276) 0), (.ref 146), .none, (.ref 147), (.ref 148), (.ref 149), (.int (456) 0), (.int (121) 0), (s "/claim/cut.py" 457)] } ::
  (fo "static_order" "TopologicalSorter.static_order" (mt 7 9) .none (s "cpy313.graphlib" 289) (.ref 150)) ::
  { cls := (.type "tuple"), data := .seq #[(s "_nfinished" 459), (s "_node2info" 460), (s "_npassedout" 461), (s "_ready_nodes" 462)] 0 } ::
  { cls := (.type "dict"), data := .dict #[(e P "__module__" 359 (s "cpy313.graphlib" 289)), (e P "__firstlineno__" 363 (.int (17) 362)), (e P "__init__" 373 (.ref 90)), (e P "_get_nodeinfo" 382 (.ref 97)), (e P "add" 394 (.ref 104)), (e P "prepare" 400 (.ref 109)), (e P "get_ready" 410 (.ref 116)), (e P "is_active" 417 (.ref 123)), (e P "__bool__" 424 (.ref 130)), (e P "done" 438 (.ref 137)), (e P "_find_cycle" 451 (.ref 144)), (e P "static_order" 458 (.ref 151)), (e P "__static_attributes__" 463 (.ref 152)), (e P "__dict__" 465 (.ref 155)), (e P "__weakref__" 467 (.ref 156)), (e P "__doc__" 468 .none)] 4 } ::
  { cls := (.type "type"), data := .cls { name := (Str.ofString "TopologicalSorter"), bases := [(.type "object")], mro := [(.ref 154), (.type "object")], ns := 153, qualname := (Str.ofString "TopologicalSorter"), hasDict := true, slotNames := [], subclasses := [], abstract := false, hasDel := false }, slots := #[none, none, some (s "TopologicalSorter" 352), some (s "TopologicalSorter" 360), some (.builtin "object.__new__"), some (.bool true)] } ::
  { cls := (.type "getset_descriptor"), data := .fields #[(s "__dict__" 464), (.ref 154), (.builtin "function.__dict__"), (.builtin "function.__dict__#set")] } ::
  { cls := (.type "getset_descriptor"), data := .fields #[(s "__weakref__" 466), (.ref 154), (.builtin "ExceptionGroup.__weakref__"), .none] } ::
  { cls := (.type "super"), data := .fields #[(.ref 154), (.ref 154), (.ref 154)] } ::
  { cls := (.type "builtin_function_or_method"), data := .fields #[(.builtin "object.__init_subclass__"), (.ref 154)] } ::
  { cls := (.type "list"), data := .seq #[(.int (14) 474), (.int (14) 475), (.int (4) 476), (.int (1) 477), (.int (1) 478), (.int (9) 479), (.int (0) 480), (.int (64) 481), (.int (0) 482), (.int (1342177280) 483), (.int (0) 484), (.int (0) 485), (.int (0) 486), (.int (0) 487), (.int (0) 488), (.int (17) 489), (.int (0) 490), (.int (13) 491), (.int (11) 492), (.int (9) 493), (.int (0) 494), (.int (64) 495), (.int (0) 496), (.int (1342177280) 497), (.int (0) 498), (.int (0) 499), (.int (0) 500), (.int (0) 501), (.int (0) 502), (.int (17) 503), (.int (1) 504), (.int (1) 505)] 0 } ::
  { cls := (.type "dict"), data := .dict #[] 0 } ::
  { cls := (.type "tuple"), data := .seq #[.none, .none] 0 } ::
  { cls := (.type "tuple"), data := .seq #[(.int (14) 0), (.int (14) 0), (.int (4) 0), (.int (1) 0), (.int (1) 0), (.int (9) 0), (.int (0) 0), (.int (64) 0), (.int (0) 0), (.int (1342177280) 0), (.int (0) 0), (.int (0) 0), (.int (0) 0), (.int (0) 0), (.int (0) 0), (.int (17) 0), (.int (0) 0), (.int (13) 0), (.int (11) 0), (.int (9) 0), (.int (0) 0), (.int (64) 0), (.int (0) 0), (.int (1342177280) 0), (.int (0) 0), (.int (0) 0), (.int (0) 0), (.int (0) 0), (.int (0) 0), (.int (17) 0), (.int (1) 0), (.int (1) 0)] 0 } ::
  { cls := (.type "re.Pattern"), data := .fields #[(s "([&~|])" 472), (.int (32) 507), (.int (1) 0), .none, .none, (.ref 162), (.int (0) 0)] } ::
  { cls := (.type "bytes_iterator"), data := .fields #[.none, (.int (24) 0)] } ::
  { cls := (.type "dict"), data := .dict #[{ hash := 40, key := (.int (40) 512), val := (s "\\(" 516) }, { hash := 41, key := (.int (41) 518), val := (s "\\)" 522) }, { hash := 91, key := (.int (91) 524), val := (s "\\[" 528) }, { hash := 93, key := (.int (93) 530), val := (s "\\]" 534) }, { hash := 123, key := (.int (123) 536), val := (s "\\{" 540) }, { hash := 125, key := (.int (125) 542), val := (s "\\}" 546) }, { hash := 63, key := (.int (63) 548), val := (s "\\?" 552) }, { hash := 42, key := (.int (42) 554), val := (s "\\*" 558) }, { hash := 43, key := (.int (43) 560), val := (s "\\+" 564) }, { hash := 45, key := (.int (45) 566), val := (s "\\-" 570) }, { hash := 124, key := (.int (124) 572), val := (s "\\|" 576) }, { hash := 94, key := (.int (94) 578), val := (s "\\^" 582) }, { hash := 36, key := (.int (36) 584), val := (s "\\$" 588) }, { hash := 92, key := (.int (92) 590), val := (s "\\\\" 594) }, { hash := 46, key := (.int (46) 596), val := (s "\\." 600) }, { hash := 38, key := (.int (38) 602), val := (s "\\&" 606) }, { hash := 126, key := (.int (126) 608), val := (s "\\~" 612) }, { hash := 35, key := (.int (35) 614), val := (s "\\#" 618) }, { hash := 32, key := (.int (32) 620), val := (s "\\ " 624) }, { hash := 9, key := (.int (9) 626), val := (s "\\\t" 630) }, { hash := 10, key := (.int (10) 632), val := (s "\\\n" 636) }, { hash := 13, key := (.int (13) 638), val := (s "\\\x0d" 642) }, { hash := 11, key := (.int (11) 644), val := (s "\\\x0b" 648) }, { hash := 12, key := (.int (12) 650), val := (s "\\\x0c" 654) }] 24 } ::
  { cls := (.type "dict"), data := .dict #[] 2 } ::
  { cls := (.type "tuple"), data := .seq #[] 0 } ::
  { cls := (.type "StopIteration"), data := .fields #[(.ref 167), .none, .none, .none, (.bool false), .none] } :: []⟩ } : Heap)) w.params
noncomputable def bE : Env := { scope := pw.main.scope, locals := mainNs, globals := mainNs, cells := [], code := .ref 30, frame := some 31 }
noncomputable def bb : List Stmt := behindTheImports pw
noncomputable def cE : Code := .body bb bE
noncomputable def q0 : Pos := ⟨0, 0, 0, 0⟩
def Xq : Shared → Bool := fun s => xlAt qv [] s && recOk (RowW.records PySem.Challenge.rw_ij0184_01.row.toRowW) s

theorem c1 (w : World) : ((PySem.W.Fast.tw10274390034422433532 PySem.W.Fast.tw14364793385576792824 (opening pw) w 5782 (start (opening pw)).1 (start (opening pw)).2).bind (PySem.W.Fast.tw14289696077712309145 pw)).map (fun s₀ => (s₀.heap.isNs mainGlobals && s₀.gens.size == 0, s₀.heap.objs.size, s₀.heap.nsMap mainGlobals "__annotations__",
      (PySem.W.Fast.tw15667345088766844465 PySem.W.Fast.tw14364793385576792824 pw w 28 (some (.ref 6)) 12 s₀ (topStub pw)).bind fun x => (PySem.W.Fast.tw14374325043358763698 PySem.W.Fast.tw14364793385576792824 pw w 28 (some (.ref 6)) 1 2 x.1 ⟨(PySem.W.Fast.tw1066825118222455980 bb bE).wrap (fun _ => doneF .next) deadEnd id id, cE, q0, [topFrame q0]⟩).bind fun y =>
        (PySem.W.Fast.tw14374325043358763698 PySem.W.Fast.tw14364793385576792824 pw w 28 (some (.ref 6)) 1 1200 y.2.1 ⟨(PySem.W.Fast.tw12563942051412417395 (bb.take 9) bE).wrap doneF deadEnd id id, cE, y.2.2.2, [topFrame q0]⟩).map fun z =>
        (x.2, (y.1, y.2.2.1, y.2.2.2), (z.1, z.2.1.heap, z.2.1.gens, z.2.1.drawn, z.2.1.toks, z.2.2.1, z.2.2.2)))) =
      some (true, 28, (some (.ref 6)), some (⟨PySem.W.Fast.tw11892475500146522536 PySem.W.Fast.tw14364793385576792824 cE, cE, q0, [topFrame q0]⟩, (.next, cE, q0), (.next, h8 w, #[], {}, 511, cE, ⟨124, 0, 124, 8⟩))) := by kernel_rfl
def P2 (w : World) : Prop := (fun os => PySem.W.Fast.tw14374325043358763698 PySem.W.Fast.tw14364793385576792824 pw w 28 (some (.ref 6)) 1 1300 ⟨h8 w, #[], {}, 511, os⟩ ⟨(PySem.W.Fast.tw12563942051412417395 ((bb.drop 9).take 1) bE).wrap doneF deadEnd id id, cE, ⟨124, 0, 124, 8⟩, [topFrame q0]⟩) = fun os => some (.next, ⟨h9 w, #[], {}, 657, os⟩, cE, ⟨125, 0, 125, 18⟩)
theorem m0 (w : World) : P2 ((w.withFollow "special-get-raises" false).withFollow "comprehension-iter-twice" false) := by unfold P2; kernel_rfl
theorem m1 (w : World) : P2 ((w.withFollow "special-get-raises" false).withFollow "comprehension-iter-twice" true) := by unfold P2; kernel_rfl
theorem m2 (w : World) : P2 ((w.withFollow "special-get-raises" true).withFollow "comprehension-iter-twice" false) := by unfold P2; kernel_rfl
theorem m3 (w : World) : P2 ((w.withFollow "special-get-raises" true).withFollow "comprehension-iter-twice" true) := by unfold P2; kernel_rfl
theorem c2 (w : World) : P2 w :=
  byRow2 "comprehension-iter-twice" (fun w => byRow2 "special-get-raises" (P := fun w => P2 (w.withFollow "comprehension-iter-twice" false)) m0 m2 w) (fun w => byRow2 "special-get-raises" (P := fun w => P2 (w.withFollow "comprehension-iter-twice" true)) m1 m3 w) w
theorem c3 (w : World) : ((PySem.W.Fast.tw10274390034422433532 PySem.W.Fast.tw14364793385576792824 (opening pw) w 5782 (start (opening pw)).1 (start (opening pw)).2).bind (PySem.W.Fast.tw14289696077712309145 pw)).map (fun s₀ => fun os => (PySem.W.Fast.tw14374325043358763698 PySem.W.Fast.tw14364793385576792824 pw w 28 (some (.ref 6)) 1 600 ⟨h9 w, #[], {}, 657, os⟩ ⟨(PySem.W.Fast.tw12563942051412417395 ((bb.drop 9).drop 1) bE).wrap doneF deadEnd id id, cE, ⟨125, 0, 125, 18⟩, [topFrame q0]⟩).bind fun y =>
      (PySem.W.Fast.tw14082659384304107361 PySem.W.Fast.tw14364793385576792824 pw w 28 (some (.ref 6)) 2 y.2.1 ⟨doneF .next, cE, y.2.2.2, [topFrame q0]⟩).map fun s₁ => ((y.1, y.2.2.1), (staticsOk (importedModules pw.main.body) s₀.heap s₁.heap && namesBound pw s₁.heap && gensDone s₁ && laidKept s₀.heap s₁.heap),
        openSeen qv lo (importedModules pw.main.body) Xq true s₁, hk.obs s₁)) = some (fun _ => some ((.next, cE), true, openGood qv lo, hk.val w)) := by kernel_rfl
theorem left : LeftO PySem.Challenge.rw_ij0184_01.row.prog qv lo Xq hk.obs hk.val 5782 true :=
  left_cut PySem.W.Fast.te14364793385576792824 PySem.W.Fast.te15667345088766844465 PySem.W.Fast.te14374325043358763698 PySem.W.Fast.te14082659384304107361 PySem.W.Fast.te10274390034422433532 PySem.W.Fast.te14289696077712309145 PySem.W.Fast.te1066825118222455980 PySem.W.Fast.te12563942051412417395 PySem.W.Fast.te11892475500146522536
    (b := bb) rfl (by rw [List.take_append_drop, List.take_append_drop]) c1 c2 c3 (by decide)
theorem wellOk : (PySem.Challenge.rw_ij0184_01).wellSaid = true := by
  unfold OpenLaw.wellSaid
  repeat' (first | with_reducible apply look_both | unfold OpenRow.wellSaid | unfold OpenRow.partSaid | unfold looksOpen)
  all_goals decide +kernel
theorem hd (call : WalkO qv lo (XL qv []) (kmHook hp hpA hpA_eq [177]).says PySem.Challenge.rw_ij0184_01.row.toRowW ⟨Str.ofString "law", fA (tp 27), fB (tp 27), fS (tp 27), fP (tp 27)⟩ [] fun f vs => PySem.call f vs) : PySem.Challenge.rw_ij0184_01.Holds :=
  holds_law wellOk fun k1 => holds_open left hk.of hk.keeps (fun s e => xl_of s (Bool.and_eq_true_iff.mp e).1) XL.keeps (by rfl) (by rfl) (by rfl) (fun s e => recFacts_of (Bool.and_eq_true_iff.mp e).2) (by rfl) k1 (by decide +kernel) ⟨rfl, rfl, rfl, rfl, rfl, by decide +kernel⟩ (by w_witness2) call

end HD
end
section
open PySem PySem.Calls PyProof.Rows PySem.W
set_option autoImplicit false
set_option linter.unusedVariables false
set_option maxRecDepth 100000
namespace PL

@[reducible] noncomputable def KK (P : Params) : Frag := HD.hp P
noncomputable def fdAt (P : Params) (a : Addr) : FuncData := match (KK P).lookup a with
  | some ⟨_, _, .func fd, _⟩ => fd
  | _ => default
noncomputable def bodyOf (fd : FuncData) : List Stmt := match fd.body with
  | .stmts b => b
  | _ => []
structure Ok (G : Gd) : Prop where
  K : (KK G.w.params).In G.t
  nolimit : G.t.NoLimit
  g : ∃ mg mb, G.t.Ns mainGlobals mg ∧ G.t.Ns builtinsNs mb ∧ ∀ x : Str, x ≠ "__name__" → mb x = bootBuiltins x
  bm : ∃ mg, G.t.Ns mainGlobals mg ∧ ∃ bm ob, mg "__builtins__" = some (.ref bm) ∧ bm ≠ builtinsNs ∧ bm ≠ mainGlobals ∧ G.t.get? bm = some ob ∧ ob.cls = .type "module" ∧ ob.dict = some builtinsNs ∧ ob.data = .plain
noncomputable def isFn : Option Obj → Bool
  | some ⟨_, _, .func _, _⟩ => true
  | _ => false
theorem kept_of {G : Gd} (hG : Ok G) (a : Addr) (h : isFn ((KK G.w.params).lookup a) = true) : Kept G (.ref a) := by
  unfold isFn at h
  split at h
  · rename_i q; exact .fn (hG.K _ _ q) rfl
  · cases h
@[reducible] noncomputable def gtab : List (Str × AV) := [(Str.ofString "_wall", .ref 38), (Str.ofString "_NODE_OUT", .int (-1)), (Str.ofString "_NODE_DONE", .int (-2)), (Str.ofString "_NodeInfo", .ref 57), (Str.ofString "CycleError", .ref 72), (Str.ofString "TopologicalSorter", .ref 154), (Str.ofString "_twin_re_1", .ref 163), (Str.ofString "_special_chars_map", .ref 165), (Str.ofString "escape", .ref 175), (Str.ofString "_translate", .ref 182), (Str.ofString "heappush", .ref 189), (Str.ofString "heappop", .ref 196), (Str.ofString "_siftdown", .ref 203), (Str.ofString "_siftup", .ref 210), (Str.ofString "_law_names", .ref 215), (Str.ofString "_law_takes", .ref 222), (Str.ofString "_law_taken", .ref 227), (Str.ofString "_law_tables", .ref 232), (Str.ofString "_law_run", .ref 237), (Str.ofString "_law_kinds", .ref 244), (Str.ofString "_law_due", .ref 249), (Str.ofString "law", .ref 254), (Str.ofString "len", .lit (.builtin "len")), (Str.ofString "min", .lit (.builtin "min")), (Str.ofString "isinstance", .lit (.builtin "isinstance")), (Str.ofString "iter", .lit (.builtin "iter")), (Str.ofString "range", .lit (.type "range")), (Str.ofString "zip", .lit (.type "zip")), (Str.ofString "set", .lit (.type "set")), (Str.ofString "tuple", .lit (.type "tuple")), (Str.ofString "bool", .lit (.type "bool")), (Str.ofString "str", .lit (.type "str")), (Str.ofString "StopIteration", .lit (.type "StopIteration"))]
theorem gtab_ok {G : Gd} (hG : Ok G) : GlobOk G gtab := by
  obtain ⟨mg, mb, n1, n2, hb⟩ := hG.g
  refine ⟨mg, mb, n1, n2, ?_⟩
  show GlobT mg mb gtab
  refine GlobT.mod hG.K n1 (rfl : nsIn _ _ (Str.ofString "_wall") = some (some (.ref 38))) rfl ?_
  refine GlobT.mod hG.K n1 (rfl : nsIn _ _ (Str.ofString "_NODE_OUT") = some (some (.int (-1) _))) ⟨_, rfl⟩ ?_
  refine GlobT.mod hG.K n1 (rfl : nsIn _ _ (Str.ofString "_NODE_DONE") = some (some (.int (-2) _))) ⟨_, rfl⟩ ?_
  refine GlobT.mod hG.K n1 (rfl : nsIn _ _ (Str.ofString "_NodeInfo") = some (some (.ref 57))) rfl ?_
  refine GlobT.mod hG.K n1 (rfl : nsIn _ _ (Str.ofString "CycleError") = some (some (.ref 72))) rfl ?_
  refine GlobT.mod hG.K n1 (rfl : nsIn _ _ (Str.ofString "TopologicalSorter") = some (some (.ref 154))) rfl ?_
  refine GlobT.mod hG.K n1 (rfl : nsIn _ _ (Str.ofString "_twin_re_1") = some (some (.ref 163))) rfl ?_
  refine GlobT.mod hG.K n1 (rfl : nsIn _ _ (Str.ofString "_special_chars_map") = some (some (.ref 165))) rfl ?_
  refine GlobT.mod hG.K n1 (rfl : nsIn _ _ (Str.ofString "escape") = some (some (.ref 175))) rfl ?_
  refine GlobT.mod hG.K n1 (rfl : nsIn _ _ (Str.ofString "_translate") = some (some (.ref 182))) rfl ?_
  refine GlobT.mod hG.K n1 (rfl : nsIn _ _ (Str.ofString "heappush") = some (some (.ref 189))) rfl ?_
  refine GlobT.mod hG.K n1 (rfl : nsIn _ _ (Str.ofString "heappop") = some (some (.ref 196))) rfl ?_
  refine GlobT.mod hG.K n1 (rfl : nsIn _ _ (Str.ofString "_siftdown") = some (some (.ref 203))) rfl ?_
  refine GlobT.mod hG.K n1 (rfl : nsIn _ _ (Str.ofString "_siftup") = some (some (.ref 210))) rfl ?_
  refine GlobT.mod hG.K n1 (rfl : nsIn _ _ (Str.ofString "_law_names") = some (some (.ref 215))) rfl ?_
  refine GlobT.mod hG.K n1 (rfl : nsIn _ _ (Str.ofString "_law_takes") = some (some (.ref 222))) rfl ?_
  refine GlobT.mod hG.K n1 (rfl : nsIn _ _ (Str.ofString "_law_taken") = some (some (.ref 227))) rfl ?_
  refine GlobT.mod hG.K n1 (rfl : nsIn _ _ (Str.ofString "_law_tables") = some (some (.ref 232))) rfl ?_
  refine GlobT.mod hG.K n1 (rfl : nsIn _ _ (Str.ofString "_law_run") = some (some (.ref 237))) rfl ?_
  refine GlobT.mod hG.K n1 (rfl : nsIn _ _ (Str.ofString "_law_kinds") = some (some (.ref 244))) rfl ?_
  refine GlobT.mod hG.K n1 (rfl : nsIn _ _ (Str.ofString "_law_due") = some (some (.ref 249))) rfl ?_
  refine GlobT.mod hG.K n1 (rfl : nsIn _ _ (Str.ofString "law") = some (some (.ref 254))) rfl ?_
  refine GlobT.bi hG.K n1 hb (rfl : nsIn _ _ (Str.ofString "len") = some none) (rfl : bootBuiltins _ = some (.builtin "len")) (by decide) rfl ?_
  refine GlobT.bi hG.K n1 hb (rfl : nsIn _ _ (Str.ofString "min") = some none) (rfl : bootBuiltins _ = some (.builtin "min")) (by decide) rfl ?_
  refine GlobT.bi hG.K n1 hb (rfl : nsIn _ _ (Str.ofString "isinstance") = some none) (rfl : bootBuiltins _ = some (.builtin "isinstance")) (by decide) rfl ?_
  refine GlobT.bi hG.K n1 hb (rfl : nsIn _ _ (Str.ofString "iter") = some none) (rfl : bootBuiltins _ = some (.builtin "iter")) (by decide) rfl ?_
  refine GlobT.bi hG.K n1 hb (rfl : nsIn _ _ (Str.ofString "range") = some none) (rfl : bootBuiltins _ = some (.type "range")) (by decide) rfl ?_
  refine GlobT.bi hG.K n1 hb (rfl : nsIn _ _ (Str.ofString "zip") = some none) (rfl : bootBuiltins _ = some (.type "zip")) (by decide) rfl ?_
  refine GlobT.bi hG.K n1 hb (rfl : nsIn _ _ (Str.ofString "set") = some none) (rfl : bootBuiltins _ = some (.type "set")) (by decide) rfl ?_
  refine GlobT.bi hG.K n1 hb (rfl : nsIn _ _ (Str.ofString "tuple") = some none) (rfl : bootBuiltins _ = some (.type "tuple")) (by decide) rfl ?_
  refine GlobT.bi hG.K n1 hb (rfl : nsIn _ _ (Str.ofString "bool") = some none) (rfl : bootBuiltins _ = some (.type "bool")) (by decide) rfl ?_
  refine GlobT.bi hG.K n1 hb (rfl : nsIn _ _ (Str.ofString "str") = some none) (rfl : bootBuiltins _ = some (.type "str")) (by decide) rfl ?_
  refine GlobT.bi hG.K n1 hb (rfl : nsIn _ _ (Str.ofString "StopIteration") = some none) (rfl : bootBuiltins _ = some (.type "StopIteration")) (by decide) rfl ?_
  exact GlobT.nil
theorem fn_of {G : Gd} (hG : Ok G) (a : Addr) (o : Obj) (names : List (Str × NameKind)) (c : Addr) (oc : Obj) (vs : Array Value) (tk : Tok)
  (h1 : (KK G.w.params).lookup a = some o) (h2 : o.data = .func (fdAt G.w.params a)) (h3 : (fdAt G.w.params a).scope.names = names) (hn : (names.map fun p => p.1).Nodup)
  (h4 : (fdAt G.w.params a).body = .stmts (bodyOf (fdAt G.w.params a))) (h5 : (fdAt G.w.params a).closure = [] ∧ (fdAt G.w.params a).globals = mainGlobals ∧ (fdAt G.w.params a).builtins = builtinsNs ∧ (fdAt G.w.params a).scope.isCoroutine = false ∧ (fdAt G.w.params a).scope.isGenerator = false ∧ (fdAt G.w.params a).scope.kind = .function)
  (hpl : ∀ p ∈ names, (p.1 == ("__debug__" : Str)) = false ∧ (p.1 == ("__classdict__" : Str)) = false)
  (h6 : (fdAt G.w.params a).code = .ref c ∧ (KK G.w.params).lookup c = some oc ∧ oc.data = .fields vs ∧ vs[1]? = some (.str (fdAt G.w.params a).qualname tk)) :
  FnOk G a (fdAt G.w.params a) (bodyOf (fdAt G.w.params a)) names :=
  ⟨⟨o, hG.K _ _ h1, h2⟩, ⟨c, oc, vs, tk, h6.1, hG.K _ _ h6.2.1, h6.2.2.1, h6.2.2.2⟩, hG.nolimit, h4, h3, hn, h5.1, hpl, h5.2.1, h5.2.2.1, h5.2.2.2.1, h5.2.2.2.2.1, h5.2.2.2.2.2⟩

@[reducible] noncomputable def nm_NI___init__ : List (Str × NameKind) := [(Str.ofString "self", .local), (Str.ofString "node", .local)]
theorem fn_NI___init__ {G : Gd} (hG : Ok G) : FnOk G 53 (fdAt G.w.params 53) (bodyOf (fdAt G.w.params 53)) nm_NI___init__ :=
  fn_of hG 53 _ _ 52 _ _ _ rfl rfl rfl (by decide) rfl ⟨rfl, rfl, rfl, rfl, rfl, rfl⟩ (by decide) ⟨rfl, rfl, rfl, rfl⟩
@[reducible] noncomputable def nm_TS___init__ : List (Str × NameKind) := [(Str.ofString "self", .local), (Str.ofString "graph", .local), (Str.ofString "node", .local), (Str.ofString "predecessors", .local)]
theorem fn_TS___init__ {G : Gd} (hG : Ok G) : FnOk G 90 (fdAt G.w.params 90) (bodyOf (fdAt G.w.params 90)) nm_TS___init__ :=
  fn_of hG 90 _ _ 89 _ _ _ rfl rfl rfl (by decide) rfl ⟨rfl, rfl, rfl, rfl, rfl, rfl⟩ (by decide) ⟨rfl, rfl, rfl, rfl⟩
@[reducible] noncomputable def nm_TS__get_nodeinfo : List (Str × NameKind) := [(Str.ofString "self", .local), (Str.ofString "node", .local), (Str.ofString "result", .local), (Str.ofString "_NodeInfo", .globalImplicit)]
theorem fn_TS__get_nodeinfo {G : Gd} (hG : Ok G) : FnOk G 97 (fdAt G.w.params 97) (bodyOf (fdAt G.w.params 97)) nm_TS__get_nodeinfo :=
  fn_of hG 97 _ _ 96 _ _ _ rfl rfl rfl (by decide) rfl ⟨rfl, rfl, rfl, rfl, rfl, rfl⟩ (by decide) ⟨rfl, rfl, rfl, rfl⟩
@[reducible] noncomputable def nm_TS_add : List (Str × NameKind) := [(Str.ofString "self", .local), (Str.ofString "node", .local), (Str.ofString "predecessors", .local), (Str.ofString "nodeinfo", .local), (Str.ofString "pred", .local), (Str.ofString "pred_info", .local), (Str.ofString "ValueError", .globalImplicit), (Str.ofString "len", .globalImplicit)]
theorem fn_TS_add {G : Gd} (hG : Ok G) : FnOk G 104 (fdAt G.w.params 104) (bodyOf (fdAt G.w.params 104)) nm_TS_add :=
  fn_of hG 104 _ _ 103 _ _ _ rfl rfl rfl (by decide) rfl ⟨rfl, rfl, rfl, rfl, rfl, rfl⟩ (by decide) ⟨rfl, rfl, rfl, rfl⟩
@[reducible] noncomputable def nm_TS_prepare : List (Str × NameKind) := [(Str.ofString "self", .local), (Str.ofString "cycle", .local), (Str.ofString "ValueError", .globalImplicit), (Str.ofString "CycleError", .globalImplicit)]
theorem fn_TS_prepare {G : Gd} (hG : Ok G) : FnOk G 109 (fdAt G.w.params 109) (bodyOf (fdAt G.w.params 109)) nm_TS_prepare :=
  fn_of hG 109 _ _ 108 _ _ _ rfl rfl rfl (by decide) rfl ⟨rfl, rfl, rfl, rfl, rfl, rfl⟩ (by decide) ⟨rfl, rfl, rfl, rfl⟩
@[reducible] noncomputable def nm_TS_get_ready : List (Str × NameKind) := [(Str.ofString "self", .local), (Str.ofString "result", .local), (Str.ofString "n2i", .local), (Str.ofString "node", .local), (Str.ofString "ValueError", .globalImplicit), (Str.ofString "tuple", .globalImplicit), (Str.ofString "_NODE_OUT", .globalImplicit), (Str.ofString "len", .globalImplicit)]
theorem fn_TS_get_ready {G : Gd} (hG : Ok G) : FnOk G 116 (fdAt G.w.params 116) (bodyOf (fdAt G.w.params 116)) nm_TS_get_ready :=
  fn_of hG 116 _ _ 115 _ _ _ rfl rfl rfl (by decide) rfl ⟨rfl, rfl, rfl, rfl, rfl, rfl⟩ (by decide) ⟨rfl, rfl, rfl, rfl⟩
@[reducible] noncomputable def nm_TS_done : List (Str × NameKind) := [(Str.ofString "self", .local), (Str.ofString "nodes", .local), (Str.ofString "n2i", .local), (Str.ofString "node", .local), (Str.ofString "nodeinfo", .local), (Str.ofString "stat", .local), (Str.ofString "successor", .local), (Str.ofString "successor_info", .local), (Str.ofString "ValueError", .globalImplicit), (Str.ofString "_NODE_OUT", .globalImplicit), (Str.ofString "_NODE_DONE", .globalImplicit)]
theorem fn_TS_done {G : Gd} (hG : Ok G) : FnOk G 137 (fdAt G.w.params 137) (bodyOf (fdAt G.w.params 137)) nm_TS_done :=
  fn_of hG 137 _ _ 136 _ _ _ rfl rfl rfl (by decide) rfl ⟨rfl, rfl, rfl, rfl, rfl, rfl⟩ (by decide) ⟨rfl, rfl, rfl, rfl⟩
@[reducible] noncomputable def nm_TS__find_cycle : List (Str × NameKind) := [(Str.ofString "self", .local), (Str.ofString "n2i", .local), (Str.ofString "stack", .local), (Str.ofString "itstack", .local), (Str.ofString "seen", .local), (Str.ofString "node2stacki", .local), (Str.ofString "node", .local), (Str.ofString "set", .globalImplicit), (Str.ofString "iter", .globalImplicit), (Str.ofString "len", .globalImplicit), (Str.ofString "StopIteration", .globalImplicit)]
theorem fn_TS__find_cycle {G : Gd} (hG : Ok G) : FnOk G 144 (fdAt G.w.params 144) (bodyOf (fdAt G.w.params 144)) nm_TS__find_cycle :=
  fn_of hG 144 _ _ 143 _ _ _ rfl rfl rfl (by decide) rfl ⟨rfl, rfl, rfl, rfl, rfl, rfl⟩ (by decide) ⟨rfl, rfl, rfl, rfl⟩
@[reducible] noncomputable def nm_escape : List (Str × NameKind) := [(Str.ofString "pattern", .local), (Str.ofString "isinstance", .globalImplicit), (Str.ofString "str", .globalImplicit), (Str.ofString "_special_chars_map", .globalImplicit)]
theorem fn_escape {G : Gd} (hG : Ok G) : FnOk G 175 (fdAt G.w.params 175) (bodyOf (fdAt G.w.params 175)) nm_escape :=
  fn_of hG 175 _ _ 174 _ _ _ rfl rfl rfl (by decide) rfl ⟨rfl, rfl, rfl, rfl, rfl, rfl⟩ (by decide) ⟨rfl, rfl, rfl, rfl⟩
@[reducible] noncomputable def nm_translate : List (Str × NameKind) := [(Str.ofString "pat", .local), (Str.ofString "STAR", .local), (Str.ofString "QUESTION_MARK", .local), (Str.ofString "res", .local), (Str.ofString "add", .local), (Str.ofString "i", .local), (Str.ofString "n", .local), (Str.ofString "c", .local), (Str.ofString "j", .local), (Str.ofString "stuff", .local), (Str.ofString "chunks", .local), (Str.ofString "k", .local), (Str.ofString "chunk", .local), (Str.ofString "len", .globalImplicit), (Str.ofString "range", .globalImplicit), (Str.ofString "_twin_re_1", .globalImplicit), (Str.ofString "escape", .globalImplicit)]
theorem fn_translate {G : Gd} (hG : Ok G) : FnOk G 182 (fdAt G.w.params 182) (bodyOf (fdAt G.w.params 182)) nm_translate :=
  fn_of hG 182 _ _ 181 _ _ _ rfl rfl rfl (by decide) rfl ⟨rfl, rfl, rfl, rfl, rfl, rfl⟩ (by decide) ⟨rfl, rfl, rfl, rfl⟩
@[reducible] noncomputable def nm_heappush : List (Str × NameKind) := [(Str.ofString "heap", .local), (Str.ofString "item", .local), (Str.ofString "_siftdown", .globalImplicit), (Str.ofString "len", .globalImplicit)]
theorem fn_heappush {G : Gd} (hG : Ok G) : FnOk G 189 (fdAt G.w.params 189) (bodyOf (fdAt G.w.params 189)) nm_heappush :=
  fn_of hG 189 _ _ 188 _ _ _ rfl rfl rfl (by decide) rfl ⟨rfl, rfl, rfl, rfl, rfl, rfl⟩ (by decide) ⟨rfl, rfl, rfl, rfl⟩
@[reducible] noncomputable def nm_heappop : List (Str × NameKind) := [(Str.ofString "heap", .local), (Str.ofString "lastelt", .local), (Str.ofString "returnitem", .local), (Str.ofString "_siftup", .globalImplicit)]
theorem fn_heappop {G : Gd} (hG : Ok G) : FnOk G 196 (fdAt G.w.params 196) (bodyOf (fdAt G.w.params 196)) nm_heappop :=
  fn_of hG 196 _ _ 195 _ _ _ rfl rfl rfl (by decide) rfl ⟨rfl, rfl, rfl, rfl, rfl, rfl⟩ (by decide) ⟨rfl, rfl, rfl, rfl⟩
@[reducible] noncomputable def nm_siftdown : List (Str × NameKind) := [(Str.ofString "heap", .local), (Str.ofString "startpos", .local), (Str.ofString "pos", .local), (Str.ofString "newitem", .local), (Str.ofString "parentpos", .local), (Str.ofString "parent", .local)]
theorem fn_siftdown {G : Gd} (hG : Ok G) : FnOk G 203 (fdAt G.w.params 203) (bodyOf (fdAt G.w.params 203)) nm_siftdown :=
  fn_of hG 203 _ _ 202 _ _ _ rfl rfl rfl (by decide) rfl ⟨rfl, rfl, rfl, rfl, rfl, rfl⟩ (by decide) ⟨rfl, rfl, rfl, rfl⟩
@[reducible] noncomputable def nm_siftup : List (Str × NameKind) := [(Str.ofString "heap", .local), (Str.ofString "pos", .local), (Str.ofString "endpos", .local), (Str.ofString "startpos", .local), (Str.ofString "newitem", .local), (Str.ofString "childpos", .local), (Str.ofString "rightpos", .local), (Str.ofString "len", .globalImplicit), (Str.ofString "_siftdown", .globalImplicit)]
theorem fn_siftup {G : Gd} (hG : Ok G) : FnOk G 210 (fdAt G.w.params 210) (bodyOf (fdAt G.w.params 210)) nm_siftup :=
  fn_of hG 210 _ _ 209 _ _ _ rfl rfl rfl (by decide) rfl ⟨rfl, rfl, rfl, rfl, rfl, rfl⟩ (by decide) ⟨rfl, rfl, rfl, rfl⟩
@[reducible] noncomputable def nm_law_names : List (Str × NameKind) := [(Str.ofString "script", .local), (Str.ofString "names", .local), (Str.ofString "x", .cell), (Str.ofString "name", .local), (Str.ofString "range", .globalImplicit)]
theorem fn_law_names {G : Gd} (hG : Ok G) : FnOk G 215 (fdAt G.w.params 215) (bodyOf (fdAt G.w.params 215)) nm_law_names :=
  fn_of hG 215 _ _ 214 _ _ _ rfl rfl rfl (by decide) rfl ⟨rfl, rfl, rfl, rfl, rfl, rfl⟩ (by decide) ⟨rfl, rfl, rfl, rfl⟩
@[reducible] noncomputable def nm_law_takes : List (Str × NameKind) := [(Str.ofString "part", .local), (Str.ofString "sign", .local)]
theorem fn_law_takes {G : Gd} (hG : Ok G) : FnOk G 222 (fdAt G.w.params 222) (bodyOf (fdAt G.w.params 222)) nm_law_takes :=
  fn_of hG 222 _ _ 221 _ _ _ rfl rfl rfl (by decide) rfl ⟨rfl, rfl, rfl, rfl, rfl, rfl⟩ (by decide) ⟨rfl, rfl, rfl, rfl⟩
@[reducible] noncomputable def nm_law_taken : List (Str × NameKind) := [(Str.ofString "glob", .local), (Str.ofString "names", .local), (Str.ofString "star", .local), (Str.ofString "parts", .local), (Str.ofString "taken", .local), (Str.ofString "name", .cell), (Str.ofString "ends", .cell), (Str.ofString "part", .cell), (Str.ofString "_translate", .globalImplicit), (Str.ofString "range", .globalImplicit), (Str.ofString "len", .globalImplicit)]
theorem fn_law_taken {G : Gd} (hG : Ok G) : FnOk G 227 (fdAt G.w.params 227) (bodyOf (fdAt G.w.params 227)) nm_law_taken :=
  fn_of hG 227 _ _ 226 _ _ _ rfl rfl rfl (by decide) rfl ⟨rfl, rfl, rfl, rfl, rfl, rfl⟩ (by decide) ⟨rfl, rfl, rfl, rfl⟩
@[reducible] noncomputable def nm_law_tables : List (Str × NameKind) := [(Str.ofString "names", .cell), (Str.ofString "rules", .local), (Str.ofString "globs", .cell)]
theorem fn_law_tables {G : Gd} (hG : Ok G) : FnOk G 232 (fdAt G.w.params 232) (bodyOf (fdAt G.w.params 232)) nm_law_tables :=
  fn_of hG 232 _ _ 231 _ _ _ rfl rfl rfl (by decide) rfl ⟨rfl, rfl, rfl, rfl, rfl, rfl⟩ (by decide) ⟨rfl, rfl, rfl, rfl⟩
@[reducible] noncomputable def nm_law_run : List (Str × NameKind) := [(Str.ofString "names", .local), (Str.ofString "rules", .local), (Str.ofString "taken", .local), (Str.ofString "sorter", .local), (Str.ofString "name", .cell), (Str.ofString "first", .local), (Str.ofString "second", .local), (Str.ofString "ring", .local), (Str.ofString "heap", .local), (Str.ofString "order", .local), (Str.ofString "turn", .local), (Str.ofString "TopologicalSorter", .globalImplicit), (Str.ofString "CycleError", .globalImplicit), (Str.ofString "range", .globalImplicit), (Str.ofString "len", .globalImplicit), (Str.ofString "heappush", .globalImplicit), (Str.ofString "heappop", .globalImplicit)]
theorem fn_law_run {G : Gd} (hG : Ok G) : FnOk G 237 (fdAt G.w.params 237) (bodyOf (fdAt G.w.params 237)) nm_law_run :=
  fn_of hG 237 _ _ 236 _ _ _ rfl rfl rfl (by decide) rfl ⟨rfl, rfl, rfl, rfl, rfl, rfl⟩ (by decide) ⟨rfl, rfl, rfl, rfl⟩
@[reducible] noncomputable def nm_law_kinds : List (Str × NameKind) := [(Str.ofString "name", .local), (Str.ofString "shape", .local), (Str.ofString "place", .local), (Str.ofString "len", .globalImplicit)]
theorem fn_law_kinds {G : Gd} (hG : Ok G) : FnOk G 244 (fdAt G.w.params 244) (bodyOf (fdAt G.w.params 244)) nm_law_kinds :=
  fn_of hG 244 _ _ 243 _ _ _ rfl rfl rfl (by decide) rfl ⟨rfl, rfl, rfl, rfl, rfl, rfl⟩ (by decide) ⟨rfl, rfl, rfl, rfl⟩
@[reducible] noncomputable def nm_law_due : List (Str × NameKind) := [(Str.ofString "names", .local), (Str.ofString "rules", .local), (Str.ofString "kinds", .local), (Str.ofString "order", .cell), (Str.ofString "turn", .local), (Str.ofString "free", .local), (Str.ofString "name", .cell), (Str.ofString "kind", .cell), (Str.ofString "wide", .cell), (Str.ofString "left", .local), (Str.ofString "range", .globalImplicit), (Str.ofString "len", .globalImplicit), (Str.ofString "zip", .globalImplicit), (Str.ofString "min", .globalImplicit)]
theorem fn_law_due {G : Gd} (hG : Ok G) : FnOk G 249 (fdAt G.w.params 249) (bodyOf (fdAt G.w.params 249)) nm_law_due :=
  fn_of hG 249 _ _ 248 _ _ _ rfl rfl rfl (by decide) rfl ⟨rfl, rfl, rfl, rfl, rfl, rfl⟩ (by decide) ⟨rfl, rfl, rfl, rfl⟩
@[reducible] noncomputable def nm_law : List (Str × NameKind) := [(Str.ofString "script", .local), (Str.ofString "names", .local), (Str.ofString "rules", .local), (Str.ofString "taken", .local), (Str.ofString "kinds", .local), (Str.ofString "k", .cell), (Str.ofString "_law_names", .globalImplicit), (Str.ofString "_law_tables", .globalImplicit), (Str.ofString "zip", .globalImplicit), (Str.ofString "_law_run", .globalImplicit), (Str.ofString "_law_due", .globalImplicit)]
theorem sub_ok {G : Gd} (hG : Ok G) : SubOk G 163 := ⟨_, _, _, _, _, _, _, _, hG.K _ _ rfl, hG.K _ _ rfl, by simp [subCode, Builtin.Re.reRawOf]⟩
theorem code_ok {G : Gd} (hG : Ok G) : CodeOk G 181 177 := ⟨⟨_, _, _, _, _, _, _, _, _, hG.K _ _ rfl, rfl, rfl, rfl, rfl, rfl, rfl, rfl, rfl, by decide⟩, hG.bm⟩
noncomputable def intEntry (e : DictEntry) : Bool := match e.key with
  | .int k _ => e.hash == hashInt k
  | _ => false
theorem keysOf_int {prog : Program} {w : World} {es : Array DictEntry} (h : es.toList.all intEntry = true) : KeysOf (intKind prog w) es := fun e he => by
  have := List.all_eq_true.mp h e (by simpa using he)
  unfold intEntry at this
  split at this
  · rename_i k t hk
    exact ⟨k, by rw [hk]; exact isInt_self k t, beq_iff_eq.mp this⟩
  · cases this
theorem chars_ok {G : Gd} (hG : Ok G) : ∃ f, G.t.MapOf (intKind G.prog G.w) 165 f ∧ f 97 = none ∧ f 98 = none ∧ ∃ tk, f 46 = some (.str "\\." tk) := by
  refine ⟨_, ⟨_, _, _, hG.K 165 _ rfl, ⟨rfl, rfl, rfl⟩, rfl, ?_, fun k => rfl⟩, ?_, ?_, ?_⟩
  · exact keysOf_int rfl
  · rfl
  · rfl
  · exact ⟨_, rfl⟩
end PL
end
section
open PySem PySem.Calls PyProof.Rows PySem.W
set_option autoImplicit false
set_option linter.unusedVariables false
set_option maxRecDepth 100000
namespace PL
noncomputable abbrev TS : Addr := 154
noncomputable abbrev NI : Addr := 57
@[reducible] noncomputable def tsKV (d rd : AV) (po nf : Int) : List (Str × AV) := [(Str.ofString "_node2info", d), (Str.ofString "_ready_nodes", rd), (Str.ofString "_npassedout", .int po), (Str.ofString "_nfinished", .int nf)]
section
variable (P : Params)
theorem ts_makes : makesIn (KK P) TS = true := by rfl
theorem ts_init : findIn (KK P) (.ref TS) "__init__" = some (some (.ref 90)) := by rfl
theorem ts_initT : typeIn (KK P) (.ref 90) = some (.type "function") := by rfl
theorem ts_get (n : Str) : plainGet (KK P) TS n = true := by rfl
theorem ts_dict : hasDictIn (KK P) TS = true := by rfl
theorem ts_over : plainOver (KK P) TS = true := by rfl
theorem ts_sa : findIn (KK P) (.ref TS) "__setattr__" = some (some (.builtin "object.__setattr__")) := by rfl
theorem ts_nog : noGet (KK P) none = true := by rfl
theorem ts_a0 : findIn (KK P) (.ref TS) (Str.ofString "_node2info") = some none ∧ takerIn (KK P) TS (Str.ofString "_node2info") = some none := ⟨by rfl, by rfl⟩
theorem ts_a1 : findIn (KK P) (.ref TS) (Str.ofString "_ready_nodes") = some none ∧ takerIn (KK P) TS (Str.ofString "_ready_nodes") = some none := ⟨by rfl, by rfl⟩
theorem ts_a2 : findIn (KK P) (.ref TS) (Str.ofString "_npassedout") = some none ∧ takerIn (KK P) TS (Str.ofString "_npassedout") = some none := ⟨by rfl, by rfl⟩
theorem ts_a3 : findIn (KK P) (.ref TS) (Str.ofString "_nfinished") = some none ∧ takerIn (KK P) TS (Str.ofString "_nfinished") = some none := ⟨by rfl, by rfl⟩
theorem ni_makes : makesIn (KK P) NI = true := by rfl
theorem ni_init : findIn (KK P) (.ref NI) "__init__" = some (some (.ref 53)) := by rfl
theorem ni_initT : typeIn (KK P) (.ref 53) = some (.type "function") := by rfl
theorem ni_get (n : Str) : plainGet (KK P) NI n = true := by rfl
theorem ni_cls : isClsIn (KK P) NI = true := by rfl
theorem ni_over : plainOver (KK P) NI = true := by rfl
theorem ni_sa : findIn (KK P) (.ref NI) "__setattr__" = some (some (.builtin "object.__setattr__")) := by rfl
theorem ni_g (p : Addr) (h : p = 58 ∨ p = 59 ∨ p = 60) : specialIn (KK P) (.ref p) "__get__" = some (some (.builtin "member_descriptor.__get__")) ∧ takesIn (KK P) (.ref p) = some true ∧ typeIn (KK P) (.ref p) = some (.type "member_descriptor") := by
  rcases h with rfl | rfl | rfl <;> exact ⟨by rfl, by rfl, by rfl⟩
theorem ni_s0 : findIn (KK P) (.ref NI) (Str.ofString "node") = some (some (.ref 58)) ∧ takerIn (KK P) NI (Str.ofString "node") = some (some (.ref 58)) ∧ slotIn (KK P) 58 NI = some 0 := ⟨by rfl, by rfl, by rfl⟩
theorem ni_s1 : findIn (KK P) (.ref NI) (Str.ofString "npredecessors") = some (some (.ref 59)) ∧ takerIn (KK P) NI (Str.ofString "npredecessors") = some (some (.ref 59)) ∧ slotIn (KK P) 59 NI = some 1 := ⟨by rfl, by rfl, by rfl⟩
theorem ni_s2 : findIn (KK P) (.ref NI) (Str.ofString "successors") = some (some (.ref 60)) ∧ takerIn (KK P) NI (Str.ofString "successors") = some (some (.ref 60)) ∧ slotIn (KK P) 60 NI = some 2 := ⟨by rfl, by rfl, by rfl⟩
end
section
variable {G : Gd} {A : Around} {env : Env} {l l' : Led} {X : Xp} {R : AV → Led → Prop} {x dx : Addr} {d rd a : AV} {po nf : Int}
theorem tsG0 (hG : Ok G) (h1 : (x, .inst TS dx) ∈ l) (h2 : (dx, .idct (tsKV d rd po nf)) ∈ l) (hd : Handed d) (h : R d l) : GAt G A (Str.ofString "_node2info") (.ref x) l R X := GAt.own hG.K (ts_get _ _) (ts_dict _) (ts_a0 _).1 (ts_nog _) h1 h2 rfl hd h
theorem tsG1 (hG : Ok G) (h1 : (x, .inst TS dx) ∈ l) (h2 : (dx, .idct (tsKV d rd po nf)) ∈ l) (hd : Handed rd) (h : R rd l) : GAt G A (Str.ofString "_ready_nodes") (.ref x) l R X := GAt.own hG.K (ts_get _ _) (ts_dict _) (ts_a1 _).1 (ts_nog _) h1 h2 rfl hd h
theorem tsG2 (hG : Ok G) (h1 : (x, .inst TS dx) ∈ l) (h2 : (dx, .idct (tsKV d rd po nf)) ∈ l) (h : R (.int po) l) : GAt G A (Str.ofString "_npassedout") (.ref x) l R X := GAt.own hG.K (ts_get _ _) (ts_dict _) (ts_a2 _).1 (ts_nog _) h1 h2 rfl .int h
theorem tsG3 (hG : Ok G) (h1 : (x, .inst TS dx) ∈ l) (h2 : (dx, .idct (tsKV d rd po nf)) ∈ l) (h : R (.int nf) l) : GAt G A (Str.ofString "_nfinished") (.ref x) l R X := GAt.own hG.K (ts_get _ _) (ts_dict _) (ts_a3 _).1 (ts_nog _) h1 h2 rfl .int h
theorem tsSet {R : Led → Prop} {name : Str} {kvs kvs' : List (Str × AV)} (hG : Ok G) (ht : takerIn (KK G.w.params) TS name = some none) (h1 : (x, .inst TS dx) ∈ l) (h2 : Pick (dx, .idct kvs) l l') (e : putAV name a kvs = kvs') (hz : kvs.length ≤ 900) (h : R ((dx, .idct kvs') :: l')) : SAt G A name (.ref x) a l R X :=
  SAt.own hG.K (ts_sa _) (ts_over _) ht (ts_dict _) h1 h2 hz (e ▸ h)
theorem tsP1 (b : AV) : putAV (Str.ofString "_ready_nodes") b (tsKV d rd po nf) = tsKV d b po nf := by rfl
theorem tsP2 (i : Int) : putAV (Str.ofString "_npassedout") (.int i) (tsKV d rd po nf) = tsKV d rd i nf := by rfl
theorem tsP3 (i : Int) : putAV (Str.ofString "_nfinished") (.int i) (tsKV d rd po nf) = tsKV d rd po i := by rfl
theorem tsS1 {R : Led → Prop} {b : AV} (hG : Ok G) (h1 : (x, .inst TS dx) ∈ l) (h2 : Pick (dx, .idct (tsKV d rd po nf)) l l') (h : R ((dx, .idct (tsKV d b po nf)) :: l')) : SAt G A (Str.ofString "_ready_nodes") (.ref x) b l R X := tsSet hG (ts_a1 _).2 h1 h2 (tsP1 b) (by show 4 ≤ 900; decide) h
theorem tsS2 {R : Led → Prop} {i : Int} (hG : Ok G) (h1 : (x, .inst TS dx) ∈ l) (h2 : Pick (dx, .idct (tsKV d rd po nf)) l l') (h : R ((dx, .idct (tsKV d rd i nf)) :: l')) : SAt G A (Str.ofString "_npassedout") (.ref x) (.int i) l R X := tsSet hG (ts_a2 _).2 h1 h2 (tsP2 i) (by show 4 ≤ 900; decide) h
theorem tsS3 {R : Led → Prop} {i : Int} (hG : Ok G) (h1 : (x, .inst TS dx) ∈ l) (h2 : Pick (dx, .idct (tsKV d rd po nf)) l l') (h : R ((dx, .idct (tsKV d rd po i)) :: l')) : SAt G A (Str.ofString "_nfinished") (.ref x) (.int i) l R X := tsSet hG (ts_a3 _).2 h1 h2 (tsP3 i) (by show 4 ≤ 900; decide) h
theorem tsM {R : AV → List AV → Led → Prop} {name : Str} {f : Addr} {kvs : List (Str × AV)} (hG : Ok G) (hf : findIn (KK G.w.params) (.ref TS) name = some (some (.ref f))) (ht : typeIn (KK G.w.params) (.ref f) = some (.type "function")) (h1 : (x, .inst TS dx) ∈ l) (h2 : (dx, .idct kvs) ∈ l) (hl : kvs.lookup name = none) (h : R (.ref f) [.ref x] l) : GM G A name (.ref x) l R X :=
  GM.inst hG.K (ts_get _ _) hf ht h1 h2 hl h
theorem tsM_add {R : AV → List AV → Led → Prop} (hG : Ok G) (h1 : (x, .inst TS dx) ∈ l) (h2 : (dx, .idct (tsKV d rd po nf)) ∈ l) (h : R (.ref 104) [.ref x] l) : GM G A (Str.ofString "add") (.ref x) l R X := tsM hG rfl rfl h1 h2 rfl h
theorem tsM_info {R : AV → List AV → Led → Prop} (hG : Ok G) (h1 : (x, .inst TS dx) ∈ l) (h2 : (dx, .idct (tsKV d rd po nf)) ∈ l) (h : R (.ref 97) [.ref x] l) : GM G A (Str.ofString "_get_nodeinfo") (.ref x) l R X := tsM hG rfl rfl h1 h2 rfl h
theorem tsM_prep {R : AV → List AV → Led → Prop} (hG : Ok G) (h1 : (x, .inst TS dx) ∈ l) (h2 : (dx, .idct (tsKV d rd po nf)) ∈ l) (h : R (.ref 109) [.ref x] l) : GM G A (Str.ofString "prepare") (.ref x) l R X := tsM hG rfl rfl h1 h2 rfl h
theorem tsM_ready {R : AV → List AV → Led → Prop} (hG : Ok G) (h1 : (x, .inst TS dx) ∈ l) (h2 : (dx, .idct (tsKV d rd po nf)) ∈ l) (h : R (.ref 116) [.ref x] l) : GM G A (Str.ofString "get_ready") (.ref x) l R X := tsM hG rfl rfl h1 h2 rfl h
theorem tsM_done {R : AV → List AV → Led → Prop} (hG : Ok G) (h1 : (x, .inst TS dx) ∈ l) (h2 : (dx, .idct (tsKV d rd po nf)) ∈ l) (h : R (.ref 137) [.ref x] l) : GM G A (Str.ofString "done") (.ref x) l R X := tsM hG rfl rfl h1 h2 rfl h
theorem tsM_cyc {R : AV → List AV → Led → Prop} (hG : Ok G) (h1 : (x, .inst TS dx) ∈ l) (h2 : (dx, .idct (tsKV d rd po nf)) ∈ l) (h : R (.ref 144) [.ref x] l) : GM G A (Str.ofString "_find_cycle") (.ref x) l R X := tsM hG rfl rfl h1 h2 rfl h
theorem kept_k (hG : Ok G) (a : Addr) (h : keepIn (KK G.w.params) (.ref a) = true) : Kept G (.ref a) := ⟨fun v e hh hk => by
  cases e
  obtain ⟨k, h1, h2⟩ := looks_keep (M := model G.prog G.w) h (hG.K.keeps hk)
  exact ⟨k, h1.elim .inl (fun e => .inr (.inl e)), h2⟩⟩
theorem kept_NI (hG : Ok G) : Kept G (.ref NI) := kept_k hG NI (by rfl)
theorem kept_TS (hG : Ok G) : Kept G (.ref TS) := kept_k hG TS (by rfl)
/-! the node's record -/
variable {kvs : List (Str × AV)} {n s1 sl : AV} {np : Int}
theorem niG0 {vs : List (Option AV)} (hG : Ok G) (h1 : (x, .slots NI dx vs) ∈ l) (h2 : (dx, .idct kvs) ∈ l) (hl : vs[0]? = some (some a)) (hd : Handed a) (h : R a l) : GAt G A (Str.ofString "node") (.ref x) l R X :=
  GAt.slot hG.K (ni_get _ _) (ni_cls _) (ni_s0 _).1 (ni_g _ _ (by decide)).1 (ni_g _ _ (by decide)).2.1 (ni_s0 _).2.2 h1 h2 hl hd h
theorem niG1 {vs : List (Option AV)} (hG : Ok G) (h1 : (x, .slots NI dx vs) ∈ l) (h2 : (dx, .idct kvs) ∈ l) (hl : vs[1]? = some (some a)) (hd : Handed a) (h : R a l) : GAt G A (Str.ofString "npredecessors") (.ref x) l R X :=
  GAt.slot hG.K (ni_get _ _) (ni_cls _) (ni_s1 _).1 (ni_g _ _ (by decide)).1 (ni_g _ _ (by decide)).2.1 (ni_s1 _).2.2 h1 h2 hl hd h
theorem niG2 {vs : List (Option AV)} (hG : Ok G) (h1 : (x, .slots NI dx vs) ∈ l) (h2 : (dx, .idct kvs) ∈ l) (hl : vs[2]? = some (some a)) (hd : Handed a) (h : R a l) : GAt G A (Str.ofString "successors") (.ref x) l R X :=
  GAt.slot hG.K (ni_get _ _) (ni_cls _) (ni_s2 _).1 (ni_g _ _ (by decide)).1 (ni_g _ _ (by decide)).2.1 (ni_s2 _).2.2 h1 h2 hl hd h
theorem niS0 {R : Led → Prop} {vs vs2 : List (Option AV)} (hG : Ok G) (h1 : Pick (x, .slots NI dx vs) l l') (h2 : (dx, .idct kvs) ∈ l) (hv : (0 < vs.length ∧ vs2 = vs.set 0 (some a)) ∨ (0 = vs.length ∧ vs2 = vs ++ [some a])) (h : R ((x, .slots NI dx vs2) :: l')) : SAt G A (Str.ofString "node") (.ref x) a l R X :=
  SAt.slot hG.K (ni_sa _) (ni_over _) (ni_s0 _).2.1 (ni_g _ _ (by decide)).2.2 (ni_s0 _).2.2 (by decide) h1 h2 hv h
theorem niS1 {R : Led → Prop} {vs vs2 : List (Option AV)} (hG : Ok G) (h1 : Pick (x, .slots NI dx vs) l l') (h2 : (dx, .idct kvs) ∈ l) (hv : (1 < vs.length ∧ vs2 = vs.set 1 (some a)) ∨ (1 = vs.length ∧ vs2 = vs ++ [some a])) (h : R ((x, .slots NI dx vs2) :: l')) : SAt G A (Str.ofString "npredecessors") (.ref x) a l R X :=
  SAt.slot hG.K (ni_sa _) (ni_over _) (ni_s1 _).2.1 (ni_g _ _ (by decide)).2.2 (ni_s1 _).2.2 (by decide) h1 h2 hv h
theorem niS2 {R : Led → Prop} {vs vs2 : List (Option AV)} (hG : Ok G) (h1 : Pick (x, .slots NI dx vs) l l') (h2 : (dx, .idct kvs) ∈ l) (hv : (2 < vs.length ∧ vs2 = vs.set 2 (some a)) ∨ (2 = vs.length ∧ vs2 = vs ++ [some a])) (h : R ((x, .slots NI dx vs2) :: l')) : SAt G A (Str.ofString "successors") (.ref x) a l R X :=
  SAt.slot hG.K (ni_sa _) (ni_over _) (ni_s2 _).2.1 (ni_g _ _ (by decide)).2.2 (ni_s2 _).2.2 (by decide) h1 h2 hv h
end
end PL
end
section
open PySem PySem.Calls PyProof.Rows PySem.W
set_option autoImplicit false
set_option linter.unusedVariables false
set_option maxRecDepth 100000
set_option maxHeartbeats 0
namespace PL
local macro_rules | `(tactic| keq_rows) => wR wS "Pick.head Pick.tail"
local macro_rules | `(tactic| keq_hits) => wR wS "Look.here Look.there"
local macro_rules | `(tactic| kat_tups) => wR wS "Put.here Put.there"
local macro_rules | `(tactic| kct_strs) => wR wS "LookT.here LookT.there"
local macro_rules | `(tactic| lcg_sub) => wR wS "Zip.nil Zip.cons"
local macro_rules | `(tactic| lcg_off) => wR wS "VLe.nil VLe.same VLe.less"
local macro_rules | `(tactic| lcg_src) => wQ wB "AOle.refl AOle.ns:lcg_off AOle.cell" " "
local macro_rules | `(tactic| tlg_ne) => wR wB "Sub.refl Sub.nil Sub.cons:keq_rows:lcg_src Sub.skip"
local macro_rules | `(tactic| kba_ints) => wR wB "BKind.nil BKind.loc:kct_strs BKind.cel:kct_strs"
local macro_rules | `(tactic| lsm_bools) => wR wB "Init.nil Init.loc:kct_strs Init.skip"
local macro_rules | `(tactic| kbo_bools) => wR wB "CInit.nil CInit.val:kct_strs CInit.skip"
local macro_rules | `(tactic| kas_types) => wR wS "Mem.h Mem.t"
local macro_rules | `(tactic| tb_rel) => wQ wG "EE!EE.loc:a:keq_rows:keq_hits EE.cel:a:kct_strs:kct_strs:keq_rows EE.fre:a:kct_strs:kct_strs:keq_rows EE.glob:a:a:kct_strs:kct_strs EE.int EE.sub EE.binop EE.callU EE.mcall EE.str EE.cmp EE.attr EE.negc EE.none EE.bool EE.not EE.ifexp EE.and2 EE.or2 EE.walrus' EE.list EE.tuple;BB!BB.cons BB.nil;Then!Then.next Then.brk Then.cont Then.ret;StN!StN.loc:a:keq_rows:kat_tups StN.cel:a:kct_strs:kct_strs:keq_rows;SS!SS.assign SS.expr/a SS.ret SS.brk SS.cont SS.setitem SS.setattr SS.augattr;Op2!Op2.add Op2.sub Op2.lt Op2.gt Op2.le Op2.ge Op2.eq Op2.ne Op2.seq Op2.sne Op2.slt Op2.iadd Op2.isub;EA!EA.ex EA.nl;//=Kept.builtin //=Kept.type //k /=Kept.builtin /=Kept.type /k;TT!TT.cmp TT.not TT.and TT.or TT.val;Truth.bool Truth.none Truth.int SubOp.str SubOp.list/keq_rows;Tr!AT.and AT.or AT.nilAnd AT.nilOr;GM.list/=bm_append/keq_rows GM.list/=bm_pop/keq_rows GM.list/=bm_clear/keq_rows GM.sset/=bm_sadd/keq_rows GM.sdict/=bm_dget/keq_rows GM.sdict/=bm_dvalues/keq_rows GM.str/=bm_find GM.str/=bm_join GM.str/=bm_replace GM.str/=bm_translate;Asg.name HL.brk/a HL.ret/a HF.brk/a HF.ret/a HJ.ret/a HJ.brk/a HJ.cont/a HL.els/a" ";"
local macro_rules | `(tactic| kpc_turns) => `(tactic| repeat tb_rel)

section
variable {G : Gd} {A : Around} {l l' : Led} {X : Xp} {R : AV → Led → Prop}
theorem cc_siftdown (hG : Ok G) {n : Nat} (hr : Room A (n + 1)) {p : Addr} {xs : List Str} {pos : Nat} {new : Str} (hp : Pick (p, .list (xs.map .str)) l l') (hz : xs.length < 1000000) (hpos : pos < xs.length) (hnew : xs[pos]? = some new) (hI : HP.SInv HP.slt xs pos)
    (h : ∀ ys, ys.Perm xs → HP.Heap HP.slt ys → R .none ((p, .list (ys.map .str)) :: l')) : CC G A (.ref 203) [.ref p, .int 0, .int pos] l R X := by
  refine CC.pick hp ?_
  refine CC.def0 (fn_siftdown hG) hr [Str.ofString "heap", Str.ofString "startpos", Str.ofString "pos"] (by lcg_sub) ⟨rfl, rfl, rfl, rfl, rfl, rfl, by decide⟩ rfl (by kba_ints) (by lsm_bools) (by kbo_bools) fun L env A' hE hr' hx => ?_
  refine BB.cons ?_
  kpc_turns
  refine Get.strs (.tail .head) hz hnew ?_
  kpc_turns
  refine SS.joinH (fun K => ∃ (ys : List Str) (m : Nat), ys.length = xs.length ∧ m < xs.length ∧ (ys.set m new).Perm xs ∧ HP.Heap HP.slt (ys.set m new) ∧
    K = (L, .ns nm_siftdown [some (.ref p), some (.int 0), some (.int (m : Int)), some (.str new), none, none]) :: (p, .list (ys.map .str)) :: l') (fun JJ1 hJ1 => ?_) ?_
  · refine SS.whileH pos (fun m K => ∃ ys : List Str, ys.length = xs.length ∧ m < xs.length ∧ (ys.set m new).Perm xs ∧ HP.SInv HP.slt (ys.set m new) m ∧
      K = (L, .ns nm_siftdown [some (.ref p), some (.int 0), some (.int (m : Int)), some (.str new), none, none]) :: (p, .list (ys.map .str)) :: l') ?_ (fun KK1 EE1 hL1 => ?_)
    · exact (PL.m1_4 xs rfl hpos (by rw [set_same hnew]) (by rw [set_same hnew]; exact hI) rfl)
    · (rintro m _; refine PL.j1_4 ?_; rintro ys hlen hm hperm hI rfl)
      kpc_turns
      refine ⟨fun hb => ?_, fun hb => ?_⟩
      · have h0 : 0 < m := by simpa using hb
        have hpar : (m - 1) / 2 < ys.length := by lia
        have hp' : ys[(m - 1) / 2]? = some ys[(m - 1) / 2] := List.getElem?_eq_getElem hpar
        kpc_turns
        refine Op2.shr (by decide) ?_
        rewrite [show ((m : Int) - 1).fdiv (2 ^ (1 : Int).toNat) = ((m - 1) / 2 : Nat) from by
          rw [show (2 : Int) ^ (1 : Int).toNat = 2 from rfl, Int.fdiv_eq_ediv_of_nonneg _ (by decide)]; lia]
        kpc_turns
        refine Get.strs (by keq_rows) (by lia) hp' ?_
        kpc_turns
        refine SS.if ?_
        kpc_turns
        refine ⟨fun hb => ?_, fun hb => ?_⟩
        · kpc_turns
          refine SetI.strs (by keq_rows) (by lia) (by lia) ?_
          kpc_turns
          refine hL1.cont (m := (m - 1) / 2) (PL.m1_4 (ys.set m ys[(m - 1) / 2]) (by simpa using hlen) (by lia) ((HP.perm_swap hp' (by lia) (by lia)).trans hperm) (HP.SInv.step HP.slt_ord hI h0 (by lia) hp' hb) rfl) (by lia) (by tlg_ne)
        · kpc_turns
          refine hJ1.next (PL.m2_4 ys m hlen hm hperm (HP.SInv.done hI ?_) rfl) (by tlg_ne)
          rw [List.getElem?_set_ne (by lia), hp', List.getElem?_set_self (by lia)]
          exact hb
      · have h0 : m = 0 := by have : ¬ (0 : Int) < m := by simpa using hb
                              lia
        subst h0
        kpc_turns
        exact hJ1.next (PL.m2_4 ys 0 hlen hm hperm (HP.SInv.done0 hI) rfl) (by tlg_ne)
  · (rintro _; refine PL.j2_4 ?_; rintro ys m hlen hm hperm hH rfl)
    kpc_turns
    refine SetI.strs (by keq_rows) (by lia) (by lia) ?_
    kpc_turns
    exact (PL.m1_1 _ (by tlg_ne) (h _ hperm hH))
end
section
variable {G : Gd} {A : Around} {l l' : Led} {X : Xp} {R : AV → Led → Prop}
theorem cc_siftup (hG : Ok G) (hg : GlobOk G gtab) {n : Nat} (hr : Room A (n + 2)) {p : Addr} {xs : List Str} {new : Str} (hp : Pick (p, .list (xs.map .str)) l l') (hz : xs.length < 100000) (hnew : xs[0]? = some new) (hI : HP.UInv HP.slt xs 0)
    (h : ∀ ys, ys.Perm xs → HP.Heap HP.slt ys → R .none ((p, .list (ys.map .str)) :: l')) : CC G A (.ref 210) [.ref p, .int 0] l R X := by
  have hpos : 0 < xs.length := by
    cases xs with
    | nil => simp at hnew
    | cons => simp
  refine CC.pick hp ?_
  refine CC.def0 (fn_siftup hG) hr [Str.ofString "heap", Str.ofString "pos"] (by lcg_sub) ⟨rfl, rfl, rfl, rfl, rfl, rfl, by decide⟩ rfl (by kba_ints) (by lsm_bools) (by kbo_bools) fun L env A' hE hr' hx => ?_
  refine BB.cons ?_
  kpc_turns
  refine CC.lens (by keq_rows) (by lia) ?_
  kpc_turns
  refine Get.strs (by keq_rows) (by lia) (k := 0) hnew ?_
  kpc_turns
  refine Op2.mul (by decide) (by decide) ?_
  kpc_turns
  refine SS.joinH (fun K => ∃ (ys : List Str) (m : Nat), ys.length = xs.length ∧ m < xs.length ∧ (ys.set m new).Perm xs ∧ HP.SInv HP.slt (ys.set m new) m ∧
    K = (L, .ns nm_siftup [some (.ref p), some (.int (m : Int)), none, some (.int 0), some (.str new), none, none, none, none]) :: (p, .list (ys.map .str)) :: l') (fun JJ1 hJ1 => ?_) ?_
  · refine SS.whileH xs.length (fun k K => ∃ (ys : List Str) (m : Nat), k + m = xs.length ∧ ys.length = xs.length ∧ m < xs.length ∧ (ys.set m new).Perm xs ∧ HP.UInv HP.slt ys m ∧
      K = (L, .ns nm_siftup [some (.ref p), some (.int (m : Int)), some (.int (xs.length : Int)), some (.int 0), some (.str new), some (.int (2 * (m : Int) + 1)), none, none, none]) :: (p, .list (ys.map .str)) :: l') ?_ (fun KK1 EE1 hL1 => ?_)
    · exact (PL.m2_5 xs 0 (by lia) rfl hpos (by rw [set_same hnew]) hI rfl)
    · (rintro k _; refine PL.j2_5 ?_; rintro ys m hk hlen hm hperm hI rfl)
      kpc_turns
      refine ⟨fun hb => ?_, fun hb => ?_⟩
      · have h0 : 2 * (m : Int) + 1 < xs.length := by simpa using hb
        have hc1 : ys[2 * m + 1]? = some ys[2 * m + 1] := List.getElem?_eq_getElem (by lia)
        kpc_turns
        refine SS.joinH (fun K => ∃ (ci : Int) (c : Nat) (b : Str), ci = c ∧ m < c ∧ c < xs.length ∧ (c - 1) / 2 = m ∧ ys[c]? = some b ∧ (∀ i, 0 < i → (i - 1) / 2 = m → HP.leO HP.slt (some b) ys[i]?) ∧
          K = (L, .ns nm_siftup [some (.ref p), some (.int (m : Int)), some (.int (xs.length : Int)), some (.int 0), some (.str new), some (.int ci), none, none, none]) :: (p, .list (ys.map .str)) :: l') (fun JJ2 hJ2 => ?_) ?_
        · refine SS.if ?_
          kpc_turns
          refine ⟨fun hr1 => ?_, fun hr1 => ?_⟩
          · have hr1' : 2 * (m : Int) + 1 + 1 < xs.length := by simpa using hr1
            have hc2 : ys[2 * m + 2]? = some ys[2 * m + 2] := List.getElem?_eq_getElem (by lia)
            kpc_turns
            refine Get.strs (k := 2 * m + 1) (by keq_rows) (by lia) hc1 ?_
            kpc_turns
            refine Get.strs (k := 2 * m + 2) (by keq_rows) (by lia) hc2 ?_
            kpc_turns
            refine ⟨fun hb2 => ?_, fun hb2 => ?_⟩
            · kpc_turns
              refine brT (by decide) ?_
              kpc_turns
              refine hJ2.next (PL.m3_6 (2 * (m : Int) + 1 + 1) (2 * m + 2) (ys[2 * m + 2]) (by lia) (by lia) (by lia) (by lia) hc2 (fun i hi hpar => ?_) rfl) (by tlg_ne)
              have hle : HP.slt ys[2 * m + 1] ys[2 * m + 2] = false := by simpa [HP.slt] using hb2
              rcases (by lia : i = 2 * m + 1 ∨ i = 2 * m + 2) with rfl | rfl
              · rw [hc1]; exact hle
              · rw [hc2]; exact HP.leO.refl HP.slt_ord (some _)
            · refine brF (by decide) ?_
              kpc_turns
              refine hJ2.next (PL.m3_6 (2 * (m : Int) + 1) (2 * m + 1) (ys[2 * m + 1]) (by lia) (by lia) (by lia) (by lia) hc1 (fun i hi hpar => ?_) rfl) (by tlg_ne)
              have hle : HP.slt ys[2 * m + 1] ys[2 * m + 2] = true := by simpa [HP.slt] using hb2
              rcases (by lia : i = 2 * m + 1 ∨ i = 2 * m + 2) with rfl | rfl
              · rw [hc1]; exact HP.leO.refl HP.slt_ord (some _)
              · rw [hc2]; exact HP.slt_ord.asymm _ _ hle
          · refine brF (by decide) ?_
            kpc_turns
            refine hJ2.next (PL.m3_6 (2 * (m : Int) + 1) (2 * m + 1) (ys[2 * m + 1]) (by lia) (by lia) (by lia) (by lia) hc1 (fun i hi hpar => ?_) rfl) (by tlg_ne)
            have hr1' : ¬ 2 * (m : Int) + 1 + 1 < xs.length := by simpa using hr1
            rcases (by lia : i = 2 * m + 1 ∨ i = 2 * m + 2) with rfl | rfl
            · rw [hc1]; exact HP.leO.refl HP.slt_ord (some _)
            · rw [List.getElem?_eq_none (by lia)]; exact HP.leO.noneR
        · (rintro _; refine PL.j3_6 ?_; rintro _ c b rfl hmc hcl hcm hcb hmin rfl)
          kpc_turns
          refine Get.strs (by keq_rows) (by lia) hcb ?_
          kpc_turns
          refine SetI.strs (by keq_rows) (by lia) (by lia) ?_
          kpc_turns
          refine Op2.mul (by decide) (by decide) ?_
          kpc_turns
          exact hL1.next (m := xs.length - c) (PL.m2_5 (ys.set m b) c (by lia) (by simpa using hlen) hcl ((HP.perm_swap hcb (by lia) (by (exact Nat.ne_of_lt hmc))).trans hperm) (hI.step (by lia) hcm (by lia) hcb hmin) rfl) (by lia) (by tlg_ne)
      · have h0 : (xs.length : Int) ≤ 2 * (m : Int) + 1 := by simpa using hb
        kpc_turns
        refine hJ1.next (PL.m2_4 ys m hlen hm hperm (hI.done (by lia) (by lia)) rfl) (by tlg_ne)
  · (rintro _; refine PL.j2_4 ?_; rintro ys m hlen hm hperm hI rfl)
    kpc_turns
    refine SetI.strs (by keq_rows) (by lia) (by lia) ?_
    kpc_turns
    refine cc_siftdown hG hr' (by keq_rows) (by simp; lia) (by simp; lia) (List.getElem?_set_self (by lia)) hI fun zs hz hH => ?_
    kpc_turns
    exact (PL.m1_1 _ (by tlg_ne) (h _ (hz.trans hperm) hH))
end
section
variable {G : Gd} {A : Around} {l l' : Led} {X : Xp} {R : AV → Led → Prop}
theorem cc_heappush (hG : Ok G) (hg : GlobOk G gtab) {n : Nat} (hr : Room A (n + 2)) {p : Addr} {xs : List Str} {x : Str} (hp : Pick (p, .list (xs.map .str)) l l') (hz : xs.length < 100000) (hH : HP.Heap HP.slt xs)
    (h : ∀ ys, ys.Perm (xs ++ [x]) → HP.Heap HP.slt ys → R .none ((p, .list (ys.map .str)) :: l')) : CC G A (.ref 189) [.ref p, .str x] l R X := by
  refine CC.pick hp ?_
  refine CC.def0 (fn_heappush hG) hr [Str.ofString "heap", Str.ofString "item"] (by lcg_sub) ⟨rfl, rfl, rfl, rfl, rfl, rfl, by decide⟩ rfl (by kba_ints) (by lsm_bools) (by kbo_bools) fun L env A' hE hr' hx => ?_
  refine BB.cons ?_
  kpc_turns
  refine CC.appends (by keq_rows) (by lia) ?_
  kpc_turns
  refine CC.lens (by keq_rows) (by simp; lia) ?_
  kpc_turns
  rewrite [show (((xs ++ [x]).length : Nat) : Int) - 1 = (xs.length : Nat) from by simp]
  refine cc_siftdown hG hr' (by keq_rows) (by simp; lia) (by simp) (new := x) (by simp) (HP.SInv.push hH) fun ys hy hH' => ?_
  kpc_turns
  exact (PL.m1_1 _ (by tlg_ne) (h _ hy hH'))
theorem cc_heappop (hG : Ok G) (hg : GlobOk G gtab) {n : Nat} (hr : Room A (n + 3)) {p : Addr} {xs : List Str} (hp : Pick (p, .list (xs.map .str)) l l') (hz : xs.length < 100000) (hH : HP.Heap HP.slt xs) (hne : xs ≠ [])
    (h : ∀ m ys, (m :: ys).Perm xs → (∀ b ∈ xs, HP.slt b m = false) → HP.Heap HP.slt ys → R (.str m) ((p, .list (ys.map .str)) :: l')) : CC G A (.ref 196) [.ref p] l R X := by
  refine CC.pick hp ?_
  refine CC.def0 (fn_heappop hG) hr [Str.ofString "heap"] (by lcg_sub) ⟨rfl, rfl, rfl, rfl, rfl, rfl, by decide⟩ rfl (by kba_ints) (by lsm_bools) (by kbo_bools) fun L env A' hE hr' hx => ?_
  obtain ⟨ini, last, rfl⟩ : ∃ ini last, xs = ini ++ [last] := (PL.m2_0 xs.dropLast (xs.getLast hne) ((List.dropLast_concat_getLast hne).symm))
  have hl : ini.length + 1 < 100000 := by simpa using hz
  refine BB.cons ?_
  kpc_turns
  refine CC.pops (by keq_rows) (by lia) ?_
  kpc_turns
  refine SS.if ?_
  kpc_turns
  refine Truth.lists (by keq_rows) (by lia) ?_
  cases ini with
  | nil =>
    refine brF (by decide) ?_
    kpc_turns
    exact (PL.m1_1 _ (by tlg_ne) (h last [] (by simp) (fun b hb => HP.Heap.min HP.slt_ord hH hb) HP.Heap.nil))
  | cons r rest =>
    refine brT (by simp) ?_
    have hmin : ∀ b ∈ r :: rest ++ [last], HP.slt b r = false := fun b hb => HP.Heap.min HP.slt_ord (g := rest ++ [last]) hH hb
    kpc_turns
    refine Get.strs (k := 0) (by keq_rows) (by lia) (by simp; rfl) ?_
    kpc_turns
    refine SetI.strs (k := 0) (by keq_rows) (by lia) (by simp) ?_
    kpc_turns
    refine cc_siftup hG ‹_› hr' (by keq_rows) (by simp at hl ⊢; lia) (new := last) (by simp) (HP.UInv.start hH) fun ys hy hH' => ?_
    kpc_turns
    refine (PL.m1_1 _ (by tlg_ne) (h r ys (((hy.trans ?_).cons r)) hmin hH'))
    show (last :: rest).Perm (rest ++ [last])
    exact List.perm_append_comm (l₁ := [last]) (l₂ := rest)
end
section
variable {G : Gd} {A : Around} {l l' : Led} {X : Xp} {R : AV → Led → Prop}
theorem cc_escape (hG : Ok G) (hg : GlobOk G gtab) {n : Nat} (hr : Room A (n + 1)) {c : Nat} (hc : c = 97 ∨ c = 98 ∨ c = 46) (h : R (.str (escOf c)) l) : CC G A (.ref 175) [.str ⟨#[c]⟩] l R X := by
  refine CC.def0 (fn_escape hG) hr [Str.ofString "pattern"] (by lcg_sub) ⟨rfl, rfl, rfl, rfl, rfl, rfl, by decide⟩ rfl (by kba_ints) (by lsm_bools) (by kbo_bools) fun L env A' hE hr' hx => ?_
  obtain ⟨f, hm, f1, f2, tk, f3⟩ := chars_ok hG
  refine BB.cons ?_
  refine SS.if ?_
  kpc_turns
  refine CC.isstr ?_
  kpc_turns
  refine brT (by decide) ?_
  kpc_turns
  rcases hc with rfl | rfl | rfl
  · refine CC.tr_miss hr' (by decide) hm f1 (by decide) ?_
    kpc_turns
    exact (PL.m1_1 _ (by tlg_ne) h)
  · refine CC.tr_miss hr' (by decide) hm f2 (by decide) ?_
    kpc_turns
    exact (PL.m1_1 _ (by tlg_ne) h)
  · refine CC.tr_text hm f3 (by decide) (by decide) (by decide) ?_
    kpc_turns
    exact (PL.m1_1 _ (by tlg_ne) h)
end
section
variable {G : Gd} {A : Around} {l l' : Led} {X : Xp} {R : AV → Led → Prop}
theorem cc_translate (hG : Ok G) (hg : GlobOk G gtab) {n : Nat} (hr : Room A (n + 2)) {star : Addr} {P : Str} {out : List Prt} (hp : Pick (177, .tab) l l') (hz : P.length ≤ 100) (hrun : truns P P.length 0 [] = some out)
    (h : ∀ r, R (.ref r) ((r, .list (out.map (prtAV star))) :: (177, .tab) :: l')) : CC G A (.ref 182) [.str P, .ref star, .str "."] l R X := by
  refine CC.pick hp ?_
  refine CC.def0 (fn_translate hG) hr [Str.ofString "pat", Str.ofString "STAR", Str.ofString "QUESTION_MARK"] (by lcg_sub) ⟨rfl, rfl, rfl, rfl, rfl, rfl, by decide⟩ rfl (by kba_ints) (by lsm_bools) (by kbo_bools) fun L env A' hE hr' hx => ?_
  refine BB.cons ?_
  kpc_turns
  refine ⟨by decide, fun r => ?_⟩
  kpc_turns
  kpc_turns
  refine GAt.append (by keq_rows) fun b => ?_
  kpc_turns
  refine SS.swap2 hr' hE (by kct_strs) (by kct_strs) ?_
  kpc_turns
  refine CC.len_str (by lia) ?_
  kpc_turns
  refine ⟨by simp, fun t => (PL.m4_2 _ _ _ _ rfl (by keq_rows) ?_)⟩
  kpc_turns
  refine SS.joinH (fun K => K = (L, .ns nm_translate [some (.str P), some (.ref star), some (.str (Str.ofString ".")), some (.ref r), some (.ref b), some (.int (P.length : Int)), some (.int (P.length : Int)), none, none, none, none, none, none, none, none, none, none]) :: (r, .list (out.map (prtAV star))) :: (177, .tab) :: l') (fun JJ1 hJ1 => ?_) ?_
  · refine SS.whileH P.length (fun k K => ∃ (ii : Int) (i : Nat) (res : List Prt), ii = i ∧ truns P k i res = some out ∧ i ≤ P.length ∧ res.length ≤ i ∧
      K = (L, .ns nm_translate [some (.str P), some (.ref star), some (.str (Str.ofString ".")), some (.ref r), some (.ref b), some (.int ii), some (.int (P.length : Int)), none, none, none, none, none, none, none, none, none, none]) :: (b, .raw (boundAppend r)) :: (r, .list (res.map (prtAV star))) :: (177, .tab) :: l') ?_ (fun KK1 EE1 hL1 => ?_)
    · exact (PL.m3_4 0 0 ([]) rfl hrun (by lia) (by simp) rfl)
    · (rintro k _; refine PL.j3_4 ?_; rintro _ i res rfl hk hi hres rfl)
      kpc_turns
      refine ⟨fun hb => ?_, fun hb => ?_⟩
      · have hlt : i < P.length := by have : (i : Int) < P.length := by simpa using hb
                                      lia
        obtain ⟨f, rfl⟩ : ∃ f, k = f + 1 := by
          cases k with
          | zero => rw [truns, if_neg (by lia)] at hk; cases hk
          | succ f => exact ⟨f, rfl⟩
        rw [truns, if_neg (by lia), Option.bind_eq_some_iff] at hk
        (revert hk; refine PL.j1_1 ?_; rintro ⟨i', r'⟩ hs hk')
        obtain ⟨c, hc⟩ : ∃ c, P.cps[i]? = some c := ⟨_, Array.getElem?_eq_getElem hlt⟩
        kpc_turns
        refine Get.str (by lia) (by lia) (getItem_at hc) ?_
        kpc_turns
        refine SS.if ?_
        kpc_turns
        rcases tstep_cases hs hc with ⟨rfl, hl, rfl, rfl⟩ | ⟨rfl, rfl, rfl⟩ | ⟨rfl, a, b', st, ha, hb1, hd, ha93, hb93, hst, rfl, rfl⟩ | ⟨hcc, rfl, rfl⟩
        · refine brT (by decide) ?_
          refine BB.cons ?_
          refine SS.if ?_
          kpc_turns
          rcases hl with rfl | ⟨ini, s, rfl⟩
          · refine Truth.list (by keq_rows) (by simp) ?_
            refine brF (by simp) ?_
            refine brT (by decide) ?_
            kpc_turns
            refine Or.inr (PL.m3_3 b (boundAppend r) _ rfl rfl rfl ?_)
            kpc_turns
            refine ⟨⟨_, by keq_rows⟩, ?_⟩
            refine CC.badd (x := none) (by keq_rows) (by keq_rows) (by lia) ?_
            kpc_turns
            exact hL1.next (m := f) (PL.m3_4 ((i : Int) + 1) (i + 1) _ (by lia) hk' (by assumption) (by simp <;> omega) rfl) (by lia) (by tlg_ne)
          · simp at hres
            refine Truth.list (by keq_rows) (by simp; lia) ?_
            refine brT (by simp) ?_
            kpc_turns
            refine Get.lastP (by keq_rows) (xs := ini.map (prtAV star)) (a := .str s) (by rw [List.map_append]; rfl) (by rw [List.length_map]; lia) ?_
            kpc_turns
            refine Op2.isnotStrRef ?_
            kpc_turns
            refine brF (by decide) ?_
            refine brT (by decide) ?_
            kpc_turns
            refine Or.inr (PL.m3_3 b (boundAppend r) _ rfl rfl rfl ?_)
            kpc_turns
            refine ⟨⟨_, by keq_rows⟩, ?_⟩
            refine CC.badd (x := none) (by keq_rows) (by keq_rows) (by simp; lia) ?_
            kpc_turns
            exact hL1.next (m := f) (PL.m3_4 ((i : Int) + 1) (i + 1) _ (by lia) hk' (by assumption) (by simp <;> omega) rfl) (by lia) (by tlg_ne)
        · refine brF (by decide) ?_
          refine BB.cons ?_
          refine SS.if ?_
          kpc_turns
          refine brT (by decide) ?_
          kpc_turns
          refine Or.inr (PL.m3_3 b (boundAppend r) _ rfl rfl rfl ?_)
          kpc_turns
          refine ⟨⟨_, by keq_rows⟩, ?_⟩
          refine CC.badd (x := some (Str.ofString ".")) (by keq_rows) (by keq_rows) (by lia) ?_
          kpc_turns
          exact hL1.next (m := f) (PL.m3_4 ((i : Int) + 1) (i + 1) _ (by lia) hk' (by assumption) (by simp <;> omega) rfl) (by lia) (by tlg_ne)
        · refine brF (by decide) ?_
          refine BB.cons ?_
          refine SS.if ?_
          kpc_turns
          refine brF (by decide) ?_
          refine BB.cons ?_
          refine SS.if ?_
          kpc_turns
          refine brT (by decide) ?_
          have hlen := cps_lt hd
          have hsl : Txt.slice P (some ((i : Int) + 1)) (some ((i : Int) + 3)) = ⟨#[a, b']⟩ := by
            have := slice_two (i := i + 1) ha hb1 hd
            rw [show ((i + 1 : Nat) : Int) = (i : Int) + 1 by lia, show (i : Int) + 1 + 2 = (i : Int) + 3 by lia] at this
            exact this
          kpc_turns
          refine SS.joinH (fun K => ∃ (ji : Int) (j : Nat), ji = j ∧ i + 1 ≤ j ∧ j ≤ i + 2 ∧
            K = (L, .ns nm_translate [some (.str P), some (.ref star), some (.str (Str.ofString ".")), some (.ref r), some (.ref b), some (.int ((i : Int) + 1)), some (.int (P.length : Int)), none, some (.int ji), none, none, none, none, none, none, none, none]) :: (b, .raw (boundAppend r)) :: (r, .list (res.map (prtAV star))) :: (177, .tab) :: l') (fun JJ2 hJ2 => ?_) ?_
          · refine SS.if ?_
            kpc_turns
            refine brT (by simp; lia) ?_
            kpc_turns
            refine Get.str (c := a) (by lia) (by lia) (by rw [show (i : Int) + 1 = ((i + 1 : Nat) : Int) by lia]; exact getItem_at ha) ?_
            kpc_turns
            refine ⟨fun _ => ?_, fun _ => ?_⟩
            · kpc_turns
              refine brT (by decide) ?_
              kpc_turns
              exact hJ2.next (PL.m2_3 ((i : Int) + 1 + 1) (i + 2) (by lia) (by lia) (by lia) rfl) (by tlg_ne)
            · refine brF (by decide) ?_
              kpc_turns
              exact hJ2.next (PL.m2_3 ((i : Int) + 1) (i + 1) (by lia) (by lia) (by lia) rfl) (by tlg_ne)
          · (rintro _; refine PL.j2_3 ?_; rintro _ j rfl hj1 hj2 rfl)
            obtain ⟨cj, hcj, hcj93⟩ : ∃ cj, P.cps[j]? = some cj ∧ cj ≠ 93 := by
              rcases (by lia : j = i + 1 ∨ j = i + 2) with rfl | rfl
              · exact (PL.m1_1 a ha ha93)
              · exact (PL.m1_1 b' hb1 hb93)
            have hne : (({ cps := #[cj] } : Str) == Str.ofString "]") = false := beq_eq_false_iff_ne.mpr fun e => hcj93 (by have : (⟨#[cj]⟩ : Str) = ⟨#[93]⟩ := e; simpa using this)
            kpc_turns
            refine SS.joinH (fun K => K = (L, .ns nm_translate [some (.str P), some (.ref star), some (.str (Str.ofString ".")), some (.ref r), some (.ref b), some (.int ((i : Int) + 1)), some (.int (P.length : Int)), none, some (.int (j : Int)), none, none, none, none, none, none, none, none]) :: (b, .raw (boundAppend r)) :: (r, .list (res.map (prtAV star))) :: (177, .tab) :: l') (fun JJ3 hJ3 => ?_) ?_
            · refine SS.if ?_
              kpc_turns
              refine brT (by simp; lia) ?_
              kpc_turns
              refine Get.str (by lia) (by lia) (getItem_at hcj) ?_
              kpc_turns
              refine brF (by rw [hne]; decide) ?_
              refine brF (by decide) ?_
              kpc_turns
              exact hJ3.next rfl (by tlg_ne)
            · rintro _ rfl
              kpc_turns
              refine SS.joinH (fun K => K = (L, .ns nm_translate [some (.str P), some (.ref star), some (.str (Str.ofString ".")), some (.ref r), some (.ref b), some (.int ((i : Int) + 1)), some (.int (P.length : Int)), none, some (.int ((i : Int) + 3)), none, none, none, none, none, none, none, none]) :: (b, .raw (boundAppend r)) :: (r, .list (res.map (prtAV star))) :: (177, .tab) :: l') (fun JJ4 hJ4 => ?_) ?_
              · refine SS.whileH (i + 3 - j) (fun m K => ∃ (qi : Int) (q : Nat), qi = q ∧ m + q = i + 3 ∧ i + 1 ≤ q ∧
                  K = (L, .ns nm_translate [some (.str P), some (.ref star), some (.str (Str.ofString ".")), some (.ref r), some (.ref b), some (.int ((i : Int) + 1)), some (.int (P.length : Int)), none, some (.int qi), none, none, none, none, none, none, none, none]) :: (b, .raw (boundAppend r)) :: (r, .list (res.map (prtAV star))) :: (177, .tab) :: l') ?_ (fun KK2 EE2 hL2 => ?_)
                · exact (PL.m2_3 ((j : Int)) j rfl (by lia) hj1 rfl)
                · (rintro m _; refine PL.j2_3 ?_; rintro _ q rfl hq hq1 rfl)
                  kpc_turns
                  refine brT (by simp; lia) ?_
                  kpc_turns
                  by_cases hq3 : q = i + 3
                  · subst hq3
                    rewrite [show ((i + 3 : Nat) : Int) = (i : Int) + 3 by lia]
                    refine Get.str (by lia) (by lia) (by rw [show (i : Int) + 3 = ((i + 3 : Nat) : Int) by lia]; exact getItem_at hd) ?_
                    kpc_turns
                    refine brF (by decide) ?_
                    refine brF (by decide) ?_
                    kpc_turns
                    exact hJ4.next rfl (by tlg_ne)
                  · obtain ⟨cq, hcq, hcq93⟩ : ∃ cq, P.cps[q]? = some cq ∧ cq ≠ 93 := by
                      rcases (by lia : q = i + 1 ∨ q = i + 2) with rfl | rfl
                      · exact (PL.m1_1 a ha ha93)
                      · exact (PL.m1_1 b' hb1 hb93)
                    have hne : (({ cps := #[cq] } : Str) != Str.ofString "]") = true := bne_iff_ne.mpr fun e => hcq93 (by have : (⟨#[cq]⟩ : Str) = ⟨#[93]⟩ := e; simpa using this)
                    refine Get.str (by lia) (by lia) (getItem_at hcq) ?_
                    kpc_turns
                    refine brT (by rw [hne]; decide) ?_
                    kpc_turns
                    refine brT (by decide) ?_
                    kpc_turns
                    exact hL2.next (m := m - 1) (PL.m2_3 ((q : Int) + 1) (q + 1) (by lia) (by lia) (by lia) rfl) (by lia) (by tlg_ne)
              · rintro _ rfl
                kpc_turns
                refine SS.if ?_
                kpc_turns
                refine brF (by simp; lia) ?_
                refine BB.cons ?_
                refine SS.assign ?_
                kpc_turns
                refine EE.slice ?_
                refine EPt.yes ?_
                kpc_turns
                refine EPt.yes ?_
                kpc_turns
                intro sl
                refine SubOp.str ?_
                refine Get.strSlice (by keq_rows) .int .int (by lia) ?_
                rewrite [hsl]
                rcases br_cases hst with ⟨rfl, rfl, rfl⟩ | ⟨rfl, rfl, rfl⟩ | ⟨rfl, rfl, rfl⟩
                · kpc_turns
                  refine SS.if ?_
                  kpc_turns
                  refine Op2.notinText ?_
                  kpc_turns
                  refine brT (by decide +kernel) ?_
                  kpc_turns
                  refine CC.replace0 (by decide +kernel) ?_
                  kpc_turns
                  refine GM.sub (sub_ok hG) ?_
                  kpc_turns
                  refine EE.lambda hE (hx.code.trans rfl) (code_ok hG) (by keq_rows) fun lam => ?_
                  kpc_turns
                  refine CC.resub (sub_ok hG) (by keq_rows) nf1 (by decide) (by decide) ?_
                  kpc_turns
                  refine SS.if ?_
                  kpc_turns
                  refine Truth.str (by decide) ?_
                  refine brF (by decide) ?_
                  refine BB.cons ?_
                  refine SS.if ?_
                  kpc_turns
                  refine brF (by decide) ?_
                  refine BB.cons ?_
                  refine SS.if ?_
                  kpc_turns
                  refine Get.str (c := 33) (by decide) (by decide) (by decide) ?_
                  kpc_turns
                  refine brT (by decide) ?_
                  kpc_turns
                  refine EE.slice ?_
                  refine EPt.yes ?_
                  kpc_turns
                  refine EPt.no ?_
                  intro sl2
                  refine SubOp.str ?_
                  refine Get.strSlice (by keq_rows) .int .none (by decide) ?_
                  kpc_turns
                  refine Op2.sadd (by decide) ?_
                  kpc_turns
                  refine Or.inr (PL.m3_3 b (boundAppend r) _ rfl rfl rfl ?_)
                  kpc_turns
                  refine EE.joined ?_
                  refine JP.cons ?_
                  kpc_turns
                  refine (PL.m1_2 _ rfl (by decide) ?_)
                  refine JP.cons ?_
                  refine EE.fmt ?_
                  kpc_turns
                  refine (PL.m1_2 _ rfl (by decide) ?_)
                  refine (PL.m1_2 _ rfl (by decide) ?_)
                  refine JP.cons ?_
                  kpc_turns
                  refine (PL.m1_2 _ rfl (by decide) ?_)
                  refine JP.nil (by decide) ?_
                  kpc_turns
                  refine ⟨⟨_, by keq_rows⟩, ?_⟩
                  refine CC.arg1 (congrArg AV.str (show _ = Str.ofString "[^a]" by decide)) ?_
                  refine CC.badd (x := some (Str.ofString "[^a]")) (by keq_rows) (by keq_rows) (by lia) ?_
                  kpc_turns
                  exact hL1.next (m := f) (PL.m3_4 ((i : Int) + 3 + 1) (i + 4) _ (by lia) hk' (by assumption) (by simp <;> lia) rfl) (by lia) (by tlg_ne)
                · kpc_turns
                  refine SS.if ?_
                  kpc_turns
                  refine Op2.notinText ?_
                  kpc_turns
                  refine brT (by decide +kernel) ?_
                  kpc_turns
                  refine CC.replace0 (by decide +kernel) ?_
                  kpc_turns
                  refine GM.sub (sub_ok hG) ?_
                  kpc_turns
                  refine EE.lambda hE (hx.code.trans rfl) (code_ok hG) (by keq_rows) fun lam => ?_
                  kpc_turns
                  refine CC.resub (sub_ok hG) (by keq_rows) nf3 (by decide) (by decide) ?_
                  kpc_turns
                  refine SS.if ?_
                  kpc_turns
                  refine Truth.str (by decide) ?_
                  refine brF (by decide) ?_
                  refine BB.cons ?_
                  refine SS.if ?_
                  kpc_turns
                  refine brF (by decide) ?_
                  refine BB.cons ?_
                  refine SS.if ?_
                  kpc_turns
                  refine Get.str (c := 33) (by decide) (by decide) (by decide) ?_
                  kpc_turns
                  refine brT (by decide) ?_
                  kpc_turns
                  refine EE.slice ?_
                  refine EPt.yes ?_
                  kpc_turns
                  refine EPt.no ?_
                  intro sl2
                  refine SubOp.str ?_
                  refine Get.strSlice (by keq_rows) .int .none (by decide) ?_
                  kpc_turns
                  refine Op2.sadd (by decide) ?_
                  kpc_turns
                  refine Or.inr (PL.m3_3 b (boundAppend r) _ rfl rfl rfl ?_)
                  kpc_turns
                  refine EE.joined ?_
                  refine JP.cons ?_
                  kpc_turns
                  refine (PL.m1_2 _ rfl (by decide) ?_)
                  refine JP.cons ?_
                  refine EE.fmt ?_
                  kpc_turns
                  refine (PL.m1_2 _ rfl (by decide) ?_)
                  refine (PL.m1_2 _ rfl (by decide) ?_)
                  refine JP.cons ?_
                  kpc_turns
                  refine (PL.m1_2 _ rfl (by decide) ?_)
                  refine JP.nil (by decide) ?_
                  kpc_turns
                  refine ⟨⟨_, by keq_rows⟩, ?_⟩
                  refine CC.arg1 (congrArg AV.str (show _ = Str.ofString "[^b]" by decide)) ?_
                  refine CC.badd (x := some (Str.ofString "[^b]")) (by keq_rows) (by keq_rows) (by lia) ?_
                  kpc_turns
                  exact hL1.next (m := f) (PL.m3_4 ((i : Int) + 3 + 1) (i + 4) _ (by lia) hk' (by assumption) (by simp <;> lia) rfl) (by lia) (by tlg_ne)
                · kpc_turns
                  refine SS.if ?_
                  kpc_turns
                  refine Op2.notinText ?_
                  kpc_turns
                  refine brT (by decide +kernel) ?_
                  kpc_turns
                  refine CC.replace0 (by decide +kernel) ?_
                  kpc_turns
                  refine GM.sub (sub_ok hG) ?_
                  kpc_turns
                  refine EE.lambda hE (hx.code.trans rfl) (code_ok hG) (by keq_rows) fun lam => ?_
                  kpc_turns
                  refine CC.resub (sub_ok hG) (by keq_rows) nf2 (by decide) (by decide) ?_
                  kpc_turns
                  refine SS.if ?_
                  kpc_turns
                  refine Truth.str (by decide) ?_
                  refine brF (by decide) ?_
                  refine BB.cons ?_
                  refine SS.if ?_
                  kpc_turns
                  refine brF (by decide) ?_
                  refine BB.cons ?_
                  refine SS.if ?_
                  kpc_turns
                  refine Get.str (c := 97) (by decide) (by decide) (by decide) ?_
                  kpc_turns
                  refine brF (by decide) ?_
                  refine BB.cons ?_
                  refine SS.if ?_
                  kpc_turns
                  refine Get.str (c := 97) (by decide) (by decide) (by decide) ?_
                  kpc_turns
                  refine ⟨by decide, fun tp => ?_⟩
                  refine Op2.inDataT hr' (.tuple (.head _) (.cons .str (.cons .str .nil))) .str (by decide +kernel) (by decide +kernel) (by decide +kernel) ?_
                  kpc_turns
                  refine brF (by decide +kernel) ?_
                  kpc_turns
                  refine Or.inr (PL.m3_3 b (boundAppend r) _ rfl rfl rfl ?_)
                  kpc_turns
                  refine EE.joined ?_
                  refine JP.cons ?_
                  kpc_turns
                  refine (PL.m1_2 _ rfl (by decide) ?_)
                  refine JP.cons ?_
                  refine EE.fmt ?_
                  kpc_turns
                  refine (PL.m1_2 _ rfl (by decide) ?_)
                  refine (PL.m1_2 _ rfl (by decide) ?_)
                  refine JP.cons ?_
                  kpc_turns
                  refine (PL.m1_2 _ rfl (by decide) ?_)
                  refine JP.nil (by decide) ?_
                  kpc_turns
                  refine ⟨⟨_, by keq_rows⟩, ?_⟩
                  refine CC.arg1 (congrArg AV.str (show _ = Str.ofString "[ab]" by decide)) ?_
                  refine CC.badd (x := some (Str.ofString "[ab]")) (by keq_rows) (by keq_rows) (by lia) ?_
                  kpc_turns
                  exact hL1.next (m := f) (PL.m3_4 ((i : Int) + 3 + 1) (i + 4) _ (by lia) hk' (by assumption) (by simp <;> lia) rfl) (by lia) (by tlg_ne)
        · have hc1 : (({ cps := #[c] } : Str) == Str.ofString "*") = false := by rcases hcc with rfl | rfl | rfl <;> decide
          have hc2 : (({ cps := #[c] } : Str) == Str.ofString "?") = false := by rcases hcc with rfl | rfl | rfl <;> decide
          have hc3 : (({ cps := #[c] } : Str) == Str.ofString "[") = false := by rcases hcc with rfl | rfl | rfl <;> decide
          refine brF (by rw [hc1]; decide) ?_
          refine BB.cons ?_
          refine SS.if ?_
          kpc_turns
          refine brF (by rw [hc2]; decide) ?_
          refine BB.cons ?_
          refine SS.if ?_
          kpc_turns
          refine brF (by rw [hc3]; decide) ?_
          kpc_turns
          refine Or.inr (PL.m3_3 b (boundAppend r) _ rfl rfl rfl ?_)
          kpc_turns
          refine cc_escape hG hg hr' hcc ?_
          kpc_turns
          refine ⟨⟨_, by keq_rows⟩, ?_⟩
          refine CC.badd (x := some (escOf c)) (by keq_rows) (by keq_rows) (by lia) ?_
          kpc_turns
          exact hL1.next (m := f) (PL.m3_4 ((i : Int) + 1) (i + 1) _ (by lia) hk' (by assumption) (by simp <;> omega) rfl) (by lia) (by tlg_ne)
      · have e : i = P.length := by
          have : ¬ (i : Int) < P.length := by simpa using hb
          lia
        subst e
        have : res = out := by
          cases k <;> simpa [truns] using hk
        subst this
        kpc_turns
        exact hJ1.next rfl (by tlg_ne)
  · rintro _ rfl
    kpc_turns
    refine SS.assert ?_
    kpc_turns
    refine ⟨by simp, ?_⟩
    kpc_turns
    exact (PL.m1_1 _ (by tlg_ne) (h r))
end
section
variable {G : Gd} {A : Around} {l l' : Led} {X : Xp} {R : AV → Led → Prop}
theorem ck_niinit (hG : Ok G) {n : Nat} (hr : Room A (n + 1)) {a dx : Addr} {node : Str} (h : ∀ sl, R .none ((a, .slots NI dx [some (.str node), some (.int 0), some (.ref sl)]) :: (sl, .list []) :: (dx, .idct []) :: l)) : CK G A (.ref 53) [.ref a, .str node] ((a, .inst NI dx) :: (dx, .idct []) :: l) R X := by
  refine CK.defB (bs := [(Str.ofString "self", .ref a), (Str.ofString "node", .str node)]) (fn_NI___init__ hG) hr (binds_plain (xs := [Str.ofString "self", Str.ofString "node"]) (by lcg_sub) ⟨rfl, rfl, rfl, rfl, rfl, rfl, by decide⟩) rfl (show ([Str.ofString "self", Str.ofString "node"] : List Str).Nodup by decide) (by kba_ints) (by lsm_bools) fun L env A' hE hr' hx => ?_
  refine BB.sub (.keep (.cons .head AOle.slots0 (.refl _))) ?_
  refine BB.cons ?_
  kpc_turns
  refine niS0 (vs2 := [some (.str node)]) hG (by keq_rows) (by kas_types) (.inr ⟨rfl, rfl⟩) ?_
  kpc_turns
  refine niS1 (vs2 := [some (.str node), some (.int 0)]) hG (by keq_rows) (by kas_types) (.inr ⟨rfl, rfl⟩) ?_
  kpc_turns
  refine ⟨by decide, fun sl => ?_⟩
  kpc_turns
  refine niS2 (vs2 := [some (.str node), some (.int 0), some (.ref sl)]) hG (by keq_rows) (by kas_types) (.inr ⟨rfl, rfl⟩) ?_
  kpc_turns
  exact (PL.m1_1 _ (by tlg_ne) (h sl))
end
section
variable {G : Gd} {A : Around} {l l' : Led} {X : Xp} {R : AV → Led → Prop} {x dx d : Addr} {ep : Nat} {g : List NR} {rd : AV} {po nf : Int}
theorem cc_info (hG : Ok G) (hg : GlobOk G gtab) {n : Nat} (hr : Room A (n + 3)) {node : Str} (hz : g.length < 1000)
    (h : ∀ pre r post ep', r.nd.name = node → abs (pre ++ r :: post) = getN (abs g) node → R (.ref r.a) ((x, .inst TS dx) :: (dx, .idct (tsKV (.ref d) rd po nf)) :: (d, .sdict (nsKV (pre ++ r :: post)) ep') :: (nsLed NI (pre ++ r :: post) ++ l))) :
    CC G A (.ref 97) [.ref x, .str node] ((x, .inst TS dx) :: (dx, .idct (tsKV (.ref d) rd po nf)) :: (d, .sdict (nsKV g) ep) :: (nsLed NI g ++ l)) R X := by
  refine CC.def0 (fn_TS__get_nodeinfo hG) hr [Str.ofString "self", Str.ofString "node"] (by lcg_sub) ⟨rfl, rfl, rfl, rfl, rfl, rfl, by decide⟩ rfl (by kba_ints) (by lsm_bools) (by kbo_bools) fun L env A' hE hr' hx => ?_
  refine BB.cons ?_
  refine SS.if ?_
  kpc_turns
  refine tsG0 hG (by kas_types) (by kas_types) .ref ?_
  kpc_turns
  by_cases hn : node ∈ names (abs g)
  · (refine PL.x3_1 (names_split hn) ?_; rintro pre r post rfl rfl)
    refine CC.dget (by keq_rows) (nsKV_mem (r := r) (by simp)) ?_
    kpc_turns
    refine Op2.isNoneRef ?_
    kpc_turns
    refine brF (by decide) ?_
    kpc_turns
    refine (PL.m1_1 _ (by tlg_ne) (h pre r post ep rfl ?_))
    unfold getN
    rw [if_pos hn]
  · refine CC.dget0 (by keq_rows) (by rw [nsKV_names]; exact hn) ?_
    kpc_turns
    refine Op2.isNoneNone ?_
    kpc_turns
    refine brT (by decide) ?_
    refine BB.cons ?_
    refine SS.assign2 ?_
    kpc_turns
    refine Or.inl ⟨kept_NI hG, ?_⟩
    kpc_turns
    refine CC.make hG.K hr' (ni_makes _) (ni_init _) (ni_initT _) fun a dx2 A2 hr2 => ?_
    refine ck_niinit hG hr2 fun sl => ⟨rfl, ?_⟩
    refine Asg.sub ?_
    kpc_turns
    refine tsG0 hG (by kas_types) (by kas_types) .ref ?_
    kpc_turns
    refine SetI.sdict (by keq_rows) (by simp [nsKV]; lia) fun ep' => ?_
    kpc_turns
    have e1 : storedAV (nsKV g) node (.ref a) = nsKV (g ++ [⟨⟨node, 0, []⟩, a, dx2, sl⟩]) := by
      unfold storedAV
      rw [if_neg (by rw [nsKV_names]; exact hn)]
      simp [nsKV]
    rewrite [e1]
    have hc := ns_close (NI := NI) (pre := g) (r := ⟨⟨node, 0, []⟩, a, dx2, sl⟩) (post := []) (l := l)
    rewrite [List.append_nil] at hc
    dsimp only [nrS, nrL, nrD] at hc
    rewrite [show List.map AV.str [] = [] from rfl] at hc
    refine (PL.m1_1 _ (Sub.trans (.keep (.keep (.keep hc))) (by tlg_ne)) (h g ⟨⟨node, 0, []⟩, a, dx2, sl⟩ [] ep' rfl ?_))
    unfold getN
    rw [if_neg hn]
    simp [abs]
theorem cc_infoF (fr : Led) (hG : Ok G) (hg : GlobOk G gtab) {n : Nat} (hr : Room A (n + 3)) {node : Str} (hz : g.length < 1000)
    (h : ∀ pre r post ep', r.nd.name = node → abs (pre ++ r :: post) = getN (abs g) node → R (.ref r.a) (fr ++ ((x, .inst TS dx) :: (dx, .idct (tsKV (.ref d) rd po nf)) :: (d, .sdict (nsKV (pre ++ r :: post)) ep') :: (nsLed NI (pre ++ r :: post) ++ l)))) :
    CC G A (.ref 97) [.ref x, .str node] (fr ++ ((x, .inst TS dx) :: (dx, .idct (tsKV (.ref d) rd po nf)) :: (d, .sdict (nsKV g) ep) :: (nsLed NI g ++ l))) R X :=
  CC.post (CC.sub fr_in (cc_info hG hg hr hz fun pre r post ep' h1 h2 => (PL.m1_1 _ fr_out (h pre r post ep' h1 h2))))
end
section
variable {G : Gd} {A : Around} {l l' : Led} {X : Xp} {R : AV → Led → Prop} {x dx d : Addr} {ep : Nat} {g : List NR} {po nf : Int}
theorem ck_add (hG : Ok G) (hg : GlobOk G gtab) {n : Nat} (hr : Room A (n + 4)) {node : Str} {ps : List Str} {m : Nat} (hz : g.length + ps.length < 900) (hm : m + ps.length < 900) (hsb : SB (abs g) m) (hnd : (names (abs g)).Nodup)
    (h : ∀ g' ep', abs g' = addS (abs g) node ps → R .none ((x, .inst TS dx) :: (dx, .idct (tsKV (.ref d) .none po nf)) :: (d, .sdict (nsKV g') ep') :: (nsLed NI g' ++ l))) :
    CK G A (.ref 104) ([.ref x, .str node] ++ ps.map .str) ((x, .inst TS dx) :: (dx, .idct (tsKV (.ref d) .none po nf)) :: (d, .sdict (nsKV g) ep) :: (nsLed NI g ++ l)) R X := by
  refine CK.defV (fn_TS_add hG) hr [Str.ofString "self", Str.ofString "node"] _ (vals := fun t => [some (.ref x), some (.str node), some (.ref t), none, none, none, none, none]) (by lcg_sub) ⟨rfl, rfl, rfl, rfl, rfl, rfl, by decide⟩ rfl (by simp; lia) rfl (by decide) (fun t => by show BKind _ [(Str.ofString "self", _), (Str.ofString "node", _), (Str.ofString "predecessors", _)]; kba_ints) (fun t => by show Init [(Str.ofString "self", _), (Str.ofString "node", _), (Str.ofString "predecessors", _)] _ _; lsm_bools) fun t L env A' hE hr' hx => ?_
  refine BB.cons ?_
  refine SS.if ?_
  kpc_turns
  refine tsG1 hG (by kas_types) (by kas_types) .none ?_
  kpc_turns
  refine Op2.isnotNoneNone ?_
  kpc_turns
  refine brF (by decide) ?_
  kpc_turns
  refine tsM_info hG (by kas_types) (by kas_types) ?_
  kpc_turns
  refine cc_infoF [(L, .ns nm_TS_add [some (.ref x), some (.str node), some (.ref t), none, none, none, none, none]), (t, .tuple (ps.map .str))] hG hg hr' (by lia) fun pre r post ep' hrn habs => ?_
  subst hrn
  have hnd1 : (names (abs (pre ++ r :: post))).Nodup := by rw [habs]; exact nodup_get hnd
  have hlen1 : (pre ++ r :: post).length ≤ g.length + 1 := by
    have := len_get (abs g) r.nd.name
    rw [← habs] at this
    simpa [abs] using this
  have hsb1 : SB (abs (pre ++ r :: post)) m := by rw [habs]; exact hsb.get _
  dsimp only [List.cons_append, List.nil_append]
  kpc_turns
  refine GAt.sub (.keep (.keep (.keep (.keep (.keep ns_open))))) ?_
  refine niG1 hG (by kas_types) (by kas_types) rfl .int ?_
  kpc_turns
  refine CC.len_tuple (by kas_types) (by simp; lia) ?_
  rewrite [List.length_map]
  kpc_turns
  refine niS1 (vs2 := [some (.str r.nd.name), some (.int (r.nd.np + ps.length)), some (.ref r.sl)]) hG (by keq_rows) (by kas_types) (.inl ⟨by simp, rfl⟩) ?_
  kpc_turns
  have habs1 : abs (pre ++ ⟨⟨r.nd.name, r.nd.np + ps.length, r.nd.succ⟩, r.a, r.dx, r.sl⟩ :: post) = updN (getN (abs g) r.nd.name) r.nd.name fun n => { n with np := n.np + ps.length } := by
    rw [← habs]; exact (upd_abs hnd1 fun n => { n with np := n.np + ps.length }).symm
  refine SS.forH ?_
  kpc_turns
  refine iter_tuple (by keq_rows) fun it => ?_
  refine ⟨ps.length, _, _, _, _, _, (L, .ns nm_TS_add [some (.ref x), some (.str r.nd.name), some (.ref t), some (.ref r.a), none, none, none, none]) :: (x, .inst TS dx) :: (dx, .idct (tsKV (.ref d) .none po nf)) :: (d, .sdict (nsKV (pre ++ ⟨⟨r.nd.name, r.nd.np + ps.length, r.nd.succ⟩, r.a, r.dx, r.sl⟩ :: post)) ep') :: (nsLed NI (pre ++ ⟨⟨r.nd.name, r.nd.np + ps.length, r.nd.succ⟩, r.a, r.dx, r.sl⟩ :: post) ++ l), by
    have := walk_tuple (G := G) (A := A') (it := it) (p := t) (xs := ps.map .str) hr'.h
    rw [List.length_map] at this
    exact this, trivial, ?_, fun k K => ∃ g' ep', g'.length ≤ g.length + 1 + k ∧ SB (abs g') (m + k) ∧ (names (abs g')).Nodup ∧ abs g' = (ps.take k).foldl (addE r.nd.name) (updN (getN (abs g) r.nd.name) r.nd.name fun n => { n with np := n.np + ps.length }) ∧
      K = (L, .ns nm_TS_add [some (.ref x), some (.str r.nd.name), some (.ref t), some (.ref r.a), none, none, none, none]) :: (x, .inst TS dx) :: (dx, .idct (tsKV (.ref d) .none po nf)) :: (d, .sdict (nsKV g') ep') :: (nsLed NI g' ++ l), ?_, ?_, ?_⟩
  · rw [nsKV_upd (pre := pre) (post := post) (r := r) (r' := ⟨⟨r.nd.name, r.nd.np + ps.length, r.nd.succ⟩, r.a, r.dx, r.sl⟩) rfl rfl]
    refine Sub.trans (.keep (.keep (.keep (.keep (.keep (.keep ns_close)))))) ?_
    dsimp only [nrS, nrL, nrD, List.cons_append, List.nil_append]
    tlg_ne
  · refine (PL.m2_4 _ ep' (by simpa using hlen1) ?_ ?_ (by simpa using habs1) rfl)
    · rw [habs1]
      exact (hsb.get _).upd _ _ (Nat.le_refl _) fun n hn => hn
    · rw [habs1, names_upd _ _ (fun n => { n with np := n.np + ps.length }) fun _ => rfl]; exact nodup_get hnd
  · (rintro FF1 hF1 k _ _ K hk ⟨hpk, rfl⟩; refine PL.j2_4 ?_; rintro g' ep2 hl2 hsb2 hnd2 habs2 rfl)
    rw [List.getElem?_map, Option.map_eq_some_iff] at hpk
    (revert hpk; refine PL.j1_1 ?_; rintro pred hpk rfl)
    have hkp : k < ps.length := by
      rcases Nat.lt_or_ge k ps.length with q | q
      · exact q
      · rw [List.getElem?_eq_none q] at hpk; cases hpk
    dsimp only [List.cons_append, List.nil_append]
    kpc_turns
    refine tsM_info hG (by kas_types) (by kas_types) ?_
    kpc_turns
    refine cc_infoF [(L, .ns nm_TS_add [some (.ref x), some (.str r.nd.name), some (.ref t), some (.ref r.a), some (.str pred), none, none, none]), (it, .tupiter t (k + 1)), (t, .tuple (ps.map .str))] hG hg hr' (by lia) fun pre2 r2 post2 ep3 hrn3 habs3 => ?_
    subst hrn3
    have hnd3 : (names (abs (pre2 ++ r2 :: post2))).Nodup := by rw [habs3]; exact nodup_get hnd2
    have hsb3 : SB (abs (pre2 ++ r2 :: post2)) (m + k) := by rw [habs3]; exact hsb2.get _
    have hr3 : r2.nd.succ.length ≤ m + k := hsb3 r2.nd (by simp [abs])
    have hlen3 : (pre2 ++ r2 :: post2).length ≤ g.length + 1 + k + 1 := by
      have := len_get (abs g') r2.nd.name
      rw [← habs3] at this
      have h2 : (abs g').length = g'.length := by simp [abs]
      have h3 : (abs (pre2 ++ r2 :: post2)).length = (pre2 ++ r2 :: post2).length := by simp [abs]
      lia
    dsimp only [List.cons_append, List.nil_append]
    kpc_turns
    refine GAt.sub (.keep (.keep (.keep (.keep (.keep (.keep ns_open)))))) ?_
    refine niG2 hG (by kas_types) (by kas_types) rfl .ref ?_
    kpc_turns
    refine CC.appends (by keq_rows) (by lia) ?_
    kpc_turns
    have habs4 : abs (pre2 ++ ⟨⟨r2.nd.name, r2.nd.np, r2.nd.succ ++ [r.nd.name]⟩, r2.a, r2.dx, r2.sl⟩ :: post2) = addE r.nd.name (abs g') r2.nd.name := by
      unfold addE
      rw [← habs3]; exact (upd_abs hnd3 fun n => { n with succ := n.succ ++ [r.nd.name] }).symm
    refine hF1.next (L := (L, .ns nm_TS_add [some (.ref x), some (.str r.nd.name), some (.ref t), some (.ref r.a), none, none, none, none]) :: (x, .inst TS dx) :: (dx, .idct (tsKV (.ref d) .none po nf)) :: (d, .sdict (nsKV (pre2 ++ ⟨⟨r2.nd.name, r2.nd.np, r2.nd.succ ++ [r.nd.name]⟩, r2.a, r2.dx, r2.sl⟩ :: post2)) ep3) :: (nsLed NI (pre2 ++ ⟨⟨r2.nd.name, r2.nd.np, r2.nd.succ ++ [r.nd.name]⟩, r2.a, r2.dx, r2.sl⟩ :: post2) ++ l)) (PL.m2_4 _ ep3 ?_ ?_ ?_ ?_ rfl) ?_
    · simp only [List.length_append, List.length_cons] at hlen3 ⊢; omega
    · rw [habs4]; exact (hsb2.addE _ _)
    · rw [habs4]; exact nodup_addE hnd2
    · rw [habs4, habs2, foldl_take _ _ hpk]
    · rw [nsKV_upd (pre := pre2) (post := post2) (r := r2) (r' := ⟨⟨r2.nd.name, r2.nd.np, r2.nd.succ ++ [r.nd.name]⟩, r2.a, r2.dx, r2.sl⟩) rfl rfl]
      refine Sub.trans (.keep (.keep (.keep (.keep (.keep (.keep ns_close)))))) ?_
      dsimp only [nrS, nrL, nrD, List.cons_append, List.nil_append]
      tlg_ne
  · (rintro K; refine PL.j2_4 ?_; rintro g' ep2 hl2 hsb2 hnd2 habs2 rfl)
    dsimp only [List.cons_append, List.nil_append]
    kpc_turns
    refine (PL.m1_1 _ (by tlg_ne) (h g' ep2 ?_))
    rw [habs2, List.take_length]
    rfl
theorem ck_addF (fr : Led) (hG : Ok G) (hg : GlobOk G gtab) {n : Nat} (hr : Room A (n + 4)) {node : Str} {ps : List Str} {m : Nat} (hz : g.length + ps.length < 900) (hm : m + ps.length < 900) (hsb : SB (abs g) m) (hnd : (names (abs g)).Nodup)
    (h : ∀ g' ep', abs g' = addS (abs g) node ps → R .none (fr ++ ((x, .inst TS dx) :: (dx, .idct (tsKV (.ref d) .none po nf)) :: (d, .sdict (nsKV g') ep') :: (nsLed NI g' ++ l)))) :
    CK G A (.ref 104) ([.ref x, .str node] ++ ps.map .str) (fr ++ ((x, .inst TS dx) :: (dx, .idct (tsKV (.ref d) .none po nf)) :: (d, .sdict (nsKV g) ep) :: (nsLed NI g ++ l))) R X :=
  CK.post (CK.sub fr_in (ck_add hG hg hr hz hm hsb hnd fun g' ep' h1 => (PL.m1_1 _ fr_out (h g' ep' h1))))
end
section
variable {G : Gd} {A : Around} {l l' : Led} {X : Xp} {R : AV → Led → Prop} {x dx d q : Addr} {ep : Nat} {g : List NR} {po nf : Int}
theorem cc_ready (hG : Ok G) (hg : GlobOk G gtab) {n : Nat} (hr : Room A (n + 1)) {ys : List Str} (hz : ys.length < 900) (hnd : (names (abs g)).Nodup) (hin : ∀ y ∈ ys, y ∈ names (abs g))
    (h : ∀ t g', abs g' = outS (abs g) ys → nsKV g' = nsKV g → R (.ref t) ((t, .tuple (ys.map .str)) :: (q, .list []) :: (x, .inst TS dx) :: (dx, .idct (tsKV (.ref d) (.ref q) (po + ys.length) nf)) :: (d, .sdict (nsKV g') ep) :: (nsLed NI g' ++ l))) :
    CC G A (.ref 116) [.ref x] ((q, .list (ys.map .str)) :: (x, .inst TS dx) :: (dx, .idct (tsKV (.ref d) (.ref q) po nf)) :: (d, .sdict (nsKV g) ep) :: (nsLed NI g ++ l)) R X := by
  refine CC.def0 (fn_TS_get_ready hG) hr [Str.ofString "self"] (by lcg_sub) ⟨rfl, rfl, rfl, rfl, rfl, rfl, by decide⟩ rfl (by kba_ints) (by lsm_bools) (by kbo_bools) fun L env A' hE hr' hx => ?_
  refine BB.cons ?_
  refine SS.if ?_
  kpc_turns
  refine tsG1 hG (by kas_types) (by kas_types) .ref ?_
  kpc_turns
  refine Op2.isNoneRef ?_
  kpc_turns
  refine brF (by decide) ?_
  kpc_turns
  refine tsG1 hG (by kas_types) (by kas_types) .ref ?_
  kpc_turns
  refine CC.tupleOf (by keq_rows) (by simp; lia) fun t => ?_
  kpc_turns
  refine tsG0 hG (by kas_types) (by kas_types) .ref ?_
  kpc_turns
  refine SS.forH ?_
  kpc_turns
  refine iter_tuple (by keq_rows) fun it => ?_
  refine ⟨ys.length, _, _, _, _, _, (L, .ns nm_TS_get_ready [some (.ref x), some (.ref t), some (.ref d), none, none, none, none, none]) :: (q, .list (ys.map .str)) :: (x, .inst TS dx) :: (dx, .idct (tsKV (.ref d) (.ref q) po nf)) :: (d, .sdict (nsKV g) ep) :: (nsLed NI g ++ l), by
    have := walk_tuple (G := G) (A := A') (it := it) (p := t) (xs := ys.map .str) hr'.h
    rw [List.length_map] at this
    exact this, trivial, ?_, fun k K => ∃ g', abs g' = outS (abs g) (ys.take k) ∧ nsKV g' = nsKV g ∧
      K = (L, .ns nm_TS_get_ready [some (.ref x), some (.ref t), some (.ref d), none, none, none, none, none]) :: (q, .list (ys.map .str)) :: (x, .inst TS dx) :: (dx, .idct (tsKV (.ref d) (.ref q) po nf)) :: (d, .sdict (nsKV g') ep) :: (nsLed NI g' ++ l), ?_, ?_, ?_⟩
  · dsimp only [List.cons_append, List.nil_append]
    tlg_ne
  · exact (PL.m1_2 g rfl rfl rfl)
  · (rintro FF1 hF1 k _ _ K hk ⟨hpk, rfl⟩; refine PL.j1_2 ?_; rintro g' habs hkv rfl)
    rw [List.getElem?_map, Option.map_eq_some_iff] at hpk
    (revert hpk; refine PL.j1_1 ?_; rintro y hpk rfl)
    have hnm : names (abs g') = names (abs g) := by rw [← nsKV_names, hkv, nsKV_names]
    (refine PL.x3_1 (names_split (g := g') (x := y) (by rw [hnm]; exact hin y (List.mem_of_getElem? hpk))) ?_; rintro pre r post rfl rfl)
    dsimp only [List.cons_append, List.nil_append]
    kpc_turns
    refine SubOp.sdict (by keq_rows) ?_
    refine Get.sdict (by keq_rows) (nsKV_mem (r := r) (by simp)) ?_
    refine SAt.sub (.keep (.keep (.keep (.keep (.keep (.keep (.keep ns_open))))))) ?_
    refine niS1 (vs2 := [some (.str r.nd.name), some (.int (-1)), some (.ref r.sl)]) hG (by keq_rows) (by kas_types) (.inl ⟨by simp, rfl⟩) ?_
    kpc_turns
    refine hF1.next (L := (L, .ns nm_TS_get_ready [some (.ref x), some (.ref t), some (.ref d), none, none, none, none, none]) :: (q, .list (ys.map .str)) :: (x, .inst TS dx) :: (dx, .idct (tsKV (.ref d) (.ref q) po nf)) :: (d, .sdict (nsKV (pre ++ ⟨⟨r.nd.name, -1, r.nd.succ⟩, r.a, r.dx, r.sl⟩ :: post)) ep) :: (nsLed NI (pre ++ ⟨⟨r.nd.name, -1, r.nd.succ⟩, r.a, r.dx, r.sl⟩ :: post) ++ l)) (PL.m1_2 _ ?_ ?_ rfl) ?_
    · unfold outS
      rw [foldl_take _ _ hpk]
      refine Eq.trans ?_ (congrArg (fun g => updN g r.nd.name fun n => { n with np := -1 }) habs)
      exact (upd_abs (by rw [hnm]; exact hnd) fun n => { n with np := -1 }).symm
    · rw [← hkv]; exact nsKV_upd rfl rfl
    · rw [nsKV_upd (pre := pre) (post := post) (r := r) (r' := ⟨⟨r.nd.name, -1, r.nd.succ⟩, r.a, r.dx, r.sl⟩) rfl rfl]
      refine Sub.trans (.keep (.keep (.keep (.keep (.keep (.keep (.keep ns_close))))))) ?_
      dsimp only [nrS, nrL, nrD, List.cons_append, List.nil_append]
      tlg_ne
  · (rintro K; refine PL.j1_2 ?_; rintro g' habs hkv rfl)
    dsimp only [List.cons_append, List.nil_append]
    kpc_turns
    refine tsG1 hG (by kas_types) (by kas_types) .ref ?_
    kpc_turns
    refine CC.clear (by keq_rows) (by simp; lia) ?_
    kpc_turns
    refine tsG2 hG (by kas_types) (by kas_types) ?_
    kpc_turns
    refine CC.len_tuple (by kas_types) (by simp; lia) ?_
    rewrite [List.length_map]
    kpc_turns
    refine tsS2 hG (by kas_types) (by keq_rows) ?_
    kpc_turns
    refine (PL.m1_1 _ (by tlg_ne) (h t g' ?_ hkv))
    rw [habs, List.take_length]
theorem cc_readyF (fr : Led) (hG : Ok G) (hg : GlobOk G gtab) {n : Nat} (hr : Room A (n + 1)) {ys : List Str} (hz : ys.length < 900) (hnd : (names (abs g)).Nodup) (hin : ∀ y ∈ ys, y ∈ names (abs g))
    (h : ∀ t g', abs g' = outS (abs g) ys → nsKV g' = nsKV g → R (.ref t) (fr ++ ((t, .tuple (ys.map .str)) :: (q, .list []) :: (x, .inst TS dx) :: (dx, .idct (tsKV (.ref d) (.ref q) (po + ys.length) nf)) :: (d, .sdict (nsKV g') ep) :: (nsLed NI g' ++ l)))) :
    CC G A (.ref 116) [.ref x] (fr ++ ((q, .list (ys.map .str)) :: (x, .inst TS dx) :: (dx, .idct (tsKV (.ref d) (.ref q) po nf)) :: (d, .sdict (nsKV g) ep) :: (nsLed NI g ++ l))) R X :=
  CC.post (CC.sub fr_in4 (cc_ready hG hg hr hz hnd hin fun t g' h1 h2 => (PL.m1_1 _ fr_out5 (h t g' h1 h2))))
end
section
variable {G : Gd} {A : Around} {l l' : Led} {X : Xp} {R : AV → Led → Prop} {x dx d q : Addr} {ep : Nat} {g : List NR} {po nf : Int}
theorem cc_done (hG : Ok G) (hg : GlobOk G gtab) {n : Nat} (hr : Room A (n + 1)) {node : Str} {ys : List Str} (hnd : (names (abs g)).Nodup) (hnode : node ∈ names (abs g)) (hnp : npOf (abs g) node = -1) (hsu : ∀ s ∈ succOf (abs g) node, s ∈ names (abs g)) (hz : ys.length + (succOf (abs g) node).length < 900)
    (h : ∀ g' ys', (abs g', ys') = doneS (abs g, ys) node → nsKV g' = nsKV g → R .none ((q, .list (ys'.map .str)) :: (x, .inst TS dx) :: (dx, .idct (tsKV (.ref d) (.ref q) po (nf + 1))) :: (d, .sdict (nsKV g') ep) :: (nsLed NI g' ++ l))) :
    CC G A (.ref 137) ([.ref x] ++ [.str node]) ((q, .list (ys.map .str)) :: (x, .inst TS dx) :: (dx, .idct (tsKV (.ref d) (.ref q) po nf)) :: (d, .sdict (nsKV g) ep) :: (nsLed NI g ++ l)) R X := by
  refine CC.defV (fn_TS_done hG) hr [Str.ofString "self"] _ (vals := fun t => [some (.ref x), some (.ref t), none, none, none, none, none, none, none, none, none]) (by lcg_sub) ⟨rfl, rfl, rfl, rfl, rfl, rfl, by decide⟩ rfl (by simp) rfl (by decide) (fun t => by show BKind _ [(Str.ofString "self", _), (Str.ofString "nodes", _)]; kba_ints) (fun t => by show Init [(Str.ofString "self", _), (Str.ofString "nodes", _)] _ _; lsm_bools) fun t L env A' hE hr' hx => ?_
  (refine PL.x3_1 (names_split hnode) ?_; rintro pre r post rfl rfl)
  rw [npOf_split hnd] at hnp
  rw [succOf_split hnd] at hsu hz
  refine BB.cons ?_
  refine SS.if ?_
  kpc_turns
  refine tsG1 hG (by kas_types) (by kas_types) .ref ?_
  kpc_turns
  refine Op2.isNoneRef ?_
  kpc_turns
  refine brF (by decide) ?_
  kpc_turns
  refine tsG0 hG (by kas_types) (by kas_types) .ref ?_
  kpc_turns
  refine SS.forH ?_
  kpc_turns
  refine iter_tuple (by keq_rows) fun it0 => ?_
  refine ⟨1, _, _, _, _, _, (L, .ns nm_TS_done [some (.ref x), some (.ref t), some (.ref d), none, none, none, none, none, none, none, none]) :: (q, .list (ys.map .str)) :: (x, .inst TS dx) :: (dx, .idct (tsKV (.ref d) (.ref q) po nf)) :: (d, .sdict (nsKV (pre ++ r :: post)) ep) :: (nsLed NI (pre ++ r :: post) ++ l), walk_tuple (G := G) (A := A') (it := it0) (p := t) (xs := [.str r.nd.name]) hr'.h, trivial, ?_,
    fun k K => (k = 0 ∧ K = (L, .ns nm_TS_done [some (.ref x), some (.ref t), some (.ref d), none, none, none, none, none, none, none, none]) :: (q, .list (ys.map .str)) :: (x, .inst TS dx) :: (dx, .idct (tsKV (.ref d) (.ref q) po nf)) :: (d, .sdict (nsKV (pre ++ r :: post)) ep) :: (nsLed NI (pre ++ r :: post) ++ l)) ∨
      (k = 1 ∧ ∃ g' ys', (abs g', ys') = doneS (abs (pre ++ r :: post), ys) r.nd.name ∧ nsKV g' = nsKV (pre ++ r :: post) ∧ K = (L, .ns nm_TS_done [some (.ref x), some (.ref t), some (.ref d), none, none, none, none, none, none, none, none]) :: (q, .list (ys'.map .str)) :: (x, .inst TS dx) :: (dx, .idct (tsKV (.ref d) (.ref q) po (nf + 1))) :: (d, .sdict (nsKV g') ep) :: (nsLed NI g' ++ l)), ?_, ?_, ?_⟩
  · dsimp only [List.cons_append, List.nil_append]
    tlg_ne
  · exact .inl ⟨rfl, rfl⟩
  · rintro FF1 hF1 k _ _ K hk ⟨hpk, rfl⟩ (⟨rfl, rfl⟩ | ⟨rfl, _⟩)
    · cases hpk
      dsimp only [List.cons_append, List.nil_append]
      kpc_turns
      refine SS.if ?_
      kpc_turns
      refine CC.dget (by keq_rows) (nsKV_mem (r := r) (by simp)) ?_
      kpc_turns
      refine Op2.isNoneRef ?_
      kpc_turns
      refine brF (by decide) ?_
      kpc_turns
      refine GAt.sub (.keep (.keep (.keep (.keep (.keep (.keep (.keep (Sub.trans (.keep nsS_open) ns_lists)))))))) ?_
      refine niG1 hG (by kas_types) (by kas_types) rfl .int ?_
      kpc_turns
      refine SS.if ?_
      kpc_turns
      refine brF (by rw [hnp]; decide) ?_
      kpc_turns
      refine niS1 (vs2 := [some (.str r.nd.name), some (.int (-2)), some (.ref r.sl)]) hG (by keq_rows) (by kas_types) (.inl ⟨by simp, rfl⟩) ?_
      kpc_turns
      refine SS.forH ?_
      kpc_turns
      refine niG2 hG (by kas_types) (by kas_types) rfl .ref ?_
      kpc_turns
      refine iter_list (by keq_rows) fun it => ?_
      have hnm0 : names (abs (pre ++ ⟨⟨r.nd.name, -2, r.nd.succ⟩, r.a, r.dx, r.sl⟩ :: post)) = names (abs (pre ++ r :: post)) := by rw [← nsKV_names, ← nsKV_names, nsKV_upd (pre := pre) (post := post) (r := r) (r' := ⟨⟨r.nd.name, -2, r.nd.succ⟩, r.a, r.dx, r.sl⟩) rfl rfl]
      have habs0 : abs (pre ++ ⟨⟨r.nd.name, -2, r.nd.succ⟩, r.a, r.dx, r.sl⟩ :: post) = updN (abs (pre ++ r :: post)) r.nd.name fun n => { n with np := -2 } := (upd_abs hnd fun n => { n with np := -2 }).symm
      refine ⟨r.nd.succ.length, _, _, _, _, _, (L, .ns nm_TS_done [some (.ref x), some (.ref t), some (.ref d), none, none, none, none, none, none, none, none]) :: (it0, .tupiter t 1) :: (t, .tuple [.str r.nd.name]) :: (q, .list (ys.map .str)) :: (x, .inst TS dx) :: (dx, .idct (tsKV (.ref d) (.ref q) po nf)) :: (d, .sdict (nsKV (pre ++ ⟨⟨r.nd.name, -2, r.nd.succ⟩, r.a, r.dx, r.sl⟩ :: post)) ep) ::  (nsS NI (pre ++ ⟨⟨r.nd.name, -2, r.nd.succ⟩, r.a, r.dx, r.sl⟩ :: post) ++ (nsQ (qOf pre ++ qOf post) ++ l)), by
        have := walk_list (G := G) (A := A') (it := it) (p := r.sl) (xs := r.nd.succ.map .str) hr'.h
        rw [List.length_map] at this
        exact this, trivial, ?_, fun k K => ∃ g' ys', (abs g', ys') = (r.nd.succ.take k).foldl decS (updN (abs (pre ++ r :: post)) r.nd.name fun n => { n with np := -2 }, ys) ∧ nsKV g' = nsKV (pre ++ r :: post) ∧ qOf g' = qOf pre ++ (r.sl, r.nd.succ) :: qOf post ∧ ys'.length ≤ ys.length + k ∧
        K = (L, .ns nm_TS_done [some (.ref x), some (.ref t), some (.ref d), none, none, none, none, none, none, none, none]) :: (it0, .tupiter t 1) :: (t, .tuple [.str r.nd.name]) :: (q, .list (ys'.map .str)) :: (x, .inst TS dx) :: (dx, .idct (tsKV (.ref d) (.ref q) po nf)) :: (d, .sdict (nsKV g') ep) ::  (nsS NI g' ++ (nsQ (qOf pre ++ qOf post) ++ l)), ?_, ?_, ?_⟩
      · rw [nsKV_upd (pre := pre) (post := post) (r := r) (r' := ⟨⟨r.nd.name, -2, r.nd.succ⟩, r.a, r.dx, r.sl⟩) rfl rfl]
        refine Sub.trans (.keep (.keep (.keep (.keep (.keep (.keep (.keep (.keep (.keep nsS_close))))))))) ?_
        dsimp only [nrS, nrL, nrD, List.cons_append, List.nil_append]
        tlg_ne
      · exact (PL.m2_4 ((pre ++ ⟨⟨r.nd.name, -2, r.nd.succ⟩, r.a, r.dx, r.sl⟩ :: post)) ys (by rw [List.take_zero]; exact Prod.ext habs0 rfl) (nsKV_upd rfl rfl) (by simp [qOf]) (by simp) rfl)
      · (rintro FF2 hF2 k _ _ K hk2 ⟨hpk, rfl⟩; refine PL.j2_4 ?_; rintro g' ys' hst hkv hq hl' rfl)
        rw [List.getElem?_map, Option.map_eq_some_iff] at hpk
        (revert hpk; refine PL.j1_1 ?_; rintro s hpk rfl)
        have hnm : names (abs g') = names (abs (pre ++ r :: post)) := by rw [← nsKV_names, hkv, nsKV_names]
        (refine PL.x3_1 (names_split (g := g') (x := s) (by rw [hnm]; exact hsu s (List.mem_of_getElem? hpk))) ?_; rintro pre2 r2 post2 rfl rfl)
        have hnd2 : (names (abs (pre2 ++ r2 :: post2))).Nodup := by rw [hnm]; exact hnd
        have hst3 : (abs (pre2 ++ ⟨⟨r2.nd.name, r2.nd.np - 1, r2.nd.succ⟩, r2.a, r2.dx, r2.sl⟩ :: post2), if r2.nd.np - 1 = 0 then ys' ++ [r2.nd.name] else ys') = (r.nd.succ.take (k + 1)).foldl decS (updN (abs (pre ++ r :: post)) r.nd.name fun n => { n with np := -2 }, ys) := by
          rw [foldl_take _ _ hpk, ← hst]
          unfold decS
          rw [npOf_split hnd2, upd_abs hnd2 fun n => { n with np := n.np - 1 }]
        dsimp only [List.cons_append, List.nil_append]
        kpc_turns
        refine SubOp.sdict (by keq_rows) ?_
        refine Get.sdict (by keq_rows) (nsKV_mem (r := r2) (by simp)) ?_
        kpc_turns
        refine GAt.sub (.keep (.keep (.keep (.keep (.keep (.keep (.keep (.keep (.keep nsS_open))))))))) ?_
        refine niG1 hG (by kas_types) (by kas_types) rfl .int ?_
        kpc_turns
        refine niS1 (vs2 := [some (.str r2.nd.name), some (.int (r2.nd.np - 1)), some (.ref r2.sl)]) hG (by keq_rows) (by kas_types) (.inl ⟨by simp, rfl⟩) ?_
        kpc_turns
        refine SS.if ?_
        kpc_turns
        refine niG1 hG (by kas_types) (by kas_types) rfl .int ?_
        kpc_turns
        refine ⟨fun hb => ?_, fun hb => ?_⟩
        · have hb' : r2.nd.np - 1 = 0 := by simpa using hb
          rw [if_pos hb'] at hst3
          kpc_turns
          refine tsG1 hG (by kas_types) (by kas_types) .ref ?_
          kpc_turns
          refine CC.appends (by keq_rows) (by lia) ?_
          kpc_turns
          refine hF2.next (L := (L, .ns nm_TS_done [some (.ref x), some (.ref t), some (.ref d), none, none, none, none, none, none, none, none]) :: (it0, .tupiter t 1) :: (t, .tuple [.str r.nd.name]) :: (q, .list ((ys' ++ [r2.nd.name]).map .str)) :: (x, .inst TS dx) :: (dx, .idct (tsKV (.ref d) (.ref q) po nf)) :: (d, .sdict (nsKV (pre2 ++ ⟨⟨r2.nd.name, r2.nd.np - 1, r2.nd.succ⟩, r2.a, r2.dx, r2.sl⟩ :: post2)) ep) ::  (nsS NI (pre2 ++ ⟨⟨r2.nd.name, r2.nd.np - 1, r2.nd.succ⟩, r2.a, r2.dx, r2.sl⟩ :: post2) ++ (nsQ (qOf pre ++ qOf post) ++ l))) (PL.m2_4 _ _ hst3 ?_ ?_ ?_ rfl) ?_
          · rw [← hkv]; exact nsKV_upd rfl rfl
          · rw [← hq]; simp [qOf]
          · simp; lia
          · rw [nsKV_upd (pre := pre2) (post := post2) (r := r2) (r' := ⟨⟨r2.nd.name, r2.nd.np - 1, r2.nd.succ⟩, r2.a, r2.dx, r2.sl⟩) rfl rfl]
            refine Sub.trans (.keep (.keep (.keep (.keep (.keep (.keep (.keep (.keep (.keep nsS_close))))))))) ?_
            dsimp only [nrS, nrL, nrD, List.cons_append, List.nil_append]
            tlg_ne
        · have hb' : ¬ r2.nd.np - 1 = 0 := by simpa using hb
          rw [if_neg hb'] at hst3
          kpc_turns
          refine hF2.next (L := (L, .ns nm_TS_done [some (.ref x), some (.ref t), some (.ref d), none, none, none, none, none, none, none, none]) :: (it0, .tupiter t 1) :: (t, .tuple [.str r.nd.name]) :: (q, .list (ys'.map .str)) :: (x, .inst TS dx) :: (dx, .idct (tsKV (.ref d) (.ref q) po nf)) :: (d, .sdict (nsKV (pre2 ++ ⟨⟨r2.nd.name, r2.nd.np - 1, r2.nd.succ⟩, r2.a, r2.dx, r2.sl⟩ :: post2)) ep) ::  (nsS NI (pre2 ++ ⟨⟨r2.nd.name, r2.nd.np - 1, r2.nd.succ⟩, r2.a, r2.dx, r2.sl⟩ :: post2) ++ (nsQ (qOf pre ++ qOf post) ++ l))) (PL.m2_4 _ _ hst3 ?_ ?_ ?_ rfl) ?_
          · rw [← hkv]; exact nsKV_upd rfl rfl
          · rw [← hq]; simp [qOf]
          · lia
          · rw [nsKV_upd (pre := pre2) (post := post2) (r := r2) (r' := ⟨⟨r2.nd.name, r2.nd.np - 1, r2.nd.succ⟩, r2.a, r2.dx, r2.sl⟩) rfl rfl]
            refine Sub.trans (.keep (.keep (.keep (.keep (.keep (.keep (.keep (.keep (.keep nsS_close))))))))) ?_
            dsimp only [nrS, nrL, nrD, List.cons_append, List.nil_append]
            tlg_ne
      · (rintro K; refine PL.j2_4 ?_; rintro g' ys' hst hkv hq hl' rfl)
        rw [List.take_length] at hst
        dsimp only [List.cons_append, List.nil_append]
        kpc_turns
        refine tsG3 hG (by kas_types) (by kas_types) ?_
        kpc_turns
        refine tsS3 hG (by kas_types) (by keq_rows) ?_
        kpc_turns
        refine hF1.next (L := (L, .ns nm_TS_done [some (.ref x), some (.ref t), some (.ref d), none, none, none, none, none, none, none, none]) :: (q, .list (ys'.map .str)) :: (x, .inst TS dx) :: (dx, .idct (tsKV (.ref d) (.ref q) po (nf + 1))) :: (d, .sdict (nsKV g') ep) :: (nsLed NI g' ++ l)) (.inr ⟨rfl, g', ys', ?_, hkv, rfl⟩) ?_
        · unfold doneS
          dsimp only
          rw [succOf_split hnd]
          exact hst
        · refine Sub.trans (.keep (.keep (.keep (.keep (.keep (.keep (.keep (ns_lists_back hq)))))))) ?_
          tlg_ne
    · lia
  · rintro K (⟨hf, _⟩ | ⟨_, g', ys', hd, hkv, rfl⟩)
    · cases hf
    · dsimp only [List.cons_append, List.nil_append]
      kpc_turns
      exact (PL.m1_1 _ (by tlg_ne) (h g' ys' hd hkv))
theorem cc_doneF (fr : Led) (hG : Ok G) (hg : GlobOk G gtab) {n : Nat} (hr : Room A (n + 1)) {node : Str} {ys : List Str} (hnd : (names (abs g)).Nodup) (hnode : node ∈ names (abs g)) (hnp : npOf (abs g) node = -1) (hsu : ∀ s ∈ succOf (abs g) node, s ∈ names (abs g)) (hz : ys.length + (succOf (abs g) node).length < 900)
    (h : ∀ g' ys', (abs g', ys') = doneS (abs g, ys) node → nsKV g' = nsKV g → R .none (fr ++ ((q, .list (ys'.map .str)) :: (x, .inst TS dx) :: (dx, .idct (tsKV (.ref d) (.ref q) po (nf + 1))) :: (d, .sdict (nsKV g') ep) :: (nsLed NI g' ++ l)))) :
    CC G A (.ref 137) ([.ref x] ++ [.str node]) (fr ++ ((q, .list (ys.map .str)) :: (x, .inst TS dx) :: (dx, .idct (tsKV (.ref d) (.ref q) po nf)) :: (d, .sdict (nsKV g) ep) :: (nsLed NI g ++ l))) R X :=
  CC.post (CC.sub fr_in4 (cc_done hG hg hr hnd hnode hnp hsu hz fun g' ys' h1 h2 => (PL.m1_1 _ fr_out4 (h g' ys' h1 h2))))
end
section
variable {G : Gd} {A : Around} {l l' : Led} {X : Xp} {R : AV → Led → Prop} {x dx d : Addr} {ep : Nat} {g : List NR} {po nf : Int} {rd : AV}
theorem cc_cycle (hG : Ok G) (hg : GlobOk G gtab) {n : Nat} (hr : Room A (n + 1)) (hfrs : FrsIn A l) (hz : g.length < 900) (hnd : (names (abs g)).Nodup) (hcl : ∀ y ∈ names (abs g), ∀ s ∈ succOf (abs g) y, s ∈ names (abs g))
    (h0 : ∀ fin, FC.Topo (succOf (abs g)) fin → (∀ y ∈ names (abs g), y ∈ fin) → R .none ((x, .inst TS dx) :: (dx, .idct (tsKV (.ref d) rd po nf)) :: (d, .sdict (nsKV g) ep) :: (nsLed NI g ++ l)))
    (h1 : ∀ r zs C, zs ≠ [] → zs.length < 2000 → C ≠ [] → (∀ y ∈ C, y ∈ names (abs g)) → (∀ y ∈ C, ∃ z ∈ C, y ∈ succOf (abs g) z) → R (.ref r) ((r, .list zs) :: (x, .inst TS dx) :: (dx, .idct (tsKV (.ref d) rd po nf)) :: (d, .sdict (nsKV g) ep) :: (nsLed NI g ++ l))) :
    CC G A (.ref 144) [.ref x] ((x, .inst TS dx) :: (dx, .idct (tsKV (.ref d) rd po nf)) :: (d, .sdict (nsKV g) ep) :: (nsLed NI g ++ l)) R X := by
  refine CC.def0 (fn_TS__find_cycle hG) hr [Str.ofString "self"] (by lcg_sub) ⟨rfl, rfl, rfl, rfl, rfl, rfl, by decide⟩ rfl (by kba_ints) (by lsm_bools) (by kbo_bools) fun L env A' hE hr' hx => ?_
  obtain ⟨es, hfr, hes⟩ := hfrs
  have hfr' : A'.frames = some (env :: es) := by rw [hx.deeper]; show A.frames.map _ = _; rw [hfr]; rfl
  have hmod : env.scope.kind ≠ .module := by rw [hE.kind]; decide
  have hinl : ∀ (vs : List (Option AV)) (l₂ : Led), (L, AO.ns nm_TS__find_cycle vs) ∈ l₂ → (∀ p ∈ l, p ∈ l₂) → ∀ y ∈ env :: es, FrIn l₂ y := fun vs l₂ hL hl y hy => by
    rcases List.mem_cons.mp hy with rfl | hy
    · exact ⟨hmod, L, _, vs, hx.frame, hL⟩
    · exact (hes y hy).sub hl
  have hnl : (names (abs g)).length = g.length := by simp [names, abs]
  refine BB.cons ?_
  kpc_turns
  refine tsG0 hG (by kas_types) (by kas_types) .ref ?_
  kpc_turns
  refine ⟨by decide, fun sk => ?_⟩
  kpc_turns
  refine ⟨by decide, fun ik => ?_⟩
  kpc_turns
  refine CC.newset fun se => ?_
  kpc_turns
  refine EE.dict0 hg fun ni ep0 => ?_
  kpc_turns
  refine SS.forH ?_
  kpc_turns
  refine iter_dict (by keq_rows) fun it0 => ?_
  refine ⟨(nsKV g).length, _, _, _, _, _, (L, .ns nm_TS__find_cycle [some (.ref x), some (.ref d), some (.ref sk), some (.ref ik), some (.ref se), some (.ref ni), none, none, none, none, none]) :: (sk, .list []) :: (ik, .list []) :: (se, .sset (fun _ => false) 0) :: (ni, .sdict [] ep0) :: (x, .inst TS dx) :: (dx, .idct (tsKV (.ref d) rd po nf)) :: (nsLed NI g ++ l), walk_keys (G := G) (A := A') (it := it0) (d := d) (kvs := nsKV g) (ep := ep) hr'.h, trivial, ?_,
    fun j K => ∃ fin ep2, FC.Inv (names (abs g)) (succOf (abs g)) (stOf []) fin none ∧ (∀ i y, i < j → (names (abs g))[i]? = some y → y ∈ fin) ∧
      K = (L, .ns nm_TS__find_cycle [some (.ref x), some (.ref d), some (.ref sk), some (.ref ik), some (.ref se), some (.ref ni), none, none, none, none, none]) :: (sk, .list ((stkL []).map .str)) :: (ik, .list (bsL [])) :: (se, .sset (FC.seen (stOf []) fin) ((stOf []).map (·.1) ++ fin).length) :: (ni, .sdict (idxKV []) ep2) :: (x, .inst TS dx) :: (dx, .idct (tsKV (.ref d) rd po nf)) :: (nsLed NI g ++ l), ?_, ?_, ?_⟩
  · dsimp only [List.cons_append, List.nil_append]
    tlg_ne
  · exact ⟨[], ep0, ⟨List.nodup_nil, (fun y hy => by cases hy), .nil, trivial⟩, fun i y hi => absurd hi (Nat.not_lt_zero i), rfl⟩
  · rintro FF1 hF1 j _ _ K hj ⟨v, bv, hv, rfl, rfl⟩ ⟨fin, ep2, hI, hfin, rfl⟩
    have hvn : (names (abs g))[j]? = some v := by
      rw [← nsKV_names, List.getElem?_map, hv]; rfl
    have hvg : v ∈ names (abs g) := List.mem_of_getElem? hvn
    dsimp only [List.cons_append, List.nil_append]
    kpc_turns
    refine SS.if ?_
    kpc_turns
    refine Op2.inset (by keq_rows) ?_
    kpc_turns
    refine ⟨fun hb => ?_, fun hb => ?_⟩
    · have hvf : v ∈ fin := by
        rcases FC.seen_iff.mp hb with q | q
        · cases q
        · exact q
      kpc_turns
      refine hF1.cont (L := (L, .ns nm_TS__find_cycle [some (.ref x), some (.ref d), some (.ref sk), some (.ref ik), some (.ref se), some (.ref ni), none, none, none, none, none]) :: (sk, .list ((stkL []).map .str)) :: (ik, .list (bsL [])) :: (se, .sset (FC.seen (stOf []) fin) ((stOf []).map (·.1) ++ fin).length) :: (ni, .sdict (idxKV []) ep2) :: (x, .inst TS dx) :: (dx, .idct (tsKV (.ref d) rd po nf)) :: (nsLed NI g ++ l)) ⟨fin, ep2, hI, fun i y hi hy => ?_, rfl⟩ (by dsimp only [List.cons_append, List.nil_append]; tlg_ne)
      rcases Nat.lt_or_ge i j with q | q
      · exact hfin i y q hy
      · have : i = j := by lia
        subst this
        rw [hvn] at hy; cases hy
        exact hvf
    · have hvs : v ∉ fin := fun q => by
        have := FC.seen_iff.mpr (.inr q : v ∈ (stOf []).map (·.1) ∨ v ∈ fin)
        rw [this] at hb; cases hb
      kpc_turns
      refine SS.sub (l' := (L, .ns nm_TS__find_cycle [some (.ref x), some (.ref d), some (.ref sk), some (.ref ik), some (.ref se), some (.ref ni), some (.str v), none, none, none, none]) :: (sk, .list ((stkL []).map .str)) :: (ik, .list (bsL [])) :: (se, .sset (FC.seen (stOf []) fin) ((stOf []).map (·.1) ++ fin).length) :: (ni, .sdict (idxKV []) ep2) :: (it0, .keyiter d (j + 1) (nsKV g).length ep) :: (d, .sdict (nsKV g) ep) :: (x, .inst TS dx) :: (dx, .idct (tsKV (.ref d) rd po nf)) :: (nsLed NI g ++ l)) (by tlg_ne) ?_
      refine SS.whileH (FC.msr (names (abs g)) (succOf (abs g)) (stOf []) fin) (fun m K => ∃ rst fin' ep2 u, m = FC.msr (names (abs g)) (succOf (abs g)) (stOf rst) fin' ∧ FC.Inv (names (abs g)) (succOf (abs g)) (stOf rst) fin' (some u) ∧ u ∈ (names (abs g)) ∧ SOk g rst ∧ (∀ y ∈ fin, y ∈ fin') ∧ (v ∈ (stOf rst).map (·.1) ∨ v ∈ fin' ∨ u = v) ∧
        K = (L, .ns nm_TS__find_cycle [some (.ref x), some (.ref d), some (.ref sk), some (.ref ik), some (.ref se), some (.ref ni), some (.str u), none, none, none, none]) :: (sk, .list ((stkL rst).map .str)) :: (ik, .list (bsL rst)) :: (se, .sset (FC.seen (stOf rst) fin') ((stOf rst).map (·.1) ++ fin').length) :: (ni, .sdict (idxKV rst) ep2) :: (it0, .keyiter d (j + 1) (nsKV g).length ep) :: (d, .sdict (nsKV g) ep) :: (x, .inst TS dx) :: (dx, .idct (tsKV (.ref d) rd po nf)) :: (itLed rst ++ (nsLed NI g ++ l))) ?_ (fun KK1 EE1 hL1 => ?_)
      · exact ⟨[], fin, ep2, v, rfl, ⟨hI.nodup, hI.sub, hI.topo, trivial⟩, hvg, (fun e he => by cases he), (fun y hy => hy), .inr (.inr rfl), rfl⟩
      · rintro m _ ⟨rst, fin', ep3, u, hmm, hI1, hug, hso, hff, hbot, rfl⟩
        have hlen := hI1.len
        rw [hnl] at hlen
        have hlr : (stOf rst).length = rst.length := by simp [stOf]
        have hmem : ∀ q ∈ g, nrS NI q ∈ itLed rst ++ (nsLed NI g ++ l) ∧ nrL q ∈ itLed rst ++ (nsLed NI g ++ l) ∧ nrD q ∈ itLed rst ++ (nsLed NI g ++ l) := fun q hq =>
          ⟨List.mem_append_right _ (ns_mem hq l).1, List.mem_append_right _ (ns_mem hq l).2.1, List.mem_append_right _ (ns_mem hq l).2.2⟩
        kpc_turns
        refine brT (by decide) ?_
        refine BB.cons ?_
        refine SS.joinH (fun K => ∃ rst2 fin2 ep2, FC.msr (names (abs g)) (succOf (abs g)) (stOf rst2) fin2 ≤ m ∧ FC.Inv (names (abs g)) (succOf (abs g)) (stOf rst2) fin2 none ∧ SOk g rst2 ∧ (∀ y ∈ fin, y ∈ fin2) ∧ (v ∈ (stOf rst2).map (·.1) ∨ v ∈ fin2) ∧
          K = (L, .ns nm_TS__find_cycle [some (.ref x), some (.ref d), some (.ref sk), some (.ref ik), some (.ref se), some (.ref ni), none, none, none, none, none]) :: (sk, .list ((stkL rst2).map .str)) :: (ik, .list (bsL rst2)) :: (se, .sset (FC.seen (stOf rst2) fin2) ((stOf rst2).map (·.1) ++ fin2).length) :: (ni, .sdict (idxKV rst2) ep2) :: (it0, .keyiter d (j + 1) (nsKV g).length ep) :: (d, .sdict (nsKV g) ep) :: (x, .inst TS dx) :: (dx, .idct (tsKV (.ref d) rd po nf)) :: (itLed rst2 ++ (nsLed NI g ++ l))) (fun JJ1 hJ1 => ?_) ?_
        · refine SS.if ?_
          kpc_turns
          refine Op2.inset (by keq_rows) ?_
          kpc_turns
          refine ⟨fun hs => ?_, fun hs => ?_⟩
          · refine BB.cons ?_
            refine SS.if ?_
            kpc_turns
            refine Op2.indict (by keq_rows) ?_
            kpc_turns
            rewrite [idx_names]
            refine ⟨fun hst => ?_, fun hst => ?_⟩
            · have hust : u ∈ (stOf rst).map (·.1) := by rw [← mem_stkL]; simpa using hst
              obtain ⟨C, c1, c2, c3⟩ := hI1.ring hust
              obtain ⟨i, hi, hil⟩ := idx_get hust
              kpc_turns
              refine EE.slice ?_
              refine EPt.yes ?_
              kpc_turns
              refine SubOp.sdict (by keq_rows) ?_
              refine Get.sdict (by keq_rows) hi ?_
              refine EPt.no ?_
              intro sl
              refine SubOp.list (by keq_rows) ?_
              refine Get.listSlice (by keq_rows) (by keq_rows) .int .none (by rw [List.length_map, len_stkL]; lia) fun cy => ?_
              kpc_turns
              refine ⟨by show 1 ≤ 1000; decide, fun one => ?_⟩
              have hcl2 : (pickAV ((stkL rst).map .str) (some (i : Int)) none).length ≤ 1000 := by
                have := pickAV_len ((stkL rst).map .str) (some (i : Int)) none
                rw [List.length_map, len_stkL] at this
                lia
              refine Op2.ladd (by kas_types) (by kas_types) (by simp; lia) fun rr => ?_
              kpc_turns
              refine ⟨_, ?_, h1 rr (pickAV ((stkL rst).map .str) (some (i : Int)) none ++ [.str u]) C (by simp) (by simp; lia) c1 c2 c3⟩
              refine Sub.trans (l' := (rr, .list (pickAV ((stkL rst).map .str) (some (i : Int)) none ++ [.str u])) :: (x, .inst TS dx) :: (dx, .idct (tsKV (.ref d) rd po nf)) :: (d, .sdict (nsKV g) ep) :: (itLed rst ++ (nsLed NI g ++ l))) (.keep (.keep (.keep (.keep .left)))) ?_
              tlg_ne
            · have huf : u ∈ fin' := by
                rcases FC.seen_iff.mp hs with q | q
                · rw [← mem_stkL] at q
                  have : (stkL rst).contains u = true := by simpa using q
                  rw [this] at hst; cases hst
                · exact q
              kpc_turns
              refine hJ1.next ⟨rst, fin', ep3, Nat.le_of_eq hmm.symm, hI1.settle huf, hso, hff, ?_, rfl⟩ (by tlg_ne)
              rcases hbot with q | q | q
              · exact .inl q
              · exact .inr q
              · subst q; exact .inr huf
          · have hu1 : u ∉ (stOf rst).map (·.1) := fun q => by
              rw [FC.seen_iff.mpr (.inl q)] at hs; cases hs
            have hu2 : u ∉ fin' := fun q => by
              rw [FC.seen_iff.mpr (.inr q)] at hs; cases hs
            obtain ⟨pre, q, post, hgq, hqn⟩ := names_split hug
            have hqg : q ∈ g := by rw [hgq]; simp
            subst hqn
            kpc_turns
            refine CC.sadd (by keq_rows) (by simp; lia) ?_
            rewrite [FC.seen_push 0, hs]
            kpc_turns
            refine SubOp.sdict (by keq_rows) ?_
            refine Get.sdict (by keq_rows) (nsKV_mem hqg) ?_
            obtain ⟨hm1, hm2, hm3⟩ := hmem q hqg
            refine niG2 (x := q.a) (dx := q.dx) (kvs := []) hG (by repeat (first | exact hm1 | apply List.mem_cons_of_mem)) (by repeat (first | exact hm3 | apply List.mem_cons_of_mem)) rfl .ref ?_
            kpc_turns
            refine CC.iterList (xs := q.nd.succ.map .str) (by repeat (first | exact hm2 | apply List.mem_cons_of_mem)) fun it => ?_
            refine GAt.next (by keq_rows) fun b => ?_
            kpc_turns
            refine CC.append (by keq_rows) (by rw [len_bsL]; lia) ?_
            kpc_turns
            refine CC.lens (by keq_rows) (by rw [len_stkL]; lia) ?_
            kpc_turns
            refine SetI.sdict (by keq_rows) (by rw [len_idx]; lia) fun ep4 => ?_
            kpc_turns
            refine CC.appends (by keq_rows) (by rw [len_stkL]; lia) ?_
            kpc_turns
            have hI2 := hI1.push hug hu1 hu2
            refine hJ1.next (l' := (L, .ns nm_TS__find_cycle [some (.ref x), some (.ref d), some (.ref sk), some (.ref ik), some (.ref se), some (.ref ni), none, none, none, none, none]) :: (sk, .list ((stkL (⟨q.nd.name, b, it, q.sl, 0⟩ :: rst)).map .str)) :: (ik, .list (bsL (⟨q.nd.name, b, it, q.sl, 0⟩ :: rst))) :: (se, .sset (FC.seen (stOf (⟨q.nd.name, b, it, q.sl, 0⟩ :: rst)) fin') ((stOf (⟨q.nd.name, b, it, q.sl, 0⟩ :: rst)).map (·.1) ++ fin').length) :: (ni, .sdict (idxKV (⟨q.nd.name, b, it, q.sl, 0⟩ :: rst)) ep4) :: (it0, .keyiter d (j + 1) (nsKV g).length ep) :: (d, .sdict (nsKV g) ep) :: (x, .inst TS dx) :: (dx, .idct (tsKV (.ref d) rd po nf)) :: (itLed (⟨q.nd.name, b, it, q.sl, 0⟩ :: rst) ++ (nsLed NI g ++ l))) ⟨⟨q.nd.name, b, it, q.sl, 0⟩ :: rst, fin', ep4, (by rw [hmm]; exact Nat.le_of_lt (FC.msr_push hnd hug hu1 hu2)), hI2, ?_, hff, ?_, rfl⟩ ?_
            · intro e he
              rcases List.mem_cons.mp he with rfl | he
              · exact ⟨q, hqg, rfl, rfl⟩
              · exact hso e he
            · rcases hbot with h | h | h
              · exact .inl (.tail _ h)
              · exact .inr h
              · subst h; exact .inl (.head _)
            · rewrite [stkL_cons, bsL_cons, ← idx_push (r := rst) (e := ⟨q.nd.name, b, it, q.sl, 0⟩) hu1, ← len_stkL rst]
              show Sub ((L, .ns nm_TS__find_cycle [some (.ref x), some (.ref d), some (.ref sk), some (.ref ik), some (.ref se), some (.ref ni), none, none, none, none, none]) :: (sk, .list ((stkL rst ++ [q.nd.name]).map .str)) :: (ik, .list (bsL rst ++ [.ref b])) :: (se, .sset (FC.seen ((q.nd.name, 0) :: stOf rst) fin') (if false = true then ((stOf rst).map (·.1) ++ fin').length else ((stOf rst).map (·.1) ++ fin').length + 1)) :: (ni, .sdict (storedAV (idxKV rst) q.nd.name (.int ((stkL rst).length : Nat))) ep4) :: (it0, .keyiter d (j + 1) (nsKV g).length ep) :: (d, .sdict (nsKV g) ep) :: (x, .inst TS dx) :: (dx, .idct (tsKV (.ref d) rd po nf)) :: (b, .raw (boundNext it)) :: (it, .listiter q.sl 0) :: (itLed rst ++ (nsLed NI g ++ l))) _
              tlg_ne
        · rintro _ ⟨rst, fin', ep3, hms, hI1, hso, hff, hbot, rfl⟩
          kpc_turns
          refine SS.whileH (FC.msr (names (abs g)) (succOf (abs g)) (stOf rst) fin') (fun m2 K => ∃ rst fin' ep2, m2 = FC.msr (names (abs g)) (succOf (abs g)) (stOf rst) fin' ∧ FC.msr (names (abs g)) (succOf (abs g)) (stOf rst) fin' ≤ m ∧ FC.Inv (names (abs g)) (succOf (abs g)) (stOf rst) fin' none ∧ SOk g rst ∧ (∀ y ∈ fin, y ∈ fin') ∧ (v ∈ (stOf rst).map (·.1) ∨ v ∈ fin') ∧
            K = (L, .ns nm_TS__find_cycle [some (.ref x), some (.ref d), some (.ref sk), some (.ref ik), some (.ref se), some (.ref ni), none, none, none, none, none]) :: (sk, .list ((stkL rst).map .str)) :: (ik, .list (bsL rst)) :: (se, .sset (FC.seen (stOf rst) fin') ((stOf rst).map (·.1) ++ fin').length) :: (ni, .sdict (idxKV rst) ep2) :: (it0, .keyiter d (j + 1) (nsKV g).length ep) :: (d, .sdict (nsKV g) ep) :: (x, .inst TS dx) :: (dx, .idct (tsKV (.ref d) rd po nf)) :: (itLed rst ++ (nsLed NI g ++ l))) ?_ (fun KK2 EE2 hL2 => ?_)
          · exact ⟨rst, fin', ep3, rfl, hms, hI1, hso, hff, hbot, rfl⟩
          · clear hI1 hso hff hbot hms
            rintro m2 _ ⟨rst, fin', ep3, rfl, hms, hI1, hso, hff, hbot, rfl⟩
            have hlen := hI1.len
            rw [hnl] at hlen
            have hlr : (stOf rst).length = rst.length := by simp [stOf]
            kpc_turns
            refine Truth.lists (by keq_rows) (by rw [len_stkL]; lia) ?_
            refine ⟨fun hne => ?_, fun hne => ?_⟩
            · cases rst with
              | nil => simp [stkL] at hne
              | cons e rst =>
                obtain ⟨q, hqg, hqn, hqs⟩ := hso e (.head _)
                obtain ⟨nd0, b, it, sl, k⟩ := e
                dsimp only at hqn hqs
                subst hqn hqs
                have hsucc := succ_mem hqg hnd
                have hlr2 : rst.length < 900 := by
                  simp only [stOf, List.length_map, List.length_cons] at hlen; lia
                have hm2 : nrL q ∈ itLed rst ++ (nsLed NI g ++ l) := List.mem_append_right _ (ns_mem hqg l).2.1
                have hnotin : q.nd.name ∉ (stOf rst).map (·.1) := fun h => (List.nodup_cons.mp hI1.nodup).1 (List.mem_append_left _ h)
                simp only [stkL_cons, bsL_cons]
                dsimp only [itLed, List.cons_append]
                refine BB.cons ?_
                refine SS.try1 (C := "StopIteration") (T := "StopIteration") hfr' hx.frame isExc_stop notTuple_stop isSubtype_stop (fun A l R hR => EE.glob hE hg (by kct_strs) (by kct_strs) hR) ?_
                refine BB.cons ?_
                refine SS.assign ?_
                refine EE.callB ?_
                kpc_turns
                refine Get.last (by keq_rows) (by rw [len_bsL]; lia) ?_
                refine ⟨b, boundNext it, _, rfl, rfl, rfl, ?_⟩
                kpc_turns
                refine ⟨⟨_, by keq_rows⟩, ?_⟩
                cases hs : q.nd.succ[k]? with
                | some s =>
                  refine CC.bnext (p := q.sl) (xs := q.nd.succ.map .str) (i := k) (a := .str s) (by kas_types) (by keq_rows) (by repeat (first | exact hm2 | apply List.mem_cons_of_mem)) (by rw [List.getElem?_map, hs]; rfl) ?_
                  kpc_turns
                  have hs' : (succOf (abs g) q.nd.name)[k]? = some s := by rw [hsucc]; exact hs
                  refine hL1.next (m := FC.msr (names (abs g)) (succOf (abs g)) (stOf (⟨q.nd.name, b, it, q.sl, k + 1⟩ :: rst)) fin') (l' := (L, .ns nm_TS__find_cycle [some (.ref x), some (.ref d), some (.ref sk), some (.ref ik), some (.ref se), some (.ref ni), some (.str s), none, none, none, none]) :: (sk, .list ((stkL (⟨q.nd.name, b, it, q.sl, k + 1⟩ :: rst)).map .str)) :: (ik, .list (bsL (⟨q.nd.name, b, it, q.sl, k + 1⟩ :: rst))) :: (se, .sset (FC.seen (stOf (⟨q.nd.name, b, it, q.sl, k + 1⟩ :: rst)) fin') ((stOf (⟨q.nd.name, b, it, q.sl, k + 1⟩ :: rst)).map (·.1) ++ fin').length) :: (ni, .sdict (idxKV (⟨q.nd.name, b, it, q.sl, k + 1⟩ :: rst)) ep3) :: (it0, .keyiter d (j + 1) (nsKV g).length ep) :: (d, .sdict (nsKV g) ep) :: (x, .inst TS dx) :: (dx, .idct (tsKV (.ref d) rd po nf)) :: (itLed (⟨q.nd.name, b, it, q.sl, k + 1⟩ :: rst) ++ (nsLed NI g ++ l))) ⟨⟨q.nd.name, b, it, q.sl, k + 1⟩ :: rst, fin', ep3, s, rfl, hI1.next hs', hcl _ (hI1.sub _ (.head _)) s (List.mem_of_getElem? hs'), ?_, hff, ?_, rfl⟩ (Nat.lt_of_lt_of_le (FC.msr_next hs') hms) ?_
                  · intro e he
                    rcases List.mem_cons.mp he with rfl | he
                    · exact ⟨q, hqg, rfl, rfl⟩
                    · exact hso e (.tail _ he)
                  · exact hbot.elim .inl fun h => .inr (.inl h)
                  · simp only [stkL_cons, bsL_cons]
                    dsimp only [itLed, List.cons_append]
                    show Sub ((L, .ns nm_TS__find_cycle [some (.ref x), some (.ref d), some (.ref sk), some (.ref ik), some (.ref se), some (.ref ni), some (.str s), none, none, none, none]) :: (sk, .list ((stkL rst ++ [q.nd.name]).map .str)) :: (ik, .list (bsL rst ++ [.ref b])) :: (se, .sset (FC.seen (stOf (⟨q.nd.name, b, it, q.sl, k⟩ :: rst)) fin') ((stOf (⟨q.nd.name, b, it, q.sl, k⟩ :: rst)).map (·.1) ++ fin').length) :: (ni, .sdict (idxKV (⟨q.nd.name, b, it, q.sl, k⟩ :: rst)) ep3) :: (it0, .keyiter d (j + 1) (nsKV g).length ep) :: (d, .sdict (nsKV g) ep) :: (x, .inst TS dx) :: (dx, .idct (tsKV (.ref d) rd po nf)) :: (b, .raw (boundNext it)) :: (it, .listiter q.sl (k + 1)) :: (itLed rst ++ (nsLed NI g ++ l))) _
                    tlg_ne
                | none =>
                  have hs' : (succOf (abs g) q.nd.name)[k]? = none := by rw [hsucc]; exact hs
                  refine CC.bnext_end (p := q.sl) (xs := q.nd.succ.map .str) (i := k) hr'.h (by kas_types) (by keq_rows) (by repeat (first | exact hm2 | apply List.mem_cons_of_mem)) (by rw [List.getElem?_map, hs]; rfl) fun ex => ?_
                  refine TryX.mk .head (hinl _ _ (by kas_types) (fun p hp => by repeat (first | exact (List.mem_append_right _ (List.mem_append_right _ hp)) | apply List.mem_cons_of_mem))) ?_
                  refine BB.cons ?_
                  refine SS.del1 ?_
                  kpc_turns
                  refine CC.pops (by keq_rows) (by rw [len_stkL]; lia) ?_
                  refine ⟨ni, idxKV (⟨q.nd.name, b, it, q.sl, k⟩ :: rst), ep3, q.nd.name, _, rfl, rfl, by keq_rows, by rw [len_idx]; lia, ?_, fun ep4 => ?_⟩
                  · rw [idx_names, stkL_cons]; simp
                  rewrite [idx_pop (e := ⟨q.nd.name, b, it, q.sl, k⟩) hnotin]
                  kpc_turns
                  refine CC.pop (by keq_rows) (by rw [len_bsL]; lia) ?_
                  kpc_turns
                  have hlen2 : ((stOf rst).map (·.1) ++ q.nd.name :: fin').length = (((q.nd.name, k) :: stOf rst).map (·.1) ++ fin').length := by simp; lia
                  refine hL2.next (m := FC.msr (names (abs g)) (succOf (abs g)) (stOf rst) (q.nd.name :: fin')) (l' := (L, .ns nm_TS__find_cycle [some (.ref x), some (.ref d), some (.ref sk), some (.ref ik), some (.ref se), some (.ref ni), none, none, none, none, none]) :: (sk, .list ((stkL rst).map .str)) :: (ik, .list (bsL rst)) :: (se, .sset (FC.seen (stOf rst) (q.nd.name :: fin')) ((stOf rst).map (·.1) ++ (q.nd.name :: fin')).length) :: (ni, .sdict (idxKV rst) ep4) :: (it0, .keyiter d (j + 1) (nsKV g).length ep) :: (d, .sdict (nsKV g) ep) :: (x, .inst TS dx) :: (dx, .idct (tsKV (.ref d) rd po nf)) :: (itLed rst ++ (nsLed NI g ++ l))) ⟨rst, q.nd.name :: fin', ep4, rfl, Nat.le_trans (Nat.le_of_lt FC.msr_pop) hms, hI1.pop hs', (fun e he => hso e (.tail _ he)), (fun y hy => .tail _ (hff y hy)), ?_, rfl⟩ FC.msr_pop ?_
                  · rcases hbot with h | h
                    · rcases List.mem_cons.mp h with h | h
                      · exact .inr (by rw [h]; exact .head _)
                      · exact .inl h
                    · exact .inr (.tail _ h)
                  · rewrite [← FC.seen_pop (k := k), hlen2]
                    show Sub ((L, .ns nm_TS__find_cycle [some (.ref x), some (.ref d), some (.ref sk), some (.ref ik), some (.ref se), some (.ref ni), none, none, none, none, none]) :: (sk, .list ((stkL rst).map .str)) :: (ik, .list (bsL rst)) :: (se, .sset (FC.seen (stOf (⟨q.nd.name, b, it, q.sl, k⟩ :: rst)) fin') ((stOf (⟨q.nd.name, b, it, q.sl, k⟩ :: rst)).map (·.1) ++ fin').length) :: (ni, .sdict (idxKV rst) ep4) :: (it0, .keyiter d (j + 1) (nsKV g).length ep) :: (d, .sdict (nsKV g) ep) :: (x, .inst TS dx) :: (dx, .idct (tsKV (.ref d) rd po nf)) :: (itLed rst ++ (nsLed NI g ++ l))) _
                    tlg_ne
            · cases rst with
              | cons e rst => simp [stkL] at hne
              | nil =>
                kpc_turns
                refine hF1.next (L := (L, .ns nm_TS__find_cycle [some (.ref x), some (.ref d), some (.ref sk), some (.ref ik), some (.ref se), some (.ref ni), none, none, none, none, none]) :: (sk, .list ((stkL []).map .str)) :: (ik, .list (bsL [])) :: (se, .sset (FC.seen (stOf []) fin') ((stOf []).map (·.1) ++ fin').length) :: (ni, .sdict (idxKV []) ep3) :: (x, .inst TS dx) :: (dx, .idct (tsKV (.ref d) rd po nf)) :: (nsLed NI g ++ l)) ⟨fin', ep3, hI1, fun i y hi hy => ?_, rfl⟩ ?_
                · rcases Nat.lt_or_ge i j with h | h
                  · exact hff _ (hfin i y h hy)
                  · have : i = j := by lia
                    subst this
                    rw [hvn] at hy; cases hy
                    rcases hbot with h | h
                    · cases h
                    · exact h
                · dsimp only [itLed, List.nil_append, List.cons_append]
                  tlg_ne
  · rintro K ⟨fin, ep2, hI, hfin, rfl⟩
    dsimp only [List.cons_append, List.nil_append]
    kpc_turns
    refine ⟨_, by tlg_ne, h0 fin hI.topo fun y hy => ?_⟩
    obtain ⟨i, hi, rfl⟩ := List.mem_iff_getElem.mp hy
    refine hfin i _ ?_ (List.getElem?_eq_getElem hi)
    rw [← nsKV_names, List.length_map] at hi
    exact hi
theorem cc_cycleF (fr : Led) (hG : Ok G) (hg : GlobOk G gtab) {n : Nat} (hr : Room A (n + 1)) (hfrs : FrsIn A (fr ++ l)) (hz : g.length < 900) (hnd : (names (abs g)).Nodup) (hcl : ∀ y ∈ names (abs g), ∀ s ∈ succOf (abs g) y, s ∈ names (abs g))
    (h0 : ∀ fin, FC.Topo (succOf (abs g)) fin → (∀ y ∈ names (abs g), y ∈ fin) → R .none (fr ++ ((x, .inst TS dx) :: (dx, .idct (tsKV (.ref d) rd po nf)) :: (d, .sdict (nsKV g) ep) :: (nsLed NI g ++ l))))
    (h1 : ∀ r zs C, zs ≠ [] → zs.length < 2000 → C ≠ [] → (∀ y ∈ C, y ∈ names (abs g)) → (∀ y ∈ C, ∃ z ∈ C, y ∈ succOf (abs g) z) → R (.ref r) (fr ++ ((r, .list zs) :: (x, .inst TS dx) :: (dx, .idct (tsKV (.ref d) rd po nf)) :: (d, .sdict (nsKV g) ep) :: (nsLed NI g ++ l)))) :
    CC G A (.ref 144) [.ref x] (fr ++ ((x, .inst TS dx) :: (dx, .idct (tsKV (.ref d) rd po nf)) :: (d, .sdict (nsKV g) ep) :: (nsLed NI g ++ l))) R X :=
  CC.post (CC.sub fr_in (cc_cycle hG hg hr hfrs hz hnd hcl (fun fin a b => (PL.m1_1 _ fr_out (h0 fin a b))) fun r zs C a b c e f => (PL.m1_1 _ fr_out4 (h1 r zs C a b c e f))))
end
section
variable {G : Gd} {A : Around} {l l' : Led} {X : Xp} {R : AV → Led → Prop} {x dx d : Addr} {ep : Nat} {g : List NR} {po nf : Int}
noncomputable def readyOf (g : List Nd) : List Str := (g.filter fun n => n.np == 0).map Nd.name
theorem cc_prepare (hG : Ok G) (hg : GlobOk G gtab) {n : Nat} (hr : Room A (n + 2)) (hfrs : FrsIn A l) (hz : g.length < 900) (hnd : (names (abs g)).Nodup) (hcl : ∀ y ∈ names (abs g), ∀ s ∈ succOf (abs g) y, s ∈ names (abs g))
    (h0 : ∀ q fin, FC.Topo (succOf (abs g)) fin → (∀ y ∈ names (abs g), y ∈ fin) → R .none ((q, .list ((readyOf (abs g)).map .str)) :: (x, .inst TS dx) :: (dx, .idct (tsKV (.ref d) (.ref q) po nf)) :: (d, .sdict (nsKV g) ep) :: (nsLed NI g ++ l)))
    (h1 : ∀ q e T C, C ≠ [] → (∀ y ∈ C, y ∈ names (abs g)) → (∀ y ∈ C, ∃ z ∈ C, y ∈ succOf (abs g) z) → X e ((T, .tb .none) :: (e, .exc (.ref 72) (some T)) :: (q, .list ((readyOf (abs g)).map .str)) :: (x, .inst TS dx) :: (dx, .idct (tsKV (.ref d) (.ref q) po nf)) :: (d, .sdict (nsKV g) ep) :: (nsLed NI g ++ l))) :
    CC G A (.ref 109) [.ref x] ((x, .inst TS dx) :: (dx, .idct (tsKV (.ref d) .none po nf)) :: (d, .sdict (nsKV g) ep) :: (nsLed NI g ++ l)) R X := by
  refine CC.ofK (CK.defB (bs := [(Str.ofString "self", .ref x)]) (fn_TS_prepare hG) hr (binds_plain (xs := [Str.ofString "self"]) (by lcg_sub) ⟨rfl, rfl, rfl, rfl, rfl, rfl, by decide⟩) rfl (show ([Str.ofString "self"] : List Str).Nodup by decide) (by kba_ints) (by lsm_bools) fun L env A' hE hr' hx => ?_)
  refine BB.cons ?_
  refine SS.if ?_
  kpc_turns
  refine tsG1 hG (by kas_types) (by kas_types) .none ?_
  kpc_turns
  refine Op2.isnotNoneNone ?_
  kpc_turns
  refine brF (by decide) ?_
  kpc_turns
  refine EE.listcomp (cn := [(Str.ofString ".0", .local), (Str.ofString "i", .local)]) (cn' := [(Str.ofString ".0", .local), (Str.ofString "i", .local)]) (cl2 := []) (ownk := []) (vals := [none, none]) hE ⟨rfl, rfl, rfl, by decide, rfl, by decide, by decide, by decide, by decide, rfl, rfl⟩ ?_
  kpc_turns
  refine tsG0 hG (by kas_types) (by kas_types) .ref ?_
  kpc_turns
  refine CC.values (by keq_rows) fun vw => ?_
  refine iter_values (by keq_rows) (by keq_rows) fun it => ?_
  have hkl : (nsKV g).length = g.length := by simp [nsKV]
  refine (PL.m7_4 ((nsKV g).length) _ _ _ _ _ ((L, .ns nm_TS_prepare [some (.ref x), none, none, none]) :: (x, .inst TS dx) :: (dx, .idct (tsKV (.ref d) .none po nf)) :: (nsLed NI g ++ l)) (walk_vals (G := G) (A := A') (it := it) (d := d) (kvs := nsKV g) (ep := ep) hr'.h) trivial (by rw [hkl]; lia) (by dsimp only [List.cons_append, List.nil_append]; tlg_ne) (fun C acc own cenv hown hEc => ?_))
  obtain rfl : own = [] := by simpa using hown
  refine (PL.m1_2 (fun k xs K => xs = (readyOf (abs (g.take k))).map .str ∧ K = (L, .ns nm_TS_prepare [some (.ref x), none, none, none]) :: (x, .inst TS dx) :: (dx, .idct (tsKV (.ref d) .none po nf)) :: (nsLed NI g ++ l)) (⟨rfl, rfl⟩) ?_ ?_)
  · (rintro k xs a _ K hk; refine PL.j1_1 ?_; rintro ky hka rfl ⟨rfl, rfl⟩)
    have hkg : k < g.length := by rw [← hkl]; exact hk
    have hgk : g[k]? = some g[k] := List.getElem?_eq_getElem hkg
    have hka2 : ky = g[k].nd.name ∧ a = .ref g[k].a := by
      unfold nsKV at hka
      rw [List.getElem?_map, hgk] at hka
      simp only [Option.map_some, Option.some.injEq, Prod.mk.injEq] at hka
      exact ⟨hka.1.symm, hka.2.symm⟩
    obtain ⟨rfl, rfl⟩ := hka2
    have hmem := ns_mem (NI := NI) (List.getElem_mem hkg) l
    (revert hmem; refine PL.j0_2 ?_; rintro hm1 hm2 hm3)
    have hab : abs (g.take (k + 1)) = abs (g.take k) ++ [g[k].nd] := by
      unfold abs
      rw [List.take_add_one, hgk, List.map_append]
      rfl
    dsimp only [List.cons_append, List.nil_append]
    kpc_turns
    refine IT.one ?_
    kpc_turns
    refine niG1 (x := g[k].a) (dx := g[k].dx) (kvs := []) hG (by repeat (first | exact hm1 | apply List.mem_cons_of_mem)) (by repeat (first | exact hm3 | apply List.mem_cons_of_mem)) rfl .int ?_
    kpc_turns
    refine ⟨fun hb => ?_, fun hb => ?_⟩
    · kpc_turns
      refine niG0 (x := g[k].a) (dx := g[k].dx) (kvs := []) hG (by repeat (first | exact hm1 | apply List.mem_cons_of_mem)) (by repeat (first | exact hm3 | apply List.mem_cons_of_mem)) rfl .str ?_
      refine CEnd.mk (K := (L, .ns nm_TS_prepare [some (.ref x), none, none, none]) :: (x, .inst TS dx) :: (dx, .idct (tsKV (.ref d) .none po nf)) :: (nsLed NI g ++ l)) ⟨?_, rfl⟩ (by dsimp only [List.cons_append, List.nil_append]; tlg_ne)
      rw [hab]
      unfold readyOf
      rw [List.filter_append, List.map_append, List.map_append]
      congr 1
      simp only [List.filter_cons, hb, if_true, List.filter_nil, List.map_cons, List.map_nil]
    · refine CEnd.mk (K := (L, .ns nm_TS_prepare [some (.ref x), none, none, none]) :: (x, .inst TS dx) :: (dx, .idct (tsKV (.ref d) .none po nf)) :: (nsLed NI g ++ l)) ⟨?_, rfl⟩ (by dsimp only [List.cons_append, List.nil_append]; tlg_ne)
      rw [hab]
      unfold readyOf
      rw [List.filter_append]
      simp [hb]
  · rintro xs K ⟨rfl, rfl⟩
    rw [hkl, List.take_length]
    dsimp only [List.cons_append, List.nil_append]
    kpc_turns
    refine tsS1 hG (by kas_types) (by keq_rows) ?_
    kpc_turns
    refine tsM_cyc hG (by kas_types) (by kas_types) ?_
    kpc_turns
    (revert hfrs; refine PL.j1_1 ?_; rintro es hfr hes)
    have hfrs2 : FrsIn A' ([(L, .ns nm_TS_prepare [some (.ref x), none, none, none]), (acc, .list ((readyOf (abs g)).map .str))] ++ l) := by
      refine (PL.m1_1 (env :: es) (by rw [hx.deeper]; show A.frames.map _ = _; rw [hfr]; rfl) (fun y hy => ?_))
      rcases List.mem_cons.mp hy with rfl | hy
      · exact ⟨by rw [hE.kind]; decide, L, _, _, hx.frame, .head _⟩
      · exact (hes y hy).sub fun p hp => List.mem_append_right _ hp
    refine CC.sub (l' := [(L, .ns nm_TS_prepare [some (.ref x), none, none, none]), (acc, .list ((readyOf (abs g)).map .str))] ++ ((x, .inst TS dx) :: (dx, .idct (tsKV (.ref d) (.ref acc) po nf)) :: (d, .sdict (nsKV g) ep) :: (nsLed NI g ++ l))) (by dsimp only [List.cons_append, List.nil_append]; tlg_ne) ?_
    refine cc_cycleF [(L, .ns nm_TS_prepare [some (.ref x), none, none, none]), (acc, .list ((readyOf (abs g)).map .str))] hG hg hr' hfrs2 hz hnd hcl (fun fin hT hall => ?_) fun r zs C hz1 hz2 c1 c2 c3 => ?_
    · dsimp only [List.cons_append, List.nil_append]
      kpc_turns
      refine SS.if ?_
      kpc_turns
      refine brF (by decide) ?_
      kpc_turns
      exact (PL.m1_1 _ (by tlg_ne) (h0 acc fin hT hall))
    · dsimp only [List.cons_append, List.nil_append]
      kpc_turns
      refine SS.if ?_
      kpc_turns
      refine Truth.list (by keq_rows) (by lia) ?_
      refine brT (by cases zs with | nil => exact absurd rfl hz1 | cons a b => simp) ?_
      refine BB.cons ?_
      refine SS.raiseOwn PySem.F.excBase_ValueError hG.K (K := KK G.w.params) (C := 72) rfl (mN := fun nm => nsFind _ nm) (PL.m3_3 _ _ _ (hG.K 71 _ rfl) rfl ?_ (fun _ => rfl)) rfl hr'.h ?_
      · exact keysStr_of rfl
      kpc_turns
      refine ⟨rfl, ?_⟩
      kpc_turns
      refine EE.joined1 ?_
      kpc_turns
      refine ⟨by show 2 ≤ 100; decide, fun e => ?_⟩
      have hfrA : A'.frames = some (env :: es) := by rw [hx.deeper]; show A.frames.map _ = some (env :: es); rw [hfr]; rfl
      refine leaveX_own .head hfrA (fun y hy => ?_) hx.frame fun T => (PL.m1_1 _ ?_ (h1 acc e T C c1 c2 c3))
      · rcases List.mem_cons.mp hy with rfl | hy
        · exact ⟨by rw [hE.kind]; decide, L, _, _, hx.frame, by kas_types⟩
        · refine (hes y hy).sub fun p hp => ?_
          repeat (first | exact List.mem_append_right _ hp | apply List.mem_cons_of_mem)
      · tlg_ne
end
section
variable {G : Gd} {A : Around} {l l' : Led} {X : Xp} {R : AV → Led → Prop} {x dx : Addr}
theorem ck_tsinit (hG : Ok G) (hg : GlobOk G gtab) {n : Nat} (hr : Room A (n + 1)) (h : ∀ d ep, R .none ((x, .inst TS dx) :: (dx, .idct (tsKV (.ref d) .none 0 0)) :: (d, .sdict [] ep) :: l)) : CK G A (.ref 90) [.ref x] ((x, .inst TS dx) :: (dx, .idct []) :: l) R X := by
  refine CK.defB (bs := [(Str.ofString "self", .ref x), (Str.ofString "graph", .none)]) (fn_TS___init__ hG) hr (fun vs s hvs N => ?_) rfl (show ([Str.ofString "self", Str.ofString "graph"] : List Str).Nodup by decide) (by kba_ints) (by lsm_bools) fun L env A' hE hr' hx => ?_
  · (refine PL.x1_1 (get1 hvs) ?_; rintro v rfl hv)
    cases hv
    refine (PL.m1_1 ([(Str.ofString "self", .ref x), (Str.ofString "graph", .none)]) (binds_dfl rfl rfl rfl rfl rfl rfl (by decide) (N.keep _ _ (hG.K _ _ rfl)) rfl) (.cons ⟨rfl, rfl⟩ (.cons ⟨rfl, rfl⟩ .nil)))
  refine BB.cons ?_
  kpc_turns
  refine EE.dict0 hg fun d ep => ?_
  kpc_turns
  refine tsSet (kvs' := [(Str.ofString "_node2info", .ref d)]) hG (ts_a0 _).2 (by kas_types) (by keq_rows) rfl (by decide) ?_
  kpc_turns
  refine tsSet (kvs' := [(Str.ofString "_node2info", .ref d), (Str.ofString "_ready_nodes", .none)]) hG (ts_a1 _).2 (by kas_types) (by keq_rows) rfl (by simp) ?_
  kpc_turns
  refine tsSet (kvs' := [(Str.ofString "_node2info", .ref d), (Str.ofString "_ready_nodes", .none), (Str.ofString "_npassedout", .int 0)]) hG (ts_a2 _).2 (by kas_types) (by keq_rows) rfl (by simp) ?_
  kpc_turns
  refine tsSet (kvs' := tsKV (.ref d) .none 0 0) hG (ts_a3 _).2 (by kas_types) (by keq_rows) rfl (by simp) ?_
  kpc_turns
  refine SS.if ?_
  kpc_turns
  refine Op2.isnotNoneNone ?_
  kpc_turns
  refine brF (by decide) ?_
  kpc_turns
  exact (PL.m1_1 _ (by tlg_ne) (h d ep))
theorem cc_newTS (hG : Ok G) (hg : GlobOk G gtab) {n : Nat} (hr : Room A (n + 2)) (h : ∀ x dx d ep, R (.ref x) ((x, .inst TS dx) :: (dx, .idct (tsKV (.ref d) .none 0 0)) :: (d, .sdict [] ep) :: l)) : CC G A (.ref TS) [] l R X :=
  CC.make hG.K hr (ts_makes _) (ts_init _) (ts_initT _) fun x dx A2 hr2 => ck_tsinit hG hg hr2 fun d ep => ⟨rfl, h x dx d ep⟩
end
section
variable {G : Gd} {A : Around} {l l' : Led} {X : Xp} {R : AV → Led → Prop}
noncomputable def takes (part sign : Str) : Bool :=
  if (part == Str.ofString ".") = true then true
  else if (Txt.slice part none (some 2) == Str.ofString "[^") = true then !(!(Builtin.Str.occurrences (Txt.slice part (some 2) (some (-1))) sign 0 (Txt.slice part (some 2) (some (-1))).length 1).isEmpty)
  else if (Txt.slice part none (some 1) == Str.ofString "[") = true then !(Builtin.Str.occurrences (Txt.slice part (some 1) (some (-1))) sign 0 (Txt.slice part (some 1) (some (-1))).length 1).isEmpty
  else sign == Txt.slice part (some (-1)) none
noncomputable abbrev stepEnds := stepEndsB takes
noncomputable abbrev takenOf := takenOfB takes
theorem cc_takes (hG : Ok G) {n : Nat} (hr : Room A (n + 1)) {part sign : Str} (hz : part.length ≤ 1000) (h : R (.bool (takes part sign)) l) : CC G A (.ref 222) [.str part, .str sign] l R X := by
  refine CC.def0 (fn_law_takes hG) hr [Str.ofString "part", Str.ofString "sign"] (by lcg_sub) ⟨rfl, rfl, rfl, rfl, rfl, rfl, by decide⟩ rfl (by kba_ints) (by lsm_bools) (by kbo_bools) fun L env A' hE hr' hx => ?_
  unfold takes at h
  refine BB.cons ?_
  refine SS.if ?_
  kpc_turns
  refine ⟨fun hb => ?_, fun hb => ?_⟩
  · rw [if_pos hb] at h
    kpc_turns
    exact (PL.m1_1 l (by tlg_ne) h)
  rw [if_neg (by rw [hb]; decide)] at h
  kpc_turns
  refine SS.if ?_
  kpc_turns
  refine EE.slice ?_
  refine EPt.no ?_
  refine EPt.yes ?_
  kpc_turns
  intro sl
  refine SubOp.str ?_
  refine Get.strSlice (by keq_rows) .none .int (by lia) ?_
  kpc_turns
  refine ⟨fun hb => ?_, fun hb => ?_⟩
  · rw [if_pos hb] at h
    kpc_turns
    refine EE.slice ?_
    refine EPt.yes ?_
    kpc_turns
    refine EPt.yes ?_
    kpc_turns
    intro sl2
    refine SubOp.str ?_
    refine Get.strSlice (by keq_rows) .int .int (by lia) ?_
    refine Op2.notinText ?_
    kpc_turns
    exact (PL.m1_1 l (by tlg_ne) h)
  rw [if_neg (by rw [hb]; decide)] at h
  kpc_turns
  refine SS.if ?_
  kpc_turns
  refine EE.slice ?_
  refine EPt.no ?_
  refine EPt.yes ?_
  kpc_turns
  intro sl3
  refine SubOp.str ?_
  refine Get.strSlice (by keq_rows) .none .int (by lia) ?_
  kpc_turns
  refine ⟨fun hb => ?_, fun hb => ?_⟩
  · rw [if_pos hb] at h
    kpc_turns
    refine EE.slice ?_
    refine EPt.yes ?_
    kpc_turns
    refine EPt.yes ?_
    kpc_turns
    intro sl2
    refine SubOp.str ?_
    refine Get.strSlice (by keq_rows) .int .int (by lia) ?_
    refine Op2.inText ?_
    kpc_turns
    exact (PL.m1_1 l (by tlg_ne) h)
  rw [if_neg (by rw [hb]; decide)] at h
  kpc_turns
  refine EE.slice ?_
  refine EPt.yes ?_
  kpc_turns
  refine EPt.no ?_
  intro sl2
  refine SubOp.str ?_
  refine Get.strSlice (by keq_rows) .int .none (by lia) ?_
  kpc_turns
  exact (PL.m1_1 l (by tlg_ne) h)
end
section
variable {G : Gd} {A : Around} {l l' : Led} {X : Xp} {R : AV → Led → Prop}
theorem cc_taken (hG : Ok G) (hg : GlobOk G gtab) {n : Nat} (hr : Room A (n + 3)) {nl : Addr} {glob : Str} {nms : List Str} {parts : List Prt} (hz : glob.length ≤ 100) (hrun : truns glob glob.length 0 [] = some parts) (hpz : parts.length < 1000) (hpl : ∀ s, some s ∈ parts → s.length ≤ 1000) (hnz : nms.length < 1000) (hnl : ∀ s ∈ nms, s.length < 1000)
    (h : ∀ r, R (.ref r) ((r, .list ((takenOf parts nms).map .str)) :: (177, .tab) :: (nl, .list (nms.map .str)) :: l)) : CC G A (.ref 227) [.str glob, .ref nl] ((177, .tab) :: (nl, .list (nms.map .str)) :: l) R X := by
  refine CC.def3 (fn_law_taken hG) hr [Str.ofString "glob", Str.ofString "names"] (by lcg_sub) ⟨rfl, rfl, rfl, rfl, rfl, rfl, by decide⟩ rfl (by kba_ints) (by lsm_bools) (by kbo_bools) fun L c0 c1 c2 env A' hE hr' hx => ?_
  refine BB.cons ?_
  kpc_turns
  refine ⟨by decide, fun star => ?_⟩
  kpc_turns
  refine cc_translate hG hg hr' (by keq_rows) hz hrun fun ps => ?_
  kpc_turns
  refine ⟨by decide, fun tk => ?_⟩
  kpc_turns
  refine SS.forH ?_
  kpc_turns
  refine iter_list (by keq_rows) fun it => ?_
  refine ⟨nms.length, _, _, _, _, _, (L, .ns nm_law_taken [some (.str glob), some (.ref nl), some (.ref star), some (.ref ps), some (.ref tk), none, none, none, none, none, none]) :: (star, .list [.str (Str.ofString "a star of the law's own")]) :: (ps, .list (parts.map (prtAV star))) :: (tk, .list ((takenOf parts (nms.take 0)).map .str)) :: (c0, .cell none) :: (c1, .cell none) :: (c2, .cell none) :: (177, .tab) :: l, by
    have := walk_list (G := G) (A := A') (it := it) (p := nl) (xs := nms.map .str) hr'.h
    rw [List.length_map] at this
    exact this, trivial, ?_, fun k K => K = (L, .ns nm_law_taken [some (.str glob), some (.ref nl), some (.ref star), some (.ref ps), some (.ref tk), none, none, none, none, none, none]) :: (star, .list [.str (Str.ofString "a star of the law's own")]) :: (ps, .list (parts.map (prtAV star))) :: (tk, .list ((takenOf parts (nms.take k)).map .str)) :: (c0, .cell none) :: (c1, .cell none) :: (c2, .cell none) :: (177, .tab) :: l, ?_, ?_, ?_⟩
  · dsimp only [List.cons_append, List.nil_append]
    show Sub ((it, .listiter nl 0) :: (nl, .list (nms.map .str)) :: (L, .ns nm_law_taken [some (.str glob), some (.ref nl), some (.ref star), some (.ref ps), some (.ref tk), none, none, none, none, none, none]) :: (star, .list [.str (Str.ofString "a star of the law's own")]) :: (ps, .list (parts.map (prtAV star))) :: (tk, .list []) :: (c0, .cell none) :: (c1, .cell none) :: (c2, .cell none) :: (177, .tab) :: l) _
    tlg_ne
  · rfl
  · rintro FF1 hF1 k _ _ K hk ⟨hpk, rfl⟩ rfl
    rw [List.getElem?_map, Option.map_eq_some_iff] at hpk
    (revert hpk; refine PL.j1_1 ?_; rintro nm hpk rfl)
    have hnm : nm.length < 1000 := hnl nm (List.mem_of_getElem? hpk)
    dsimp only [List.cons_append, List.nil_append]
    kpc_turns
    refine ⟨by decide, fun e0 => ?_⟩
    kpc_turns
    refine SS.forH ?_
    kpc_turns
    refine iter_list (by keq_rows) fun it2 => ?_
    refine ⟨parts.length, _, _, _, _, _, (L, .ns nm_law_taken [some (.str glob), some (.ref nl), some (.ref star), some (.ref ps), some (.ref tk), none, none, none, none, none, none]) :: (star, .list [.str (Str.ofString "a star of the law's own")]) :: (tk, .list ((takenOf parts (nms.take k)).map .str)) :: (c0, .cell none) :: (c1, .cell (some (.ref e0))) :: (c2, .cell (some (.str nm))) :: (e0, .list (natsAV [0])) :: (177, .tab) :: (it, .listiter nl (k + 1)) :: (nl, .list (nms.map .str)) :: l, by
      have := walk_list (G := G) (A := A') (it := it2) (p := ps) (xs := parts.map (prtAV star)) hr'.h
      rw [List.length_map] at this
      exact this, trivial, ?_, fun j K => ∃ e es, es = (parts.take j).foldl (stepEnds nm) [0] ∧ es.length ≤ 1001 ∧ (∀ i ∈ es, i ≤ 1001) ∧ K = (L, .ns nm_law_taken [some (.str glob), some (.ref nl), some (.ref star), some (.ref ps), some (.ref tk), none, none, none, none, none, none]) :: (star, .list [.str (Str.ofString "a star of the law's own")]) :: (tk, .list ((takenOf parts (nms.take k)).map .str)) :: (c0, .cell none) :: (c1, .cell (some (.ref e))) :: (c2, .cell (some (.str nm))) :: (e, .list (natsAV es)) :: (177, .tab) :: (it, .listiter nl (k + 1)) :: (nl, .list (nms.map .str)) :: l, ?_, ?_, ?_⟩
    · dsimp only [List.cons_append, List.nil_append]
      show Sub ((it2, .listiter ps 0) :: (ps, .list (parts.map (prtAV star))) :: (L, .ns nm_law_taken [some (.str glob), some (.ref nl), some (.ref star), some (.ref ps), some (.ref tk), none, none, none, none, none, none]) :: (star, .list [.str (Str.ofString "a star of the law's own")]) :: (tk, .list ((takenOf parts (nms.take k)).map .str)) :: (c0, .cell none) :: (c1, .cell (some (.ref e0))) :: (c2, .cell (some (.str nm))) :: (e0, .list ([AV.int 0])) :: (177, .tab) :: (it, .listiter nl (k + 1)) :: (nl, .list (nms.map .str)) :: l) _
      tlg_ne
    · exact (PL.m2_3 e0 ([0]) rfl (by simp) (by simp) rfl)
    · (rintro FF2 hF2 j _ _ K hj ⟨hpj, rfl⟩; refine PL.j2_3 ?_; rintro e es hes hel hei rfl)
      rw [List.getElem?_map, Option.map_eq_some_iff] at hpj
      (revert hpj; refine PL.j1_1 ?_; rintro pt hpj rfl)
      dsimp only [List.cons_append, List.nil_append]
      cases pt with
      | none =>
        dsimp only [prtAV]
        kpc_turns
        refine SS.if ?_
        kpc_turns
        refine Op2.isRef ?_
        kpc_turns
        refine brT (by decide) ?_
        refine BB.cons ?_
        refine SS.assignCompC hE (by kct_strs) ?_
        refine EE.listcomp (cn := [(Str.ofString ".0", .local), (Str.ofString "end", .local), (Str.ofString "ends", .free)]) (cn' := [(Str.ofString ".0", .local), (Str.ofString "end", .local), (Str.ofString "ends", .cell)]) (cl2 := [(Str.ofString "ends", c1)]) (ownk := []) (vals := [none, none, none]) hE ⟨rfl, rfl, rfl, rfl, rfl, by decide, by decide, (show ([Str.ofString "ends"] : List Str).Nodup by decide), by decide, rfl, rfl⟩ ?_
        kpc_turns
        refine CC.len_str (by lia) ?_
        kpc_turns
        rewrite [show ((nm.length : Int) + 1) = ((nm.length + 1 : Nat) : Int) from rfl]
        refine CC.range1 fun rg => ?_
        refine iter_range (by keq_rows) (by lia) fun it3 => ?_
        refine (PL.m7_4 (nm.length + 1) _ _ _ _ _ ((L, .ns nm_law_taken [some (.str glob), some (.ref nl), some (.ref star), some (.ref ps), some (.ref tk), none, none, none, none, none, none]) :: (star, .list [.str (Str.ofString "a star of the law's own")]) :: (ps, .list (parts.map (prtAV star))) :: (tk, .list ((takenOf parts (nms.take k)).map .str)) :: (c0, .cell none) :: (c1, .cell (some (.ref e))) :: (c2, .cell (some (.str nm))) :: (e, .list (natsAV es)) :: (177, .tab) :: (it2, .listiter ps (j + 1)) :: (it, .listiter nl (k + 1)) :: (nl, .list (nms.map .str)) :: l) (walk_range (G := G) (A := A') (it := it3) (a := 0) (n := nm.length + 1) hr'.h) trivial (by lia) (by dsimp only [List.cons_append, List.nil_append]; tlg_ne) (fun C acc own cenv hown hEc => ?_))
        obtain rfl : own = [] := by simpa using hown
        rw [List.nil_append] at hEc
        refine (PL.m1_2 (fun k3 xs K => xs = natsAV ((List.range k3).filter (starP es)) ∧ K = (L, .ns nm_law_taken [some (.str glob), some (.ref nl), some (.ref star), some (.ref ps), some (.ref tk), none, none, none, none, none, none]) :: (star, .list [.str (Str.ofString "a star of the law's own")]) :: (ps, .list (parts.map (prtAV star))) :: (tk, .list ((takenOf parts (nms.take k)).map .str)) :: (c0, .cell none) :: (c1, .cell (some (.ref e))) :: (c2, .cell (some (.str nm))) :: (e, .list (natsAV es)) :: (177, .tab) :: (it2, .listiter ps (j + 1)) :: (it, .listiter nl (k + 1)) :: (nl, .list (nms.map .str)) :: l) (⟨rfl, rfl⟩) ?_ ?_)
        · rintro k3 xs a _ K hk3 ⟨rfl, rfl⟩ ⟨rfl, rfl⟩
          dsimp only [List.cons_append, List.nil_append]
          rewrite [show ((0 : Int) + (k3 : Int)) = ((k3 : Nat) : Int) from by lia]
          kpc_turns
          refine IT.one ?_
          kpc_turns
          refine ⟨by decide, fun em => ?_⟩
          refine Op2.neNil hr' (by kas_types) (by kas_types) ?_
          kpc_turns
          refine ⟨fun hb => ?_, fun hb => ?_⟩
          · cases es with
            | nil => cases hb
            | cons e1 es =>
              kpc_turns
              refine Get.nats (i := 0) (by kas_types) rfl (by decide) ?_
              kpc_turns
              refine ⟨fun hb2 => ?_, fun hb2 => ?_⟩
              · kpc_turns
                refine brT (by decide) ?_
                kpc_turns
                refine CEnd.mk ⟨?_, rfl⟩ (by dsimp only [List.cons_append, List.nil_append]; tlg_ne)
                exact (rfilt_yes _ (by show decide (e1 ≤ k3) = true; simpa using hb2)).symm
              · refine brF (by decide) ?_
                refine CEnd.mk ⟨?_, rfl⟩ (by dsimp only [List.cons_append, List.nil_append]; tlg_ne)
                exact (rfilt_no _ (by show decide (e1 ≤ k3) = false; simpa using hb2)).symm
          · refine brF (by decide) ?_
            refine CEnd.mk ⟨?_, rfl⟩ (by dsimp only [List.cons_append, List.nil_append]; tlg_ne)
            cases es with
            | nil => exact (rfilt_no _ rfl).symm
            | cons e1 es => cases hb
        · rintro xs K ⟨rfl, rfl⟩
          dsimp only [List.cons_append, List.nil_append]
          kpc_turns
          refine hF2.next (L := (L, .ns nm_law_taken [some (.str glob), some (.ref nl), some (.ref star), some (.ref ps), some (.ref tk), none, none, none, none, none, none]) :: (star, .list [.str (Str.ofString "a star of the law's own")]) :: (tk, .list ((takenOf parts (nms.take k)).map .str)) :: (c0, .cell none) :: (c1, .cell (some (.ref acc))) :: (c2, .cell (some (.str nm))) :: (acc, .list (natsAV ((List.range (nm.length + 1)).filter (starP es)))) :: (177, .tab) :: (it, .listiter nl (k + 1)) :: (nl, .list (nms.map .str)) :: l) (PL.m2_3 acc _ ?_ (stepEndsB_len (tk := takes) (by lia) hel none) (stepEndsB_le (tk := takes) (by lia) none) rfl) (by dsimp only [List.cons_append, List.nil_append]; tlg_ne)
          rw [foldl_take _ _ hpj, ← hes]
      | some s =>
        have hsz : s.length ≤ 1000 := hpl s (List.mem_of_getElem? hpj)
        dsimp only [prtAV]
        kpc_turns
        refine SS.if ?_
        kpc_turns
        refine Op2.isStrRef ?_
        kpc_turns
        refine ⟨(fun hf => by cases hf), fun _ => ?_⟩
        refine BB.cons ?_
        refine SS.assignCompC hE (by kct_strs) ?_
        refine EE.listcomp (cn := [(Str.ofString ".0", .local), (Str.ofString "end", .local), (Str.ofString "len", .globalImplicit), (Str.ofString "_law_takes", .globalImplicit), (Str.ofString "name", .free), (Str.ofString "part", .free)]) (cn' := [(Str.ofString ".0", .local), (Str.ofString "end", .local), (Str.ofString "len", .globalImplicit), (Str.ofString "_law_takes", .globalImplicit), (Str.ofString "name", .cell), (Str.ofString "part", .cell)]) (cl2 := [(Str.ofString "part", c0), (Str.ofString "name", c2)]) (ownk := []) (vals := [none, none, none, none, none, none]) hE ⟨rfl, rfl, rfl, rfl, rfl, by decide, by decide, (show ([Str.ofString "part", Str.ofString "name"] : List Str).Nodup by decide), by decide, rfl, rfl⟩ ?_
        kpc_turns
        refine iter_list (by keq_rows) fun it3 => ?_
        refine (PL.m7_4 es.length _ _ _ _ _ ((L, .ns nm_law_taken [some (.str glob), some (.ref nl), some (.ref star), some (.ref ps), some (.ref tk), none, none, none, none, none, none]) :: (star, .list [.str (Str.ofString "a star of the law's own")]) :: (tk, .list ((takenOf parts (nms.take k)).map .str)) :: (c0, .cell (some (.str s))) :: (c1, .cell (some (.ref e))) :: (c2, .cell (some (.str nm))) :: (177, .tab) :: (ps, .list (parts.map (prtAV star))) :: (it2, .listiter ps (j + 1)) :: (it, .listiter nl (k + 1)) :: (nl, .list (nms.map .str)) :: l) (by
          have := walk_list (G := G) (A := A') (it := it3) (p := e) (xs := natsAV es) hr'.h
          rw [List.length_map] at this
          exact this) trivial (by lia) (by dsimp only [List.cons_append, List.nil_append]; tlg_ne) (fun C acc own cenv hown hEc => ?_))
        obtain rfl : own = [] := by simpa using hown
        rw [List.nil_append] at hEc
        refine (PL.m1_2 (fun k3 xs K => xs = (((es.take k3).filter (textP takes nm s)).map fun i : Nat => AV.int ((i + 1 : Nat) : Int)) ∧ K = (L, .ns nm_law_taken [some (.str glob), some (.ref nl), some (.ref star), some (.ref ps), some (.ref tk), none, none, none, none, none, none]) :: (star, .list [.str (Str.ofString "a star of the law's own")]) :: (tk, .list ((takenOf parts (nms.take k)).map .str)) :: (c0, .cell (some (.str s))) :: (c1, .cell (some (.ref e))) :: (c2, .cell (some (.str nm))) :: (177, .tab) :: (ps, .list (parts.map (prtAV star))) :: (it2, .listiter ps (j + 1)) :: (it, .listiter nl (k + 1)) :: (nl, .list (nms.map .str)) :: l) (⟨rfl, rfl⟩) ?_ ?_)
        · rintro k3 xs a _ K hk3 ⟨hpk3, rfl⟩ ⟨rfl, rfl⟩
          rw [List.getElem?_map, Option.map_eq_some_iff] at hpk3
          (revert hpk3; refine PL.j1_1 ?_; rintro e1 hpk3 rfl)
          have he1 : e1 ≤ 1001 := hei e1 (List.mem_of_getElem? hpk3)
          dsimp only [List.cons_append, List.nil_append]
          kpc_turns
          refine IT.one ?_
          kpc_turns
          refine CC.len_str (by lia) ?_
          kpc_turns
          refine ⟨fun hb => ?_, fun hb => ?_⟩
          · have hlt : e1 < nm.cps.size := by
              have h1 : decide ((e1 : Int) < (nm.length : Int)) = true := hb
              have h2 := of_decide_eq_true h1
              have h3 : nm.length = nm.cps.size := rfl
              lia
            have hc : nm.cps[e1]? = some nm.cps[e1] := Array.getElem?_eq_getElem hlt
            kpc_turns
            refine Get.str (c := nm.cps[e1]) (by lia) (by lia) ?_ ?_
            · have h0 : seqIndex? (e1 : Int) nm.length = some e1 := by
                have h3 : nm.length = nm.cps.size := rfl
                unfold seqIndex?
                simp
                lia
              rw [h0]
              exact hc
            kpc_turns
            refine cc_takes hG hr' hsz ?_
            kpc_turns
            refine ⟨fun hb2 => ?_, fun hb2 => ?_⟩
            · kpc_turns
              refine brT (by decide) ?_
              kpc_turns
              refine CEnd.mk ⟨?_, rfl⟩ (by dsimp only [List.cons_append, List.nil_append]; tlg_ne)
              refine (filt_yes _ hpk3 ?_).symm
              unfold textP
              rw [hc]
              exact hb2
            · refine brF (by decide) ?_
              refine CEnd.mk ⟨?_, rfl⟩ (by dsimp only [List.cons_append, List.nil_append]; tlg_ne)
              refine (filt_no _ hpk3 ?_).symm
              unfold textP
              rw [hc]
              exact hb2
          · refine brF (by decide) ?_
            refine CEnd.mk ⟨?_, rfl⟩ (by dsimp only [List.cons_append, List.nil_append]; tlg_ne)
            refine (filt_no _ hpk3 ?_).symm
            have h1 : decide ((e1 : Int) < (nm.length : Int)) = false := hb
            have h2 := of_decide_eq_false h1
            have h3 : nm.length = nm.cps.size := rfl
            unfold textP
            rw [Array.getElem?_eq_none (by lia)]
        · rintro xs K ⟨rfl, rfl⟩
          rw [List.take_length]
          dsimp only [List.cons_append, List.nil_append]
          kpc_turns
          refine hF2.next (L := (L, .ns nm_law_taken [some (.str glob), some (.ref nl), some (.ref star), some (.ref ps), some (.ref tk), none, none, none, none, none, none]) :: (star, .list [.str (Str.ofString "a star of the law's own")]) :: (tk, .list ((takenOf parts (nms.take k)).map .str)) :: (c0, .cell none) :: (c1, .cell (some (.ref acc))) :: (c2, .cell (some (.str nm))) :: (acc, .list (natsAV ((es.filter (textP takes nm s)).map (· + 1)))) :: (177, .tab) :: (it, .listiter nl (k + 1)) :: (nl, .list (nms.map .str)) :: l) (PL.m2_3 acc ((es.filter (textP takes nm s)).map (· + 1)) ?_ (stepEndsB_len (tk := takes) (by lia) hel (some s)) (stepEndsB_le (tk := takes) (by lia) (some s)) rfl) ?_
          · rw [foldl_take _ _ hpj, ← hes]
            rfl
          · have hm : natsAV ((es.filter (textP takes nm s)).map (· + 1)) = ((es.filter (textP takes nm s)).map fun i : Nat => AV.int ((i + 1 : Nat) : Int)) := by
              rw [natsAV, List.map_map]
              rfl
            rewrite [hm]
            dsimp only [List.cons_append, List.nil_append]
            tlg_ne
    · (rintro K; refine PL.j2_3 ?_; rintro e es hes hel hei rfl)
      rw [List.take_length] at hes
      dsimp only [List.cons_append, List.nil_append]
      kpc_turns
      refine SS.if ?_
      kpc_turns
      refine CC.len_str (by lia) ?_
      kpc_turns
      refine Op2.inNats hr' (by kas_types) ?_
      kpc_turns
      have hcn : es.contains nm.length = (parts.foldl (stepEnds nm) [0]).contains nm.length := by rw [hes]
      have htk : (takenOf parts (nms.take k)).length < 1000000 := Nat.lt_of_le_of_lt (List.length_filter_le _ _) (by rw [List.length_take]; lia)
      refine ⟨fun hb => ?_, fun hb => ?_⟩
      · kpc_turns
        refine CC.appends (by keq_rows) htk ?_
        kpc_turns
        refine hF1.next rfl ?_
        have hm : takenOf parts (nms.take (k + 1)) = takenOf parts (nms.take k) ++ [nm] := by
          have h2 := filt_yes (p := fun nm => (parts.foldl (stepEndsB takes nm) [0]).contains nm.length) id hpk (hcn ▸ hb)
          simp only [List.map_id, id] at h2
          exact h2
        rewrite [hm]
        dsimp only [List.cons_append, List.nil_append]
        tlg_ne
      · kpc_turns
        refine hF1.next rfl ?_
        have hm : takenOf parts (nms.take (k + 1)) = takenOf parts (nms.take k) := by
          have h2 := filt_no (p := fun nm => (parts.foldl (stepEndsB takes nm) [0]).contains nm.length) id hpk (hcn ▸ hb)
          simp only [List.map_id, id] at h2
          exact h2
        rewrite [hm]
        dsimp only [List.cons_append, List.nil_append]
        tlg_ne
  · rintro K rfl
    dsimp only [List.cons_append, List.nil_append]
    kpc_turns
    rw [List.take_length]
    refine (PL.m1_1 _ (by tlg_ne) (h tk))
end
section
variable {G : Gd} {A : Around} {l l' : Led} {X : Xp} {R : AV → Led → Prop}
noncomputable def inT (x y : Str) : Bool := !(Builtin.Str.occurrences x y 0 x.length 1).isEmpty
noncomputable def kindsOf (name : Str) : List Bool :=
  [Txt.slice name none (some 1) == Str.ofString "a", Txt.slice name (some (-1)) none == Str.ofString "b", (name.length : Int) == 1, inT name (Str.ofString "."), ![Str.ofString "", Str.ofString "a"].contains (Txt.slice name none (some 1)), decide ((1 : Int) < (name.length : Int)),
   decide (0 ≤ findOf name (Str.ofString "a")) && inT (Txt.slice name (some (findOf name (Str.ofString "a"))) none) (Str.ofString "b"),
   ((name.length : Int) == 2) && (match name.cps[0]? with
    | some c => inT (Str.ofString "ab") ⟨#[c]⟩
    | none => false)]
theorem cc_kinds (hG : Ok G) (hg : GlobOk G gtab) {n : Nat} (hr : Room A (n + 1)) {name : Str} (hz : name.length ≤ 1000) (h : ∀ r, R (.ref r) ((r, .list ((kindsOf name).map .bool)) :: l)) : CC G A (.ref 244) [.str name] l R X := by
  refine CC.def0 (fn_law_kinds hG) hr [Str.ofString "name"] (by lcg_sub) ⟨rfl, rfl, rfl, rfl, rfl, rfl, by decide⟩ rfl (by kba_ints) (by lsm_bools) (by kbo_bools) fun L env A' hE hr' hx => ?_
  refine BB.cons ?_
  kpc_turns
  refine EE.slice ?_
  refine EPt.no ?_
  refine EPt.yes ?_
  kpc_turns
  intro sl
  refine SubOp.str ?_
  refine Get.strSlice (by keq_rows) .none .int (by lia) ?_
  kpc_turns
  refine EE.slice ?_
  refine EPt.yes ?_
  kpc_turns
  refine EPt.no ?_
  intro sl2
  refine SubOp.str ?_
  refine Get.strSlice (by keq_rows) .int .none (by lia) ?_
  kpc_turns
  refine CC.len_str (by lia) ?_
  kpc_turns
  refine Op2.inText ?_
  kpc_turns
  refine EE.slice ?_
  refine EPt.no ?_
  refine EPt.yes ?_
  kpc_turns
  intro sl3
  refine SubOp.str ?_
  refine Get.strSlice (by keq_rows) .none .int (by lia) ?_
  kpc_turns
  refine ⟨by show 2 ≤ 1000; decide, fun ea => ?_⟩
  refine Op2.notinStrs (ss := [Str.ofString "", Str.ofString "a"]) Pick.head ?_
  kpc_turns
  refine CC.len_str (by lia) ?_
  kpc_turns
  refine ⟨by show 6 ≤ 1000; decide, fun sh => ?_⟩
  kpc_turns
  refine CC.find ?_
  kpc_turns
  refine ⟨fun hb => ?_, fun hb => ?_⟩
  · unfold kindsOf at h
    rw [hb] at h
    kpc_turns
    refine EE.slice ?_
    refine EPt.yes ?_
    kpc_turns
    refine EPt.no ?_
    intro sl4
    refine SubOp.str ?_
    refine Get.strSlice (by keq_rows) .int .none (by lia) ?_
    refine Op2.inText ?_
    kpc_turns
    refine CC.len_str (by lia) ?_
    kpc_turns
    refine ⟨fun hc => ?_, fun hc => ?_⟩
    · have h2 : (name.length : Int) = 2 := by simpa using hc
      have hlt : 0 < name.cps.size := by
        have h3 : name.length = name.cps.size := rfl
        lia
      have hc0 : name.cps[0]? = some name.cps[0] := Array.getElem?_eq_getElem hlt
      rw [hc, hc0] at h
      kpc_turns
      refine Get.str (c := name.cps[0]) (by lia) (by lia) ?_ ?_
      · have h0 : seqIndex? 0 name.length = some 0 := by
          have h3 : name.length = name.cps.size := rfl
          unfold seqIndex?
          simp
          lia
        rw [h0]
        exact hc0
      kpc_turns
      refine Op2.inText ?_
      kpc_turns
      refine ⟨by show 2 ≤ 1000; decide, fun pr => ?_⟩
      refine Op2.ladd (by kas_types) (by kas_types) (by show 6 + 2 ≤ 1000000; decide) fun r => ?_
      kpc_turns
      exact (PL.m1_1 ((r, _) :: l) (.cons .head (.refl _) (by tlg_ne)) (h r))
    · rw [hc] at h
      kpc_turns
      rewrite [hc]
      refine ⟨by show 2 ≤ 1000; decide, fun pr => ?_⟩
      refine Op2.ladd (by kas_types) (by kas_types) (by show 6 + 2 ≤ 1000000; decide) fun r => ?_
      kpc_turns
      exact (PL.m1_1 ((r, _) :: l) (.cons .head (.refl _) (by tlg_ne)) (h r))
  · unfold kindsOf at h
    rw [hb] at h
    rewrite [hb]
    kpc_turns
    refine CC.len_str (by lia) ?_
    kpc_turns
    refine ⟨fun hc => ?_, fun hc => ?_⟩
    · have h2 : (name.length : Int) = 2 := by simpa using hc
      have hlt : 0 < name.cps.size := by
        have h3 : name.length = name.cps.size := rfl
        lia
      have hc0 : name.cps[0]? = some name.cps[0] := Array.getElem?_eq_getElem hlt
      rw [hc, hc0] at h
      kpc_turns
      refine Get.str (c := name.cps[0]) (by lia) (by lia) ?_ ?_
      · have h0 : seqIndex? 0 name.length = some 0 := by
          have h3 : name.length = name.cps.size := rfl
          unfold seqIndex?
          simp
          lia
        rw [h0]
        exact hc0
      kpc_turns
      refine Op2.inText ?_
      kpc_turns
      refine ⟨by show 2 ≤ 1000; decide, fun pr => ?_⟩
      refine Op2.ladd (by kas_types) (by kas_types) (by show 6 + 2 ≤ 1000000; decide) fun r => ?_
      kpc_turns
      exact (PL.m1_1 ((r, _) :: l) (.cons .head (.refl _) (by tlg_ne)) (h r))
    · rw [hc] at h
      kpc_turns
      rewrite [hc]
      refine ⟨by show 2 ≤ 1000; decide, fun pr => ?_⟩
      refine Op2.ladd (by kas_types) (by kas_types) (by show 6 + 2 ≤ 1000000; decide) fun r => ?_
      kpc_turns
      exact (PL.m1_1 ((r, _) :: l) (.cons .head (.refl _) (by tlg_ne)) (h r))
end
noncomputable def letters : List Str := [Str.ofString "a", Str.ofString "b", Str.ofString ".", Str.ofString ""]
noncomputable def letterAt (x : Int) (k : Nat) : Str := letters.getD (((x.fdiv 64).fdiv (4 ^ k)).fmod 4).toNat (Str.ofString "")
noncomputable def nameOf (x : Int) : Str := Txt.join (Str.ofString "") ((List.range 3).map (letterAt x))
noncomputable def names0 : List Str := [Str.ofString "a", Str.ofString "b", Str.ofString "ab", Str.ofString "b.a"]
noncomputable def addName (ns : List Str) (x : Int) : List Str := if (!ns.contains (nameOf x)) = true then ns ++ [nameOf x] else ns
noncomputable abbrev namesOf (xs : List Int) : List Str := xs.foldl addName names0
theorem letter_get (x : Int) (k : Nat) : letters[(((x.fdiv 64).fdiv (4 ^ k)).fmod 4).toNat]? = some (letterAt x k) := by
  have h1 : 0 ≤ ((x.fdiv 64).fdiv (4 ^ k)).fmod 4 := Int.fmod_nonneg_of_pos _ (by decide)
  have h2 : ((x.fdiv 64).fdiv (4 ^ k)).fmod 4 < 4 := Int.fmod_lt_of_pos _ (by decide)
  have h3 : (((x.fdiv 64).fdiv (4 ^ k)).fmod 4).toNat < letters.length := by show _ < 4; lia
  unfold letterAt
  rw [List.getD_eq_getElem?_getD, List.getElem?_eq_getElem h3]
  rfl
theorem letter_len (x : Int) (k : Nat) : (letterAt x k).length ≤ 1 := by
  have h1 : ∀ s ∈ letters, s.length ≤ 1 := by decide
  exact h1 _ (List.mem_of_getElem? (letter_get x k))
theorem letters_join (x : Int) : JoinOk (Str.ofString "") ((List.range 3).map (letterAt x)) = true := by
  have h0 := letter_len x 0
  have h1 := letter_len x 1
  have h2 := letter_len x 2
  have e : (((List.range 3).map (letterAt x)).toArray.foldl (· + ·.length + (Str.ofString "").length) 0) = 0 + (letterAt x 0).length + 0 + (letterAt x 1).length + 0 + (letterAt x 2).length + 0 := rfl
  unfold JoinOk
  rw [e]
  have h3 : 3 ≤ sizeLine := by decide
  have h4 : ¬ (0 + (letterAt x 0).length + 0 + (letterAt x 1).length + 0 + (letterAt x 2).length + 0 > sizeLine) := by lia
  show (!decide (0 + (letterAt x 0).length + 0 + (letterAt x 1).length + 0 + (letterAt x 2).length + 0 > sizeLine)) = true
  rw [decide_eq_false h4]
  rfl
theorem names_len (xs : List Int) : (namesOf xs).length ≤ 4 + xs.length := by
  have : ∀ (xs : List Int) (ns : List Str), (xs.foldl addName ns).length ≤ ns.length + xs.length := by
    intro xs
    induction xs with
    | nil => intro ns; exact Nat.le_refl _
    | cons x xs ih =>
      intro ns
      have h := ih (addName ns x)
      have h2 : (addName ns x).length ≤ ns.length + 1 := by unfold addName; split <;> simp
      simp only [List.foldl_cons, List.length_cons]
      lia
  exact this xs names0
section
variable {G : Gd} {A : Around} {l l' : Led} {X : Xp} {R : AV → Led → Prop}
theorem cc_names (hG : Ok G) (hg : GlobOk G gtab) {n : Nat} (hr : Room A (n + 1)) {p : Addr} {xs : List Int} (hz : xs.length ≤ 3) (h : ∀ r, R (.ref r) ((r, .list ((namesOf xs).map .str)) :: (p, .list (xs.map .int)) :: l)) : CC G A (.ref 215) [.ref p] ((p, .list (xs.map .int)) :: l) R X := by
  refine CC.def1 (fn_law_names hG) hr [Str.ofString "script"] (by lcg_sub) ⟨rfl, rfl, rfl, rfl, rfl, rfl, by decide⟩ rfl (by kba_ints) (by lsm_bools) (by kbo_bools) fun L c0 env A' hE hr' hx => ?_
  refine BB.cons ?_
  kpc_turns
  refine ⟨by show 4 ≤ 1000; decide, fun nl => ?_⟩
  rewrite [show [AV.str (Str.ofString "a"), AV.str (Str.ofString "b"), AV.str (Str.ofString "ab"), AV.str (Str.ofString "b.a")] = names0.map AV.str from rfl]
  kpc_turns
  refine SS.forH ?_
  kpc_turns
  refine iter_list (by keq_rows) fun it => ?_
  refine ⟨xs.length, _, _, _, _, _, (L, .ns nm_law_names [some (.ref p), some (.ref nl), none, none, none]) :: (nl, .list (((xs.take 0).foldl addName names0).map .str)) :: (c0, .cell none) :: l, by
    have := walk_list (G := G) (A := A') (it := it) (p := p) (xs := xs.map .int) hr'.h
    rw [List.length_map] at this
    exact this, trivial, ?_, fun k K => K = (L, .ns nm_law_names [some (.ref p), some (.ref nl), none, none, none]) :: (nl, .list (((xs.take k).foldl addName names0).map .str)) :: (c0, .cell none) :: l, rfl, ?_, ?_⟩
  · show Sub (_ ++ ((L, .ns nm_law_names [some (.ref p), some (.ref nl), none, none, none]) :: (nl, .list (names0.map .str)) :: (c0, .cell none) :: l)) _
    dsimp only [List.cons_append, List.nil_append]
    tlg_ne
  · rintro FF1 hF1 k _ _ K hk ⟨hxk, rfl⟩ rfl
    rw [List.getElem?_map, Option.map_eq_some_iff] at hxk
    (revert hxk; refine PL.j1_1 ?_; rintro x hxk rfl)
    have hst := foldl_take addName names0 hxk
    have hln : ((xs.take k).foldl addName names0).length ≤ 4 + (xs.take k).length := names_len (xs.take k)
    rw [List.length_take] at hln
    dsimp only [List.cons_append, List.nil_append]
    kpc_turns
    refine EE.listcomp (cn := [(Str.ofString ".0", .local), (Str.ofString "k", .local), (Str.ofString "x", .free)]) (cn' := [(Str.ofString ".0", .local), (Str.ofString "k", .local), (Str.ofString "x", .cell)]) (cl2 := [(Str.ofString "x", c0)]) (ownk := []) (vals := [none, none, none]) hE ⟨rfl, rfl, rfl, rfl, rfl, by decide, by decide, (show ([Str.ofString "x"] : List Str).Nodup by decide), by decide, rfl, rfl⟩ ?_
    kpc_turns
    rewrite [show (3 : Int) = ((3 : Nat) : Int) from rfl]
    refine CC.range1 fun rg => ?_
    refine iter_range (by keq_rows) (by decide) fun it3 => ?_
    refine (PL.m7_4 3 _ _ _ _ _ ((L, .ns nm_law_names [some (.ref p), some (.ref nl), none, none, none]) :: (nl, .list (((xs.take k).foldl addName names0).map .str)) :: (c0, .cell (some (.int x))) :: (it, .listiter p (k + 1)) :: (p, .list (xs.map .int)) :: l) (walk_range (G := G) (A := A') (it := it3) (a := 0) (n := 3) hr'.h) trivial (by decide) (by dsimp only [List.cons_append, List.nil_append]; tlg_ne) (fun C acc own cenv hown hEc => ?_))
    obtain rfl : own = [] := by simpa using hown
    rw [List.nil_append] at hEc
    refine (PL.m1_2 (fun k2 ys K => ys = ((List.range k2).map (letterAt x)).map .str ∧ K = (L, .ns nm_law_names [some (.ref p), some (.ref nl), none, none, none]) :: (nl, .list (((xs.take k).foldl addName names0).map .str)) :: (c0, .cell (some (.int x))) :: (it, .listiter p (k + 1)) :: (p, .list (xs.map .int)) :: l) (⟨rfl, rfl⟩) ?_ ?_)
    · rintro k2 ys _ _ K hk2 ⟨rfl, rfl⟩ ⟨rfl, rfl⟩
      dsimp only [List.cons_append, List.nil_append]
      rewrite [show ((0 : Int) + (k2 : Int)) = ((k2 : Nat) : Int) from by lia]
      have hl1 : 0 ≤ ((x.fdiv 64).fdiv (4 ^ k2)).fmod 4 := Int.fmod_nonneg_of_pos _ (by decide)
      have hl2 : ((x.fdiv 64).fdiv (4 ^ k2)).fmod 4 < 4 := Int.fmod_lt_of_pos _ (by decide)
      have h4 : ∀ k : Nat, k < 3 → ((4 : Int) ^ k ≠ 0 ∧ ((4 : Int) ^ k).natAbs.log2 < 9000) := by decide
      kpc_turns
      refine IT.nil ?_
      refine brT (by decide) ?_
      kpc_turns
      refine ⟨by show 4 ≤ 1000; decide, fun ll => ?_⟩
      rewrite [show [AV.str (Str.ofString "a"), AV.str (Str.ofString "b"), AV.str (Str.ofString "."), AV.str (Str.ofString "")] = letters.map AV.str from rfl]
      kpc_turns
      refine Op2.fdiv (by decide) (by decide) ?_
      kpc_turns
      refine Op2.pow (by lia) (by lia) (by decide) ?_
      rewrite [show ((k2 : Nat) : Int).toNat = k2 from rfl]
      refine Op2.fdiv (h4 k2 hk2).1 (h4 k2 hk2).2 ?_
      kpc_turns
      refine Op2.mod (by decide) ?_
      kpc_turns
      refine Get.list (by keq_rows) hl1 (by lia) (a := .str (letterAt x k2)) (by rw [List.getElem?_map, letter_get]; rfl) ?_
      refine CEnd.mk ⟨?_, rfl⟩ (by dsimp only [List.cons_append, List.nil_append]; tlg_ne)
      rw [List.range_succ, List.map_append, List.map_append]
      rfl
    · rintro ys K ⟨rfl, rfl⟩
      dsimp only [List.cons_append, List.nil_append]
      kpc_turns
      refine CC.join (xs := (List.range 3).map (letterAt x)) (by kas_types) ?_ ?_
      · exact letters_join x
      rewrite [show Txt.join (Str.ofString "") ((List.range 3).map (letterAt x)) = nameOf x from rfl]
      kpc_turns
      refine SS.if ?_
      kpc_turns
      refine Op2.notinStrsM (by kas_types) ?_
      kpc_turns
      refine ⟨fun hb => ?_, fun hb => ?_⟩
      · kpc_turns
        refine CC.appends (by keq_rows) (by lia) ?_
        kpc_turns
        refine hF1.next rfl ?_
        rewrite [hst, addName, if_pos hb]
        dsimp only [List.cons_append, List.nil_append]
        tlg_ne
      · kpc_turns
        refine hF1.next rfl ?_
        rewrite [hst, addName, if_neg (by rw [hb]; decide)]
        dsimp only [List.cons_append, List.nil_append]
        tlg_ne
  · rintro K rfl
    dsimp only [List.cons_append, List.nil_append]
    kpc_turns
    rw [List.take_length]
    exact (PL.m1_1 _ (by tlg_ne) (h nl))
end
noncomputable def globsL : List Str := [Str.ofString "a*", Str.ofString "*b", Str.ofString "?", Str.ofString "*.*", Str.ofString "[!a]*", Str.ofString "??*", Str.ofString "*a*b*", Str.ofString "[ab]?"]
noncomputable def kd (n : Str) (k : Nat) : Bool := (kindsOf n).getD k false
noncomputable def allN : List Str := letters.flatMap fun a => letters.flatMap fun b => letters.map fun c => Txt.join (Str.ofString "") [a, b, c]
noncomputable def okGlob (k : Nat) (g : Str) : Bool := decide (g.length ≤ 100) && match truns g g.length 0 [] with
  | some parts => decide (parts.length < 1000) && (parts.all fun | some s => decide (s.length ≤ 1000) | none => true) && (allN.all fun n => ((parts.foldl (stepEndsB takes n) [0]).contains n.length) == kd n k)
  | none => false
theorem globs_ok0 : (globsL.zipIdx.all fun p => okGlob p.2 p.1) = true := by decide +kernel
theorem glob_ok {k : Nat} {g : Str} (hg : globsL[k]? = some g) {nms : List Str} (hn : ∀ n ∈ nms, n ∈ allN) : g.length ≤ 100 ∧ ∃ parts, truns g g.length 0 [] = some parts ∧ parts.length < 1000 ∧ (∀ s, some s ∈ parts → s.length ≤ 1000) ∧ takenOf parts nms = nms.filter fun n => kd n k := by
  have h1 := List.all_eq_true.mp globs_ok0 (g, k) (List.mem_zipIdx_iff_getElem?.mpr hg)
  unfold okGlob at h1
  rw [Bool.and_eq_true] at h1
  refine ⟨of_decide_eq_true h1.1, ?_⟩
  have h2 := h1.2
  cases hq : truns g g.length 0 [] with
  | none => simp only [hq] at h2; cases h2
  | some parts =>
    simp only [hq, Bool.and_eq_true, decide_eq_true_eq, List.all_eq_true, beq_iff_eq] at h2
    refine (PL.m1_3 parts rfl h2.1.1 ((fun s hs => by simpa using h2.1.2 _ hs)) ?_)
    show nms.filter _ = _
    exact List.filter_congr fun n hn' => h2.2 n (hn n hn')
theorem allN_ok0 : (allN.all fun n => PyData.strOk n && decide (n.length ≤ 3) && decide ((kindsOf n).length = 8)) = true := by decide +kernel
theorem allN_ok {n : Str} (h : n ∈ allN) : PyData.strOk n = true ∧ n.length ≤ 3 ∧ (kindsOf n).length = 8 := by
  have := List.all_eq_true.mp allN_ok0 n h
  simp only [Bool.and_eq_true, decide_eq_true_eq] at this
  exact (PL.m0_2 this.1.1 this.1.2 this.2)
theorem names0_all : ∀ n ∈ names0, n ∈ allN := by decide +kernel
theorem nameOf_all (x : Int) : nameOf x ∈ allN := by
  have hm : ∀ k, letterAt x k ∈ letters := fun k => List.mem_of_getElem? (letter_get x k)
  unfold allN
  refine List.mem_flatMap.mpr (PL.m1_1 _ (hm 0) (List.mem_flatMap.mpr (PL.m1_1 _ (hm 1) (List.mem_map.mpr (PL.m1_1 _ (hm 2) rfl)))))
theorem names_all (xs : List Int) : (namesOf xs).Nodup ∧ ∀ n ∈ namesOf xs, n ∈ allN := by
  have : ∀ (xs : List Int) (ns : List Str), (ns.Nodup ∧ ∀ n ∈ ns, n ∈ allN) → (xs.foldl addName ns).Nodup ∧ ∀ n ∈ xs.foldl addName ns, n ∈ allN := by
    intro xs
    induction xs with
    | nil => exact fun ns h => h
    | cons x xs ih =>
      intro ns h
      refine ih _ ?_
      unfold addName
      split
      · rename_i q
        have q' : nameOf x ∉ ns := by simpa using q
        refine ⟨?_, fun n hn => ?_⟩
        · rw [List.nodup_append]
          refine (PL.m0_2 h.1 (by simp) (fun a ha b hb e => ?_))
          rw [List.mem_singleton.mp hb] at e
          exact q' (e ▸ ha)
        · rcases List.mem_append.mp hn with hn | hn
          · exact h.2 n hn
          · rw [List.mem_singleton.mp hn]; exact nameOf_all x
      · exact h
  exact this xs names0 ⟨by decide +kernel, names0_all⟩
/-! what the sorter is told, and the order by what is true of the names -/
noncomputable abbrev Rule := Nat × Nat
noncomputable def opsR (nms : List Str) (r : Rule) : List Op := (nms.filter fun n => kd n r.1).map fun n => (n, (nms.filter fun o => kd o r.2).filter fun o => o != n)
noncomputable def ops0 (nms : List Str) : List Op := nms.map fun n => (n, [])
noncomputable def opsL (nms : List Str) (rs : List Rule) : List Op := ops0 nms ++ rs.flatMap (opsR nms)
theorem opsR_len (nms : List Str) (r : Rule) : (opsR nms r).length ≤ nms.length := by
  unfold opsR; rw [List.length_map]; exact List.length_filter_le _ _
theorem opsRs_len (nms : List Str) : ∀ rs : List Rule, (rs.flatMap (opsR nms)).length ≤ rs.length * nms.length
  | [] => Nat.zero_le _
  | r :: rs => by
    have h1 := opsR_len nms r
    have h2 := opsRs_len nms rs
    rw [List.flatMap_cons, List.length_append, List.length_cons, Nat.succ_mul]
    lia
theorem mem_opsL {nms : List Str} {rs : List Rule} {o : Op} : o ∈ opsL nms rs ↔ (o.1 ∈ nms ∧ o.2 = []) ∨ ∃ r ∈ rs, o.1 ∈ nms ∧ kd o.1 r.1 = true ∧ o.2 = (nms.filter fun z => kd z r.2).filter fun z => z != o.1 := by
  unfold opsL ops0 opsR
  rw [List.mem_append, List.mem_map, List.mem_flatMap]
  constructor
  · rintro (⟨n, hn, rfl⟩ | ⟨r, hr, h⟩)
    · exact .inl ⟨hn, rfl⟩
    · (refine PL.x1_1 (List.mem_map.mp h) ?_; rintro n hn rfl)
      rw [List.mem_filter] at hn
      exact .inr (PL.m1_3 r hr hn.1 hn.2 rfl)
  · rintro (⟨hn, e⟩ | ⟨r, hr, hn, hk, e⟩)
    · exact .inl (PL.m1_1 o.1 hn (by rw [← e]))
    · exact .inr (PL.m1_1 r hr (List.mem_map.mpr (PL.m1_1 o.1 (List.mem_filter.mpr ⟨hn, hk⟩) (by rw [← e]))))
theorem opsL_ok {nms : List Str} {rs : List Rule} (hn : nms.Nodup) (hl : nms.length ≤ 8) (hr : rs.length ≤ 5) : OpsOk nms (opsL nms rs) := by
  refine ⟨hn, hl, ?_, fun o ho => ?_, fun o ho => ?_, fun o ho => ?_, fun y hy => (PL.m1_1 ((y, [])) (mem_opsL.mpr (.inl ⟨hy, rfl⟩)) rfl)⟩
  · have h1 := opsRs_len nms rs
    have h2 : rs.length * nms.length ≤ 5 * 8 := Nat.mul_le_mul hr hl
    unfold opsL ops0
    rw [List.length_append, List.length_map]
    lia
  · rcases mem_opsL.mp ho with ⟨_, e⟩ | ⟨r, _, _, _, e⟩
    · rw [e]; exact List.nodup_nil
    · rw [e]; exact (hn.sublist List.filter_sublist).sublist List.filter_sublist
  · rcases mem_opsL.mp ho with ⟨_, e⟩ | ⟨r, _, _, _, e⟩
    · rw [e]; exact Nat.zero_le _
    · rw [e]
      exact Nat.le_trans (List.length_filter_le _ _) (Nat.le_trans (List.length_filter_le _ _) hl)
  · rcases mem_opsL.mp ho with ⟨h, e⟩ | ⟨r, _, h, _, e⟩
    · rw [e]; exact ⟨h, fun z hz => by cases hz⟩
    · rw [e]
      exact ⟨h, fun z hz => (List.mem_filter.mp (List.mem_filter.mp hz).1).1⟩
noncomputable def leftD (nms : List Str) (rs : List Rule) (dl : List Str) (n : Str) : List Str := nms.filter fun o => !(dl ++ [n]).contains o && (((rs.filter fun r => kd n r.1).map (·.2)).filter fun k => kd o k) != []
noncomputable def freeD (nms : List Str) (rs : List Rule) (dl : List Str) : List Str := nms.filter fun n => !dl.contains n && leftD nms rs dl n == []
theorem mem_free {nms : List Str} {rs : List Rule} {dl : List Str} {y : Str} : y ∈ freeD nms rs dl ↔ AvO nms (opsL nms rs) dl y := by
  unfold freeD AvO
  rw [List.mem_filter, Bool.and_eq_true]
  have h1 : ∀ z, z ∈ plO (opsL nms rs) y ↔ y ∈ nms ∧ ∃ r ∈ rs, kd y r.1 = true ∧ z ∈ nms ∧ kd z r.2 = true ∧ z ≠ y := fun z => by
    rw [mem_plO]
    constructor
    · (refine PL.j1_2 ?_; rintro o ho e hz)
      subst e
      rcases mem_opsL.mp ho with ⟨_, e⟩ | ⟨r, hr, h, hk, e⟩
      · rw [e] at hz; cases hz
      · rw [e, List.mem_filter, List.mem_filter] at hz
        exact ⟨h, r, hr, hk, hz.1.1, hz.1.2, by simpa using hz.2⟩
    · rintro ⟨hy, r, hr, hk, hz, hkz, hne⟩
      exact (PL.m1_2 ((y, (nms.filter fun o => kd o r.2).filter fun o => o != y)) (mem_opsL.mpr (.inr (PL.m1_3 r hr hy hk rfl))) rfl (List.mem_filter.mpr ⟨List.mem_filter.mpr ⟨hz, hkz⟩, by simpa using hne⟩))
  constructor
  · (refine PL.j0_2 ?_; rintro hy hd hl)
    refine (PL.m0_2 hy (by simpa using hd) (fun z hz => ?_))
    obtain ⟨_, r, hr, hk, hz, hkz, hne⟩ := (h1 z).mp hz
    by_cases q : z ∈ dl
    · exact q
    · have h2 : z ∈ leftD nms rs dl y := List.mem_filter.mpr ⟨hz, by
        rw [Bool.and_eq_true]
        refine ⟨by simp [q, hne], ?_⟩
        rw [bne_iff_ne]
        exact List.ne_nil_of_mem (List.mem_filter.mpr ⟨List.mem_map.mpr (PL.m1_1 r (List.mem_filter.mpr ⟨hr, hk⟩) rfl), hkz⟩)⟩
      rw [beq_iff_eq.mp hl] at h2
      cases h2
  · (refine PL.j0_2 ?_; rintro hy hd hz)
    refine (PL.m0_2 hy (by simpa using hd) ?_)
    rw [beq_iff_eq]
    unfold leftD
    rw [List.filter_eq_nil_iff]
    intro z hzn h
    rw [Bool.and_eq_true, bne_iff_ne] at h
    obtain ⟨k, hk⟩ := List.exists_mem_of_ne_nil _ h.2
    rw [List.mem_filter, List.mem_map] at hk
    obtain ⟨⟨r, hr, rfl⟩, hkz⟩ := hk
    rw [List.mem_filter] at hr
    have h3 : z ∉ dl ∧ z ≠ y := by simpa using h.1
    exact h3.1 (hz z ((h1 z).mpr ⟨hy, r, hr.1, hr.2, hzn, hkz, h3.2⟩))
/-! the tables of the law -/
structure RR where
  a : Addr
  f : Nat
  s : Nat
noncomputable abbrev rRefs (rs : List RR) : List AV := rs.map fun r => AV.ref r.a
noncomputable abbrev rLed (rs : List RR) : Led := rs.map fun r => (r.a, AO.tuple [.int (r.f : Int), .int (r.s : Int)])
noncomputable abbrev rRules (rs : List RR) : List Rule := rs.map fun r => (r.f, r.s)
structure TK where
  k : Nat
  a : Addr
noncomputable abbrev iKV (ts : List TK) : List (Int × AV) := ts.map fun t => ((t.k : Int), AV.ref t.a)
noncomputable abbrev kList (nms : List Str) (k : Nat) : AO := AO.list ((nms.filter fun n => kd n k).map .str)
noncomputable abbrev iLed (nms : List Str) (ts : List TK) : Led := ts.map fun t => (t.a, kList nms t.k)
noncomputable def putT (ts : List TK) (k : Nat) (r : Addr) : List TK := if k ∈ ts.map TK.k then ts.map (fun t => if t.k = k then ⟨k, r⟩ else t) else ts ++ [⟨k, r⟩]
theorem putT_kv (ts : List TK) (k : Nat) (r : Addr) : storedI (iKV ts) (k : Int) (.ref r) = iKV (putT ts k r) := by
  have e : (k : Int) ∈ (iKV ts).map (·.1) ↔ k ∈ ts.map TK.k := by
    rw [List.map_map]
    constructor
    · intro h
      (refine PL.x1_1 (List.mem_map.mp h) ?_; rintro t ht e)
      exact List.mem_map.mpr (PL.m1_1 t ht (Int.ofNat.inj e))
    · intro h
      (refine PL.x1_1 (List.mem_map.mp h) ?_; rintro t ht e)
      exact List.mem_map.mpr (PL.m1_1 t ht (congrArg Int.ofNat e))
  unfold storedI putT
  by_cases q : k ∈ ts.map TK.k
  · rw [if_pos (e.mpr q), if_pos q]
    unfold iKV
    rw [List.map_map, List.map_map]
    apply List.map_congr_left
    intro t _
    show (if (t.k : Int) = (k : Int) then _ else _) = ((((if t.k = k then (⟨k, r⟩ : TK) else t).k : Nat) : Int), AV.ref (if t.k = k then (⟨k, r⟩ : TK) else t).a)
    by_cases c : t.k = k
    · rw [if_pos (show (t.k : Int) = (k : Int) by rw [c]), if_pos c, ← c]
    · rw [if_neg (show ¬ (t.k : Int) = (k : Int) by lia), if_neg c]
  · rw [if_neg (fun h => q (e.mp h)), if_neg q]
    unfold iKV
    rw [List.map_append]
    rfl
theorem putT_keys (ts : List TK) (k : Nat) (r : Addr) : (putT ts k r).map TK.k = if k ∈ ts.map TK.k then ts.map TK.k else ts.map TK.k ++ [k] := by
  unfold putT
  split
  · rw [List.map_map]
    apply List.map_congr_left
    intro t _
    show (if t.k = k then (⟨k, r⟩ : TK) else t).k = t.k
    split
    · rename_i c; exact c.symm
    · rfl
  · rw [List.map_append]; rfl
theorem putT_sub (nms : List Str) (k : Nat) (r : Addr) : ∀ (ts : List TK), (ts.map TK.k).Nodup → Sub (iLed nms (putT ts k r)) ((r, kList nms k) :: iLed nms ts) := by
  intro ts hd
  unfold putT
  split
  · rename_i hm
    induction ts with
    | nil => cases hm
    | cons t ts ih =>
      rw [List.map_cons, List.nodup_cons] at hd
      by_cases c : t.k = k
      · have e : (t :: ts).map (fun t => if t.k = k then (⟨k, r⟩ : TK) else t) = ⟨k, r⟩ :: ts := by
          rw [List.map_cons, if_pos c]
          congr 1
          refine (List.map_congr_left fun u hu => ?_).trans (List.map_id ts)
          rw [if_neg]
          · rfl
          · intro h
            exact hd.1 (List.mem_map.mpr (PL.m1_1 u hu (by rw [h, c])))
        rw [e]
        exact .cons .head (.refl _) (.skip (.refl _))
      · have e : (t :: ts).map (fun t => if t.k = k then (⟨k, r⟩ : TK) else t) = t :: ts.map (fun t => if t.k = k then (⟨k, r⟩ : TK) else t) := by
          rw [List.map_cons, if_neg c]
        rw [e]
        have hm' : k ∈ ts.map TK.k := by
          rcases List.mem_cons.mp (by simpa using hm : k ∈ t.k :: ts.map TK.k) with h | h
          · exact absurd h.symm c
          · exact h
        exact .cons (.tail .head) (.refl _) (ih hd.2 hm')
  · unfold iLed
    rw [List.map_append]
    exact .perm (List.perm_append_comm (l₁ := List.map (fun t : TK => (t.a, kList nms t.k)) ts) (l₂ := [(r, kList nms k)])).symm
structure TKok (ts : List TK) (rs : List Rule) : Prop where
  nd : (ts.map TK.k).Nodup
  lt : ∀ t ∈ ts, t.k < 8
  all : ∀ r ∈ rs, r.1 ∈ ts.map TK.k ∧ r.2 ∈ ts.map TK.k
theorem TKok.len {ts : List TK} {rs : List Rule} (h : TKok ts rs) : ts.length ≤ 8 := by
  have := FC.nodup_len h.nd (m := List.range 8) fun x hx => by
    (refine PL.x1_1 (List.mem_map.mp hx) ?_; rintro t ht rfl)
    exact List.mem_range.mpr (h.lt t ht)
  simpa using this
theorem putT_mem {ts : List TK} {k : Nat} {r : Addr} {x : Nat} : x ∈ (putT ts k r).map TK.k ↔ x ∈ ts.map TK.k ∨ x = k := by
  rw [putT_keys]
  split
  · rename_i h
    exact ⟨.inl, fun h' => h'.elim id fun e => e ▸ h⟩
  · simp
theorem putT_ok {ts : List TK} {rs : List Rule} {k : Nat} {r : Addr} (h : TKok ts rs) (hk : k < 8) : TKok (putT ts k r) rs := by
  refine ⟨?_, fun t ht => ?_, fun q hq => ⟨putT_mem.mpr (.inl (h.all q hq).1), putT_mem.mpr (.inl (h.all q hq).2)⟩⟩
  · rw [putT_keys]
    split
    · exact h.nd
    · rename_i hn
      rw [List.nodup_append]
      refine (PL.m0_2 h.nd (by simp) (fun a ha b hb e => ?_))
      rw [List.mem_singleton.mp hb] at e
      exact hn (e ▸ ha)
  · have : t.k ∈ (putT ts k r).map TK.k := List.mem_map.mpr (PL.m1_1 t ht rfl)
    rcases putT_mem.mp this with h' | h'
    · (refine PL.x1_1 (List.mem_map.mp h') ?_; rintro u hu e)
      rw [← e]; exact h.lt u hu
    · rw [h']; exact hk
theorem perm_swap3 {α : Type} (a b c : List α) : (a ++ (b ++ c)).Perm (b ++ (a ++ c)) := by
  rw [← List.append_assoc, ← List.append_assoc]
  exact List.Perm.append_right _ List.perm_append_comm
theorem Pick.app {p : Addr × AO} {M M' : Led} (h : Pick p M M') : ∀ I : Led, Pick p (I ++ M) (I ++ M')
  | [] => h
  | _ :: I => .tail (Pick.app h I)
theorem Pick.appL {p : Addr × AO} {a b : Led} (h : Pick p a b) (M : Led) : Pick p (a ++ M) (b ++ M) := by
  induction h with
  | head => exact .head
  | tail _ ih => exact .tail ih
theorem Sub.appR {a b : Led} (h : Sub a b) (M : Led) : Sub (a ++ M) (b ++ M) := by
  induction h with
  | refl => exact .refl _
  | @nil l => induction l with
    | nil => exact .refl _
    | cons x l ih => exact .skip ih
  | cons hp hle _ ih => exact .cons (hp.appL M) hle ih
  | skip _ ih => exact .skip ih
  | perm h => exact .perm (List.Perm.append_right M h)
  | trans _ _ i1 i2 => exact .trans i1 i2
theorem Sub.mid {p : Addr × AO} {M M' : Led} (h : Pick p M M') (I : Led) : Sub (I ++ M) (p :: (I ++ M')) := .perm ((List.Perm.append_left I h.perm).trans List.perm_middle).symm
section
variable {G : Gd} {A : Around} {l l' : Led} {X : Xp} {R : AV → Led → Prop}
theorem cc_tables (hG : Ok G) (hg : GlobOk G gtab) {n : Nat} (hr : Room A (n + 4)) {nl rl : Addr} {nms : List Str} {rs : List RR} (hn : ∀ n ∈ nms, n ∈ allN) (hnz : nms.length ≤ 8) (hrl : rs.length ≤ 5) (hrs : ∀ q ∈ rs, q.f < 8 ∧ q.s < 8)
    (h : ∀ d ep ts, TKok ts (rRules rs) → R (.ref d) ((d, .idict (iKV ts) ep) :: (iLed nms ts ++ ((177, .tab) :: (nl, .list (nms.map .str)) :: (rl, .list (rRefs rs)) :: (rLed rs ++ l))))) :
    CC G A (.ref 232) [.ref nl, .ref rl] ((177, .tab) :: (nl, .list (nms.map .str)) :: (rl, .list (rRefs rs)) :: (rLed rs ++ l)) R X := by
  refine CC.def2 (fn_law_tables hG) hr [Str.ofString "names", Str.ofString "rules"] (by lcg_sub) ⟨rfl, rfl, rfl, rfl, rfl, rfl, by decide⟩ rfl (by kba_ints) (by lsm_bools) (by kbo_bools) fun L c0 c1 env A' hE hr' hx => ?_
  refine BB.cons ?_
  kpc_turns
  refine ⟨by show 8 ≤ 1000; decide, fun gl => ?_⟩
  rewrite [show [AV.str (Str.ofString "a*"), AV.str (Str.ofString "*b"), AV.str (Str.ofString "?"), AV.str (Str.ofString "*.*"), AV.str (Str.ofString "[!a]*"), AV.str (Str.ofString "??*"), AV.str (Str.ofString "*a*b*"), AV.str (Str.ofString "[ab]?")] = globsL.map AV.str from rfl]
  kpc_turns
  refine EE.dictcomp2 (cn := [(Str.ofString ".0", .local), (Str.ofString "rule", .local), (Str.ofString "k", .local), (Str.ofString "_law_taken", .globalImplicit), (Str.ofString "globs", .free), (Str.ofString "names", .free)]) (cn' := [(Str.ofString ".0", .local), (Str.ofString "rule", .local), (Str.ofString "k", .local), (Str.ofString "_law_taken", .globalImplicit), (Str.ofString "globs", .cell), (Str.ofString "names", .cell)]) (cl2 := [(Str.ofString "names", c1), (Str.ofString "globs", c0)]) (ownk := []) (vals := [none, none, none, none, none, none]) hg hE ⟨rfl, rfl, rfl, rfl, rfl, by decide, by decide, (show ([Str.ofString "names", Str.ofString "globs"] : List Str).Nodup by decide), by decide, rfl, rfl⟩ ?_
  kpc_turns
  refine iter_list (by keq_rows) fun it => ?_
  refine (PL.m7_3 rs.length _ _ _ _ _ ((L, .ns nm_law_tables [none, some (.ref rl), none]) :: (gl, .list (globsL.map .str)) :: (c0, .cell (some (.ref gl))) :: (c1, .cell (some (.ref nl))) :: (177, .tab) :: (nl, .list (nms.map .str)) :: (iLed nms [] ++ (rLed rs ++ l))) (by
    have := walk_list (G := G) (A := A') (it := it) (p := rl) (xs := rRefs rs) hr'.h
    rw [List.length_map] at this
    exact this) trivial (by
      show Sub (_ ++ ((L, .ns nm_law_tables [none, some (.ref rl), none]) :: (gl, .list (globsL.map .str)) :: (c0, .cell (some (.ref gl))) :: (c1, .cell (some (.ref nl))) :: (177, .tab) :: (nl, .list (nms.map .str)) :: (rLed rs ++ l))) _
      dsimp only [List.cons_append, List.nil_append]
      tlg_ne) (fun C acc own cenv hown hEc => ⟨by intro _; with_unfolding_all rfl, ?_⟩))
  obtain rfl : own = [] := by simpa using hown
  rw [List.nil_append] at hEc
  refine (PL.m1_2 (fun k kvs K => ∃ ts, kvs = iKV ts ∧ TKok ts ((rRules rs).take k) ∧ K = (L, .ns nm_law_tables [none, some (.ref rl), none]) :: (gl, .list (globsL.map .str)) :: (c0, .cell (some (.ref gl))) :: (c1, .cell (some (.ref nl))) :: (177, .tab) :: (nl, .list (nms.map .str)) :: (iLed nms ts ++ (rLed rs ++ l))) ((PL.m1_2 ([]) rfl (⟨List.nodup_nil, (fun t ht => by cases ht), (fun r hr => by cases hr)⟩) rfl)) ?_ ?_)
  · (rintro k kvs ep a _ K hk ⟨hrk, rfl⟩; refine PL.j1_2 ?_; rintro ts rfl hts rfl)
    rw [List.getElem?_map, Option.map_eq_some_iff] at hrk
    (revert hrk; refine PL.j1_1 ?_; rintro q hqk rfl)
    have hq := hrs q (List.mem_of_getElem? hqk)
    have hqm : (q.a, AO.tuple [.int (q.f : Int), .int (q.s : Int)]) ∈ rLed rs := List.mem_map.mpr (PL.m1_1 q (List.mem_of_getElem? hqk) rfl)
    have hst : (rRules rs).take (k + 1) = (rRules rs).take k ++ [(q.f, q.s)] := by
      rw [List.take_add_one, List.getElem?_map, hqk]; rfl
    dsimp only [List.cons_append, List.nil_append]
    kpc_turns
    obtain ⟨M', hM⟩ := Pick.ofMem (show (q.a, AO.tuple [.int (q.f : Int), .int (q.s : Int)]) ∈ rLed rs ++ l from List.mem_append_left _ hqm)
    refine iter_tuple (xs := [.int (q.f : Int), .int (q.s : Int)]) (by repeat (first | exact Pick.app hM _ | apply Pick.tail)) fun it2 => ?_
    refine ⟨2, _, _, _, _, _, [none, none, none, none, none, none], iKV ts, ep, (it, .listiter rl (k + 1)) :: (rl, .list (rRefs rs)) :: (L, .ns nm_law_tables [none, some (.ref rl), none]) :: (gl, .list (globsL.map .str)) :: (c0, .cell (some (.ref gl))) :: (c1, .cell (some (.ref nl))) :: (177, .tab) :: (nl, .list (nms.map .str)) :: (iLed nms ts ++ M'), walk_tuple (G := G) (A := A') (it := it2) (p := q.a) (xs := [.int (q.f : Int), .int (q.s : Int)]) hr'.h, trivial, by dsimp only [List.cons_append, List.nil_append]; tlg_ne,
      fun i kvs K => ∃ ts, kvs = iKV ts ∧ TKok ts ((rRules rs).take k) ∧ (1 ≤ i → q.f ∈ ts.map TK.k) ∧ (2 ≤ i → q.s ∈ ts.map TK.k) ∧ K = (it, .listiter rl (k + 1)) :: (rl, .list (rRefs rs)) :: (L, .ns nm_law_tables [none, some (.ref rl), none]) :: (gl, .list (globsL.map .str)) :: (c0, .cell (some (.ref gl))) :: (c1, .cell (some (.ref nl))) :: (177, .tab) :: (nl, .list (nms.map .str)) :: (iLed nms ts ++ M'), (PL.m1_4 ts rfl hts ((fun h => absurd h (by decide))) ((fun h => absurd h (by decide))) rfl), ?_, ?_, ?_⟩
    · (rintro i kvs K; refine PL.j1_4 ?_; rintro ts rfl hts - - -)
      have := hts.len
      simp
      lia
    · (rintro i kvs ep a _ K hi ⟨hia, rfl⟩; refine PL.j1_4 ?_; rintro ts rfl hts h1 h2 rfl)
      obtain ⟨kk, ha, hk8, hki⟩ : ∃ kk : Nat, a = .int (kk : Int) ∧ kk < 8 ∧ kk = if i = 0 then q.f else q.s := by
        rcases (by lia : i = 0 ∨ i = 1) with rfl | rfl
        · exact (PL.m1_2 q.f ((Option.some.inj hia).symm) hq.1 rfl)
        · exact (PL.m1_2 q.s ((Option.some.inj hia).symm) hq.2 rfl)
      subst ha
      obtain ⟨g, hgk⟩ : ∃ g, globsL[kk]? = some g := ⟨_, List.getElem?_eq_getElem (show kk < 8 from hk8)⟩
      obtain ⟨g1, parts, p1, p2, p3, p4⟩ := glob_ok hgk hn
      dsimp only [List.cons_append, List.nil_append]
      kpc_turns
      refine (PL.m1_1 _ rfl ?_)
      kpc_turns
      refine Get.strs (by keq_rows) (by decide) hgk ?_
      kpc_turns
      refine CC.sub (l' := (177, .tab) :: (nl, .list (nms.map .str)) :: (C, .ns [(Str.ofString ".0", .local), (Str.ofString "rule", .local), (Str.ofString "k", .local), (Str.ofString "_law_taken", .globalImplicit), (Str.ofString "globs", .cell), (Str.ofString "names", .cell)] [none, none, some (.int (kk : Int)), none, none, none]) :: (it2, .tupiter q.a (i + 1)) :: (q.a, AO.tuple [.int (q.f : Int), .int (q.s : Int)]) :: (acc, .idict (iKV ts) ep) :: (it, .listiter rl (k + 1)) :: (rl, .list (rRefs rs)) :: (L, .ns nm_law_tables [none, some (.ref rl), none]) :: (gl, .list (globsL.map .str)) :: (c0, .cell (some (.ref gl))) :: (c1, .cell (some (.ref nl))) :: (iLed nms ts ++ M')) (by tlg_ne) ?_
      refine cc_taken hG hg hr' g1 p1 p2 p3 (by lia) (fun s hs => by have := (allN_ok (hn s hs)).2.1; lia) fun r => ?_
      rewrite [p4]
      refine IEnd.mk (ep := ep) (K := (it, .listiter rl (k + 1)) :: (rl, .list (rRefs rs)) :: (L, .ns nm_law_tables [none, some (.ref rl), none]) :: (gl, .list (globsL.map .str)) :: (c0, .cell (some (.ref gl))) :: (c1, .cell (some (.ref nl))) :: (177, .tab) :: (nl, .list (nms.map .str)) :: (iLed nms (putT ts kk r) ++ M')) (PL.m1_4 (putT ts kk r) (putT_kv ts kk r) (putT_ok hts hk8) (fun hi1 => ?_) (fun hi2 => ?_) rfl) ?_
      · rw [putT_mem]
        by_cases c : i = 0
        · exact .inr (by rw [hki, if_pos c])
        · exact .inl (h1 (by lia))
      · rw [putT_mem]
        exact .inr (by rw [hki, if_neg (by lia)])
      · dsimp only [List.cons_append, List.nil_append]
        have hs2 := Sub.appR (putT_sub nms kk r ts hts.nd) M'
        refine .trans (l' := (it2, .tupiter q.a (i + 1)) :: (q.a, AO.tuple [.int (q.f : Int), .int (q.s : Int)]) :: (C, .ns [(Str.ofString ".0", .local), (Str.ofString "rule", .local), (Str.ofString "k", .local), (Str.ofString "_law_taken", .globalImplicit), (Str.ofString "globs", .cell), (Str.ofString "names", .cell)] [none, none, none, none, none, none]) :: (acc, .idict (iKV ts) ep) :: (it, .listiter rl (k + 1)) :: (rl, .list (rRefs rs)) :: (L, .ns nm_law_tables [none, some (.ref rl), none]) :: (gl, .list (globsL.map .str)) :: (c0, .cell (some (.ref gl))) :: (c1, .cell (some (.ref nl))) :: (177, .tab) :: (nl, .list (nms.map .str)) :: (((r, kList nms kk) :: iLed nms ts) ++ M')) (by repeat (first | exact hs2 | apply Sub.keep)) ?_
        dsimp only [List.cons_append, List.nil_append]
        tlg_ne
    · (rintro kvs ep K; refine PL.j1_4 ?_; rintro ts rfl hts h1 h2 rfl)
      refine IEnd.mk (ep := ep) (K := (L, .ns nm_law_tables [none, some (.ref rl), none]) :: (gl, .list (globsL.map .str)) :: (c0, .cell (some (.ref gl))) :: (c1, .cell (some (.ref nl))) :: (177, .tab) :: (nl, .list (nms.map .str)) :: (iLed nms ts ++ (rLed rs ++ l))) (PL.m1_2 ts rfl (⟨hts.nd, hts.lt, fun r hr => ?_⟩) rfl) ?_
      · rw [hst] at hr
        rcases List.mem_append.mp hr with hr | hr
        · exact hts.all r hr
        · rw [List.mem_singleton.mp hr]
          exact ⟨h1 (by decide), h2 (by decide)⟩
      · dsimp only [List.cons_append, List.nil_append]
        have hs2 := Sub.mid hM (iLed nms ts)
        refine .trans (l' := (it, .listiter rl (k + 1)) :: (rl, .list (rRefs rs)) :: (C, .ns [(Str.ofString ".0", .local), (Str.ofString "rule", .local), (Str.ofString "k", .local), (Str.ofString "_law_taken", .globalImplicit), (Str.ofString "globs", .cell), (Str.ofString "names", .cell)] [none, none, none, none, none, none]) :: (acc, .idict (iKV ts) ep) :: (L, .ns nm_law_tables [none, some (.ref rl), none]) :: (gl, .list (globsL.map .str)) :: (c0, .cell (some (.ref gl))) :: (c1, .cell (some (.ref nl))) :: (177, .tab) :: (nl, .list (nms.map .str)) :: ((q.a, AO.tuple [.int (q.f : Int), .int (q.s : Int)]) :: (iLed nms ts ++ M'))) (by repeat (first | exact hs2 | apply Sub.keep)) ?_
        tlg_ne
  · (rintro kvs ep K; refine PL.j1_2 ?_; rintro ts rfl hts rfl)
    rw [List.take_of_length_le (by simp)] at hts
    dsimp only [List.cons_append, List.nil_append]
    kpc_turns
    refine (PL.m1_1 _ ?_ (h acc ep ts hts))
    refine .trans (l' := (acc, .idict (iKV ts) ep) :: (177, .tab) :: (nl, .list (nms.map .str)) :: (rl, .list (rRefs rs)) :: (iLed nms ts ++ (rLed rs ++ l))) (.keep (.perm ?_)) (by tlg_ne)
    show ([(177, AO.tab), (nl, AO.list (nms.map .str)), (rl, AO.list (rRefs rs))] ++ (iLed nms ts ++ (rLed rs ++ l))).Perm (iLed nms ts ++ ([(177, AO.tab), (nl, AO.list (nms.map .str)), (rl, AO.list (rRefs rs))] ++ (rLed rs ++ l)))
    exact perm_swap3 _ _ _
end
section
variable {G : Gd} {A : Around} {l l' : Led} {X : Xp} {R : AF → Led → Prop}
theorem run4 (hG : Ok G) (hg : GlobOk G gtab) {n : Nat} (hr' : Room A (n + 5)) {env : Env} {L c0 p q dk x dx d rq : Addr} {b : Bool} {ep : Nat} {g : List NR} {M : Led} {nms : List Str} {ops : List Op} (hE : EnvOk env nm_law_run L [(Str.ofString "name", c0)]) (ho : OpsOk nms ops) (hok : okS nms = true) (hab : abs g = addOps ops [])
    (h : ∀ tp ol g ys hp ord l₂, JO nms ops nms.length g ys hp ord → Sub ((tp, .tuple [.bool b, .ref ol]) :: (ol, .list (ord.map .str)) :: (p, .list (nms.map .str)) :: M) l₂ → R (.ret (.ref tp)) l₂) :
    BB G A env ((bodyOf (fdAt G.w.params 237)).drop 4) ((L, .ns nm_law_run [some (.ref p), some (.ref q), some (.ref dk), some (.ref x), none, none, none, some (.bool b), none, none, none, none, none, none, none, none, none]) :: (c0, .cell none) :: (p, .list (nms.map .str)) :: (rq, .list ((readyOf (abs g)).map .str)) :: (x, .inst TS dx) :: (dx, .idct (tsKV (.ref d) (.ref rq) 0 0)) :: (d, .sdict (nsKV g) ep) :: (nsLed NI g ++ M)) R X := by
  have hJ0 : JO nms ops 0 (abs g) (readyOf (abs g)) [] [] := by rw [hab]; exact ho.start
  refine BB.cons ?_
  kpc_turns
  refine SS.swap2 hr' hE (by kct_strs) (by kct_strs) ?_
  kpc_turns
  refine ⟨by decide, fun hl => ?_⟩
  kpc_turns
  refine ⟨by decide, fun ol => ?_⟩
  kpc_turns
  refine ⟨by show 2 ≤ 1000; decide, fun tp => (PL.m4_2 tp _ _ _ rfl (by keq_rows) ?_)⟩
  kpc_turns
  refine SS.forH ?_
  kpc_turns
  refine CC.lens (xs := nms) (by keq_rows) (by have := ho.nl; lia) ?_
  kpc_turns
  refine CC.range1 fun rg => ?_
  refine iter_range (by keq_rows) (by have := ho.nl; lia) fun it3 => ?_
  refine ⟨nms.length, _, _, _, _, _, (L, .ns nm_law_run [some (.ref p), some (.ref q), some (.ref dk), some (.ref x), none, none, none, some (.bool b), some (.ref hl), some (.ref ol), none, none, none, none, none, none, none]) :: (c0, .cell none) :: (hl, .list []) :: (ol, .list []) :: (p, .list (nms.map .str)) :: (rq, .list ((readyOf (abs g)).map .str)) :: (x, .inst TS dx) :: (dx, .idct (tsKV (.ref d) (.ref rq) 0 0)) :: (d, .sdict (nsKV g) ep) :: (nsLed NI g ++ M), walk_range (G := G) (A := A) (it := it3) (a := 0) (n := nms.length) hr'.h, trivial, by dsimp only [List.cons_append, List.nil_append]; tlg_ne, fun k K => ∃ g ys hp ord po nf ep2, JO nms ops k (abs g) ys hp ord ∧ HP.Heap HP.slt hp ∧ K = (L, .ns nm_law_run [some (.ref p), some (.ref q), some (.ref dk), some (.ref x), none, none, none, some (.bool b), some (.ref hl), some (.ref ol), none, none, none, none, none, none, none]) :: (c0, .cell none) :: (hl, .list (hp.map .str)) :: (ol, .list (ord.map .str)) :: (p, .list (nms.map .str)) :: (rq, .list (ys.map .str)) :: (x, .inst TS dx) :: (dx, .idct (tsKV (.ref d) (.ref rq) po nf)) :: (d, .sdict (nsKV g) ep2) :: (nsLed NI g ++ M), ?_, ?_, ?_⟩
  · exact (PL.m7_2 g _ ([]) ([]) 0 0 ep hJ0 ((fun i _ => by simp [HP.leO])) rfl)
  · (rintro FF2 hF2 k a E K hk ⟨rfl, rfl⟩; refine PL.j7_2 ?_; rintro g ys hp ord po nf ep2 hJk hH rfl)
    (refine PL.x0_5 (ho.law.go k _ _ _ _ hk hJk) ?_; rintro j1 j2 j3 j4 j5 j6)
    dsimp only [List.cons_append, List.nil_append]
    kpc_turns
    refine SS.forH ?_
    kpc_turns
    refine tsM_ready hG (by kas_types) (by kas_types) ?_
    kpc_turns
    refine CC.sub (l' := [(L, .ns nm_law_run [some (.ref p), some (.ref q), some (.ref dk), some (.ref x), none, none, none, some (.bool b), some (.ref hl), some (.ref ol), none, none, none, none, none, none, none]), (it3, .rangeiter (0 + ((k + 1 : Nat) : Int)) ((nms.length : Int) - ((k + 1 : Nat) : Int)) 1), (c0, .cell none), (hl, .list (hp.map .str)), (ol, .list (ord.map .str)), (p, .list (nms.map .str))] ++ ((rq, .list (ys.map .str)) :: (x, .inst TS dx) :: (dx, .idct (tsKV (.ref d) (.ref rq) po nf)) :: (d, .sdict (nsKV g) ep2) :: (nsLed NI g ++ M))) (by dsimp only [List.cons_append, List.nil_append]; tlg_ne) ?_
    refine cc_readyF [(L, .ns nm_law_run [some (.ref p), some (.ref q), some (.ref dk), some (.ref x), none, none, none, some (.bool b), some (.ref hl), some (.ref ol), none, none, none, none, none, none, none]), (it3, .rangeiter (0 + ((k + 1 : Nat) : Int)) ((nms.length : Int) - ((k + 1 : Nat) : Int)) 1), (c0, .cell none), (hl, .list (hp.map .str)), (ol, .list (ord.map .str)), (p, .list (nms.map .str))] hG hg hr' j3 j1 j2 fun t g' hab' hkv' => ?_
    dsimp only [List.cons_append, List.nil_append]
    refine iter_tuple (by keq_rows) fun it4 => ?_
    refine ⟨ys.length, _, _, _, _, _, (L, .ns nm_law_run [some (.ref p), some (.ref q), some (.ref dk), some (.ref x), none, none, none, some (.bool b), some (.ref hl), some (.ref ol), none, none, none, none, none, none, none]) :: (it3, .rangeiter (0 + ((k + 1 : Nat) : Int)) ((nms.length : Int) - ((k + 1 : Nat) : Int)) 1) :: (c0, .cell none) :: (hl, .list (hp.map .str)) :: (ol, .list (ord.map .str)) :: (p, .list (nms.map .str)) :: (rq, .list []) :: (x, .inst TS dx) :: (dx, .idct (tsKV (.ref d) (.ref rq) (po + ys.length) nf)) :: (d, .sdict (nsKV g') ep2) :: (nsLed NI g' ++ M), by
      have := walk_tuple (G := G) (A := A) (it := it4) (p := t) (xs := ys.map .str) hr'.h
      rw [List.length_map] at this
      exact this, trivial, by dsimp only [List.cons_append, List.nil_append]; tlg_ne, fun k2 K => ∃ hp', hp'.Perm (hp ++ ys.take k2) ∧ HP.Heap HP.slt hp' ∧ K = (L, .ns nm_law_run [some (.ref p), some (.ref q), some (.ref dk), some (.ref x), none, none, none, some (.bool b), some (.ref hl), some (.ref ol), none, none, none, none, none, none, none]) :: (it3, .rangeiter (0 + ((k + 1 : Nat) : Int)) ((nms.length : Int) - ((k + 1 : Nat) : Int)) 1) :: (c0, .cell none) :: (hl, .list (hp'.map .str)) :: (ol, .list (ord.map .str)) :: (p, .list (nms.map .str)) :: (rq, .list []) :: (x, .inst TS dx) :: (dx, .idct (tsKV (.ref d) (.ref rq) (po + ys.length) nf)) :: (d, .sdict (nsKV g') ep2) :: (nsLed NI g' ++ M), ?_, ?_, ?_⟩
    · exact (PL.m1_2 hp (by simp) hH rfl)
    · (rintro FF3 hF3 k2 _ _ K hk2 ⟨hyk, rfl⟩; refine PL.j1_2 ?_; rintro hp' hpp hH' rfl)
      rw [List.getElem?_map, Option.map_eq_some_iff] at hyk
      (revert hyk; refine PL.j1_1 ?_; rintro y hyk rfl)
      have hlen : hp'.length ≤ hp.length + ys.length := by
        rw [hpp.length_eq, List.length_append, List.length_take]
        lia
      dsimp only [List.cons_append, List.nil_append]
      kpc_turns
      refine cc_heappush hG hg hr' (by keq_rows) (by lia) hH' fun zs hzp hzH => ?_
      kpc_turns
      refine hF3.next (PL.m1_2 zs ?_ hzH rfl) (by dsimp only [List.cons_append, List.nil_append]; tlg_ne)
      rw [List.take_add_one, hyk]
      exact hzp.trans (by rw [← List.append_assoc]; exact hpp.append_right _)
    · (rintro K; refine PL.j1_2 ?_; rintro hp' hpp hH' rfl)
      rw [List.take_length] at hpp
      obtain ⟨j9, j8⟩ := j6 hp' hpp
      have hlen : hp'.length ≤ hp.length + ys.length := by
        rw [hpp.length_eq, List.length_append]
        lia
      have hokh : okS hp' = true := by
        unfold okS at hok ⊢
        rw [List.all_eq_true] at hok ⊢
        exact fun y hy => hok y ((hJk.av y).mp (hpp.mem_iff.mp hy)).1
      dsimp only [List.cons_append, List.nil_append]
      kpc_turns
      refine SS.if ?_
      kpc_turns
      refine ⟨by decide, fun em => ?_⟩
      refine Op2.neStrs (a := hp') (b := []) hr' (by kas_types) (show (em, AO.list []) ∈ _ by kas_types) hokh rfl ?_
      kpc_turns
      refine ⟨fun hb => ?_, fun hb => ?_⟩
      · have j7 : hp' ≠ [] := by simpa using hb
        kpc_turns
        refine cc_heappop hG hg hr' (by keq_rows) (by lia) hH' j7 fun m rest hmr hmin hHr => ?_
        (refine PL.x0_5 (j8 m rest hmr hmin) ?_; rintro i1' i2' i3' i4' i5' i6')
        kpc_turns
        refine CC.appends (by keq_rows) (by lia) ?_
        kpc_turns
        refine tsM_done hG (by kas_types) (by kas_types) ?_
        kpc_turns
        refine Get.lastP (by keq_rows) (xs := ord.map .str) (a := .str m) (by rw [List.map_append]; rfl) (by rw [List.length_map]; lia) ?_
        kpc_turns
        rw [← hab'] at i1' i2' i3' i4' i5' i6'
        refine CC.sub (l' := [(L, .ns nm_law_run [some (.ref p), some (.ref q), some (.ref dk), some (.ref x), none, none, none, some (.bool b), some (.ref hl), some (.ref ol), none, none, none, none, none, none, none]), (it3, .rangeiter (0 + ((k + 1 : Nat) : Int)) ((nms.length : Int) - ((k + 1 : Nat) : Int)) 1), (c0, .cell none), (hl, .list (rest.map .str)), (ol, .list ((ord ++ [m]).map .str)), (p, .list (nms.map .str))] ++ ((rq, .list []) :: (x, .inst TS dx) :: (dx, .idct (tsKV (.ref d) (.ref rq) (po + ys.length) nf)) :: (d, .sdict (nsKV g') ep2) :: (nsLed NI g' ++ M))) (by dsimp only [List.cons_append, List.nil_append]; tlg_ne) ?_
        refine cc_doneF [(L, .ns nm_law_run [some (.ref p), some (.ref q), some (.ref dk), some (.ref x), none, none, none, some (.bool b), some (.ref hl), some (.ref ol), none, none, none, none, none, none, none]), (it3, .rangeiter (0 + ((k + 1 : Nat) : Int)) ((nms.length : Int) - ((k + 1 : Nat) : Int)) 1), (c0, .cell none), (hl, .list (rest.map .str)), (ol, .list ((ord ++ [m]).map .str)), (p, .list (nms.map .str))] (ys := []) hG hg hr' i1' i2' i3' i4' (by have := i5'; simp; lia) fun g2 ys2 hd2 hkv2 => ?_
        dsimp only [List.cons_append, List.nil_append]
        kpc_turns
        refine hF2.next (L := (L, .ns nm_law_run [some (.ref p), some (.ref q), some (.ref dk), some (.ref x), none, none, none, some (.bool b), some (.ref hl), some (.ref ol), none, none, none, none, none, none, none]) :: (c0, .cell none) :: (hl, .list (rest.map .str)) :: (ol, .list ((ord ++ [m]).map .str)) :: (p, .list (nms.map .str)) :: (rq, .list (ys2.map .str)) :: (x, .inst TS dx) :: (dx, .idct (tsKV (.ref d) (.ref rq) (po + ys.length) (nf + 1))) :: (d, .sdict (nsKV g2) ep2) :: (nsLed NI g2 ++ M)) (PL.m7_2 g2 ys2 rest (ord ++ [m]) _ _ _ (i6' _ _ hd2) hHr rfl) (by dsimp only [List.cons_append, List.nil_append]; tlg_ne)
      · have j7 : hp' = [] := by simpa using hb
        subst j7
        kpc_turns
        refine hF2.next (L := (L, .ns nm_law_run [some (.ref p), some (.ref q), some (.ref dk), some (.ref x), none, none, none, some (.bool b), some (.ref hl), some (.ref ol), none, none, none, none, none, none, none]) :: (c0, .cell none) :: (hl, .list (([] : List Str).map .str)) :: (ol, .list (ord.map .str)) :: (p, .list (nms.map .str)) :: (rq, .list []) :: (x, .inst TS dx) :: (dx, .idct (tsKV (.ref d) (.ref rq) (po + ys.length) nf)) :: (d, .sdict (nsKV g') ep2) :: (nsLed NI g' ++ M)) (PL.m7_2 g' ([]) ([]) ord _ _ _ (by rw [hab']; exact j9 rfl) hH' rfl) (by dsimp only [List.cons_append, List.nil_append]; tlg_ne)
  · (rintro K; refine PL.j7_2 ?_; rintro g ys hp ord po nf ep2 hJk hH rfl)
    dsimp only [List.cons_append, List.nil_append]
    kpc_turns
    refine ⟨by show 2 ≤ 1000; decide, fun tq => ?_⟩
    kpc_turns
    refine h tq ol _ _ _ _ _ hJk ?_
    refine .trans ?_ (show Sub ((tq, .tuple [.bool b, .ref ol]) :: (ol, .list (ord.map .str)) :: (p, .list (nms.map .str)) :: (nsLed NI g ++ M)) _ by tlg_ne)
    exact .keep (.keep (.keep .left))
end
theorem SS.genR {G : Gd} {A : Around} {env : Env} {l : Led} {X : Xp} {st : Stmt} {R : AF → Led → Prop} (Q : Led → Prop) (h : ∀ R4 : AF → Led → Prop, (∀ l', Q l' → R4 .next l') → SS G A env st l R4 X) (hq : ∀ l', Q l' → R .next l') : SS G A env st l R X := h R hq
section
variable {G : Gd} {A : Around} {l l' : Led} {X : Xp} {R : AF → Led → Prop}
theorem run3 (hG : Ok G) (hg : GlobOk G gtab) {n : Nat} (hr' : Room A (n + 5)) {env : Env} {es : List Env} {L c0 p q dk x dx d : Addr} {ep : Nat} {g : List NR} {M : Led} {nms : List Str} {ops : List Op} (hE : EnvOk env nm_law_run L [(Str.ofString "name", c0)]) (ho : OpsOk nms ops) (hok : okS nms = true) (hab : abs g = addOps ops [])
    (hfr : A.frames = some (env :: es)) (hfL : env.frame = some L) (hes : ∀ vs, ∀ y ∈ env :: es, FrIn ((L, .ns nm_law_run vs) :: M) y)
    (h : ∀ tp ol ord l₂, DueO nms ops nms.length ord → Sub ((tp, .tuple [.bool (decide (ord.length < nms.length)), .ref ol]) :: (ol, .list (ord.map .str)) :: (p, .list (nms.map .str)) :: M) l₂ → R (.ret (.ref tp)) l₂) :
    BB G A env ((bodyOf (fdAt G.w.params 237)).drop 3) ((L, .ns nm_law_run [some (.ref p), some (.ref q), some (.ref dk), some (.ref x), none, none, none, none, none, none, none, none, none, none, none, none, none]) :: (c0, .cell none) :: (p, .list (nms.map .str)) :: (x, .inst TS dx) :: (dx, .idct (tsKV (.ref d) .none 0 0)) :: (d, .sdict (nsKV g) ep) :: (nsLed NI g ++ M)) R X := by
  have hz := ho.size
  refine BB.cons ?_
  refine SS.genR (fun l' => ∃ rq b, ((b = false ∧ ∃ fin, FC.Topo (succOf (addOps ops [])) fin ∧ ∀ y ∈ names (addOps ops []), y ∈ fin) ∨ (b = true ∧ ∃ C : List Str, C ≠ [] ∧ (∀ y ∈ C, y ∈ names (addOps ops [])) ∧ ∀ y ∈ C, ∃ z ∈ C, y ∈ succOf (addOps ops []) z)) ∧ Sub ((L, .ns nm_law_run [some (.ref p), some (.ref q), some (.ref dk), some (.ref x), none, none, none, some (.bool b), none, none, none, none, none, none, none, none, none]) :: (c0, .cell none) :: (p, .list (nms.map .str)) :: (rq, .list ((readyOf (abs g)).map .str)) :: (x, .inst TS dx) :: (dx, .idct (tsKV (.ref d) (.ref rq) 0 0)) :: (d, .sdict (nsKV g) ep) :: (nsLed NI g ++ M)) l') (fun R4 h4 => ?_) ?_
  · refine SS.tryOwn (es := es) (L := L) hG.K (K := KK G.w.params) (C := 72) rfl rfl hfr hfL (fun A l R hR => ?_) ?_
    · exact EE.glob hE hg (by kct_strs) (by kct_strs) hR
    · refine BB.cons ?_
      kpc_turns
      refine tsM_prep hG (by kas_types) (by kas_types) ?_
      kpc_turns
      refine CC.sub (l' := (x, .inst TS dx) :: (dx, .idct (tsKV (.ref d) .none 0 0)) :: (d, .sdict (nsKV g) ep) :: (nsLed NI g ++ ([(L, .ns nm_law_run [some (.ref p), some (.ref q), some (.ref dk), some (.ref x), none, none, none, none, none, none, none, none, none, none, none, none, none]), (c0, .cell none), (p, .list (nms.map .str))] ++ M))) (by dsimp only [List.cons_append, List.nil_append]; exact fr_in (fr := [(L, .ns nm_law_run [some (.ref p), some (.ref q), some (.ref dk), some (.ref x), none, none, none, none, none, none, none, none, none, none, none, none, none]), (c0, .cell none), (p, .list (nms.map .str))])) ?_
      refine cc_prepare hG hg hr' ?_ ?_ ?_ ?_ (fun rq fin hT hall => ?_) fun rq e T C c1 c2 c3 => ?_
      · exact (PL.m1_1 (env :: es) hfr (fun y hy => (hes _ y hy).sub fun z hz => by
          rcases List.mem_cons.mp hz with rfl | hz
          · exact List.mem_append_left _ (.head _)
          · exact List.mem_append_right _ hz))
      · have e : (abs g).length = g.length := by simp [abs]
        rw [← e, hab]; exact hz.1
      · rw [hab]; exact hz.2.2
      · rw [hab]; exact ho.closed
      · refine Tr.sub (fr_out4 (fr := [(L, .ns nm_law_run [some (.ref p), some (.ref q), some (.ref dk), some (.ref x), none, none, none, none, none, none, none, none, none, none, none, none, none]), (c0, .cell none), (p, .list (nms.map .str))]) (N := nsLed NI g) (l := M)) ?_
        dsimp only [List.cons_append, List.nil_append]
        show EE G A env _ _ _ _
        kpc_turns
        refine Op2.isnotNoneNone ?_
        kpc_turns
        rw [hab] at hT hall
        exact h4 _ (PL.m2_1 rq false (.inl ⟨rfl, fin, hT, hall⟩) (by tlg_ne))
      · rw [hab] at c2 c3
        refine (PL.m3_3 T _ _ (.tail .head) (.head) (fun y hy => (hes [some (.ref p), some (.ref q), some (.ref dk), some (.ref x), none, none, none, none, none, none, none, none, none, none, none, none, none] y hy).sub fun z hz => ?_) ?_)
        · rcases List.mem_cons.mp hz with rfl | hz
          · exact .tail _ (.tail _ (.tail _ (.tail _ (List.mem_append_right _ (List.mem_append_left _ (.head _))))))
          · exact .tail _ (.tail _ (.tail _ (.tail _ (List.mem_append_right _ (List.mem_append_right _ hz)))))
        · refine BB.sub (fr_out4 (fr := [(L, .ns nm_law_run [some (.ref p), some (.ref q), some (.ref dk), some (.ref x), none, none, none, none, none, none, none, none, none, none, none, none, none]), (c0, .cell none), (p, .list (nms.map .str))]) (N := nsLed NI g) (l := M)) ?_
          dsimp only [List.cons_append, List.nil_append]
          kpc_turns
          exact h4 _ (PL.m2_1 rq true (.inr ⟨rfl, C, c1, c2, c3⟩) (by tlg_ne))
  · (rintro l'; refine PL.j2_1 ?_; rintro rq b hb hs)
    refine Then.next (BB.sub hs ?_)
    refine run4 hG hg hr' hE ho hok hab fun tp ol g' ys hp ord l₂ hJ hs2 => h tp ol ord l₂ hJ.due ?_
    have : b = decide (ord.length < nms.length) := by
      rcases hb with ⟨rfl, fin, f1, f2⟩ | ⟨rfl, C, c1, c2, c3⟩
      · rw [ho.end0 hJ f1 f2]; simp
      · have := ho.end1 hJ c1 c2 c3
        simp [this]
    rw [← this]
    exact hs2
end
theorem pre_size {nms : List Str} {ops ops' : List Op} (ho : OpsOk nms ops) (hs : ops'.Sublist ops) : (addOps ops' []).length + 8 < 900 ∧ SB (addOps ops' []) 640 ∧ (names (addOps ops' [])).Nodup := by
  (refine PL.x0_2 (addOps_size ops' [] 0 (fun o h => ho.ln o (hs.subset h)) List.nodup_nil (fun n hn => by cases hn)) ?_; rintro h1 h2 h3)
  have h4 := hs.length_le
  have h5 := ho.ol
  refine (PL.m0_2 (by simp at h1; lia) (fun n hn => by have := h2 n hn; lia) h3)
noncomputable def opsP (nms : List Str) (rs : List Rule) (k : Nat) : List Op := ops0 nms ++ (rs.take k).flatMap (opsR nms)
theorem sub_ops {nms : List Str} {rs : List Rule} {k j : Nat} {r : Rule} (hk : rs[k]? = some r) : (opsP nms rs k ++ (opsR nms r).take j).Sublist (opsL nms rs) := by
  unfold opsP opsL
  rw [List.append_assoc]
  refine List.Sublist.append (List.Sublist.refl _) ?_
  have e : rs = rs.take k ++ r :: rs.drop (k + 1) := by
    have hl : k < rs.length := by
      rcases Nat.lt_or_ge k rs.length with q | q
      · exact q
      · rw [List.getElem?_eq_none q] at hk; cases hk
    rw [List.getElem?_eq_getElem hl, Option.some.injEq] at hk
    rw [← hk, ← List.drop_eq_getElem_cons hl, List.take_append_drop]
  have e2 : rs.flatMap (opsR nms) = (rs.take k).flatMap (opsR nms) ++ (opsR nms r ++ (rs.drop (k + 1)).flatMap (opsR nms)) := by
    have := congrArg (List.flatMap (opsR nms)) e
    rw [List.flatMap_append, List.flatMap_cons] at this
    exact this
  rw [e2]
  exact List.Sublist.append (List.Sublist.refl _) ((List.take_sublist _ _).trans (List.sublist_append_left _ _))
theorem opsP_step {nms : List Str} {rs : List Rule} {k : Nat} {r : Rule} (hk : rs[k]? = some r) : opsP nms rs (k + 1) = opsP nms rs k ++ opsR nms r := by
  unfold opsP
  rw [List.take_add_one, hk, List.flatMap_append, List.append_assoc]
  simp
theorem addOps_take {P O : List Op} {j : Nat} {o : Op} (hj : O[j]? = some o) : addOps (P ++ O.take (j + 1)) [] = addS (addOps (P ++ O.take j) []) o.1 o.2 := by
  rw [List.take_add_one, hj, ← List.append_assoc, addOps_append]
  rfl
section
variable {G : Gd} {A : Around} {l l' : Led} {X : Xp} {R : AV → Led → Prop}
theorem tsA_add {R : AV → Led → Prop} {x dx : Addr} {d rd : AV} {po nf : Int} (hG : Ok G) (h1 : (x, .inst TS dx) ∈ l) (h2 : (dx, .idct (tsKV d rd po nf)) ∈ l) (h : ∀ b, R (.ref b) ((b, .fields "method" [.ref 104, .ref x]) :: l)) : GAt G A (Str.ofString "add") (.ref x) l R X :=
  GAt.meth (K := KK G.w.params) hG.K (ts_get _ _) (ts_dict _) rfl rfl rfl rfl (by decide) h1 h2 rfl h
end
section
variable {G : Gd} {A : Around} {l l' : Led} {X : Xp} {R : AF → Led → Prop}
theorem run2 (hG : Ok G) (hg : GlobOk G gtab) {n : Nat} (hr' : Room A (n + 5)) {env : Env} {es : List Env} {L c0 p q dk x dx d : Addr} {ep0 ep : Nat} {g : List NR} {M : Led} {nms : List Str} {rs : List RR} {tks : List TK} (hE : EnvOk env nm_law_run L [(Str.ofString "name", c0)])
    (hn : nms.Nodup) (hnl : nms.length ≤ 8) (hrl : rs.length ≤ 5) (hok : okS nms = true) (hab : abs g = addOps (opsP nms (rRules rs) 0) [])
    (htk : TKok tks (rRules rs)) (hmr : ∀ r ∈ rs, (r.a, AO.tuple [.int (r.f : Int), .int (r.s : Int)]) ∈ M) (hmt : ∀ t ∈ tks, (t.a, kList nms t.k) ∈ M)
    (hfr : A.frames = some (env :: es)) (hfL : env.frame = some L) (hes : ∀ vs, ∀ y ∈ env :: es, FrIn ((L, .ns nm_law_run vs) :: M) y)
    (h : ∀ tp ol ord l₂, DueO nms (opsL nms (rRules rs)) nms.length ord → Sub ((tp, .tuple [.bool (decide (ord.length < nms.length)), .ref ol]) :: (ol, .list (ord.map .str)) :: (p, .list (nms.map .str)) :: (q, .list (rRefs rs)) :: (dk, .idict (iKV tks) ep0) :: M) l₂ → R (.ret (.ref tp)) l₂) :
    BB G A env ((bodyOf (fdAt G.w.params 237)).drop 2) ((L, .ns nm_law_run [some (.ref p), some (.ref q), some (.ref dk), some (.ref x), none, none, none, none, none, none, none, none, none, none, none, none, none]) :: (c0, .cell none) :: (p, .list (nms.map .str)) :: (q, .list (rRefs rs)) :: (dk, .idict (iKV tks) ep0) :: (x, .inst TS dx) :: (dx, .idct (tsKV (.ref d) .none 0 0)) :: (d, .sdict (nsKV g) ep) :: (nsLed NI g ++ M)) R X := by
  have ho := opsL_ok (rs := rRules rs) hn hnl (by simpa using hrl)
  refine BB.cons ?_
  refine SS.forH ?_
  kpc_turns
  refine iter_list (by keq_rows) fun it => ?_
  refine ⟨rs.length, _, _, _, _, _, (L, .ns nm_law_run [some (.ref p), some (.ref q), some (.ref dk), some (.ref x), none, none, none, none, none, none, none, none, none, none, none, none, none]) :: (c0, .cell none) :: (p, .list (nms.map .str)) :: (dk, .idict (iKV tks) ep0) :: (x, .inst TS dx) :: (dx, .idct (tsKV (.ref d) .none 0 0)) :: (d, .sdict (nsKV g) ep) :: (nsLed NI g ++ M), by
    have := walk_list (G := G) (A := A) (it := it) (p := q) (xs := rRefs rs) hr'.h
    rw [List.length_map] at this
    exact this, trivial, by dsimp only [List.cons_append, List.nil_append]; tlg_ne, fun k K => ∃ g ep, abs g = addOps (opsP nms (rRules rs) k) [] ∧ K = (L, .ns nm_law_run [some (.ref p), some (.ref q), some (.ref dk), some (.ref x), none, none, none, none, none, none, none, none, none, none, none, none, none]) :: (c0, .cell none) :: (p, .list (nms.map .str)) :: (dk, .idict (iKV tks) ep0) :: (x, .inst TS dx) :: (dx, .idct (tsKV (.ref d) .none 0 0)) :: (d, .sdict (nsKV g) ep) :: (nsLed NI g ++ M), (PL.m2_1 g ep hab rfl), ?_, ?_⟩
  · (rintro FF1 hF1 k _ _ K hk ⟨hrk, rfl⟩; refine PL.j2_1 ?_; rintro g ep hab rfl)
    rw [List.getElem?_map, Option.map_eq_some_iff] at hrk
    (revert hrk; refine PL.j1_1 ?_; rintro r hrk rfl)
    have hrm := hmr r (List.mem_of_getElem? hrk)
    have hrk2 : (rRules rs)[k]? = some (r.f, r.s) := by rw [List.getElem?_map, hrk]; rfl
    obtain ⟨ha1, ha2⟩ := htk.all (r.f, r.s) (List.mem_of_getElem? hrk2)
    (refine PL.x1_1 (List.mem_map.mp ha1) ?_; rintro t1 ht1 e1)
    (refine PL.x1_1 (List.mem_map.mp ha2) ?_; rintro t2 ht2 e2)
    have hk1 : ((r.f : Int), AV.ref t1.a) ∈ iKV tks := List.mem_map.mpr (PL.m1_1 t1 ht1 (by rw [e1]))
    have hk2 : ((r.s : Int), AV.ref t2.a) ∈ iKV tks := List.mem_map.mpr (PL.m1_1 t2 ht2 (by rw [e2]))
    have hm1 := hmt t1 ht1
    have hm2 := hmt t2 ht2
    rw [e1] at hm1
    rw [e2] at hm2
    obtain ⟨M1, hM1⟩ := Pick.ofMem hm1
    obtain ⟨M2, hM2⟩ := Pick.ofMem hm2
    have hrm2 : (r.a, AO.tuple [.int (r.f : Int), .int (r.s : Int)]) ∈ (nsLed NI g ++ M) := List.mem_append_right _ hrm
    dsimp only [List.cons_append, List.nil_append]
    refine Asg.tupM hr' (ts := [PySem.assign _ env, PySem.assign _ env]) (by repeat (first | exact hrm2 | apply List.mem_cons_of_mem)) ?_
    refine AIO.asg ?_
    kpc_turns
    refine AIO.asg ?_
    kpc_turns
    refine AIO.nil ?_
    refine BB.cons ?_
    refine SS.forH ?_
    kpc_turns
    refine SubOp.idict (by keq_rows) ?_
    refine Get.idict (by keq_rows) hk1 ?_
    refine iter_list (by repeat (first | exact Pick.app' hM1 _ | apply Pick.tail)) fun it2 => ?_
    refine ⟨(nms.filter fun n => kd n r.f).length, _, _, _, _, _, (it, .listiter q (k + 1)) :: (q, .list (rRefs rs)) :: (L, .ns nm_law_run [some (.ref p), some (.ref q), some (.ref dk), some (.ref x), none, some (.int (r.f : Int)), some (.int (r.s : Int)), none, none, none, none, none, none, none, none, none, none]) :: (c0, .cell none) :: (p, .list (nms.map .str)) :: (dk, .idict (iKV tks) ep0) :: (x, .inst TS dx) :: (dx, .idct (tsKV (.ref d) .none 0 0)) :: (d, .sdict (nsKV g) ep) :: (nsLed NI g ++ M1), by
      have := walk_list (G := G) (A := A) (it := it2) (p := t1.a) (xs := (nms.filter fun n => kd n r.f).map .str) hr'.h
      rw [List.length_map] at this
      exact this, trivial, by dsimp only [List.cons_append, List.nil_append]; tlg_ne, fun j K => ∃ g ep, abs g = addOps (opsP nms (rRules rs) k ++ (opsR nms (r.f, r.s)).take j) [] ∧ K = (it, .listiter q (k + 1)) :: (q, .list (rRefs rs)) :: (L, .ns nm_law_run [some (.ref p), some (.ref q), some (.ref dk), some (.ref x), none, some (.int (r.f : Int)), some (.int (r.s : Int)), none, none, none, none, none, none, none, none, none, none]) :: (c0, .cell none) :: (p, .list (nms.map .str)) :: (dk, .idict (iKV tks) ep0) :: (x, .inst TS dx) :: (dx, .idct (tsKV (.ref d) .none 0 0)) :: (d, .sdict (nsKV g) ep) :: (nsLed NI g ++ M1), (PL.m2_1 g ep (by rw [hab]; simp) rfl), ?_, ?_⟩
    · (rintro FF2 hF2 j _ _ K hj ⟨hnj, rfl⟩; refine PL.j2_1 ?_; rintro g ep hab rfl)
      rw [List.getElem?_map, Option.map_eq_some_iff] at hnj
      (revert hnj; refine PL.j1_1 ?_; rintro nm hnj rfl)
      have hoj : (opsR nms (r.f, r.s))[j]? = some (nm, (nms.filter fun o => kd o r.s).filter fun o => o != nm) := by
        unfold opsR
        rw [List.getElem?_map, hnj]; rfl
      (refine PL.x0_2 (pre_size ho (sub_ops (nms := nms) (j := j) hrk2)) ?_; rintro z1 z2 z3)
      rw [← hab] at z1 z2 z3
      have hlg : (abs g).length = g.length := by simp [abs]
      have hfl : (nms.filter fun o => kd o r.s).length ≤ 8 := Nat.le_trans (List.length_filter_le _ _) hnl
      have hfl2 : ((nms.filter fun o => kd o r.s).filter fun o => o != nm).length ≤ 8 := Nat.le_trans (List.length_filter_le _ _) hfl
      dsimp only [List.cons_append, List.nil_append]
      kpc_turns
      refine Tr.sub (l' := (it2, .listiter t1.a (j + 1)) :: (it, .listiter q (k + 1)) :: (q, .list (rRefs rs)) :: (L, .ns nm_law_run [some (.ref p), some (.ref q), some (.ref dk), some (.ref x), none, some (.int (r.f : Int)), some (.int (r.s : Int)), none, none, none, none, none, none, none, none, none, none]) :: (c0, .cell (some (.str nm))) :: (p, .list (nms.map .str)) :: (dk, .idict (iKV tks) ep0) :: (x, .inst TS dx) :: (dx, .idct (tsKV (.ref d) .none 0 0)) :: (d, .sdict (nsKV g) ep) :: (nsLed NI g ++ M)) (.trans (l' := (t1.a, AO.list ((nms.filter fun n => kd n r.f).map .str)) :: (it2, .listiter t1.a (j + 1)) :: (it, .listiter q (k + 1)) :: (q, .list (rRefs rs)) :: (L, .ns nm_law_run [some (.ref p), some (.ref q), some (.ref dk), some (.ref x), none, some (.int (r.f : Int)), some (.int (r.s : Int)), none, none, none, none, none, none, none, none, none, none]) :: (c0, .cell (some (.str nm))) :: (p, .list (nms.map .str)) :: (dk, .idict (iKV tks) ep0) :: (x, .inst TS dx) :: (dx, .idct (tsKV (.ref d) .none 0 0)) :: (d, .sdict (nsKV g) ep) :: (nsLed NI g ++ M1)) ?_ (by tlg_ne)) ?_
      · exact .trans (l' := (it2, .listiter t1.a (j + 1)) :: (it, .listiter q (k + 1)) :: (q, .list (rRefs rs)) :: (L, .ns nm_law_run [some (.ref p), some (.ref q), some (.ref dk), some (.ref x), none, some (.int (r.f : Int)), some (.int (r.s : Int)), none, none, none, none, none, none, none, none, none, none]) :: (c0, .cell (some (.str nm))) :: (p, .list (nms.map .str)) :: (dk, .idict (iKV tks) ep0) :: (x, .inst TS dx) :: (dx, .idct (tsKV (.ref d) .none 0 0)) :: (d, .sdict (nsKV g) ep) :: ((t1.a, AO.list ((nms.filter fun n => kd n r.f).map .str)) :: (nsLed NI g ++ M1))) (by repeat (first | exact Sub.midI hM1 _ | apply Sub.keep)) (by tlg_ne)
      show EE G A env _ _ _ _
      refine EE.mcallM ?_
      kpc_turns
      refine tsA_add hG (by kas_types) (by kas_types) fun bm => ?_
      (refine PL.x1_1 ((fn_TS_add hG).obj) ?_; rintro oa hoa hda)
      refine (PL.m5_3 bm 104 x oa _ rfl hoa hda ?_)
      kpc_turns
      refine EE.listcomp (cn := [(Str.ofString ".0", .local), (Str.ofString "other", .local), (Str.ofString "name", .free)]) (cn' := [(Str.ofString ".0", .local), (Str.ofString "other", .local), (Str.ofString "name", .cell)]) (cl2 := [(Str.ofString "name", c0)]) (ownk := []) (vals := [none, none, none]) hE ⟨rfl, rfl, rfl, rfl, rfl, by decide, by decide, (show ([Str.ofString "name"] : List Str).Nodup by decide), by decide, rfl, rfl⟩ ?_
      kpc_turns
      refine SubOp.idict (by keq_rows) ?_
      refine Get.idict (by keq_rows) hk2 ?_
      refine iter_list (by repeat (first | exact Pick.app' hM2 _ | apply Pick.tail)) fun it3 => ?_
      refine (PL.m7_4 ((nms.filter fun o => kd o r.s).length) _ _ _ _ _ ((bm, .fields "method" [.ref 104, .ref x]) :: (it2, .listiter t1.a (j + 1)) :: (it, .listiter q (k + 1)) :: (q, .list (rRefs rs)) :: (L, .ns nm_law_run [some (.ref p), some (.ref q), some (.ref dk), some (.ref x), none, some (.int (r.f : Int)), some (.int (r.s : Int)), none, none, none, none, none, none, none, none, none, none]) :: (c0, .cell (some (.str nm))) :: (p, .list (nms.map .str)) :: (dk, .idict (iKV tks) ep0) :: (x, .inst TS dx) :: (dx, .idct (tsKV (.ref d) .none 0 0)) :: (d, .sdict (nsKV g) ep) :: (nsLed NI g ++ M2)) (by
        have := walk_list (G := G) (A := A) (it := it3) (p := t2.a) (xs := (nms.filter fun o => kd o r.s).map .str) hr'.h
        rw [List.length_map] at this
        exact this) trivial (by lia) (by dsimp only [List.cons_append, List.nil_append]; tlg_ne) (fun C acc own cenv hown hEc => ?_))
      obtain rfl : own = [] := by simpa using hown
      rw [List.nil_append] at hEc
      refine (PL.m1_2 (fun k3 xs K => xs = (((nms.filter fun o => kd o r.s).take k3).filter fun o => o != nm).map AV.str ∧ K = (bm, .fields "method" [.ref 104, .ref x]) :: (it2, .listiter t1.a (j + 1)) :: (it, .listiter q (k + 1)) :: (q, .list (rRefs rs)) :: (L, .ns nm_law_run [some (.ref p), some (.ref q), some (.ref dk), some (.ref x), none, some (.int (r.f : Int)), some (.int (r.s : Int)), none, none, none, none, none, none, none, none, none, none]) :: (c0, .cell (some (.str nm))) :: (p, .list (nms.map .str)) :: (dk, .idict (iKV tks) ep0) :: (x, .inst TS dx) :: (dx, .idct (tsKV (.ref d) .none 0 0)) :: (d, .sdict (nsKV g) ep) :: (nsLed NI g ++ M2)) (⟨rfl, rfl⟩) ?_ ?_)
      · rintro k3 xs _ _ K hk3 ⟨hok3, rfl⟩ ⟨rfl, rfl⟩
        rw [List.getElem?_map, Option.map_eq_some_iff] at hok3
        (revert hok3; refine PL.j1_1 ?_; rintro o hok3 rfl)
        dsimp only [List.cons_append, List.nil_append]
        kpc_turns
        refine IT.one ?_
        kpc_turns
        refine ⟨fun hb => ?_, fun hb => ?_⟩
        · kpc_turns
          refine CEnd.mk ⟨?_, rfl⟩ (by dsimp only [List.cons_append, List.nil_append]; tlg_ne)
          exact (filt_yes (p := fun o => o != nm) _ hok3 hb).symm
        · refine CEnd.mk ⟨?_, rfl⟩ (by dsimp only [List.cons_append, List.nil_append]; tlg_ne)
          exact (filt_no (p := fun o => o != nm) _ hok3 hb).symm
      · rintro xs K ⟨rfl, rfl⟩
        rw [List.take_length]
        dsimp only [List.cons_append, List.nil_append]
        refine (PL.m3_4 acc _ _ rfl (by keq_rows) (by rw [List.length_map]; lia) (by kas_types) ?_)
        show CK G A _ ([.ref x, .str nm] ++ ((nms.filter fun o => kd o r.s).filter fun o => o != nm).map .str) _ _ _
        refine CK.sub (l' := [(it2, .listiter t1.a (j + 1)), (it, .listiter q (k + 1)), (q, .list (rRefs rs)), (L, .ns nm_law_run [some (.ref p), some (.ref q), some (.ref dk), some (.ref x), none, some (.int (r.f : Int)), some (.int (r.s : Int)), none, none, none, none, none, none, none, none, none, none]), (c0, .cell (some (.str nm))), (p, .list (nms.map .str)), (dk, .idict (iKV tks) ep0)] ++ ((x, .inst TS dx) :: (dx, .idct (tsKV (.ref d) .none 0 0)) :: (d, .sdict (nsKV g) ep) :: (nsLed NI g ++ M))) (.trans (l' := (it2, .listiter t1.a (j + 1)) :: (it, .listiter q (k + 1)) :: (q, .list (rRefs rs)) :: (L, .ns nm_law_run [some (.ref p), some (.ref q), some (.ref dk), some (.ref x), none, some (.int (r.f : Int)), some (.int (r.s : Int)), none, none, none, none, none, none, none, none, none, none]) :: (c0, .cell (some (.str nm))) :: (p, .list (nms.map .str)) :: (dk, .idict (iKV tks) ep0) :: (x, .inst TS dx) :: (dx, .idct (tsKV (.ref d) .none 0 0)) :: (d, .sdict (nsKV g) ep) :: ((t2.a, AO.list ((nms.filter fun n => kd n r.s).map .str)) :: (nsLed NI g ++ M2))) (by dsimp only [List.cons_append, List.nil_append]; repeat (first | exact Sub.midI hM2 _ | apply Sub.keep)) (by tlg_ne)) ?_
        refine ck_addF [(it2, .listiter t1.a (j + 1)), (it, .listiter q (k + 1)), (q, .list (rRefs rs)), (L, .ns nm_law_run [some (.ref p), some (.ref q), some (.ref dk), some (.ref x), none, some (.int (r.f : Int)), some (.int (r.s : Int)), none, none, none, none, none, none, none, none, none, none]), (c0, .cell (some (.str nm))), (p, .list (nms.map .str)), (dk, .idict (iKV tks) ep0)] hG hg hr' (m := 640) (by lia) (by lia) z2 z3 fun g' ep' hab' => ?_
        dsimp only [List.cons_append, List.nil_append]
        kpc_turns
        refine hF2.next (L := (it, .listiter q (k + 1)) :: (q, .list (rRefs rs)) :: (L, .ns nm_law_run [some (.ref p), some (.ref q), some (.ref dk), some (.ref x), none, some (.int (r.f : Int)), some (.int (r.s : Int)), none, none, none, none, none, none, none, none, none, none]) :: (c0, .cell none) :: (p, .list (nms.map .str)) :: (dk, .idict (iKV tks) ep0) :: (x, .inst TS dx) :: (dx, .idct (tsKV (.ref d) .none 0 0)) :: (d, .sdict (nsKV g') ep') :: (nsLed NI g' ++ M1)) (PL.m2_1 g' ep' ?_ rfl) ?_
        · rw [hab', hab]
          exact (addOps_take hoj).symm
        · dsimp only [List.cons_append, List.nil_append]
          refine .trans (l' := (it2, .listiter t1.a (j + 1)) :: (it, .listiter q (k + 1)) :: (q, .list (rRefs rs)) :: (L, .ns nm_law_run [some (.ref p), some (.ref q), some (.ref dk), some (.ref x), none, some (.int (r.f : Int)), some (.int (r.s : Int)), none, none, none, none, none, none, none, none, none, none]) :: (c0, .cell (some (.str nm))) :: (p, .list (nms.map .str)) :: (dk, .idict (iKV tks) ep0) :: (x, .inst TS dx) :: (dx, .idct (tsKV (.ref d) .none 0 0)) :: (d, .sdict (nsKV g') ep') :: ((t1.a, AO.list ((nms.filter fun n => kd n r.f).map .str)) :: (nsLed NI g' ++ M1))) (by tlg_ne) (by repeat (first | exact Sub.midO hM1 _ | apply Sub.keep))
    · (rintro K; refine PL.j2_1 ?_; rintro g ep hab rfl)
      have hL : (opsR nms (r.f, r.s)).take (nms.filter fun n => kd n r.f).length = opsR nms (r.f, r.s) := List.take_of_length_le (by unfold opsR; rw [List.length_map]; exact Nat.le_refl _)
      rw [hL, ← opsP_step hrk2] at hab
      dsimp only [List.cons_append, List.nil_append]
      kpc_turns
      refine hF1.next (L := (L, .ns nm_law_run [some (.ref p), some (.ref q), some (.ref dk), some (.ref x), none, none, none, none, none, none, none, none, none, none, none, none, none]) :: (c0, .cell none) :: (p, .list (nms.map .str)) :: (dk, .idict (iKV tks) ep0) :: (x, .inst TS dx) :: (dx, .idct (tsKV (.ref d) .none 0 0)) :: (d, .sdict (nsKV g) ep) :: (nsLed NI g ++ M)) (PL.m2_1 g ep hab rfl) ?_
      dsimp only [List.cons_append, List.nil_append]
      refine .trans (l' := (it, .listiter q (k + 1)) :: (q, .list (rRefs rs)) :: (L, .ns nm_law_run [some (.ref p), some (.ref q), some (.ref dk), some (.ref x), none, none, none, none, none, none, none, none, none, none, none, none, none]) :: (c0, .cell none) :: (p, .list (nms.map .str)) :: (dk, .idict (iKV tks) ep0) :: (x, .inst TS dx) :: (dx, .idct (tsKV (.ref d) .none 0 0)) :: (d, .sdict (nsKV g) ep) :: ((t1.a, AO.list ((nms.filter fun n => kd n r.f).map .str)) :: (nsLed NI g ++ M1))) (by repeat (first | exact Sub.midI hM1 _ | apply Sub.keep)) (by tlg_ne)
  · (rintro K; refine PL.j2_1 ?_; rintro g ep hab rfl)
    have hL : opsP nms (rRules rs) rs.length = opsL nms (rRules rs) := by
      unfold opsP opsL
      rw [List.take_of_length_le (by simp)]
    rw [hL] at hab
    refine BB.sub (l' := (L, .ns nm_law_run [some (.ref p), some (.ref q), some (.ref dk), some (.ref x), none, none, none, none, none, none, none, none, none, none, none, none, none]) :: (c0, .cell none) :: (p, .list (nms.map .str)) :: (x, .inst TS dx) :: (dx, .idct (tsKV (.ref d) .none 0 0)) :: (d, .sdict (nsKV g) ep) :: (nsLed NI g ++ ((q, .list (rRefs rs)) :: (dk, .idict (iKV tks) ep0) :: M))) ?_ ?_
    · refine .trans (l' := (q, .list (rRefs rs)) :: (dk, .idict (iKV tks) ep0) :: (L, .ns nm_law_run [some (.ref p), some (.ref q), some (.ref dk), some (.ref x), none, none, none, none, none, none, none, none, none, none, none, none, none]) :: (c0, .cell none) :: (p, .list (nms.map .str)) :: (x, .inst TS dx) :: (dx, .idct (tsKV (.ref d) .none 0 0)) :: (d, .sdict (nsKV g) ep) :: (nsLed NI g ++ M)) (.perm ?_) (by dsimp only [List.cons_append, List.nil_append]; tlg_ne)
      show (([(q, .list (rRefs rs)), (dk, .idict (iKV tks) ep0)] : Led) ++ (((L, .ns nm_law_run [some (.ref p), some (.ref q), some (.ref dk), some (.ref x), none, none, none, none, none, none, none, none, none, none, none, none, none]) :: (c0, .cell none) :: (p, .list (nms.map .str)) :: (x, .inst TS dx) :: (dx, .idct (tsKV (.ref d) .none 0 0)) :: (d, .sdict (nsKV g) ep) :: nsLed NI g : Led) ++ M)).Perm (((L, .ns nm_law_run [some (.ref p), some (.ref q), some (.ref dk), some (.ref x), none, none, none, none, none, none, none, none, none, none, none, none, none]) :: (c0, .cell none) :: (p, .list (nms.map .str)) :: (x, .inst TS dx) :: (dx, .idct (tsKV (.ref d) .none 0 0)) :: (d, .sdict (nsKV g) ep) :: nsLed NI g : Led) ++ (([(q, .list (rRefs rs)), (dk, .idict (iKV tks) ep0)] : Led) ++ M))
      exact perm_swap3 _ _ _
    refine run3 hG hg hr' hE ho hok hab hfr hfL (fun vs y hy => (hes vs y hy).sub fun z hz => ?_) h
    rcases List.mem_cons.mp hz with rfl | hz
    · exact .head _
    · exact .tail _ (.tail _ (.tail _ hz))
end
section
variable {G : Gd} {A : Around} {l l' : Led} {X : Xp} {R : AV → Led → Prop}
theorem cc_run (hG : Ok G) (hg : GlobOk G gtab) {n : Nat} (hr : Room A (n + 6)) {p q dk : Addr} {ep0 : Nat} {M : Led} {nms : List Str} {rs : List RR} {tks : List TK}
    (hn : nms.Nodup) (hnl : nms.length ≤ 8) (hrl : rs.length ≤ 5) (hok : okS nms = true) (hfrs : FrsIn A M)
    (htk : TKok tks (rRules rs)) (hmr : ∀ r ∈ rs, (r.a, AO.tuple [.int (r.f : Int), .int (r.s : Int)]) ∈ M) (hmt : ∀ t ∈ tks, (t.a, kList nms t.k) ∈ M)
    (h : ∀ tp ol ord, DueO nms (opsL nms (rRules rs)) nms.length ord → R (.ref tp) ((tp, .tuple [.bool (decide (ord.length < nms.length)), .ref ol]) :: (ol, .list (ord.map .str)) :: (p, .list (nms.map .str)) :: (q, .list (rRefs rs)) :: (dk, .idict (iKV tks) ep0) :: M)) :
    CC G A (.ref 237) [.ref p, .ref q, .ref dk] ((p, .list (nms.map .str)) :: (q, .list (rRefs rs)) :: (dk, .idict (iKV tks) ep0) :: M) R X := by
  refine CC.def1 (fn_law_run hG) hr [Str.ofString "names", Str.ofString "rules", Str.ofString "taken"] (by lcg_sub) ⟨rfl, rfl, rfl, rfl, rfl, rfl, by decide⟩ rfl (by kba_ints) (by lsm_bools) (by kbo_bools) fun L c0 env A' hE hr' hx => ?_
  have ho := opsL_ok (rs := rRules rs) hn hnl (by simpa using hrl)
  (revert hfrs; refine PL.j1_1 ?_; rintro es hfr hes)
  have hfrA : A'.frames = some (env :: es) := by rw [hx.deeper]; show A.frames.map _ = some (env :: es); rw [hfr]; rfl
  refine BB.cons ?_
  kpc_turns
  refine Or.inl ⟨kept_TS hG, ?_⟩
  kpc_turns
  refine cc_newTS hG hg hr' fun x dx d ep => ?_
  kpc_turns
  refine SS.forH ?_
  kpc_turns
  refine iter_list (by keq_rows) fun it => ?_
  refine ⟨nms.length, _, _, _, _, _, (L, .ns nm_law_run [some (.ref p), some (.ref q), some (.ref dk), some (.ref x), none, none, none, none, none, none, none, none, none, none, none, none, none]) :: (c0, .cell none) :: (q, .list (rRefs rs)) :: (dk, .idict (iKV tks) ep0) :: (x, .inst TS dx) :: (dx, .idct (tsKV (.ref d) .none 0 0)) :: (d, .sdict (nsKV []) ep) :: (nsLed NI [] ++ M), by
    have := walk_list (G := G) (A := A') (it := it) (p := p) (xs := nms.map .str) hr'.h
    rw [List.length_map] at this
    exact this, trivial, ?_, fun j K => ∃ g ep, abs g = addOps ([] ++ (ops0 nms).take j) [] ∧ K = (L, .ns nm_law_run [some (.ref p), some (.ref q), some (.ref dk), some (.ref x), none, none, none, none, none, none, none, none, none, none, none, none, none]) :: (c0, .cell none) :: (q, .list (rRefs rs)) :: (dk, .idict (iKV tks) ep0) :: (x, .inst TS dx) :: (dx, .idct (tsKV (.ref d) .none 0 0)) :: (d, .sdict (nsKV g) ep) :: (nsLed NI g ++ M), (PL.m2_1 ([]) ep rfl rfl), ?_, ?_⟩
  · show Sub (_ ++ ((L, .ns nm_law_run [some (.ref p), some (.ref q), some (.ref dk), some (.ref x), none, none, none, none, none, none, none, none, none, none, none, none, none]) :: (c0, .cell none) :: (q, .list (rRefs rs)) :: (dk, .idict (iKV tks) ep0) :: (x, .inst TS dx) :: (dx, .idct (tsKV (.ref d) .none 0 0)) :: (d, .sdict [] ep) :: M)) _
    dsimp only [List.cons_append, List.nil_append]
    tlg_ne
  · (rintro FF1 hF1 j _ _ K hj ⟨hnj, rfl⟩; refine PL.j2_1 ?_; rintro g ep hab rfl)
    rw [List.getElem?_map, Option.map_eq_some_iff] at hnj
    (revert hnj; refine PL.j1_1 ?_; rintro nm hnj rfl)
    have hoj : (ops0 nms)[j]? = some (nm, []) := by
      unfold ops0
      rw [List.getElem?_map, hnj]; rfl
    have hsub : ([] ++ (ops0 nms).take j).Sublist (opsL nms (rRules rs)) := by
      rw [List.nil_append]
      unfold opsL
      exact (List.take_sublist _ _).trans (List.sublist_append_left _ _)
    (refine PL.x0_2 (pre_size ho hsub) ?_; rintro z1 z2 z3)
    rw [← hab] at z1 z2 z3
    have hlg : (abs g).length = g.length := by simp [abs]
    dsimp only [List.cons_append, List.nil_append]
    kpc_turns
    refine tsM_add hG (by kas_types) (by kas_types) ?_
    kpc_turns
    refine CC.ofK ?_
    show CK G A' _ ([.ref x, .str nm] ++ ([] : List Str).map .str) _ _ _
    refine CK.sub (l' := [(it, .listiter p (j + 1)), (p, .list (nms.map .str)), (L, .ns nm_law_run [some (.ref p), some (.ref q), some (.ref dk), some (.ref x), none, none, none, none, none, none, none, none, none, none, none, none, none]), (c0, .cell (some (.str nm))), (q, .list (rRefs rs)), (dk, .idict (iKV tks) ep0)] ++ ((x, .inst TS dx) :: (dx, .idct (tsKV (.ref d) .none 0 0)) :: (d, .sdict (nsKV g) ep) :: (nsLed NI g ++ M))) (by dsimp only [List.cons_append, List.nil_append]; tlg_ne) ?_
    refine ck_addF [(it, .listiter p (j + 1)), (p, .list (nms.map .str)), (L, .ns nm_law_run [some (.ref p), some (.ref q), some (.ref dk), some (.ref x), none, none, none, none, none, none, none, none, none, none, none, none, none]), (c0, .cell (some (.str nm))), (q, .list (rRefs rs)), (dk, .idict (iKV tks) ep0)] hG hg hr' (m := 640) (by simp; lia) (by simp) z2 z3 fun g' ep' hab' => ?_
    dsimp only [List.cons_append, List.nil_append]
    kpc_turns
    refine hF1.next (L := (L, .ns nm_law_run [some (.ref p), some (.ref q), some (.ref dk), some (.ref x), none, none, none, none, none, none, none, none, none, none, none, none, none]) :: (c0, .cell none) :: (q, .list (rRefs rs)) :: (dk, .idict (iKV tks) ep0) :: (x, .inst TS dx) :: (dx, .idct (tsKV (.ref d) .none 0 0)) :: (d, .sdict (nsKV g') ep') :: (nsLed NI g' ++ M)) (PL.m2_1 g' ep' ?_ rfl) (by dsimp only [List.cons_append, List.nil_append]; tlg_ne)
    rw [hab', hab]
    exact (addOps_take hoj).symm
  · (rintro K; refine PL.j2_1 ?_; rintro g ep hab rfl)
    have hL : [] ++ (ops0 nms).take nms.length = opsP nms (rRules rs) 0 := by
      rw [List.nil_append, List.take_of_length_le (by unfold ops0; rw [List.length_map]; exact Nat.le_refl _)]
      unfold opsP
      simp
    rw [hL] at hab
    dsimp only [List.cons_append, List.nil_append]
    refine BB.sub (l' := (L, .ns nm_law_run [some (.ref p), some (.ref q), some (.ref dk), some (.ref x), none, none, none, none, none, none, none, none, none, none, none, none, none]) :: (c0, .cell none) :: (p, .list (nms.map .str)) :: (q, .list (rRefs rs)) :: (dk, .idict (iKV tks) ep0) :: (x, .inst TS dx) :: (dx, .idct (tsKV (.ref d) .none 0 0)) :: (d, .sdict (nsKV g) ep) :: (nsLed NI g ++ M)) (by tlg_ne) ?_
    refine run2 hG hg hr' hE hn hnl hrl hok hab htk hmr hmt hfrA hx.frame (fun vs y hy => ?_) fun tp ol ord l₂ hD hs => (PL.m1_1 _ hs (h tp ol ord hD))
    rcases List.mem_cons.mp hy with rfl | hy
    · exact ⟨by rw [hE.kind]; decide, L, _, _, hx.frame, .head _⟩
    · exact (hes y hy).sub fun z hz => .tail _ hz
end
structure KR where
  a : Addr
  n : Str
noncomputable abbrev kRefs (ks : List KR) : List AV := ks.map fun k => AV.ref k.a
noncomputable abbrev kAO (n : Str) : AO := AO.list ((kindsOf n).map .bool)
noncomputable abbrev wideK (rs : List RR) (n : Str) : List Nat := (rs.filter fun r => kd n r.f).map RR.s
theorem kd_get {n : Str} (h : n ∈ allN) {k : Nat} (hk : k < 8) : ((kindsOf n).map AV.bool)[k]? = some (.bool (kd n k)) := by
  have hl : k < (kindsOf n).length := by rw [(allN_ok h).2.2]; exact hk
  rw [List.getElem?_map, List.getElem?_eq_getElem hl]
  unfold kd
  rw [List.getD_eq_getElem?_getD, List.getElem?_eq_getElem hl]
  rfl
theorem wideK_eq (rs : List RR) (n : Str) : (((rRules rs).filter fun r => kd n r.1).map (·.2)) = wideK rs n := by
  unfold rRules wideK
  rw [List.filter_map, List.map_map]
  rfl
theorem leftD_eq (nms : List Str) (rs : List RR) (dl : List Str) (n : Str) : leftD nms (rRules rs) dl n = nms.filter fun o => !(dl ++ [n]).contains o && (wideK rs n).filter (fun k => kd o k) != [] := by
  unfold leftD
  rw [wideK_eq]
theorem nats_yes {rs : List RR} {p : RR → Bool} {k : Nat} {r : RR} (hk : rs[k]? = some r) (h : p r = true) : natsAV (((rs.take (k + 1)).filter p).map RR.s) = natsAV (((rs.take k).filter p).map RR.s) ++ [.int (r.s : Int)] := by
  unfold natsAV
  rw [List.map_map, List.map_map]
  exact filt_yes _ hk h
theorem nats_no {rs : List RR} {p : RR → Bool} {k : Nat} {r : RR} (hk : rs[k]? = some r) (h : p r = false) : natsAV (((rs.take (k + 1)).filter p).map RR.s) = natsAV (((rs.take k).filter p).map RR.s) := by
  unfold natsAV
  rw [List.map_map, List.map_map]
  exact filt_no _ hk h
section
variable {G : Gd} {A : Around} {l l' : Led} {X : Xp} {R : AV → Led → Prop}
theorem cc_due (hG : Ok G) (hg : GlobOk G gtab) {n : Nat} (hr : Room A (n + 6)) {p q kl : Addr} {M : Led} {ks : List KR} {rs : List RR}
    (hnl : ks.length ≤ 8) (hrl : rs.length ≤ 5) (hrs : ∀ q ∈ rs, q.f < 8 ∧ q.s < 8) (hn : ∀ u ∈ ks, u.n ∈ allN)
    (hmr : ∀ r ∈ rs, (r.a, AO.tuple [.int (r.f : Int), .int (r.s : Int)]) ∈ M) (hmk : ∀ u ∈ ks, (u.a, kAO u.n) ∈ M)
    (h : ∀ tp ol ord, DueO (ks.map KR.n) (opsL (ks.map KR.n) (rRules rs)) (ks.map KR.n).length ord → R (.ref tp) ((tp, .tuple [.bool (decide (ord.length < (ks.map KR.n).length)), .ref ol]) :: (ol, .list (ord.map .str)) :: (p, .list ((ks.map KR.n).map .str)) :: (q, .list (rRefs rs)) :: (kl, .list (kRefs ks)) :: M)) :
    CC G A (.ref 249) [.ref p, .ref q, .ref kl] ((p, .list ((ks.map KR.n).map .str)) :: (q, .list (rRefs rs)) :: (kl, .list (kRefs ks)) :: M) R X := by
  have hnl2 : (ks.map KR.n).length ≤ 8 := by rw [List.length_map]; exact hnl
  have hzl : ((ks.map KR.n).map AV.str).length = (kRefs ks).length := by simp
  have hokn : ∀ ss : List Str, (∀ s ∈ ss, s ∈ (ks.map KR.n)) → okS ss = true := fun ss hs => by
    unfold okS
    rw [List.all_eq_true]
    intro s hs'
    (refine PL.x1_1 (List.mem_map.mp (hs s hs')) ?_; rintro u hu rfl)
    exact (allN_ok (hn u hu)).1
  refine CC.def4 (fn_law_due hG) hr [Str.ofString "names", Str.ofString "rules", Str.ofString "kinds"] (by lcg_sub) ⟨rfl, rfl, rfl, rfl, rfl, rfl, by decide⟩ rfl (by kba_ints) (by lsm_bools) (by kbo_bools) fun L c0 c1 c2 c3 env A' hE hr' hx => ?_
  refine BB.cons ?_
  kpc_turns
  refine ⟨by decide, fun ol => ?_⟩
  kpc_turns
  refine SS.forH ?_
  kpc_turns
  refine CC.lens (xs := (ks.map KR.n)) (by keq_rows) (by lia) ?_
  kpc_turns
  refine CC.range1 fun rg => ?_
  refine iter_range (by keq_rows) (by lia) fun it3 => ?_
  refine ⟨(ks.map KR.n).length, _, _, _, _, _, (L, .ns nm_law_due [some (.ref p), some (.ref q), some (.ref kl), none, none, none, none, none, none, none, none, none, none, none]) :: (c0, .cell none) :: (c1, .cell none) :: (c2, .cell none) :: (c3, .cell (some (.ref ol))) :: (ol, .list []) :: (p, .list ((ks.map KR.n).map .str)) :: (q, .list (rRefs rs)) :: (kl, .list (kRefs ks)) :: M, walk_range (G := G) (A := A') (it := it3) (a := 0) (n := (ks.map KR.n).length) hr'.h, trivial, by dsimp only [zipL, zipF, List.cons_append, List.nil_append]; tlg_ne, fun k K => ∃ dl, DueO (ks.map KR.n) (opsL (ks.map KR.n) (rRules rs)) k dl ∧ K = (L, .ns nm_law_due [some (.ref p), some (.ref q), some (.ref kl), none, none, none, none, none, none, none, none, none, none, none]) :: (c0, .cell none) :: (c1, .cell none) :: (c2, .cell none) :: (c3, .cell (some (.ref ol))) :: (ol, .list (dl.map .str)) :: (p, .list ((ks.map KR.n).map .str)) :: (q, .list (rRefs rs)) :: (kl, .list (kRefs ks)) :: M, (PL.m1_1 ([]) (.zero) rfl), ?_, ?_⟩
  · (rintro FF1 hF1 k a E K hk ⟨rfl, rfl⟩; refine PL.j1_1 ?_; rintro dl hdl rfl)
    have hdz : dl.length ≤ 8 := by have := hdl.facts.2.2; lia
    dsimp only [zipL, zipF, List.cons_append, List.nil_append]
    kpc_turns
    refine ⟨by decide, fun fr => ?_⟩
    kpc_turns
    refine SS.forH ?_
    kpc_turns
    refine CC.zip (by keq_rows) (by keq_rows) fun z TI TO i1 i2 => ?_
    refine iter_zip ?_
    refine ⟨((ks.map KR.n).map AV.str).length, _, _, _, _, _, (L, .ns nm_law_due [some (.ref p), some (.ref q), some (.ref kl), none, none, some (.ref fr), none, none, none, none, none, none, none, none]) :: (c0, .cell none) :: (c1, .cell none) :: (c2, .cell none) :: (c3, .cell (some (.ref ol))) :: (ol, .list (dl.map .str)) :: (fr, .list (([] : List Str).map .str)) :: (it3, .rangeiter (0 + ((k + 1 : Nat) : Int)) (((ks.map KR.n).length : Int) - ((k + 1 : Nat) : Int)) 1) :: (q, .list (rRefs rs)) :: M, walk_zip (G := G) (A := A') (z := z) (TI := TI) (TO := TO) (i1 := i1) (i2 := i2) (p := p) (q := kl) hr'.h hzl, (PL.m3_0 _ _ _ rfl), ?_, fun j K => K = (L, .ns nm_law_due [some (.ref p), some (.ref q), some (.ref kl), none, none, some (.ref fr), none, none, none, none, none, none, none, none]) :: (c0, .cell none) :: (c1, .cell none) :: (c2, .cell none) :: (c3, .cell (some (.ref ol))) :: (ol, .list (dl.map .str)) :: (fr, .list ((((ks.map KR.n).take j).filter (fun n => !dl.contains n && leftD (ks.map KR.n) (rRules rs) dl n == [])).map .str)) :: (it3, .rangeiter (0 + ((k + 1 : Nat) : Int)) (((ks.map KR.n).length : Int) - ((k + 1 : Nat) : Int)) 1) :: (q, .list (rRefs rs)) :: M, rfl, ?_, ?_⟩
    · show Sub (_ ++ ((L, .ns nm_law_due [some (.ref p), some (.ref q), some (.ref kl), none, none, some (.ref fr), none, none, none, none, none, none, none, none]) :: (c0, .cell none) :: (c1, .cell none) :: (c2, .cell none) :: (c3, .cell (some (.ref ol))) :: (ol, .list (dl.map .str)) :: (fr, .list []) :: (it3, .rangeiter (0 + ((k + 1 : Nat) : Int)) (((ks.map KR.n).length : Int) - ((k + 1 : Nat) : Int)) 1) :: (q, .list (rRefs rs)) :: M)) _
      dsimp only [zipL, zipF, List.cons_append, List.nil_append]
      tlg_ne
    · (rintro FF2 hF2 j _ E K hj; refine PL.j3_3 ?_; rintro xv yv T hxv hyv rfl rfl rfl)
      have hj2 : j < ks.length := by simpa using hj
      have hjk : ks[j]? = some ks[j] := List.getElem?_eq_getElem hj2
      rw [List.getElem?_map, List.getElem?_map, hjk] at hxv
      obtain rfl : AV.str ks[j].n = xv := by simpa using hxv
      rw [List.getElem?_map, hjk] at hyv
      obtain rfl : AV.ref ks[j].a = yv := by simpa using hyv
      generalize ks[j] = u at hjk
      have hum : u ∈ ks := List.mem_of_getElem? hjk
      have hnj : (ks.map KR.n)[j]? = some u.n := by rw [List.getElem?_map, hjk]; rfl
      have hua := hn u hum
      have hma := hmk u hum
      have hfz : (((ks.map KR.n).take j).filter (fun n => !dl.contains n && leftD (ks.map KR.n) (rRules rs) dl n == [])).length ≤ 8 := Nat.le_trans (List.length_filter_le _ _) (by rw [List.length_take]; lia)
      dsimp only [zipL, zipF, List.cons_append, List.nil_append]
      refine Asg.tup hr' (ts := [PySem.assign _ env, PySem.assign _ env]) (by keq_rows) ?_
      refine AIO.asg ?_
      kpc_turns
      refine AIO.asg ?_
      kpc_turns
      refine AIO.nil ?_
      refine BB.cons ?_
      refine SS.assignCompC hE (by kct_strs) ?_
      refine EE.listcomp (cn := [(Str.ofString ".0", .local), (Str.ofString "first", .local), (Str.ofString "second", .local), (Str.ofString "kind", .free)]) (cn' := [(Str.ofString ".0", .local), (Str.ofString "first", .local), (Str.ofString "second", .local), (Str.ofString "kind", .cell)]) (cl2 := [(Str.ofString "kind", c1)]) (ownk := []) (vals := [none, none, none, none]) hE ⟨rfl, rfl, rfl, rfl, rfl, by decide, by decide, (show ([Str.ofString "kind"] : List Str).Nodup by decide), by decide, rfl, rfl⟩ ?_
      kpc_turns
      refine iter_list (by keq_rows) fun it2 => ?_
      refine (PL.m7_4 rs.length _ _ _ _ _ ((L, .ns nm_law_due [some (.ref p), some (.ref q), some (.ref kl), none, none, some (.ref fr), none, none, none, none, none, none, none, none]) :: (c0, .cell none) :: (c1, .cell (some (.ref u.a))) :: (c2, .cell (some (.str u.n))) :: (c3, .cell (some (.ref ol))) :: (ol, .list (dl.map .str)) :: (fr, .list ((((ks.map KR.n).take j).filter (fun n => !dl.contains n && leftD (ks.map KR.n) (rRules rs) dl n == [])).map .str)) :: (it3, .rangeiter (0 + ((k + 1 : Nat) : Int)) (((ks.map KR.n).length : Int) - ((k + 1 : Nat) : Int)) 1) :: (z, .fields "zip" [.none, .bool false, .bool false, .ref TI, .ref TO]) :: (TO, .tuple (zto ((ks.map KR.n).map AV.str) (kRefs ks) (j + 1))) :: (i1, .listiter p (j + 1)) :: (i2, .listiter kl (j + 1)) :: (TI, .tuple [.ref i1, .ref i2]) :: (p, .list ((ks.map KR.n).map .str)) :: (kl, .list (kRefs ks)) :: M) (by
        have := walk_list (G := G) (A := A') (it := it2) (p := q) (xs := rRefs rs) hr'.h
        rw [List.length_map] at this
        exact this) trivial (by lia) (by dsimp only [zipL, zipF, List.cons_append, List.nil_append]; tlg_ne) (fun C acc own cenv hown hEc => ?_))
      obtain rfl : own = [] := by simpa using hown
      rw [List.nil_append] at hEc
      refine (PL.m1_2 (fun k2 xs K => xs = natsAV (((rs.take k2).filter fun r => kd u.n r.f).map RR.s) ∧ K = (L, .ns nm_law_due [some (.ref p), some (.ref q), some (.ref kl), none, none, some (.ref fr), none, none, none, none, none, none, none, none]) :: (c0, .cell none) :: (c1, .cell (some (.ref u.a))) :: (c2, .cell (some (.str u.n))) :: (c3, .cell (some (.ref ol))) :: (ol, .list (dl.map .str)) :: (fr, .list ((((ks.map KR.n).take j).filter (fun n => !dl.contains n && leftD (ks.map KR.n) (rRules rs) dl n == [])).map .str)) :: (it3, .rangeiter (0 + ((k + 1 : Nat) : Int)) (((ks.map KR.n).length : Int) - ((k + 1 : Nat) : Int)) 1) :: (z, .fields "zip" [.none, .bool false, .bool false, .ref TI, .ref TO]) :: (TO, .tuple (zto ((ks.map KR.n).map AV.str) (kRefs ks) (j + 1))) :: (i1, .listiter p (j + 1)) :: (i2, .listiter kl (j + 1)) :: (TI, .tuple [.ref i1, .ref i2]) :: (p, .list ((ks.map KR.n).map .str)) :: (kl, .list (kRefs ks)) :: M) (⟨rfl, rfl⟩) ?_ ?_)
      · rintro k2 xs x _ K hk2 ⟨hxk, rfl⟩ ⟨rfl, rfl⟩
        rw [List.getElem?_map, Option.map_eq_some_iff] at hxk
        (revert hxk; refine PL.j1_1 ?_; rintro r hxk rfl)
        have hrr := List.mem_of_getElem? hxk
        have hrm := hmr r hrr
        dsimp only [zipL, zipF, List.cons_append, List.nil_append]
        refine Asg.tupM hr' (ts := [PySem.assign _ cenv, PySem.assign _ cenv]) (by repeat (first | exact hrm | apply List.mem_cons_of_mem)) ?_
        refine AIO.asg ?_
        kpc_turns
        refine AIO.asg ?_
        kpc_turns
        refine AIO.nil ?_
        refine IT.one ?_
        kpc_turns
        refine SubOp.listM (by repeat (first | exact hma | apply List.mem_cons_of_mem)) ?_
        refine Get.natM (by repeat (first | exact hma | apply List.mem_cons_of_mem)) (by have := hrs r hrr; lia) (kd_get hua (hrs r hrr).1) ?_
        kpc_turns
        refine ⟨fun hb => ?_, fun hb => ?_⟩
        · kpc_turns
          refine CEnd.mk ⟨?_, rfl⟩ (by dsimp only [zipL, zipF, List.cons_append, List.nil_append]; tlg_ne)
          exact (nats_yes (p := fun r => kd u.n r.f) hxk hb).symm
        · refine CEnd.mk ⟨?_, rfl⟩ (by dsimp only [zipL, zipF, List.cons_append, List.nil_append]; tlg_ne)
          exact (nats_no (p := fun r => kd u.n r.f) hxk hb).symm
      · rintro xs K ⟨rfl, rfl⟩
        rw [List.take_length]
        dsimp only [zipL, zipF, List.cons_append, List.nil_append]
        kpc_turns
        generalize acc = wd
        have hwz : (wideK rs u.n).length ≤ 5 := by rw [List.length_map]; exact Nat.le_trans (List.length_filter_le _ _) hrl
        have hw8 : ∀ x ∈ wideK rs u.n, x < 8 := fun x hx => by
          (refine PL.x1_1 (List.mem_map.mp hx) ?_; rintro r hr rfl)
          exact (hrs r (List.mem_filter.mp hr).1).2
        refine SS.assignComp (cn := [(Str.ofString ".0", .local), (Str.ofString "other", .local), (Str.ofString "its", .cell), (Str.ofString "name", .free), (Str.ofString "order", .free), (Str.ofString "wide", .free)]) (cn' := [(Str.ofString ".0", .local), (Str.ofString "other", .local), (Str.ofString "its", .cell), (Str.ofString "name", .cell), (Str.ofString "order", .cell), (Str.ofString "wide", .cell)]) (cl2 := [(Str.ofString "wide", c0), (Str.ofString "order", c3), (Str.ofString "name", c2)]) (ownk := [Str.ofString "its"]) (vals := [none, none, none, none, none, none]) hE ⟨rfl, rfl, rfl, rfl, rfl, by decide, by decide, (show ([Str.ofString "its", Str.ofString "wide", Str.ofString "order", Str.ofString "name"] : List Str).Nodup by decide), by decide, rfl, rfl⟩ (by kct_strs) ?_
        kpc_turns
        refine CC.zip (by keq_rows) (by keq_rows) fun z2 TI2 TO2 i12 i22 => ?_
        refine iter_zip ?_
        refine (PL.m7_4 (((ks.map KR.n).map AV.str).length) _ _ _ _ _ ((L, .ns nm_law_due [some (.ref p), some (.ref q), some (.ref kl), none, none, some (.ref fr), none, none, none, none, none, none, none, none]) :: (c0, .cell (some (.ref wd))) :: (c1, .cell (some (.ref u.a))) :: (c2, .cell (some (.str u.n))) :: (c3, .cell (some (.ref ol))) :: (wd, .list (natsAV (wideK rs u.n))) :: (ol, .list (dl.map .str)) :: (fr, .list ((((ks.map KR.n).take j).filter (fun n => !dl.contains n && leftD (ks.map KR.n) (rRules rs) dl n == [])).map .str)) :: (it3, .rangeiter (0 + ((k + 1 : Nat) : Int)) (((ks.map KR.n).length : Int) - ((k + 1 : Nat) : Int)) 1) :: (z, .fields "zip" [.none, .bool false, .bool false, .ref TI, .ref TO]) :: (TO, .tuple (zto ((ks.map KR.n).map AV.str) (kRefs ks) (j + 1))) :: (i1, .listiter p (j + 1)) :: (i2, .listiter kl (j + 1)) :: (TI, .tuple [.ref i1, .ref i2]) :: (q, .list (rRefs rs)) :: M) (walk_zip (G := G) (A := A') (z := z2) (TI := TI2) (TO := TO2) (i1 := i12) (i2 := i22) (p := p) (q := kl) hr'.h hzl) ((PL.m3_0 _ _ _ rfl)) (by simp; lia) (by
          dsimp only [zipL, zipF, List.cons_append, List.nil_append]
          tlg_ne) (fun C acc own cenv hown hEc => ?_))
        obtain ⟨ci, rfl⟩ : ∃ ci, own = [(Str.ofString "its", ci)] := by
          match own, hown with
          | [(a, cg)], e => exact ⟨cg, by simp at e; rw [e]⟩
        rw [List.cons_append, List.nil_append] at hEc
        refine (PL.m1_2 (fun k3 xs K => ∃ cv, xs = (((ks.map KR.n).take k3).filter (fun o => !(dl ++ [u.n]).contains o && (wideK rs u.n).filter (fun k => kd o k) != [])).map .str ∧ K = (ci, .cell cv) :: (L, .ns nm_law_due [some (.ref p), some (.ref q), some (.ref kl), none, none, some (.ref fr), none, none, none, none, none, none, none, none]) :: (c0, .cell (some (.ref wd))) :: (c1, .cell (some (.ref u.a))) :: (c2, .cell (some (.str u.n))) :: (c3, .cell (some (.ref ol))) :: (wd, .list (natsAV (wideK rs u.n))) :: (ol, .list (dl.map .str)) :: (fr, .list ((((ks.map KR.n).take j).filter (fun n => !dl.contains n && leftD (ks.map KR.n) (rRules rs) dl n == [])).map .str)) :: (it3, .rangeiter (0 + ((k + 1 : Nat) : Int)) (((ks.map KR.n).length : Int) - ((k + 1 : Nat) : Int)) 1) :: (z, .fields "zip" [.none, .bool false, .bool false, .ref TI, .ref TO]) :: (TO, .tuple (zto ((ks.map KR.n).map AV.str) (kRefs ks) (j + 1))) :: (i1, .listiter p (j + 1)) :: (i2, .listiter kl (j + 1)) :: (TI, .tuple [.ref i1, .ref i2]) :: (q, .list (rRefs rs)) :: M) ((PL.m1_1 none rfl rfl)) ?_ ?_)
        · (rintro k3 xs _ E3 K hk3 ⟨xv, yv, T3, hxv, hyv, rfl, rfl⟩; refine PL.j1_1 ?_; rintro cv rfl rfl)
          have hk4 : k3 < ks.length := by simpa using hk3
          have hkk : ks[k3]? = some ks[k3] := List.getElem?_eq_getElem hk4
          rw [List.getElem?_map, List.getElem?_map, hkk] at hxv
          obtain rfl : AV.str ks[k3].n = xv := by simpa using hxv
          rw [List.getElem?_map, hkk] at hyv
          obtain rfl : AV.ref ks[k3].a = yv := by simpa using hyv
          generalize ks[k3] = w at hkk
          have hwm : w ∈ ks := List.mem_of_getElem? hkk
          have hnk : (ks.map KR.n)[k3]? = some w.n := by rw [List.getElem?_map, hkk]; rfl
          have hwa := hn w hwm
          have hmw := hmk w hwm
          dsimp only [zipL, zipF, List.cons_append, List.nil_append]
          refine Asg.tup hr' (ts := [PySem.assign _ cenv, PySem.assign _ cenv]) (by keq_rows) ?_
          refine AIO.asg ?_
          kpc_turns
          refine AIO.asg ?_
          kpc_turns
          refine AIO.nil ?_
          refine IT.one ?_
          kpc_turns
          refine ⟨by show 1 ≤ 1000; decide, fun o1 => ?_⟩
          refine Op2.ladd (by kas_types) (by kas_types) (by simp; lia) fun sr => ?_
          rewrite [show dl.map AV.str ++ [AV.str u.n] = (dl ++ [u.n]).map .str by rw [List.map_append]; rfl]
          refine Op2.notinStrsM (by kas_types) ?_
          kpc_turns
          refine ⟨fun hb1 => ?_, fun hb1 => ?_⟩
          · kpc_turns
            refine EE.listcomp (cn := [(Str.ofString ".0", .local), (Str.ofString "k", .local), (Str.ofString "its", .free)]) (cn' := [(Str.ofString ".0", .local), (Str.ofString "k", .local), (Str.ofString "its", .cell)]) (cl2 := [(Str.ofString "its", ci)]) (ownk := []) (vals := [none, none, none]) hEc ⟨rfl, rfl, rfl, rfl, rfl, by decide, by decide, (show ([Str.ofString "its"] : List Str).Nodup by decide), by decide, rfl, rfl⟩ ?_
            kpc_turns
            refine iter_list (by keq_rows) fun it5 => ?_
            refine (PL.m7_4 ((wideK rs u.n).length) _ _ _ _ _ ((C, .ns [(Str.ofString ".0", .local), (Str.ofString "other", .local), (Str.ofString "its", .cell), (Str.ofString "name", .cell), (Str.ofString "order", .cell), (Str.ofString "wide", .cell)] [none, some (.str w.n), none, none, none, none]) :: (acc, .list ((((ks.map KR.n).take k3).filter (fun o => !(dl ++ [u.n]).contains o && (wideK rs u.n).filter (fun k => kd o k) != [])).map .str)) :: (ci, .cell (some (.ref w.a))) :: (z2, .fields "zip" [.none, .bool false, .bool false, .ref TI2, .ref TO2]) :: (TO2, .tuple (zto ((ks.map KR.n).map AV.str) (kRefs ks) (k3 + 1))) :: (i12, .listiter p (k3 + 1)) :: (i22, .listiter kl (k3 + 1)) :: (TI2, .tuple [.ref i12, .ref i22]) :: (p, .list ((ks.map KR.n).map .str)) :: (kl, .list (kRefs ks)) :: (L, .ns nm_law_due [some (.ref p), some (.ref q), some (.ref kl), none, none, some (.ref fr), none, none, none, none, none, none, none, none]) :: (c0, .cell (some (.ref wd))) :: (c1, .cell (some (.ref u.a))) :: (c2, .cell (some (.str u.n))) :: (c3, .cell (some (.ref ol))) :: (ol, .list (dl.map .str)) :: (fr, .list ((((ks.map KR.n).take j).filter (fun n => !dl.contains n && leftD (ks.map KR.n) (rRules rs) dl n == [])).map .str)) :: (it3, .rangeiter (0 + ((k + 1 : Nat) : Int)) (((ks.map KR.n).length : Int) - ((k + 1 : Nat) : Int)) 1) :: (z, .fields "zip" [.none, .bool false, .bool false, .ref TI, .ref TO]) :: (TO, .tuple (zto ((ks.map KR.n).map AV.str) (kRefs ks) (j + 1))) :: (i1, .listiter p (j + 1)) :: (i2, .listiter kl (j + 1)) :: (TI, .tuple [.ref i1, .ref i2]) :: (q, .list (rRefs rs)) :: M) (by
              have := walk_list (G := G) (A := A') (it := it5) (p := wd) (xs := natsAV (wideK rs u.n)) hr'.h
              rw [show (natsAV (wideK rs u.n)).length = (wideK rs u.n).length from List.length_map _] at this
              exact this) trivial (by lia) (by dsimp only [zipL, zipF, List.cons_append, List.nil_append]; tlg_ne) (fun C2 acc2 own2 cenv2 hown2 hEc2 => ?_))
            obtain rfl : own2 = [] := by simpa using hown2
            rw [List.nil_append] at hEc2
            refine (PL.m1_2 (fun k5 xs K => xs = (((wideK rs u.n).take k5).filter fun x => kd w.n x).map (fun x : Nat => AV.int (x : Int)) ∧ K = (C, .ns [(Str.ofString ".0", .local), (Str.ofString "other", .local), (Str.ofString "its", .cell), (Str.ofString "name", .cell), (Str.ofString "order", .cell), (Str.ofString "wide", .cell)] [none, some (.str w.n), none, none, none, none]) :: (acc, .list ((((ks.map KR.n).take k3).filter (fun o => !(dl ++ [u.n]).contains o && (wideK rs u.n).filter (fun k => kd o k) != [])).map .str)) :: (ci, .cell (some (.ref w.a))) :: (z2, .fields "zip" [.none, .bool false, .bool false, .ref TI2, .ref TO2]) :: (TO2, .tuple (zto ((ks.map KR.n).map AV.str) (kRefs ks) (k3 + 1))) :: (i12, .listiter p (k3 + 1)) :: (i22, .listiter kl (k3 + 1)) :: (TI2, .tuple [.ref i12, .ref i22]) :: (p, .list ((ks.map KR.n).map .str)) :: (kl, .list (kRefs ks)) :: (L, .ns nm_law_due [some (.ref p), some (.ref q), some (.ref kl), none, none, some (.ref fr), none, none, none, none, none, none, none, none]) :: (c0, .cell (some (.ref wd))) :: (c1, .cell (some (.ref u.a))) :: (c2, .cell (some (.str u.n))) :: (c3, .cell (some (.ref ol))) :: (ol, .list (dl.map .str)) :: (fr, .list ((((ks.map KR.n).take j).filter (fun n => !dl.contains n && leftD (ks.map KR.n) (rRules rs) dl n == [])).map .str)) :: (it3, .rangeiter (0 + ((k + 1 : Nat) : Int)) (((ks.map KR.n).length : Int) - ((k + 1 : Nat) : Int)) 1) :: (z, .fields "zip" [.none, .bool false, .bool false, .ref TI, .ref TO]) :: (TO, .tuple (zto ((ks.map KR.n).map AV.str) (kRefs ks) (j + 1))) :: (i1, .listiter p (j + 1)) :: (i2, .listiter kl (j + 1)) :: (TI, .tuple [.ref i1, .ref i2]) :: (q, .list (rRefs rs)) :: M) (⟨rfl, rfl⟩) ?_ ?_)
            · rintro k5 xs x _ K hk5 ⟨hxk, rfl⟩ ⟨rfl, rfl⟩
              rw [show natsAV (wideK rs u.n) = (wideK rs u.n).map (fun x : Nat => AV.int (x : Int)) from rfl, List.getElem?_map, Option.map_eq_some_iff] at hxk
              (revert hxk; refine PL.j1_1 ?_; rintro x hxk rfl)
              have hx8 := hw8 x (List.mem_of_getElem? hxk)
              dsimp only [zipL, zipF, List.cons_append, List.nil_append]
              kpc_turns
              refine IT.one ?_
              kpc_turns
              refine SubOp.listM (by repeat (first | exact hmw | apply List.mem_cons_of_mem)) ?_
              refine Get.natM (by repeat (first | exact hmw | apply List.mem_cons_of_mem)) (by lia) (kd_get hwa hx8) ?_
              kpc_turns
              refine ⟨fun hb => ?_, fun hb => ?_⟩
              · kpc_turns
                refine CEnd.mk ⟨?_, rfl⟩ (by dsimp only [zipL, zipF, List.cons_append, List.nil_append]; tlg_ne)
                exact (filt_yes (p := fun x => kd w.n x) (fun x : Nat => AV.int (x : Int)) hxk hb).symm
              · refine CEnd.mk ⟨?_, rfl⟩ (by dsimp only [zipL, zipF, List.cons_append, List.nil_append]; tlg_ne)
                exact (filt_no (p := fun x => kd w.n x) (fun x : Nat => AV.int (x : Int)) hxk hb).symm
            · rintro xs K ⟨rfl, rfl⟩
              rw [List.take_length]
              dsimp only [zipL, zipF, List.cons_append, List.nil_append]
              kpc_turns
              refine ⟨by decide, fun em => ?_⟩
              refine Op2.neNil (es := (wideK rs u.n).filter fun x => kd w.n x) hr' (by kas_types) (by kas_types) ?_
              kpc_turns
              refine ⟨fun hb => ?_, fun hb => ?_⟩
              · kpc_turns
                refine brT (by decide) ?_
                kpc_turns
                refine CEnd.mk (PL.m1_1 _ ?_ rfl) (by dsimp only [zipL, zipF, List.cons_append, List.nil_append]; tlg_ne)
                exact (filt_yes (p := (fun o => !(dl ++ [u.n]).contains o && (wideK rs u.n).filter (fun k => kd o k) != [])) _ hnk (by rw [hb1, Bool.true_and]; simpa using hb)).symm
              · refine brF (by decide) ?_
                refine CEnd.mk (PL.m1_1 _ ?_ rfl) (by dsimp only [zipL, zipF, List.cons_append, List.nil_append]; tlg_ne)
                exact (filt_no (p := (fun o => !(dl ++ [u.n]).contains o && (wideK rs u.n).filter (fun k => kd o k) != [])) _ hnk (by rw [hb1, Bool.true_and]; simpa using hb)).symm
          · refine brF (by decide) ?_
            refine CEnd.mk (PL.m1_1 _ ?_ rfl) (by dsimp only [zipL, zipF, List.cons_append, List.nil_append]; tlg_ne)
            exact (filt_no (p := (fun o => !(dl ++ [u.n]).contains o && (wideK rs u.n).filter (fun k => kd o k) != [])) _ hnk (by rw [hb1, Bool.false_and])).symm
        · (rintro xs K; refine PL.j1_1 ?_; rintro cv rfl rfl)
          rw [show ((ks.map KR.n).map AV.str).length = (ks.map KR.n).length from List.length_map _, List.take_length, ← leftD_eq]
          have hlo : okS (leftD (ks.map KR.n) (rRules rs) dl u.n) = true := hokn _ fun s hs => (List.mem_filter.mp hs).1
          generalize acc = lf
          dsimp only [zipL, zipF, List.cons_append, List.nil_append]
          refine StC.loc hE (by keq_rows) (by kat_tups) ?_
          kpc_turns
          refine SS.if ?_
          kpc_turns
          refine Op2.notinStrsM (by kas_types) ?_
          kpc_turns
          refine ⟨fun hb1 => ?_, fun hb1 => ?_⟩
          · kpc_turns
            refine ⟨by decide, fun em => ?_⟩
            refine Op2.eqStrs (a := leftD (ks.map KR.n) (rRules rs) dl u.n) (b := []) hr' (by kas_types) (show (em, AO.list []) ∈ _ by kas_types) hlo rfl ?_
            kpc_turns
            refine ⟨fun hb => ?_, fun hb => ?_⟩
            · kpc_turns
              refine brT (by decide) ?_
              kpc_turns
              refine CC.append (by keq_rows) (by rw [List.length_map]; lia) ?_
              kpc_turns
              refine hF2.next (L := (L, .ns nm_law_due [some (.ref p), some (.ref q), some (.ref kl), none, none, some (.ref fr), none, none, none, none, none, none, none, none]) :: (c0, .cell none) :: (c1, .cell none) :: (c2, .cell none) :: (c3, .cell (some (.ref ol))) :: (ol, .list (dl.map .str)) :: (fr, .list ((((ks.map KR.n).take (j + 1)).filter (fun n => !dl.contains n && leftD (ks.map KR.n) (rRules rs) dl n == [])).map .str)) :: (it3, .rangeiter (0 + ((k + 1 : Nat) : Int)) (((ks.map KR.n).length : Int) - ((k + 1 : Nat) : Int)) 1) :: (q, .list (rRefs rs)) :: M) rfl ?_
              rewrite [filt_yes (p := (fun n => !dl.contains n && leftD (ks.map KR.n) (rRules rs) dl n == [])) AV.str hnj (by rw [hb1, Bool.true_and]; exact hb)]
              dsimp only [zipL, zipF, List.cons_append, List.nil_append]
              tlg_ne
            · refine brF (by decide) ?_
              kpc_turns
              refine hF2.next (L := (L, .ns nm_law_due [some (.ref p), some (.ref q), some (.ref kl), none, none, some (.ref fr), none, none, none, none, none, none, none, none]) :: (c0, .cell none) :: (c1, .cell none) :: (c2, .cell none) :: (c3, .cell (some (.ref ol))) :: (ol, .list (dl.map .str)) :: (fr, .list ((((ks.map KR.n).take (j + 1)).filter (fun n => !dl.contains n && leftD (ks.map KR.n) (rRules rs) dl n == [])).map .str)) :: (it3, .rangeiter (0 + ((k + 1 : Nat) : Int)) (((ks.map KR.n).length : Int) - ((k + 1 : Nat) : Int)) 1) :: (q, .list (rRefs rs)) :: M) rfl ?_
              rewrite [filt_no (p := (fun n => !dl.contains n && leftD (ks.map KR.n) (rRules rs) dl n == [])) AV.str hnj (by rw [hb1, Bool.true_and]; exact hb)]
              dsimp only [zipL, zipF, List.cons_append, List.nil_append]
              tlg_ne
          · refine brF (by decide) ?_
            kpc_turns
            refine hF2.next (L := (L, .ns nm_law_due [some (.ref p), some (.ref q), some (.ref kl), none, none, some (.ref fr), none, none, none, none, none, none, none, none]) :: (c0, .cell none) :: (c1, .cell none) :: (c2, .cell none) :: (c3, .cell (some (.ref ol))) :: (ol, .list (dl.map .str)) :: (fr, .list ((((ks.map KR.n).take (j + 1)).filter (fun n => !dl.contains n && leftD (ks.map KR.n) (rRules rs) dl n == [])).map .str)) :: (it3, .rangeiter (0 + ((k + 1 : Nat) : Int)) (((ks.map KR.n).length : Int) - ((k + 1 : Nat) : Int)) 1) :: (q, .list (rRefs rs)) :: M) rfl ?_
            rewrite [filt_no (p := (fun n => !dl.contains n && leftD (ks.map KR.n) (rRules rs) dl n == [])) AV.str hnj (by rw [hb1, Bool.false_and])]
            dsimp only [zipL, zipF, List.cons_append, List.nil_append]
            tlg_ne
    · rintro K rfl
      rw [show ((ks.map KR.n).map AV.str).length = (ks.map KR.n).length from List.length_map _, List.take_length]
      rewrite [show (ks.map KR.n).filter (fun n => !dl.contains n && leftD (ks.map KR.n) (rRules rs) dl n == []) = freeD (ks.map KR.n) (rRules rs) dl from rfl]
      have hfo : okS (freeD (ks.map KR.n) (rRules rs) dl) = true := hokn _ fun s hs => (List.mem_filter.mp hs).1
      dsimp only [zipL, zipF, List.cons_append, List.nil_append]
      kpc_turns
      refine SS.if ?_
      kpc_turns
      refine ⟨by decide, fun em => ?_⟩
      refine Op2.neStrs (a := freeD (ks.map KR.n) (rRules rs) dl) (b := []) hr' (by kas_types) (show (em, AO.list []) ∈ _ by kas_types) hfo rfl ?_
      kpc_turns
      refine ⟨fun hb => ?_, fun hb => ?_⟩
      · kpc_turns
        refine CC.min hr'.h (by kas_types) (by simpa using hb) fun m hm hmin => ?_
        kpc_turns
        refine CC.appends (by keq_rows) (by lia) ?_
        kpc_turns
        refine hF1.next (PL.m1_1 (dl ++ [m]) (.succ hdl (mem_free.mp hm) (fun b hb => hmin b (mem_free.mpr hb))) rfl) (by dsimp only [zipL, zipF, List.cons_append, List.nil_append]; tlg_ne)
      · have he : freeD (ks.map KR.n) (rRules rs) dl = [] := by simpa using hb
        kpc_turns
        refine hF1.next (PL.m1_1 dl (.stay hdl (fun b hb => by have := mem_free.mpr hb; rw [he] at this; cases this)) rfl) (by dsimp only [zipL, zipF, List.cons_append, List.nil_append]; tlg_ne)
  · (rintro K; refine PL.j1_1 ?_; rintro dl hdl rfl)
    have hdz : dl.length ≤ 8 := by have := hdl.facts.2.2; lia
    dsimp only [zipL, zipF, List.cons_append, List.nil_append]
    kpc_turns
    refine CC.lens (xs := dl) (by keq_rows) (by lia) ?_
    kpc_turns
    refine CC.lens (xs := (ks.map KR.n)) (by keq_rows) (by lia) ?_
    kpc_turns
    refine ⟨by show 2 ≤ 1000; decide, fun tp => ?_⟩
    kpc_turns
    rewrite [show decide ((dl.length : Int) < ((ks.map KR.n).length : Int)) = decide (dl.length < (ks.map KR.n).length) by rw [decide_eq_decide]; lia]
    refine (PL.m1_1 _ ?_ (h tp ol dl hdl))
    tlg_ne
end
section
variable {G : Gd} {A : Around} {l l' : Led} {X : Xp}
theorem law_b (hG : Ok G) (hg : GlobOk G gtab) {n : Nat} {env : Env} {L c0 p nl rl dk kl : Addr} {ep0 : Nat} {M : Led} {ks : List KR} {rs : List RR} {tks : List TK} (hE : EnvOk env nm_law L [(Str.ofString "k", c0)]) (hr' : Room A (n + 9))
    (hfrs : ∀ vs l, FrsIn A ((L, .ns nm_law vs) :: l)) (hn : (ks.map KR.n).Nodup) (ha : ∀ u ∈ ks, u.n ∈ allN) (hnl : ks.length ≤ 8) (hrl : rs.length ≤ 5) (hrs : ∀ q ∈ rs, q.f < 8 ∧ q.s < 8) (htk : TKok tks (rRules rs))
    (hmr : ∀ r ∈ rs, (r.a, AO.tuple [.int (r.f : Int), .int (r.s : Int)]) ∈ M) (hmt : ∀ t ∈ tks, (t.a, kList (ks.map KR.n) t.k) ∈ M) (hmk : ∀ u ∈ ks, (u.a, kAO u.n) ∈ M) :
    BB G A env ((bodyOf (fdAt G.w.params 254)).drop 4) ((L, .ns nm_law [some (.ref p), some (.ref nl), some (.ref rl), some (.ref dk), some (.ref kl), none, none, none, none, none, none]) :: (c0, .cell none) :: (177, .tab) :: (nl, .list ((ks.map KR.n).map .str)) :: (rl, .list (rRefs rs)) :: (dk, .idict (iKV tks) ep0) :: (kl, .list (kRefs ks)) :: M) (fun fl l₂ => fl = .ret (.bool true) ∧ (177, AO.tab) ∈ l₂) noX := by
  have hzl : ((ks.map KR.n).map AV.str).length = (kRefs ks).length := by simp
  have hnl2 : (ks.map KR.n).length ≤ 8 := by rw [List.length_map]; exact hnl
  have hokn : ∀ ss : List Str, (∀ s ∈ ss, s ∈ (ks.map KR.n)) → okS ss = true := fun ss hs => by
    unfold okS
    rw [List.all_eq_true]
    intro s hs'
    (refine PL.x1_1 (List.mem_map.mp (hs s hs')) ?_; rintro u hu rfl)
    exact (allN_ok (ha u hu)).1
  refine BB.cons ?_
  refine SS.forH ?_
  kpc_turns
  refine iter_idict (by keq_rows) fun it => ?_
  refine ⟨(iKV tks).length, _, _, _, _, _, (L, .ns nm_law [some (.ref p), some (.ref nl), some (.ref rl), some (.ref dk), some (.ref kl), none, none, none, none, none, none]) :: (c0, .cell none) :: (177, .tab) :: (nl, .list ((ks.map KR.n).map .str)) :: (rl, .list (rRefs rs)) :: (kl, .list (kRefs ks)) :: M, walk_keysI (G := G) (A := A) (it := it) (d := dk) (kvs := iKV tks) (ep := ep0) hr'.h, trivial, by dsimp only [List.cons_append, List.nil_append]; tlg_ne, fun j K => K = (L, .ns nm_law [some (.ref p), some (.ref nl), some (.ref rl), some (.ref dk), some (.ref kl), none, none, none, none, none, none]) :: (c0, .cell none) :: (177, .tab) :: (nl, .list ((ks.map KR.n).map .str)) :: (rl, .list (rRefs rs)) :: (kl, .list (kRefs ks)) :: M, rfl, ?_, ?_⟩
  · (rintro FF1 hF1 j _ _ K hj; refine PL.j2_2 ?_; rintro kk b hb rfl rfl rfl)
    rw [List.getElem?_map, Option.map_eq_some_iff] at hb
    (revert hb; refine PL.j1_1 ?_; rintro t htj e)
    have htm := List.mem_of_getElem? htj
    obtain ⟨rfl, rfl⟩ : (t.k : Int) = kk ∧ AV.ref t.a = b := by
      injection e with e1 e2
      exact ⟨e1, e2⟩
    have hmt1 := hmt t htm
    have hk8 := htk.lt t htm
    have hkv : ((t.k : Int), AV.ref t.a) ∈ iKV tks := List.mem_map.mpr (PL.m1_1 t htm rfl)
    dsimp only [List.cons_append, List.nil_append]
    kpc_turns
    refine SS.if ?_
    kpc_turns
    refine SubOp.idict (by keq_rows) ?_
    refine Get.idict (by keq_rows) hkv ?_
    kpc_turns
    refine EE.listcomp (cn := [(Str.ofString ".0", .local), (Str.ofString "name", .local), (Str.ofString "kind", .local), (Str.ofString "k", .free)]) (cn' := [(Str.ofString ".0", .local), (Str.ofString "name", .local), (Str.ofString "kind", .local), (Str.ofString "k", .cell)]) (cl2 := [(Str.ofString "k", c0)]) (ownk := []) (vals := [none, none, none, none]) hE ⟨rfl, rfl, rfl, rfl, rfl, by decide, by decide, (show ([Str.ofString "k"] : List Str).Nodup by decide), by decide, rfl, rfl⟩ ?_
    kpc_turns
    refine CC.zip (by keq_rows) (by keq_rows) fun z TI TO i1 i2 => ?_
    refine iter_zip ?_
    refine (PL.m7_4 (((ks.map KR.n).map AV.str).length) _ _ _ _ _ ((dk, .idict (iKV tks) ep0) :: (it, .keyiter dk (j + 1) (iKV tks).length ep0) :: (L, .ns nm_law [some (.ref p), some (.ref nl), some (.ref rl), some (.ref dk), some (.ref kl), none, none, none, none, none, none]) :: (c0, .cell (some (.int (t.k : Int)))) :: (177, .tab) :: (rl, .list (rRefs rs)) :: M) (walk_zip (G := G) (A := A) (z := z) (TI := TI) (TO := TO) (i1 := i1) (i2 := i2) (p := nl) (q := kl) hr'.h hzl) ((PL.m3_0 _ _ _ rfl)) (by simp; lia) (by
      dsimp only [zipL, zipF, List.cons_append, List.nil_append]
      tlg_ne) (fun C acc own cenv hown hEc => ?_))
    obtain rfl : own = [] := by simpa using hown
    rw [List.nil_append] at hEc
    refine (PL.m1_2 (fun k3 xs K => xs = (((ks.map KR.n).take k3).filter fun n => kd n t.k).map .str ∧ K = (dk, .idict (iKV tks) ep0) :: (it, .keyiter dk (j + 1) (iKV tks).length ep0) :: (L, .ns nm_law [some (.ref p), some (.ref nl), some (.ref rl), some (.ref dk), some (.ref kl), none, none, none, none, none, none]) :: (c0, .cell (some (.int (t.k : Int)))) :: (177, .tab) :: (rl, .list (rRefs rs)) :: M) (⟨rfl, rfl⟩) ?_ ?_)
    · (rintro k3 xs _ E3 K hk3; refine PL.j3_3 ?_; rintro xv yv T3 hxv hyv rfl rfl ⟨rfl, rfl⟩)
      have hk4 : k3 < ks.length := by simpa using hk3
      have hkk : ks[k3]? = some ks[k3] := List.getElem?_eq_getElem hk4
      rw [List.getElem?_map, List.getElem?_map, hkk] at hxv
      obtain rfl : AV.str ks[k3].n = xv := by simpa using hxv
      rw [List.getElem?_map, hkk] at hyv
      obtain rfl : AV.ref ks[k3].a = yv := by simpa using hyv
      generalize ks[k3] = w at hkk
      have hwm : w ∈ ks := List.mem_of_getElem? hkk
      have hnk : (ks.map KR.n)[k3]? = some w.n := by rw [List.getElem?_map, hkk]; rfl
      have hwa := ha w hwm
      have hmw := hmk w hwm
      dsimp only [zipL, zipF, List.cons_append, List.nil_append]
      refine Asg.tup hr' (ts := [PySem.assign _ cenv, PySem.assign _ cenv]) (by keq_rows) ?_
      refine AIO.asg ?_
      kpc_turns
      refine AIO.asg ?_
      kpc_turns
      refine AIO.nil ?_
      refine IT.one ?_
      kpc_turns
      refine SubOp.listM (by repeat (first | exact hmw | apply List.mem_cons_of_mem)) ?_
      refine Get.natM (by repeat (first | exact hmw | apply List.mem_cons_of_mem)) (by lia) (kd_get hwa hk8) ?_
      kpc_turns
      refine ⟨fun hb => ?_, fun hb => ?_⟩
      · kpc_turns
        refine CEnd.mk ⟨?_, rfl⟩ (by dsimp only [zipL, zipF, List.cons_append, List.nil_append]; tlg_ne)
        exact (filt_yes (p := fun n => kd n t.k) _ hnk hb).symm
      · refine CEnd.mk ⟨?_, rfl⟩ (by dsimp only [zipL, zipF, List.cons_append, List.nil_append]; tlg_ne)
        exact (filt_no (p := fun n => kd n t.k) _ hnk hb).symm
    · rintro xs K ⟨rfl, rfl⟩
      rw [show ((ks.map KR.n).map AV.str).length = (ks.map KR.n).length from List.length_map _, List.take_length]
      have hkl : okS ((ks.map KR.n).filter fun n => kd n t.k) = true := hokn _ fun s hs => (List.mem_filter.mp hs).1
      dsimp only [zipL, zipF, List.cons_append, List.nil_append]
      refine Op2.neStrs (a := (ks.map KR.n).filter fun n => kd n t.k) (b := (ks.map KR.n).filter fun n => kd n t.k) hr' (by repeat (first | exact hmt1 | apply List.mem_cons_of_mem)) (by kas_types) hkl hkl ?_
      kpc_turns
      refine brF (by simp) ?_
      kpc_turns
      refine hF1.next (L := (L, .ns nm_law [some (.ref p), some (.ref nl), some (.ref rl), some (.ref dk), some (.ref kl), none, none, none, none, none, none]) :: (c0, .cell none) :: (177, .tab) :: (nl, .list ((ks.map KR.n).map .str)) :: (rl, .list (rRefs rs)) :: (kl, .list (kRefs ks)) :: M) rfl (by dsimp only [zipL, zipF, List.cons_append, List.nil_append]; tlg_ne)
  · rintro K rfl
    dsimp only [List.cons_append, List.nil_append]
    kpc_turns
    refine CC.sub (l' := (nl, .list ((ks.map KR.n).map .str)) :: (rl, .list (rRefs rs)) :: (dk, .idict (iKV tks) ep0) :: ((L, .ns nm_law [some (.ref p), some (.ref nl), some (.ref rl), some (.ref dk), some (.ref kl), none, none, none, none, none, none]) :: (c0, .cell none) :: (177, .tab) :: (kl, .list (kRefs ks)) :: M)) (by tlg_ne) ?_
    refine cc_run hG hg hr' hn hnl2 hrl (hokn _ fun s hs => hs) (hfrs _ _) htk (fun r hr => ?_) (fun t ht => ?_) fun tp ol ord hD => ?_
    · exact .tail _ (.tail _ (.tail _ (.tail _ (hmr r hr))))
    · exact .tail _ (.tail _ (.tail _ (.tail _ (hmt t ht))))
    kpc_turns
    refine CC.sub (l' := (nl, .list ((ks.map KR.n).map .str)) :: (rl, .list (rRefs rs)) :: (kl, .list (kRefs ks)) :: ((tp, .tuple [.bool (decide (ord.length < (ks.map KR.n).length)), .ref ol]) :: (ol, .list (ord.map .str)) :: (L, .ns nm_law [some (.ref p), some (.ref nl), some (.ref rl), some (.ref dk), some (.ref kl), none, none, none, none, none, none]) :: (c0, .cell none) :: (177, .tab) :: M)) (by tlg_ne) ?_
    refine cc_due hG hg hr' hnl hrl hrs ha (fun r hr => ?_) (fun u hu => ?_) fun tq om ord2 hD2 => ?_
    · exact .tail _ (.tail _ (.tail _ (.tail _ (.tail _ (hmr r hr)))))
    · exact .tail _ (.tail _ (.tail _ (.tail _ (.tail _ (hmk u hu)))))
    obtain rfl := hD.unique hD2
    refine Op2.eqRun (t := decide (ord.length < (ks.map KR.n).length)) (ss := ord) hr' (by kas_types) (by kas_types) (by kas_types) (by kas_types) (hokn _ fun s hs => (hD.facts.2.1 s hs)) ?_
    kpc_turns
    exact ⟨rfl, by kas_types⟩
end
noncomputable abbrev kLed (ks : List KR) : Led := ks.map fun k => (k.a, kAO k.n)
noncomputable abbrev rulOf (x : Int) : Rule := ((x.fmod 8).toNat, ((x.fdiv 8).fmod 8).toNat)
theorem rul_lt (x : Int) : (rulOf x).1 < 8 ∧ (rulOf x).2 < 8 ∧ ((rulOf x).1 : Int) = x.fmod 8 ∧ ((rulOf x).2 : Int) = (x.fdiv 8).fmod 8 := by
  have h1 : 0 ≤ x.fmod 8 := Int.fmod_nonneg_of_pos _ (by decide)
  have h2 : x.fmod 8 < 8 := Int.fmod_lt_of_pos _ (by decide)
  have h3 : 0 ≤ (x.fdiv 8).fmod 8 := Int.fmod_nonneg_of_pos _ (by decide)
  have h4 : (x.fdiv 8).fmod 8 < 8 := Int.fmod_lt_of_pos _ (by decide)
  refine (PL.m0_3 ?_ ?_ ?_ ?_) <;> simp only [rulOf] <;> lia
section
variable {G : Gd} {A : Around} {l l' : Led} {X : Xp}
theorem law_a (hG : Ok G) (hg : GlobOk G gtab) {n : Nat} {env : Env} {L c0 p nl rl : Addr} {nms : List Str} {rs : List RR} (hE : EnvOk env nm_law L [(Str.ofString "k", c0)]) (hr' : Room A (n + 9))
    (hfrs : ∀ vs l, FrsIn A ((L, .ns nm_law vs) :: l)) (hn : nms.Nodup) (ha : ∀ u ∈ nms, u ∈ allN) (hnl : nms.length ≤ 8) (hrl : rs.length ≤ 5) (hrs : ∀ q ∈ rs, q.f < 8 ∧ q.s < 8) :
    BB G A env ((bodyOf (fdAt G.w.params 254)).drop 2) ((L, .ns nm_law [some (.ref p), some (.ref nl), some (.ref rl), none, none, none, none, none, none, none, none]) :: (c0, .cell none) :: (177, .tab) :: (nl, .list (nms.map .str)) :: (rl, .list (rRefs rs)) :: rLed rs) (fun fl l₂ => fl = .ret (.bool true) ∧ (177, AO.tab) ∈ l₂) noX := by
  refine BB.cons ?_
  kpc_turns
  refine CC.sub (l' := (177, .tab) :: (nl, .list (nms.map .str)) :: (rl, .list (rRefs rs)) :: (rLed rs ++ ((L, .ns nm_law [some (.ref p), some (.ref nl), some (.ref rl), none, none, none, none, none, none, none, none]) :: (c0, .cell none) :: []))) ?_ ?_
  · refine .trans (l' := (L, .ns nm_law [some (.ref p), some (.ref nl), some (.ref rl), none, none, none, none, none, none, none, none]) :: (c0, .cell none) :: (177, .tab) :: (nl, .list (nms.map .str)) :: (rl, .list (rRefs rs)) :: rLed rs) (.perm ?_) (.refl _)
    show (([(L, .ns nm_law [some (.ref p), some (.ref nl), some (.ref rl), none, none, none, none, none, none, none, none]), (c0, .cell none)] : Led) ++ (([(177, .tab), (nl, .list (nms.map .str)), (rl, .list (rRefs rs))] : Led) ++ rLed rs)).Perm ((([(177, .tab), (nl, .list (nms.map .str)), (rl, .list (rRefs rs))] : Led)) ++ (rLed rs ++ ([(L, .ns nm_law [some (.ref p), some (.ref nl), some (.ref rl), none, none, none, none, none, none, none, none]), (c0, .cell none)] : Led)))
    rw [← List.append_assoc ([(177, .tab), (nl, .list (nms.map .str)), (rl, .list (rRefs rs))] : Led)]
    exact List.perm_append_comm
  refine cc_tables hG hg hr' ha hnl hrl hrs fun dk ep0 tks htk => ?_
  refine StN.sub (l' := (L, .ns nm_law [some (.ref p), some (.ref nl), some (.ref rl), none, none, none, none, none, none, none, none]) :: (c0, .cell none) :: (177, .tab) :: (nl, .list (nms.map .str)) :: (rl, .list (rRefs rs)) :: (dk, .idict (iKV tks) ep0) :: (iLed nms tks ++ (rLed rs ++ []))) ?_ ?_
  · refine .perm ?_
    show (((dk, .idict (iKV tks) ep0)) :: (iLed nms tks ++ (([(177, .tab), (nl, .list (nms.map .str)), (rl, .list (rRefs rs))] : Led) ++ (rLed rs ++ ([(L, .ns nm_law [some (.ref p), some (.ref nl), some (.ref rl), none, none, none, none, none, none, none, none]), (c0, .cell none)] : Led))))).Perm (((L, .ns nm_law [some (.ref p), some (.ref nl), some (.ref rl), none, none, none, none, none, none, none, none])) :: ((c0, .cell none)) :: (([(177, .tab), (nl, .list (nms.map .str)), (rl, .list (rRefs rs))] : Led) ++ (((dk, .idict (iKV tks) ep0)) :: (iLed nms tks ++ (rLed rs ++ [])))))
    simp only [List.append_nil]
    exact perm_tab _ _ _ _ _ _
  kpc_turns
  refine SS.assignComp (cn := [(Str.ofString ".0", .local), (Str.ofString "name", .local), (Str.ofString "_law_kinds", .globalImplicit)]) (cn' := [(Str.ofString ".0", .local), (Str.ofString "name", .local), (Str.ofString "_law_kinds", .globalImplicit)]) (cl2 := []) (ownk := []) (vals := [none, none, none]) hE ⟨rfl, rfl, rfl, rfl, rfl, by decide, by decide, by decide, by decide, rfl, rfl⟩ (by kct_strs) ?_
  kpc_turns
  refine iter_list (by keq_rows) fun it => ?_
  refine (PL.m7_4 nms.length _ _ _ _ _ ((L, .ns nm_law [some (.ref p), some (.ref nl), some (.ref rl), some (.ref dk), none, none, none, none, none, none, none]) :: (c0, .cell none) :: (177, .tab) :: (rl, .list (rRefs rs)) :: (dk, .idict (iKV tks) ep0) :: (iLed nms tks ++ (rLed rs ++ []))) (by
    have := walk_list (G := G) (A := A) (it := it) (p := nl) (xs := nms.map .str) hr'.h
    rw [List.length_map] at this
    exact this) trivial (by lia) (by dsimp only [List.cons_append, List.nil_append]; tlg_ne) (fun C acc own cenv hown hEc => ?_))
  obtain rfl : own = [] := by simpa using hown
  rw [List.nil_append] at hEc
  refine (PL.m1_2 (fun k xs K => ∃ us : List KR, us.reverse.map KR.n = nms.take k ∧ xs = kRefs us.reverse ∧ K = (L, .ns nm_law [some (.ref p), some (.ref nl), some (.ref rl), some (.ref dk), none, none, none, none, none, none, none]) :: (c0, .cell none) :: (177, .tab) :: (rl, .list (rRefs rs)) :: (dk, .idict (iKV tks) ep0) :: (kLed us ++ (iLed nms tks ++ (rLed rs ++ [])))) ((PL.m1_2 ([]) rfl rfl rfl)) ?_ ?_)
  · (rintro k xs _ _ K hk ⟨hxk, rfl⟩; refine PL.j1_2 ?_; rintro us hus rfl rfl)
    rw [List.getElem?_map, Option.map_eq_some_iff] at hxk
    (revert hxk; refine PL.j1_1 ?_; rintro nm hxk rfl)
    have hna := ha nm (List.mem_of_getElem? hxk)
    dsimp only [List.cons_append, List.nil_append]
    kpc_turns
    refine IT.nil ?_
    refine brT (by decide) ?_
    kpc_turns
    refine cc_kinds hG hg hr' (by have := (allN_ok hna).2.1; lia) fun r => ?_
    refine CEnd.mk (K := (L, .ns nm_law [some (.ref p), some (.ref nl), some (.ref rl), some (.ref dk), none, none, none, none, none, none, none]) :: (c0, .cell none) :: (177, .tab) :: (rl, .list (rRefs rs)) :: (dk, .idict (iKV tks) ep0) :: (kLed (⟨r, nm⟩ :: us) ++ (iLed nms tks ++ (rLed rs ++ [])))) (PL.m1_2 (⟨r, nm⟩ :: us) ?_ ?_ rfl) ?_
    · rw [List.reverse_cons, List.map_append, hus, List.take_add_one, hxk]; rfl
    · rw [List.reverse_cons, show kRefs (us.reverse ++ [⟨r, nm⟩]) = kRefs us.reverse ++ kRefs [⟨r, nm⟩] from List.map_append]; rfl
    · show Sub (_ ++ (_ :: _ :: (L, .ns nm_law [some (.ref p), some (.ref nl), some (.ref rl), some (.ref dk), none, none, none, none, none, none, none]) :: (c0, .cell none) :: (177, .tab) :: (rl, .list (rRefs rs)) :: (dk, .idict (iKV tks) ep0) :: ((r, kAO nm) :: (kLed us ++ (iLed nms tks ++ (rLed rs ++ [])))))) _
      dsimp only [List.cons_append, List.nil_append]
      tlg_ne
  · (rintro xs K; refine PL.j1_2 ?_; rintro us hus rfl rfl)
    generalize acc = kl
    rw [List.take_of_length_le (Nat.le_refl _)] at hus
    subst hus
    dsimp only [List.cons_append, List.nil_append]
    refine StC.loc hE (by keq_rows) (by kat_tups) ?_
    refine Then.next (BB.sub (l' := (L, .ns nm_law [some (.ref p), some (.ref nl), some (.ref rl), some (.ref dk), some (.ref kl), none, none, none, none, none, none]) :: (c0, .cell none) :: (177, .tab) :: (nl, .list ((us.reverse.map KR.n).map .str)) :: (rl, .list (rRefs rs)) :: (dk, .idict (iKV tks) ep0) :: (kl, .list (kRefs us.reverse)) :: (kLed us ++ (iLed (us.reverse.map KR.n) tks ++ (rLed rs ++ [])))) (by tlg_ne) ?_)
    refine law_b hG hg hE hr' hfrs hn (fun u hu => ha _ (List.mem_map.mpr (PL.m1_1 u hu rfl))) (by simpa using hnl) hrl hrs htk (fun r hr => ?_) (fun t ht => ?_) fun u hu => ?_
    · exact List.mem_append_right _ (List.mem_append_right _ (List.mem_append_left _ (List.mem_map.mpr (PL.m1_1 r hr rfl))))
    · exact List.mem_append_right _ (List.mem_append_left _ (List.mem_map.mpr (PL.m1_1 t ht rfl)))
    · exact List.mem_append_left _ (List.mem_map.mpr (PL.m1_1 u (List.mem_reverse.mp hu) rfl))
theorem bb_law (hG : Ok G) (hg : GlobOk G gtab) {n : Nat} {env : Env} {L c0 p : Addr} {ns : List Int} (hE : EnvOk env nm_law L [(Str.ofString "k", c0)]) (hr' : Room A (n + 9))
    (hfrs : ∀ vs l, FrsIn A ((L, .ns nm_law vs) :: l)) (hk : KList G p ns) (hz : ns.length < 1000000) :
    BB G A env (bodyOf (fdAt G.w.params 254)) ((L, .ns nm_law [some (.ref p), none, none, none, none, none, none, none, none, none, none]) :: (c0, .cell none) :: (177, .tab) :: []) (fun fl l₂ => fl = .ret (.bool true) ∧ (177, AO.tab) ∈ l₂) noX := by
  obtain ⟨xs, hxs, hxl⟩ : ∃ xs : List Int, ns.take 3 = xs ∧ xs.length ≤ 3 := (PL.m1_1 _ rfl (by simp; lia))
  have hpu : pickAV (ns.map AV.int) none (some 3) = xs.map .int := by
    rw [show (3 : Int) = ((3 : Nat) : Int) from rfl, pickAV_upto, ← List.map_take, hxs]
  have hnm := names_all xs
  have hnz := names_len xs
  refine BB.cons ?_
  kpc_turns
  refine EE.slice ?_
  refine EPt.no ?_
  refine EPt.yes ?_
  kpc_turns
  intro sl
  refine SubOp.klist hk ?_
  refine Get.klistSlice hk (by keq_rows) .none .int hz fun sq => ?_
  rewrite [hpu]
  kpc_turns
  refine cc_names hG hg hr' hxl fun nl => ?_
  obtain ⟨nms, hnms⟩ : ∃ nms, nms = namesOf xs := ⟨_, rfl⟩
  rewrite [← hnms]
  rw [← hnms] at hnm hnz
  kpc_turns
  refine SS.assignComp (cn := [(Str.ofString ".0", .local), (Str.ofString "x", .local)]) (cn' := [(Str.ofString ".0", .local), (Str.ofString "x", .local)]) (cl2 := []) (ownk := []) (vals := [none, none]) hE ⟨rfl, rfl, rfl, rfl, rfl, by decide, by decide, by decide, by decide, rfl, rfl⟩ (by kct_strs) ?_
  kpc_turns
  refine ⟨by show 2 ≤ 1000; decide, fun zo => ?_⟩
  kpc_turns
  refine EE.slice ?_
  refine EPt.no ?_
  refine EPt.yes ?_
  kpc_turns
  intro sl2
  refine SubOp.klist hk ?_
  refine Get.klistSlice hk (by keq_rows) .none .int hz fun sq2 => ?_
  rewrite [hpu]
  refine Op2.ladd (by kas_types) (by kas_types) (by simp; lia) fun sr => ?_
  rewrite [show [AV.int 21, AV.int 11] ++ xs.map .int = ([21, 11] ++ xs).map .int from rfl]
  obtain ⟨zs, hzs, hzl⟩ : ∃ zs : List Int, [21, 11] ++ xs = zs ∧ zs.length ≤ 5 := (PL.m1_1 _ rfl (by simp; omega))
  rewrite [hzs]
  refine iter_list Pick.head fun it => ?_
  refine (PL.m7_4 zs.length _ _ _ _ _ ((L, .ns nm_law [some (.ref p), some (.ref nl), none, none, none, none, none, none, none, none, none]) :: (c0, .cell none) :: (177, .tab) :: (nl, .list (nms.map .str)) :: []) (by
    have := walk_list (G := G) (A := A) (it := it) (p := sr) (xs := zs.map .int) hr'.h
    rw [List.length_map] at this
    exact this) trivial (by lia) (by dsimp only [List.cons_append, List.nil_append]; tlg_ne) (fun C acc own cenv hown hEc => ?_))
  obtain rfl : own = [] := by simpa using hown
  rw [List.nil_append] at hEc
  refine (PL.m1_2 (fun k xs K => ∃ us : List RR, us.length = k ∧ (∀ u ∈ us, u.f < 8 ∧ u.s < 8) ∧ xs = rRefs us.reverse ∧ K = (L, .ns nm_law [some (.ref p), some (.ref nl), none, none, none, none, none, none, none, none, none]) :: (c0, .cell none) :: (177, .tab) :: (nl, .list (nms.map .str)) :: rLed us) ((PL.m1_3 ([]) rfl ((fun u hu => by cases hu)) rfl rfl)) ?_ ?_)
  · (rintro k xs _ _ K hk ⟨hxk, rfl⟩; refine PL.j1_3 ?_; rintro us hus hul rfl rfl)
    rw [List.getElem?_map, Option.map_eq_some_iff] at hxk
    (revert hxk; refine PL.j1_1 ?_; rintro x hxk rfl)
    (refine PL.x0_3 (rul_lt x) ?_; rintro r1 r2 r3 r4)
    dsimp only [List.cons_append, List.nil_append]
    kpc_turns
    refine IT.nil ?_
    refine brT (by decide) ?_
    kpc_turns
    refine Op2.mod (by decide) ?_
    kpc_turns
    refine Op2.fdiv (by decide) (by decide) ?_
    kpc_turns
    refine Op2.mod (by decide) ?_
    kpc_turns
    refine ⟨by show 2 ≤ 1000; decide, fun r => ?_⟩
    rewrite [← r3, ← r4]
    refine CEnd.mk (K := (L, .ns nm_law [some (.ref p), some (.ref nl), none, none, none, none, none, none, none, none, none]) :: (c0, .cell none) :: (177, .tab) :: (nl, .list (nms.map .str)) :: rLed (⟨r, (rulOf x).1, (rulOf x).2⟩ :: us)) (PL.m1_3 (⟨r, (rulOf x).1, (rulOf x).2⟩ :: us) ?_ ?_ ?_ rfl) ?_
    · rw [List.length_cons, hus]
    · intro u hu
      rcases List.mem_cons.mp hu with rfl | hu
      · exact ⟨r1, r2⟩
      · exact hul u hu
    · rw [List.reverse_cons, show rRefs (us.reverse ++ [⟨r, (rulOf x).1, (rulOf x).2⟩]) = rRefs us.reverse ++ rRefs [⟨r, (rulOf x).1, (rulOf x).2⟩] from List.map_append]; rfl
    · show Sub (_ ++ (_ :: _ :: (L, .ns nm_law [some (.ref p), some (.ref nl), none, none, none, none, none, none, none, none, none]) :: (c0, .cell none) :: (177, .tab) :: (nl, .list (nms.map .str)) :: ((r, AO.tuple [.int ((rulOf x).1 : Int), .int ((rulOf x).2 : Int)]) :: rLed us))) _
      dsimp only [List.cons_append, List.nil_append]
      tlg_ne
  · (rintro xs' K; refine PL.j1_3 ?_; rintro us hus hul rfl rfl)
    generalize acc = rl
    dsimp only [List.cons_append, List.nil_append]
    refine StC.loc hE (by keq_rows) (by kat_tups) ?_
    refine Then.next (BB.sub (l' := (L, .ns nm_law [some (.ref p), some (.ref nl), some (.ref rl), none, none, none, none, none, none, none, none]) :: (c0, .cell none) :: (177, .tab) :: (nl, .list (nms.map .str)) :: (rl, .list (rRefs us.reverse)) :: rLed us.reverse) ?_ ?_)
    · refine .trans (l' := (L, .ns nm_law [some (.ref p), some (.ref nl), some (.ref rl), none, none, none, none, none, none, none, none]) :: (c0, .cell none) :: (177, .tab) :: (nl, .list (nms.map .str)) :: (rl, .list (rRefs us.reverse)) :: rLed us) (.keep (.keep (.keep (.keep (.keep (.perm ?_)))))) (by tlg_ne)
      exact ((List.reverse_perm us).map _).symm
    refine law_a hG hg hE hr' hfrs hnm.1 hnm.2 (by lia) (by rw [List.length_reverse, hus]; exact hzl) fun q hq => hul q (List.mem_reverse.mp hq)
end
end PL
end
section
open PySem PySem.W PyProof.Rows PySem.Calls
set_option maxRecDepth 100000
set_option maxHeartbeats 0
namespace PL
theorem ok_of {p : Program} {loose : List Str} {mean : ExcName → Option Value} {mg mb : Str → Option Value} {G : Gd} (X : (KK G.w.params).In G.t) (T : Top p loose mean mg mb G.t) : Ok G := by
  refine ⟨X, T.nolimit, ⟨mg, mb, T.g, T.b, T.builtins⟩, mg, T.g, ?_⟩
  obtain ⟨bm, ob, h1, h2, h3, h4, h5, h6⟩ := T.bmain
  refine ⟨bm, ob, h1, h2, fun e => ?_, h3, h4, h5, h6⟩
  obtain ⟨o, es, ep, ho, r⟩ := T.g
  subst e
  rw [h3] at ho
  cases ho
  rw [h6] at r
  exact absurd r.1 (by simp)
theorem look_mem {y : Str} {k : NameKind} {b : AV} {ns : List (Str × NameKind)} {vs : List (Option AV)} (h : Look y k b ns vs) : some b ∈ vs := by
  induction h with
  | here => exact .head _
  | there _ ih => exact .tail _ ih
theorem nsIs_one {x : Str} {k : NameKind} {ns : List (Str × NameKind)} {a : AV} {m : Str → Option Value} {v : Value} (hm : m x = some v) (hv : a.Is v) {vs : List (Option AV)} (hn : ∀ o ∈ vs, o = none) : NsIs ((x, k) :: ns) (some a :: vs) m := by
  intro y k' b hl
  cases hl with
  | here => exact ⟨v, hm, hv⟩
  | there h => exact absurd (hn _ (look_mem h)) (by simp)
theorem allIs_ints : ∀ {vs : List Value} {ns : List Int}, IntsAre vs ns → AllIs (ns.map .int) vs
  | _, _, .nil => .nil
  | _, _, .cons _ _ h => .cons ⟨_, rfl⟩ (allIs_ints h)
theorem start_rep {G : Gd} {s : Shared} {L p : Addr} {m : Str → Option Value} {o0 : Obj} {v0 : Option Value} (F : Fr G.t L s.heap m) (N : News G.t L s.heap [(L + 1, o0), (177, tabObj #[])])
    (e0 : o0.data = .cell v0) (hm : m (Str.ofString "script") = some (.ref p)) (hL : 177 < L) (hg : s.gens = #[]) (ho : s.os = G.os) :
    Rep G s ((L, .ns nm_law [some (.ref p), none, none, none, none, none, none, none, none, none, none]) :: (L + 1, .cell none) :: (177, .tab) :: []) := by
  refine ⟨F.keep, ?_, fun q hq => ?_, hg, ho⟩
  · have h : ∀ L : Nat, 177 < L → ([L, L + 1, 177] : List Nat).Nodup := fun L hL => by
      simp only [List.nodup_cons, List.mem_cons, List.not_mem_nil, or_false, not_or, List.nodup_nil, and_true, not_false_iff]
      lia
    exact h L hL
  · simp only [List.mem_cons, List.not_mem_nil, or_false] at hq
    rcases hq with rfl | rfl | rfl
    · exact ⟨Heap.get?_none_of_le F.above, m, F.ns, nsIs_one (a := .ref p) hm rfl (by simp)⟩
    · obtain ⟨h1, _, h2⟩ := N _ (.head _)
      exact ⟨h2, v0, ⟨o0, h1, e0⟩, trivial⟩
    · obtain ⟨h1, _, h2⟩ := N _ (.tail _ (.head _))
      exact ⟨h2, #[], h1, trivial⟩
end PL
theorem PySem.Challenge.cw_ij0184_01_holds : PySem.Challenge.rw_ij0184_01.Holds := by
  refine HD.hd ?_
  k_go0
  rename_i w s₀ s₁ mg mb Gr Y fa o pm cd doc ho hcd hg X V T B TE TW ns hs hlay0 hL1 hr1 hl2 as8 as7 p vs as4 hL ra w1 r0 hI hr hc1 hc2 hD h₁ tk₁ o0 r0a X0 X' T' K' F' N' l0
  refine wpAny_mono (Q := fun f s' => f = .ret (.bool true) ∧ ∃ l', PL.Rep ⟨PySem.Challenge.rw_ij0184_01.row.prog, w, ghostOf s₁.heap [(181, 177)], s₁.os⟩ s' l' ∧ (177, PL.AO.tab) ∈ l') (E := fun _ _ => False) ?_ (fun f s' hf => ?_) (fun e s' he => he.elim)
  · have hG : PL.Ok ⟨PySem.Challenge.rw_ij0184_01.row.prog, w, ghostOf s₁.heap [(181, 177)], s₁.os⟩ := PL.ok_of X' T'
    have N0 := PL.start_rep (G := ⟨PySem.Challenge.rw_ij0184_01.row.prog, w, ghostOf s₁.heap [(181, 177)], s₁.os⟩) (s := { heap := h₁, gens := s₁.gens, drawn := s₁.drawn, toks := tk₁, os := s₁.os }) (p := p) F' N' r0a rfl l0 hg rfl
    refine wpAny_mono (PL.bb_law (G := ⟨PySem.Challenge.rw_ij0184_01.row.prog, w, ghostOf s₁.heap [(181, 177)], s₁.os⟩) (n := 0) (ns := ns) hG (PL.gtab_ok hG) ⟨rfl, rfl, by decide, rfl, rfl, (show ([Str.ofString "k"] : List Str).Nodup by decide), rfl, rfl, by decide⟩ ⟨rfl, (by show 1 + claimMargin + 1 + (0 + 9) < recursionLimit; decide), (by show 4 + 3 + 3 * (0 + 9) + 200 < cLine; decide)⟩ (fun vs l => ⟨[_], rfl, fun e he => ?_⟩) ⟨⟨vs.toArray, lifted, by simpa using PL.allIs_ints hI⟩⟩ (by lia) _ N0) (fun v s' hv => ?_) (fun e s' z => ?_)
    · simp only [List.mem_singleton] at he
      subst he
      exact ⟨(show ScopeKind.function ≠ ScopeKind.module by decide), _, _, _, rfl, .head _⟩
    · obtain ⟨b, l', hb, N, rfl, hm⟩ := hv
      obtain ⟨u, rfl, hu⟩ := hb
      cases hu
      exact ⟨rfl, l', N, hm⟩
    · obtain ⟨a, l', _, _, hx⟩ := z
      exact hx.elim
  · obtain ⟨rfl, l', N, hm⟩ := hf
    refine ⟨⟨.inl ⟨.bool true, .bool true, [], rfl, fun _ => rfl, ?_, ?_, fun _ => ⟨List.nodup_nil, fun a ha => by cases ha⟩⟩, N.keep, N.os, N.gens⟩, ?_, trivial⟩
    · exact .bool _
    · first
        | (with_unfolding_all rfl)
        | (show (WShape.has _ _ _ && WTm.holds _ _ _) = true; simp [WShape.has, WTm.holds, WTm.eval])
    · obtain ⟨ps, h1, _⟩ := N.atM hm
      exact ⟨ps, h1⟩
end
